import JvmDerived
import JvmDerived.Pilot.@@N@@Statement
import JvmDerived.Pilot.@@N@@Code
set_option linter.unusedVariables false
set_option linter.unusedSimpArgs false
namespace Jvm.Pilot.@@N@@
open Jvm Jvm.ClassFile Sem Op Lib Jvm.Free Jvm.Stand Jvm.LawKit Jvm.RoadKit Bundle Jvm.Pilot.@@N@@.Jvm.D
/-! ## own layer: a walk goal by goal, over a world of objects that the law made itself -/
abbrev Desc : Type := (String × List (String × String × Value)) ⊕ (List Int32 ⊕ List Int64)
abbrev Wld : Type := List (Addr × Desc)
def Is (Z : State) (h : Heap) (a : Addr) : Desc → Prop
  | .inl o => Exa Z h a o.1 ∧ (∀ f ∈ o.2, Fld Z h a o.1 f.1 f.2.1 f.2.2) ∧ (o.2.map fun f => Jvm.RoadKit.slotOf Z o.1 f.1 f.2.1).Nodup
  | .inr (.inl vs) => ∃ cl : Cell, Arr Z h a cl .int ∧ cl.slots = (vs.map Value.int).toArray ∧ vs.length < 2 ^ 31
  | .inr (.inr vs) => ∃ cl : Cell, Arr Z h a cl .long ∧ cl.slots = (vs.map Value.long).toArray ∧ vs.length < 2 ^ 31
def World (Z : State) (n0 : Nat) (h : Heap) (W : Wld) : Prop := n0 ≤ h.size ∧ (W.map fun q => q.1).Nodup ∧ ∀ q ∈ W, n0 ≤ q.1 ∧ Is Z h q.1 q.2
section OwnFacts
variable {Z : State} {h h' : Heap} {a b : Addr} {d : Desc} {n0 sl i : Nat} {v : Value} {W : Wld}
theorem own_nodup {α : Type} {xs : List α} (N : xs.Nodup) {i j : Nat} {x : α} (h1 : xs[i]? = some x) (h2 : xs[j]? = some x) : i = j := by
  have hi := (List.getElem?_eq_some_iff.mp h1).1
  exact (List.getElem?_inj hi N).mp (h1.trans h2.symm)
theorem own_set_map {α β : Type} (f : α → β) {xs : List α} {i : Nat} {x y : α} (h1 : xs[i]? = some x) (e : f y = f x) : (xs.set i y).map f = xs.map f := by
  apply List.ext_getElem?
  intro k
  rw [List.getElem?_map, List.getElem?_map, List.getElem?_set]
  by_cases q : i = k
  · subst q
    obtain ⟨hlt, hx⟩ := List.getElem?_eq_some_iff.mp h1
    simp [hlt, hx, e]
  · simp [q]
theorem own_mem_set {α : Type} {xs : List α} {i : Nat} {y z : α} (hz : z ∈ xs.set i y) : z = y ∨ ∃ k, k ≠ i ∧ xs[k]? = some z := by
  obtain ⟨k, hk⟩ := List.mem_iff_getElem?.mp hz
  rw [List.getElem?_set] at hk
  by_cases q : i = k
  · subst q
    by_cases l : i < xs.length
    · simp [l] at hk; exact Or.inl hk.symm
    · simp [l] at hk
  · simp only [q, if_false] at hk
    exact Or.inr ⟨k, fun e => q e.symm, hk⟩
theorem Is.lt : ∀ {d : Desc}, Is Z h a d → a < h.size
  | .inl _, I => I.1.lt
  | .inr (.inl _), I => by obtain ⟨_, A, _⟩ := I; exact A.lt
  | .inr (.inr _), I => by obtain ⟨_, A, _⟩ := I; exact A.lt
theorem Is.ext (E : Ext h h') : ∀ {d : Desc}, Is Z h a d → Is Z h' a d
  | .inl _, I => ⟨I.1.ext E, fun f hf => (I.2.1 f hf).ext E, I.2.2⟩
  | .inr (.inl _), I => by obtain ⟨c, A, r⟩ := I; exact ⟨c, A.ext E, r⟩
  | .inr (.inr _), I => by obtain ⟨c, A, r⟩ := I; exact ⟨c, A.ext E, r⟩
theorem Is.other (K : Wr h h' b sl v) (q : a ≠ b) : ∀ {d : Desc}, Is Z h a d → Is Z h' a d
  | .inl _, I => ⟨I.1.wr K, fun f hf => (I.2.1 f hf).other K (Or.inl q), I.2.2⟩
  | .inr (.inl _), I => by obtain ⟨c, A, r⟩ := I; exact ⟨c, A.other K q, r⟩
  | .inr (.inr _), I => by obtain ⟨c, A, r⟩ := I; exact ⟨c, A.other K q, r⟩
theorem Is.put {C n t : String} {fs : List (String × String × Value)} {old : Value} {j : Nat} (K : Wr h h' a (Jvm.RoadKit.slotOf Z C n t) v) (I : Is Z h a (.inl (C, fs))) (hj : fs[j]? = some (n, t, old)) : Is Z h' a (.inl (C, fs.set j (n, t, v))) := by
  obtain ⟨E, Fs, P⟩ := I
  refine ⟨E.wr K, fun f hf => ?_, ?_⟩
  · rcases own_mem_set hf with rfl | ⟨k, q, hk⟩
    · exact (Fs _ (List.mem_of_getElem? hj)).same K
    · refine (Fs f (List.mem_of_getElem? hk)).other K (Or.inr fun e => q ?_)
      have h1 : (fs.map fun f => Jvm.RoadKit.slotOf Z C f.1 f.2.1)[k]? = some (Jvm.RoadKit.slotOf Z C f.1 f.2.1) := by rw [List.getElem?_map, hk]; rfl
      have h2 : (fs.map fun f => Jvm.RoadKit.slotOf Z C f.1 f.2.1)[j]? = some (Jvm.RoadKit.slotOf Z C f.1 f.2.1) := by rw [List.getElem?_map, hj, e]; rfl
      exact own_nodup P h1 h2
  · have := own_set_map (fun f : String × String × Value => Jvm.RoadKit.slotOf Z C f.1 f.2.1) (y := (n, t, v)) hj rfl
    show (List.map (fun f : String × String × Value => Jvm.RoadKit.slotOf Z C f.1 f.2.1) (fs.set j (n, t, v))).Nodup
    rw [this]; exact P
theorem own_size {vs : List Int32} {cl : Cell} (e : cl.slots = (vs.map Value.int).toArray) : cl.slots.size = vs.length := by rw [e]; simp
theorem own_sizeL {vs : List Int64} {cl : Cell} (e : cl.slots = (vs.map Value.long).toArray) : cl.slots.size = vs.length := by rw [e]; simp
theorem Is.setI {vs : List Int32} {k : Nat} {x : Int32} (K : Wr h h' a k (.int x)) (I : Is Z h a (.inr (.inl vs))) : Is Z h' a (.inr (.inl (vs.set k x))) := by
  obtain ⟨c, A, e, hl⟩ := I
  refine ⟨_, A.same K, ?_, by simpa using hl⟩
  show c.slots.setIfInBounds k (.int x) = _
  rw [e]; simp [List.map_set]
theorem Is.setJ {vs : List Int64} {k : Nat} {x : Int64} (K : Wr h h' a k (.long x)) (I : Is Z h a (.inr (.inr vs))) : Is Z h' a (.inr (.inr (vs.set k x))) := by
  obtain ⟨c, A, e, hl⟩ := I
  refine ⟨_, A.same K, ?_, by simpa using hl⟩
  show c.slots.setIfInBounds k (.long x) = _
  rw [e]; simp [List.map_set]
theorem World.get (D : World Z n0 h W) (hi : W[i]? = some (a, d)) : n0 ≤ a ∧ Is Z h a d := D.2.2 _ (List.mem_of_getElem? hi)
theorem World.upd {d' : Desc} (D : World Z n0 h W) (hi : W[i]? = some (a, d)) (K : Wr h h' a sl v) (I : Is Z h' a d') : World Z n0 h' (W.set i (a, d')) := by
  refine ⟨by rw [K.size]; exact D.1, ?_, fun q hq => ?_⟩
  · rw [own_set_map (fun q : Addr × Desc => q.1) (y := (a, d')) hi rfl]; exact D.2.1
  · rcases own_mem_set hq with rfl | ⟨k, ne, hk⟩
    · exact ⟨(D.get hi).1, I⟩
    · have hq' := D.2.2 q (List.mem_of_getElem? hk)
      refine ⟨hq'.1, hq'.2.other K fun e => ne ?_⟩
      have h1 : (W.map fun q => q.1)[k]? = some q.1 := by rw [List.getElem?_map, hk]; rfl
      have h2 : (W.map fun q => q.1)[i]? = some q.1 := by rw [List.getElem?_map, hi, e]; rfl
      exact own_nodup D.2.1 h1 h2
theorem World.add {d : Desc} (D : World Z n0 h W) (E : Ext h h') (I : Is Z h' h.size d) : World Z n0 h' (W ++ [(h.size, d)]) := by
  refine ⟨Nat.le_trans D.1 E.1, ?_, fun q hq => ?_⟩
  · rw [List.map_append, List.nodup_append]
    refine ⟨D.2.1, by simp, fun x hx y hy e => ?_⟩
    obtain ⟨q, hq, rfl⟩ := List.mem_map.mp hx
    simp only [List.map_cons, List.map_nil, List.mem_singleton] at hy
    have hlt := (D.2.2 q hq).2.lt
    subst hy
    exact absurd e (Nat.ne_of_lt hlt)
  · rcases List.mem_append.mp hq with hq | hq
    · exact ⟨(D.2.2 q hq).1, (D.2.2 q hq).2.ext E⟩
    · cases List.mem_singleton.mp hq
      exact ⟨D.1, I⟩
theorem World.ne {i j : Nat} {a b : Addr} {d d' : Desc} (D : World Z n0 h W) (hi : W[i]? = some (a, d)) (hj : W[j]? = some (b, d')) (q : i ≠ j) : a ≠ b := fun e => q (by
  have h1 : (W.map fun q => q.1)[i]? = some a := by rw [List.getElem?_map, hi]; rfl
  have h2 : (W.map fun q => q.1)[j]? = some a := by rw [List.getElem?_map, hj, e]; rfl
  exact own_nodup D.2.1 h1 h2)
end OwnFacts
/-- the fields of a new object, at their first values -/
def Lay (Z : State) (a0 : Array Value) (C : String) (fs : List (String × String × Value)) : Prop := ∀ f ∈ fs, Laid Z a0 C C f.1 f.2.1 ∧ ∃ ty, parseFieldDescriptor f.2.1 = some ty ∧ f.2.2 = defaultValue ty
theorem lay_nil {Z : State} {a0 : Array Value} {C : String} : Lay Z a0 C [] := fun _ q => nomatch q
theorem lay_cons {Z : State} {a0 : Array Value} {C n t : String} {v : Value} {ty : FieldType} {fs : List (String × String × Value)} (L : Laid Z a0 C C n t) (ht : parseFieldDescriptor t = some ty) (hv : v = defaultValue ty) (r : Lay Z a0 C fs) : Lay Z a0 C ((n, t, v) :: fs) := fun f hf => by
  rcases List.mem_cons.mp hf with rfl | hf
  · exact ⟨L, ty, ht, hv⟩
  · exact r f hf
theorem Lay.slots {Z : State} {a0 : Array Value} {C : String} : ∀ {fs : List (String × String × Value)}, Lay Z a0 C fs → (fs.map fun f => f.1).Nodup → (fs.map fun f => Jvm.RoadKit.slotOf Z C f.1 f.2.1).Nodup
  | [], _, _ => by simp
  | f :: fs, L, N => by
    simp only [List.map_cons, List.nodup_cons] at N ⊢
    refine ⟨fun hm => ?_, Lay.slots (fun g hg => L g (List.mem_cons_of_mem _ hg)) N.2⟩
    obtain ⟨g, hg, e⟩ := List.mem_map.mp hm
    obtain ⟨L1, t1, p1, -⟩ := L f (List.mem_cons_self ..)
    obtain ⟨L2, t2, p2, -⟩ := L g (List.mem_cons_of_mem _ hg)
    exact slot_ne L2 L1 (fun q => N.1 (q ▸ List.mem_map.mpr ⟨g, hg, rfl⟩)) p2 p1 e
abbrev Dyn : Type := Program × Env × State × MethodId × Array Value × List Frame × Method × Code
def Done (Z : State) (n0 : Nat) (s : State) (R : Room) (F : Option Value → Wld → Prop) (s₂ : State) (o : Outcome) : Prop := ∃ v L, o = .returned v ∧ (Fr n0 L ∧ ∃ W', World Z n0 s₂.heap W' ∧ F v W') ∧ FrameEnd s o s₂ L R.cells R.slots
def Go (l : Launch) (Z : State) (n0 : Nat) (R : Room) (code : ByteArray) (maxL : Nat) (y : MethodName) (ret : Option FieldType) (D : Dyn) (W : Wld) (cells slots pc : Nat) (ls : Array Slot) (st : List Value) (F : Option Value → Wld → Prop) : Prop :=
  match D with
  | (p, e, s, m, args, below, meth, c) => p.tables.exec = Jvm.exec → Z.Warmed39 s.vm → c.code = code → c.maxLocals = maxL → s.vm.findClass y.cls = some m.cls → meth.name = y.name → meth.sig.returnType = ret → meth.locks = false →
    ∀ T locs, Stand p l e R s m args below meth c T locs cells slots → Fr n0 locs → World Z n0 T.heap W → ∃ s₂ o, Steps p.tables e below (T.setTop (mkF m pc ls st)) s₂ ∧ s₂.status = .running ∧ Ended s₂ below o ∧ Done Z n0 s R F s₂ o
def Meets (l : Launch) (Z : State) (n0 : Nat) (y : MethodName) (bytes : ByteArray) (maxL : Nat) (ret : Option FieldType) (rm : Room) (ws : List Jvm.Cond) (as : Array Value) (W : Wld) (F : Option Value → Wld → Prop) : Prop :=
  ∀ h0 : Heap, World Z n0 h0 W → MetFree l y (head1 (Jvm.Cond.code y bytes maxL ret :: ws) rm) (fun a U => a = as ∧ Z.Warmed39 U.vm ∧ U.heap = h0) (fun _ _ _ _ _ => True) (fun _ U o U' => ∃ v L, o = .returned v ∧ (Fr n0 L ∧ ∃ W', World Z n0 U'.heap W' ∧ F v W') ∧ FrameEnd U o U' L rm.cells rm.slots)
theorem Meets.of_go {l : Launch} {Z : State} {n0 : Nat} {y : MethodName} {bytes : ByteArray} {maxL : Nat} {ret : Option FieldType} {rm : Room} {ws : List Jvm.Cond} {as : Array Value} {W : Wld} {F : Option Value → Wld → Prop} {ls : Array Slot} (hpl : plainFor y = true)
    (ef : ∀ m, entryFrame m as maxL = mkF m 0 ls []) (k : ∀ D, Go l Z n0 rm bytes maxL y ret D W 0 0 0 ls [] F) : Meets l Z n0 y bytes maxL ret rm ws as W F := by
  intro h0 Wd
  refine MetFree.of_bodySF hpl hisR ?_
  intro p e s m args below meth c s₁ Bd hml0 hP hK
  obtain ⟨rfl, hZ, hh⟩ := hP
  have e0 : s₁.heap = h0 := by rw [← hh, Bd.state]; rfl
  obtain ⟨s₂, o, h1, h2, h3, h4⟩ := k (p, e, s, m, _, below, meth, c) Bd.exec hZ Bd.bytes hml0 (findClass_of_methodNamed Bd.named) (name_of_methodNamed Bd.named Bd.method).1 Bd.returns Bd.notSynchronized s₁ [] (Stand.of_body Bd) (Fr.nil n0) (e0 ▸ Wd)
  exact ⟨s₂, o, castTop (ef m) h1, h2, h3, h4⟩
theorem Meets.mono {l : Launch} {Z : State} {n0 : Nat} {y : MethodName} {bytes : ByteArray} {maxL : Nat} {ret : Option FieldType} {rm : Room} {ws : List Jvm.Cond} {as : Array Value} {W : Wld} {F G : Option Value → Wld → Prop} (M : Meets l Z n0 y bytes maxL ret rm ws as W F) (q : ∀ v W', F v W' → G v W') : Meets l Z n0 y bytes maxL ret rm ws as W G := by
  intro h0 Wd p e a1 a2 a3 s m args below b1 b2 b3 b4
  obtain ⟨n, o, c1, c2, c3, v, L, d1, ⟨d2, W', d3, d4⟩, d5⟩ := M h0 Wd p e a1 a2 a3 s m args below b1 b2 b3 b4
  exact ⟨n, o, c1, c2, c3, v, L, d1, ⟨d2, W', d3, q _ _ d4⟩, d5⟩
section OwnSteps
variable {l : Launch} {Z : State} {n0 : Nat} {R : Room} {code : ByteArray} {maxL : Nat} {y : MethodName} {ret : Option FieldType} {D : Dyn} {W : Wld} {cells slots pc pc' : Nat} {ls ls' : Array Slot} {stk stk' : List Value} {F : Option Value → Wld → Prop} {a0 : Array Value}
theorem Go.plain (st : ∀ (p : Program) (e : Env) (s : State) (m : MethodId) (args : Array Value) (below : List Frame) (meth : Method) (c : Code) (T : State) (locs : List Loc), p.tables.exec = Jvm.exec → Z.Warmed39 s.vm → c.code = code → s.vm.findClass y.cls = some m.cls → Stand p l e R s m args below meth c T locs cells slots → World Z n0 T.heap W →
      ∀ target, Steps p.tables e below (T.setTop (mkF m pc' ls' stk')) target → Steps p.tables e below (T.setTop (mkF m pc ls stk)) target)
    (k : Go l Z n0 R code maxL y ret D W cells slots pc' ls' stk' F) : Go l Z n0 R code maxL y ret D W cells slots pc ls stk F := by
  obtain ⟨p, e, s, m, args, below, meth, c⟩ := D
  intro hx hZ hby hml hown hnm hret hlk T locs X N Wd
  obtain ⟨s₂, o, h1, h2⟩ := k hx hZ hby hml hown hnm hret hlk T locs X N Wd
  exact ⟨s₂, o, st p e s m args below meth c T locs hx hZ hby hown X Wd _ h1, h2⟩
theorem Go.val {r : Value} {rest : List Value} (k : Go l Z n0 R code maxL y ret D W cells slots pc ls (r :: rest) F) : Go l Z n0 R code maxL y ret D W cells slots pc ls ((some r).toList ++ rest) F := k
theorem Go.nov {rest : List Value} (k : Go l Z n0 R code maxL y ret D W cells slots pc ls rest F) : Go l Z n0 R code maxL y ret D W cells slots pc ls ((none : Option Value).toList ++ rest) F := k
/-! plain steps -/
theorem Go.iload {k : Nat} {v : Int32} (hd : decode code pc = .ok (.iload k, 2)) (hl : ls[k]? = some (.val (.int v))) (hp : pc + 2 = pc') (k : Go l Z n0 R code maxL y ret D W cells slots pc' ls (.int v :: stk) F) : Go l Z n0 R code maxL y ret D W cells slots pc ls stk F := by
  subst hp; exact Go.plain (fun p e s m args below meth c T locs hx hZ hby hown X Wd target h => XS.iload X.here hx rfl (hb hby hd) hl h) k
theorem Go.iloadN {k : Fin 4} {v : Int32} (hd : decode code pc = .ok (.iload_n k, 1)) (hl : ls[k.val]? = some (.val (.int v))) (hp : pc + 1 = pc') (k : Go l Z n0 R code maxL y ret D W cells slots pc' ls (.int v :: stk) F) : Go l Z n0 R code maxL y ret D W cells slots pc ls stk F := by
  subst hp; exact Go.plain (fun p e s m args below meth c T locs hx hZ hby hown X Wd target h => XS.iloadN X.here hx rfl (hb hby hd) hl h) k
theorem Go.istore {k : Nat} {v : Int32} (hd : decode code pc = .ok (.istore k, 2)) (hl : storeLocals ls k (.int v) = some ls') (hp : pc + 2 = pc') (k : Go l Z n0 R code maxL y ret D W cells slots pc' ls' stk F) : Go l Z n0 R code maxL y ret D W cells slots pc ls (.int v :: stk) F := by
  subst hp; exact Go.plain (fun p e s m args below meth c T locs hx hZ hby hown X Wd target h => XS.istore X.here hx rfl (hb hby hd) rfl hl h) k
theorem Go.istoreN {k : Fin 4} {v : Int32} (hd : decode code pc = .ok (.istore_n k, 1)) (hl : storeLocals ls k.val (.int v) = some ls') (hp : pc + 1 = pc') (k : Go l Z n0 R code maxL y ret D W cells slots pc' ls' stk F) : Go l Z n0 R code maxL y ret D W cells slots pc ls (.int v :: stk) F := by
  subst hp; exact Go.plain (fun p e s m args below meth c T locs hx hZ hby hown X Wd target h => XS.istoreN X.here hx rfl (hb hby hd) rfl hl h) k
theorem Go.lload {k : Nat} {v : Int64} (hd : decode code pc = .ok (.lload k, 2)) (hl : ls[k]? = some (.val (.long v))) (hp : pc + 2 = pc') (k : Go l Z n0 R code maxL y ret D W cells slots pc' ls (.long v :: stk) F) : Go l Z n0 R code maxL y ret D W cells slots pc ls stk F := by
  subst hp; exact Go.plain (fun p e s m args below meth c T locs hx hZ hby hown X Wd target h => XT.lload X.here hx rfl (hb hby hd) hl h) k
theorem Go.lloadN {k : Fin 4} {v : Int64} (hd : decode code pc = .ok (.lload_n k, 1)) (hl : ls[k.val]? = some (.val (.long v))) (hp : pc + 1 = pc') (k : Go l Z n0 R code maxL y ret D W cells slots pc' ls (.long v :: stk) F) : Go l Z n0 R code maxL y ret D W cells slots pc ls stk F := by
  subst hp; exact Go.plain (fun p e s m args below meth c T locs hx hZ hby hown X Wd target h => XT.lloadN X.here hx rfl (hb hby hd) hl h) k
theorem Go.lstore {k : Nat} {v : Int64} (hd : decode code pc = .ok (.lstore k, 2)) (hl : storeLocals ls k (.long v) = some ls') (hp : pc + 2 = pc') (k : Go l Z n0 R code maxL y ret D W cells slots pc' ls' stk F) : Go l Z n0 R code maxL y ret D W cells slots pc ls (.long v :: stk) F := by
  subst hp; exact Go.plain (fun p e s m args below meth c T locs hx hZ hby hown X Wd target h => XT.lstore X.here hx rfl (hb hby hd) rfl hl h) k
theorem Go.lstoreN {k : Fin 4} {v : Int64} (hd : decode code pc = .ok (.lstore_n k, 1)) (hl : storeLocals ls k.val (.long v) = some ls') (hp : pc + 1 = pc') (k : Go l Z n0 R code maxL y ret D W cells slots pc' ls' stk F) : Go l Z n0 R code maxL y ret D W cells slots pc ls (.long v :: stk) F := by
  subst hp; exact Go.plain (fun p e s m args below meth c T locs hx hZ hby hown X Wd target h => XT.lstoreN X.here hx rfl (hb hby hd) rfl hl h) k
theorem Go.aload {k : Nat} {v : Value} (hd : decode code pc = .ok (.aload k, 2)) (hl : ls[k]? = some (.val v)) (hv : v.isRef = true) (hp : pc + 2 = pc') (k : Go l Z n0 R code maxL y ret D W cells slots pc' ls (v :: stk) F) : Go l Z n0 R code maxL y ret D W cells slots pc ls stk F := by
  subst hp; exact Go.plain (fun p e s m args below meth c T locs hx hZ hby hown X Wd target h => XS.aload X.here hx rfl (hb hby hd) hl hv h) k
theorem Go.aloadN {k : Fin 4} {v : Value} (hd : decode code pc = .ok (.aload_n k, 1)) (hl : ls[k.val]? = some (.val v)) (hv : v.isRef = true) (hp : pc + 1 = pc') (k : Go l Z n0 R code maxL y ret D W cells slots pc' ls (v :: stk) F) : Go l Z n0 R code maxL y ret D W cells slots pc ls stk F := by
  subst hp; exact Go.plain (fun p e s m args below meth c T locs hx hZ hby hown X Wd target h => XS.aloadN X.here hx rfl (hb hby hd) hl hv h) k
theorem Go.astore {k : Nat} {v : Value} (hd : decode code pc = .ok (.astore k, 2)) (hv : v.isRef = true) (hl : storeLocals ls k v = some ls') (hp : pc + 2 = pc') (k : Go l Z n0 R code maxL y ret D W cells slots pc' ls' stk F) : Go l Z n0 R code maxL y ret D W cells slots pc ls (v :: stk) F := by
  subst hp; exact Go.plain (fun p e s m args below meth c T locs hx hZ hby hown X Wd target h => XS.astore X.here hx rfl (hb hby hd) rfl hv hl h) k
theorem Go.astoreN {k : Fin 4} {v : Value} (hd : decode code pc = .ok (.astore_n k, 1)) (hv : v.isRef = true) (hl : storeLocals ls k.val v = some ls') (hp : pc + 1 = pc') (k : Go l Z n0 R code maxL y ret D W cells slots pc' ls' stk F) : Go l Z n0 R code maxL y ret D W cells slots pc ls (v :: stk) F := by
  subst hp; exact Go.plain (fun p e s m args below meth c T locs hx hZ hby hown X Wd target h => XS.astoreN X.here hx rfl (hb hby hd) rfl hv hl h) k
theorem Go.iconst {i : Int} {v : Int32} (hd : decode code pc = .ok (.iconst i, 1)) (hv : Int32.ofInt i = v) (hp : pc + 1 = pc') (k : Go l Z n0 R code maxL y ret D W cells slots pc' ls (.int v :: stk) F) : Go l Z n0 R code maxL y ret D W cells slots pc ls stk F := by
  subst hp hv; exact Go.plain (fun p e s m args below meth c T locs hx hZ hby hown X Wd target h => XS.iconst X.here hx rfl (hb hby hd) h) k
theorem Go.bipush {i : Int} {v : Int32} (hd : decode code pc = .ok (.bipush i, 2)) (hv : (Int8.ofInt i).toInt32 = v) (hp : pc + 2 = pc') (k : Go l Z n0 R code maxL y ret D W cells slots pc' ls (.int v :: stk) F) : Go l Z n0 R code maxL y ret D W cells slots pc ls stk F := by
  subst hp hv; exact Go.plain (fun p e s m args below meth c T locs hx hZ hby hown X Wd target h => XS.bipush X.here hx rfl (hb hby hd) h) k
theorem Go.sipush {i : Int} {v : Int32} (hd : decode code pc = .ok (.sipush i, 3)) (hv : (Int16.ofInt i).toInt32 = v) (hp : pc + 3 = pc') (k : Go l Z n0 R code maxL y ret D W cells slots pc' ls (.int v :: stk) F) : Go l Z n0 R code maxL y ret D W cells slots pc ls stk F := by
  subst hp hv; exact Go.plain (fun p e s m args below meth c T locs hx hZ hby hown X Wd target h => XS.sipush X.here hx rfl (hb hby hd) h) k
theorem Go.lconst {i : Fin 2} {v : Int64} (hd : decode code pc = .ok (.lconst i, 1)) (hv : Int64.ofNat i = v) (hp : pc + 1 = pc') (k : Go l Z n0 R code maxL y ret D W cells slots pc' ls (.long v :: stk) F) : Go l Z n0 R code maxL y ret D W cells slots pc ls stk F := by
  subst hp hv; exact Go.plain (fun p e s m args below meth c T locs hx hZ hby hown X Wd target h => XT.lconst X.here hx rfl (hb hby hd) h) k
theorem Go.aconstNull  (hd : decode code pc = .ok (.aconst_null, 1)) (hp : pc + 1 = pc') (k : Go l Z n0 R code maxL y ret D W cells slots pc' ls (.null :: stk) F) : Go l Z n0 R code maxL y ret D W cells slots pc ls stk F := by
  subst hp; exact Go.plain (fun p e s m args below meth c T locs hx hZ hby hown X Wd target h => XS.aconstNull X.here hx rfl (hb hby hd) h) k
theorem Go.iadd {u v : Int32} (hd : decode code pc = .ok (.iadd, 1)) (hp : pc + 1 = pc') (k : Go l Z n0 R code maxL y ret D W cells slots pc' ls (.int (u + v) :: stk) F) : Go l Z n0 R code maxL y ret D W cells slots pc ls (.int v :: .int u :: stk) F := by
  subst hp; exact Go.plain (fun p e s m args below meth c T locs hx hZ hby hown X Wd target h => XS.iadd X.here hx rfl (hb hby hd) rfl h) k
theorem Go.ladd {u v : Int64} (hd : decode code pc = .ok (.ladd, 1)) (hp : pc + 1 = pc') (k : Go l Z n0 R code maxL y ret D W cells slots pc' ls (.long (u + v) :: stk) F) : Go l Z n0 R code maxL y ret D W cells slots pc ls (.long v :: .long u :: stk) F := by
  subst hp; exact Go.plain (fun p e s m args below meth c T locs hx hZ hby hown X Wd target h => XT.ladd X.here hx rfl (hb hby hd) rfl h) k
theorem Go.isub {u v : Int32} (hd : decode code pc = .ok (.isub, 1)) (hp : pc + 1 = pc') (k : Go l Z n0 R code maxL y ret D W cells slots pc' ls (.int (u - v) :: stk) F) : Go l Z n0 R code maxL y ret D W cells slots pc ls (.int v :: .int u :: stk) F := by
  subst hp; exact Go.plain (fun p e s m args below meth c T locs hx hZ hby hown X Wd target h => XS.isub X.here hx rfl (hb hby hd) rfl h) k
theorem Go.lsub {u v : Int64} (hd : decode code pc = .ok (.lsub, 1)) (hp : pc + 1 = pc') (k : Go l Z n0 R code maxL y ret D W cells slots pc' ls (.long (u - v) :: stk) F) : Go l Z n0 R code maxL y ret D W cells slots pc ls (.long v :: .long u :: stk) F := by
  subst hp; exact Go.plain (fun p e s m args below meth c T locs hx hZ hby hown X Wd target h => XT.lsub X.here hx rfl (hb hby hd) rfl h) k
theorem Go.imul {u v : Int32} (hd : decode code pc = .ok (.imul, 1)) (hp : pc + 1 = pc') (k : Go l Z n0 R code maxL y ret D W cells slots pc' ls (.int (u * v) :: stk) F) : Go l Z n0 R code maxL y ret D W cells slots pc ls (.int v :: .int u :: stk) F := by
  subst hp; exact Go.plain (fun p e s m args below meth c T locs hx hZ hby hown X Wd target h => XS.imul X.here hx rfl (hb hby hd) rfl h) k
theorem Go.lmul {u v : Int64} (hd : decode code pc = .ok (.lmul, 1)) (hp : pc + 1 = pc') (k : Go l Z n0 R code maxL y ret D W cells slots pc' ls (.long (u * v) :: stk) F) : Go l Z n0 R code maxL y ret D W cells slots pc ls (.long v :: .long u :: stk) F := by
  subst hp; exact Go.plain (fun p e s m args below meth c T locs hx hZ hby hown X Wd target h => XT.lmul X.here hx rfl (hb hby hd) rfl h) k
theorem Go.iand {u v : Int32} (hd : decode code pc = .ok (.iand, 1)) (hp : pc + 1 = pc') (k : Go l Z n0 R code maxL y ret D W cells slots pc' ls (.int (u &&& v) :: stk) F) : Go l Z n0 R code maxL y ret D W cells slots pc ls (.int v :: .int u :: stk) F := by
  subst hp; exact Go.plain (fun p e s m args below meth c T locs hx hZ hby hown X Wd target h => XS.iand X.here hx rfl (hb hby hd) rfl h) k
theorem Go.land {u v : Int64} (hd : decode code pc = .ok (.land, 1)) (hp : pc + 1 = pc') (k : Go l Z n0 R code maxL y ret D W cells slots pc' ls (.long (u &&& v) :: stk) F) : Go l Z n0 R code maxL y ret D W cells slots pc ls (.long v :: .long u :: stk) F := by
  subst hp; exact Go.plain (fun p e s m args below meth c T locs hx hZ hby hown X Wd target h => XT.land X.here hx rfl (hb hby hd) rfl h) k
theorem Go.ior {u v : Int32} (hd : decode code pc = .ok (.ior, 1)) (hp : pc + 1 = pc') (k : Go l Z n0 R code maxL y ret D W cells slots pc' ls (.int (u ||| v) :: stk) F) : Go l Z n0 R code maxL y ret D W cells slots pc ls (.int v :: .int u :: stk) F := by
  subst hp; exact Go.plain (fun p e s m args below meth c T locs hx hZ hby hown X Wd target h => XT.ior X.here hx rfl (hb hby hd) rfl h) k
theorem Go.lor {u v : Int64} (hd : decode code pc = .ok (.lor, 1)) (hp : pc + 1 = pc') (k : Go l Z n0 R code maxL y ret D W cells slots pc' ls (.long (u ||| v) :: stk) F) : Go l Z n0 R code maxL y ret D W cells slots pc ls (.long v :: .long u :: stk) F := by
  subst hp; exact Go.plain (fun p e s m args below meth c T locs hx hZ hby hown X Wd target h => XT.lor X.here hx rfl (hb hby hd) rfl h) k
theorem Go.ixor {u v : Int32} (hd : decode code pc = .ok (.ixor, 1)) (hp : pc + 1 = pc') (k : Go l Z n0 R code maxL y ret D W cells slots pc' ls (.int (u ^^^ v) :: stk) F) : Go l Z n0 R code maxL y ret D W cells slots pc ls (.int v :: .int u :: stk) F := by
  subst hp; exact Go.plain (fun p e s m args below meth c T locs hx hZ hby hown X Wd target h => XT.ixor X.here hx rfl (hb hby hd) rfl h) k
theorem Go.lxor {u v : Int64} (hd : decode code pc = .ok (.lxor, 1)) (hp : pc + 1 = pc') (k : Go l Z n0 R code maxL y ret D W cells slots pc' ls (.long (u ^^^ v) :: stk) F) : Go l Z n0 R code maxL y ret D W cells slots pc ls (.long v :: .long u :: stk) F := by
  subst hp; exact Go.plain (fun p e s m args below meth c T locs hx hZ hby hown X Wd target h => XT.lxor X.here hx rfl (hb hby hd) rfl h) k
theorem Go.ishl {u v : Int32} (hd : decode code pc = .ok (.ishl, 1)) (hp : pc + 1 = pc') (k : Go l Z n0 R code maxL y ret D W cells slots pc' ls (.int (u <<< (v &&& 31)) :: stk) F) : Go l Z n0 R code maxL y ret D W cells slots pc ls (.int v :: .int u :: stk) F := by
  subst hp; exact Go.plain (fun p e s m args below meth c T locs hx hZ hby hown X Wd target h => XT.ishl X.here hx rfl (hb hby hd) rfl h) k
theorem Go.ishr {u v : Int32} (hd : decode code pc = .ok (.ishr, 1)) (hp : pc + 1 = pc') (k : Go l Z n0 R code maxL y ret D W cells slots pc' ls (.int (u >>> (v &&& 31)) :: stk) F) : Go l Z n0 R code maxL y ret D W cells slots pc ls (.int v :: .int u :: stk) F := by
  subst hp; exact Go.plain (fun p e s m args below meth c T locs hx hZ hby hown X Wd target h => XT.ishr X.here hx rfl (hb hby hd) rfl h) k
theorem Go.iushr {u v : Int32} (hd : decode code pc = .ok (.iushr, 1)) (hp : pc + 1 = pc') (k : Go l Z n0 R code maxL y ret D W cells slots pc' ls (.int (XT.ushr u v) :: stk) F) : Go l Z n0 R code maxL y ret D W cells slots pc ls (.int v :: .int u :: stk) F := by
  subst hp; exact Go.plain (fun p e s m args below meth c T locs hx hZ hby hown X Wd target h => XT.iushr X.here hx rfl (hb hby hd) rfl h) k
theorem Go.lushr {u : Int64} {v : Int32} (hd : decode code pc = .ok (.lushr, 1)) (hp : pc + 1 = pc') (k : Go l Z n0 R code maxL y ret D W cells slots pc' ls (.long (XT.ushrL u v) :: stk) F) : Go l Z n0 R code maxL y ret D W cells slots pc ls (.int v :: .long u :: stk) F := by
  subst hp; exact Go.plain (fun p e s m args below meth c T locs hx hZ hby hown X Wd target h => XT.lushr X.here hx rfl (hb hby hd) rfl h) k
theorem Go.lshl {u : Int64} {v : Int32} (hd : decode code pc = .ok (.lshl, 1)) (hp : pc + 1 = pc') (k : Go l Z n0 R code maxL y ret D W cells slots pc' ls (.long (u <<< (v.toInt64 &&& 63)) :: stk) F) : Go l Z n0 R code maxL y ret D W cells slots pc ls (.int v :: .long u :: stk) F := by
  subst hp; exact Go.plain (fun p e s m args below meth c T locs hx hZ hby hown X Wd target h => XT.lshl X.here hx rfl (hb hby hd) rfl h) k
theorem Go.idiv {u v : Int32} (hd : decode code pc = .ok (.idiv, 1)) (hz : v ≠ 0) (hp : pc + 1 = pc') (k : Go l Z n0 R code maxL y ret D W cells slots pc' ls (.int (u / v) :: stk) F) : Go l Z n0 R code maxL y ret D W cells slots pc ls (.int v :: .int u :: stk) F := by
  subst hp; exact Go.plain (fun p e s m args below meth c T locs hx hZ hby hown X Wd target h => XS.idiv X.here hx rfl (hb hby hd) rfl hz h) k
theorem Go.irem {u v : Int32} (hd : decode code pc = .ok (.irem, 1)) (hz : v ≠ 0) (hp : pc + 1 = pc') (k : Go l Z n0 R code maxL y ret D W cells slots pc' ls (.int (u % v) :: stk) F) : Go l Z n0 R code maxL y ret D W cells slots pc ls (.int v :: .int u :: stk) F := by
  subst hp; exact Go.plain (fun p e s m args below meth c T locs hx hZ hby hown X Wd target h => iremM X hx rfl (hb hby hd) rfl hz h) k
theorem Go.ineg {u : Int32} (hd : decode code pc = .ok (.ineg, 1)) (hp : pc + 1 = pc') (k : Go l Z n0 R code maxL y ret D W cells slots pc' ls (.int (-u) :: stk) F) : Go l Z n0 R code maxL y ret D W cells slots pc ls (.int u :: stk) F := by
  subst hp; exact Go.plain (fun p e s m args below meth c T locs hx hZ hby hown X Wd target h => XS.ineg X.here hx rfl (hb hby hd) rfl h) k
theorem Go.lcmp {u v : Int64} (hd : decode code pc = .ok (.lcmp, 1)) (hp : pc + 1 = pc') (k : Go l Z n0 R code maxL y ret D W cells slots pc' ls (.int (XT.cmpL u v) :: stk) F) : Go l Z n0 R code maxL y ret D W cells slots pc ls (.long v :: .long u :: stk) F := by
  subst hp; exact Go.plain (fun p e s m args below meth c T locs hx hZ hby hown X Wd target h => XT.lcmp X.here hx rfl (hb hby hd) rfl h) k
theorem Go.i2l {u : Int32} (hd : decode code pc = .ok (.i2l, 1)) (hp : pc + 1 = pc') (k : Go l Z n0 R code maxL y ret D W cells slots pc' ls (.long u.toInt64 :: stk) F) : Go l Z n0 R code maxL y ret D W cells slots pc ls (.int u :: stk) F := by
  subst hp; exact Go.plain (fun p e s m args below meth c T locs hx hZ hby hown X Wd target h => XT.i2l X.here hx rfl (hb hby hd) rfl h) k
theorem Go.l2i {u : Int64} (hd : decode code pc = .ok (.l2i, 1)) (hp : pc + 1 = pc') (k : Go l Z n0 R code maxL y ret D W cells slots pc' ls (.int u.toInt32 :: stk) F) : Go l Z n0 R code maxL y ret D W cells slots pc ls (.long u :: stk) F := by
  subst hp; exact Go.plain (fun p e s m args below meth c T locs hx hZ hby hown X Wd target h => XT.l2i X.here hx rfl (hb hby hd) rfl h) k
theorem Go.i2c {u : Int32} (hd : decode code pc = .ok (.i2c, 1)) (hp : pc + 1 = pc') (k : Go l Z n0 R code maxL y ret D W cells slots pc' ls (.int u.toUInt32.toUInt16.toUInt32.toInt32 :: stk) F) : Go l Z n0 R code maxL y ret D W cells slots pc ls (.int u :: stk) F := by
  subst hp; exact Go.plain (fun p e s m args below meth c T locs hx hZ hby hown X Wd target h => XT.i2c X.here hx rfl (hb hby hd) rfl h) k
theorem Go.i2b {u : Int32} (hd : decode code pc = .ok (.i2b, 1)) (hp : pc + 1 = pc') (k : Go l Z n0 R code maxL y ret D W cells slots pc' ls (.int u.toInt8.toInt32 :: stk) F) : Go l Z n0 R code maxL y ret D W cells slots pc ls (.int u :: stk) F := by
  subst hp; exact Go.plain (fun p e s m args below meth c T locs hx hZ hby hown X Wd target h => XT.i2b X.here hx rfl (hb hby hd) rfl h) k
theorem Go.dup {u : Value} (hd : decode code pc = .ok (.dup, 1)) (hc : u.category = 1) (hp : pc + 1 = pc') (k : Go l Z n0 R code maxL y ret D W cells slots pc' ls (u :: u :: stk) F) : Go l Z n0 R code maxL y ret D W cells slots pc ls (u :: stk) F := by
  subst hp; exact Go.plain (fun p e s m args below meth c T locs hx hZ hby hown X Wd target h => XS.dup X.here hx rfl (hb hby hd) rfl hc h) k
theorem Go.pop {u : Value} (hd : decode code pc = .ok (.pop, 1)) (hc : u.category = 1) (hp : pc + 1 = pc') (k : Go l Z n0 R code maxL y ret D W cells slots pc' ls stk F) : Go l Z n0 R code maxL y ret D W cells slots pc ls (u :: stk) F := by
  subst hp; exact Go.plain (fun p e s m args below meth c T locs hx hZ hby hown X Wd target h => XT.pop X.here hx rfl (hb hby hd) rfl hc h) k
theorem Go.dupX1 {u v : Value} (hd : decode code pc = .ok (.dup_x1, 1)) (hc : u.category = 1) (hc' : v.category = 1) (hp : pc + 1 = pc') (k : Go l Z n0 R code maxL y ret D W cells slots pc' ls (u :: v :: u :: stk) F) : Go l Z n0 R code maxL y ret D W cells slots pc ls (u :: v :: stk) F := by
  subst hp; exact Go.plain (fun p e s m args below meth c T locs hx hZ hby hown X Wd target h => XT.dupX1 X.here hx rfl (hb hby hd) rfl hc hc' h) k
theorem Go.dup2 {u v : Value} (hd : decode code pc = .ok (.dup2, 1)) (hc : u.category = 1) (hc' : v.category = 1) (hp : pc + 1 = pc') (k : Go l Z n0 R code maxL y ret D W cells slots pc' ls (u :: v :: u :: v :: stk) F) : Go l Z n0 R code maxL y ret D W cells slots pc ls (u :: v :: stk) F := by
  subst hp; exact Go.plain (fun p e s m args below meth c T locs hx hZ hby hown X Wd target h => XT.dup2 X.here hx rfl (hb hby hd) rfl hc hc' h) k
theorem Go.iinc {k : Nat} {i : Int} {x z : Int32} (hd : decode code pc = .ok (.iinc k i, 3)) (hl : ls[k]? = some (.val (.int x))) (hi : Int32.ofInt i = z) (hl' : storeLocals ls k (.int (x + z)) = some ls') (hp : pc + 3 = pc') (k : Go l Z n0 R code maxL y ret D W cells slots pc' ls' stk F) : Go l Z n0 R code maxL y ret D W cells slots pc ls stk F := by
  subst hp hi; exact Go.plain (fun p e s m args below meth c T locs hx hZ hby hown X Wd target h => XS.iinc X.here hx rfl (hb hby hd) hl hl' h) k
theorem Go.goto {o : Int} (hd : decode code pc = .ok (.goto o, 3)) (ho : 0 ≤ (pc : Int) + o) (hp : ((pc : Int) + o).toNat = pc') (k : Go l Z n0 R code maxL y ret D W cells slots pc' ls stk F) : Go l Z n0 R code maxL y ret D W cells slots pc ls stk F :=
  Go.plain (fun p e s m args below meth c T locs hx hZ hby hown X Wd target h => XS.goto X.here hx rfl rfl (hb hby hd) ho hp h) k
theorem Go.if_lt {o : Int} {u : Int32} {pcY pcN : Nat} (hd : decode code pc = .ok (.ifCond .lt o, 3)) (ho : 0 ≤ (pc : Int) + o) (hp : ((pc : Int) + o).toNat = pcY) (hq : pc + 3 = pcN) (ky : u < (0 : Int32) → Go l Z n0 R code maxL y ret D W cells slots pcY ls stk F) (kn : ¬ u < (0 : Int32) → Go l Z n0 R code maxL y ret D W cells slots pcN ls stk F) : Go l Z n0 R code maxL y ret D W cells slots pc ls (.int u :: stk) F := by
  subst hq
  by_cases q : u < (0 : Int32)
  · exact Go.plain (fun p e s m args below meth c T locs hx hZ hby hown X Wd target h => XS.ifYes X.here hx rfl rfl (hb hby hd) rfl ((if0 _ _).trans (tlt q).1) ho hp h) (ky q)
  · exact Go.plain (fun p e s m args below meth c T locs hx hZ hby hown X Wd target h => XS.ifNo X.here hx rfl (hb hby hd) rfl ((if0 _ _).trans (flt q).1) h) (kn q)
theorem Go.icmp_lt {o : Int} {u v : Int32} {pcY pcN : Nat} (hd : decode code pc = .ok (.if_icmp .lt o, 3)) (ho : 0 ≤ (pc : Int) + o) (hp : ((pc : Int) + o).toNat = pcY) (hq : pc + 3 = pcN) (ky : u < v → Go l Z n0 R code maxL y ret D W cells slots pcY ls stk F) (kn : ¬ u < v → Go l Z n0 R code maxL y ret D W cells slots pcN ls stk F) : Go l Z n0 R code maxL y ret D W cells slots pc ls (.int v :: .int u :: stk) F := by
  subst hq
  by_cases q : u < v
  · exact Go.plain (fun p e s m args below meth c T locs hx hZ hby hown X Wd target h => XS.icmpYes X.here hx rfl rfl (hb hby hd) rfl (tlt q).1 ho hp h) (ky q)
  · exact Go.plain (fun p e s m args below meth c T locs hx hZ hby hown X Wd target h => XS.icmpNo X.here hx rfl (hb hby hd) rfl (flt q).1 h) (kn q)
theorem Go.if_ge {o : Int} {u : Int32} {pcY pcN : Nat} (hd : decode code pc = .ok (.ifCond .ge o, 3)) (ho : 0 ≤ (pc : Int) + o) (hp : ((pc : Int) + o).toNat = pcY) (hq : pc + 3 = pcN) (ky : ¬ u < (0 : Int32) → Go l Z n0 R code maxL y ret D W cells slots pcY ls stk F) (kn : u < (0 : Int32) → Go l Z n0 R code maxL y ret D W cells slots pcN ls stk F) : Go l Z n0 R code maxL y ret D W cells slots pc ls (.int u :: stk) F := by
  subst hq
  by_cases q : u < (0 : Int32)
  · exact Go.plain (fun p e s m args below meth c T locs hx hZ hby hown X Wd target h => XS.ifNo X.here hx rfl (hb hby hd) rfl ((if0 _ _).trans (tlt q).2.1) h) (kn q)
  · exact Go.plain (fun p e s m args below meth c T locs hx hZ hby hown X Wd target h => XS.ifYes X.here hx rfl rfl (hb hby hd) rfl ((if0 _ _).trans (flt q).2.1) ho hp h) (ky q)
theorem Go.icmp_ge {o : Int} {u v : Int32} {pcY pcN : Nat} (hd : decode code pc = .ok (.if_icmp .ge o, 3)) (ho : 0 ≤ (pc : Int) + o) (hp : ((pc : Int) + o).toNat = pcY) (hq : pc + 3 = pcN) (ky : ¬ u < v → Go l Z n0 R code maxL y ret D W cells slots pcY ls stk F) (kn : u < v → Go l Z n0 R code maxL y ret D W cells slots pcN ls stk F) : Go l Z n0 R code maxL y ret D W cells slots pc ls (.int v :: .int u :: stk) F := by
  subst hq
  by_cases q : u < v
  · exact Go.plain (fun p e s m args below meth c T locs hx hZ hby hown X Wd target h => XS.icmpNo X.here hx rfl (hb hby hd) rfl (tlt q).2.1 h) (kn q)
  · exact Go.plain (fun p e s m args below meth c T locs hx hZ hby hown X Wd target h => XS.icmpYes X.here hx rfl rfl (hb hby hd) rfl (flt q).2.1 ho hp h) (ky q)
theorem Go.if_gt {o : Int} {u : Int32} {pcY pcN : Nat} (hd : decode code pc = .ok (.ifCond .gt o, 3)) (ho : 0 ≤ (pc : Int) + o) (hp : ((pc : Int) + o).toNat = pcY) (hq : pc + 3 = pcN) (ky : (0 : Int32) < u → Go l Z n0 R code maxL y ret D W cells slots pcY ls stk F) (kn : ¬ (0 : Int32) < u → Go l Z n0 R code maxL y ret D W cells slots pcN ls stk F) : Go l Z n0 R code maxL y ret D W cells slots pc ls (.int u :: stk) F := by
  subst hq
  by_cases q : (0 : Int32) < u
  · exact Go.plain (fun p e s m args below meth c T locs hx hZ hby hown X Wd target h => XS.ifYes X.here hx rfl rfl (hb hby hd) rfl ((if0 _ _).trans (tlt q).2.2.1) ho hp h) (ky q)
  · exact Go.plain (fun p e s m args below meth c T locs hx hZ hby hown X Wd target h => XS.ifNo X.here hx rfl (hb hby hd) rfl ((if0 _ _).trans (flt q).2.2.1) h) (kn q)
theorem Go.icmp_gt {o : Int} {u v : Int32} {pcY pcN : Nat} (hd : decode code pc = .ok (.if_icmp .gt o, 3)) (ho : 0 ≤ (pc : Int) + o) (hp : ((pc : Int) + o).toNat = pcY) (hq : pc + 3 = pcN) (ky : v < u → Go l Z n0 R code maxL y ret D W cells slots pcY ls stk F) (kn : ¬ v < u → Go l Z n0 R code maxL y ret D W cells slots pcN ls stk F) : Go l Z n0 R code maxL y ret D W cells slots pc ls (.int v :: .int u :: stk) F := by
  subst hq
  by_cases q : v < u
  · exact Go.plain (fun p e s m args below meth c T locs hx hZ hby hown X Wd target h => XS.icmpYes X.here hx rfl rfl (hb hby hd) rfl (tlt q).2.2.1 ho hp h) (ky q)
  · exact Go.plain (fun p e s m args below meth c T locs hx hZ hby hown X Wd target h => XS.icmpNo X.here hx rfl (hb hby hd) rfl (flt q).2.2.1 h) (kn q)
theorem Go.if_le {o : Int} {u : Int32} {pcY pcN : Nat} (hd : decode code pc = .ok (.ifCond .le o, 3)) (ho : 0 ≤ (pc : Int) + o) (hp : ((pc : Int) + o).toNat = pcY) (hq : pc + 3 = pcN) (ky : ¬ (0 : Int32) < u → Go l Z n0 R code maxL y ret D W cells slots pcY ls stk F) (kn : (0 : Int32) < u → Go l Z n0 R code maxL y ret D W cells slots pcN ls stk F) : Go l Z n0 R code maxL y ret D W cells slots pc ls (.int u :: stk) F := by
  subst hq
  by_cases q : (0 : Int32) < u
  · exact Go.plain (fun p e s m args below meth c T locs hx hZ hby hown X Wd target h => XS.ifNo X.here hx rfl (hb hby hd) rfl ((if0 _ _).trans (tlt q).2.2.2) h) (kn q)
  · exact Go.plain (fun p e s m args below meth c T locs hx hZ hby hown X Wd target h => XS.ifYes X.here hx rfl rfl (hb hby hd) rfl ((if0 _ _).trans (flt q).2.2.2) ho hp h) (ky q)
theorem Go.icmp_le {o : Int} {u v : Int32} {pcY pcN : Nat} (hd : decode code pc = .ok (.if_icmp .le o, 3)) (ho : 0 ≤ (pc : Int) + o) (hp : ((pc : Int) + o).toNat = pcY) (hq : pc + 3 = pcN) (ky : ¬ v < u → Go l Z n0 R code maxL y ret D W cells slots pcY ls stk F) (kn : v < u → Go l Z n0 R code maxL y ret D W cells slots pcN ls stk F) : Go l Z n0 R code maxL y ret D W cells slots pc ls (.int v :: .int u :: stk) F := by
  subst hq
  by_cases q : v < u
  · exact Go.plain (fun p e s m args below meth c T locs hx hZ hby hown X Wd target h => XS.icmpNo X.here hx rfl (hb hby hd) rfl (tlt q).2.2.2 h) (kn q)
  · exact Go.plain (fun p e s m args below meth c T locs hx hZ hby hown X Wd target h => XS.icmpYes X.here hx rfl rfl (hb hby hd) rfl (flt q).2.2.2 ho hp h) (ky q)
theorem Go.if_eq {o : Int} {u : Int32} {pcY pcN : Nat} (hd : decode code pc = .ok (.ifCond .eq o, 3)) (ho : 0 ≤ (pc : Int) + o) (hp : ((pc : Int) + o).toNat = pcY) (hq : pc + 3 = pcN) (ky : u = (0 : Int32) → Go l Z n0 R code maxL y ret D W cells slots pcY ls stk F) (kn : ¬ u = (0 : Int32) → Go l Z n0 R code maxL y ret D W cells slots pcN ls stk F) : Go l Z n0 R code maxL y ret D W cells slots pc ls (.int u :: stk) F := by
  subst hq
  by_cases q : u = (0 : Int32)
  · exact Go.plain (fun p e s m args below meth c T locs hx hZ hby hown X Wd target h => XS.ifYes X.here hx rfl rfl (hb hby hd) rfl ((if0 _ _).trans (teq q).1) ho hp h) (ky q)
  · exact Go.plain (fun p e s m args below meth c T locs hx hZ hby hown X Wd target h => XS.ifNo X.here hx rfl (hb hby hd) rfl ((if0 _ _).trans (feq q).1) h) (kn q)
theorem Go.icmp_eq {o : Int} {u v : Int32} {pcY pcN : Nat} (hd : decode code pc = .ok (.if_icmp .eq o, 3)) (ho : 0 ≤ (pc : Int) + o) (hp : ((pc : Int) + o).toNat = pcY) (hq : pc + 3 = pcN) (ky : u = v → Go l Z n0 R code maxL y ret D W cells slots pcY ls stk F) (kn : ¬ u = v → Go l Z n0 R code maxL y ret D W cells slots pcN ls stk F) : Go l Z n0 R code maxL y ret D W cells slots pc ls (.int v :: .int u :: stk) F := by
  subst hq
  by_cases q : u = v
  · exact Go.plain (fun p e s m args below meth c T locs hx hZ hby hown X Wd target h => XS.icmpYes X.here hx rfl rfl (hb hby hd) rfl (teq q).1 ho hp h) (ky q)
  · exact Go.plain (fun p e s m args below meth c T locs hx hZ hby hown X Wd target h => XS.icmpNo X.here hx rfl (hb hby hd) rfl (feq q).1 h) (kn q)
theorem Go.if_ne {o : Int} {u : Int32} {pcY pcN : Nat} (hd : decode code pc = .ok (.ifCond .ne o, 3)) (ho : 0 ≤ (pc : Int) + o) (hp : ((pc : Int) + o).toNat = pcY) (hq : pc + 3 = pcN) (ky : ¬ u = (0 : Int32) → Go l Z n0 R code maxL y ret D W cells slots pcY ls stk F) (kn : u = (0 : Int32) → Go l Z n0 R code maxL y ret D W cells slots pcN ls stk F) : Go l Z n0 R code maxL y ret D W cells slots pc ls (.int u :: stk) F := by
  subst hq
  by_cases q : u = (0 : Int32)
  · exact Go.plain (fun p e s m args below meth c T locs hx hZ hby hown X Wd target h => XS.ifNo X.here hx rfl (hb hby hd) rfl ((if0 _ _).trans (teq q).2) h) (kn q)
  · exact Go.plain (fun p e s m args below meth c T locs hx hZ hby hown X Wd target h => XS.ifYes X.here hx rfl rfl (hb hby hd) rfl ((if0 _ _).trans (feq q).2) ho hp h) (ky q)
theorem Go.icmp_ne {o : Int} {u v : Int32} {pcY pcN : Nat} (hd : decode code pc = .ok (.if_icmp .ne o, 3)) (ho : 0 ≤ (pc : Int) + o) (hp : ((pc : Int) + o).toNat = pcY) (hq : pc + 3 = pcN) (ky : ¬ u = v → Go l Z n0 R code maxL y ret D W cells slots pcY ls stk F) (kn : u = v → Go l Z n0 R code maxL y ret D W cells slots pcN ls stk F) : Go l Z n0 R code maxL y ret D W cells slots pc ls (.int v :: .int u :: stk) F := by
  subst hq
  by_cases q : u = v
  · exact Go.plain (fun p e s m args below meth c T locs hx hZ hby hown X Wd target h => XS.icmpNo X.here hx rfl (hb hby hd) rfl (teq q).2 h) (kn q)
  · exact Go.plain (fun p e s m args below meth c T locs hx hZ hby hown X Wd target h => XS.icmpYes X.here hx rfl rfl (hb hby hd) rfl (feq q).2 ho hp h) (ky q)
theorem Go.ifnullY {o : Int} (hd : decode code pc = .ok (.ifnull o, 3)) (ho : 0 ≤ (pc : Int) + o) (hp : ((pc : Int) + o).toNat = pc') (k : Go l Z n0 R code maxL y ret D W cells slots pc' ls stk F) : Go l Z n0 R code maxL y ret D W cells slots pc ls (.null :: stk) F :=
  Go.plain (fun p e s m args below meth c T locs hx hZ hby hown X Wd target h => XS.ifnullYes X.here hx rfl rfl (hb hby hd) rfl ho hp h) k
theorem Go.ifnullN {o : Int} {a : Addr} (hd : decode code pc = .ok (.ifnull o, 3)) (hp : pc + 3 = pc') (k : Go l Z n0 R code maxL y ret D W cells slots pc' ls stk F) : Go l Z n0 R code maxL y ret D W cells slots pc ls (.ref a :: stk) F := by
  subst hp; exact Go.plain (fun p e s m args below meth c T locs hx hZ hby hown X Wd target h => XS.ifnullNo X.here hx rfl (hb hby hd) rfl h) k
theorem Go.ifnonnullY {o : Int} {a : Addr} (hd : decode code pc = .ok (.ifnonnull o, 3)) (ho : 0 ≤ (pc : Int) + o) (hp : ((pc : Int) + o).toNat = pc') (k : Go l Z n0 R code maxL y ret D W cells slots pc' ls stk F) : Go l Z n0 R code maxL y ret D W cells slots pc ls (.ref a :: stk) F :=
  Go.plain (fun p e s m args below meth c T locs hx hZ hby hown X Wd target h => XT.ifnonnullYes X.here hx rfl rfl (hb hby hd) rfl ho hp h) k
theorem Go.ifnonnullN {o : Int} (hd : decode code pc = .ok (.ifnonnull o, 3)) (hp : pc + 3 = pc') (k : Go l Z n0 R code maxL y ret D W cells slots pc' ls stk F) : Go l Z n0 R code maxL y ret D W cells slots pc ls (.null :: stk) F := by
  subst hp; exact Go.plain (fun p e s m args below meth c T locs hx hZ hby hown X Wd target h => XT.ifnonnullNo X.here hx rfl (hb hby hd) rfl h) k
theorem Go.ldcI {idx : Nat} {v : Int32} (hd : decode code pc = .ok (.ldc idx, 2)) (w : (Jvm.Cond.constant y.cls idx v).before a0 Z = true) (hp : pc + 2 = pc') (k : Go l Z n0 R code maxL y ret D W cells slots pc' ls (.int v :: stk) F) : Go l Z n0 R code maxL y ret D W cells slots pc ls stk F := by
  subst hp; exact Go.plain (fun p e s m args below meth c T locs hx hZ hby hown X Wd target h => X.ldcInt hx hown (mvT hZ w) (g := mkF m pc ls stk) rfl (hb hby hd) target h) k
theorem Go.ldcL {idx : Nat} {v : Int64} (hd : decode code pc = .ok (.ldc2_w idx, 3)) (w : (Jvm.Cond.constantLong y.cls idx v).before a0 Z = true) (hp : pc + 3 = pc') (k : Go l Z n0 R code maxL y ret D W cells slots pc' ls (.long v :: stk) F) : Go l Z n0 R code maxL y ret D W cells slots pc ls stk F := by
  subst hp; exact Go.plain (fun p e s m args below meth c T locs hx hZ hby hown X Wd target h => X.ldc2Long hx hown (mvT hZ w) (g := mkF m pc ls stk) rfl (hb hby hd) target h) k
theorem Go.getF {idx i j : Nat} {C n t host : String} {a : Addr} {fs : List (String × String × Value)} {v : Value} (hd : decode code pc = .ok (.getfield idx, 3)) (w : (Jvm.Cond.fieldLink y.cls idx C n t).before a0 Z = true ∨ (Jvm.Cond.fieldLinkNest y.cls idx C n t host).before a0 Z = true) (hi : W[i]? = some (a, .inl (C, fs))) (hj : fs[j]? = some (n, t, v)) (hp : pc + 3 = pc')
    (k : Go l Z n0 R code maxL y ret D W cells slots pc' ls (v :: stk) F) : Go l Z n0 R code maxL y ret D W cells slots pc ls (.ref a :: stk) F := by
  subst hp
  obtain ⟨p, e, s, m, args, below, meth, c⟩ := D
  intro hx hZ hby hml hown hnm hret hlk T locs X N Wd
  obtain ⟨T', X', e', st⟩ := getF X hx hZ hown w Via.refl rfl ((Wd.get hi).2.2.1 _ (List.mem_of_getElem? hj)) (g := mkF m pc ls (.ref a :: stk)) rfl rfl (hb hby hd)
  obtain ⟨s₂, o, h1, h2⟩ := k hx hZ hby hml hown hnm hret hlk T' locs X' N (e' ▸ Wd)
  exact ⟨s₂, o, st _ h1, h2⟩
theorem own_in {j : Int32} {k n : Nat} (hj : ¬ j < 0) (hk : j.toNatClampNeg < n) (e : k = n) : ¬ (j < 0 ∨ k ≤ j.toNatClampNeg) := by
  rintro (q | q)
  · exact hj q
  · omega
theorem Go.initO {idx W1 : Nat} {a : Addr} (hd : decode code pc = .ok (.invokespecial idx, 3)) (w1 : (Jvm.Cond.methodLink y.cls idx Lib.objectInit).before a0 Z = true) (w2 : (Jvm.Cond.instanceMethod Lib.objectInit).before a0 Z = true) (w3 : (Jvm.Cond.code Lib.objectInit ⟨#[0xb1]⟩ 1 none).before a0 Z = true) (hsz : ls.size = maxL) (hf : 1 ≤ R.frames) (hW1 : (stk.map fun v => v.category).sum ≤ W1) (hl : W1 + 12 ≤ R.locals) (hp : pc + 3 = pc')
    (k : Go l Z n0 R code maxL y ret D W cells slots pc' ls stk F) : Go l Z n0 R code maxL y ret D W cells slots pc ls (.ref a :: stk) F := by
  subst hp
  obtain ⟨p, e, s, m, args, below, meth, c⟩ := D
  intro hx hZ hby hml hown hnm hret hlk T locs X N Wd
  obtain ⟨T', X', e', st⟩ := initO X hx hZ hown w1 w2 w3 rfl (g := mkF m pc ls (.ref a :: stk)) rfl (hsz.trans hml.symm) rfl (hb hby hd) hf (W := W1) (by show 2 * 0 + _ ≤ _; omega) hl
  obtain ⟨s₂, o, h1, h2⟩ := k hx hZ hby hml hown hnm hret hlk T' _ X' N (e' ▸ Wd)
  exact ⟨s₂, o, st _ h1, h2⟩
/-! calls by contract -/
theorem Go.callS {idx W1 cells' slots' maxL' : Nat} {y' : MethodName} {bytes' : ByteArray} {ret' : Option FieldType} {rm : Room} {argsL rest : List Value} {F' : Option Value → Wld → Prop} (hd : decode code pc = .ok (.invokestatic idx, 3)) (w1 : (Jvm.Cond.methodLink y.cls idx y').before a0 Z = true) (w2 : (Jvm.Cond.static y').before a0 Z = true) (w3 : (Jvm.Cond.initialized y'.cls).before a0 Z = true) (w4 : (Jvm.Cond.code y' bytes' maxL' ret').before a0 Z = true)
    (hy : y'.cls ≠ "java/lang/invoke/MethodHandle" ∧ y'.cls ≠ "java/lang/invoke/VarHandle") (M : Meets l Z n0 y' bytes' maxL' ret' rm [] argsL.toArray W F') (hfr : rm.frames + 1 ≤ R.frames) (hlo : W1 + (maxL' + 11) + rm.locals ≤ R.locals) (hsz : ls.size = maxL) (hlen : ∀ sig, parseMethodDescriptor y'.desc = some sig → argsL.length = sig.parameters.length) (hst : stk = argsL.reverse ++ rest) (hW1 : (rest.map fun v => v.category).sum ≤ W1)
    (hcells : cells + rm.cells ≤ R.cells) (hslots : slots + rm.slots ≤ R.slots) (ec : cells + rm.cells = cells') (es : slots + rm.slots = slots') (hp : pc + 3 = pc') (k : ∀ v W', F' v W' → Go l Z n0 R code maxL y ret D W' cells' slots' pc' ls (v.toList ++ rest) F) : Go l Z n0 R code maxL y ret D W cells slots pc ls stk F := by
  subst hp ec es
  obtain ⟨p, e, s, m, args, below, meth, c⟩ := D
  intro hx hZ hby hml hown hnm hret hlk T locs X N Wd
  obtain ⟨v, _, ⟨T', L', k', n'⟩, -, X', ⟨Lc, ⟨hFr, W', hWd, hF⟩, l1, y1, z1⟩, st⟩ := Jvm.LawKit.callS X hx hown (mvT hZ w1) (mvT hZ w2) (mvT hZ w3) (mvT hZ w4) hy (backOf (W := W1) (h := T.heap) (Q := fun v h L => Fr n0 L ∧ ∃ W', World Z n0 h W' ∧ F' v W') (M T.heap Wd) hZ w4 w3 hfr hlo) (g := mkF m pc ls stk) rfl (hsz.trans hml.symm) hlen hst (by show 2 * 0 + _ ≤ _; omega) (hb hby hd) (fun _ _ => ⟨rfl, rfl, hcells, hslots⟩)
  dsimp only [Pt.U, Pt.locs, Pt.cells, Pt.slots] at X' l1 y1 z1 st hWd
  subst l1 y1 z1
  obtain ⟨s₂, o, h1, h2⟩ := k v W' hF hx hZ hby hml hown hnm hret hlk T' _ X' (Fr.app N hFr) hWd
  exact ⟨s₂, o, st _ h1, h2⟩
theorem Go.callI {idx W1 cells' slots' maxL' : Nat} {y' : MethodName} {bytes' : ByteArray} {rm : Room} {a : Addr} {argsL rest : List Value} {F' : Option Value → Wld → Prop} (hd : decode code pc = .ok (.invokespecial idx, 3)) (hy1 : y'.name = "<init>") (w1 : (Jvm.Cond.methodLink y.cls idx y').before a0 Z = true) (w2 : (Jvm.Cond.instanceMethod y').before a0 Z = true) (w3 : (Jvm.Cond.initialized y'.cls).before a0 Z = true) (w4 : (Jvm.Cond.code y' bytes' maxL' none).before a0 Z = true)
    (hy : y'.cls ≠ "java/lang/invoke/MethodHandle" ∧ y'.cls ≠ "java/lang/invoke/VarHandle") (M : Meets l Z n0 y' bytes' maxL' none rm [] (.ref a :: argsL).toArray W F') (hfr : rm.frames + 1 ≤ R.frames) (hlo : W1 + (maxL' + 11) + rm.locals ≤ R.locals) (hsz : ls.size = maxL) (hlen : ∀ sig, parseMethodDescriptor y'.desc = some sig → argsL.length = sig.parameters.length) (hst : stk = argsL.reverse ++ .ref a :: rest) (hW1 : (rest.map fun v => v.category).sum ≤ W1)
    (hcells : cells + rm.cells ≤ R.cells) (hslots : slots + rm.slots ≤ R.slots) (ec : cells + rm.cells = cells') (es : slots + rm.slots = slots') (hp : pc + 3 = pc') (k : ∀ v W', F' v W' → Go l Z n0 R code maxL y ret D W' cells' slots' pc' ls (v.toList ++ rest) F) : Go l Z n0 R code maxL y ret D W cells slots pc ls stk F := by
  subst hp ec es
  obtain ⟨p, e, s, m, args, below, meth, c⟩ := D
  intro hx hZ hby hml hown hnm hret hlk T locs X N Wd
  obtain ⟨v, _, ⟨T', L', k', n'⟩, -, X', ⟨Lc, ⟨hFr, W', hWd, hF⟩, l1, y1, z1⟩, st⟩ := X.specialBack hx hy1 hown (mvT hZ w1) (mvT hZ w2) (mvT hZ w4) hy (backOf (W := W1) (h := T.heap) (Q := fun v h L => Fr n0 L ∧ ∃ W', World Z n0 h W' ∧ F' v W') (M T.heap Wd) hZ w4 w3 hfr hlo) (g := mkF m pc ls stk) rfl (hsz.trans hml.symm) (Steps.refl _) hlen hst (by show 2 * 0 + _ ≤ _; omega) (hb hby hd) (fun _ _ => ⟨rfl, rfl, hcells, hslots⟩)
  dsimp only [Pt.U, Pt.locs, Pt.cells, Pt.slots] at X' l1 y1 z1 st hWd
  subst l1 y1 z1
  obtain ⟨s₂, o, h1, h2⟩ := k v W' hF hx hZ hby hml hown hnm hret hlk T' _ X' (Fr.app N hFr) hWd
  exact ⟨s₂, o, st.trans h1, h2⟩
theorem Go.callV {idx W1 cells' slots' maxL' i : Nat} {C : String} {fs : List (String × String × Value)} {y' : MethodName} {bytes' : ByteArray} {ret' : Option FieldType} {rm : Room} {a : Addr} {argsL rest : List Value} {F' : Option Value → Wld → Prop} (hd : decode code pc = .ok (.invokevirtual idx, 3)) (w1 : (Jvm.Cond.methodLink y.cls idx y').before a0 Z = true) (w2 : (Jvm.Cond.declares y').before a0 Z = true) (w3 : (Jvm.Cond.selects C y' y').before a0 Z = true) (w4 : (Jvm.Cond.instanceMethod y').before a0 Z = true) (w5 : (Jvm.Cond.initialized y'.cls).before a0 Z = true) (w6 : (Jvm.Cond.code y' bytes' maxL' ret').before a0 Z = true)
    (hy : y'.cls ≠ "java/lang/invoke/MethodHandle" ∧ y'.cls ≠ "java/lang/invoke/VarHandle") (hi : W[i]? = some (a, .inl (C, fs))) (M : Meets l Z n0 y' bytes' maxL' ret' rm [] (.ref a :: argsL).toArray W F') (hfr : rm.frames + 1 ≤ R.frames) (hlo : W1 + (maxL' + 11) + rm.locals ≤ R.locals) (hsz : ls.size = maxL) (hlen : ∀ sig, parseMethodDescriptor y'.desc = some sig → argsL.length = sig.parameters.length) (hst : stk = argsL.reverse ++ .ref a :: rest) (hW1 : (rest.map fun v => v.category).sum ≤ W1)
    (hcells : cells + rm.cells ≤ R.cells) (hslots : slots + rm.slots ≤ R.slots) (ec : cells + rm.cells = cells') (es : slots + rm.slots = slots') (hp : pc + 3 = pc') (k : ∀ v W', F' v W' → Go l Z n0 R code maxL y ret D W' cells' slots' pc' ls (v.toList ++ rest) F) : Go l Z n0 R code maxL y ret D W cells slots pc ls stk F := by
  subst hp ec es
  obtain ⟨p, e, s, m, args, below, meth, c⟩ := D
  intro hx hZ hby hml hown hnm hret hlk T locs X N Wd
  obtain ⟨cq, kq, qa, qb, qc⟩ := isOf (T := T) hZ rfl (Wd.get hi).2.1
  obtain ⟨v, _, ⟨T', L', k', n'⟩, -, X', ⟨Lc, ⟨hFr, W', hWd, hF⟩, l1, y1, z1⟩, st⟩ := X.virtualBack hx (y := y') (z := y') hown (mvT hZ w1) (mvT hZ w2) (notFace_of_selects (args := #[]) (mvT hZ w3)) (mvT hZ w3) (mvT hZ w4) hy (backOf (W := W1) (h := T.heap) (Q := fun v h L => Fr n0 L ∧ ∃ W', World Z n0 h W' ∧ F' v W') (M T.heap Wd) hZ w6 w5 hfr hlo) qa qc (g := mkF m pc ls stk) rfl (hsz.trans hml.symm) (Steps.refl _) hlen hst (by show 2 * 0 + _ ≤ _; omega) (hb hby hd) (fun _ _ => ⟨rfl, rfl, hcells, hslots⟩)
  dsimp only [Pt.U, Pt.locs, Pt.cells, Pt.slots] at X' l1 y1 z1 st hWd
  subst l1 y1 z1
  obtain ⟨s₂, o, h1, h2⟩ := k v W' hF hx hZ hby hml hown hnm hret hlk T' _ X' (Fr.app N hFr) hWd
  exact ⟨s₂, o, st.trans h1, h2⟩
theorem Go.callP {idx W1 cells' slots' maxL' i kk : Nat} {fs : List (String × String × Value)} {y' : MethodName} {bytes' : ByteArray} {ret' : Option FieldType} {rm : Room} {a : Addr} {argsL rest : List Value} {F' : Option Value → Wld → Prop} (hd : decode code pc = .ok (.invokevirtual idx, 3)) (w1 : (Jvm.Cond.methodLink y.cls idx y').before a0 Z = true) (w2 : (Jvm.Cond.instanceMethod y').before a0 Z = true) (w3 : (Jvm.Cond.privateMethod y').before a0 Z = true) (w4 : (Jvm.Cond.instantiable y'.cls kk).before a0 Z = true) (w5 : (Jvm.Cond.initialized y'.cls).before a0 Z = true) (w6 : (Jvm.Cond.code y' bytes' maxL' ret').before a0 Z = true)
    (hy : y'.cls ≠ "java/lang/invoke/MethodHandle" ∧ y'.cls ≠ "java/lang/invoke/VarHandle") (hi : W[i]? = some (a, .inl (y'.cls, fs))) (M : Meets l Z n0 y' bytes' maxL' ret' rm [] (.ref a :: argsL).toArray W F') (hfr : rm.frames + 1 ≤ R.frames) (hlo : W1 + (maxL' + 11) + rm.locals ≤ R.locals) (hsz : ls.size = maxL) (hlen : ∀ sig, parseMethodDescriptor y'.desc = some sig → argsL.length = sig.parameters.length) (hst : stk = argsL.reverse ++ .ref a :: rest) (hW1 : (rest.map fun v => v.category).sum ≤ W1)
    (hcells : cells + rm.cells ≤ R.cells) (hslots : slots + rm.slots ≤ R.slots) (ec : cells + rm.cells = cells') (es : slots + rm.slots = slots') (hp : pc + 3 = pc') (k : ∀ v W', F' v W' → Go l Z n0 R code maxL y ret D W' cells' slots' pc' ls (v.toList ++ rest) F) : Go l Z n0 R code maxL y ret D W cells slots pc ls stk F := by
  subst hp ec es
  obtain ⟨p, e, s, m, args, below, meth, c⟩ := D
  intro hx hZ hby hml hown hnm hret hlk T locs X N Wd
  obtain ⟨cl, q1, q2⟩ := (Wd.get hi).2.1.cell
  have hpr : s.PrivateAt y' := Cond.privateMethod_at (mvP hZ w3 (args := #[]))
  obtain ⟨cB, kB, b1, b2, b3, b4⟩ := Cond.instantiable_spec (mv (args := args) hZ w4)
  obtain ⟨v, _, ⟨T', L', k', n'⟩, -, X', ⟨Lc, ⟨hFr, W', hWd, hF⟩, l1, y1, z1⟩, st⟩ := X.privateBack hx (y := y') hown (mvT hZ w1) (mvT hZ w2) (selects_self_of_private b1 b2 (Bool.or_eq_false_iff.mp b4.1).1 hpr (mvT hZ w2) hy) hpr (mvT hZ w6) hy (backOf (W := W1) (h := T.heap) (Q := fun v h L => Fr n0 L ∧ ∃ W', World Z n0 h W' ∧ F' v W') (M T.heap Wd) hZ w6 w5 hfr hlo) (g := mkF m pc ls stk) rfl (hsz.trans hml.symm) (Steps.refl _) (a := a) q1 q2 hlen hst (by show 2 * 0 + _ ≤ _; omega) (hb hby hd) (fun _ _ => ⟨rfl, rfl, hcells, hslots⟩)
  dsimp only [Pt.U, Pt.locs, Pt.cells, Pt.slots] at X' l1 y1 z1 st hWd
  subst l1 y1 z1
  obtain ⟨s₂, o, h1, h2⟩ := k v W' hF hx hZ hby hml hown hnm hret hlk T' _ X' (Fr.app N hFr) hWd
  exact ⟨s₂, o, st.trans h1, h2⟩
theorem Go.more {cells' slots' : Nat} (hc : cells ≤ cells') (hs : slots ≤ slots') (k : Go l Z n0 R code maxL y ret D W cells' slots' pc ls stk F) : Go l Z n0 R code maxL y ret D W cells slots pc ls stk F := by
  obtain ⟨p, e, s, m, args, below, meth, c⟩ := D
  intro hx hZ hby hml hown hnm hret hlk T locs X N Wd
  exact k hx hZ hby hml hown hnm hret hlk T locs (X.more hc hs) N Wd
/-! leaving -/
theorem Go.out {v : Option Value} (hv : ret = none → v = none) (hcells : cells ≤ R.cells) (hslots : slots ≤ R.slots) (st : ∀ (p : Program) (e : Env) (s : State) (m : MethodId) (args : Array Value) (below : List Frame) (meth : Method) (c : Code) (T : State) (locs : List Loc), p.tables.exec = Jvm.exec → c.code = code → meth.sig.returnType = ret → Stand p l e R s m args below meth c T locs cells slots → ∀ fs : List Frame,
      (∀ (f : JFrame) (acts : List Action), f.method = m → f.locked = none → f.entered = [] → (doReturn e (T.setTop f) acts v).1 = T.setFrames fs) → Steps p.tables e below (T.setTop (mkF m pc ls stk)) (T.setFrames fs)) (hF : F v W) : Go l Z n0 R code maxL y ret D W cells slots pc ls stk F := by
  obtain ⟨p, e, s, m, args, below, meth, c⟩ := D
  intro hx hZ hby hml hown hnm hret hlk T locs X N Wd
  obtain ⟨fs, hr, hrun, hended, hW, hsame⟩ := X.leave (v := v) (fun h => hv (hret ▸ h)) hlk
  exact ⟨_, _, st p e s m args below meth c T locs hx hby hret X fs hr, hrun, hended, v, locs, rfl, ⟨N, W, Wd, hF⟩, ⟨_, rfl⟩, hW, hsame.mono hcells hslots⟩
theorem Go.retV (hd : decode code pc = .ok (.return_, 1)) (hret : ret = none) (hcells : cells ≤ R.cells) (hslots : slots ≤ R.slots) (hF : F none W) : Go l Z n0 R code maxL y ret D W cells slots pc ls [] F := by
  subst hret; exact Go.out (fun _ => rfl) hcells hslots (fun p e s m args below meth c T locs hx hby hret X fs hr => X.returnOut hx hret (hb hby hd) hr) hF
theorem Go.retI {z : Int32} (hd : decode code pc = .ok (.ireturn, 1)) (hret : ret = some .int) (hcells : cells ≤ R.cells) (hslots : slots ≤ R.slots) (hF : F (some (.int z)) W) : Go l Z n0 R code maxL y ret D W cells slots pc ls (.int z :: stk) F := by
  subst hret; exact Go.out (fun h => nomatch h) hcells hslots (fun p e s m args below meth c T locs hx hby hret X fs hr => retOut X hx hret rfl (Or.inl ⟨rfl, Or.inl rfl, z, rfl⟩) (hb hby hd) hr) hF
theorem Go.retZ {z z' : Int32} (hd : decode code pc = .ok (.ireturn, 1)) (hret : ret = some .boolean) (hz : z &&& 1 = z') (hcells : cells ≤ R.cells) (hslots : slots ≤ R.slots) (hF : F (some (.int z')) W) : Go l Z n0 R code maxL y ret D W cells slots pc ls (.int z :: stk) F := by
  subst hret hz; exact Go.out (fun h => nomatch h) hcells hslots (fun p e s m args below meth c T locs hx hby hret X fs hr => retN X hx (t := .boolean) hret (Or.inl rfl) (hb hby hd) hr) hF
theorem Go.retJ {z : Int64} (hd : decode code pc = .ok (.lreturn, 1)) (hret : ret = some .long) (hcells : cells ≤ R.cells) (hslots : slots ≤ R.slots) (hF : F (some (.long z)) W) : Go l Z n0 R code maxL y ret D W cells slots pc ls (.long z :: stk) F := by
  subst hret; exact Go.out (fun h => nomatch h) hcells hslots (fun p e s m args below meth c T locs hx hby hret X fs hr => retOut X hx hret rfl (Or.inr (Or.inl ⟨rfl, rfl, z, rfl⟩)) (hb hby hd) hr) hF
theorem Go.retA {v : Value} {t : FieldType} (hd : decode code pc = .ok (.areturn, 1)) (hret : ret = some t) (ht : t.isReference = true) (hv : v.isRef = true) (hn : narrow t v = v) (hcells : cells ≤ R.cells) (hslots : slots ≤ R.slots) (hF : F (some v) W) : Go l Z n0 R code maxL y ret D W cells slots pc ls (v :: stk) F := by
  subst hret; exact Go.out (fun h => nomatch h) hcells hslots (fun p e s m args below meth c T locs hx hby hret X fs hr => retOut X hx hret hn (Or.inr (Or.inr (Or.inr (Or.inr ⟨rfl, ht, hv⟩)))) (hb hby hd) hr) hF
theorem Go.putF {idx i j kk : Nat} {C n t host : String} {a : Addr} {fs : List (String × String × Value)} {v old : Value} {ty : FieldType} {W' : Wld} (hd : decode code pc = .ok (.putfield idx, 3)) (w : (Jvm.Cond.fieldLink y.cls idx C n t).before a0 Z = true ∨ (Jvm.Cond.fieldLinkNest y.cls idx C n t host).before a0 Z = true) (L : (Jvm.Cond.lays C C n t).before a0 Z = true ∨ ((Jvm.Cond.laysFinal C C n t).before a0 Z = true ∧ y.cls = C ∧ y.name = "<init>")) (wi : (Jvm.Cond.instantiable C kk).before a0 Z = true)
    (hi : W[i]? = some (a, .inl (C, fs))) (hj : fs[j]? = some (n, t, old)) (hty : parseFieldDescriptor t = some ty) (hn : narrow ty v = v) (hf : fits ty v = true) (hW : W.set i (a, .inl (C, fs.set j (n, t, v))) = W') (hp : pc + 3 = pc')
    (k : Go l Z n0 R code maxL y ret D W' cells slots pc' ls stk F) : Go l Z n0 R code maxL y ret D W cells slots pc ls (v :: .ref a :: stk) F := by
  subst hp hW
  obtain ⟨p, e, s, m, args, below, meth, c⟩ := D
  intro hx hZ hby hml hown hnm hret hlk T locs X N Wd
  have G := Wd.get hi
  obtain ⟨T', h', X', e', K, st⟩ := putF X hx hZ hown w Via.refl rfl (G.2.2.1 _ (List.mem_of_getElem? hj)) G.2.1 (L.imp id fun q => ⟨q.1, q.2.1, hnm.trans q.2.2⟩) wi hty hn hf (g := mkF m pc ls (v :: .ref a :: stk)) rfl rfl (hb hby hd)
  obtain ⟨s₂, o, h1, h2⟩ := k hx hZ hby hml hown hnm hret hlk T' _ X' (Fr.snoc X' N G.1) (e' ▸ Wd.upd hi K (G.2.put K hj))
  exact ⟨s₂, o, st _ h1, h2⟩
theorem Go.newO {idx n cells' slots' : Nat} {W' : Addr → Wld} {C : String} {fs : List (String × String × Value)} (hd : decode code pc = .ok (.new idx, 3)) (w : (Jvm.Cond.classLink y.cls idx C).before a0 Z = true) (wi : (Jvm.Cond.instantiable C n).before a0 Z = true) (wz : (Jvm.Cond.initialized C).before a0 Z = true) (hL : Lay Z a0 C fs) (hN : (fs.map fun f => f.1).Nodup) (hcells : cells + 1 ≤ R.cells) (hslots : slots + n ≤ R.slots) (ec : cells + 1 = cells') (es : slots + n = slots') (hW : ∀ a, W ++ [(a, .inl (C, fs))] = W' a) (hp : pc + 3 = pc')
    (k : ∀ a, Go l Z n0 R code maxL y ret D (W' a) cells' slots' pc' ls (.ref a :: stk) F) : Go l Z n0 R code maxL y ret D W cells slots pc ls stk F := by
  subst hp ec es
  obtain ⟨p, e, s, m, args, below, meth, c⟩ := D
  intro hx hZ hby hml hown hnm hret hlk T locs X N Wd
  obtain ⟨T', h', X', e', E, A, Ds, -, st⟩ := newO X hx hZ hown w wi wz rfl (g := mkF m pc ls stk) rfl (hb hby hd) hcells hslots
  have I : Is Z h' T.heap.size (.inl (C, fs)) := ⟨A, fun f hf => by
    obtain ⟨L1, ty, t1, t2⟩ := hL f hf
    rw [t2]; exact Ds L1 t1, hL.slots hN⟩
  obtain ⟨s₂, o, h1, h2⟩ := k T.heap.size hx hZ hby hml hown hnm hret hlk T' _ X' N (e' ▸ hW _ ▸ Wd.add E I)
  exact ⟨s₂, o, st _ h1, h2⟩
theorem Go.newI {n : Int32} {len cells' slots' : Nat} {W' : Addr → Wld} (hd : decode code pc = .ok (.newarray .int, 2)) (w : (Jvm.Cond.arrayClass .int).before a0 Z = true) (hn : ¬ n < 0) (hlen : n.toNatClampNeg = len) (hbig : len * 8 ≤ 536870912) (hcells : cells + 1 ≤ R.cells) (hslots : slots + len ≤ R.slots) (ec : cells + 1 = cells') (es : slots + len = slots') (hW : ∀ a, W ++ [(a, .inr (.inl (List.replicate len 0)))] = W' a) (hp : pc + 2 = pc')
    (k : ∀ a, Go l Z n0 R code maxL y ret D (W' a) cells' slots' pc' ls (.ref a :: stk) F) : Go l Z n0 R code maxL y ret D W cells slots pc ls (.int n :: stk) F := by
  subst hp ec es hlen
  obtain ⟨p, e, s, m, args, below, meth, c⟩ := D
  intro hx hZ hby hml hown hnm hret hlk T locs X N Wd
  obtain ⟨T', h', cA, X', e', E, A, st⟩ := newP X hx hZ (aty := .int) w rfl (g := mkF m pc ls (.int n :: stk)) rfl (hb hby hd) rfl hn (Nat.le_refl _) hbig hcells hslots
  have I : Is Z h' T.heap.size (.inr (.inl (List.replicate n.toNatClampNeg 0))) := ⟨_, A, by
    show Array.replicate n.toNatClampNeg (defaultValue .int) = _
    simp [defaultValue], by simpa using (back32 hn).2⟩
  obtain ⟨s₂, o, h1, h2⟩ := k T.heap.size hx hZ hby hml hown hnm hret hlk T' _ X' N (e' ▸ hW _ ▸ Wd.add E I)
  exact ⟨s₂, o, st _ h1, h2⟩
theorem Go.newJ {n : Int32} {len cells' slots' : Nat} {W' : Addr → Wld} (hd : decode code pc = .ok (.newarray .long, 2)) (w : (Jvm.Cond.arrayClass .long).before a0 Z = true) (hn : ¬ n < 0) (hlen : n.toNatClampNeg = len) (hbig : len * 8 ≤ 536870912) (hcells : cells + 1 ≤ R.cells) (hslots : slots + len ≤ R.slots) (ec : cells + 1 = cells') (es : slots + len = slots') (hW : ∀ a, W ++ [(a, .inr (.inr (List.replicate len 0)))] = W' a) (hp : pc + 2 = pc')
    (k : ∀ a, Go l Z n0 R code maxL y ret D (W' a) cells' slots' pc' ls (.ref a :: stk) F) : Go l Z n0 R code maxL y ret D W cells slots pc ls (.int n :: stk) F := by
  subst hp ec es hlen
  obtain ⟨p, e, s, m, args, below, meth, c⟩ := D
  intro hx hZ hby hml hown hnm hret hlk T locs X N Wd
  obtain ⟨T', h', cA, X', e', E, A, st⟩ := newP X hx hZ (aty := .long) w rfl (g := mkF m pc ls (.int n :: stk)) rfl (hb hby hd) rfl hn (Nat.le_refl _) hbig hcells hslots
  have I : Is Z h' T.heap.size (.inr (.inr (List.replicate n.toNatClampNeg 0))) := ⟨_, A, by
    show Array.replicate n.toNatClampNeg (defaultValue .long) = _
    simp [defaultValue], by simpa using (back32 hn).2⟩
  obtain ⟨s₂, o, h1, h2⟩ := k T.heap.size hx hZ hby hml hown hnm hret hlk T' _ X' N (e' ▸ hW _ ▸ Wd.add E I)
  exact ⟨s₂, o, st _ h1, h2⟩
theorem Go.alenI {i : Nat} {a : Addr} {vs : List Int32} {n : Int32} (hd : decode code pc = .ok (.arraylength, 1)) (hi : W[i]? = some (a, .inr (.inl vs))) (hn : vs.length.toInt32 = n) (hp : pc + 1 = pc')
    (k : Go l Z n0 R code maxL y ret D W cells slots pc' ls (.int n :: stk) F) : Go l Z n0 R code maxL y ret D W cells slots pc ls (.ref a :: stk) F := by
  subst hp hn
  refine Go.plain (fun p e s m args below meth c T locs hx hZ hby hown X Wd target h => ?_) k
  obtain ⟨cl, A, e1, -⟩ := (Wd.get hi).2
  exact X.arraylength hx A.1 (State.isArrayOf_alike hZ.alike A.2.1) (g := mkF m pc ls (.ref a :: stk)) rfl rfl (hb hby hd) target (by rw [own_size e1]; exact h)
theorem Go.alenJ {i : Nat} {a : Addr} {vs : List Int64} {n : Int32} (hd : decode code pc = .ok (.arraylength, 1)) (hi : W[i]? = some (a, .inr (.inr vs))) (hn : vs.length.toInt32 = n) (hp : pc + 1 = pc')
    (k : Go l Z n0 R code maxL y ret D W cells slots pc' ls (.int n :: stk) F) : Go l Z n0 R code maxL y ret D W cells slots pc ls (.ref a :: stk) F := by
  subst hp hn
  refine Go.plain (fun p e s m args below meth c T locs hx hZ hby hown X Wd target h => ?_) k
  obtain ⟨cl, A, e1, -⟩ := (Wd.get hi).2
  exact X.arraylength hx A.1 (State.isArrayOf_alike hZ.alike A.2.1) (g := mkF m pc ls (.ref a :: stk)) rfl rfl (hb hby hd) target (by rw [own_sizeL e1]; exact h)
theorem Go.iaload {i : Nat} {a : Addr} {vs : List Int32} {j x : Int32} (hd : decode code pc = .ok (.iaload, 1)) (hi : W[i]? = some (a, .inr (.inl vs))) (hj : ¬ j < 0) (hv : vs[j.toNatClampNeg]? = some x) (hp : pc + 1 = pc')
    (k : Go l Z n0 R code maxL y ret D W cells slots pc' ls (.int x :: stk) F) : Go l Z n0 R code maxL y ret D W cells slots pc ls (.int j :: .ref a :: stk) F := by
  subst hp
  refine Go.plain (fun p e s m args below meth c T locs hx hZ hby hown X Wd target h => ?_) k
  obtain ⟨cl, A, e1, -⟩ := (Wd.get hi).2
  have hlt := (List.getElem?_eq_some_iff.mp hv).1
  exact X.iaload hx A.1 (State.isArrayOf_alike hZ.alike A.2.1) A.2.2 (own_in hj hlt (own_size e1)) (by rw [e1]; simp [hv]) (g := mkF m pc ls (.int j :: .ref a :: stk)) rfl rfl (hb hby hd) target h
theorem Go.laload {i : Nat} {a : Addr} {vs : List Int64} {j : Int32} {x : Int64} (hd : decode code pc = .ok (.laload, 1)) (hi : W[i]? = some (a, .inr (.inr vs))) (hj : ¬ j < 0) (hv : vs[j.toNatClampNeg]? = some x) (hp : pc + 1 = pc')
    (k : Go l Z n0 R code maxL y ret D W cells slots pc' ls (.long x :: stk) F) : Go l Z n0 R code maxL y ret D W cells slots pc ls (.int j :: .ref a :: stk) F := by
  subst hp
  refine Go.plain (fun p e s m args below meth c T locs hx hZ hby hown X Wd target h => ?_) k
  obtain ⟨cl, A, e1, -⟩ := (Wd.get hi).2
  have hlt := (List.getElem?_eq_some_iff.mp hv).1
  exact X.laload hx A.1 (State.isArrayOf_alike hZ.alike A.2.1) A.2.2 (own_in hj hlt (own_sizeL e1)) (by rw [e1]; simp [hv]) (g := mkF m pc ls (.int j :: .ref a :: stk)) rfl rfl (hb hby hd) target h
theorem Go.iastore {i : Nat} {a : Addr} {vs : List Int32} {j x : Int32} {W' : Wld} (hd : decode code pc = .ok (.iastore, 1)) (hi : W[i]? = some (a, .inr (.inl vs))) (hj : ¬ j < 0) (hlt : j.toNatClampNeg < vs.length) (hW : W.set i (a, .inr (.inl (vs.set j.toNatClampNeg x))) = W') (hp : pc + 1 = pc')
    (k : Go l Z n0 R code maxL y ret D W' cells slots pc' ls stk F) : Go l Z n0 R code maxL y ret D W cells slots pc ls (.int x :: .int j :: .ref a :: stk) F := by
  subst hp hW
  obtain ⟨p, e, s, m, args, below, meth, c⟩ := D
  intro hx hZ hby hml hown hnm hret hlk T locs X N Wd
  have G := Wd.get hi
  obtain ⟨cl, A, e1, e2⟩ := id G.2
  obtain ⟨T', h', X', e', K, st⟩ := stI X hx hZ rfl A (own_in hj hlt (own_size e1)) (g := mkF m pc ls (.int x :: .int j :: .ref a :: stk)) rfl rfl (hb hby hd)
  obtain ⟨s₂, o, h1, h2⟩ := k hx hZ hby hml hown hnm hret hlk T' _ X' (Fr.snoc X' N G.1) (e' ▸ Wd.upd hi K (Is.setI K G.2))
  exact ⟨s₂, o, st _ h1, h2⟩
theorem Go.lastore {i : Nat} {a : Addr} {vs : List Int64} {j : Int32} {x : Int64} {W' : Wld} (hd : decode code pc = .ok (.lastore, 1)) (hi : W[i]? = some (a, .inr (.inr vs))) (hj : ¬ j < 0) (hlt : j.toNatClampNeg < vs.length) (hW : W.set i (a, .inr (.inr (vs.set j.toNatClampNeg x))) = W') (hp : pc + 1 = pc')
    (k : Go l Z n0 R code maxL y ret D W' cells slots pc' ls stk F) : Go l Z n0 R code maxL y ret D W cells slots pc ls (.long x :: .int j :: .ref a :: stk) F := by
  subst hp hW
  obtain ⟨p, e, s, m, args, below, meth, c⟩ := D
  intro hx hZ hby hml hown hnm hret hlk T locs X N Wd
  have G := Wd.get hi
  obtain ⟨cl, A, e1, e2⟩ := id G.2
  obtain ⟨T', h', X', e', K, st⟩ := stJ X hx hZ rfl A (own_in hj hlt (own_sizeL e1)) (g := mkF m pc ls (.long x :: .int j :: .ref a :: stk)) rfl rfl (hb hby hd)
  obtain ⟨s₂, o, h1, h2⟩ := k hx hZ hby hml hown hnm hret hlk T' _ X' (Fr.snoc X' N G.1) (e' ▸ Wd.upd hi K (Is.setJ K G.2))
  exact ⟨s₂, o, st _ h1, h2⟩
theorem Go.less {W' : Wld} (q : W'.Sublist W) (k : Go l Z n0 R code maxL y ret D W' cells slots pc ls stk F) : Go l Z n0 R code maxL y ret D W cells slots pc ls stk F := by
  obtain ⟨p, e, s, m, args, below, meth, c⟩ := D
  intro hx hZ hby hml hown hnm hret hlk T locs X N Wd
  exact k hx hZ hby hml hown hnm hret hlk T locs X N ⟨Wd.1, (q.map _).nodup Wd.2.1, fun z hz => Wd.2.2 z (q.subset hz)⟩
end OwnSteps
/-! reading and writing a place of an array, as a function that may fail -/
def rdA {α : Type} (xs : List α) (i : Int32) : Option α := if i < 0 then none else xs[i.toNatClampNeg]?
def wrA {α : Type} (xs : List α) (i : Int32) (x : α) : Option (List α) := if i < 0 then none else if i.toNatClampNeg < xs.length then some (xs.set i.toNatClampNeg x) else none
theorem rdA_some {α : Type} {xs : List α} {i : Int32} {x : α} (h : rdA xs i = some x) : ¬ i < 0 ∧ xs[i.toNatClampNeg]? = some x := by
  unfold rdA at h
  by_cases q : i < 0
  · rw [if_pos q] at h; cases h
  · rw [if_neg q] at h; exact ⟨q, h⟩
theorem wrA_some {α : Type} {xs ys : List α} {i : Int32} {x : α} (h : wrA xs i x = some ys) : ¬ i < 0 ∧ i.toNatClampNeg < xs.length ∧ xs.set i.toNatClampNeg x = ys := by
  unfold wrA at h
  by_cases q : i < 0
  · rw [if_pos q] at h; cases h
  · rw [if_neg q] at h
    by_cases r : i.toNatClampNeg < xs.length
    · rw [if_pos r] at h; exact ⟨q, r, Option.some.inj h⟩
    · rw [if_neg r] at h; cases h
theorem own_bind {α β : Type} {o : Option α} {f : α → Option β} {b : β} (h : o.bind f = some b) : ∃ a, o = some a ∧ f a = some b := Option.bind_eq_some_iff.mp h
section OwnOpt
variable {l : Launch} {Z : State} {n0 : Nat} {R : Room} {code : ByteArray} {maxL : Nat} {y : MethodName} {ret : Option FieldType} {D : Dyn} {W : Wld} {cells slots pc pc' : Nat} {ls ls' : Array Slot} {stk stk' : List Value} {F : Option Value → Wld → Prop} {a0 : Array Value}
theorem Go.ialoadG {i : Nat} {a : Addr} {vs : List Int32} {j x : Int32} (hd : decode code pc = .ok (.iaload, 1)) (hi : W[i]? = some (a, .inr (.inl vs))) (h : rdA vs j = some x) (hp : pc + 1 = pc')
    (k : Go l Z n0 R code maxL y ret D W cells slots pc' ls (.int x :: stk) F) : Go l Z n0 R code maxL y ret D W cells slots pc ls (.int j :: .ref a :: stk) F := Go.iaload hd hi (rdA_some h).1 (rdA_some h).2 hp k
theorem Go.laloadG {i : Nat} {a : Addr} {vs : List Int64} {j : Int32} {x : Int64} (hd : decode code pc = .ok (.laload, 1)) (hi : W[i]? = some (a, .inr (.inr vs))) (h : rdA vs j = some x) (hp : pc + 1 = pc')
    (k : Go l Z n0 R code maxL y ret D W cells slots pc' ls (.long x :: stk) F) : Go l Z n0 R code maxL y ret D W cells slots pc ls (.int j :: .ref a :: stk) F := Go.laload hd hi (rdA_some h).1 (rdA_some h).2 hp k
theorem Go.iastoreG {i : Nat} {a : Addr} {vs vs' : List Int32} {j x : Int32} {W' : Wld} (hd : decode code pc = .ok (.iastore, 1)) (hi : W[i]? = some (a, .inr (.inl vs))) (h : wrA vs j x = some vs') (hW : W.set i (a, .inr (.inl vs')) = W') (hp : pc + 1 = pc')
    (k : Go l Z n0 R code maxL y ret D W' cells slots pc' ls stk F) : Go l Z n0 R code maxL y ret D W cells slots pc ls (.int x :: .int j :: .ref a :: stk) F := by
  obtain ⟨h1, h2, rfl⟩ := wrA_some h
  exact Go.iastore hd hi h1 h2 hW hp k
theorem Go.lastoreG {i : Nat} {a : Addr} {vs vs' : List Int64} {j : Int32} {x : Int64} {W' : Wld} (hd : decode code pc = .ok (.lastore, 1)) (hi : W[i]? = some (a, .inr (.inr vs))) (h : wrA vs j x = some vs') (hW : W.set i (a, .inr (.inr vs')) = W') (hp : pc + 1 = pc')
    (k : Go l Z n0 R code maxL y ret D W' cells slots pc' ls stk F) : Go l Z n0 R code maxL y ret D W cells slots pc ls (.long x :: .int j :: .ref a :: stk) F := by
  obtain ⟨h1, h2, rfl⟩ := wrA_some h
  exact Go.lastore hd hi h1 h2 hW hp k
end OwnOpt
section OwnNest
variable {l : Launch} {Z : State} {n0 : Nat} {R : Room} {code : ByteArray} {maxL : Nat} {y : MethodName} {ret : Option FieldType} {D : Dyn} {W : Wld} {cells slots pc pc' : Nat} {ls ls' : Array Slot} {stk stk' : List Value} {F : Option Value → Wld → Prop} {a0 : Array Value}
theorem Go.callPN {idx W1 cells' slots' maxL' i kk : Nat} {host : String} {fs : List (String × String × Value)} {y' : MethodName} {bytes' : ByteArray} {ret' : Option FieldType} {rm : Room} {a : Addr} {argsL rest : List Value} {F' : Option Value → Wld → Prop} (hd : decode code pc = .ok (.invokevirtual idx, 3)) (w1 : (Jvm.Cond.methodLinkNest y.cls idx y' host).before a0 Z = true) (w2 : (Jvm.Cond.instanceMethod y').before a0 Z = true) (w3 : (Jvm.Cond.privateMethod y').before a0 Z = true) (w4 : (Jvm.Cond.instantiable y'.cls kk).before a0 Z = true) (w5 : (Jvm.Cond.initialized y'.cls).before a0 Z = true) (w6 : (Jvm.Cond.code y' bytes' maxL' ret').before a0 Z = true)
    (hy : y'.cls ≠ "java/lang/invoke/MethodHandle" ∧ y'.cls ≠ "java/lang/invoke/VarHandle") (hi : W[i]? = some (a, .inl (y'.cls, fs))) (M : Meets l Z n0 y' bytes' maxL' ret' rm [] (.ref a :: argsL).toArray W F') (hfr : rm.frames + 1 ≤ R.frames) (hlo : W1 + (maxL' + 11) + rm.locals ≤ R.locals) (hsz : ls.size = maxL) (hlen : ∀ sig, parseMethodDescriptor y'.desc = some sig → argsL.length = sig.parameters.length) (hst : stk = argsL.reverse ++ .ref a :: rest) (hW1 : (rest.map fun v => v.category).sum ≤ W1)
    (hcells : cells + rm.cells ≤ R.cells) (hslots : slots + rm.slots ≤ R.slots) (ec : cells + rm.cells = cells') (es : slots + rm.slots = slots') (hp : pc + 3 = pc') (k : ∀ v W', F' v W' → Go l Z n0 R code maxL y ret D W' cells' slots' pc' ls (v.toList ++ rest) F) : Go l Z n0 R code maxL y ret D W cells slots pc ls stk F := by
  subst hp ec es
  obtain ⟨p, e, s, m, args, below, meth, c⟩ := D
  intro hx hZ hby hml hown hnm hret hlk T locs X N Wd
  obtain ⟨cl, q1, q2⟩ := (Wd.get hi).2.1.cell
  have hpr : s.PrivateAt y' := Cond.privateMethod_at (mvP hZ w3 (args := #[]))
  obtain ⟨cB, kB, b1, b2, b3, b4⟩ := Cond.instantiable_spec (mv (args := args) hZ w4)
  obtain ⟨mk, methM, hnamed, hmethM, hstM, habM⟩ := Cond.instanceMethod_spec (mvT (args := args) hZ w2)
  obtain ⟨methM', cM, hmethM', -, -, -, -, -, -, hsigM⟩ := Cond.code_spec hnamed (mvT (args := args) hZ w6)
  cases hmethM.symm.trans hmethM'
  have hcB : mk.cls = cB := Option.some.inj ((findClass_of_methodNamed hnamed).symm.trans b1)
  subst hcB
  have hselP : selectMethod e.platform s.vm cl.cls mk = .method mk := selectMethod_private hmethM (hpr mk methM hnamed hmethM)
  obtain ⟨vm₁, X₁, hstep₁⟩ := X.invokevirtualNest hx hown (Cond.methodLinkNest_wide hZ w1 :) hnamed hmethM hstM b2 (Bool.or_eq_false_iff.mp b4.1).1 hy q1 q2 hselP hmethM habM b2 (Bool.or_eq_false_iff.mp b4.1).1 (g := mkF m pc ls stk) rfl (argsL := argsL) (rest := rest) (hlen _ hsigM) hst (hb hby hd)
  obtain ⟨v, ⟨T', L', k', n'⟩, X', ⟨Lc, ⟨hFr, W', hWd, hF⟩, l1, y1, z1⟩, hsteps⟩ := backOf (W := W1) (R := R) (p := p) (below := below) (args := args) (e := e) (len := 3) (h := T.heap) (Q := fun v h L => Fr n0 L ∧ ∃ W', World Z n0 h W' ∧ F' v W') (M T.heap Wd) hZ w6 w5 hfr hlo m meth c ⟨T.setVm vm₁, locs, cells, slots⟩ (mkF m pc ls rest) (.invokevirtual idx) mk (.ref a :: argsL).toArray X₁ rfl (hsz.trans hml.symm) (hb hby hd) (by show 2 * 0 + _ ≤ _; show 2 * 0 + (rest.map fun v => v.category).sum ≤ _; omega) (X₁.named hnamed) ⟨rfl, rfl, hcells, hslots⟩
  dsimp only [Pt.U, Pt.locs, Pt.cells, Pt.slots] at X' l1 y1 z1 hsteps hWd
  subst l1 y1 z1
  obtain ⟨s₂, o, h1, h2⟩ := k v W' hF hx hZ hby hml hown hnm hret hlk T' _ X' (Fr.app N hFr) hWd
  exact ⟨s₂, o, ((hstep₁ _ fun acts => by rw [doInvoke_state]; exact Steps.refl _).trans hsteps).trans h1, h2⟩
theorem Go.callPR {idx W1 cells' slots' maxL' i kk : Nat} {fs : List (String × String × Value)} {y' : MethodName} {bytes' : ByteArray} {ret' : Option FieldType} {rm : Room} {a : Addr} {argsL rest : List Value} {F' : Option Value → Wld → Prop} (hd : decode code pc = .ok (.invokevirtual idx, 3)) (w1 : (Jvm.Cond.methodRef y.cls idx y').before a0 Z = true) (w2 : (Jvm.Cond.instanceMethod y').before a0 Z = true) (w3 : (Jvm.Cond.privateMethod y').before a0 Z = true) (w4 : (Jvm.Cond.instantiable y'.cls kk).before a0 Z = true) (w5 : (Jvm.Cond.initialized y'.cls).before a0 Z = true) (w6 : (Jvm.Cond.code y' bytes' maxL' ret').before a0 Z = true)
    (hy : y'.cls ≠ "java/lang/invoke/MethodHandle" ∧ y'.cls ≠ "java/lang/invoke/VarHandle") (hi : W[i]? = some (a, .inl (y'.cls, fs))) (M : Meets l Z n0 y' bytes' maxL' ret' rm [] (.ref a :: argsL).toArray W F') (hfr : rm.frames + 1 ≤ R.frames) (hlo : W1 + (maxL' + 11) + rm.locals ≤ R.locals) (hsz : ls.size = maxL) (hlen : ∀ sig, parseMethodDescriptor y'.desc = some sig → argsL.length = sig.parameters.length) (hst : stk = argsL.reverse ++ .ref a :: rest) (hW1 : (rest.map fun v => v.category).sum ≤ W1)
    (hcells : cells + rm.cells ≤ R.cells) (hslots : slots + rm.slots ≤ R.slots) (ec : cells + rm.cells = cells') (es : slots + rm.slots = slots') (hp : pc + 3 = pc') (k : ∀ v W', F' v W' → Go l Z n0 R code maxL y ret D W' cells' slots' pc' ls (v.toList ++ rest) F) : Go l Z n0 R code maxL y ret D W cells slots pc ls stk F := by
  subst hp ec es
  obtain ⟨p, e, s, m, args, below, meth, c⟩ := D
  intro hx hZ hby hml hown hnm hret hlk T locs X N Wd
  obtain ⟨cl, q1, q2⟩ := (Wd.get hi).2.1.cell
  have hpr : s.PrivateAt y' := Cond.privateMethod_at (mvP hZ w3 (args := #[]))
  obtain ⟨cB, kB, b1, b2, b3, b4⟩ := Cond.instantiable_spec (mv (args := args) hZ w4)
  obtain ⟨mk, methM, hnamed, hmethM, hstM, habM⟩ := Cond.instanceMethod_spec (mvT (args := args) hZ w2)
  obtain ⟨methM', cM, hmethM', -, -, -, -, -, -, hsigM⟩ := Cond.code_spec hnamed (mvT (args := args) hZ w6)
  cases hmethM.symm.trans hmethM'
  have hcB : mk.cls = cB := Option.some.inj ((findClass_of_methodNamed hnamed).symm.trans b1)
  subst hcB
  obtain ⟨mkZ, methZ, nZ, -, -, -⟩ := Cond.instanceMethod_spec w2
  have hT : Z.Warmed39 T.vm := wtrans hZ X.warmed
  have hrT := Cond.methodRef_warmed39 hT nZ hy w1
  have hownT : (Z.setVm T.vm).vm.findClass y.cls = some m.cls := by
    show T.vm.findClass y.cls = _
    rw [X.warmed.alike.findClass]; exact hown
  obtain ⟨mr, cc, f1, f2, f3, f4⟩ := Cond.methodRef_named e (s := Z.setVm T.vm) hownT hrT
  have hnT : T.methodNamed? y' = some mk := by
    have q : (s.setVm T.vm).methodNamed? y' = some mk := by rw [State.methodNamed?_setVm X.warmed.alike]; exact hnamed
    exact q
  have hnT' : (Z.setVm T.vm).methodNamed? y' = some mk := hnT
  have emr : mk = mr := Option.some.inj ((State.methodFound?_of_named hnT' hy).symm.trans f1)
  subst emr
  obtain ⟨kT, k1, k2⟩ := X.warmed.alike.2.2 _ _ b2
  have hcc : cc = mk.cls := by
    have q : T.vm.findClass y'.cls = some cc := f3
    exact Option.some.inj (q.symm.trans (findClass_of_methodNamed hnT))
  subst hcc
  have hni : kT.isInterface = false := by rw [k2]; exact (Bool.or_eq_false_iff.mp b4.1).1
  obtain ⟨kN, n1, n2⟩ := className_of_methodNamed hnT
  cases k1.symm.trans n1
  have hpoly : signaturePolymorphic kT methM = false := by simp [signaturePolymorphic, n2, hy.1, hy.2]
  have hmT : T.vm.method? mk = some methM := by rw [X.warmed.alike.method?]; exact hmethM
  have hselT : selectMethod e.platform T.vm cl.cls mk = .method mk := selectMethod_private hmT (hpr mk methM hnamed hmethM)
  have hstep : ∀ target, (∀ acts, Steps p.tables e below (doInvoke e (T.setTop (mkF m pc ls rest)) acts mk (.ref a :: argsL).toArray).1 target) → Steps p.tables e below (T.setTop (mkF m pc ls stk)) target := by
    intro target hrest
    jvm_step X.here [hx, hb hby hd, invokevirtual.wp_named (e := e) (s := T) (f := mkF m pc ls stk) X.here.top f4 k1 hni f2 k1 hmT hpoly hstM (hlen _ hsigM) hst q1 q2 hselT hmT habM k1 hni]
    exact fun acts => hrest _
  obtain ⟨v, ⟨T', L', k', n'⟩, X', ⟨Lc, ⟨hFr, W', hWd, hF⟩, l1, y1, z1⟩, hsteps⟩ := backOf (W := W1) (R := R) (p := p) (below := below) (args := args) (e := e) (len := 3) (h := T.heap) (Q := fun v h L => Fr n0 L ∧ ∃ W', World Z n0 h W' ∧ F' v W') (M T.heap Wd) hZ w6 w5 hfr hlo m meth c ⟨T, locs, cells, slots⟩ (mkF m pc ls rest) (.invokevirtual idx) mk (.ref a :: argsL).toArray X rfl (hsz.trans hml.symm) (hb hby hd) (by show 2 * 0 + (rest.map fun v => v.category).sum ≤ _; omega) hnT ⟨rfl, rfl, hcells, hslots⟩
  dsimp only [Pt.U, Pt.locs, Pt.cells, Pt.slots] at X' l1 y1 z1 hsteps hWd
  subst l1 y1 z1
  obtain ⟨s₂, o, h1, h2⟩ := k v W' hF hx hZ hby hml hown hnm hret hlk T' _ X' (Fr.app N hFr) hWd
  exact ⟨s₂, o, ((hstep _ fun acts => by rw [doInvoke_state]; exact Steps.refl _).trans hsteps).trans h1, h2⟩
theorem Go.pick {W' : Wld} (is : List Nat) (h : is.filterMap (fun i => W[i]?) = W') (hn : is.Nodup) (k : Go l Z n0 R code maxL y ret D W' cells slots pc ls stk F) : Go l Z n0 R code maxL y ret D W cells slots pc ls stk F := by
  obtain ⟨p, e, s, m, args, below, meth, c⟩ := D
  intro hx hZ hby hml hown hnm hret hlk T locs X N Wd
  refine k hx hZ hby hml hown hnm hret hlk T locs X N ⟨Wd.1, ?_, fun q hq => ?_⟩
  · subst h
    clear k
    induction is with
    | nil => simp
    | cons i is ih =>
      rw [List.nodup_cons] at hn
      cases hi : W[i]? with
      | none => rw [List.filterMap_cons_none hi]; exact ih hn.2
      | some q =>
        rw [List.filterMap_cons_some hi, List.map_cons, List.nodup_cons]
        refine ⟨fun hm => ?_, ih hn.2⟩
        obtain ⟨r, hr, e1⟩ := List.mem_map.mp hm
        obtain ⟨j, hj, hrj⟩ := List.mem_filterMap.mp hr
        have h1 : (W.map fun q => q.1)[i]? = some q.1 := by rw [List.getElem?_map, hi]; rfl
        have h2 : (W.map fun q => q.1)[j]? = some q.1 := by rw [List.getElem?_map, hrj, ← e1]; rfl
        have e2 := own_nodup Wd.2.1 h1 h2
        exact hn.1 (by rw [e2]; exact hj)
  · subst h
    obtain ⟨j, -, hj⟩ := List.mem_filterMap.mp hq
    exact Wd.2.2 q (List.mem_of_getElem? hj)
end OwnNest
/-! what the methods compute, as plain functions -/
def lc (x y : Int64) : Int32 := if x < y then -1 else if x = y then 0 else 1
def ic (x y : Int32) : Int32 := if x < y then -1 else if x = y then 0 else 1
def mn (x y : Int64) : Int64 := if y < x then y else x
def minI (x : Int64) (c : Int32) (y : Int64) : Int64 := if c = 0 then x else mn x y
def cmpS (qs : List Int32) (os vs : List Int64) (a b : Int32) : Option Int32 :=
  (rdA vs a).bind fun x => (rdA vs b).bind fun y =>
    if lc x y = 0 then (rdA qs a).bind fun u => (rdA qs b).bind fun w =>
      if ic u w = 0 then (rdA os a).bind fun m => (rdA os b).bind fun n => some (lc m n) else some (ic u w)
    else some (lc x y)
def plF (R hp : List Int32) (i x : Int32) : Option (List Int32 × List Int32) := (wrA R i x).bind fun R' => (wrA hp x i).bind fun hp' => some (R', hp')
def upL (cmp : Int32 → Int32 → Option Int32) : Nat → List Int32 → List Int32 → Int32 → Int32 → Option (List Int32 × List Int32)
  | 0, _, _, _, _ => none
  | f + 1, R, hp, i, x => if 0 < i then (rdA R ((i - 1) / 2)).bind fun u => (cmp x u).bind fun c => if c < 0 then (plF R hp i u).bind fun z => upL cmp f z.1 z.2 ((i - 1) / 2) x else plF R hp i x else plF R hp i x
def upF (cmp : Int32 → Int32 → Option Int32) (R hp : List Int32) (i : Int32) : Option (List Int32 × List Int32) := (rdA R i).bind fun x => upL cmp 4 R hp i x
def chF (cmp : Int32 → Int32 → Option Int32) (R : List Int32) (sz i : Int32) : Option Int32 :=
  if 2 * i + 1 + 1 < sz then (rdA R (2 * i + 1 + 1)).bind fun a => (rdA R (2 * i + 1)).bind fun b => (cmp a b).bind fun k => some (if k < 0 then 2 * i + 1 + 1 else 2 * i + 1) else some (2 * i + 1)
def dnL (cmp : Int32 → Int32 → Option Int32) (sz : Int32) : Nat → List Int32 → List Int32 → Int32 → Int32 → Int32 → Option (List Int32 × List Int32)
  | 0, _, _, _, _, _ => none
  | f + 1, R, hp, i, x, sk => if sk = 0 then plF R hp i x else if 2 * i + 1 < sz then (chF cmp R sz i).bind fun ch => (rdA R ch).bind fun u => (cmp u x).bind fun k => if k < 0 then (plF R hp i u).bind fun z => dnL cmp sz f z.1 z.2 ch x 1 else dnL cmp sz f R hp i x 0 else plF R hp i x
def dnF (cmp : Int32 → Int32 → Option Int32) (sz : Int32) (R hp : List Int32) (i : Int32) : Option (List Int32 × List Int32) := (rdA R i).bind fun x => dnL cmp sz 4 R hp i x 1
def addH (cmp : Int32 → Int32 → Option Int32) (R hp : List Int32) (sz x : Int32) : Option (List Int32 × List Int32) := (plF R hp sz x).bind fun z => upF cmp z.1 z.2 (sz + 1 - 1)
def remH (cmp : Int32 → Int32 → Option Int32) (R hp : List Int32) (sz x : Int32) : Option (List Int32 × List Int32) :=
  (rdA hp x).bind fun i => (rdA R (sz - 1)).bind fun la => if i < sz - 1 then (plF R hp i la).bind fun z => (upF cmp z.1 z.2 i).bind fun z => (rdA z.2 la).bind fun j => dnF cmp (sz - 1) z.1 z.2 j else some (R, hp)
def bkF (n : Int32) (q : Int32) (o : Int64) : Int32 := (XT.ushrL ((XT.ushrL (((o * (-7046029254386353131)) ^^^ q.toInt64) * (-4658895280553007687)) 32) * n.toInt64) 32).toInt32
def aft (n i : Int32) : Int32 := if i + 1 = n then 0 else i + 1
def dst (n i j : Int32) : Int32 := if j < i then j - i + n else j - i
def slotL (q : Int32) (o : Int64) (qs : List Int32) (os : List Int64) (tb : List Int32) : Nat → Int32 → Int32 → Option Int32
  | 0, _, _ => none
  | f + 1, i, fd => if fd < 0 then (rdA tb i).bind fun e => if e = 0 then some fd else (rdA qs (e - 1)).bind fun u => (if u = q then (rdA os (e - 1)).bind fun w => some (if w = o then e - 1 else -1) else some (-1)).bind fun fd' => slotL q o qs os tb f (aft tb.length.toInt32 i) fd' else some fd
def slotF (q : Int32) (o : Int64) (qs : List Int32) (os : List Int64) (tb : List Int32) : Option Int32 := if 0 < tb.length.toInt32 then slotL q o qs os tb 8 (bkF tb.length.toInt32 q o) (-1) else some (-1)
def linkL (tb : List Int32) (x : Int32) : Nat → Int32 → Option (List Int32)
  | 0, _ => none
  | f + 1, i => (rdA tb i).bind fun e => if e = 0 then wrA tb i (x + 1) else linkL tb x f (aft tb.length.toInt32 i)
def linkF (qs : List Int32) (os : List Int64) (tb : List Int32) (x : Int32) : Option (List Int32) := (rdA qs x).bind fun q => (rdA os x).bind fun o => linkL tb x 8 (bkF tb.length.toInt32 q o)
def unl1 (tb : List Int32) (x : Int32) : Nat → Int32 → Option Int32
  | 0, _ => none
  | f + 1, g => (rdA tb g).bind fun e => if e = x + 1 then some g else unl1 tb x f (aft tb.length.toInt32 g)
def unl2 (qs : List Int32) (os : List Int64) : Nat → List Int32 → Int32 → Int32 → Option (List Int32)
  | 0, _, _, _ => none
  | f + 1, tb, g, i => (rdA tb i).bind fun e => if e = 0 then wrA tb g 0 else (rdA qs (e - 1)).bind fun q => (rdA os (e - 1)).bind fun o =>
      if dst tb.length.toInt32 (bkF tb.length.toInt32 q o) i < dst tb.length.toInt32 g i then unl2 qs os f tb g (aft tb.length.toInt32 i) else (wrA tb g e).bind fun tb' => unl2 qs os f tb' i (aft tb'.length.toInt32 i)
def unlF (qs : List Int32) (os : List Int64) (tb : List Int32) (x : Int32) : Option (List Int32) := (rdA qs x).bind fun q => (rdA os x).bind fun o => (unl1 tb x 8 (bkF tb.length.toInt32 q o)).bind fun g => unl2 qs os 8 tb g (aft tb.length.toInt32 g)
abbrev Hs : Type := List Int32 × Int32 × List Int32 × Int32 × List Int32
def addD (qs : List Int32) (os vs : List Int64) (ats : List Int32) (mx x : Int32) (H : Hs) : Option Hs :=
  (rdA ats x).bind fun a => if a < mx then (addH (cmpS qs os vs) H.1 H.2.2.2.2 H.2.1 x).bind fun z => some (z.1, H.2.1 + 1, H.2.2.1, H.2.2.2.1, z.2)
    else (addH (cmpS qs os vs) H.2.2.1 H.2.2.2.2 H.2.2.2.1 x).bind fun z => some (H.1, H.2.1, z.1, H.2.2.2.1 + 1, z.2)
def remD (qs : List Int32) (os vs : List Int64) (ats : List Int32) (mx x : Int32) (H : Hs) : Option Hs :=
  (rdA ats x).bind fun a => if a < mx then (remH (cmpS qs os vs) H.1 H.2.2.2.2 H.2.1 x).bind fun z => some (z.1, H.2.1 - 1, H.2.2.1, H.2.2.2.1, z.2)
    else (remH (cmpS qs os vs) H.2.2.1 H.2.2.2.2 H.2.2.2.1 x).bind fun z => some (H.1, H.2.1, z.1, H.2.2.2.1 - 1, z.2)
def maxL (qs : List Int32) (os vs : List Int64) (ats : List Int32) (mx us : Int32) : Nat → Int32 → Hs → Option Hs
  | 0, _, _ => none
  | f + 1, i, H => if i < us then (rdA qs i).bind fun q => if q = -1 then maxL qs os vs ats mx us f (i + 1) H else (addD qs os vs ats mx i H).bind fun H' => maxL qs os vs ats mx us f (i + 1) H' else some H
def DW (d r s aq ao aa av ai ah ab hr hs : Addr) (mx ct us fr sr ss : Int32) (qs : List Int32) (os : List Int64) (ats : List Int32) (vs ids : List Int64) (hp tb R S : List Int32) : Wld := [(d, .inl ("com/example/pulld/pulld/broker/InFlightDeliveries", [("returning", "Lcom/example/pulld/pulld/broker/InFlightDeliveries$ByVisibleAt;", (.ref r)), ("lastAttempts", "Lcom/example/pulld/pulld/broker/InFlightDeliveries$ByVisibleAt;", (.ref s)), ("maxAttempts", "I", (.int mx)), ("count", "I", (.int ct)), ("usedSlots", "I", (.int us)), ("firstFree", "I", (.int fr)), ("queues", "[I", (.ref aq)), ("offsets", "[J", (.ref ao)), ("attempts", "[I", (.ref aa)), ("visibleAts", "[J", (.ref av)), ("ids", "[J", (.ref ai)), ("heapPlaces", "[I", (.ref ah)), ("table", "[I", (.ref ab))])), (r, .inl ("com/example/pulld/pulld/broker/InFlightDeliveries$ByVisibleAt", [("this$0", "Lcom/example/pulld/pulld/broker/InFlightDeliveries;", (.ref d)), ("heap", "[I", (.ref hr)), ("size", "I", (.int sr))])), (s, .inl ("com/example/pulld/pulld/broker/InFlightDeliveries$ByVisibleAt", [("this$0", "Lcom/example/pulld/pulld/broker/InFlightDeliveries;", (.ref d)), ("heap", "[I", (.ref hs)), ("size", "I", (.int ss))])), (aq, .inr (.inl qs)), (ao, .inr (.inr os)), (aa, .inr (.inl ats)), (av, .inr (.inr vs)), (ai, .inr (.inr ids)), (ah, .inr (.inl hp)), (ab, .inr (.inl tb)), (hr, .inr (.inl R)), (hs, .inr (.inl S))]
theorem own_cgt (u v : Int64) : 0 < XT.cmpL u v ↔ v < u := by unfold XT.cmpL; split <;> (try split) <;> simp_all
theorem own_clt (u v : Int64) : XT.cmpL u v < 0 ↔ u < v := by
  unfold XT.cmpL
  split
  · rename_i h; simp only [Int64.lt_iff_toInt_lt] at *; constructor <;> intro q
    · exact absurd q (by decide)
    · omega
  · split
    · rename_i h1 h2; subst h2; simp
    · rename_i h1 h2; simp only [Int64.lt_iff_toInt_lt, ← Int64.toInt_inj] at *; constructor <;> intro q
      · omega
      · decide
theorem own_ceq (u v : Int64) : XT.cmpL u v = 0 ↔ u = v := by
  unfold XT.cmpL
  split
  · rename_i h; constructor <;> intro q
    · exact absurd q (by decide)
    · subst q; simp at h
  · split
    · rename_i h; simp [h]
    · rename_i h; simp [h]
theorem d23_0 : decode jdk_35_method_42_code 0 = .ok (.lload_n 0, 1) := by decide +kernel
theorem d23_1 : decode jdk_35_method_42_code 1 = .ok (.lload_n 2, 1) := by decide +kernel
theorem d23_2 : decode jdk_35_method_42_code 2 = .ok (.lcmp, 1) := by decide +kernel
theorem d23_3 : decode jdk_35_method_42_code 3 = .ok (.ifCond .ge 7, 3) := by decide +kernel
theorem d23_6 : decode jdk_35_method_42_code 6 = .ok (.iconst (-1), 1) := by decide +kernel
theorem d23_7 : decode jdk_35_method_42_code 7 = .ok (.goto 14, 3) := by decide +kernel
theorem d23_10 : decode jdk_35_method_42_code 10 = .ok (.lload_n 0, 1) := by decide +kernel
theorem d23_11 : decode jdk_35_method_42_code 11 = .ok (.lload_n 2, 1) := by decide +kernel
theorem d23_12 : decode jdk_35_method_42_code 12 = .ok (.lcmp, 1) := by decide +kernel
theorem d23_13 : decode jdk_35_method_42_code 13 = .ok (.ifCond .ne 7, 3) := by decide +kernel
theorem d23_16 : decode jdk_35_method_42_code 16 = .ok (.iconst 0, 1) := by decide +kernel
theorem d23_17 : decode jdk_35_method_42_code 17 = .ok (.goto 4, 3) := by decide +kernel
theorem d23_20 : decode jdk_35_method_42_code 20 = .ok (.iconst 1, 1) := by decide +kernel
theorem d23_21 : decode jdk_35_method_42_code 21 = .ok (.ireturn, 1) := by decide +kernel
set_option maxRecDepth 65536 in
set_option maxHeartbeats 40000000 in
theorem rm23 (l : Launch) (Z : State) (n0 : Nat) (w0 : Array Value) (hw : ∀ d ∈ tables_1, d.before w0 Z = true) (q0 q1 : Int64) (W : Wld) :
    Meets l Z n0 (⟨"java/lang/Long", "compare", "(JJ)I"⟩ : MethodName) jdk_35_method_42_code 4 (some .int) ({ frames := 0, cells := 0, slots := 0, locals := 0 } : Room) [] #[(.long q0), (.long q1)] W (fun v W' => v = some (.int (lc q0 q1)) ∧ W' = W) := by
  refine Meets.of_go (ls := #[.val (.long q0), .second, .val (.long q1), .second]) (plainFor_of_name (by first | (simp [plainName, overriddenIn]; done) | decide +kernel)) (fun m => by first | (simp [entryFrame, mkF, argsToLocals, Value.category, maxLocals]; done) | rfl) (fun D => ?_)
  refine Go.lloadN (pc' := 1) d23_0 rfl rfl ?_
  refine Go.lloadN (pc' := 2) d23_1 rfl rfl ?_
  refine Go.lcmp (pc' := 3) d23_2 rfl ?_
  refine Go.if_ge (pcY := 10) (pcN := 6) d23_3 (by decide) (by decide) rfl (fun hc3 => ?_) (fun hc3 => ?_)
  ·
    refine Go.lloadN (pc' := 11) d23_10 rfl rfl ?_
    refine Go.lloadN (pc' := 12) d23_11 rfl rfl ?_
    refine Go.lcmp (pc' := 13) d23_12 rfl ?_
    refine Go.if_ne (pcY := 20) (pcN := 16) d23_13 (by decide) (by decide) rfl (fun hc13 => ?_) (fun hc13 => ?_)
    ·
      refine Go.iconst (pc' := 21) (v := (1 : Int32)) d23_20 rfl rfl ?_
      exact Go.retI d23_21 rfl (by decide) (by decide) ⟨by rw [lc, if_neg (fun q => hc3 ((own_clt _ _).mpr q)), if_neg (fun q => hc13 ((own_ceq _ _).mpr q))], rfl⟩
    ·
      refine Go.iconst (pc' := 17) (v := (0 : Int32)) d23_16 rfl rfl ?_
      refine Go.goto (pc' := 21) d23_17 (by decide) (by decide) ?_
      exact Go.retI d23_21 rfl (by decide) (by decide) ⟨by rw [lc, if_neg (fun q => hc3 ((own_clt _ _).mpr q)), if_pos ((own_ceq _ _).mp hc13)], rfl⟩
  ·
    refine Go.iconst (pc' := 7) (v := (-1 : Int32)) d23_6 rfl rfl ?_
    refine Go.goto (pc' := 21) d23_7 (by decide) (by decide) ?_
    exact Go.retI d23_21 rfl (by decide) (by decide) ⟨by rw [lc, if_pos ((own_clt _ _).mp hc3)], rfl⟩
theorem d35_0 : decode jdk_33_method_40_code 0 = .ok (.iload_n 0, 1) := by decide +kernel
theorem d35_1 : decode jdk_33_method_40_code 1 = .ok (.iload_n 1, 1) := by decide +kernel
theorem d35_2 : decode jdk_33_method_40_code 2 = .ok (.if_icmp .ge 7, 3) := by decide +kernel
theorem d35_5 : decode jdk_33_method_40_code 5 = .ok (.iconst (-1), 1) := by decide +kernel
theorem d35_6 : decode jdk_33_method_40_code 6 = .ok (.goto 13, 3) := by decide +kernel
theorem d35_9 : decode jdk_33_method_40_code 9 = .ok (.iload_n 0, 1) := by decide +kernel
theorem d35_10 : decode jdk_33_method_40_code 10 = .ok (.iload_n 1, 1) := by decide +kernel
theorem d35_11 : decode jdk_33_method_40_code 11 = .ok (.if_icmp .ne 7, 3) := by decide +kernel
theorem d35_14 : decode jdk_33_method_40_code 14 = .ok (.iconst 0, 1) := by decide +kernel
theorem d35_15 : decode jdk_33_method_40_code 15 = .ok (.goto 4, 3) := by decide +kernel
theorem d35_18 : decode jdk_33_method_40_code 18 = .ok (.iconst 1, 1) := by decide +kernel
theorem d35_19 : decode jdk_33_method_40_code 19 = .ok (.ireturn, 1) := by decide +kernel
set_option maxRecDepth 65536 in
set_option maxHeartbeats 40000000 in
theorem rm35 (l : Launch) (Z : State) (n0 : Nat) (w0 : Array Value) (hw : ∀ d ∈ tables_1, d.before w0 Z = true) (p0 p1 : Int32) (W : Wld) :
    Meets l Z n0 (⟨"java/lang/Integer", "compare", "(II)I"⟩ : MethodName) jdk_33_method_40_code 2 (some .int) ({ frames := 0, cells := 0, slots := 0, locals := 0 } : Room) [] #[(.int p0), (.int p1)] W (fun v W' => v = some (.int (ic p0 p1)) ∧ W' = W) := by
  refine Meets.of_go (ls := #[.val (.int p0), .val (.int p1)]) (plainFor_of_name (by first | (simp [plainName, overriddenIn]; done) | decide +kernel)) (fun m => by first | (simp [entryFrame, mkF, argsToLocals, Value.category, maxLocals]; done) | rfl) (fun D => ?_)
  refine Go.iloadN (pc' := 1) d35_0 rfl rfl ?_
  refine Go.iloadN (pc' := 2) d35_1 rfl rfl ?_
  refine Go.icmp_ge (pcY := 9) (pcN := 5) d35_2 (by decide) (by decide) rfl (fun hc2 => ?_) (fun hc2 => ?_)
  ·
    refine Go.iloadN (pc' := 10) d35_9 rfl rfl ?_
    refine Go.iloadN (pc' := 11) d35_10 rfl rfl ?_
    refine Go.icmp_ne (pcY := 18) (pcN := 14) d35_11 (by decide) (by decide) rfl (fun hc11 => ?_) (fun hc11 => ?_)
    ·
      refine Go.iconst (pc' := 19) (v := (1 : Int32)) d35_18 rfl rfl ?_
      exact Go.retI d35_19 rfl (by decide) (by decide) ⟨by rw [ic, if_neg hc2, if_neg hc11], rfl⟩
    ·
      refine Go.iconst (pc' := 15) (v := (0 : Int32)) d35_14 rfl rfl ?_
      refine Go.goto (pc' := 19) d35_15 (by decide) (by decide) ?_
      exact Go.retI d35_19 rfl (by decide) (by decide) ⟨by rw [ic, if_neg hc2, if_pos hc11], rfl⟩
  ·
    refine Go.iconst (pc' := 6) (v := (-1 : Int32)) d35_5 rfl rfl ?_
    refine Go.goto (pc' := 19) d35_6 (by decide) (by decide) ?_
    exact Go.retI d35_19 rfl (by decide) (by decide) ⟨by rw [ic, if_pos hc2], rfl⟩
theorem d29_0 : decode jdk_29_method_70_code 0 = .ok (.lload_n 0, 1) := by decide +kernel
theorem d29_1 : decode jdk_29_method_70_code 1 = .ok (.lload_n 2, 1) := by decide +kernel
theorem d29_2 : decode jdk_29_method_70_code 2 = .ok (.lcmp, 1) := by decide +kernel
theorem d29_3 : decode jdk_29_method_70_code 3 = .ok (.ifCond .gt 7, 3) := by decide +kernel
theorem d29_6 : decode jdk_29_method_70_code 6 = .ok (.lload_n 0, 1) := by decide +kernel
theorem d29_7 : decode jdk_29_method_70_code 7 = .ok (.goto 4, 3) := by decide +kernel
theorem d29_10 : decode jdk_29_method_70_code 10 = .ok (.lload_n 2, 1) := by decide +kernel
theorem d29_11 : decode jdk_29_method_70_code 11 = .ok (.lreturn, 1) := by decide +kernel
set_option maxRecDepth 65536 in
set_option maxHeartbeats 40000000 in
theorem rm29 (l : Launch) (Z : State) (n0 : Nat) (w0 : Array Value) (hw : ∀ d ∈ tables_1, d.before w0 Z = true) (q0 q1 : Int64) (W : Wld) :
    Meets l Z n0 (⟨"java/lang/Math", "min", "(JJ)J"⟩ : MethodName) jdk_29_method_70_code 4 (some .long) ({ frames := 0, cells := 0, slots := 0, locals := 0 } : Room) [] #[(.long q0), (.long q1)] W (fun v W' => v = some (.long (mn q0 q1)) ∧ W' = W) := by
  refine Meets.of_go (ls := #[.val (.long q0), .second, .val (.long q1), .second]) (by decide +kernel) (fun m => by first | (simp [entryFrame, mkF, argsToLocals, Value.category, maxLocals]; done) | rfl) (fun D => ?_)
  refine Go.lloadN (pc' := 1) d29_0 rfl rfl ?_
  refine Go.lloadN (pc' := 2) d29_1 rfl rfl ?_
  refine Go.lcmp (pc' := 3) d29_2 rfl ?_
  refine Go.if_gt (pcY := 10) (pcN := 6) d29_3 (by decide) (by decide) rfl (fun hc3 => ?_) (fun hc3 => ?_)
  ·
    refine Go.lloadN (pc' := 11) d29_10 rfl rfl ?_
    exact Go.retJ d29_11 rfl (by decide) (by decide) ⟨by rw [mn, if_pos ((own_cgt _ _).mp hc3)], rfl⟩
  ·
    refine Go.lloadN (pc' := 7) d29_6 rfl rfl ?_
    refine Go.goto (pc' := 11) d29_7 (by decide) (by decide) ?_
    exact Go.retJ d29_11 rfl (by decide) (by decide) ⟨by rw [mn, if_neg (fun q => hc3 ((own_cgt _ _).mpr q))], rfl⟩
theorem d28_0 : decode method_2_code 0 = .ok (.iload_n 2, 1) := by decide +kernel
theorem d28_1 : decode method_2_code 1 = .ok (.ifCond .eq 11, 3) := by decide +kernel
theorem d28_4 : decode method_2_code 4 = .ok (.lload_n 0, 1) := by decide +kernel
theorem d28_5 : decode method_2_code 5 = .ok (.lload_n 3, 1) := by decide +kernel
theorem d28_6 : decode method_2_code 6 = .ok (.invokestatic 7, 3) := by decide +kernel
theorem d28_9 : decode method_2_code 9 = .ok (.goto 4, 3) := by decide +kernel
theorem d28_12 : decode method_2_code 12 = .ok (.lload_n 0, 1) := by decide +kernel
theorem d28_13 : decode method_2_code 13 = .ok (.lreturn, 1) := by decide +kernel
theorem pd__28JJ_29J : parseMethodDescriptor "(JJ)J" = some ⟨[.long, .long], (some .long)⟩ := by decide +kernel
set_option maxRecDepth 65536 in
set_option maxHeartbeats 40000000 in
theorem rm28 (l : Launch) (Z : State) (n0 : Nat) (w0 : Array Value) (hw : ∀ d ∈ tables_1, d.before w0 Z = true) (q0 : Int64) (p1 : Int32) (q2 : Int64) (W : Wld) :
    Meets l Z n0 (⟨"com/example/pulld/pulld/broker/ByVisibleAtFirstAtPinLaw", "minIf", "(JZJ)J"⟩ : MethodName) method_2_code 5 (some .long) ({ frames := 1, cells := 0, slots := 0, locals := 15 } : Room) [] #[(.long q0), (.int p1), (.long q2)] W (fun v W' => v = some (.long (minI q0 p1 q2)) ∧ W' = W) := by
  refine Meets.of_go (ls := #[.val (.long q0), .second, .val (.int p1), .val (.long q2), .second]) (plainFor_of_name (by first | (simp [plainName, overriddenIn]; done) | decide +kernel)) (fun m => by first | (simp [entryFrame, mkF, argsToLocals, Value.category, maxLocals]; done) | rfl) (fun D => ?_)
  refine Go.iloadN (pc' := 1) d28_0 rfl rfl ?_
  refine Go.if_eq (pcY := 12) (pcN := 4) d28_1 (by decide) (by decide) rfl (fun hc1 => ?_) (fun hc1 => ?_)
  ·
    refine Go.lloadN (pc' := 13) d28_12 rfl rfl ?_
    exact Go.retJ d28_13 rfl (by decide) (by decide) ⟨by rw [minI, if_pos hc1], rfl⟩
  ·
    refine Go.lloadN (pc' := 5) d28_4 rfl rfl ?_
    refine Go.lloadN (pc' := 6) d28_5 rfl rfl ?_
    refine Go.callS (pc' := 9) (W1 := 0) (cells' := 0) (slots' := 0) (argsL := [(.long q0), (.long q2)]) (rest := []) (y' := (⟨"java/lang/Math", "min", "(JJ)J"⟩ : MethodName)) d28_6 (hw _ (List.mem_of_getElem? (i := 178) rfl)) (hw _ (List.mem_of_getElem? (i := 179) rfl)) (hw _ (List.mem_of_getElem? (i := 180) rfl)) (hw _ (List.mem_of_getElem? (i := 181) rfl)) (by decide) (rm29 l Z n0 w0 hw q0 q2 W) (by decide) (by decide) rfl (lenOf pd__28JJ_29J rfl) rfl (Nat.le_of_eq rfl) (by decide) (by decide) rfl rfl rfl (fun v W' hF => ?_)
    obtain ⟨rfl, hWW⟩ := hF
    rw [hWW]
    refine Go.val ?_
    refine Go.goto (pc' := 13) d28_9 (by decide) (by decide) ?_
    exact Go.retJ d28_13 rfl (by decide) (by decide) ⟨by rw [minI, if_neg hc1], rfl⟩
theorem d5_0 : decode jdk_30_method_1_code 0 = .ok (.aload_n 0, 1) := by decide +kernel
theorem d5_1 : decode jdk_30_method_1_code 1 = .ok (.invokespecial 1, 3) := by decide +kernel
theorem d5_4 : decode jdk_30_method_1_code 4 = .ok (.return_, 1) := by decide +kernel
set_option maxRecDepth 65536 in
set_option maxHeartbeats 40000000 in
theorem rm5 (l : Launch) (Z : State) (n0 : Nat) (w0 : Array Value) (hw : ∀ d ∈ tables_1, d.before w0 Z = true) (a0 : Addr) (W : Wld) :
    Meets l Z n0 (⟨"java/lang/Record", "<init>", "()V"⟩ : MethodName) jdk_30_method_1_code 1 none ({ frames := 1, cells := 0, slots := 0, locals := 12 } : Room) [] #[(.ref a0)] W (fun v W' => v = none ∧ W' = W) := by
  refine Meets.of_go (ls := #[.val (.ref a0)]) (plainFor_of_name (by first | (simp [plainName, overriddenIn]; done) | decide +kernel)) (fun m => by first | (simp [entryFrame, mkF, argsToLocals, Value.category, maxLocals]; done) | rfl) (fun D => ?_)
  refine Go.aloadN (pc' := 1) d5_0 rfl rfl rfl ?_
  refine Go.initO (pc' := 4) (W1 := 0) d5_1 (hw _ (List.mem_of_getElem? (i := 56) rfl)) (hw _ (List.mem_of_getElem? (i := 8) rfl)) (hw _ (List.mem_of_getElem? (i := 9) rfl)) rfl (by decide) (Nat.le_of_eq rfl) (by decide) rfl ?_
  exact Go.retV d5_4 rfl (by decide) (by decide) ⟨rfl, rfl⟩
theorem d7_0 : decode prog_11_method_5_code 0 = .ok (.aload_n 0, 1) := by decide +kernel
theorem d7_1 : decode prog_11_method_5_code 1 = .ok (.getfield 7, 3) := by decide +kernel
theorem d7_4 : decode prog_11_method_5_code 4 = .ok (.ireturn, 1) := by decide +kernel
set_option maxRecDepth 65536 in
set_option maxHeartbeats 40000000 in
theorem rm7 (l : Launch) (Z : State) (n0 : Nat) (w0 : Array Value) (hw : ∀ d ∈ tables_1, d.before w0 Z = true) (a0 : Addr) (ia : Nat) (fq : Int32) (fo : Int64) (fa : Int32) (fv fi : Int64) (W : Wld) (hia : W[ia]? = some (a0, (.inl ("com/example/pulld/pulld/broker/InFlight", [("queue", "I", .int fq), ("offset", "J", .long fo), ("attempt", "I", .int fa), ("visibleAt", "J", .long fv), ("id", "J", .long fi)])))) :
    Meets l Z n0 (⟨"com/example/pulld/pulld/broker/InFlight", "queue", "()I"⟩ : MethodName) prog_11_method_5_code 1 (some .int) ({ frames := 0, cells := 0, slots := 0, locals := 0 } : Room) [] #[(.ref a0)] W (fun v W' => v = some (.int fq) ∧ W' = W) := by
  refine Meets.of_go (ls := #[.val (.ref a0)]) (plainFor_of_name (by first | (simp [plainName, overriddenIn]; done) | decide +kernel)) (fun m => by first | (simp [entryFrame, mkF, argsToLocals, Value.category, maxLocals]; done) | rfl) (fun D => ?_)
  refine Go.aloadN (pc' := 1) d7_0 rfl rfl rfl ?_
  refine Go.getF (pc' := 4) (i := ia) (j := 0) (v := (.int fq)) (host := "") d7_1 (Or.inl (hw _ (List.mem_of_getElem? (i := 57) rfl))) hia rfl rfl ?_
  exact Go.retI d7_4 rfl (by decide) (by decide) ⟨rfl, rfl⟩
theorem d8_0 : decode prog_11_method_6_code 0 = .ok (.aload_n 0, 1) := by decide +kernel
theorem d8_1 : decode prog_11_method_6_code 1 = .ok (.getfield 13, 3) := by decide +kernel
theorem d8_4 : decode prog_11_method_6_code 4 = .ok (.lreturn, 1) := by decide +kernel
set_option maxRecDepth 65536 in
set_option maxHeartbeats 40000000 in
theorem rm8 (l : Launch) (Z : State) (n0 : Nat) (w0 : Array Value) (hw : ∀ d ∈ tables_1, d.before w0 Z = true) (a0 : Addr) (ia : Nat) (fq : Int32) (fo : Int64) (fa : Int32) (fv fi : Int64) (W : Wld) (hia : W[ia]? = some (a0, (.inl ("com/example/pulld/pulld/broker/InFlight", [("queue", "I", .int fq), ("offset", "J", .long fo), ("attempt", "I", .int fa), ("visibleAt", "J", .long fv), ("id", "J", .long fi)])))) :
    Meets l Z n0 (⟨"com/example/pulld/pulld/broker/InFlight", "offset", "()J"⟩ : MethodName) prog_11_method_6_code 1 (some .long) ({ frames := 0, cells := 0, slots := 0, locals := 0 } : Room) [] #[(.ref a0)] W (fun v W' => v = some (.long fo) ∧ W' = W) := by
  refine Meets.of_go (ls := #[.val (.ref a0)]) (plainFor_of_name (by first | (simp [plainName, overriddenIn]; done) | decide +kernel)) (fun m => by first | (simp [entryFrame, mkF, argsToLocals, Value.category, maxLocals]; done) | rfl) (fun D => ?_)
  refine Go.aloadN (pc' := 1) d8_0 rfl rfl rfl ?_
  refine Go.getF (pc' := 4) (i := ia) (j := 1) (v := (.long fo)) (host := "") d8_1 (Or.inl (hw _ (List.mem_of_getElem? (i := 59) rfl))) hia rfl rfl ?_
  exact Go.retJ d8_4 rfl (by decide) (by decide) ⟨rfl, rfl⟩
theorem d15_0 : decode prog_11_method_7_code 0 = .ok (.aload_n 0, 1) := by decide +kernel
theorem d15_1 : decode prog_11_method_7_code 1 = .ok (.getfield 17, 3) := by decide +kernel
theorem d15_4 : decode prog_11_method_7_code 4 = .ok (.ireturn, 1) := by decide +kernel
set_option maxRecDepth 65536 in
set_option maxHeartbeats 40000000 in
theorem rm15 (l : Launch) (Z : State) (n0 : Nat) (w0 : Array Value) (hw : ∀ d ∈ tables_1, d.before w0 Z = true) (a0 : Addr) (ia : Nat) (fq : Int32) (fo : Int64) (fa : Int32) (fv fi : Int64) (W : Wld) (hia : W[ia]? = some (a0, (.inl ("com/example/pulld/pulld/broker/InFlight", [("queue", "I", .int fq), ("offset", "J", .long fo), ("attempt", "I", .int fa), ("visibleAt", "J", .long fv), ("id", "J", .long fi)])))) :
    Meets l Z n0 (⟨"com/example/pulld/pulld/broker/InFlight", "attempt", "()I"⟩ : MethodName) prog_11_method_7_code 1 (some .int) ({ frames := 0, cells := 0, slots := 0, locals := 0 } : Room) [] #[(.ref a0)] W (fun v W' => v = some (.int fa) ∧ W' = W) := by
  refine Meets.of_go (ls := #[.val (.ref a0)]) (plainFor_of_name (by first | (simp [plainName, overriddenIn]; done) | decide +kernel)) (fun m => by first | (simp [entryFrame, mkF, argsToLocals, Value.category, maxLocals]; done) | rfl) (fun D => ?_)
  refine Go.aloadN (pc' := 1) d15_0 rfl rfl rfl ?_
  refine Go.getF (pc' := 4) (i := ia) (j := 2) (v := (.int fa)) (host := "") d15_1 (Or.inl (hw _ (List.mem_of_getElem? (i := 61) rfl))) hia rfl rfl ?_
  exact Go.retI d15_4 rfl (by decide) (by decide) ⟨rfl, rfl⟩
theorem d16_0 : decode prog_11_method_8_code 0 = .ok (.aload_n 0, 1) := by decide +kernel
theorem d16_1 : decode prog_11_method_8_code 1 = .ok (.getfield 20, 3) := by decide +kernel
theorem d16_4 : decode prog_11_method_8_code 4 = .ok (.lreturn, 1) := by decide +kernel
set_option maxRecDepth 65536 in
set_option maxHeartbeats 40000000 in
theorem rm16 (l : Launch) (Z : State) (n0 : Nat) (w0 : Array Value) (hw : ∀ d ∈ tables_1, d.before w0 Z = true) (a0 : Addr) (ia : Nat) (fq : Int32) (fo : Int64) (fa : Int32) (fv fi : Int64) (W : Wld) (hia : W[ia]? = some (a0, (.inl ("com/example/pulld/pulld/broker/InFlight", [("queue", "I", .int fq), ("offset", "J", .long fo), ("attempt", "I", .int fa), ("visibleAt", "J", .long fv), ("id", "J", .long fi)])))) :
    Meets l Z n0 (⟨"com/example/pulld/pulld/broker/InFlight", "visibleAt", "()J"⟩ : MethodName) prog_11_method_8_code 1 (some .long) ({ frames := 0, cells := 0, slots := 0, locals := 0 } : Room) [] #[(.ref a0)] W (fun v W' => v = some (.long fv) ∧ W' = W) := by
  refine Meets.of_go (ls := #[.val (.ref a0)]) (plainFor_of_name (by first | (simp [plainName, overriddenIn]; done) | decide +kernel)) (fun m => by first | (simp [entryFrame, mkF, argsToLocals, Value.category, maxLocals]; done) | rfl) (fun D => ?_)
  refine Go.aloadN (pc' := 1) d16_0 rfl rfl rfl ?_
  refine Go.getF (pc' := 4) (i := ia) (j := 3) (v := (.long fv)) (host := "") d16_1 (Or.inl (hw _ (List.mem_of_getElem? (i := 63) rfl))) hia rfl rfl ?_
  exact Go.retJ d16_4 rfl (by decide) (by decide) ⟨rfl, rfl⟩
theorem d17_0 : decode prog_11_method_9_code 0 = .ok (.aload_n 0, 1) := by decide +kernel
theorem d17_1 : decode prog_11_method_9_code 1 = .ok (.getfield 23, 3) := by decide +kernel
theorem d17_4 : decode prog_11_method_9_code 4 = .ok (.lreturn, 1) := by decide +kernel
set_option maxRecDepth 65536 in
set_option maxHeartbeats 40000000 in
theorem rm17 (l : Launch) (Z : State) (n0 : Nat) (w0 : Array Value) (hw : ∀ d ∈ tables_1, d.before w0 Z = true) (a0 : Addr) (ia : Nat) (fq : Int32) (fo : Int64) (fa : Int32) (fv fi : Int64) (W : Wld) (hia : W[ia]? = some (a0, (.inl ("com/example/pulld/pulld/broker/InFlight", [("queue", "I", .int fq), ("offset", "J", .long fo), ("attempt", "I", .int fa), ("visibleAt", "J", .long fv), ("id", "J", .long fi)])))) :
    Meets l Z n0 (⟨"com/example/pulld/pulld/broker/InFlight", "id", "()J"⟩ : MethodName) prog_11_method_9_code 1 (some .long) ({ frames := 0, cells := 0, slots := 0, locals := 0 } : Room) [] #[(.ref a0)] W (fun v W' => v = some (.long fi) ∧ W' = W) := by
  refine Meets.of_go (ls := #[.val (.ref a0)]) (plainFor_of_name (by first | (simp [plainName, overriddenIn]; done) | decide +kernel)) (fun m => by first | (simp [entryFrame, mkF, argsToLocals, Value.category, maxLocals]; done) | rfl) (fun D => ?_)
  refine Go.aloadN (pc' := 1) d17_0 rfl rfl rfl ?_
  refine Go.getF (pc' := 4) (i := ia) (j := 4) (v := (.long fi)) (host := "") d17_1 (Or.inl (hw _ (List.mem_of_getElem? (i := 65) rfl))) hia rfl rfl ?_
  exact Go.retJ d17_4 rfl (by decide) (by decide) ⟨rfl, rfl⟩
theorem d14_0 : decode prog_12_method_15_code 0 = .ok (.lload_n 2, 1) := by decide +kernel
theorem d14_1 : decode prog_12_method_15_code 1 = .ok (.ldc2_w 120, 3) := by decide +kernel
theorem d14_4 : decode prog_12_method_15_code 4 = .ok (.lmul, 1) := by decide +kernel
theorem d14_5 : decode prog_12_method_15_code 5 = .ok (.iload_n 1, 1) := by decide +kernel
theorem d14_6 : decode prog_12_method_15_code 6 = .ok (.i2l, 1) := by decide +kernel
theorem d14_7 : decode prog_12_method_15_code 7 = .ok (.lxor, 1) := by decide +kernel
theorem d14_8 : decode prog_12_method_15_code 8 = .ok (.ldc2_w 122, 3) := by decide +kernel
theorem d14_11 : decode prog_12_method_15_code 11 = .ok (.lmul, 1) := by decide +kernel
theorem d14_12 : decode prog_12_method_15_code 12 = .ok (.bipush 32, 2) := by decide +kernel
theorem d14_14 : decode prog_12_method_15_code 14 = .ok (.lushr, 1) := by decide +kernel
theorem d14_15 : decode prog_12_method_15_code 15 = .ok (.lstore 4, 2) := by decide +kernel
theorem d14_17 : decode prog_12_method_15_code 17 = .ok (.lload 4, 2) := by decide +kernel
theorem d14_19 : decode prog_12_method_15_code 19 = .ok (.aload_n 0, 1) := by decide +kernel
theorem d14_20 : decode prog_12_method_15_code 20 = .ok (.getfield 45, 3) := by decide +kernel
theorem d14_23 : decode prog_12_method_15_code 23 = .ok (.arraylength, 1) := by decide +kernel
theorem d14_24 : decode prog_12_method_15_code 24 = .ok (.i2l, 1) := by decide +kernel
theorem d14_25 : decode prog_12_method_15_code 25 = .ok (.lmul, 1) := by decide +kernel
theorem d14_26 : decode prog_12_method_15_code 26 = .ok (.bipush 32, 2) := by decide +kernel
theorem d14_28 : decode prog_12_method_15_code 28 = .ok (.lushr, 1) := by decide +kernel
theorem d14_29 : decode prog_12_method_15_code 29 = .ok (.l2i, 1) := by decide +kernel
theorem d14_30 : decode prog_12_method_15_code 30 = .ok (.ireturn, 1) := by decide +kernel
set_option maxRecDepth 65536 in
set_option maxHeartbeats 40000000 in
theorem rm14 (l : Launch) (Z : State) (n0 : Nat) (w0 : Array Value) (hw : ∀ d ∈ tables_1, d.before w0 Z = true) (p1 : Int32) (q2 : Int64) (d r s aq ao aa av ai ah ab hr hs : Addr) (mx ct us fr sr ss : Int32) (qs : List Int32) (os : List Int64) (ats : List Int32) (vs ids : List Int64) (hp tb R S : List Int32) (X : Wld) :
    Meets l Z n0 (⟨"com/example/pulld/pulld/broker/InFlightDeliveries", "bucket", "(IJ)I"⟩ : MethodName) prog_12_method_15_code 6 (some .int) ({ frames := 0, cells := 0, slots := 0, locals := 0 } : Room) [] #[(.ref d), (.int p1), (.long q2)] (DW d r s aq ao aa av ai ah ab hr hs mx ct us fr sr ss qs os ats vs ids hp tb R S ++ X) (fun v W' => v = some (.int (bkF tb.length.toInt32 p1 q2)) ∧ W' = (DW d r s aq ao aa av ai ah ab hr hs mx ct us fr sr ss qs os ats vs ids hp tb R S ++ X)) := by
  refine Meets.of_go (ls := #[.val (.ref d), .val (.int p1), .val (.long q2), .second, .unset, .unset]) (plainFor_of_name (by first | (simp [plainName, overriddenIn]; done) | decide +kernel)) (fun m => by first | (simp [entryFrame, mkF, argsToLocals, Value.category, maxLocals]; done) | rfl) (fun D => ?_)
  refine Go.lloadN (pc' := 1) d14_0 rfl rfl ?_
  refine Go.ldcL (pc' := 4) (v := (-7046029254386353131 : Int64)) d14_1 (hw _ (List.mem_of_getElem? (i := 112) rfl)) rfl ?_
  refine Go.lmul (pc' := 5) d14_4 rfl ?_
  refine Go.iloadN (pc' := 6) d14_5 rfl rfl ?_
  refine Go.i2l (pc' := 7) d14_6 rfl ?_
  refine Go.lxor (pc' := 8) d14_7 rfl ?_
  refine Go.ldcL (pc' := 11) (v := (-4658895280553007687 : Int64)) d14_8 (hw _ (List.mem_of_getElem? (i := 113) rfl)) rfl ?_
  refine Go.lmul (pc' := 12) d14_11 rfl ?_
  refine Go.bipush (pc' := 14) (v := (32 : Int32)) d14_12 rfl rfl ?_
  refine Go.lushr (pc' := 15) d14_14 rfl ?_
  refine Go.lstore (pc' := 17) (ls' := #[.val (.ref d), .val (.int p1), .val (.long q2), .second, .val (.long (XT.ushrL (((q2 * (-7046029254386353131 : Int64)) ^^^ p1.toInt64) * (-4658895280553007687 : Int64)) (32 : Int32))), .second]) d14_15 rfl rfl ?_
  refine Go.lload (pc' := 19) d14_17 rfl rfl ?_
  refine Go.aloadN (pc' := 20) d14_19 rfl rfl rfl ?_
  refine Go.getF (pc' := 23) (i := 0) (j := 12) (v := (.ref ab)) (host := "") d14_20 (Or.inl (hw _ (List.mem_of_getElem? (i := 41) rfl))) rfl rfl rfl ?_
  refine Go.alenI (pc' := 24) (i := 9) (n := tb.length.toInt32) d14_23 rfl rfl rfl ?_
  refine Go.i2l (pc' := 25) d14_24 rfl ?_
  refine Go.lmul (pc' := 26) d14_25 rfl ?_
  refine Go.bipush (pc' := 28) (v := (32 : Int32)) d14_26 rfl rfl ?_
  refine Go.lushr (pc' := 29) d14_28 rfl ?_
  refine Go.l2i (pc' := 30) d14_29 rfl ?_
  exact Go.retI d14_30 rfl (by decide) (by decide) ⟨rfl, rfl⟩
theorem d24_0 : decode prog_12_method_16_code 0 = .ok (.iload_n 1, 1) := by decide +kernel
theorem d24_1 : decode prog_12_method_16_code 1 = .ok (.iconst 1, 1) := by decide +kernel
theorem d24_2 : decode prog_12_method_16_code 2 = .ok (.iadd, 1) := by decide +kernel
theorem d24_3 : decode prog_12_method_16_code 3 = .ok (.aload_n 0, 1) := by decide +kernel
theorem d24_4 : decode prog_12_method_16_code 4 = .ok (.getfield 45, 3) := by decide +kernel
theorem d24_7 : decode prog_12_method_16_code 7 = .ok (.arraylength, 1) := by decide +kernel
theorem d24_8 : decode prog_12_method_16_code 8 = .ok (.if_icmp .ne 7, 3) := by decide +kernel
theorem d24_11 : decode prog_12_method_16_code 11 = .ok (.iconst 0, 1) := by decide +kernel
theorem d24_12 : decode prog_12_method_16_code 12 = .ok (.goto 6, 3) := by decide +kernel
theorem d24_15 : decode prog_12_method_16_code 15 = .ok (.iload_n 1, 1) := by decide +kernel
theorem d24_16 : decode prog_12_method_16_code 16 = .ok (.iconst 1, 1) := by decide +kernel
theorem d24_17 : decode prog_12_method_16_code 17 = .ok (.iadd, 1) := by decide +kernel
theorem d24_18 : decode prog_12_method_16_code 18 = .ok (.ireturn, 1) := by decide +kernel
set_option maxRecDepth 65536 in
set_option maxHeartbeats 40000000 in
theorem rm24 (l : Launch) (Z : State) (n0 : Nat) (w0 : Array Value) (hw : ∀ d ∈ tables_1, d.before w0 Z = true) (p1 : Int32) (d r s aq ao aa av ai ah ab hr hs : Addr) (mx ct us fr sr ss : Int32) (qs : List Int32) (os : List Int64) (ats : List Int32) (vs ids : List Int64) (hp tb R S : List Int32) (X : Wld) :
    Meets l Z n0 (⟨"com/example/pulld/pulld/broker/InFlightDeliveries", "after", "(I)I"⟩ : MethodName) prog_12_method_16_code 2 (some .int) ({ frames := 0, cells := 0, slots := 0, locals := 0 } : Room) [] #[(.ref d), (.int p1)] (DW d r s aq ao aa av ai ah ab hr hs mx ct us fr sr ss qs os ats vs ids hp tb R S ++ X) (fun v W' => v = some (.int (aft tb.length.toInt32 p1)) ∧ W' = (DW d r s aq ao aa av ai ah ab hr hs mx ct us fr sr ss qs os ats vs ids hp tb R S ++ X)) := by
  refine Meets.of_go (ls := #[.val (.ref d), .val (.int p1)]) (plainFor_of_name (by first | (simp [plainName, overriddenIn]; done) | decide +kernel)) (fun m => by first | (simp [entryFrame, mkF, argsToLocals, Value.category, maxLocals]; done) | rfl) (fun D => ?_)
  refine Go.iloadN (pc' := 1) d24_0 rfl rfl ?_
  refine Go.iconst (pc' := 2) (v := (1 : Int32)) d24_1 rfl rfl ?_
  refine Go.iadd (pc' := 3) d24_2 rfl ?_
  refine Go.aloadN (pc' := 4) d24_3 rfl rfl rfl ?_
  refine Go.getF (pc' := 7) (i := 0) (j := 12) (v := (.ref ab)) (host := "") d24_4 (Or.inl (hw _ (List.mem_of_getElem? (i := 41) rfl))) rfl rfl rfl ?_
  refine Go.alenI (pc' := 8) (i := 9) (n := tb.length.toInt32) d24_7 rfl rfl rfl ?_
  refine Go.icmp_ne (pcY := 15) (pcN := 11) d24_8 (by decide) (by decide) rfl (fun hc8 => ?_) (fun hc8 => ?_)
  ·
    refine Go.iloadN (pc' := 16) d24_15 rfl rfl ?_
    refine Go.iconst (pc' := 17) (v := (1 : Int32)) d24_16 rfl rfl ?_
    refine Go.iadd (pc' := 18) d24_17 rfl ?_
    exact Go.retI d24_18 rfl (by decide) (by decide) ⟨by rw [aft, if_neg hc8], rfl⟩
  ·
    refine Go.iconst (pc' := 12) (v := (0 : Int32)) d24_11 rfl rfl ?_
    refine Go.goto (pc' := 18) d24_12 (by decide) (by decide) ?_
    exact Go.retI d24_18 rfl (by decide) (by decide) ⟨by rw [aft, if_pos hc8], rfl⟩
theorem d37_0 : decode prog_12_method_17_code 0 = .ok (.iload_n 2, 1) := by decide +kernel
theorem d37_1 : decode prog_12_method_17_code 1 = .ok (.iload_n 1, 1) := by decide +kernel
theorem d37_2 : decode prog_12_method_17_code 2 = .ok (.if_icmp .lt 9, 3) := by decide +kernel
theorem d37_5 : decode prog_12_method_17_code 5 = .ok (.iload_n 2, 1) := by decide +kernel
theorem d37_6 : decode prog_12_method_17_code 6 = .ok (.iload_n 1, 1) := by decide +kernel
theorem d37_7 : decode prog_12_method_17_code 7 = .ok (.isub, 1) := by decide +kernel
theorem d37_8 : decode prog_12_method_17_code 8 = .ok (.goto 12, 3) := by decide +kernel
theorem d37_11 : decode prog_12_method_17_code 11 = .ok (.iload_n 2, 1) := by decide +kernel
theorem d37_12 : decode prog_12_method_17_code 12 = .ok (.iload_n 1, 1) := by decide +kernel
theorem d37_13 : decode prog_12_method_17_code 13 = .ok (.isub, 1) := by decide +kernel
theorem d37_14 : decode prog_12_method_17_code 14 = .ok (.aload_n 0, 1) := by decide +kernel
theorem d37_15 : decode prog_12_method_17_code 15 = .ok (.getfield 45, 3) := by decide +kernel
theorem d37_18 : decode prog_12_method_17_code 18 = .ok (.arraylength, 1) := by decide +kernel
theorem d37_19 : decode prog_12_method_17_code 19 = .ok (.iadd, 1) := by decide +kernel
theorem d37_20 : decode prog_12_method_17_code 20 = .ok (.ireturn, 1) := by decide +kernel
set_option maxRecDepth 65536 in
set_option maxHeartbeats 40000000 in
theorem rm37 (l : Launch) (Z : State) (n0 : Nat) (w0 : Array Value) (hw : ∀ d ∈ tables_1, d.before w0 Z = true) (p1 : Int32) (p2 : Int32) (d r s aq ao aa av ai ah ab hr hs : Addr) (mx ct us fr sr ss : Int32) (qs : List Int32) (os : List Int64) (ats : List Int32) (vs ids : List Int64) (hp tb R S : List Int32) (X : Wld) :
    Meets l Z n0 (⟨"com/example/pulld/pulld/broker/InFlightDeliveries", "distance", "(II)I"⟩ : MethodName) prog_12_method_17_code 3 (some .int) ({ frames := 0, cells := 0, slots := 0, locals := 0 } : Room) [] #[(.ref d), (.int p1), (.int p2)] (DW d r s aq ao aa av ai ah ab hr hs mx ct us fr sr ss qs os ats vs ids hp tb R S ++ X) (fun v W' => v = some (.int (dst tb.length.toInt32 p1 p2)) ∧ W' = (DW d r s aq ao aa av ai ah ab hr hs mx ct us fr sr ss qs os ats vs ids hp tb R S ++ X)) := by
  refine Meets.of_go (ls := #[.val (.ref d), .val (.int p1), .val (.int p2)]) (plainFor_of_name (by first | (simp [plainName, overriddenIn]; done) | decide +kernel)) (fun m => by first | (simp [entryFrame, mkF, argsToLocals, Value.category, maxLocals]; done) | rfl) (fun D => ?_)
  refine Go.iloadN (pc' := 1) d37_0 rfl rfl ?_
  refine Go.iloadN (pc' := 2) d37_1 rfl rfl ?_
  refine Go.icmp_lt (pcY := 11) (pcN := 5) d37_2 (by decide) (by decide) rfl (fun hc2 => ?_) (fun hc2 => ?_)
  ·
    refine Go.iloadN (pc' := 12) d37_11 rfl rfl ?_
    refine Go.iloadN (pc' := 13) d37_12 rfl rfl ?_
    refine Go.isub (pc' := 14) d37_13 rfl ?_
    refine Go.aloadN (pc' := 15) d37_14 rfl rfl rfl ?_
    refine Go.getF (pc' := 18) (i := 0) (j := 12) (v := (.ref ab)) (host := "") d37_15 (Or.inl (hw _ (List.mem_of_getElem? (i := 41) rfl))) rfl rfl rfl ?_
    refine Go.alenI (pc' := 19) (i := 9) (n := tb.length.toInt32) d37_18 rfl rfl rfl ?_
    refine Go.iadd (pc' := 20) d37_19 rfl ?_
    exact Go.retI d37_20 rfl (by decide) (by decide) ⟨by rw [dst, if_pos hc2], rfl⟩
  ·
    refine Go.iloadN (pc' := 6) d37_5 rfl rfl ?_
    refine Go.iloadN (pc' := 7) d37_6 rfl rfl ?_
    refine Go.isub (pc' := 8) d37_7 rfl ?_
    refine Go.goto (pc' := 20) d37_8 (by decide) (by decide) ?_
    exact Go.retI d37_20 rfl (by decide) (by decide) ⟨by rw [dst, if_neg hc2], rfl⟩
theorem d22_0 : decode prog_12_method_21_code 0 = .ok (.aload_n 0, 1) := by decide +kernel
theorem d22_1 : decode prog_12_method_21_code 1 = .ok (.getfield 36, 3) := by decide +kernel
theorem d22_4 : decode prog_12_method_21_code 4 = .ok (.iload_n 1, 1) := by decide +kernel
theorem d22_5 : decode prog_12_method_21_code 5 = .ok (.laload, 1) := by decide +kernel
theorem d22_6 : decode prog_12_method_21_code 6 = .ok (.aload_n 0, 1) := by decide +kernel
theorem d22_7 : decode prog_12_method_21_code 7 = .ok (.getfield 36, 3) := by decide +kernel
theorem d22_10 : decode prog_12_method_21_code 10 = .ok (.iload_n 2, 1) := by decide +kernel
theorem d22_11 : decode prog_12_method_21_code 11 = .ok (.laload, 1) := by decide +kernel
theorem d22_12 : decode prog_12_method_21_code 12 = .ok (.invokestatic 137, 3) := by decide +kernel
theorem d22_15 : decode prog_12_method_21_code 15 = .ok (.istore_n 3, 1) := by decide +kernel
theorem d22_16 : decode prog_12_method_21_code 16 = .ok (.iload_n 3, 1) := by decide +kernel
theorem d22_17 : decode prog_12_method_21_code 17 = .ok (.ifCond .ne 19, 3) := by decide +kernel
theorem d22_20 : decode prog_12_method_21_code 20 = .ok (.aload_n 0, 1) := by decide +kernel
theorem d22_21 : decode prog_12_method_21_code 21 = .ok (.getfield 25, 3) := by decide +kernel
theorem d22_24 : decode prog_12_method_21_code 24 = .ok (.iload_n 1, 1) := by decide +kernel
theorem d22_25 : decode prog_12_method_21_code 25 = .ok (.iaload, 1) := by decide +kernel
theorem d22_26 : decode prog_12_method_21_code 26 = .ok (.aload_n 0, 1) := by decide +kernel
theorem d22_27 : decode prog_12_method_21_code 27 = .ok (.getfield 25, 3) := by decide +kernel
theorem d22_30 : decode prog_12_method_21_code 30 = .ok (.iload_n 2, 1) := by decide +kernel
theorem d22_31 : decode prog_12_method_21_code 31 = .ok (.iaload, 1) := by decide +kernel
theorem d22_32 : decode prog_12_method_21_code 32 = .ok (.invokestatic 143, 3) := by decide +kernel
theorem d22_35 : decode prog_12_method_21_code 35 = .ok (.istore_n 3, 1) := by decide +kernel
theorem d22_36 : decode prog_12_method_21_code 36 = .ok (.iload_n 3, 1) := by decide +kernel
theorem d22_37 : decode prog_12_method_21_code 37 = .ok (.ifCond .ne 19, 3) := by decide +kernel
theorem d22_40 : decode prog_12_method_21_code 40 = .ok (.aload_n 0, 1) := by decide +kernel
theorem d22_41 : decode prog_12_method_21_code 41 = .ok (.getfield 29, 3) := by decide +kernel
theorem d22_44 : decode prog_12_method_21_code 44 = .ok (.iload_n 1, 1) := by decide +kernel
theorem d22_45 : decode prog_12_method_21_code 45 = .ok (.laload, 1) := by decide +kernel
theorem d22_46 : decode prog_12_method_21_code 46 = .ok (.aload_n 0, 1) := by decide +kernel
theorem d22_47 : decode prog_12_method_21_code 47 = .ok (.getfield 29, 3) := by decide +kernel
theorem d22_50 : decode prog_12_method_21_code 50 = .ok (.iload_n 2, 1) := by decide +kernel
theorem d22_51 : decode prog_12_method_21_code 51 = .ok (.laload, 1) := by decide +kernel
theorem d22_52 : decode prog_12_method_21_code 52 = .ok (.invokestatic 137, 3) := by decide +kernel
theorem d22_55 : decode prog_12_method_21_code 55 = .ok (.istore_n 3, 1) := by decide +kernel
theorem d22_56 : decode prog_12_method_21_code 56 = .ok (.iload_n 3, 1) := by decide +kernel
theorem d22_57 : decode prog_12_method_21_code 57 = .ok (.ireturn, 1) := by decide +kernel
theorem pd__28II_29I : parseMethodDescriptor "(II)I" = some ⟨[.int, .int], (some .int)⟩ := by decide +kernel
theorem pd__28JJ_29I : parseMethodDescriptor "(JJ)I" = some ⟨[.long, .long], (some .int)⟩ := by decide +kernel
set_option maxRecDepth 65536 in
set_option maxHeartbeats 40000000 in
theorem rm22 (l : Launch) (Z : State) (n0 : Nat) (w0 : Array Value) (hw : ∀ d ∈ tables_1, d.before w0 Z = true) (p1 : Int32) (p2 : Int32) (d r s aq ao aa av ai ah ab hr hs : Addr) (mx ct us fr sr ss : Int32) (qs : List Int32) (os : List Int64) (ats : List Int32) (vs ids : List Int64) (hp tb R S : List Int32) (X : Wld) (kk : Int32) (hF : cmpS qs os vs p1 p2 = some kk) :
    Meets l Z n0 (⟨"com/example/pulld/pulld/broker/InFlightDeliveries", "compare", "(II)I"⟩ : MethodName) prog_12_method_21_code 4 (some .int) ({ frames := 1, cells := 0, slots := 0, locals := 15 } : Room) [] #[(.ref d), (.int p1), (.int p2)] (DW d r s aq ao aa av ai ah ab hr hs mx ct us fr sr ss qs os ats vs ids hp tb R S ++ X) (fun v W' => v = some (.int kk) ∧ W' = (DW d r s aq ao aa av ai ah ab hr hs mx ct us fr sr ss qs os ats vs ids hp tb R S ++ X)) := by
  refine Meets.of_go (ls := #[.val (.ref d), .val (.int p1), .val (.int p2), .unset]) (plainFor_of_name (by first | (simp [plainName, overriddenIn]; done) | decide +kernel)) (fun m => by first | (simp [entryFrame, mkF, argsToLocals, Value.category, maxLocals]; done) | rfl) (fun D => ?_)
  dsimp only [cmpS] at hF
  obtain ⟨x, hx, hF⟩ := own_bind hF
  obtain ⟨y, hy, hF⟩ := own_bind hF
  refine Go.aloadN (pc' := 1) d22_0 rfl rfl rfl ?_
  refine Go.getF (pc' := 4) (i := 0) (j := 9) (v := (.ref av)) (host := "") d22_1 (Or.inl (hw _ (List.mem_of_getElem? (i := 35) rfl))) rfl rfl rfl ?_
  refine Go.iloadN (pc' := 5) d22_4 rfl rfl ?_
  refine Go.laloadG (pc' := 6) (i := 6) d22_5 rfl hx rfl ?_
  refine Go.aloadN (pc' := 7) d22_6 rfl rfl rfl ?_
  refine Go.getF (pc' := 10) (i := 0) (j := 9) (v := (.ref av)) (host := "") d22_7 (Or.inl (hw _ (List.mem_of_getElem? (i := 35) rfl))) rfl rfl rfl ?_
  refine Go.iloadN (pc' := 11) d22_10 rfl rfl ?_
  refine Go.laloadG (pc' := 12) (i := 6) d22_11 rfl hy rfl ?_
  refine Go.callS (pc' := 15) (W1 := 0) (cells' := 0) (slots' := 0) (argsL := [(.long x), (.long y)]) (rest := []) (y' := (⟨"java/lang/Long", "compare", "(JJ)I"⟩ : MethodName)) d22_12 (hw _ (List.mem_of_getElem? (i := 152) rfl)) (hw _ (List.mem_of_getElem? (i := 153) rfl)) (hw _ (List.mem_of_getElem? (i := 154) rfl)) (hw _ (List.mem_of_getElem? (i := 155) rfl)) (by decide) (rm23 l Z n0 w0 hw x y (DW d r s aq ao aa av ai ah ab hr hs mx ct us fr sr ss qs os ats vs ids hp tb R S ++ X)) (by decide) (by decide) rfl (lenOf pd__28JJ_29I rfl) rfl (Nat.le_of_eq rfl) (by decide) (by decide) rfl rfl rfl (fun v W' hF => ?_)
  obtain ⟨rfl, rfl⟩ := hF
  refine Go.val ?_
  refine Go.istoreN (pc' := 16) (ls' := #[.val (.ref d), .val (.int p1), .val (.int p2), .val (.int (lc x y))]) d22_15 rfl rfl ?_
  refine Go.iloadN (pc' := 17) d22_16 rfl rfl ?_
  refine Go.if_ne (pcY := 36) (pcN := 20) d22_17 (by decide) (by decide) rfl (fun hc17 => ?_) (fun hc17 => ?_)
  ·
    rw [if_neg hc17] at hF
    refine Go.iloadN (pc' := 37) d22_36 rfl rfl ?_
    refine Go.if_ne (pcY := 56) (pcN := 40) d22_37 (by decide) (by decide) rfl (fun hc37 => ?_) (fun hc37 => absurd hc37 hc17)
    refine Go.iloadN (pc' := 57) d22_56 rfl rfl ?_
    exact Go.retI d22_57 rfl (by decide) (by decide) ⟨by rw [Option.some.inj hF], rfl⟩
  ·
    rw [if_pos hc17] at hF
    obtain ⟨u, hu, hF⟩ := own_bind hF
    obtain ⟨w, hw', hF⟩ := own_bind hF
    refine Go.aloadN (pc' := 21) d22_20 rfl rfl rfl ?_
    refine Go.getF (pc' := 24) (i := 0) (j := 6) (v := (.ref aq)) (host := "") d22_21 (Or.inl (hw _ (List.mem_of_getElem? (i := 28) rfl))) rfl rfl rfl ?_
    refine Go.iloadN (pc' := 25) d22_24 rfl rfl ?_
    refine Go.ialoadG (pc' := 26) (i := 3) d22_25 rfl hu rfl ?_
    refine Go.aloadN (pc' := 27) d22_26 rfl rfl rfl ?_
    refine Go.getF (pc' := 30) (i := 0) (j := 6) (v := (.ref aq)) (host := "") d22_27 (Or.inl (hw _ (List.mem_of_getElem? (i := 28) rfl))) rfl rfl rfl ?_
    refine Go.iloadN (pc' := 31) d22_30 rfl rfl ?_
    refine Go.ialoadG (pc' := 32) (i := 3) d22_31 rfl hw' rfl ?_
    refine Go.callS (pc' := 35) (W1 := 0) (cells' := 0) (slots' := 0) (argsL := [(.int u), (.int w)]) (rest := []) (y' := (⟨"java/lang/Integer", "compare", "(II)I"⟩ : MethodName)) d22_32 (hw _ (List.mem_of_getElem? (i := 208) rfl)) (hw _ (List.mem_of_getElem? (i := 209) rfl)) (hw _ (List.mem_of_getElem? (i := 210) rfl)) (hw _ (List.mem_of_getElem? (i := 211) rfl)) (by decide) (rm35 l Z n0 w0 hw u w (DW d r s aq ao aa av ai ah ab hr hs mx ct us fr sr ss qs os ats vs ids hp tb R S ++ X)) (by decide) (by decide) rfl (lenOf pd__28II_29I rfl) rfl (Nat.le_of_eq rfl) (by decide) (by decide) rfl rfl rfl (fun v W' hF => ?_)
    obtain ⟨rfl, rfl⟩ := hF
    refine Go.val ?_
    refine Go.istoreN (pc' := 36) (ls' := #[.val (.ref d), .val (.int p1), .val (.int p2), .val (.int (ic u w))]) d22_35 rfl rfl ?_
    refine Go.iloadN (pc' := 37) d22_36 rfl rfl ?_
    refine Go.if_ne (pcY := 56) (pcN := 40) d22_37 (by decide) (by decide) rfl (fun hc37 => ?_) (fun hc37 => ?_)
    ·
      rw [if_neg hc37] at hF
      refine Go.iloadN (pc' := 57) d22_56 rfl rfl ?_
      exact Go.retI d22_57 rfl (by decide) (by decide) ⟨by rw [Option.some.inj hF], rfl⟩
    ·
      rw [if_pos hc37] at hF
      obtain ⟨m, hm, hF⟩ := own_bind hF
      obtain ⟨n, hn, hF⟩ := own_bind hF
      refine Go.aloadN (pc' := 41) d22_40 rfl rfl rfl ?_
      refine Go.getF (pc' := 44) (i := 0) (j := 7) (v := (.ref ao)) (host := "") d22_41 (Or.inl (hw _ (List.mem_of_getElem? (i := 31) rfl))) rfl rfl rfl ?_
      refine Go.iloadN (pc' := 45) d22_44 rfl rfl ?_
      refine Go.laloadG (pc' := 46) (i := 4) d22_45 rfl hm rfl ?_
      refine Go.aloadN (pc' := 47) d22_46 rfl rfl rfl ?_
      refine Go.getF (pc' := 50) (i := 0) (j := 7) (v := (.ref ao)) (host := "") d22_47 (Or.inl (hw _ (List.mem_of_getElem? (i := 31) rfl))) rfl rfl rfl ?_
      refine Go.iloadN (pc' := 51) d22_50 rfl rfl ?_
      refine Go.laloadG (pc' := 52) (i := 4) d22_51 rfl hn rfl ?_
      refine Go.callS (pc' := 55) (W1 := 0) (cells' := 0) (slots' := 0) (argsL := [(.long m), (.long n)]) (rest := []) (y' := (⟨"java/lang/Long", "compare", "(JJ)I"⟩ : MethodName)) d22_52 (hw _ (List.mem_of_getElem? (i := 152) rfl)) (hw _ (List.mem_of_getElem? (i := 153) rfl)) (hw _ (List.mem_of_getElem? (i := 154) rfl)) (hw _ (List.mem_of_getElem? (i := 155) rfl)) (by decide) (rm23 l Z n0 w0 hw m n (DW d r s aq ao aa av ai ah ab hr hs mx ct us fr sr ss qs os ats vs ids hp tb R S ++ X)) (by decide) (by decide) rfl (lenOf pd__28JJ_29I rfl) rfl (Nat.le_of_eq rfl) (by decide) (by decide) rfl rfl rfl (fun v W' hF => ?_)
      obtain ⟨rfl, rfl⟩ := hF
      refine Go.val ?_
      refine Go.istoreN (pc' := 56) (ls' := #[.val (.ref d), .val (.int p1), .val (.int p2), .val (.int (lc m n))]) d22_55 rfl rfl ?_
      refine Go.iloadN (pc' := 57) d22_56 rfl rfl ?_
      exact Go.retI d22_57 rfl (by decide) (by decide) ⟨by rw [Option.some.inj hF], rfl⟩
theorem d18_0 : decode prog_12_method_12_code 0 = .ok (.aload_n 0, 1) := by decide +kernel
theorem d18_1 : decode prog_12_method_12_code 1 = .ok (.getfield 33, 3) := by decide +kernel
theorem d18_4 : decode prog_12_method_12_code 4 = .ok (.iload_n 1, 1) := by decide +kernel
theorem d18_5 : decode prog_12_method_12_code 5 = .ok (.iaload, 1) := by decide +kernel
theorem d18_6 : decode prog_12_method_12_code 6 = .ok (.aload_n 0, 1) := by decide +kernel
theorem d18_7 : decode prog_12_method_12_code 7 = .ok (.getfield 48, 3) := by decide +kernel
theorem d18_10 : decode prog_12_method_12_code 10 = .ok (.if_icmp .lt 10, 3) := by decide +kernel
theorem d18_20 : decode prog_12_method_12_code 20 = .ok (.aload_n 0, 1) := by decide +kernel
theorem d18_21 : decode prog_12_method_12_code 21 = .ok (.getfield 12, 3) := by decide +kernel
theorem d18_24 : decode prog_12_method_12_code 24 = .ok (.areturn, 1) := by decide +kernel
set_option maxRecDepth 65536 in
set_option maxHeartbeats 40000000 in
theorem byR (l : Launch) (Z : State) (n0 : Nat) (w0 : Array Value) (hw : ∀ d ∈ tables_1, d.before w0 Z = true) (p1 : Int32) (d r s aq ao aa av ai ah ab hr hs : Addr) (mx ct us fr sr ss : Int32) (qs : List Int32) (os : List Int64) (ats : List Int32) (vs ids : List Int64) (hp tb R S : List Int32) (X : Wld) (aa' : Int32) (ha : rdA ats p1 = some aa') (hc : aa' < mx) :
    Meets l Z n0 (⟨"com/example/pulld/pulld/broker/InFlightDeliveries", "byVisibleAt", "(I)Lcom/example/pulld/pulld/broker/InFlightDeliveries$ByVisibleAt;"⟩ : MethodName) prog_12_method_12_code 2 (some (.object "com/example/pulld/pulld/broker/InFlightDeliveries$ByVisibleAt")) ({ frames := 0, cells := 0, slots := 0, locals := 0 } : Room) [] #[(.ref d), (.int p1)] (DW d r s aq ao aa av ai ah ab hr hs mx ct us fr sr ss qs os ats vs ids hp tb R S ++ X) (fun v W' => v = some (.ref r) ∧ W' = (DW d r s aq ao aa av ai ah ab hr hs mx ct us fr sr ss qs os ats vs ids hp tb R S ++ X)) := by
  refine Meets.of_go (ls := #[.val (.ref d), .val (.int p1)]) (plainFor_of_name (by first | (simp [plainName, overriddenIn]; done) | decide +kernel)) (fun m => by first | (simp [entryFrame, mkF, argsToLocals, Value.category, maxLocals]; done) | rfl) (fun D => ?_)
  refine Go.aloadN (pc' := 1) d18_0 rfl rfl rfl ?_
  refine Go.getF (pc' := 4) (i := 0) (j := 8) (v := (.ref aa)) (host := "") d18_1 (Or.inl (hw _ (List.mem_of_getElem? (i := 33) rfl))) rfl rfl rfl ?_
  refine Go.iloadN (pc' := 5) d18_4 rfl rfl ?_
  refine Go.ialoadG (pc' := 6) (i := 5) d18_5 rfl ha rfl ?_
  refine Go.aloadN (pc' := 7) d18_6 rfl rfl rfl ?_
  refine Go.getF (pc' := 10) (i := 0) (j := 2) (v := (.int mx)) (host := "") d18_7 (Or.inl (hw _ (List.mem_of_getElem? (i := 43) rfl))) rfl rfl rfl ?_
  refine Go.icmp_lt (pcY := 20) (pcN := 13) d18_10 (by decide) (by decide) rfl (fun hc10 => ?_) (fun hc10 => absurd hc10 (Classical.not_not.mpr hc))
  refine Go.aloadN (pc' := 21) d18_20 rfl rfl rfl ?_
  refine Go.getF (pc' := 24) (i := 0) (j := 0) (v := (.ref r)) (host := "") d18_21 (Or.inl (hw _ (List.mem_of_getElem? (i := 22) rfl))) rfl rfl rfl ?_
  exact Go.retA d18_24 rfl rfl rfl rfl (by decide) (by decide) ⟨rfl, rfl⟩
theorem d18_13 : decode prog_12_method_12_code 13 = .ok (.aload_n 0, 1) := by decide +kernel
theorem d18_14 : decode prog_12_method_12_code 14 = .ok (.getfield 18, 3) := by decide +kernel
theorem d18_17 : decode prog_12_method_12_code 17 = .ok (.goto 7, 3) := by decide +kernel
set_option maxRecDepth 65536 in
set_option maxHeartbeats 40000000 in
theorem byS (l : Launch) (Z : State) (n0 : Nat) (w0 : Array Value) (hw : ∀ d ∈ tables_1, d.before w0 Z = true) (p1 : Int32) (d r s aq ao aa av ai ah ab hr hs : Addr) (mx ct us fr sr ss : Int32) (qs : List Int32) (os : List Int64) (ats : List Int32) (vs ids : List Int64) (hp tb R S : List Int32) (X : Wld) (aa' : Int32) (ha : rdA ats p1 = some aa') (hc : ¬ aa' < mx) :
    Meets l Z n0 (⟨"com/example/pulld/pulld/broker/InFlightDeliveries", "byVisibleAt", "(I)Lcom/example/pulld/pulld/broker/InFlightDeliveries$ByVisibleAt;"⟩ : MethodName) prog_12_method_12_code 2 (some (.object "com/example/pulld/pulld/broker/InFlightDeliveries$ByVisibleAt")) ({ frames := 0, cells := 0, slots := 0, locals := 0 } : Room) [] #[(.ref d), (.int p1)] (DW d r s aq ao aa av ai ah ab hr hs mx ct us fr sr ss qs os ats vs ids hp tb R S ++ X) (fun v W' => v = some (.ref s) ∧ W' = (DW d r s aq ao aa av ai ah ab hr hs mx ct us fr sr ss qs os ats vs ids hp tb R S ++ X)) := by
  refine Meets.of_go (ls := #[.val (.ref d), .val (.int p1)]) (plainFor_of_name (by first | (simp [plainName, overriddenIn]; done) | decide +kernel)) (fun m => by first | (simp [entryFrame, mkF, argsToLocals, Value.category, maxLocals]; done) | rfl) (fun D => ?_)
  refine Go.aloadN (pc' := 1) d18_0 rfl rfl rfl ?_
  refine Go.getF (pc' := 4) (i := 0) (j := 8) (v := (.ref aa)) (host := "") d18_1 (Or.inl (hw _ (List.mem_of_getElem? (i := 33) rfl))) rfl rfl rfl ?_
  refine Go.iloadN (pc' := 5) d18_4 rfl rfl ?_
  refine Go.ialoadG (pc' := 6) (i := 5) d18_5 rfl ha rfl ?_
  refine Go.aloadN (pc' := 7) d18_6 rfl rfl rfl ?_
  refine Go.getF (pc' := 10) (i := 0) (j := 2) (v := (.int mx)) (host := "") d18_7 (Or.inl (hw _ (List.mem_of_getElem? (i := 43) rfl))) rfl rfl rfl ?_
  refine Go.icmp_lt (pcY := 20) (pcN := 13) d18_10 (by decide) (by decide) rfl (fun hc10 => absurd hc10 hc) (fun hc10 => ?_)
  refine Go.aloadN (pc' := 14) d18_13 rfl rfl rfl ?_
  refine Go.getF (pc' := 17) (i := 0) (j := 1) (v := (.ref s)) (host := "") d18_14 (Or.inl (hw _ (List.mem_of_getElem? (i := 24) rfl))) rfl rfl rfl ?_
  refine Go.goto (pc' := 24) d18_17 (by decide) (by decide) ?_
  exact Go.retA d18_24 rfl rfl rfl rfl (by decide) (by decide) ⟨rfl, rfl⟩
theorem d30_0 : decode prog_12_method_3_code 0 = .ok (.aload_n 0, 1) := by decide +kernel
theorem d30_1 : decode prog_12_method_3_code 1 = .ok (.getfield 12, 3) := by decide +kernel
theorem d30_4 : decode prog_12_method_3_code 4 = .ok (.areturn, 1) := by decide +kernel
set_option maxRecDepth 65536 in
set_option maxHeartbeats 40000000 in
theorem rm30 (l : Launch) (Z : State) (n0 : Nat) (w0 : Array Value) (hw : ∀ d ∈ tables_1, d.before w0 Z = true) (d r s aq ao aa av ai ah ab hr hs : Addr) (mx ct us fr sr ss : Int32) (qs : List Int32) (os : List Int64) (ats : List Int32) (vs ids : List Int64) (hp tb R S : List Int32) (X : Wld) :
    Meets l Z n0 (⟨"com/example/pulld/pulld/broker/InFlightDeliveries", "returning", "()Lcom/example/pulld/pulld/broker/InFlightDeliveries$ByVisibleAt;"⟩ : MethodName) prog_12_method_3_code 1 (some (.object "com/example/pulld/pulld/broker/InFlightDeliveries$ByVisibleAt")) ({ frames := 0, cells := 0, slots := 0, locals := 0 } : Room) [] #[(.ref d)] (DW d r s aq ao aa av ai ah ab hr hs mx ct us fr sr ss qs os ats vs ids hp tb R S ++ X) (fun v W' => v = some (.ref r) ∧ W' = (DW d r s aq ao aa av ai ah ab hr hs mx ct us fr sr ss qs os ats vs ids hp tb R S ++ X)) := by
  refine Meets.of_go (ls := #[.val (.ref d)]) (plainFor_of_name (by first | (simp [plainName, overriddenIn]; done) | decide +kernel)) (fun m => by first | (simp [entryFrame, mkF, argsToLocals, Value.category, maxLocals]; done) | rfl) (fun D => ?_)
  refine Go.aloadN (pc' := 1) d30_0 rfl rfl rfl ?_
  refine Go.getF (pc' := 4) (i := 0) (j := 0) (v := (.ref r)) (host := "") d30_1 (Or.inl (hw _ (List.mem_of_getElem? (i := 22) rfl))) rfl rfl rfl ?_
  exact Go.retA d30_4 rfl rfl rfl rfl (by decide) (by decide) ⟨rfl, rfl⟩
theorem d32_0 : decode prog_12_method_4_code 0 = .ok (.aload_n 0, 1) := by decide +kernel
theorem d32_1 : decode prog_12_method_4_code 1 = .ok (.getfield 18, 3) := by decide +kernel
theorem d32_4 : decode prog_12_method_4_code 4 = .ok (.areturn, 1) := by decide +kernel
set_option maxRecDepth 65536 in
set_option maxHeartbeats 40000000 in
theorem rm32 (l : Launch) (Z : State) (n0 : Nat) (w0 : Array Value) (hw : ∀ d ∈ tables_1, d.before w0 Z = true) (d r s aq ao aa av ai ah ab hr hs : Addr) (mx ct us fr sr ss : Int32) (qs : List Int32) (os : List Int64) (ats : List Int32) (vs ids : List Int64) (hp tb R S : List Int32) (X : Wld) :
    Meets l Z n0 (⟨"com/example/pulld/pulld/broker/InFlightDeliveries", "lastAttempts", "()Lcom/example/pulld/pulld/broker/InFlightDeliveries$ByVisibleAt;"⟩ : MethodName) prog_12_method_4_code 1 (some (.object "com/example/pulld/pulld/broker/InFlightDeliveries$ByVisibleAt")) ({ frames := 0, cells := 0, slots := 0, locals := 0 } : Room) [] #[(.ref d)] (DW d r s aq ao aa av ai ah ab hr hs mx ct us fr sr ss qs os ats vs ids hp tb R S ++ X) (fun v W' => v = some (.ref s) ∧ W' = (DW d r s aq ao aa av ai ah ab hr hs mx ct us fr sr ss qs os ats vs ids hp tb R S ++ X)) := by
  refine Meets.of_go (ls := #[.val (.ref d)]) (plainFor_of_name (by first | (simp [plainName, overriddenIn]; done) | decide +kernel)) (fun m => by first | (simp [entryFrame, mkF, argsToLocals, Value.category, maxLocals]; done) | rfl) (fun D => ?_)
  refine Go.aloadN (pc' := 1) d32_0 rfl rfl rfl ?_
  refine Go.getF (pc' := 4) (i := 0) (j := 1) (v := (.ref s)) (host := "") d32_1 (Or.inl (hw _ (List.mem_of_getElem? (i := 24) rfl))) rfl rfl rfl ?_
  exact Go.retA d32_4 rfl rfl rfl rfl (by decide) (by decide) ⟨rfl, rfl⟩
theorem d9_0 : decode prog_12_method_18_code 0 = .ok (.iconst (-1), 1) := by decide +kernel
theorem d9_1 : decode prog_12_method_18_code 1 = .ok (.istore 4, 2) := by decide +kernel
theorem d9_3 : decode prog_12_method_18_code 3 = .ok (.aload_n 0, 1) := by decide +kernel
theorem d9_4 : decode prog_12_method_18_code 4 = .ok (.getfield 45, 3) := by decide +kernel
theorem d9_7 : decode prog_12_method_18_code 7 = .ok (.arraylength, 1) := by decide +kernel
theorem d9_8 : decode prog_12_method_18_code 8 = .ok (.ifCond .le 79, 3) := by decide +kernel
theorem d9_11 : decode prog_12_method_18_code 11 = .ok (.aload_n 0, 1) := by decide +kernel
theorem d9_12 : decode prog_12_method_18_code 12 = .ok (.iload_n 1, 1) := by decide +kernel
theorem d9_13 : decode prog_12_method_18_code 13 = .ok (.lload_n 2, 1) := by decide +kernel
theorem d9_14 : decode prog_12_method_18_code 14 = .ok (.invokevirtual 126, 3) := by decide +kernel
theorem d9_17 : decode prog_12_method_18_code 17 = .ok (.istore 5, 2) := by decide +kernel
theorem d9_19 : decode prog_12_method_18_code 19 = .ok (.iload 4, 2) := by decide +kernel
theorem d9_21 : decode prog_12_method_18_code 21 = .ok (.ifCond .ge 66, 3) := by decide +kernel
theorem d9_24 : decode prog_12_method_18_code 24 = .ok (.aload_n 0, 1) := by decide +kernel
theorem d9_25 : decode prog_12_method_18_code 25 = .ok (.getfield 45, 3) := by decide +kernel
theorem d9_28 : decode prog_12_method_18_code 28 = .ok (.iload 5, 2) := by decide +kernel
theorem d9_30 : decode prog_12_method_18_code 30 = .ok (.iaload, 1) := by decide +kernel
theorem d9_31 : decode prog_12_method_18_code 31 = .ok (.ifCond .eq 56, 3) := by decide +kernel
theorem d9_34 : decode prog_12_method_18_code 34 = .ok (.aload_n 0, 1) := by decide +kernel
theorem d9_35 : decode prog_12_method_18_code 35 = .ok (.getfield 45, 3) := by decide +kernel
theorem d9_38 : decode prog_12_method_18_code 38 = .ok (.iload 5, 2) := by decide +kernel
theorem d9_40 : decode prog_12_method_18_code 40 = .ok (.iaload, 1) := by decide +kernel
theorem d9_41 : decode prog_12_method_18_code 41 = .ok (.iconst 1, 1) := by decide +kernel
theorem d9_42 : decode prog_12_method_18_code 42 = .ok (.isub, 1) := by decide +kernel
theorem d9_43 : decode prog_12_method_18_code 43 = .ok (.istore 6, 2) := by decide +kernel
theorem d9_45 : decode prog_12_method_18_code 45 = .ok (.aload_n 0, 1) := by decide +kernel
theorem d9_46 : decode prog_12_method_18_code 46 = .ok (.getfield 25, 3) := by decide +kernel
theorem d9_49 : decode prog_12_method_18_code 49 = .ok (.iload 6, 2) := by decide +kernel
theorem d9_51 : decode prog_12_method_18_code 51 = .ok (.iaload, 1) := by decide +kernel
theorem d9_52 : decode prog_12_method_18_code 52 = .ok (.iload_n 1, 1) := by decide +kernel
theorem d9_53 : decode prog_12_method_18_code 53 = .ok (.if_icmp .ne 20, 3) := by decide +kernel
theorem d9_56 : decode prog_12_method_18_code 56 = .ok (.aload_n 0, 1) := by decide +kernel
theorem d9_57 : decode prog_12_method_18_code 57 = .ok (.getfield 29, 3) := by decide +kernel
theorem d9_60 : decode prog_12_method_18_code 60 = .ok (.iload 6, 2) := by decide +kernel
theorem d9_62 : decode prog_12_method_18_code 62 = .ok (.laload, 1) := by decide +kernel
theorem d9_63 : decode prog_12_method_18_code 63 = .ok (.lload_n 2, 1) := by decide +kernel
theorem d9_64 : decode prog_12_method_18_code 64 = .ok (.lcmp, 1) := by decide +kernel
theorem d9_65 : decode prog_12_method_18_code 65 = .ok (.ifCond .ne 8, 3) := by decide +kernel
theorem d9_68 : decode prog_12_method_18_code 68 = .ok (.iload 6, 2) := by decide +kernel
theorem d9_70 : decode prog_12_method_18_code 70 = .ok (.goto 4, 3) := by decide +kernel
theorem d9_73 : decode prog_12_method_18_code 73 = .ok (.iconst (-1), 1) := by decide +kernel
theorem d9_74 : decode prog_12_method_18_code 74 = .ok (.istore 4, 2) := by decide +kernel
theorem d9_76 : decode prog_12_method_18_code 76 = .ok (.aload_n 0, 1) := by decide +kernel
theorem d9_77 : decode prog_12_method_18_code 77 = .ok (.iload 5, 2) := by decide +kernel
theorem d9_79 : decode prog_12_method_18_code 79 = .ok (.invokevirtual 129, 3) := by decide +kernel
theorem d9_82 : decode prog_12_method_18_code 82 = .ok (.istore 5, 2) := by decide +kernel
theorem d9_84 : decode prog_12_method_18_code 84 = .ok (.goto (-65), 3) := by decide +kernel
theorem d9_87 : decode prog_12_method_18_code 87 = .ok (.iload 4, 2) := by decide +kernel
theorem d9_89 : decode prog_12_method_18_code 89 = .ok (.ireturn, 1) := by decide +kernel
theorem pd__28I_29I : parseMethodDescriptor "(I)I" = some ⟨[.int], (some .int)⟩ := by decide +kernel
theorem pd__28IJ_29I : parseMethodDescriptor "(IJ)I" = some ⟨[.int, .long], (some .int)⟩ := by decide +kernel
set_option maxRecDepth 65536 in
set_option maxHeartbeats 40000000 in
theorem rm9 (l : Launch) (Z : State) (n0 : Nat) (w0 : Array Value) (hw : ∀ d ∈ tables_1, d.before w0 Z = true) (p1 : Int32) (q2 : Int64) (d r s aq ao aa av ai ah ab hr hs : Addr) (mx ct us fr sr ss : Int32) (qs : List Int32) (os : List Int64) (ats : List Int32) (vs ids : List Int64) (hp tb R S : List Int32) (X : Wld) (kk : Int32) (hF : slotF p1 q2 qs os tb = some kk) :
    Meets l Z n0 (⟨"com/example/pulld/pulld/broker/InFlightDeliveries", "slotOf", "(IJ)I"⟩ : MethodName) prog_12_method_18_code 7 (some .int) ({ frames := 1, cells := 0, slots := 0, locals := 17 } : Room) [] #[(.ref d), (.int p1), (.long q2)] (DW d r s aq ao aa av ai ah ab hr hs mx ct us fr sr ss qs os ats vs ids hp tb R S ++ X) (fun v W' => v = some (.int kk) ∧ W' = (DW d r s aq ao aa av ai ah ab hr hs mx ct us fr sr ss qs os ats vs ids hp tb R S ++ X)) := by
  refine Meets.of_go (ls := #[.val (.ref d), .val (.int p1), .val (.long q2), .second, .unset, .unset, .unset]) (plainFor_of_name (by first | (simp [plainName, overriddenIn]; done) | decide +kernel)) (fun m => by first | (simp [entryFrame, mkF, argsToLocals, Value.category, maxLocals]; done) | rfl) (fun D => ?_)
  dsimp only [slotF] at hF
  have k19 : ∀ (f : Nat) (i fd : Int32) (s6 : Slot), (s6 = .unset ∨ ∃ z, s6 = .val (.int z)) → slotL p1 q2 qs os tb f i fd = some kk → Go l Z n0 ({ frames := 1, cells := 0, slots := 0, locals := 17 } : Room) prog_12_method_18_code 7 (⟨"com/example/pulld/pulld/broker/InFlightDeliveries", "slotOf", "(IJ)I"⟩ : MethodName) (some .int) D (DW d r s aq ao aa av ai ah ab hr hs mx ct us fr sr ss qs os ats vs ids hp tb R S ++ X) 0 0 19 #[.val (.ref d), .val (.int p1), .val (.long q2), .second, .val (.int fd), .val (.int i), s6] [] (fun v W' => v = some (.int kk) ∧ W' = (DW d r s aq ao aa av ai ah ab hr hs mx ct us fr sr ss qs os ats vs ids hp tb R S ++ X)) := by
    intro f
    induction f with
    | zero => intro i fd s6 hs h; exact absurd h (by simp [slotL])
    | succ f ih =>
      intro i fd s6 hs h
      rw [slotL] at h
      rcases hs with rfl | ⟨z6, rfl⟩
      ·
        refine Go.iload (pc' := 21) d9_19 rfl rfl ?_
        refine Go.if_ge (pcY := 87) (pcN := 24) d9_21 (by decide) (by decide) rfl (fun hc21 => ?_) (fun hc21 => ?_)
        ·
          rw [if_neg hc21] at h
          refine Go.iload (pc' := 89) d9_87 rfl rfl ?_
          exact Go.retI d9_89 rfl (by decide) (by decide) ⟨by rw [Option.some.inj h], rfl⟩
        ·
          rw [if_pos hc21] at h
          obtain ⟨e, he, h⟩ := own_bind h
          refine Go.aloadN (pc' := 25) d9_24 rfl rfl rfl ?_
          refine Go.getF (pc' := 28) (i := 0) (j := 12) (v := (.ref ab)) (host := "") d9_25 (Or.inl (hw _ (List.mem_of_getElem? (i := 41) rfl))) rfl rfl rfl ?_
          refine Go.iload (pc' := 30) d9_28 rfl rfl ?_
          refine Go.ialoadG (pc' := 31) (i := 9) d9_30 rfl he rfl ?_
          refine Go.if_eq (pcY := 87) (pcN := 34) d9_31 (by decide) (by decide) rfl (fun hc31 => ?_) (fun hc31 => ?_)
          ·
            rw [if_pos hc31] at h
            refine Go.iload (pc' := 89) d9_87 rfl rfl ?_
            exact Go.retI d9_89 rfl (by decide) (by decide) ⟨by rw [Option.some.inj h], rfl⟩
          ·
            rw [if_neg hc31] at h
            obtain ⟨u, hu, h⟩ := own_bind h
            obtain ⟨fd', hfd, h⟩ := own_bind h
            refine Go.aloadN (pc' := 35) d9_34 rfl rfl rfl ?_
            refine Go.getF (pc' := 38) (i := 0) (j := 12) (v := (.ref ab)) (host := "") d9_35 (Or.inl (hw _ (List.mem_of_getElem? (i := 41) rfl))) rfl rfl rfl ?_
            refine Go.iload (pc' := 40) d9_38 rfl rfl ?_
            refine Go.ialoadG (pc' := 41) (i := 9) d9_40 rfl he rfl ?_
            refine Go.iconst (pc' := 42) (v := (1 : Int32)) d9_41 rfl rfl ?_
            refine Go.isub (pc' := 43) d9_42 rfl ?_
            refine Go.istore (pc' := 45) (ls' := #[.val (.ref d), .val (.int p1), .val (.long q2), .second, .val (.int fd), .val (.int i), .val (.int (e - (1 : Int32)))]) d9_43 rfl rfl ?_
            refine Go.aloadN (pc' := 46) d9_45 rfl rfl rfl ?_
            refine Go.getF (pc' := 49) (i := 0) (j := 6) (v := (.ref aq)) (host := "") d9_46 (Or.inl (hw _ (List.mem_of_getElem? (i := 28) rfl))) rfl rfl rfl ?_
            refine Go.iload (pc' := 51) d9_49 rfl rfl ?_
            refine Go.ialoadG (pc' := 52) (i := 3) d9_51 rfl hu rfl ?_
            refine Go.iloadN (pc' := 53) d9_52 rfl rfl ?_
            have k74 : ∀ (xx : Int32), xx = fd' → Go l Z n0 ({ frames := 1, cells := 0, slots := 0, locals := 17 } : Room) prog_12_method_18_code 7 (⟨"com/example/pulld/pulld/broker/InFlightDeliveries", "slotOf", "(IJ)I"⟩ : MethodName) (some .int) D (DW d r s aq ao aa av ai ah ab hr hs mx ct us fr sr ss qs os ats vs ids hp tb R S ++ X) 0 0 74 #[.val (.ref d), .val (.int p1), .val (.long q2), .second, .val (.int fd), .val (.int i), .val (.int (e - (1 : Int32)))] [(.int xx)] (fun v W' => v = some (.int kk) ∧ W' = (DW d r s aq ao aa av ai ah ab hr hs mx ct us fr sr ss qs os ats vs ids hp tb R S ++ X)) := by
              intro xx hxx
              subst hxx
              refine Go.istore (pc' := 76) (ls' := #[.val (.ref d), .val (.int p1), .val (.long q2), .second, .val (.int xx), .val (.int i), .val (.int (e - (1 : Int32)))]) d9_74 rfl rfl ?_
              refine Go.aloadN (pc' := 77) d9_76 rfl rfl rfl ?_
              refine Go.iload (pc' := 79) d9_77 rfl rfl ?_
              refine Go.callP (pc' := 82) (W1 := 0) (cells' := 0) (slots' := 0) (argsL := [(.int i)]) (rest := []) (y' := (⟨"com/example/pulld/pulld/broker/InFlightDeliveries", "after", "(I)I"⟩ : MethodName)) (a := d) (i := 0) d9_79 (hw _ (List.mem_of_getElem? (i := 156) rfl)) (hw _ (List.mem_of_getElem? (i := 157) rfl)) (hw _ (List.mem_of_getElem? (i := 158) rfl)) (hw _ (List.mem_of_getElem? (i := 2) rfl)) (hw _ (List.mem_of_getElem? (i := 3) rfl)) (hw _ (List.mem_of_getElem? (i := 159) rfl)) (by decide) rfl (rm24 l Z n0 w0 hw i d r s aq ao aa av ai ah ab hr hs mx ct us fr sr ss qs os ats vs ids hp tb R S X  ) (by decide) (by decide) rfl (lenOf pd__28I_29I rfl) rfl (Nat.le_of_eq rfl) (by decide) (by decide) rfl rfl rfl (fun v W' hF => ?_)
              obtain ⟨rfl, rfl⟩ := hF
              refine Go.val ?_
              refine Go.istore (pc' := 84) (ls' := #[.val (.ref d), .val (.int p1), .val (.long q2), .second, .val (.int xx), .val (.int (aft tb.length.toInt32 i)), .val (.int (e - (1 : Int32)))]) d9_82 rfl rfl ?_
              refine Go.goto (pc' := 19) d9_84 (by decide) (by decide) ?_
              exact ih _ _ _ (Or.inr ⟨_, rfl⟩) h
            refine Go.icmp_ne (pcY := 73) (pcN := 56) d9_53 (by decide) (by decide) rfl (fun hc53 => ?_) (fun hc53 => ?_)
            ·
              rw [if_neg hc53] at hfd
              refine Go.iconst (pc' := 74) (v := (-1 : Int32)) d9_73 rfl rfl ?_
              exact k74 _ (Option.some.inj hfd)
            ·
              rw [if_pos hc53] at hfd
              obtain ⟨w, hw', hfd⟩ := own_bind hfd
              refine Go.aloadN (pc' := 57) d9_56 rfl rfl rfl ?_
              refine Go.getF (pc' := 60) (i := 0) (j := 7) (v := (.ref ao)) (host := "") d9_57 (Or.inl (hw _ (List.mem_of_getElem? (i := 31) rfl))) rfl rfl rfl ?_
              refine Go.iload (pc' := 62) d9_60 rfl rfl ?_
              refine Go.laloadG (pc' := 63) (i := 4) d9_62 rfl hw' rfl ?_
              refine Go.lloadN (pc' := 64) d9_63 rfl rfl ?_
              refine Go.lcmp (pc' := 65) d9_64 rfl ?_
              refine Go.if_ne (pcY := 73) (pcN := 68) d9_65 (by decide) (by decide) rfl (fun hc65 => ?_) (fun hc65 => ?_)
              ·
                rw [if_neg (fun q => hc65 ((own_ceq _ _).mpr q))] at hfd
                refine Go.iconst (pc' := 74) (v := (-1 : Int32)) d9_73 rfl rfl ?_
                exact k74 _ (Option.some.inj hfd)
              ·
                rw [if_pos ((own_ceq _ _).mp hc65)] at hfd
                refine Go.iload (pc' := 70) d9_68 rfl rfl ?_
                refine Go.goto (pc' := 74) d9_70 (by decide) (by decide) ?_
                exact k74 _ (Option.some.inj hfd)
      ·
        refine Go.iload (pc' := 21) d9_19 rfl rfl ?_
        refine Go.if_ge (pcY := 87) (pcN := 24) d9_21 (by decide) (by decide) rfl (fun hc21 => ?_) (fun hc21 => ?_)
        ·
          rw [if_neg hc21] at h
          refine Go.iload (pc' := 89) d9_87 rfl rfl ?_
          exact Go.retI d9_89 rfl (by decide) (by decide) ⟨by rw [Option.some.inj h], rfl⟩
        ·
          rw [if_pos hc21] at h
          obtain ⟨e, he, h⟩ := own_bind h
          refine Go.aloadN (pc' := 25) d9_24 rfl rfl rfl ?_
          refine Go.getF (pc' := 28) (i := 0) (j := 12) (v := (.ref ab)) (host := "") d9_25 (Or.inl (hw _ (List.mem_of_getElem? (i := 41) rfl))) rfl rfl rfl ?_
          refine Go.iload (pc' := 30) d9_28 rfl rfl ?_
          refine Go.ialoadG (pc' := 31) (i := 9) d9_30 rfl he rfl ?_
          refine Go.if_eq (pcY := 87) (pcN := 34) d9_31 (by decide) (by decide) rfl (fun hc31 => ?_) (fun hc31 => ?_)
          ·
            rw [if_pos hc31] at h
            refine Go.iload (pc' := 89) d9_87 rfl rfl ?_
            exact Go.retI d9_89 rfl (by decide) (by decide) ⟨by rw [Option.some.inj h], rfl⟩
          ·
            rw [if_neg hc31] at h
            obtain ⟨u, hu, h⟩ := own_bind h
            obtain ⟨fd', hfd, h⟩ := own_bind h
            refine Go.aloadN (pc' := 35) d9_34 rfl rfl rfl ?_
            refine Go.getF (pc' := 38) (i := 0) (j := 12) (v := (.ref ab)) (host := "") d9_35 (Or.inl (hw _ (List.mem_of_getElem? (i := 41) rfl))) rfl rfl rfl ?_
            refine Go.iload (pc' := 40) d9_38 rfl rfl ?_
            refine Go.ialoadG (pc' := 41) (i := 9) d9_40 rfl he rfl ?_
            refine Go.iconst (pc' := 42) (v := (1 : Int32)) d9_41 rfl rfl ?_
            refine Go.isub (pc' := 43) d9_42 rfl ?_
            refine Go.istore (pc' := 45) (ls' := #[.val (.ref d), .val (.int p1), .val (.long q2), .second, .val (.int fd), .val (.int i), .val (.int (e - (1 : Int32)))]) d9_43 rfl rfl ?_
            refine Go.aloadN (pc' := 46) d9_45 rfl rfl rfl ?_
            refine Go.getF (pc' := 49) (i := 0) (j := 6) (v := (.ref aq)) (host := "") d9_46 (Or.inl (hw _ (List.mem_of_getElem? (i := 28) rfl))) rfl rfl rfl ?_
            refine Go.iload (pc' := 51) d9_49 rfl rfl ?_
            refine Go.ialoadG (pc' := 52) (i := 3) d9_51 rfl hu rfl ?_
            refine Go.iloadN (pc' := 53) d9_52 rfl rfl ?_
            have k74 : ∀ (xx : Int32), xx = fd' → Go l Z n0 ({ frames := 1, cells := 0, slots := 0, locals := 17 } : Room) prog_12_method_18_code 7 (⟨"com/example/pulld/pulld/broker/InFlightDeliveries", "slotOf", "(IJ)I"⟩ : MethodName) (some .int) D (DW d r s aq ao aa av ai ah ab hr hs mx ct us fr sr ss qs os ats vs ids hp tb R S ++ X) 0 0 74 #[.val (.ref d), .val (.int p1), .val (.long q2), .second, .val (.int fd), .val (.int i), .val (.int (e - (1 : Int32)))] [(.int xx)] (fun v W' => v = some (.int kk) ∧ W' = (DW d r s aq ao aa av ai ah ab hr hs mx ct us fr sr ss qs os ats vs ids hp tb R S ++ X)) := by
              intro xx hxx
              subst hxx
              refine Go.istore (pc' := 76) (ls' := #[.val (.ref d), .val (.int p1), .val (.long q2), .second, .val (.int xx), .val (.int i), .val (.int (e - (1 : Int32)))]) d9_74 rfl rfl ?_
              refine Go.aloadN (pc' := 77) d9_76 rfl rfl rfl ?_
              refine Go.iload (pc' := 79) d9_77 rfl rfl ?_
              refine Go.callP (pc' := 82) (W1 := 0) (cells' := 0) (slots' := 0) (argsL := [(.int i)]) (rest := []) (y' := (⟨"com/example/pulld/pulld/broker/InFlightDeliveries", "after", "(I)I"⟩ : MethodName)) (a := d) (i := 0) d9_79 (hw _ (List.mem_of_getElem? (i := 156) rfl)) (hw _ (List.mem_of_getElem? (i := 157) rfl)) (hw _ (List.mem_of_getElem? (i := 158) rfl)) (hw _ (List.mem_of_getElem? (i := 2) rfl)) (hw _ (List.mem_of_getElem? (i := 3) rfl)) (hw _ (List.mem_of_getElem? (i := 159) rfl)) (by decide) rfl (rm24 l Z n0 w0 hw i d r s aq ao aa av ai ah ab hr hs mx ct us fr sr ss qs os ats vs ids hp tb R S X  ) (by decide) (by decide) rfl (lenOf pd__28I_29I rfl) rfl (Nat.le_of_eq rfl) (by decide) (by decide) rfl rfl rfl (fun v W' hF => ?_)
              obtain ⟨rfl, rfl⟩ := hF
              refine Go.val ?_
              refine Go.istore (pc' := 84) (ls' := #[.val (.ref d), .val (.int p1), .val (.long q2), .second, .val (.int xx), .val (.int (aft tb.length.toInt32 i)), .val (.int (e - (1 : Int32)))]) d9_82 rfl rfl ?_
              refine Go.goto (pc' := 19) d9_84 (by decide) (by decide) ?_
              exact ih _ _ _ (Or.inr ⟨_, rfl⟩) h
            refine Go.icmp_ne (pcY := 73) (pcN := 56) d9_53 (by decide) (by decide) rfl (fun hc53 => ?_) (fun hc53 => ?_)
            ·
              rw [if_neg hc53] at hfd
              refine Go.iconst (pc' := 74) (v := (-1 : Int32)) d9_73 rfl rfl ?_
              exact k74 _ (Option.some.inj hfd)
            ·
              rw [if_pos hc53] at hfd
              obtain ⟨w, hw', hfd⟩ := own_bind hfd
              refine Go.aloadN (pc' := 57) d9_56 rfl rfl rfl ?_
              refine Go.getF (pc' := 60) (i := 0) (j := 7) (v := (.ref ao)) (host := "") d9_57 (Or.inl (hw _ (List.mem_of_getElem? (i := 31) rfl))) rfl rfl rfl ?_
              refine Go.iload (pc' := 62) d9_60 rfl rfl ?_
              refine Go.laloadG (pc' := 63) (i := 4) d9_62 rfl hw' rfl ?_
              refine Go.lloadN (pc' := 64) d9_63 rfl rfl ?_
              refine Go.lcmp (pc' := 65) d9_64 rfl ?_
              refine Go.if_ne (pcY := 73) (pcN := 68) d9_65 (by decide) (by decide) rfl (fun hc65 => ?_) (fun hc65 => ?_)
              ·
                rw [if_neg (fun q => hc65 ((own_ceq _ _).mpr q))] at hfd
                refine Go.iconst (pc' := 74) (v := (-1 : Int32)) d9_73 rfl rfl ?_
                exact k74 _ (Option.some.inj hfd)
              ·
                rw [if_pos ((own_ceq _ _).mp hc65)] at hfd
                refine Go.iload (pc' := 70) d9_68 rfl rfl ?_
                refine Go.goto (pc' := 74) d9_70 (by decide) (by decide) ?_
                exact k74 _ (Option.some.inj hfd)
  refine Go.iconst (pc' := 1) (v := (-1 : Int32)) d9_0 rfl rfl ?_
  refine Go.istore (pc' := 3) (ls' := #[.val (.ref d), .val (.int p1), .val (.long q2), .second, .val (.int (-1 : Int32)), .unset, .unset]) d9_1 rfl rfl ?_
  refine Go.aloadN (pc' := 4) d9_3 rfl rfl rfl ?_
  refine Go.getF (pc' := 7) (i := 0) (j := 12) (v := (.ref ab)) (host := "") d9_4 (Or.inl (hw _ (List.mem_of_getElem? (i := 41) rfl))) rfl rfl rfl ?_
  refine Go.alenI (pc' := 8) (i := 9) (n := tb.length.toInt32) d9_7 rfl rfl rfl ?_
  refine Go.if_le (pcY := 87) (pcN := 11) d9_8 (by decide) (by decide) rfl (fun hc8 => ?_) (fun hc8 => ?_)
  ·
    rw [if_neg hc8] at hF
    refine Go.iload (pc' := 89) d9_87 rfl rfl ?_
    exact Go.retI d9_89 rfl (by decide) (by decide) ⟨by rw [Option.some.inj hF], rfl⟩
  ·
    rw [if_pos hc8] at hF
    refine Go.aloadN (pc' := 12) d9_11 rfl rfl rfl ?_
    refine Go.iloadN (pc' := 13) d9_12 rfl rfl ?_
    refine Go.lloadN (pc' := 14) d9_13 rfl rfl ?_
    refine Go.callP (pc' := 17) (W1 := 0) (cells' := 0) (slots' := 0) (argsL := [(.int p1), (.long q2)]) (rest := []) (y' := (⟨"com/example/pulld/pulld/broker/InFlightDeliveries", "bucket", "(IJ)I"⟩ : MethodName)) (a := d) (i := 0) d9_14 (hw _ (List.mem_of_getElem? (i := 108) rfl)) (hw _ (List.mem_of_getElem? (i := 109) rfl)) (hw _ (List.mem_of_getElem? (i := 110) rfl)) (hw _ (List.mem_of_getElem? (i := 2) rfl)) (hw _ (List.mem_of_getElem? (i := 3) rfl)) (hw _ (List.mem_of_getElem? (i := 111) rfl)) (by decide) rfl (rm14 l Z n0 w0 hw p1 q2 d r s aq ao aa av ai ah ab hr hs mx ct us fr sr ss qs os ats vs ids hp tb R S X  ) (by decide) (by decide) rfl (lenOf pd__28IJ_29I rfl) rfl (Nat.le_of_eq rfl) (by decide) (by decide) rfl rfl rfl (fun v W' hF => ?_)
    obtain ⟨rfl, rfl⟩ := hF
    refine Go.val ?_
    refine Go.istore (pc' := 19) (ls' := #[.val (.ref d), .val (.int p1), .val (.long q2), .second, .val (.int (-1 : Int32)), .val (.int (bkF tb.length.toInt32 p1 q2)), .unset]) d9_17 rfl rfl ?_
    exact k19 8 _ _ _ (Or.inl rfl) hF
theorem d13_0 : decode prog_12_method_19_code 0 = .ok (.aload_n 0, 1) := by decide +kernel
theorem d13_1 : decode prog_12_method_19_code 1 = .ok (.aload_n 0, 1) := by decide +kernel
theorem d13_2 : decode prog_12_method_19_code 2 = .ok (.getfield 25, 3) := by decide +kernel
theorem d13_5 : decode prog_12_method_19_code 5 = .ok (.iload_n 1, 1) := by decide +kernel
theorem d13_6 : decode prog_12_method_19_code 6 = .ok (.iaload, 1) := by decide +kernel
theorem d13_7 : decode prog_12_method_19_code 7 = .ok (.aload_n 0, 1) := by decide +kernel
theorem d13_8 : decode prog_12_method_19_code 8 = .ok (.getfield 29, 3) := by decide +kernel
theorem d13_11 : decode prog_12_method_19_code 11 = .ok (.iload_n 1, 1) := by decide +kernel
theorem d13_12 : decode prog_12_method_19_code 12 = .ok (.laload, 1) := by decide +kernel
theorem d13_13 : decode prog_12_method_19_code 13 = .ok (.invokevirtual 126, 3) := by decide +kernel
theorem d13_16 : decode prog_12_method_19_code 16 = .ok (.istore_n 2, 1) := by decide +kernel
theorem d13_17 : decode prog_12_method_19_code 17 = .ok (.aload_n 0, 1) := by decide +kernel
theorem d13_18 : decode prog_12_method_19_code 18 = .ok (.getfield 45, 3) := by decide +kernel
theorem d13_21 : decode prog_12_method_19_code 21 = .ok (.iload_n 2, 1) := by decide +kernel
theorem d13_22 : decode prog_12_method_19_code 22 = .ok (.iaload, 1) := by decide +kernel
theorem d13_23 : decode prog_12_method_19_code 23 = .ok (.ifCond .eq 12, 3) := by decide +kernel
theorem d13_26 : decode prog_12_method_19_code 26 = .ok (.aload_n 0, 1) := by decide +kernel
theorem d13_27 : decode prog_12_method_19_code 27 = .ok (.iload_n 2, 1) := by decide +kernel
theorem d13_28 : decode prog_12_method_19_code 28 = .ok (.invokevirtual 129, 3) := by decide +kernel
theorem d13_31 : decode prog_12_method_19_code 31 = .ok (.istore_n 2, 1) := by decide +kernel
theorem d13_32 : decode prog_12_method_19_code 32 = .ok (.goto (-15), 3) := by decide +kernel
theorem d13_35 : decode prog_12_method_19_code 35 = .ok (.aload_n 0, 1) := by decide +kernel
theorem d13_36 : decode prog_12_method_19_code 36 = .ok (.getfield 45, 3) := by decide +kernel
theorem d13_39 : decode prog_12_method_19_code 39 = .ok (.iload_n 2, 1) := by decide +kernel
theorem d13_40 : decode prog_12_method_19_code 40 = .ok (.iload_n 1, 1) := by decide +kernel
theorem d13_41 : decode prog_12_method_19_code 41 = .ok (.iconst 1, 1) := by decide +kernel
theorem d13_42 : decode prog_12_method_19_code 42 = .ok (.iadd, 1) := by decide +kernel
theorem d13_43 : decode prog_12_method_19_code 43 = .ok (.iastore, 1) := by decide +kernel
theorem d13_44 : decode prog_12_method_19_code 44 = .ok (.return_, 1) := by decide +kernel
set_option maxRecDepth 65536 in
set_option maxHeartbeats 40000000 in
theorem rm13 (l : Launch) (Z : State) (n0 : Nat) (w0 : Array Value) (hw : ∀ d ∈ tables_1, d.before w0 Z = true) (p1 : Int32) (d r s aq ao aa av ai ah ab hr hs : Addr) (mx ct us fr sr ss : Int32) (qs : List Int32) (os : List Int64) (ats : List Int32) (vs ids : List Int64) (hp tb R S : List Int32) (X : Wld) (tb' : List Int32) (hF : linkF qs os tb p1 = some tb') :
    Meets l Z n0 (⟨"com/example/pulld/pulld/broker/InFlightDeliveries", "link", "(I)V"⟩ : MethodName) prog_12_method_19_code 3 none ({ frames := 1, cells := 0, slots := 0, locals := 17 } : Room) [] #[(.ref d), (.int p1)] (DW d r s aq ao aa av ai ah ab hr hs mx ct us fr sr ss qs os ats vs ids hp tb R S ++ X) (fun v W' => v = none ∧ W' = (DW d r s aq ao aa av ai ah ab hr hs mx ct us fr sr ss qs os ats vs ids hp tb' R S ++ X)) := by
  refine Meets.of_go (ls := #[.val (.ref d), .val (.int p1), .unset]) (plainFor_of_name (by first | (simp [plainName, overriddenIn]; done) | decide +kernel)) (fun m => by first | (simp [entryFrame, mkF, argsToLocals, Value.category, maxLocals]; done) | rfl) (fun D => ?_)
  dsimp only [linkF] at hF
  obtain ⟨q, hq, hF⟩ := own_bind hF
  obtain ⟨o, ho, hF⟩ := own_bind hF
  have k17 : ∀ (f : Nat) (i : Int32), linkL tb p1 f i = some tb' → Go l Z n0 ({ frames := 1, cells := 0, slots := 0, locals := 17 } : Room) prog_12_method_19_code 3 (⟨"com/example/pulld/pulld/broker/InFlightDeliveries", "link", "(I)V"⟩ : MethodName) none D (DW d r s aq ao aa av ai ah ab hr hs mx ct us fr sr ss qs os ats vs ids hp tb R S ++ X) 0 0 17 #[.val (.ref d), .val (.int p1), .val (.int i)] [] (fun v W' => v = none ∧ W' = (DW d r s aq ao aa av ai ah ab hr hs mx ct us fr sr ss qs os ats vs ids hp tb' R S ++ X)) := by
    intro f
    induction f with
    | zero => intro i h; exact absurd h (by simp [linkL])
    | succ f ih =>
      intro i h
      rw [linkL] at h
      obtain ⟨e, he, h⟩ := own_bind h
      refine Go.aloadN (pc' := 18) d13_17 rfl rfl rfl ?_
      refine Go.getF (pc' := 21) (i := 0) (j := 12) (v := (.ref ab)) (host := "") d13_18 (Or.inl (hw _ (List.mem_of_getElem? (i := 41) rfl))) rfl rfl rfl ?_
      refine Go.iloadN (pc' := 22) d13_21 rfl rfl ?_
      refine Go.ialoadG (pc' := 23) (i := 9) d13_22 rfl he rfl ?_
      refine Go.if_eq (pcY := 35) (pcN := 26) d13_23 (by decide) (by decide) rfl (fun hc23 => ?_) (fun hc23 => ?_)
      ·
        rw [if_pos hc23] at h
        refine Go.aloadN (pc' := 36) d13_35 rfl rfl rfl ?_
        refine Go.getF (pc' := 39) (i := 0) (j := 12) (v := (.ref ab)) (host := "") d13_36 (Or.inl (hw _ (List.mem_of_getElem? (i := 41) rfl))) rfl rfl rfl ?_
        refine Go.iloadN (pc' := 40) d13_39 rfl rfl ?_
        refine Go.iloadN (pc' := 41) d13_40 rfl rfl ?_
        refine Go.iconst (pc' := 42) (v := (1 : Int32)) d13_41 rfl rfl ?_
        refine Go.iadd (pc' := 43) d13_42 rfl ?_
        refine Go.iastoreG (pc' := 44) (i := 9) (W' := (DW d r s aq ao aa av ai ah ab hr hs mx ct us fr sr ss qs os ats vs ids hp tb' R S ++ X)) d13_43 rfl h rfl rfl ?_
        exact Go.retV d13_44 rfl (by decide) (by decide) ⟨rfl, rfl⟩
      ·
        rw [if_neg hc23] at h
        refine Go.aloadN (pc' := 27) d13_26 rfl rfl rfl ?_
        refine Go.iloadN (pc' := 28) d13_27 rfl rfl ?_
        refine Go.callP (pc' := 31) (W1 := 0) (cells' := 0) (slots' := 0) (argsL := [(.int i)]) (rest := []) (y' := (⟨"com/example/pulld/pulld/broker/InFlightDeliveries", "after", "(I)I"⟩ : MethodName)) (a := d) (i := 0) d13_28 (hw _ (List.mem_of_getElem? (i := 156) rfl)) (hw _ (List.mem_of_getElem? (i := 157) rfl)) (hw _ (List.mem_of_getElem? (i := 158) rfl)) (hw _ (List.mem_of_getElem? (i := 2) rfl)) (hw _ (List.mem_of_getElem? (i := 3) rfl)) (hw _ (List.mem_of_getElem? (i := 159) rfl)) (by decide) rfl (rm24 l Z n0 w0 hw i d r s aq ao aa av ai ah ab hr hs mx ct us fr sr ss qs os ats vs ids hp tb R S X  ) (by decide) (by decide) rfl (lenOf pd__28I_29I rfl) rfl (Nat.le_of_eq rfl) (by decide) (by decide) rfl rfl rfl (fun v W' hF => ?_)
        obtain ⟨rfl, rfl⟩ := hF
        refine Go.val ?_
        refine Go.istoreN (pc' := 32) (ls' := #[.val (.ref d), .val (.int p1), .val (.int (aft tb.length.toInt32 i))]) d13_31 rfl rfl ?_
        refine Go.goto (pc' := 17) d13_32 (by decide) (by decide) ?_
        exact ih _ h
  refine Go.aloadN (pc' := 1) d13_0 rfl rfl rfl ?_
  refine Go.aloadN (pc' := 2) d13_1 rfl rfl rfl ?_
  refine Go.getF (pc' := 5) (i := 0) (j := 6) (v := (.ref aq)) (host := "") d13_2 (Or.inl (hw _ (List.mem_of_getElem? (i := 28) rfl))) rfl rfl rfl ?_
  refine Go.iloadN (pc' := 6) d13_5 rfl rfl ?_
  refine Go.ialoadG (pc' := 7) (i := 3) d13_6 rfl hq rfl ?_
  refine Go.aloadN (pc' := 8) d13_7 rfl rfl rfl ?_
  refine Go.getF (pc' := 11) (i := 0) (j := 7) (v := (.ref ao)) (host := "") d13_8 (Or.inl (hw _ (List.mem_of_getElem? (i := 31) rfl))) rfl rfl rfl ?_
  refine Go.iloadN (pc' := 12) d13_11 rfl rfl ?_
  refine Go.laloadG (pc' := 13) (i := 4) d13_12 rfl ho rfl ?_
  refine Go.callP (pc' := 16) (W1 := 0) (cells' := 0) (slots' := 0) (argsL := [(.int q), (.long o)]) (rest := []) (y' := (⟨"com/example/pulld/pulld/broker/InFlightDeliveries", "bucket", "(IJ)I"⟩ : MethodName)) (a := d) (i := 0) d13_13 (hw _ (List.mem_of_getElem? (i := 108) rfl)) (hw _ (List.mem_of_getElem? (i := 109) rfl)) (hw _ (List.mem_of_getElem? (i := 110) rfl)) (hw _ (List.mem_of_getElem? (i := 2) rfl)) (hw _ (List.mem_of_getElem? (i := 3) rfl)) (hw _ (List.mem_of_getElem? (i := 111) rfl)) (by decide) rfl (rm14 l Z n0 w0 hw q o d r s aq ao aa av ai ah ab hr hs mx ct us fr sr ss qs os ats vs ids hp tb R S X  ) (by decide) (by decide) rfl (lenOf pd__28IJ_29I rfl) rfl (Nat.le_of_eq rfl) (by decide) (by decide) rfl rfl rfl (fun v W' hF => ?_)
  obtain ⟨rfl, rfl⟩ := hF
  refine Go.val ?_
  refine Go.istoreN (pc' := 17) (ls' := #[.val (.ref d), .val (.int p1), .val (.int (bkF tb.length.toInt32 q o))]) d13_16 rfl rfl ?_
  exact k17 8 _ hF
theorem d27_0 : decode prog_12_method_20_code 0 = .ok (.aload_n 0, 1) := by decide +kernel
theorem d27_1 : decode prog_12_method_20_code 1 = .ok (.aload_n 0, 1) := by decide +kernel
theorem d27_2 : decode prog_12_method_20_code 2 = .ok (.getfield 25, 3) := by decide +kernel
theorem d27_5 : decode prog_12_method_20_code 5 = .ok (.iload_n 1, 1) := by decide +kernel
theorem d27_6 : decode prog_12_method_20_code 6 = .ok (.iaload, 1) := by decide +kernel
theorem d27_7 : decode prog_12_method_20_code 7 = .ok (.aload_n 0, 1) := by decide +kernel
theorem d27_8 : decode prog_12_method_20_code 8 = .ok (.getfield 29, 3) := by decide +kernel
theorem d27_11 : decode prog_12_method_20_code 11 = .ok (.iload_n 1, 1) := by decide +kernel
theorem d27_12 : decode prog_12_method_20_code 12 = .ok (.laload, 1) := by decide +kernel
theorem d27_13 : decode prog_12_method_20_code 13 = .ok (.invokevirtual 126, 3) := by decide +kernel
theorem d27_16 : decode prog_12_method_20_code 16 = .ok (.istore_n 2, 1) := by decide +kernel
theorem d27_17 : decode prog_12_method_20_code 17 = .ok (.aload_n 0, 1) := by decide +kernel
theorem d27_18 : decode prog_12_method_20_code 18 = .ok (.getfield 45, 3) := by decide +kernel
theorem d27_21 : decode prog_12_method_20_code 21 = .ok (.iload_n 2, 1) := by decide +kernel
theorem d27_22 : decode prog_12_method_20_code 22 = .ok (.iaload, 1) := by decide +kernel
theorem d27_23 : decode prog_12_method_20_code 23 = .ok (.iload_n 1, 1) := by decide +kernel
theorem d27_24 : decode prog_12_method_20_code 24 = .ok (.iconst 1, 1) := by decide +kernel
theorem d27_25 : decode prog_12_method_20_code 25 = .ok (.iadd, 1) := by decide +kernel
theorem d27_26 : decode prog_12_method_20_code 26 = .ok (.if_icmp .eq 12, 3) := by decide +kernel
theorem d27_29 : decode prog_12_method_20_code 29 = .ok (.aload_n 0, 1) := by decide +kernel
theorem d27_30 : decode prog_12_method_20_code 30 = .ok (.iload_n 2, 1) := by decide +kernel
theorem d27_31 : decode prog_12_method_20_code 31 = .ok (.invokevirtual 129, 3) := by decide +kernel
theorem d27_34 : decode prog_12_method_20_code 34 = .ok (.istore_n 2, 1) := by decide +kernel
theorem d27_35 : decode prog_12_method_20_code 35 = .ok (.goto (-18), 3) := by decide +kernel
theorem d27_38 : decode prog_12_method_20_code 38 = .ok (.aload_n 0, 1) := by decide +kernel
theorem d27_39 : decode prog_12_method_20_code 39 = .ok (.iload_n 2, 1) := by decide +kernel
theorem d27_40 : decode prog_12_method_20_code 40 = .ok (.invokevirtual 129, 3) := by decide +kernel
theorem d27_43 : decode prog_12_method_20_code 43 = .ok (.istore_n 3, 1) := by decide +kernel
theorem d27_44 : decode prog_12_method_20_code 44 = .ok (.aload_n 0, 1) := by decide +kernel
theorem d27_45 : decode prog_12_method_20_code 45 = .ok (.getfield 45, 3) := by decide +kernel
theorem d27_48 : decode prog_12_method_20_code 48 = .ok (.iload_n 3, 1) := by decide +kernel
theorem d27_49 : decode prog_12_method_20_code 49 = .ok (.iaload, 1) := by decide +kernel
theorem d27_50 : decode prog_12_method_20_code 50 = .ok (.ifCond .eq 68, 3) := by decide +kernel
theorem d27_53 : decode prog_12_method_20_code 53 = .ok (.aload_n 0, 1) := by decide +kernel
theorem d27_54 : decode prog_12_method_20_code 54 = .ok (.getfield 45, 3) := by decide +kernel
theorem d27_57 : decode prog_12_method_20_code 57 = .ok (.iload_n 3, 1) := by decide +kernel
theorem d27_58 : decode prog_12_method_20_code 58 = .ok (.iaload, 1) := by decide +kernel
theorem d27_59 : decode prog_12_method_20_code 59 = .ok (.iconst 1, 1) := by decide +kernel
theorem d27_60 : decode prog_12_method_20_code 60 = .ok (.isub, 1) := by decide +kernel
theorem d27_61 : decode prog_12_method_20_code 61 = .ok (.istore 4, 2) := by decide +kernel
theorem d27_63 : decode prog_12_method_20_code 63 = .ok (.aload_n 0, 1) := by decide +kernel
theorem d27_64 : decode prog_12_method_20_code 64 = .ok (.aload_n 0, 1) := by decide +kernel
theorem d27_65 : decode prog_12_method_20_code 65 = .ok (.aload_n 0, 1) := by decide +kernel
theorem d27_66 : decode prog_12_method_20_code 66 = .ok (.getfield 25, 3) := by decide +kernel
theorem d27_69 : decode prog_12_method_20_code 69 = .ok (.iload 4, 2) := by decide +kernel
theorem d27_71 : decode prog_12_method_20_code 71 = .ok (.iaload, 1) := by decide +kernel
theorem d27_72 : decode prog_12_method_20_code 72 = .ok (.aload_n 0, 1) := by decide +kernel
theorem d27_73 : decode prog_12_method_20_code 73 = .ok (.getfield 29, 3) := by decide +kernel
theorem d27_76 : decode prog_12_method_20_code 76 = .ok (.iload 4, 2) := by decide +kernel
theorem d27_78 : decode prog_12_method_20_code 78 = .ok (.laload, 1) := by decide +kernel
theorem d27_79 : decode prog_12_method_20_code 79 = .ok (.invokevirtual 126, 3) := by decide +kernel
theorem d27_82 : decode prog_12_method_20_code 82 = .ok (.iload_n 3, 1) := by decide +kernel
theorem d27_83 : decode prog_12_method_20_code 83 = .ok (.invokevirtual 133, 3) := by decide +kernel
theorem d27_86 : decode prog_12_method_20_code 86 = .ok (.aload_n 0, 1) := by decide +kernel
theorem d27_87 : decode prog_12_method_20_code 87 = .ok (.iload_n 2, 1) := by decide +kernel
theorem d27_88 : decode prog_12_method_20_code 88 = .ok (.iload_n 3, 1) := by decide +kernel
theorem d27_89 : decode prog_12_method_20_code 89 = .ok (.invokevirtual 133, 3) := by decide +kernel
theorem d27_92 : decode prog_12_method_20_code 92 = .ok (.if_icmp .lt 17, 3) := by decide +kernel
theorem d27_95 : decode prog_12_method_20_code 95 = .ok (.aload_n 0, 1) := by decide +kernel
theorem d27_96 : decode prog_12_method_20_code 96 = .ok (.getfield 45, 3) := by decide +kernel
theorem d27_99 : decode prog_12_method_20_code 99 = .ok (.iload_n 2, 1) := by decide +kernel
theorem d27_100 : decode prog_12_method_20_code 100 = .ok (.aload_n 0, 1) := by decide +kernel
theorem d27_101 : decode prog_12_method_20_code 101 = .ok (.getfield 45, 3) := by decide +kernel
theorem d27_104 : decode prog_12_method_20_code 104 = .ok (.iload_n 3, 1) := by decide +kernel
theorem d27_105 : decode prog_12_method_20_code 105 = .ok (.iaload, 1) := by decide +kernel
theorem d27_106 : decode prog_12_method_20_code 106 = .ok (.iastore, 1) := by decide +kernel
theorem d27_107 : decode prog_12_method_20_code 107 = .ok (.iload_n 3, 1) := by decide +kernel
theorem d27_108 : decode prog_12_method_20_code 108 = .ok (.istore_n 2, 1) := by decide +kernel
theorem d27_109 : decode prog_12_method_20_code 109 = .ok (.aload_n 0, 1) := by decide +kernel
theorem d27_110 : decode prog_12_method_20_code 110 = .ok (.iload_n 3, 1) := by decide +kernel
theorem d27_111 : decode prog_12_method_20_code 111 = .ok (.invokevirtual 129, 3) := by decide +kernel
theorem d27_114 : decode prog_12_method_20_code 114 = .ok (.istore_n 3, 1) := by decide +kernel
theorem d27_115 : decode prog_12_method_20_code 115 = .ok (.goto (-71), 3) := by decide +kernel
theorem d27_118 : decode prog_12_method_20_code 118 = .ok (.aload_n 0, 1) := by decide +kernel
theorem d27_119 : decode prog_12_method_20_code 119 = .ok (.getfield 45, 3) := by decide +kernel
theorem d27_122 : decode prog_12_method_20_code 122 = .ok (.iload_n 2, 1) := by decide +kernel
theorem d27_123 : decode prog_12_method_20_code 123 = .ok (.iconst 0, 1) := by decide +kernel
theorem d27_124 : decode prog_12_method_20_code 124 = .ok (.iastore, 1) := by decide +kernel
theorem d27_125 : decode prog_12_method_20_code 125 = .ok (.return_, 1) := by decide +kernel
set_option maxRecDepth 65536 in
set_option maxHeartbeats 40000000 in
theorem rm27 (l : Launch) (Z : State) (n0 : Nat) (w0 : Array Value) (hw : ∀ d ∈ tables_1, d.before w0 Z = true) (p1 : Int32) (d r s aq ao aa av ai ah ab hr hs : Addr) (mx ct us fr sr ss : Int32) (qs : List Int32) (os : List Int64) (ats : List Int32) (vs ids : List Int64) (hp tb R S : List Int32) (X : Wld) (tb' : List Int32) (hF : unlF qs os tb p1 = some tb') :
    Meets l Z n0 (⟨"com/example/pulld/pulld/broker/InFlightDeliveries", "unlink", "(I)V"⟩ : MethodName) prog_12_method_20_code 5 none ({ frames := 1, cells := 0, slots := 0, locals := 18 } : Room) [] #[(.ref d), (.int p1)] (DW d r s aq ao aa av ai ah ab hr hs mx ct us fr sr ss qs os ats vs ids hp tb R S ++ X) (fun v W' => v = none ∧ W' = (DW d r s aq ao aa av ai ah ab hr hs mx ct us fr sr ss qs os ats vs ids hp tb' R S ++ X)) := by
  refine Meets.of_go (ls := #[.val (.ref d), .val (.int p1), .unset, .unset, .unset]) (plainFor_of_name (by first | (simp [plainName, overriddenIn]; done) | decide +kernel)) (fun m => by first | (simp [entryFrame, mkF, argsToLocals, Value.category, maxLocals]; done) | rfl) (fun D => ?_)
  dsimp only [unlF] at hF
  obtain ⟨q, hq, hF⟩ := own_bind hF
  obtain ⟨o, ho, hF⟩ := own_bind hF
  obtain ⟨g', hg, hF⟩ := own_bind hF
  have k44 : ∀ (f : Nat) (tb : List Int32) (g i : Int32) (s4 : Slot), (s4 = .unset ∨ ∃ z, s4 = .val (.int z)) → unl2 qs os f tb g i = some tb' → Go l Z n0 ({ frames := 1, cells := 0, slots := 0, locals := 18 } : Room) prog_12_method_20_code 5 (⟨"com/example/pulld/pulld/broker/InFlightDeliveries", "unlink", "(I)V"⟩ : MethodName) none D (DW d r s aq ao aa av ai ah ab hr hs mx ct us fr sr ss qs os ats vs ids hp tb R S ++ X) 0 0 44 #[.val (.ref d), .val (.int p1), .val (.int g), .val (.int i), s4] [] (fun v W' => v = none ∧ W' = (DW d r s aq ao aa av ai ah ab hr hs mx ct us fr sr ss qs os ats vs ids hp tb' R S ++ X)) := by
    intro f
    induction f with
    | zero => intro tb g i s4 hs h; exact absurd h (by simp [unl2])
    | succ f ih =>
      intro tb g i s4 hs h
      rw [unl2] at h
      obtain ⟨e, he, h⟩ := own_bind h
      rcases hs with rfl | ⟨z4, rfl⟩
      ·
        refine Go.aloadN (pc' := 45) d27_44 rfl rfl rfl ?_
        refine Go.getF (pc' := 48) (i := 0) (j := 12) (v := (.ref ab)) (host := "") d27_45 (Or.inl (hw _ (List.mem_of_getElem? (i := 41) rfl))) rfl rfl rfl ?_
        refine Go.iloadN (pc' := 49) d27_48 rfl rfl ?_
        refine Go.ialoadG (pc' := 50) (i := 9) d27_49 rfl he rfl ?_
        refine Go.if_eq (pcY := 118) (pcN := 53) d27_50 (by decide) (by decide) rfl (fun hc50 => ?_) (fun hc50 => ?_)
        ·
          rw [if_pos hc50] at h
          refine Go.aloadN (pc' := 119) d27_118 rfl rfl rfl ?_
          refine Go.getF (pc' := 122) (i := 0) (j := 12) (v := (.ref ab)) (host := "") d27_119 (Or.inl (hw _ (List.mem_of_getElem? (i := 41) rfl))) rfl rfl rfl ?_
          refine Go.iloadN (pc' := 123) d27_122 rfl rfl ?_
          refine Go.iconst (pc' := 124) (v := (0 : Int32)) d27_123 rfl rfl ?_
          refine Go.iastoreG (pc' := 125) (i := 9) (W' := (DW d r s aq ao aa av ai ah ab hr hs mx ct us fr sr ss qs os ats vs ids hp tb' R S ++ X)) d27_124 rfl h rfl rfl ?_
          exact Go.retV d27_125 rfl (by decide) (by decide) ⟨rfl, rfl⟩
        ·
          rw [if_neg hc50] at h
          obtain ⟨q, hq, h⟩ := own_bind h
          obtain ⟨o, ho, h⟩ := own_bind h
          refine Go.aloadN (pc' := 54) d27_53 rfl rfl rfl ?_
          refine Go.getF (pc' := 57) (i := 0) (j := 12) (v := (.ref ab)) (host := "") d27_54 (Or.inl (hw _ (List.mem_of_getElem? (i := 41) rfl))) rfl rfl rfl ?_
          refine Go.iloadN (pc' := 58) d27_57 rfl rfl ?_
          refine Go.ialoadG (pc' := 59) (i := 9) d27_58 rfl he rfl ?_
          refine Go.iconst (pc' := 60) (v := (1 : Int32)) d27_59 rfl rfl ?_
          refine Go.isub (pc' := 61) d27_60 rfl ?_
          refine Go.istore (pc' := 63) (ls' := #[.val (.ref d), .val (.int p1), .val (.int g), .val (.int i), .val (.int (e - (1 : Int32)))]) d27_61 rfl rfl ?_
          refine Go.aloadN (pc' := 64) d27_63 rfl rfl rfl ?_
          refine Go.aloadN (pc' := 65) d27_64 rfl rfl rfl ?_
          refine Go.aloadN (pc' := 66) d27_65 rfl rfl rfl ?_
          refine Go.getF (pc' := 69) (i := 0) (j := 6) (v := (.ref aq)) (host := "") d27_66 (Or.inl (hw _ (List.mem_of_getElem? (i := 28) rfl))) rfl rfl rfl ?_
          refine Go.iload (pc' := 71) d27_69 rfl rfl ?_
          refine Go.ialoadG (pc' := 72) (i := 3) d27_71 rfl hq rfl ?_
          refine Go.aloadN (pc' := 73) d27_72 rfl rfl rfl ?_
          refine Go.getF (pc' := 76) (i := 0) (j := 7) (v := (.ref ao)) (host := "") d27_73 (Or.inl (hw _ (List.mem_of_getElem? (i := 31) rfl))) rfl rfl rfl ?_
          refine Go.iload (pc' := 78) d27_76 rfl rfl ?_
          refine Go.laloadG (pc' := 79) (i := 4) d27_78 rfl ho rfl ?_
          refine Go.callP (pc' := 82) (W1 := 1) (cells' := 0) (slots' := 0) (argsL := [(.int q), (.long o)]) (rest := [(.ref d)]) (y' := (⟨"com/example/pulld/pulld/broker/InFlightDeliveries", "bucket", "(IJ)I"⟩ : MethodName)) (a := d) (i := 0) d27_79 (hw _ (List.mem_of_getElem? (i := 108) rfl)) (hw _ (List.mem_of_getElem? (i := 109) rfl)) (hw _ (List.mem_of_getElem? (i := 110) rfl)) (hw _ (List.mem_of_getElem? (i := 2) rfl)) (hw _ (List.mem_of_getElem? (i := 3) rfl)) (hw _ (List.mem_of_getElem? (i := 111) rfl)) (by decide) rfl (rm14 l Z n0 w0 hw q o d r s aq ao aa av ai ah ab hr hs mx ct us fr sr ss qs os ats vs ids hp tb R S X  ) (by decide) (by decide) rfl (lenOf pd__28IJ_29I rfl) rfl (Nat.le_of_eq rfl) (by decide) (by decide) rfl rfl rfl (fun v W' hF => ?_)
          obtain ⟨rfl, rfl⟩ := hF
          refine Go.val ?_
          refine Go.iloadN (pc' := 83) d27_82 rfl rfl ?_
          refine Go.callP (pc' := 86) (W1 := 0) (cells' := 0) (slots' := 0) (argsL := [(.int (bkF tb.length.toInt32 q o)), (.int i)]) (rest := []) (y' := (⟨"com/example/pulld/pulld/broker/InFlightDeliveries", "distance", "(II)I"⟩ : MethodName)) (a := d) (i := 0) d27_83 (hw _ (List.mem_of_getElem? (i := 216) rfl)) (hw _ (List.mem_of_getElem? (i := 217) rfl)) (hw _ (List.mem_of_getElem? (i := 218) rfl)) (hw _ (List.mem_of_getElem? (i := 2) rfl)) (hw _ (List.mem_of_getElem? (i := 3) rfl)) (hw _ (List.mem_of_getElem? (i := 219) rfl)) (by decide) rfl (rm37 l Z n0 w0 hw (bkF tb.length.toInt32 q o) i d r s aq ao aa av ai ah ab hr hs mx ct us fr sr ss qs os ats vs ids hp tb R S X  ) (by decide) (by decide) rfl (lenOf pd__28II_29I rfl) rfl (Nat.le_of_eq rfl) (by decide) (by decide) rfl rfl rfl (fun v W' hF => ?_)
          obtain ⟨rfl, rfl⟩ := hF
          refine Go.val ?_
          refine Go.aloadN (pc' := 87) d27_86 rfl rfl rfl ?_
          refine Go.iloadN (pc' := 88) d27_87 rfl rfl ?_
          refine Go.iloadN (pc' := 89) d27_88 rfl rfl ?_
          refine Go.callP (pc' := 92) (W1 := 1) (cells' := 0) (slots' := 0) (argsL := [(.int g), (.int i)]) (rest := [(.int (dst tb.length.toInt32 (bkF tb.length.toInt32 q o) i))]) (y' := (⟨"com/example/pulld/pulld/broker/InFlightDeliveries", "distance", "(II)I"⟩ : MethodName)) (a := d) (i := 0) d27_89 (hw _ (List.mem_of_getElem? (i := 216) rfl)) (hw _ (List.mem_of_getElem? (i := 217) rfl)) (hw _ (List.mem_of_getElem? (i := 218) rfl)) (hw _ (List.mem_of_getElem? (i := 2) rfl)) (hw _ (List.mem_of_getElem? (i := 3) rfl)) (hw _ (List.mem_of_getElem? (i := 219) rfl)) (by decide) rfl (rm37 l Z n0 w0 hw g i d r s aq ao aa av ai ah ab hr hs mx ct us fr sr ss qs os ats vs ids hp tb R S X  ) (by decide) (by decide) rfl (lenOf pd__28II_29I rfl) rfl (Nat.le_of_eq rfl) (by decide) (by decide) rfl rfl rfl (fun v W' hF => ?_)
          obtain ⟨rfl, rfl⟩ := hF
          refine Go.val ?_
          refine Go.icmp_lt (pcY := 109) (pcN := 95) d27_92 (by decide) (by decide) rfl (fun hc92 => ?_) (fun hc92 => ?_)
          ·
            rw [if_pos hc92] at h
            refine Go.aloadN (pc' := 110) d27_109 rfl rfl rfl ?_
            refine Go.iloadN (pc' := 111) d27_110 rfl rfl ?_
            refine Go.callP (pc' := 114) (W1 := 0) (cells' := 0) (slots' := 0) (argsL := [(.int i)]) (rest := []) (y' := (⟨"com/example/pulld/pulld/broker/InFlightDeliveries", "after", "(I)I"⟩ : MethodName)) (a := d) (i := 0) d27_111 (hw _ (List.mem_of_getElem? (i := 156) rfl)) (hw _ (List.mem_of_getElem? (i := 157) rfl)) (hw _ (List.mem_of_getElem? (i := 158) rfl)) (hw _ (List.mem_of_getElem? (i := 2) rfl)) (hw _ (List.mem_of_getElem? (i := 3) rfl)) (hw _ (List.mem_of_getElem? (i := 159) rfl)) (by decide) rfl (rm24 l Z n0 w0 hw i d r s aq ao aa av ai ah ab hr hs mx ct us fr sr ss qs os ats vs ids hp tb R S X  ) (by decide) (by decide) rfl (lenOf pd__28I_29I rfl) rfl (Nat.le_of_eq rfl) (by decide) (by decide) rfl rfl rfl (fun v W' hF => ?_)
            obtain ⟨rfl, rfl⟩ := hF
            refine Go.val ?_
            refine Go.istoreN (pc' := 115) (ls' := #[.val (.ref d), .val (.int p1), .val (.int g), .val (.int (aft tb.length.toInt32 i)), .val (.int (e - (1 : Int32)))]) d27_114 rfl rfl ?_
            refine Go.goto (pc' := 44) d27_115 (by decide) (by decide) ?_
            exact ih _ _ _ _ (Or.inr ⟨_, rfl⟩) h
          ·
            rw [if_neg hc92] at h
            obtain ⟨tb2, ht, h⟩ := own_bind h
            refine Go.aloadN (pc' := 96) d27_95 rfl rfl rfl ?_
            refine Go.getF (pc' := 99) (i := 0) (j := 12) (v := (.ref ab)) (host := "") d27_96 (Or.inl (hw _ (List.mem_of_getElem? (i := 41) rfl))) rfl rfl rfl ?_
            refine Go.iloadN (pc' := 100) d27_99 rfl rfl ?_
            refine Go.aloadN (pc' := 101) d27_100 rfl rfl rfl ?_
            refine Go.getF (pc' := 104) (i := 0) (j := 12) (v := (.ref ab)) (host := "") d27_101 (Or.inl (hw _ (List.mem_of_getElem? (i := 41) rfl))) rfl rfl rfl ?_
            refine Go.iloadN (pc' := 105) d27_104 rfl rfl ?_
            refine Go.ialoadG (pc' := 106) (i := 9) d27_105 rfl he rfl ?_
            refine Go.iastoreG (pc' := 107) (i := 9) (W' := (DW d r s aq ao aa av ai ah ab hr hs mx ct us fr sr ss qs os ats vs ids hp tb2 R S ++ X)) d27_106 rfl ht rfl rfl ?_
            refine Go.iloadN (pc' := 108) d27_107 rfl rfl ?_
            refine Go.istoreN (pc' := 109) (ls' := #[.val (.ref d), .val (.int p1), .val (.int i), .val (.int i), .val (.int (e - (1 : Int32)))]) d27_108 rfl rfl ?_
            refine Go.aloadN (pc' := 110) d27_109 rfl rfl rfl ?_
            refine Go.iloadN (pc' := 111) d27_110 rfl rfl ?_
            refine Go.callP (pc' := 114) (W1 := 0) (cells' := 0) (slots' := 0) (argsL := [(.int i)]) (rest := []) (y' := (⟨"com/example/pulld/pulld/broker/InFlightDeliveries", "after", "(I)I"⟩ : MethodName)) (a := d) (i := 0) d27_111 (hw _ (List.mem_of_getElem? (i := 156) rfl)) (hw _ (List.mem_of_getElem? (i := 157) rfl)) (hw _ (List.mem_of_getElem? (i := 158) rfl)) (hw _ (List.mem_of_getElem? (i := 2) rfl)) (hw _ (List.mem_of_getElem? (i := 3) rfl)) (hw _ (List.mem_of_getElem? (i := 159) rfl)) (by decide) rfl (rm24 l Z n0 w0 hw i d r s aq ao aa av ai ah ab hr hs mx ct us fr sr ss qs os ats vs ids hp tb2 R S X  ) (by decide) (by decide) rfl (lenOf pd__28I_29I rfl) rfl (Nat.le_of_eq rfl) (by decide) (by decide) rfl rfl rfl (fun v W' hF => ?_)
            obtain ⟨rfl, rfl⟩ := hF
            refine Go.val ?_
            refine Go.istoreN (pc' := 115) (ls' := #[.val (.ref d), .val (.int p1), .val (.int i), .val (.int (aft tb2.length.toInt32 i)), .val (.int (e - (1 : Int32)))]) d27_114 rfl rfl ?_
            refine Go.goto (pc' := 44) d27_115 (by decide) (by decide) ?_
            exact ih _ _ _ _ (Or.inr ⟨_, rfl⟩) h
      ·
        refine Go.aloadN (pc' := 45) d27_44 rfl rfl rfl ?_
        refine Go.getF (pc' := 48) (i := 0) (j := 12) (v := (.ref ab)) (host := "") d27_45 (Or.inl (hw _ (List.mem_of_getElem? (i := 41) rfl))) rfl rfl rfl ?_
        refine Go.iloadN (pc' := 49) d27_48 rfl rfl ?_
        refine Go.ialoadG (pc' := 50) (i := 9) d27_49 rfl he rfl ?_
        refine Go.if_eq (pcY := 118) (pcN := 53) d27_50 (by decide) (by decide) rfl (fun hc50 => ?_) (fun hc50 => ?_)
        ·
          rw [if_pos hc50] at h
          refine Go.aloadN (pc' := 119) d27_118 rfl rfl rfl ?_
          refine Go.getF (pc' := 122) (i := 0) (j := 12) (v := (.ref ab)) (host := "") d27_119 (Or.inl (hw _ (List.mem_of_getElem? (i := 41) rfl))) rfl rfl rfl ?_
          refine Go.iloadN (pc' := 123) d27_122 rfl rfl ?_
          refine Go.iconst (pc' := 124) (v := (0 : Int32)) d27_123 rfl rfl ?_
          refine Go.iastoreG (pc' := 125) (i := 9) (W' := (DW d r s aq ao aa av ai ah ab hr hs mx ct us fr sr ss qs os ats vs ids hp tb' R S ++ X)) d27_124 rfl h rfl rfl ?_
          exact Go.retV d27_125 rfl (by decide) (by decide) ⟨rfl, rfl⟩
        ·
          rw [if_neg hc50] at h
          obtain ⟨q, hq, h⟩ := own_bind h
          obtain ⟨o, ho, h⟩ := own_bind h
          refine Go.aloadN (pc' := 54) d27_53 rfl rfl rfl ?_
          refine Go.getF (pc' := 57) (i := 0) (j := 12) (v := (.ref ab)) (host := "") d27_54 (Or.inl (hw _ (List.mem_of_getElem? (i := 41) rfl))) rfl rfl rfl ?_
          refine Go.iloadN (pc' := 58) d27_57 rfl rfl ?_
          refine Go.ialoadG (pc' := 59) (i := 9) d27_58 rfl he rfl ?_
          refine Go.iconst (pc' := 60) (v := (1 : Int32)) d27_59 rfl rfl ?_
          refine Go.isub (pc' := 61) d27_60 rfl ?_
          refine Go.istore (pc' := 63) (ls' := #[.val (.ref d), .val (.int p1), .val (.int g), .val (.int i), .val (.int (e - (1 : Int32)))]) d27_61 rfl rfl ?_
          refine Go.aloadN (pc' := 64) d27_63 rfl rfl rfl ?_
          refine Go.aloadN (pc' := 65) d27_64 rfl rfl rfl ?_
          refine Go.aloadN (pc' := 66) d27_65 rfl rfl rfl ?_
          refine Go.getF (pc' := 69) (i := 0) (j := 6) (v := (.ref aq)) (host := "") d27_66 (Or.inl (hw _ (List.mem_of_getElem? (i := 28) rfl))) rfl rfl rfl ?_
          refine Go.iload (pc' := 71) d27_69 rfl rfl ?_
          refine Go.ialoadG (pc' := 72) (i := 3) d27_71 rfl hq rfl ?_
          refine Go.aloadN (pc' := 73) d27_72 rfl rfl rfl ?_
          refine Go.getF (pc' := 76) (i := 0) (j := 7) (v := (.ref ao)) (host := "") d27_73 (Or.inl (hw _ (List.mem_of_getElem? (i := 31) rfl))) rfl rfl rfl ?_
          refine Go.iload (pc' := 78) d27_76 rfl rfl ?_
          refine Go.laloadG (pc' := 79) (i := 4) d27_78 rfl ho rfl ?_
          refine Go.callP (pc' := 82) (W1 := 1) (cells' := 0) (slots' := 0) (argsL := [(.int q), (.long o)]) (rest := [(.ref d)]) (y' := (⟨"com/example/pulld/pulld/broker/InFlightDeliveries", "bucket", "(IJ)I"⟩ : MethodName)) (a := d) (i := 0) d27_79 (hw _ (List.mem_of_getElem? (i := 108) rfl)) (hw _ (List.mem_of_getElem? (i := 109) rfl)) (hw _ (List.mem_of_getElem? (i := 110) rfl)) (hw _ (List.mem_of_getElem? (i := 2) rfl)) (hw _ (List.mem_of_getElem? (i := 3) rfl)) (hw _ (List.mem_of_getElem? (i := 111) rfl)) (by decide) rfl (rm14 l Z n0 w0 hw q o d r s aq ao aa av ai ah ab hr hs mx ct us fr sr ss qs os ats vs ids hp tb R S X  ) (by decide) (by decide) rfl (lenOf pd__28IJ_29I rfl) rfl (Nat.le_of_eq rfl) (by decide) (by decide) rfl rfl rfl (fun v W' hF => ?_)
          obtain ⟨rfl, rfl⟩ := hF
          refine Go.val ?_
          refine Go.iloadN (pc' := 83) d27_82 rfl rfl ?_
          refine Go.callP (pc' := 86) (W1 := 0) (cells' := 0) (slots' := 0) (argsL := [(.int (bkF tb.length.toInt32 q o)), (.int i)]) (rest := []) (y' := (⟨"com/example/pulld/pulld/broker/InFlightDeliveries", "distance", "(II)I"⟩ : MethodName)) (a := d) (i := 0) d27_83 (hw _ (List.mem_of_getElem? (i := 216) rfl)) (hw _ (List.mem_of_getElem? (i := 217) rfl)) (hw _ (List.mem_of_getElem? (i := 218) rfl)) (hw _ (List.mem_of_getElem? (i := 2) rfl)) (hw _ (List.mem_of_getElem? (i := 3) rfl)) (hw _ (List.mem_of_getElem? (i := 219) rfl)) (by decide) rfl (rm37 l Z n0 w0 hw (bkF tb.length.toInt32 q o) i d r s aq ao aa av ai ah ab hr hs mx ct us fr sr ss qs os ats vs ids hp tb R S X  ) (by decide) (by decide) rfl (lenOf pd__28II_29I rfl) rfl (Nat.le_of_eq rfl) (by decide) (by decide) rfl rfl rfl (fun v W' hF => ?_)
          obtain ⟨rfl, rfl⟩ := hF
          refine Go.val ?_
          refine Go.aloadN (pc' := 87) d27_86 rfl rfl rfl ?_
          refine Go.iloadN (pc' := 88) d27_87 rfl rfl ?_
          refine Go.iloadN (pc' := 89) d27_88 rfl rfl ?_
          refine Go.callP (pc' := 92) (W1 := 1) (cells' := 0) (slots' := 0) (argsL := [(.int g), (.int i)]) (rest := [(.int (dst tb.length.toInt32 (bkF tb.length.toInt32 q o) i))]) (y' := (⟨"com/example/pulld/pulld/broker/InFlightDeliveries", "distance", "(II)I"⟩ : MethodName)) (a := d) (i := 0) d27_89 (hw _ (List.mem_of_getElem? (i := 216) rfl)) (hw _ (List.mem_of_getElem? (i := 217) rfl)) (hw _ (List.mem_of_getElem? (i := 218) rfl)) (hw _ (List.mem_of_getElem? (i := 2) rfl)) (hw _ (List.mem_of_getElem? (i := 3) rfl)) (hw _ (List.mem_of_getElem? (i := 219) rfl)) (by decide) rfl (rm37 l Z n0 w0 hw g i d r s aq ao aa av ai ah ab hr hs mx ct us fr sr ss qs os ats vs ids hp tb R S X  ) (by decide) (by decide) rfl (lenOf pd__28II_29I rfl) rfl (Nat.le_of_eq rfl) (by decide) (by decide) rfl rfl rfl (fun v W' hF => ?_)
          obtain ⟨rfl, rfl⟩ := hF
          refine Go.val ?_
          refine Go.icmp_lt (pcY := 109) (pcN := 95) d27_92 (by decide) (by decide) rfl (fun hc92 => ?_) (fun hc92 => ?_)
          ·
            rw [if_pos hc92] at h
            refine Go.aloadN (pc' := 110) d27_109 rfl rfl rfl ?_
            refine Go.iloadN (pc' := 111) d27_110 rfl rfl ?_
            refine Go.callP (pc' := 114) (W1 := 0) (cells' := 0) (slots' := 0) (argsL := [(.int i)]) (rest := []) (y' := (⟨"com/example/pulld/pulld/broker/InFlightDeliveries", "after", "(I)I"⟩ : MethodName)) (a := d) (i := 0) d27_111 (hw _ (List.mem_of_getElem? (i := 156) rfl)) (hw _ (List.mem_of_getElem? (i := 157) rfl)) (hw _ (List.mem_of_getElem? (i := 158) rfl)) (hw _ (List.mem_of_getElem? (i := 2) rfl)) (hw _ (List.mem_of_getElem? (i := 3) rfl)) (hw _ (List.mem_of_getElem? (i := 159) rfl)) (by decide) rfl (rm24 l Z n0 w0 hw i d r s aq ao aa av ai ah ab hr hs mx ct us fr sr ss qs os ats vs ids hp tb R S X  ) (by decide) (by decide) rfl (lenOf pd__28I_29I rfl) rfl (Nat.le_of_eq rfl) (by decide) (by decide) rfl rfl rfl (fun v W' hF => ?_)
            obtain ⟨rfl, rfl⟩ := hF
            refine Go.val ?_
            refine Go.istoreN (pc' := 115) (ls' := #[.val (.ref d), .val (.int p1), .val (.int g), .val (.int (aft tb.length.toInt32 i)), .val (.int (e - (1 : Int32)))]) d27_114 rfl rfl ?_
            refine Go.goto (pc' := 44) d27_115 (by decide) (by decide) ?_
            exact ih _ _ _ _ (Or.inr ⟨_, rfl⟩) h
          ·
            rw [if_neg hc92] at h
            obtain ⟨tb2, ht, h⟩ := own_bind h
            refine Go.aloadN (pc' := 96) d27_95 rfl rfl rfl ?_
            refine Go.getF (pc' := 99) (i := 0) (j := 12) (v := (.ref ab)) (host := "") d27_96 (Or.inl (hw _ (List.mem_of_getElem? (i := 41) rfl))) rfl rfl rfl ?_
            refine Go.iloadN (pc' := 100) d27_99 rfl rfl ?_
            refine Go.aloadN (pc' := 101) d27_100 rfl rfl rfl ?_
            refine Go.getF (pc' := 104) (i := 0) (j := 12) (v := (.ref ab)) (host := "") d27_101 (Or.inl (hw _ (List.mem_of_getElem? (i := 41) rfl))) rfl rfl rfl ?_
            refine Go.iloadN (pc' := 105) d27_104 rfl rfl ?_
            refine Go.ialoadG (pc' := 106) (i := 9) d27_105 rfl he rfl ?_
            refine Go.iastoreG (pc' := 107) (i := 9) (W' := (DW d r s aq ao aa av ai ah ab hr hs mx ct us fr sr ss qs os ats vs ids hp tb2 R S ++ X)) d27_106 rfl ht rfl rfl ?_
            refine Go.iloadN (pc' := 108) d27_107 rfl rfl ?_
            refine Go.istoreN (pc' := 109) (ls' := #[.val (.ref d), .val (.int p1), .val (.int i), .val (.int i), .val (.int (e - (1 : Int32)))]) d27_108 rfl rfl ?_
            refine Go.aloadN (pc' := 110) d27_109 rfl rfl rfl ?_
            refine Go.iloadN (pc' := 111) d27_110 rfl rfl ?_
            refine Go.callP (pc' := 114) (W1 := 0) (cells' := 0) (slots' := 0) (argsL := [(.int i)]) (rest := []) (y' := (⟨"com/example/pulld/pulld/broker/InFlightDeliveries", "after", "(I)I"⟩ : MethodName)) (a := d) (i := 0) d27_111 (hw _ (List.mem_of_getElem? (i := 156) rfl)) (hw _ (List.mem_of_getElem? (i := 157) rfl)) (hw _ (List.mem_of_getElem? (i := 158) rfl)) (hw _ (List.mem_of_getElem? (i := 2) rfl)) (hw _ (List.mem_of_getElem? (i := 3) rfl)) (hw _ (List.mem_of_getElem? (i := 159) rfl)) (by decide) rfl (rm24 l Z n0 w0 hw i d r s aq ao aa av ai ah ab hr hs mx ct us fr sr ss qs os ats vs ids hp tb2 R S X  ) (by decide) (by decide) rfl (lenOf pd__28I_29I rfl) rfl (Nat.le_of_eq rfl) (by decide) (by decide) rfl rfl rfl (fun v W' hF => ?_)
            obtain ⟨rfl, rfl⟩ := hF
            refine Go.val ?_
            refine Go.istoreN (pc' := 115) (ls' := #[.val (.ref d), .val (.int p1), .val (.int i), .val (.int (aft tb2.length.toInt32 i)), .val (.int (e - (1 : Int32)))]) d27_114 rfl rfl ?_
            refine Go.goto (pc' := 44) d27_115 (by decide) (by decide) ?_
            exact ih _ _ _ _ (Or.inr ⟨_, rfl⟩) h
  have k17 : ∀ (f : Nat) (g : Int32), unl1 tb p1 f g = some g' → Go l Z n0 ({ frames := 1, cells := 0, slots := 0, locals := 18 } : Room) prog_12_method_20_code 5 (⟨"com/example/pulld/pulld/broker/InFlightDeliveries", "unlink", "(I)V"⟩ : MethodName) none D (DW d r s aq ao aa av ai ah ab hr hs mx ct us fr sr ss qs os ats vs ids hp tb R S ++ X) 0 0 17 #[.val (.ref d), .val (.int p1), .val (.int g), .unset, .unset] [] (fun v W' => v = none ∧ W' = (DW d r s aq ao aa av ai ah ab hr hs mx ct us fr sr ss qs os ats vs ids hp tb' R S ++ X)) := by
    intro f
    induction f with
    | zero => intro g h; exact absurd h (by simp [unl1])
    | succ f ih =>
      intro g h
      rw [unl1] at h
      obtain ⟨e, he, h⟩ := own_bind h
      refine Go.aloadN (pc' := 18) d27_17 rfl rfl rfl ?_
      refine Go.getF (pc' := 21) (i := 0) (j := 12) (v := (.ref ab)) (host := "") d27_18 (Or.inl (hw _ (List.mem_of_getElem? (i := 41) rfl))) rfl rfl rfl ?_
      refine Go.iloadN (pc' := 22) d27_21 rfl rfl ?_
      refine Go.ialoadG (pc' := 23) (i := 9) d27_22 rfl he rfl ?_
      refine Go.iloadN (pc' := 24) d27_23 rfl rfl ?_
      refine Go.iconst (pc' := 25) (v := (1 : Int32)) d27_24 rfl rfl ?_
      refine Go.iadd (pc' := 26) d27_25 rfl ?_
      refine Go.icmp_eq (pcY := 38) (pcN := 29) d27_26 (by decide) (by decide) rfl (fun hc26 => ?_) (fun hc26 => ?_)
      ·
        rw [if_pos hc26] at h
        have eg := Option.some.inj h
        refine Go.aloadN (pc' := 39) d27_38 rfl rfl rfl ?_
        refine Go.iloadN (pc' := 40) d27_39 rfl rfl ?_
        refine Go.callP (pc' := 43) (W1 := 0) (cells' := 0) (slots' := 0) (argsL := [(.int g)]) (rest := []) (y' := (⟨"com/example/pulld/pulld/broker/InFlightDeliveries", "after", "(I)I"⟩ : MethodName)) (a := d) (i := 0) d27_40 (hw _ (List.mem_of_getElem? (i := 156) rfl)) (hw _ (List.mem_of_getElem? (i := 157) rfl)) (hw _ (List.mem_of_getElem? (i := 158) rfl)) (hw _ (List.mem_of_getElem? (i := 2) rfl)) (hw _ (List.mem_of_getElem? (i := 3) rfl)) (hw _ (List.mem_of_getElem? (i := 159) rfl)) (by decide) rfl (rm24 l Z n0 w0 hw g d r s aq ao aa av ai ah ab hr hs mx ct us fr sr ss qs os ats vs ids hp tb R S X  ) (by decide) (by decide) rfl (lenOf pd__28I_29I rfl) rfl (Nat.le_of_eq rfl) (by decide) (by decide) rfl rfl rfl (fun v W' hF => ?_)
        obtain ⟨rfl, rfl⟩ := hF
        refine Go.val ?_
        refine Go.istoreN (pc' := 44) (ls' := #[.val (.ref d), .val (.int p1), .val (.int g), .val (.int (aft tb.length.toInt32 g)), .unset]) d27_43 rfl rfl ?_
        exact k44 8 _ _ _ _ (Or.inl rfl) (by rw [eg]; exact hF)
      ·
        rw [if_neg hc26] at h
        refine Go.aloadN (pc' := 30) d27_29 rfl rfl rfl ?_
        refine Go.iloadN (pc' := 31) d27_30 rfl rfl ?_
        refine Go.callP (pc' := 34) (W1 := 0) (cells' := 0) (slots' := 0) (argsL := [(.int g)]) (rest := []) (y' := (⟨"com/example/pulld/pulld/broker/InFlightDeliveries", "after", "(I)I"⟩ : MethodName)) (a := d) (i := 0) d27_31 (hw _ (List.mem_of_getElem? (i := 156) rfl)) (hw _ (List.mem_of_getElem? (i := 157) rfl)) (hw _ (List.mem_of_getElem? (i := 158) rfl)) (hw _ (List.mem_of_getElem? (i := 2) rfl)) (hw _ (List.mem_of_getElem? (i := 3) rfl)) (hw _ (List.mem_of_getElem? (i := 159) rfl)) (by decide) rfl (rm24 l Z n0 w0 hw g d r s aq ao aa av ai ah ab hr hs mx ct us fr sr ss qs os ats vs ids hp tb R S X  ) (by decide) (by decide) rfl (lenOf pd__28I_29I rfl) rfl (Nat.le_of_eq rfl) (by decide) (by decide) rfl rfl rfl (fun v W' hF => ?_)
        obtain ⟨rfl, rfl⟩ := hF
        refine Go.val ?_
        refine Go.istoreN (pc' := 35) (ls' := #[.val (.ref d), .val (.int p1), .val (.int (aft tb.length.toInt32 g)), .unset, .unset]) d27_34 rfl rfl ?_
        refine Go.goto (pc' := 17) d27_35 (by decide) (by decide) ?_
        exact ih _ h
  refine Go.aloadN (pc' := 1) d27_0 rfl rfl rfl ?_
  refine Go.aloadN (pc' := 2) d27_1 rfl rfl rfl ?_
  refine Go.getF (pc' := 5) (i := 0) (j := 6) (v := (.ref aq)) (host := "") d27_2 (Or.inl (hw _ (List.mem_of_getElem? (i := 28) rfl))) rfl rfl rfl ?_
  refine Go.iloadN (pc' := 6) d27_5 rfl rfl ?_
  refine Go.ialoadG (pc' := 7) (i := 3) d27_6 rfl hq rfl ?_
  refine Go.aloadN (pc' := 8) d27_7 rfl rfl rfl ?_
  refine Go.getF (pc' := 11) (i := 0) (j := 7) (v := (.ref ao)) (host := "") d27_8 (Or.inl (hw _ (List.mem_of_getElem? (i := 31) rfl))) rfl rfl rfl ?_
  refine Go.iloadN (pc' := 12) d27_11 rfl rfl ?_
  refine Go.laloadG (pc' := 13) (i := 4) d27_12 rfl ho rfl ?_
  refine Go.callP (pc' := 16) (W1 := 0) (cells' := 0) (slots' := 0) (argsL := [(.int q), (.long o)]) (rest := []) (y' := (⟨"com/example/pulld/pulld/broker/InFlightDeliveries", "bucket", "(IJ)I"⟩ : MethodName)) (a := d) (i := 0) d27_13 (hw _ (List.mem_of_getElem? (i := 108) rfl)) (hw _ (List.mem_of_getElem? (i := 109) rfl)) (hw _ (List.mem_of_getElem? (i := 110) rfl)) (hw _ (List.mem_of_getElem? (i := 2) rfl)) (hw _ (List.mem_of_getElem? (i := 3) rfl)) (hw _ (List.mem_of_getElem? (i := 111) rfl)) (by decide) rfl (rm14 l Z n0 w0 hw q o d r s aq ao aa av ai ah ab hr hs mx ct us fr sr ss qs os ats vs ids hp tb R S X  ) (by decide) (by decide) rfl (lenOf pd__28IJ_29I rfl) rfl (Nat.le_of_eq rfl) (by decide) (by decide) rfl rfl rfl (fun v W' hF => ?_)
  obtain ⟨rfl, rfl⟩ := hF
  refine Go.val ?_
  refine Go.istoreN (pc' := 17) (ls' := #[.val (.ref d), .val (.int p1), .val (.int (bkF tb.length.toInt32 q o)), .unset, .unset]) d27_16 rfl rfl ?_
  exact k17 8 _ hg
theorem d20_0 : decode prog_14_method_10_code 0 = .ok (.aload_n 0, 1) := by decide +kernel
theorem d20_1 : decode prog_14_method_10_code 1 = .ok (.getfield 13, 3) := by decide +kernel
theorem d20_4 : decode prog_14_method_10_code 4 = .ok (.iload_n 1, 1) := by decide +kernel
theorem d20_5 : decode prog_14_method_10_code 5 = .ok (.iload_n 2, 1) := by decide +kernel
theorem d20_6 : decode prog_14_method_10_code 6 = .ok (.iastore, 1) := by decide +kernel
theorem d20_7 : decode prog_14_method_10_code 7 = .ok (.aload_n 0, 1) := by decide +kernel
theorem d20_8 : decode prog_14_method_10_code 8 = .ok (.getfield 1, 3) := by decide +kernel
theorem d20_11 : decode prog_14_method_10_code 11 = .ok (.getfield 85, 3) := by decide +kernel
theorem d20_14 : decode prog_14_method_10_code 14 = .ok (.iload_n 2, 1) := by decide +kernel
theorem d20_15 : decode prog_14_method_10_code 15 = .ok (.iload_n 1, 1) := by decide +kernel
theorem d20_16 : decode prog_14_method_10_code 16 = .ok (.iastore, 1) := by decide +kernel
theorem d20_17 : decode prog_14_method_10_code 17 = .ok (.return_, 1) := by decide +kernel
set_option maxRecDepth 65536 in
set_option maxHeartbeats 40000000 in
theorem placer (l : Launch) (Z : State) (n0 : Nat) (w0 : Array Value) (hw : ∀ d ∈ tables_1, d.before w0 Z = true) (p1 : Int32) (p2 : Int32) (d r s aq ao aa av ai ah ab hr hs : Addr) (mx ct us fr sr ss : Int32) (qs : List Int32) (os : List Int64) (ats : List Int32) (vs ids : List Int64) (hp tb R S : List Int32) (X : Wld) (R' hp' : List Int32) (hF : plF R hp p1 p2 = some (R', hp')) :
    Meets l Z n0 (⟨"com/example/pulld/pulld/broker/InFlightDeliveries$ByVisibleAt", "place", "(II)V"⟩ : MethodName) prog_14_method_10_code 3 none ({ frames := 0, cells := 0, slots := 0, locals := 0 } : Room) [] #[(.ref r), (.int p1), (.int p2)] (DW d r s aq ao aa av ai ah ab hr hs mx ct us fr sr ss qs os ats vs ids hp tb R S ++ X) (fun v W' => v = none ∧ W' = (DW d r s aq ao aa av ai ah ab hr hs mx ct us fr sr ss qs os ats vs ids hp' tb R' S ++ X)) := by
  refine Meets.of_go (ls := #[.val (.ref r), .val (.int p1), .val (.int p2)]) (plainFor_of_name (by first | (simp [plainName, overriddenIn]; done) | decide +kernel)) (fun m => by first | (simp [entryFrame, mkF, argsToLocals, Value.category, maxLocals]; done) | rfl) (fun D => ?_)
  dsimp only [plF] at hF
  obtain ⟨A1, h1, hF⟩ := own_bind hF
  obtain ⟨A2, h2, hF⟩ := own_bind hF
  obtain ⟨e1, e2⟩ := Prod.mk.inj (Option.some.inj hF)
  subst e1 e2
  refine Go.aloadN (pc' := 1) d20_0 rfl rfl rfl ?_
  refine Go.getF (pc' := 4) (i := 1) (j := 1) (v := (.ref hr)) (host := "") d20_1 (Or.inl (hw _ (List.mem_of_getElem? (i := 20) rfl))) rfl rfl rfl ?_
  refine Go.iloadN (pc' := 5) d20_4 rfl rfl ?_
  refine Go.iloadN (pc' := 6) d20_5 rfl rfl ?_
  refine Go.iastoreG (pc' := 7) (i := 10) (W' := (DW d r s aq ao aa av ai ah ab hr hs mx ct us fr sr ss qs os ats vs ids hp tb A1 S ++ X)) d20_6 rfl h1 rfl rfl ?_
  refine Go.aloadN (pc' := 8) d20_7 rfl rfl rfl ?_
  refine Go.getF (pc' := 11) (i := 1) (j := 0) (v := (.ref d)) (host := "") d20_8 (Or.inl (hw _ (List.mem_of_getElem? (i := 16) rfl))) rfl rfl rfl ?_
  refine Go.getF (pc' := 14) (i := 0) (j := 11) (v := (.ref ah))  d20_11 (Or.inr (hw _ (List.mem_of_getElem? (i := 143) rfl))) rfl rfl rfl ?_
  refine Go.iloadN (pc' := 15) d20_14 rfl rfl ?_
  refine Go.iloadN (pc' := 16) d20_15 rfl rfl ?_
  refine Go.iastoreG (pc' := 17) (i := 8) (W' := (DW d r s aq ao aa av ai ah ab hr hs mx ct us fr sr ss qs os ats vs ids A2 tb A1 S ++ X)) d20_16 rfl h2 rfl rfl ?_
  exact Go.retV d20_17 rfl (by decide) (by decide) ⟨rfl, rfl⟩
theorem d21_0 : decode prog_14_method_8_code 0 = .ok (.iload_n 1, 1) := by decide +kernel
theorem d21_1 : decode prog_14_method_8_code 1 = .ok (.istore_n 2, 1) := by decide +kernel
theorem d21_2 : decode prog_14_method_8_code 2 = .ok (.aload_n 0, 1) := by decide +kernel
theorem d21_3 : decode prog_14_method_8_code 3 = .ok (.getfield 13, 3) := by decide +kernel
theorem d21_6 : decode prog_14_method_8_code 6 = .ok (.iload_n 2, 1) := by decide +kernel
theorem d21_7 : decode prog_14_method_8_code 7 = .ok (.iaload, 1) := by decide +kernel
theorem d21_8 : decode prog_14_method_8_code 8 = .ok (.istore_n 3, 1) := by decide +kernel
theorem d21_9 : decode prog_14_method_8_code 9 = .ok (.iload_n 2, 1) := by decide +kernel
theorem d21_10 : decode prog_14_method_8_code 10 = .ok (.ifCond .le 48, 3) := by decide +kernel
theorem d21_13 : decode prog_14_method_8_code 13 = .ok (.aload_n 0, 1) := by decide +kernel
theorem d21_14 : decode prog_14_method_8_code 14 = .ok (.getfield 1, 3) := by decide +kernel
theorem d21_17 : decode prog_14_method_8_code 17 = .ok (.iload_n 3, 1) := by decide +kernel
theorem d21_18 : decode prog_14_method_8_code 18 = .ok (.aload_n 0, 1) := by decide +kernel
theorem d21_19 : decode prog_14_method_8_code 19 = .ok (.getfield 13, 3) := by decide +kernel
theorem d21_22 : decode prog_14_method_8_code 22 = .ok (.iload_n 2, 1) := by decide +kernel
theorem d21_23 : decode prog_14_method_8_code 23 = .ok (.iconst 1, 1) := by decide +kernel
theorem d21_24 : decode prog_14_method_8_code 24 = .ok (.isub, 1) := by decide +kernel
theorem d21_25 : decode prog_14_method_8_code 25 = .ok (.iconst 2, 1) := by decide +kernel
theorem d21_26 : decode prog_14_method_8_code 26 = .ok (.idiv, 1) := by decide +kernel
theorem d21_27 : decode prog_14_method_8_code 27 = .ok (.iaload, 1) := by decide +kernel
theorem d21_28 : decode prog_14_method_8_code 28 = .ok (.invokevirtual 91, 3) := by decide +kernel
theorem d21_31 : decode prog_14_method_8_code 31 = .ok (.ifCond .ge 27, 3) := by decide +kernel
theorem d21_34 : decode prog_14_method_8_code 34 = .ok (.aload_n 0, 1) := by decide +kernel
theorem d21_35 : decode prog_14_method_8_code 35 = .ok (.iload_n 2, 1) := by decide +kernel
theorem d21_36 : decode prog_14_method_8_code 36 = .ok (.aload_n 0, 1) := by decide +kernel
theorem d21_37 : decode prog_14_method_8_code 37 = .ok (.getfield 13, 3) := by decide +kernel
theorem d21_40 : decode prog_14_method_8_code 40 = .ok (.iload_n 2, 1) := by decide +kernel
theorem d21_41 : decode prog_14_method_8_code 41 = .ok (.iconst 1, 1) := by decide +kernel
theorem d21_42 : decode prog_14_method_8_code 42 = .ok (.isub, 1) := by decide +kernel
theorem d21_43 : decode prog_14_method_8_code 43 = .ok (.iconst 2, 1) := by decide +kernel
theorem d21_44 : decode prog_14_method_8_code 44 = .ok (.idiv, 1) := by decide +kernel
theorem d21_45 : decode prog_14_method_8_code 45 = .ok (.iaload, 1) := by decide +kernel
theorem d21_46 : decode prog_14_method_8_code 46 = .ok (.invokevirtual 77, 3) := by decide +kernel
theorem d21_49 : decode prog_14_method_8_code 49 = .ok (.iload_n 2, 1) := by decide +kernel
theorem d21_50 : decode prog_14_method_8_code 50 = .ok (.iconst 1, 1) := by decide +kernel
theorem d21_51 : decode prog_14_method_8_code 51 = .ok (.isub, 1) := by decide +kernel
theorem d21_52 : decode prog_14_method_8_code 52 = .ok (.iconst 2, 1) := by decide +kernel
theorem d21_53 : decode prog_14_method_8_code 53 = .ok (.idiv, 1) := by decide +kernel
theorem d21_54 : decode prog_14_method_8_code 54 = .ok (.istore_n 2, 1) := by decide +kernel
theorem d21_55 : decode prog_14_method_8_code 55 = .ok (.goto (-46), 3) := by decide +kernel
theorem d21_58 : decode prog_14_method_8_code 58 = .ok (.aload_n 0, 1) := by decide +kernel
theorem d21_59 : decode prog_14_method_8_code 59 = .ok (.iload_n 2, 1) := by decide +kernel
theorem d21_60 : decode prog_14_method_8_code 60 = .ok (.iload_n 3, 1) := by decide +kernel
theorem d21_61 : decode prog_14_method_8_code 61 = .ok (.invokevirtual 77, 3) := by decide +kernel
theorem d21_64 : decode prog_14_method_8_code 64 = .ok (.return_, 1) := by decide +kernel
theorem pd__28II_29V : parseMethodDescriptor "(II)V" = some ⟨[.int, .int], none⟩ := by decide +kernel
set_option maxRecDepth 65536 in
set_option maxHeartbeats 40000000 in
theorem siftUpr (l : Launch) (Z : State) (n0 : Nat) (w0 : Array Value) (hw : ∀ d ∈ tables_1, d.before w0 Z = true) (p1 : Int32) (d r s aq ao aa av ai ah ab hr hs : Addr) (mx ct us fr sr ss : Int32) (qs : List Int32) (os : List Int64) (ats : List Int32) (vs ids : List Int64) (hp tb R S : List Int32) (X : Wld) (R' hp' : List Int32) (hF : upF (cmpS qs os vs) R hp p1 = some (R', hp')) :
    Meets l Z n0 (⟨"com/example/pulld/pulld/broker/InFlightDeliveries$ByVisibleAt", "siftUp", "(I)V"⟩ : MethodName) prog_14_method_8_code 4 none ({ frames := 2, cells := 0, slots := 0, locals := 30 } : Room) [] #[(.ref r), (.int p1)] (DW d r s aq ao aa av ai ah ab hr hs mx ct us fr sr ss qs os ats vs ids hp tb R S ++ X) (fun v W' => v = none ∧ W' = (DW d r s aq ao aa av ai ah ab hr hs mx ct us fr sr ss qs os ats vs ids hp' tb R' S ++ X)) := by
  refine Meets.of_go (ls := #[.val (.ref r), .val (.int p1), .unset, .unset]) (plainFor_of_name (by first | (simp [plainName, overriddenIn]; done) | decide +kernel)) (fun m => by first | (simp [entryFrame, mkF, argsToLocals, Value.category, maxLocals]; done) | rfl) (fun D => ?_)
  dsimp only [upF] at hF
  obtain ⟨x, hx, hF⟩ := own_bind hF
  have k9 : ∀ (f : Nat) (R hp : List Int32) (i : Int32), upL (cmpS qs os vs) f R hp i x = some (R', hp') → Go l Z n0 ({ frames := 2, cells := 0, slots := 0, locals := 30 } : Room) prog_14_method_8_code 4 (⟨"com/example/pulld/pulld/broker/InFlightDeliveries$ByVisibleAt", "siftUp", "(I)V"⟩ : MethodName) none D (DW d r s aq ao aa av ai ah ab hr hs mx ct us fr sr ss qs os ats vs ids hp tb R S ++ X) 0 0 9 #[.val (.ref r), .val (.int p1), .val (.int i), .val (.int x)] [] (fun v W' => v = none ∧ W' = (DW d r s aq ao aa av ai ah ab hr hs mx ct us fr sr ss qs os ats vs ids hp' tb R' S ++ X)) := by
    intro f
    induction f with
    | zero => intro R hp i h; exact absurd h (by simp [upL])
    | succ f ih =>
      intro R hp i h
      rw [upL] at h
      have k58 : plF R hp i x = some (R', hp') → Go l Z n0 ({ frames := 2, cells := 0, slots := 0, locals := 30 } : Room) prog_14_method_8_code 4 (⟨"com/example/pulld/pulld/broker/InFlightDeliveries$ByVisibleAt", "siftUp", "(I)V"⟩ : MethodName) none D (DW d r s aq ao aa av ai ah ab hr hs mx ct us fr sr ss qs os ats vs ids hp tb R S ++ X) 0 0 58 #[.val (.ref r), .val (.int p1), .val (.int i), .val (.int x)] [] (fun v W' => v = none ∧ W' = (DW d r s aq ao aa av ai ah ab hr hs mx ct us fr sr ss qs os ats vs ids hp' tb R' S ++ X)) := by
        intro hpl
        refine Go.aloadN (pc' := 59) d21_58 rfl rfl rfl ?_
        refine Go.iloadN (pc' := 60) d21_59 rfl rfl ?_
        refine Go.iloadN (pc' := 61) d21_60 rfl rfl ?_
        refine Go.callP (pc' := 64) (W1 := 0) (cells' := 0) (slots' := 0) (argsL := [(.int i), (.int x)]) (rest := []) (y' := (⟨"com/example/pulld/pulld/broker/InFlightDeliveries$ByVisibleAt", "place", "(II)V"⟩ : MethodName)) (a := r) (i := 1) d21_61 (hw _ (List.mem_of_getElem? (i := 139) rfl)) (hw _ (List.mem_of_getElem? (i := 140) rfl)) (hw _ (List.mem_of_getElem? (i := 141) rfl)) (hw _ (List.mem_of_getElem? (i := 11) rfl)) (hw _ (List.mem_of_getElem? (i := 12) rfl)) (hw _ (List.mem_of_getElem? (i := 142) rfl)) (by decide) rfl (placer l Z n0 w0 hw i x d r s aq ao aa av ai ah ab hr hs mx ct us fr sr ss qs os ats vs ids hp tb R S X R' hp' hpl) (by decide) (by decide) rfl (lenOf pd__28II_29V rfl) rfl (Nat.le_of_eq rfl) (by decide) (by decide) rfl rfl rfl (fun v W' hF => ?_)
        obtain ⟨rfl, rfl⟩ := hF
        refine Go.nov ?_
        exact Go.retV d21_64 rfl (by decide) (by decide) ⟨rfl, rfl⟩
      refine Go.iloadN (pc' := 10) d21_9 rfl rfl ?_
      refine Go.if_le (pcY := 58) (pcN := 13) d21_10 (by decide) (by decide) rfl (fun hc10 => ?_) (fun hc10 => ?_)
      ·
        rw [if_neg hc10] at h
        exact k58 h
      ·
        rw [if_pos hc10] at h
        obtain ⟨u, hu, h⟩ := own_bind h
        obtain ⟨c, hc, h⟩ := own_bind h
        refine Go.aloadN (pc' := 14) d21_13 rfl rfl rfl ?_
        refine Go.getF (pc' := 17) (i := 1) (j := 0) (v := (.ref d)) (host := "") d21_14 (Or.inl (hw _ (List.mem_of_getElem? (i := 16) rfl))) rfl rfl rfl ?_
        refine Go.iloadN (pc' := 18) d21_17 rfl rfl ?_
        refine Go.aloadN (pc' := 19) d21_18 rfl rfl rfl ?_
        refine Go.getF (pc' := 22) (i := 1) (j := 1) (v := (.ref hr)) (host := "") d21_19 (Or.inl (hw _ (List.mem_of_getElem? (i := 20) rfl))) rfl rfl rfl ?_
        refine Go.iloadN (pc' := 23) d21_22 rfl rfl ?_
        refine Go.iconst (pc' := 24) (v := (1 : Int32)) d21_23 rfl rfl ?_
        refine Go.isub (pc' := 25) d21_24 rfl ?_
        refine Go.iconst (pc' := 26) (v := (2 : Int32)) d21_25 rfl rfl ?_
        refine Go.idiv (pc' := 27) d21_26 (by decide) rfl ?_
        refine Go.ialoadG (pc' := 28) (i := 10) d21_27 rfl hu rfl ?_
        refine Go.callPN (pc' := 31) (W1 := 0) (cells' := 0) (slots' := 0) (argsL := [(.int x), (.int u)]) (rest := []) (y' := (⟨"com/example/pulld/pulld/broker/InFlightDeliveries", "compare", "(II)I"⟩ : MethodName)) (a := d) (i := 0) d21_28 (hw _ (List.mem_of_getElem? (i := 148) rfl)) (hw _ (List.mem_of_getElem? (i := 149) rfl)) (hw _ (List.mem_of_getElem? (i := 150) rfl)) (hw _ (List.mem_of_getElem? (i := 2) rfl)) (hw _ (List.mem_of_getElem? (i := 3) rfl)) (hw _ (List.mem_of_getElem? (i := 151) rfl)) (by decide) rfl (rm22 l Z n0 w0 hw x u d r s aq ao aa av ai ah ab hr hs mx ct us fr sr ss qs os ats vs ids hp tb R S X c hc) (by decide) (by decide) rfl (lenOf pd__28II_29I rfl) rfl (Nat.le_of_eq rfl) (by decide) (by decide) rfl rfl rfl (fun v W' hF => ?_)
        obtain ⟨rfl, rfl⟩ := hF
        refine Go.val ?_
        refine Go.if_ge (pcY := 58) (pcN := 34) d21_31 (by decide) (by decide) rfl (fun hc31 => ?_) (fun hc31 => ?_)
        ·
          rw [if_neg hc31] at h
          exact k58 h
        ·
          rw [if_pos hc31] at h
          obtain ⟨⟨A1, A2⟩, hz, h⟩ := own_bind h
          refine Go.aloadN (pc' := 35) d21_34 rfl rfl rfl ?_
          refine Go.iloadN (pc' := 36) d21_35 rfl rfl ?_
          refine Go.aloadN (pc' := 37) d21_36 rfl rfl rfl ?_
          refine Go.getF (pc' := 40) (i := 1) (j := 1) (v := (.ref hr)) (host := "") d21_37 (Or.inl (hw _ (List.mem_of_getElem? (i := 20) rfl))) rfl rfl rfl ?_
          refine Go.iloadN (pc' := 41) d21_40 rfl rfl ?_
          refine Go.iconst (pc' := 42) (v := (1 : Int32)) d21_41 rfl rfl ?_
          refine Go.isub (pc' := 43) d21_42 rfl ?_
          refine Go.iconst (pc' := 44) (v := (2 : Int32)) d21_43 rfl rfl ?_
          refine Go.idiv (pc' := 45) d21_44 (by decide) rfl ?_
          refine Go.ialoadG (pc' := 46) (i := 10) d21_45 rfl hu rfl ?_
          refine Go.callP (pc' := 49) (W1 := 0) (cells' := 0) (slots' := 0) (argsL := [(.int i), (.int u)]) (rest := []) (y' := (⟨"com/example/pulld/pulld/broker/InFlightDeliveries$ByVisibleAt", "place", "(II)V"⟩ : MethodName)) (a := r) (i := 1) d21_46 (hw _ (List.mem_of_getElem? (i := 139) rfl)) (hw _ (List.mem_of_getElem? (i := 140) rfl)) (hw _ (List.mem_of_getElem? (i := 141) rfl)) (hw _ (List.mem_of_getElem? (i := 11) rfl)) (hw _ (List.mem_of_getElem? (i := 12) rfl)) (hw _ (List.mem_of_getElem? (i := 142) rfl)) (by decide) rfl (placer l Z n0 w0 hw i u d r s aq ao aa av ai ah ab hr hs mx ct us fr sr ss qs os ats vs ids hp tb R S X A1 A2 hz) (by decide) (by decide) rfl (lenOf pd__28II_29V rfl) rfl (Nat.le_of_eq rfl) (by decide) (by decide) rfl rfl rfl (fun v W' hF => ?_)
          obtain ⟨rfl, rfl⟩ := hF
          refine Go.nov ?_
          refine Go.iloadN (pc' := 50) d21_49 rfl rfl ?_
          refine Go.iconst (pc' := 51) (v := (1 : Int32)) d21_50 rfl rfl ?_
          refine Go.isub (pc' := 52) d21_51 rfl ?_
          refine Go.iconst (pc' := 53) (v := (2 : Int32)) d21_52 rfl rfl ?_
          refine Go.idiv (pc' := 54) d21_53 (by decide) rfl ?_
          refine Go.istoreN (pc' := 55) (ls' := #[.val (.ref r), .val (.int p1), .val (.int ((i - (1 : Int32)) / (2 : Int32))), .val (.int x)]) d21_54 rfl rfl ?_
          refine Go.goto (pc' := 9) d21_55 (by decide) (by decide) ?_
          exact ih _ _ _ h
  refine Go.iloadN (pc' := 1) d21_0 rfl rfl ?_
  refine Go.istoreN (pc' := 2) (ls' := #[.val (.ref r), .val (.int p1), .val (.int p1), .unset]) d21_1 rfl rfl ?_
  refine Go.aloadN (pc' := 3) d21_2 rfl rfl rfl ?_
  refine Go.getF (pc' := 6) (i := 1) (j := 1) (v := (.ref hr)) (host := "") d21_3 (Or.inl (hw _ (List.mem_of_getElem? (i := 20) rfl))) rfl rfl rfl ?_
  refine Go.iloadN (pc' := 7) d21_6 rfl rfl ?_
  refine Go.ialoadG (pc' := 8) (i := 10) d21_7 rfl hx rfl ?_
  refine Go.istoreN (pc' := 9) (ls' := #[.val (.ref r), .val (.int p1), .val (.int p1), .val (.int x)]) d21_8 rfl rfl ?_
  exact k9 4 _ _ _ hF
theorem d34_0 : decode prog_14_method_9_code 0 = .ok (.iload_n 1, 1) := by decide +kernel
theorem d34_1 : decode prog_14_method_9_code 1 = .ok (.istore_n 2, 1) := by decide +kernel
theorem d34_2 : decode prog_14_method_9_code 2 = .ok (.aload_n 0, 1) := by decide +kernel
theorem d34_3 : decode prog_14_method_9_code 3 = .ok (.getfield 13, 3) := by decide +kernel
theorem d34_6 : decode prog_14_method_9_code 6 = .ok (.iload_n 2, 1) := by decide +kernel
theorem d34_7 : decode prog_14_method_9_code 7 = .ok (.iaload, 1) := by decide +kernel
theorem d34_8 : decode prog_14_method_9_code 8 = .ok (.istore_n 3, 1) := by decide +kernel
theorem d34_9 : decode prog_14_method_9_code 9 = .ok (.iconst 1, 1) := by decide +kernel
theorem d34_10 : decode prog_14_method_9_code 10 = .ok (.istore 4, 2) := by decide +kernel
theorem d34_12 : decode prog_14_method_9_code 12 = .ok (.iload 4, 2) := by decide +kernel
theorem d34_14 : decode prog_14_method_9_code 14 = .ok (.ifCond .eq 110, 3) := by decide +kernel
theorem d34_17 : decode prog_14_method_9_code 17 = .ok (.iconst 2, 1) := by decide +kernel
theorem d34_18 : decode prog_14_method_9_code 18 = .ok (.iload_n 2, 1) := by decide +kernel
theorem d34_19 : decode prog_14_method_9_code 19 = .ok (.imul, 1) := by decide +kernel
theorem d34_20 : decode prog_14_method_9_code 20 = .ok (.iconst 1, 1) := by decide +kernel
theorem d34_21 : decode prog_14_method_9_code 21 = .ok (.iadd, 1) := by decide +kernel
theorem d34_22 : decode prog_14_method_9_code 22 = .ok (.aload_n 0, 1) := by decide +kernel
theorem d34_23 : decode prog_14_method_9_code 23 = .ok (.getfield 17, 3) := by decide +kernel
theorem d34_26 : decode prog_14_method_9_code 26 = .ok (.if_icmp .ge 98, 3) := by decide +kernel
theorem d34_29 : decode prog_14_method_9_code 29 = .ok (.iconst 2, 1) := by decide +kernel
theorem d34_30 : decode prog_14_method_9_code 30 = .ok (.iload_n 2, 1) := by decide +kernel
theorem d34_31 : decode prog_14_method_9_code 31 = .ok (.imul, 1) := by decide +kernel
theorem d34_32 : decode prog_14_method_9_code 32 = .ok (.iconst 1, 1) := by decide +kernel
theorem d34_33 : decode prog_14_method_9_code 33 = .ok (.iadd, 1) := by decide +kernel
theorem d34_34 : decode prog_14_method_9_code 34 = .ok (.istore 5, 2) := by decide +kernel
theorem d34_36 : decode prog_14_method_9_code 36 = .ok (.iload 5, 2) := by decide +kernel
theorem d34_38 : decode prog_14_method_9_code 38 = .ok (.iconst 1, 1) := by decide +kernel
theorem d34_39 : decode prog_14_method_9_code 39 = .ok (.iadd, 1) := by decide +kernel
theorem d34_40 : decode prog_14_method_9_code 40 = .ok (.aload_n 0, 1) := by decide +kernel
theorem d34_41 : decode prog_14_method_9_code 41 = .ok (.getfield 17, 3) := by decide +kernel
theorem d34_44 : decode prog_14_method_9_code 44 = .ok (.if_icmp .ge 32, 3) := by decide +kernel
theorem d34_47 : decode prog_14_method_9_code 47 = .ok (.aload_n 0, 1) := by decide +kernel
theorem d34_48 : decode prog_14_method_9_code 48 = .ok (.getfield 1, 3) := by decide +kernel
theorem d34_51 : decode prog_14_method_9_code 51 = .ok (.aload_n 0, 1) := by decide +kernel
theorem d34_52 : decode prog_14_method_9_code 52 = .ok (.getfield 13, 3) := by decide +kernel
theorem d34_55 : decode prog_14_method_9_code 55 = .ok (.iload 5, 2) := by decide +kernel
theorem d34_57 : decode prog_14_method_9_code 57 = .ok (.iconst 1, 1) := by decide +kernel
theorem d34_58 : decode prog_14_method_9_code 58 = .ok (.iadd, 1) := by decide +kernel
theorem d34_59 : decode prog_14_method_9_code 59 = .ok (.iaload, 1) := by decide +kernel
theorem d34_60 : decode prog_14_method_9_code 60 = .ok (.aload_n 0, 1) := by decide +kernel
theorem d34_61 : decode prog_14_method_9_code 61 = .ok (.getfield 13, 3) := by decide +kernel
theorem d34_64 : decode prog_14_method_9_code 64 = .ok (.iload 5, 2) := by decide +kernel
theorem d34_66 : decode prog_14_method_9_code 66 = .ok (.iaload, 1) := by decide +kernel
theorem d34_67 : decode prog_14_method_9_code 67 = .ok (.invokevirtual 91, 3) := by decide +kernel
theorem d34_70 : decode prog_14_method_9_code 70 = .ok (.ifCond .ge 6, 3) := by decide +kernel
theorem d34_73 : decode prog_14_method_9_code 73 = .ok (.iinc 5 1, 3) := by decide +kernel
theorem d34_76 : decode prog_14_method_9_code 76 = .ok (.aload_n 0, 1) := by decide +kernel
theorem d34_77 : decode prog_14_method_9_code 77 = .ok (.getfield 1, 3) := by decide +kernel
theorem d34_80 : decode prog_14_method_9_code 80 = .ok (.aload_n 0, 1) := by decide +kernel
theorem d34_81 : decode prog_14_method_9_code 81 = .ok (.getfield 13, 3) := by decide +kernel
theorem d34_84 : decode prog_14_method_9_code 84 = .ok (.iload 5, 2) := by decide +kernel
theorem d34_86 : decode prog_14_method_9_code 86 = .ok (.iaload, 1) := by decide +kernel
theorem d34_87 : decode prog_14_method_9_code 87 = .ok (.iload_n 3, 1) := by decide +kernel
theorem d34_88 : decode prog_14_method_9_code 88 = .ok (.invokevirtual 91, 3) := by decide +kernel
theorem d34_91 : decode prog_14_method_9_code 91 = .ok (.ifCond .ge 7, 3) := by decide +kernel
theorem d34_94 : decode prog_14_method_9_code 94 = .ok (.iconst 1, 1) := by decide +kernel
theorem d34_95 : decode prog_14_method_9_code 95 = .ok (.goto 4, 3) := by decide +kernel
theorem d34_98 : decode prog_14_method_9_code 98 = .ok (.iconst 0, 1) := by decide +kernel
theorem d34_99 : decode prog_14_method_9_code 99 = .ok (.istore 4, 2) := by decide +kernel
theorem d34_101 : decode prog_14_method_9_code 101 = .ok (.iload 4, 2) := by decide +kernel
theorem d34_103 : decode prog_14_method_9_code 103 = .ok (.ifCond .eq 18, 3) := by decide +kernel
theorem d34_106 : decode prog_14_method_9_code 106 = .ok (.aload_n 0, 1) := by decide +kernel
theorem d34_107 : decode prog_14_method_9_code 107 = .ok (.iload_n 2, 1) := by decide +kernel
theorem d34_108 : decode prog_14_method_9_code 108 = .ok (.aload_n 0, 1) := by decide +kernel
theorem d34_109 : decode prog_14_method_9_code 109 = .ok (.getfield 13, 3) := by decide +kernel
theorem d34_112 : decode prog_14_method_9_code 112 = .ok (.iload 5, 2) := by decide +kernel
theorem d34_114 : decode prog_14_method_9_code 114 = .ok (.iaload, 1) := by decide +kernel
theorem d34_115 : decode prog_14_method_9_code 115 = .ok (.invokevirtual 77, 3) := by decide +kernel
theorem d34_118 : decode prog_14_method_9_code 118 = .ok (.iload 5, 2) := by decide +kernel
theorem d34_120 : decode prog_14_method_9_code 120 = .ok (.istore_n 2, 1) := by decide +kernel
theorem d34_121 : decode prog_14_method_9_code 121 = .ok (.goto (-109), 3) := by decide +kernel
theorem d34_124 : decode prog_14_method_9_code 124 = .ok (.aload_n 0, 1) := by decide +kernel
theorem d34_125 : decode prog_14_method_9_code 125 = .ok (.iload_n 2, 1) := by decide +kernel
theorem d34_126 : decode prog_14_method_9_code 126 = .ok (.iload_n 3, 1) := by decide +kernel
theorem d34_127 : decode prog_14_method_9_code 127 = .ok (.invokevirtual 77, 3) := by decide +kernel
theorem d34_130 : decode prog_14_method_9_code 130 = .ok (.return_, 1) := by decide +kernel
set_option maxRecDepth 65536 in
set_option maxHeartbeats 40000000 in
theorem siftDownr (l : Launch) (Z : State) (n0 : Nat) (w0 : Array Value) (hw : ∀ d ∈ tables_1, d.before w0 Z = true) (p1 : Int32) (d r s aq ao aa av ai ah ab hr hs : Addr) (mx ct us fr sr ss : Int32) (qs : List Int32) (os : List Int64) (ats : List Int32) (vs ids : List Int64) (hp tb R S : List Int32) (X : Wld) (R' hp' : List Int32) (hF : dnF (cmpS qs os vs) sr R hp p1 = some (R', hp')) :
    Meets l Z n0 (⟨"com/example/pulld/pulld/broker/InFlightDeliveries$ByVisibleAt", "siftDown", "(I)V"⟩ : MethodName) prog_14_method_9_code 6 none ({ frames := 2, cells := 0, slots := 0, locals := 30 } : Room) [] #[(.ref r), (.int p1)] (DW d r s aq ao aa av ai ah ab hr hs mx ct us fr sr ss qs os ats vs ids hp tb R S ++ X) (fun v W' => v = none ∧ W' = (DW d r s aq ao aa av ai ah ab hr hs mx ct us fr sr ss qs os ats vs ids hp' tb R' S ++ X)) := by
  refine Meets.of_go (ls := #[.val (.ref r), .val (.int p1), .unset, .unset, .unset, .unset]) (plainFor_of_name (by first | (simp [plainName, overriddenIn]; done) | decide +kernel)) (fun m => by first | (simp [entryFrame, mkF, argsToLocals, Value.category, maxLocals]; done) | rfl) (fun D => ?_)
  dsimp only [dnF] at hF
  obtain ⟨x, hx, hF⟩ := own_bind hF
  have k12 : ∀ (f : Nat) (R hp : List Int32) (i sk : Int32) (s5 : Slot), (s5 = .unset ∨ ∃ z, s5 = .val (.int z)) → dnL (cmpS qs os vs) sr f R hp i x sk = some (R', hp') → Go l Z n0 ({ frames := 2, cells := 0, slots := 0, locals := 30 } : Room) prog_14_method_9_code 6 (⟨"com/example/pulld/pulld/broker/InFlightDeliveries$ByVisibleAt", "siftDown", "(I)V"⟩ : MethodName) none D (DW d r s aq ao aa av ai ah ab hr hs mx ct us fr sr ss qs os ats vs ids hp tb R S ++ X) 0 0 12 #[.val (.ref r), .val (.int p1), .val (.int i), .val (.int x), .val (.int sk), s5] [] (fun v W' => v = none ∧ W' = (DW d r s aq ao aa av ai ah ab hr hs mx ct us fr sr ss qs os ats vs ids hp' tb R' S ++ X)) := by
    intro f
    induction f with
    | zero => intro R hp i sk s5 hs h; exact absurd h (by simp [dnL])
    | succ f ih =>
      intro R hp i sk s5 hs h
      rw [dnL] at h
      rcases hs with rfl | ⟨z5, rfl⟩
      ·
        have k124 : plF R hp i x = some (R', hp') → Go l Z n0 ({ frames := 2, cells := 0, slots := 0, locals := 30 } : Room) prog_14_method_9_code 6 (⟨"com/example/pulld/pulld/broker/InFlightDeliveries$ByVisibleAt", "siftDown", "(I)V"⟩ : MethodName) none D (DW d r s aq ao aa av ai ah ab hr hs mx ct us fr sr ss qs os ats vs ids hp tb R S ++ X) 0 0 124 #[.val (.ref r), .val (.int p1), .val (.int i), .val (.int x), .val (.int sk), .unset] [] (fun v W' => v = none ∧ W' = (DW d r s aq ao aa av ai ah ab hr hs mx ct us fr sr ss qs os ats vs ids hp' tb R' S ++ X)) := by
          intro hpl
          refine Go.aloadN (pc' := 125) d34_124 rfl rfl rfl ?_
          refine Go.iloadN (pc' := 126) d34_125 rfl rfl ?_
          refine Go.iloadN (pc' := 127) d34_126 rfl rfl ?_
          refine Go.callP (pc' := 130) (W1 := 0) (cells' := 0) (slots' := 0) (argsL := [(.int i), (.int x)]) (rest := []) (y' := (⟨"com/example/pulld/pulld/broker/InFlightDeliveries$ByVisibleAt", "place", "(II)V"⟩ : MethodName)) (a := r) (i := 1) d34_127 (hw _ (List.mem_of_getElem? (i := 139) rfl)) (hw _ (List.mem_of_getElem? (i := 140) rfl)) (hw _ (List.mem_of_getElem? (i := 141) rfl)) (hw _ (List.mem_of_getElem? (i := 11) rfl)) (hw _ (List.mem_of_getElem? (i := 12) rfl)) (hw _ (List.mem_of_getElem? (i := 142) rfl)) (by decide) rfl (placer l Z n0 w0 hw i x d r s aq ao aa av ai ah ab hr hs mx ct us fr sr ss qs os ats vs ids hp tb R S X R' hp' hpl) (by decide) (by decide) rfl (lenOf pd__28II_29V rfl) rfl (Nat.le_of_eq rfl) (by decide) (by decide) rfl rfl rfl (fun v W' hF => ?_)
          obtain ⟨rfl, rfl⟩ := hF
          refine Go.nov ?_
          exact Go.retV d34_130 rfl (by decide) (by decide) ⟨rfl, rfl⟩
        refine Go.iload (pc' := 14) d34_12 rfl rfl ?_
        refine Go.if_eq (pcY := 124) (pcN := 17) d34_14 (by decide) (by decide) rfl (fun hc14 => ?_) (fun hc14 => ?_)
        ·
          rw [if_pos hc14] at h
          exact k124 h
        ·
          rw [if_neg hc14] at h
          refine Go.iconst (pc' := 18) (v := (2 : Int32)) d34_17 rfl rfl ?_
          refine Go.iloadN (pc' := 19) d34_18 rfl rfl ?_
          refine Go.imul (pc' := 20) d34_19 rfl ?_
          refine Go.iconst (pc' := 21) (v := (1 : Int32)) d34_20 rfl rfl ?_
          refine Go.iadd (pc' := 22) d34_21 rfl ?_
          refine Go.aloadN (pc' := 23) d34_22 rfl rfl rfl ?_
          refine Go.getF (pc' := 26) (i := 1) (j := 2) (v := (.int sr)) (host := "") d34_23 (Or.inl (hw _ (List.mem_of_getElem? (i := 102) rfl))) rfl rfl rfl ?_
          refine Go.icmp_ge (pcY := 124) (pcN := 29) d34_26 (by decide) (by decide) rfl (fun hc26 => ?_) (fun hc26 => ?_)
          ·
            rw [if_neg hc26] at h
            exact k124 h
          ·
            rw [if_pos hc26] at h
            obtain ⟨ch, hch, h⟩ := own_bind h
            obtain ⟨u, hu, h⟩ := own_bind h
            obtain ⟨c, hc, h⟩ := own_bind h
            refine Go.iconst (pc' := 30) (v := (2 : Int32)) d34_29 rfl rfl ?_
            refine Go.iloadN (pc' := 31) d34_30 rfl rfl ?_
            refine Go.imul (pc' := 32) d34_31 rfl ?_
            refine Go.iconst (pc' := 33) (v := (1 : Int32)) d34_32 rfl rfl ?_
            refine Go.iadd (pc' := 34) d34_33 rfl ?_
            refine Go.istore (pc' := 36) (ls' := #[.val (.ref r), .val (.int p1), .val (.int i), .val (.int x), .val (.int sk), .val (.int (((2 : Int32) * i) + (1 : Int32)))]) d34_34 rfl rfl ?_
            have k76 : ∀ (x5 : Int32), x5 = ch → Go l Z n0 ({ frames := 2, cells := 0, slots := 0, locals := 30 } : Room) prog_14_method_9_code 6 (⟨"com/example/pulld/pulld/broker/InFlightDeliveries$ByVisibleAt", "siftDown", "(I)V"⟩ : MethodName) none D (DW d r s aq ao aa av ai ah ab hr hs mx ct us fr sr ss qs os ats vs ids hp tb R S ++ X) 0 0 76 #[.val (.ref r), .val (.int p1), .val (.int i), .val (.int x), .val (.int sk), .val (.int x5)] [] (fun v W' => v = none ∧ W' = (DW d r s aq ao aa av ai ah ab hr hs mx ct us fr sr ss qs os ats vs ids hp' tb R' S ++ X)) := by
              intro x5 hx5
              subst hx5
              refine Go.aloadN (pc' := 77) d34_76 rfl rfl rfl ?_
              refine Go.getF (pc' := 80) (i := 1) (j := 0) (v := (.ref d)) (host := "") d34_77 (Or.inl (hw _ (List.mem_of_getElem? (i := 16) rfl))) rfl rfl rfl ?_
              refine Go.aloadN (pc' := 81) d34_80 rfl rfl rfl ?_
              refine Go.getF (pc' := 84) (i := 1) (j := 1) (v := (.ref hr)) (host := "") d34_81 (Or.inl (hw _ (List.mem_of_getElem? (i := 20) rfl))) rfl rfl rfl ?_
              refine Go.iload (pc' := 86) d34_84 rfl rfl ?_
              refine Go.ialoadG (pc' := 87) (i := 10) d34_86 rfl hu rfl ?_
              refine Go.iloadN (pc' := 88) d34_87 rfl rfl ?_
              refine Go.callPN (pc' := 91) (W1 := 0) (cells' := 0) (slots' := 0) (argsL := [(.int u), (.int x)]) (rest := []) (y' := (⟨"com/example/pulld/pulld/broker/InFlightDeliveries", "compare", "(II)I"⟩ : MethodName)) (a := d) (i := 0) d34_88 (hw _ (List.mem_of_getElem? (i := 148) rfl)) (hw _ (List.mem_of_getElem? (i := 149) rfl)) (hw _ (List.mem_of_getElem? (i := 150) rfl)) (hw _ (List.mem_of_getElem? (i := 2) rfl)) (hw _ (List.mem_of_getElem? (i := 3) rfl)) (hw _ (List.mem_of_getElem? (i := 151) rfl)) (by decide) rfl (rm22 l Z n0 w0 hw u x d r s aq ao aa av ai ah ab hr hs mx ct us fr sr ss qs os ats vs ids hp tb R S X c hc) (by decide) (by decide) rfl (lenOf pd__28II_29I rfl) rfl (Nat.le_of_eq rfl) (by decide) (by decide) rfl rfl rfl (fun v W' hF => ?_)
              obtain ⟨rfl, rfl⟩ := hF
              refine Go.val ?_
              refine Go.if_ge (pcY := 98) (pcN := 94) d34_91 (by decide) (by decide) rfl (fun hc91 => ?_) (fun hc91 => ?_)
              ·
                rw [if_neg hc91] at h
                refine Go.iconst (pc' := 99) (v := (0 : Int32)) d34_98 rfl rfl ?_
                refine Go.istore (pc' := 101) (ls' := #[.val (.ref r), .val (.int p1), .val (.int i), .val (.int x), .val (.int (0 : Int32)), .val (.int x5)]) d34_99 rfl rfl ?_
                refine Go.iload (pc' := 103) d34_101 rfl rfl ?_
                refine Go.if_eq (pcY := 121) (pcN := 106) d34_103 (by decide) (by decide) rfl (fun hc103 => ?_) (fun hc103 => absurd hc103 (Classical.not_not.mpr rfl))
                refine Go.goto (pc' := 12) d34_121 (by decide) (by decide) ?_
                exact ih _ _ _ _ _ (Or.inr ⟨_, rfl⟩) h
              ·
                rw [if_pos hc91] at h
                obtain ⟨⟨A1, A2⟩, hz, h⟩ := own_bind h
                refine Go.iconst (pc' := 95) (v := (1 : Int32)) d34_94 rfl rfl ?_
                refine Go.goto (pc' := 99) d34_95 (by decide) (by decide) ?_
                refine Go.istore (pc' := 101) (ls' := #[.val (.ref r), .val (.int p1), .val (.int i), .val (.int x), .val (.int (1 : Int32)), .val (.int x5)]) d34_99 rfl rfl ?_
                refine Go.iload (pc' := 103) d34_101 rfl rfl ?_
                refine Go.if_eq (pcY := 121) (pcN := 106) d34_103 (by decide) (by decide) rfl (fun hc103 => absurd hc103 (by decide)) (fun hc103 => ?_)
                refine Go.aloadN (pc' := 107) d34_106 rfl rfl rfl ?_
                refine Go.iloadN (pc' := 108) d34_107 rfl rfl ?_
                refine Go.aloadN (pc' := 109) d34_108 rfl rfl rfl ?_
                refine Go.getF (pc' := 112) (i := 1) (j := 1) (v := (.ref hr)) (host := "") d34_109 (Or.inl (hw _ (List.mem_of_getElem? (i := 20) rfl))) rfl rfl rfl ?_
                refine Go.iload (pc' := 114) d34_112 rfl rfl ?_
                refine Go.ialoadG (pc' := 115) (i := 10) d34_114 rfl hu rfl ?_
                refine Go.callP (pc' := 118) (W1 := 0) (cells' := 0) (slots' := 0) (argsL := [(.int i), (.int u)]) (rest := []) (y' := (⟨"com/example/pulld/pulld/broker/InFlightDeliveries$ByVisibleAt", "place", "(II)V"⟩ : MethodName)) (a := r) (i := 1) d34_115 (hw _ (List.mem_of_getElem? (i := 139) rfl)) (hw _ (List.mem_of_getElem? (i := 140) rfl)) (hw _ (List.mem_of_getElem? (i := 141) rfl)) (hw _ (List.mem_of_getElem? (i := 11) rfl)) (hw _ (List.mem_of_getElem? (i := 12) rfl)) (hw _ (List.mem_of_getElem? (i := 142) rfl)) (by decide) rfl (placer l Z n0 w0 hw i u d r s aq ao aa av ai ah ab hr hs mx ct us fr sr ss qs os ats vs ids hp tb R S X A1 A2 hz) (by decide) (by decide) rfl (lenOf pd__28II_29V rfl) rfl (Nat.le_of_eq rfl) (by decide) (by decide) rfl rfl rfl (fun v W' hF => ?_)
                obtain ⟨rfl, rfl⟩ := hF
                refine Go.nov ?_
                refine Go.iload (pc' := 120) d34_118 rfl rfl ?_
                refine Go.istoreN (pc' := 121) (ls' := #[.val (.ref r), .val (.int p1), .val (.int x5), .val (.int x), .val (.int (1 : Int32)), .val (.int x5)]) d34_120 rfl rfl ?_
                refine Go.goto (pc' := 12) d34_121 (by decide) (by decide) ?_
                exact ih _ _ _ _ _ (Or.inr ⟨_, rfl⟩) h
            dsimp only [chF] at hch
            refine Go.iload (pc' := 38) d34_36 rfl rfl ?_
            refine Go.iconst (pc' := 39) (v := (1 : Int32)) d34_38 rfl rfl ?_
            refine Go.iadd (pc' := 40) d34_39 rfl ?_
            refine Go.aloadN (pc' := 41) d34_40 rfl rfl rfl ?_
            refine Go.getF (pc' := 44) (i := 1) (j := 2) (v := (.int sr)) (host := "") d34_41 (Or.inl (hw _ (List.mem_of_getElem? (i := 102) rfl))) rfl rfl rfl ?_
            refine Go.icmp_ge (pcY := 76) (pcN := 47) d34_44 (by decide) (by decide) rfl (fun hc44 => ?_) (fun hc44 => ?_)
            ·
              rw [if_neg hc44] at hch
              exact k76 _ (Option.some.inj hch)
            ·
              rw [if_pos hc44] at hch
              obtain ⟨u1, hu1, hch⟩ := own_bind hch
              obtain ⟨u2, hu2, hch⟩ := own_bind hch
              obtain ⟨k1, hk1, hch⟩ := own_bind hch
              refine Go.aloadN (pc' := 48) d34_47 rfl rfl rfl ?_
              refine Go.getF (pc' := 51) (i := 1) (j := 0) (v := (.ref d)) (host := "") d34_48 (Or.inl (hw _ (List.mem_of_getElem? (i := 16) rfl))) rfl rfl rfl ?_
              refine Go.aloadN (pc' := 52) d34_51 rfl rfl rfl ?_
              refine Go.getF (pc' := 55) (i := 1) (j := 1) (v := (.ref hr)) (host := "") d34_52 (Or.inl (hw _ (List.mem_of_getElem? (i := 20) rfl))) rfl rfl rfl ?_
              refine Go.iload (pc' := 57) d34_55 rfl rfl ?_
              refine Go.iconst (pc' := 58) (v := (1 : Int32)) d34_57 rfl rfl ?_
              refine Go.iadd (pc' := 59) d34_58 rfl ?_
              refine Go.ialoadG (pc' := 60) (i := 10) d34_59 rfl hu1 rfl ?_
              refine Go.aloadN (pc' := 61) d34_60 rfl rfl rfl ?_
              refine Go.getF (pc' := 64) (i := 1) (j := 1) (v := (.ref hr)) (host := "") d34_61 (Or.inl (hw _ (List.mem_of_getElem? (i := 20) rfl))) rfl rfl rfl ?_
              refine Go.iload (pc' := 66) d34_64 rfl rfl ?_
              refine Go.ialoadG (pc' := 67) (i := 10) d34_66 rfl hu2 rfl ?_
              refine Go.callPN (pc' := 70) (W1 := 0) (cells' := 0) (slots' := 0) (argsL := [(.int u1), (.int u2)]) (rest := []) (y' := (⟨"com/example/pulld/pulld/broker/InFlightDeliveries", "compare", "(II)I"⟩ : MethodName)) (a := d) (i := 0) d34_67 (hw _ (List.mem_of_getElem? (i := 148) rfl)) (hw _ (List.mem_of_getElem? (i := 149) rfl)) (hw _ (List.mem_of_getElem? (i := 150) rfl)) (hw _ (List.mem_of_getElem? (i := 2) rfl)) (hw _ (List.mem_of_getElem? (i := 3) rfl)) (hw _ (List.mem_of_getElem? (i := 151) rfl)) (by decide) rfl (rm22 l Z n0 w0 hw u1 u2 d r s aq ao aa av ai ah ab hr hs mx ct us fr sr ss qs os ats vs ids hp tb R S X k1 hk1) (by decide) (by decide) rfl (lenOf pd__28II_29I rfl) rfl (Nat.le_of_eq rfl) (by decide) (by decide) rfl rfl rfl (fun v W' hF => ?_)
              obtain ⟨rfl, rfl⟩ := hF
              refine Go.val ?_
              refine Go.if_ge (pcY := 76) (pcN := 73) d34_70 (by decide) (by decide) rfl (fun hc70 => ?_) (fun hc70 => ?_)
              ·
                rw [if_neg hc70] at hch
                exact k76 _ (Option.some.inj hch)
              ·
                rw [if_pos hc70] at hch
                refine Go.iinc (pc' := 76) (ls' := #[.val (.ref r), .val (.int p1), .val (.int i), .val (.int x), .val (.int sk), .val (.int ((((2 : Int32) * i) + (1 : Int32)) + (1 : Int32)))]) (z := (1 : Int32)) d34_73 rfl rfl rfl rfl ?_
                exact k76 _ (Option.some.inj hch)
      ·
        have k124 : plF R hp i x = some (R', hp') → Go l Z n0 ({ frames := 2, cells := 0, slots := 0, locals := 30 } : Room) prog_14_method_9_code 6 (⟨"com/example/pulld/pulld/broker/InFlightDeliveries$ByVisibleAt", "siftDown", "(I)V"⟩ : MethodName) none D (DW d r s aq ao aa av ai ah ab hr hs mx ct us fr sr ss qs os ats vs ids hp tb R S ++ X) 0 0 124 #[.val (.ref r), .val (.int p1), .val (.int i), .val (.int x), .val (.int sk), .val (.int z5)] [] (fun v W' => v = none ∧ W' = (DW d r s aq ao aa av ai ah ab hr hs mx ct us fr sr ss qs os ats vs ids hp' tb R' S ++ X)) := by
          intro hpl
          refine Go.aloadN (pc' := 125) d34_124 rfl rfl rfl ?_
          refine Go.iloadN (pc' := 126) d34_125 rfl rfl ?_
          refine Go.iloadN (pc' := 127) d34_126 rfl rfl ?_
          refine Go.callP (pc' := 130) (W1 := 0) (cells' := 0) (slots' := 0) (argsL := [(.int i), (.int x)]) (rest := []) (y' := (⟨"com/example/pulld/pulld/broker/InFlightDeliveries$ByVisibleAt", "place", "(II)V"⟩ : MethodName)) (a := r) (i := 1) d34_127 (hw _ (List.mem_of_getElem? (i := 139) rfl)) (hw _ (List.mem_of_getElem? (i := 140) rfl)) (hw _ (List.mem_of_getElem? (i := 141) rfl)) (hw _ (List.mem_of_getElem? (i := 11) rfl)) (hw _ (List.mem_of_getElem? (i := 12) rfl)) (hw _ (List.mem_of_getElem? (i := 142) rfl)) (by decide) rfl (placer l Z n0 w0 hw i x d r s aq ao aa av ai ah ab hr hs mx ct us fr sr ss qs os ats vs ids hp tb R S X R' hp' hpl) (by decide) (by decide) rfl (lenOf pd__28II_29V rfl) rfl (Nat.le_of_eq rfl) (by decide) (by decide) rfl rfl rfl (fun v W' hF => ?_)
          obtain ⟨rfl, rfl⟩ := hF
          refine Go.nov ?_
          exact Go.retV d34_130 rfl (by decide) (by decide) ⟨rfl, rfl⟩
        refine Go.iload (pc' := 14) d34_12 rfl rfl ?_
        refine Go.if_eq (pcY := 124) (pcN := 17) d34_14 (by decide) (by decide) rfl (fun hc14 => ?_) (fun hc14 => ?_)
        ·
          rw [if_pos hc14] at h
          exact k124 h
        ·
          rw [if_neg hc14] at h
          refine Go.iconst (pc' := 18) (v := (2 : Int32)) d34_17 rfl rfl ?_
          refine Go.iloadN (pc' := 19) d34_18 rfl rfl ?_
          refine Go.imul (pc' := 20) d34_19 rfl ?_
          refine Go.iconst (pc' := 21) (v := (1 : Int32)) d34_20 rfl rfl ?_
          refine Go.iadd (pc' := 22) d34_21 rfl ?_
          refine Go.aloadN (pc' := 23) d34_22 rfl rfl rfl ?_
          refine Go.getF (pc' := 26) (i := 1) (j := 2) (v := (.int sr)) (host := "") d34_23 (Or.inl (hw _ (List.mem_of_getElem? (i := 102) rfl))) rfl rfl rfl ?_
          refine Go.icmp_ge (pcY := 124) (pcN := 29) d34_26 (by decide) (by decide) rfl (fun hc26 => ?_) (fun hc26 => ?_)
          ·
            rw [if_neg hc26] at h
            exact k124 h
          ·
            rw [if_pos hc26] at h
            obtain ⟨ch, hch, h⟩ := own_bind h
            obtain ⟨u, hu, h⟩ := own_bind h
            obtain ⟨c, hc, h⟩ := own_bind h
            refine Go.iconst (pc' := 30) (v := (2 : Int32)) d34_29 rfl rfl ?_
            refine Go.iloadN (pc' := 31) d34_30 rfl rfl ?_
            refine Go.imul (pc' := 32) d34_31 rfl ?_
            refine Go.iconst (pc' := 33) (v := (1 : Int32)) d34_32 rfl rfl ?_
            refine Go.iadd (pc' := 34) d34_33 rfl ?_
            refine Go.istore (pc' := 36) (ls' := #[.val (.ref r), .val (.int p1), .val (.int i), .val (.int x), .val (.int sk), .val (.int (((2 : Int32) * i) + (1 : Int32)))]) d34_34 rfl rfl ?_
            have k76 : ∀ (x5 : Int32), x5 = ch → Go l Z n0 ({ frames := 2, cells := 0, slots := 0, locals := 30 } : Room) prog_14_method_9_code 6 (⟨"com/example/pulld/pulld/broker/InFlightDeliveries$ByVisibleAt", "siftDown", "(I)V"⟩ : MethodName) none D (DW d r s aq ao aa av ai ah ab hr hs mx ct us fr sr ss qs os ats vs ids hp tb R S ++ X) 0 0 76 #[.val (.ref r), .val (.int p1), .val (.int i), .val (.int x), .val (.int sk), .val (.int x5)] [] (fun v W' => v = none ∧ W' = (DW d r s aq ao aa av ai ah ab hr hs mx ct us fr sr ss qs os ats vs ids hp' tb R' S ++ X)) := by
              intro x5 hx5
              subst hx5
              refine Go.aloadN (pc' := 77) d34_76 rfl rfl rfl ?_
              refine Go.getF (pc' := 80) (i := 1) (j := 0) (v := (.ref d)) (host := "") d34_77 (Or.inl (hw _ (List.mem_of_getElem? (i := 16) rfl))) rfl rfl rfl ?_
              refine Go.aloadN (pc' := 81) d34_80 rfl rfl rfl ?_
              refine Go.getF (pc' := 84) (i := 1) (j := 1) (v := (.ref hr)) (host := "") d34_81 (Or.inl (hw _ (List.mem_of_getElem? (i := 20) rfl))) rfl rfl rfl ?_
              refine Go.iload (pc' := 86) d34_84 rfl rfl ?_
              refine Go.ialoadG (pc' := 87) (i := 10) d34_86 rfl hu rfl ?_
              refine Go.iloadN (pc' := 88) d34_87 rfl rfl ?_
              refine Go.callPN (pc' := 91) (W1 := 0) (cells' := 0) (slots' := 0) (argsL := [(.int u), (.int x)]) (rest := []) (y' := (⟨"com/example/pulld/pulld/broker/InFlightDeliveries", "compare", "(II)I"⟩ : MethodName)) (a := d) (i := 0) d34_88 (hw _ (List.mem_of_getElem? (i := 148) rfl)) (hw _ (List.mem_of_getElem? (i := 149) rfl)) (hw _ (List.mem_of_getElem? (i := 150) rfl)) (hw _ (List.mem_of_getElem? (i := 2) rfl)) (hw _ (List.mem_of_getElem? (i := 3) rfl)) (hw _ (List.mem_of_getElem? (i := 151) rfl)) (by decide) rfl (rm22 l Z n0 w0 hw u x d r s aq ao aa av ai ah ab hr hs mx ct us fr sr ss qs os ats vs ids hp tb R S X c hc) (by decide) (by decide) rfl (lenOf pd__28II_29I rfl) rfl (Nat.le_of_eq rfl) (by decide) (by decide) rfl rfl rfl (fun v W' hF => ?_)
              obtain ⟨rfl, rfl⟩ := hF
              refine Go.val ?_
              refine Go.if_ge (pcY := 98) (pcN := 94) d34_91 (by decide) (by decide) rfl (fun hc91 => ?_) (fun hc91 => ?_)
              ·
                rw [if_neg hc91] at h
                refine Go.iconst (pc' := 99) (v := (0 : Int32)) d34_98 rfl rfl ?_
                refine Go.istore (pc' := 101) (ls' := #[.val (.ref r), .val (.int p1), .val (.int i), .val (.int x), .val (.int (0 : Int32)), .val (.int x5)]) d34_99 rfl rfl ?_
                refine Go.iload (pc' := 103) d34_101 rfl rfl ?_
                refine Go.if_eq (pcY := 121) (pcN := 106) d34_103 (by decide) (by decide) rfl (fun hc103 => ?_) (fun hc103 => absurd hc103 (Classical.not_not.mpr rfl))
                refine Go.goto (pc' := 12) d34_121 (by decide) (by decide) ?_
                exact ih _ _ _ _ _ (Or.inr ⟨_, rfl⟩) h
              ·
                rw [if_pos hc91] at h
                obtain ⟨⟨A1, A2⟩, hz, h⟩ := own_bind h
                refine Go.iconst (pc' := 95) (v := (1 : Int32)) d34_94 rfl rfl ?_
                refine Go.goto (pc' := 99) d34_95 (by decide) (by decide) ?_
                refine Go.istore (pc' := 101) (ls' := #[.val (.ref r), .val (.int p1), .val (.int i), .val (.int x), .val (.int (1 : Int32)), .val (.int x5)]) d34_99 rfl rfl ?_
                refine Go.iload (pc' := 103) d34_101 rfl rfl ?_
                refine Go.if_eq (pcY := 121) (pcN := 106) d34_103 (by decide) (by decide) rfl (fun hc103 => absurd hc103 (by decide)) (fun hc103 => ?_)
                refine Go.aloadN (pc' := 107) d34_106 rfl rfl rfl ?_
                refine Go.iloadN (pc' := 108) d34_107 rfl rfl ?_
                refine Go.aloadN (pc' := 109) d34_108 rfl rfl rfl ?_
                refine Go.getF (pc' := 112) (i := 1) (j := 1) (v := (.ref hr)) (host := "") d34_109 (Or.inl (hw _ (List.mem_of_getElem? (i := 20) rfl))) rfl rfl rfl ?_
                refine Go.iload (pc' := 114) d34_112 rfl rfl ?_
                refine Go.ialoadG (pc' := 115) (i := 10) d34_114 rfl hu rfl ?_
                refine Go.callP (pc' := 118) (W1 := 0) (cells' := 0) (slots' := 0) (argsL := [(.int i), (.int u)]) (rest := []) (y' := (⟨"com/example/pulld/pulld/broker/InFlightDeliveries$ByVisibleAt", "place", "(II)V"⟩ : MethodName)) (a := r) (i := 1) d34_115 (hw _ (List.mem_of_getElem? (i := 139) rfl)) (hw _ (List.mem_of_getElem? (i := 140) rfl)) (hw _ (List.mem_of_getElem? (i := 141) rfl)) (hw _ (List.mem_of_getElem? (i := 11) rfl)) (hw _ (List.mem_of_getElem? (i := 12) rfl)) (hw _ (List.mem_of_getElem? (i := 142) rfl)) (by decide) rfl (placer l Z n0 w0 hw i u d r s aq ao aa av ai ah ab hr hs mx ct us fr sr ss qs os ats vs ids hp tb R S X A1 A2 hz) (by decide) (by decide) rfl (lenOf pd__28II_29V rfl) rfl (Nat.le_of_eq rfl) (by decide) (by decide) rfl rfl rfl (fun v W' hF => ?_)
                obtain ⟨rfl, rfl⟩ := hF
                refine Go.nov ?_
                refine Go.iload (pc' := 120) d34_118 rfl rfl ?_
                refine Go.istoreN (pc' := 121) (ls' := #[.val (.ref r), .val (.int p1), .val (.int x5), .val (.int x), .val (.int (1 : Int32)), .val (.int x5)]) d34_120 rfl rfl ?_
                refine Go.goto (pc' := 12) d34_121 (by decide) (by decide) ?_
                exact ih _ _ _ _ _ (Or.inr ⟨_, rfl⟩) h
            dsimp only [chF] at hch
            refine Go.iload (pc' := 38) d34_36 rfl rfl ?_
            refine Go.iconst (pc' := 39) (v := (1 : Int32)) d34_38 rfl rfl ?_
            refine Go.iadd (pc' := 40) d34_39 rfl ?_
            refine Go.aloadN (pc' := 41) d34_40 rfl rfl rfl ?_
            refine Go.getF (pc' := 44) (i := 1) (j := 2) (v := (.int sr)) (host := "") d34_41 (Or.inl (hw _ (List.mem_of_getElem? (i := 102) rfl))) rfl rfl rfl ?_
            refine Go.icmp_ge (pcY := 76) (pcN := 47) d34_44 (by decide) (by decide) rfl (fun hc44 => ?_) (fun hc44 => ?_)
            ·
              rw [if_neg hc44] at hch
              exact k76 _ (Option.some.inj hch)
            ·
              rw [if_pos hc44] at hch
              obtain ⟨u1, hu1, hch⟩ := own_bind hch
              obtain ⟨u2, hu2, hch⟩ := own_bind hch
              obtain ⟨k1, hk1, hch⟩ := own_bind hch
              refine Go.aloadN (pc' := 48) d34_47 rfl rfl rfl ?_
              refine Go.getF (pc' := 51) (i := 1) (j := 0) (v := (.ref d)) (host := "") d34_48 (Or.inl (hw _ (List.mem_of_getElem? (i := 16) rfl))) rfl rfl rfl ?_
              refine Go.aloadN (pc' := 52) d34_51 rfl rfl rfl ?_
              refine Go.getF (pc' := 55) (i := 1) (j := 1) (v := (.ref hr)) (host := "") d34_52 (Or.inl (hw _ (List.mem_of_getElem? (i := 20) rfl))) rfl rfl rfl ?_
              refine Go.iload (pc' := 57) d34_55 rfl rfl ?_
              refine Go.iconst (pc' := 58) (v := (1 : Int32)) d34_57 rfl rfl ?_
              refine Go.iadd (pc' := 59) d34_58 rfl ?_
              refine Go.ialoadG (pc' := 60) (i := 10) d34_59 rfl hu1 rfl ?_
              refine Go.aloadN (pc' := 61) d34_60 rfl rfl rfl ?_
              refine Go.getF (pc' := 64) (i := 1) (j := 1) (v := (.ref hr)) (host := "") d34_61 (Or.inl (hw _ (List.mem_of_getElem? (i := 20) rfl))) rfl rfl rfl ?_
              refine Go.iload (pc' := 66) d34_64 rfl rfl ?_
              refine Go.ialoadG (pc' := 67) (i := 10) d34_66 rfl hu2 rfl ?_
              refine Go.callPN (pc' := 70) (W1 := 0) (cells' := 0) (slots' := 0) (argsL := [(.int u1), (.int u2)]) (rest := []) (y' := (⟨"com/example/pulld/pulld/broker/InFlightDeliveries", "compare", "(II)I"⟩ : MethodName)) (a := d) (i := 0) d34_67 (hw _ (List.mem_of_getElem? (i := 148) rfl)) (hw _ (List.mem_of_getElem? (i := 149) rfl)) (hw _ (List.mem_of_getElem? (i := 150) rfl)) (hw _ (List.mem_of_getElem? (i := 2) rfl)) (hw _ (List.mem_of_getElem? (i := 3) rfl)) (hw _ (List.mem_of_getElem? (i := 151) rfl)) (by decide) rfl (rm22 l Z n0 w0 hw u1 u2 d r s aq ao aa av ai ah ab hr hs mx ct us fr sr ss qs os ats vs ids hp tb R S X k1 hk1) (by decide) (by decide) rfl (lenOf pd__28II_29I rfl) rfl (Nat.le_of_eq rfl) (by decide) (by decide) rfl rfl rfl (fun v W' hF => ?_)
              obtain ⟨rfl, rfl⟩ := hF
              refine Go.val ?_
              refine Go.if_ge (pcY := 76) (pcN := 73) d34_70 (by decide) (by decide) rfl (fun hc70 => ?_) (fun hc70 => ?_)
              ·
                rw [if_neg hc70] at hch
                exact k76 _ (Option.some.inj hch)
              ·
                rw [if_pos hc70] at hch
                refine Go.iinc (pc' := 76) (ls' := #[.val (.ref r), .val (.int p1), .val (.int i), .val (.int x), .val (.int sk), .val (.int ((((2 : Int32) * i) + (1 : Int32)) + (1 : Int32)))]) (z := (1 : Int32)) d34_73 rfl rfl rfl rfl ?_
                exact k76 _ (Option.some.inj hch)
  refine Go.iloadN (pc' := 1) d34_0 rfl rfl ?_
  refine Go.istoreN (pc' := 2) (ls' := #[.val (.ref r), .val (.int p1), .val (.int p1), .unset, .unset, .unset]) d34_1 rfl rfl ?_
  refine Go.aloadN (pc' := 3) d34_2 rfl rfl rfl ?_
  refine Go.getF (pc' := 6) (i := 1) (j := 1) (v := (.ref hr)) (host := "") d34_3 (Or.inl (hw _ (List.mem_of_getElem? (i := 20) rfl))) rfl rfl rfl ?_
  refine Go.iloadN (pc' := 7) d34_6 rfl rfl ?_
  refine Go.ialoadG (pc' := 8) (i := 10) d34_7 rfl hx rfl ?_
  refine Go.istoreN (pc' := 9) (ls' := #[.val (.ref r), .val (.int p1), .val (.int p1), .val (.int x), .unset, .unset]) d34_8 rfl rfl ?_
  refine Go.iconst (pc' := 10) (v := (1 : Int32)) d34_9 rfl rfl ?_
  refine Go.istore (pc' := 12) (ls' := #[.val (.ref r), .val (.int p1), .val (.int p1), .val (.int x), .val (.int (1 : Int32)), .unset]) d34_10 rfl rfl ?_
  exact k12 4 _ _ _ _ _ (Or.inl rfl) hF
theorem d19_0 : decode prog_14_method_4_code 0 = .ok (.aload_n 0, 1) := by decide +kernel
theorem d19_1 : decode prog_14_method_4_code 1 = .ok (.aload_n 0, 1) := by decide +kernel
theorem d19_2 : decode prog_14_method_4_code 2 = .ok (.dup, 1) := by decide +kernel
theorem d19_3 : decode prog_14_method_4_code 3 = .ok (.getfield 17, 3) := by decide +kernel
theorem d19_6 : decode prog_14_method_4_code 6 = .ok (.dup_x1, 1) := by decide +kernel
theorem d19_7 : decode prog_14_method_4_code 7 = .ok (.iconst 1, 1) := by decide +kernel
theorem d19_8 : decode prog_14_method_4_code 8 = .ok (.iadd, 1) := by decide +kernel
theorem d19_9 : decode prog_14_method_4_code 9 = .ok (.putfield 17, 3) := by decide +kernel
theorem d19_12 : decode prog_14_method_4_code 12 = .ok (.iload_n 1, 1) := by decide +kernel
theorem d19_13 : decode prog_14_method_4_code 13 = .ok (.invokevirtual 77, 3) := by decide +kernel
theorem d19_16 : decode prog_14_method_4_code 16 = .ok (.aload_n 0, 1) := by decide +kernel
theorem d19_17 : decode prog_14_method_4_code 17 = .ok (.aload_n 0, 1) := by decide +kernel
theorem d19_18 : decode prog_14_method_4_code 18 = .ok (.getfield 17, 3) := by decide +kernel
theorem d19_21 : decode prog_14_method_4_code 21 = .ok (.iconst 1, 1) := by decide +kernel
theorem d19_22 : decode prog_14_method_4_code 22 = .ok (.isub, 1) := by decide +kernel
theorem d19_23 : decode prog_14_method_4_code 23 = .ok (.invokevirtual 81, 3) := by decide +kernel
theorem d19_26 : decode prog_14_method_4_code 26 = .ok (.return_, 1) := by decide +kernel
theorem pd__28I_29V : parseMethodDescriptor "(I)V" = some ⟨[.int], none⟩ := by decide +kernel
set_option maxRecDepth 65536 in
set_option maxHeartbeats 40000000 in
theorem addr (l : Launch) (Z : State) (n0 : Nat) (w0 : Array Value) (hw : ∀ d ∈ tables_1, d.before w0 Z = true) (p1 : Int32) (d r s aq ao aa av ai ah ab hr hs : Addr) (mx ct us fr sr ss : Int32) (qs : List Int32) (os : List Int64) (ats : List Int32) (vs ids : List Int64) (hp tb R S : List Int32) (X : Wld) (R' hp' : List Int32) (hF : addH (cmpS qs os vs) R hp sr p1 = some (R', hp')) :
    Meets l Z n0 (⟨"com/example/pulld/pulld/broker/InFlightDeliveries$ByVisibleAt", "add", "(I)V"⟩ : MethodName) prog_14_method_4_code 2 none ({ frames := 3, cells := 0, slots := 0, locals := 45 } : Room) [] #[(.ref r), (.int p1)] (DW d r s aq ao aa av ai ah ab hr hs mx ct us fr sr ss qs os ats vs ids hp tb R S ++ X) (fun v W' => v = none ∧ W' = (DW d r s aq ao aa av ai ah ab hr hs mx ct us fr (sr + (1 : Int32)) ss qs os ats vs ids hp' tb R' S ++ X)) := by
  refine Meets.of_go (ls := #[.val (.ref r), .val (.int p1)]) (plainFor_of_name (by first | (simp [plainName, overriddenIn]; done) | decide +kernel)) (fun m => by first | (simp [entryFrame, mkF, argsToLocals, Value.category, maxLocals]; done) | rfl) (fun D => ?_)
  dsimp only [addH] at hF
  obtain ⟨⟨A1, A2⟩, hz, hF⟩ := own_bind hF
  refine Go.aloadN (pc' := 1) d19_0 rfl rfl rfl ?_
  refine Go.aloadN (pc' := 2) d19_1 rfl rfl rfl ?_
  refine Go.dup (pc' := 3) d19_2 rfl rfl ?_
  refine Go.getF (pc' := 6) (i := 1) (j := 2) (v := (.int sr)) (host := "") d19_3 (Or.inl (hw _ (List.mem_of_getElem? (i := 102) rfl))) rfl rfl rfl ?_
  refine Go.dupX1 (pc' := 7) d19_6 rfl rfl rfl ?_
  refine Go.iconst (pc' := 8) (v := (1 : Int32)) d19_7 rfl rfl ?_
  refine Go.iadd (pc' := 9) d19_8 rfl ?_
  refine Go.putF (pc' := 12) (i := 1) (j := 2) (ty := .int) (W' := (DW d r s aq ao aa av ai ah ab hr hs mx ct us fr (sr + (1 : Int32)) ss qs os ats vs ids hp tb R S ++ X)) (host := "") d19_9 (Or.inl (hw _ (List.mem_of_getElem? (i := 102) rfl))) (Or.inl (hw _ (List.mem_of_getElem? (i := 103) rfl))) (hw _ (List.mem_of_getElem? (i := 11) rfl)) rfl rfl (by decide) rfl rfl rfl rfl ?_
  refine Go.iloadN (pc' := 13) d19_12 rfl rfl ?_
  refine Go.callP (pc' := 16) (W1 := 0) (cells' := 0) (slots' := 0) (argsL := [(.int sr), (.int p1)]) (rest := []) (y' := (⟨"com/example/pulld/pulld/broker/InFlightDeliveries$ByVisibleAt", "place", "(II)V"⟩ : MethodName)) (a := r) (i := 1) d19_13 (hw _ (List.mem_of_getElem? (i := 139) rfl)) (hw _ (List.mem_of_getElem? (i := 140) rfl)) (hw _ (List.mem_of_getElem? (i := 141) rfl)) (hw _ (List.mem_of_getElem? (i := 11) rfl)) (hw _ (List.mem_of_getElem? (i := 12) rfl)) (hw _ (List.mem_of_getElem? (i := 142) rfl)) (by decide) rfl (placer l Z n0 w0 hw sr p1 d r s aq ao aa av ai ah ab hr hs mx ct us fr (sr + (1 : Int32)) ss qs os ats vs ids hp tb R S X A1 A2 hz) (by decide) (by decide) rfl (lenOf pd__28II_29V rfl) rfl (Nat.le_of_eq rfl) (by decide) (by decide) rfl rfl rfl (fun v W' hF => ?_)
  obtain ⟨rfl, rfl⟩ := hF
  refine Go.nov ?_
  refine Go.aloadN (pc' := 17) d19_16 rfl rfl rfl ?_
  refine Go.aloadN (pc' := 18) d19_17 rfl rfl rfl ?_
  refine Go.getF (pc' := 21) (i := 1) (j := 2) (v := (.int (sr + (1 : Int32)))) (host := "") d19_18 (Or.inl (hw _ (List.mem_of_getElem? (i := 102) rfl))) rfl rfl rfl ?_
  refine Go.iconst (pc' := 22) (v := (1 : Int32)) d19_21 rfl rfl ?_
  refine Go.isub (pc' := 23) d19_22 rfl ?_
  refine Go.callP (pc' := 26) (W1 := 0) (cells' := 0) (slots' := 0) (argsL := [(.int ((sr + (1 : Int32)) - (1 : Int32)))]) (rest := []) (y' := (⟨"com/example/pulld/pulld/broker/InFlightDeliveries$ByVisibleAt", "siftUp", "(I)V"⟩ : MethodName)) (a := r) (i := 1) d19_23 (hw _ (List.mem_of_getElem? (i := 144) rfl)) (hw _ (List.mem_of_getElem? (i := 145) rfl)) (hw _ (List.mem_of_getElem? (i := 146) rfl)) (hw _ (List.mem_of_getElem? (i := 11) rfl)) (hw _ (List.mem_of_getElem? (i := 12) rfl)) (hw _ (List.mem_of_getElem? (i := 147) rfl)) (by decide) rfl (siftUpr l Z n0 w0 hw ((sr + (1 : Int32)) - (1 : Int32)) d r s aq ao aa av ai ah ab hr hs mx ct us fr (sr + (1 : Int32)) ss qs os ats vs ids A2 tb A1 S X R' hp' hF) (by decide) (by decide) rfl (lenOf pd__28I_29V rfl) rfl (Nat.le_of_eq rfl) (by decide) (by decide) rfl rfl rfl (fun v W' hF => ?_)
  obtain ⟨rfl, rfl⟩ := hF
  refine Go.nov ?_
  exact Go.retV d19_26 rfl (by decide) (by decide) ⟨rfl, rfl⟩
theorem d25_0 : decode prog_14_method_6_code 0 = .ok (.aload_n 0, 1) := by decide +kernel
theorem d25_1 : decode prog_14_method_6_code 1 = .ok (.getfield 1, 3) := by decide +kernel
theorem d25_4 : decode prog_14_method_6_code 4 = .ok (.getfield 85, 3) := by decide +kernel
theorem d25_7 : decode prog_14_method_6_code 7 = .ok (.iload_n 1, 1) := by decide +kernel
theorem d25_8 : decode prog_14_method_6_code 8 = .ok (.iaload, 1) := by decide +kernel
theorem d25_9 : decode prog_14_method_6_code 9 = .ok (.istore_n 2, 1) := by decide +kernel
theorem d25_10 : decode prog_14_method_6_code 10 = .ok (.aload_n 0, 1) := by decide +kernel
theorem d25_11 : decode prog_14_method_6_code 11 = .ok (.getfield 13, 3) := by decide +kernel
theorem d25_14 : decode prog_14_method_6_code 14 = .ok (.aload_n 0, 1) := by decide +kernel
theorem d25_15 : decode prog_14_method_6_code 15 = .ok (.dup, 1) := by decide +kernel
theorem d25_16 : decode prog_14_method_6_code 16 = .ok (.getfield 17, 3) := by decide +kernel
theorem d25_19 : decode prog_14_method_6_code 19 = .ok (.iconst 1, 1) := by decide +kernel
theorem d25_20 : decode prog_14_method_6_code 20 = .ok (.isub, 1) := by decide +kernel
theorem d25_21 : decode prog_14_method_6_code 21 = .ok (.dup_x1, 1) := by decide +kernel
theorem d25_22 : decode prog_14_method_6_code 22 = .ok (.putfield 17, 3) := by decide +kernel
theorem d25_25 : decode prog_14_method_6_code 25 = .ok (.iaload, 1) := by decide +kernel
theorem d25_26 : decode prog_14_method_6_code 26 = .ok (.istore_n 3, 1) := by decide +kernel
theorem d25_27 : decode prog_14_method_6_code 27 = .ok (.iload_n 2, 1) := by decide +kernel
theorem d25_28 : decode prog_14_method_6_code 28 = .ok (.aload_n 0, 1) := by decide +kernel
theorem d25_29 : decode prog_14_method_6_code 29 = .ok (.getfield 17, 3) := by decide +kernel
theorem d25_32 : decode prog_14_method_6_code 32 = .ok (.if_icmp .ge 27, 3) := by decide +kernel
theorem d25_35 : decode prog_14_method_6_code 35 = .ok (.aload_n 0, 1) := by decide +kernel
theorem d25_36 : decode prog_14_method_6_code 36 = .ok (.iload_n 2, 1) := by decide +kernel
theorem d25_37 : decode prog_14_method_6_code 37 = .ok (.iload_n 3, 1) := by decide +kernel
theorem d25_38 : decode prog_14_method_6_code 38 = .ok (.invokevirtual 77, 3) := by decide +kernel
theorem d25_41 : decode prog_14_method_6_code 41 = .ok (.aload_n 0, 1) := by decide +kernel
theorem d25_42 : decode prog_14_method_6_code 42 = .ok (.iload_n 2, 1) := by decide +kernel
theorem d25_43 : decode prog_14_method_6_code 43 = .ok (.invokevirtual 81, 3) := by decide +kernel
theorem d25_46 : decode prog_14_method_6_code 46 = .ok (.aload_n 0, 1) := by decide +kernel
theorem d25_47 : decode prog_14_method_6_code 47 = .ok (.aload_n 0, 1) := by decide +kernel
theorem d25_48 : decode prog_14_method_6_code 48 = .ok (.getfield 1, 3) := by decide +kernel
theorem d25_51 : decode prog_14_method_6_code 51 = .ok (.getfield 85, 3) := by decide +kernel
theorem d25_54 : decode prog_14_method_6_code 54 = .ok (.iload_n 3, 1) := by decide +kernel
theorem d25_55 : decode prog_14_method_6_code 55 = .ok (.iaload, 1) := by decide +kernel
theorem d25_56 : decode prog_14_method_6_code 56 = .ok (.invokevirtual 88, 3) := by decide +kernel
theorem d25_59 : decode prog_14_method_6_code 59 = .ok (.return_, 1) := by decide +kernel
set_option maxRecDepth 65536 in
set_option maxHeartbeats 40000000 in
theorem remr (l : Launch) (Z : State) (n0 : Nat) (w0 : Array Value) (hw : ∀ d ∈ tables_1, d.before w0 Z = true) (p1 : Int32) (d r s aq ao aa av ai ah ab hr hs : Addr) (mx ct us fr sr ss : Int32) (qs : List Int32) (os : List Int64) (ats : List Int32) (vs ids : List Int64) (hp tb R S : List Int32) (X : Wld) (R' hp' : List Int32) (hF : remH (cmpS qs os vs) R hp sr p1 = some (R', hp')) :
    Meets l Z n0 (⟨"com/example/pulld/pulld/broker/InFlightDeliveries$ByVisibleAt", "remove", "(I)V"⟩ : MethodName) prog_14_method_6_code 4 none ({ frames := 3, cells := 0, slots := 0, locals := 47 } : Room) [] #[(.ref r), (.int p1)] (DW d r s aq ao aa av ai ah ab hr hs mx ct us fr sr ss qs os ats vs ids hp tb R S ++ X) (fun v W' => v = none ∧ W' = (DW d r s aq ao aa av ai ah ab hr hs mx ct us fr (sr - (1 : Int32)) ss qs os ats vs ids hp' tb R' S ++ X)) := by
  refine Meets.of_go (ls := #[.val (.ref r), .val (.int p1), .unset, .unset]) (plainFor_of_name (by first | (simp [plainName, overriddenIn]; done) | decide +kernel)) (fun m => by first | (simp [entryFrame, mkF, argsToLocals, Value.category, maxLocals]; done) | rfl) (fun D => ?_)
  dsimp only [remH] at hF
  obtain ⟨i, hi, hF⟩ := own_bind hF
  obtain ⟨la, hla, hF⟩ := own_bind hF
  refine Go.aloadN (pc' := 1) d25_0 rfl rfl rfl ?_
  refine Go.getF (pc' := 4) (i := 1) (j := 0) (v := (.ref d)) (host := "") d25_1 (Or.inl (hw _ (List.mem_of_getElem? (i := 16) rfl))) rfl rfl rfl ?_
  refine Go.getF (pc' := 7) (i := 0) (j := 11) (v := (.ref ah))  d25_4 (Or.inr (hw _ (List.mem_of_getElem? (i := 143) rfl))) rfl rfl rfl ?_
  refine Go.iloadN (pc' := 8) d25_7 rfl rfl ?_
  refine Go.ialoadG (pc' := 9) (i := 8) d25_8 rfl hi rfl ?_
  refine Go.istoreN (pc' := 10) (ls' := #[.val (.ref r), .val (.int p1), .val (.int i), .unset]) d25_9 rfl rfl ?_
  refine Go.aloadN (pc' := 11) d25_10 rfl rfl rfl ?_
  refine Go.getF (pc' := 14) (i := 1) (j := 1) (v := (.ref hr)) (host := "") d25_11 (Or.inl (hw _ (List.mem_of_getElem? (i := 20) rfl))) rfl rfl rfl ?_
  refine Go.aloadN (pc' := 15) d25_14 rfl rfl rfl ?_
  refine Go.dup (pc' := 16) d25_15 rfl rfl ?_
  refine Go.getF (pc' := 19) (i := 1) (j := 2) (v := (.int sr)) (host := "") d25_16 (Or.inl (hw _ (List.mem_of_getElem? (i := 102) rfl))) rfl rfl rfl ?_
  refine Go.iconst (pc' := 20) (v := (1 : Int32)) d25_19 rfl rfl ?_
  refine Go.isub (pc' := 21) d25_20 rfl ?_
  refine Go.dupX1 (pc' := 22) d25_21 rfl rfl rfl ?_
  refine Go.putF (pc' := 25) (i := 1) (j := 2) (ty := .int) (W' := (DW d r s aq ao aa av ai ah ab hr hs mx ct us fr (sr - (1 : Int32)) ss qs os ats vs ids hp tb R S ++ X)) (host := "") d25_22 (Or.inl (hw _ (List.mem_of_getElem? (i := 102) rfl))) (Or.inl (hw _ (List.mem_of_getElem? (i := 103) rfl))) (hw _ (List.mem_of_getElem? (i := 11) rfl)) rfl rfl (by decide) rfl rfl rfl rfl ?_
  refine Go.ialoadG (pc' := 26) (i := 10) d25_25 rfl hla rfl ?_
  refine Go.istoreN (pc' := 27) (ls' := #[.val (.ref r), .val (.int p1), .val (.int i), .val (.int la)]) d25_26 rfl rfl ?_
  refine Go.iloadN (pc' := 28) d25_27 rfl rfl ?_
  refine Go.aloadN (pc' := 29) d25_28 rfl rfl rfl ?_
  refine Go.getF (pc' := 32) (i := 1) (j := 2) (v := (.int (sr - (1 : Int32)))) (host := "") d25_29 (Or.inl (hw _ (List.mem_of_getElem? (i := 102) rfl))) rfl rfl rfl ?_
  refine Go.icmp_ge (pcY := 59) (pcN := 35) d25_32 (by decide) (by decide) rfl (fun hc32 => ?_) (fun hc32 => ?_)
  ·
    rw [if_neg hc32] at hF
    obtain ⟨e1, e2⟩ := Prod.mk.inj (Option.some.inj hF)
    exact Go.retV d25_59 rfl (by decide) (by decide) ⟨rfl, by rw [e1, e2]⟩
  ·
    rw [if_pos hc32] at hF
    obtain ⟨⟨A1, A2⟩, hz, hF⟩ := own_bind hF
    obtain ⟨⟨A3, A4⟩, hz2, hF⟩ := own_bind hF
    obtain ⟨j, hj, hF⟩ := own_bind hF
    refine Go.aloadN (pc' := 36) d25_35 rfl rfl rfl ?_
    refine Go.iloadN (pc' := 37) d25_36 rfl rfl ?_
    refine Go.iloadN (pc' := 38) d25_37 rfl rfl ?_
    refine Go.callP (pc' := 41) (W1 := 0) (cells' := 0) (slots' := 0) (argsL := [(.int i), (.int la)]) (rest := []) (y' := (⟨"com/example/pulld/pulld/broker/InFlightDeliveries$ByVisibleAt", "place", "(II)V"⟩ : MethodName)) (a := r) (i := 1) d25_38 (hw _ (List.mem_of_getElem? (i := 139) rfl)) (hw _ (List.mem_of_getElem? (i := 140) rfl)) (hw _ (List.mem_of_getElem? (i := 141) rfl)) (hw _ (List.mem_of_getElem? (i := 11) rfl)) (hw _ (List.mem_of_getElem? (i := 12) rfl)) (hw _ (List.mem_of_getElem? (i := 142) rfl)) (by decide) rfl (placer l Z n0 w0 hw i la d r s aq ao aa av ai ah ab hr hs mx ct us fr (sr - (1 : Int32)) ss qs os ats vs ids hp tb R S X A1 A2 hz) (by decide) (by decide) rfl (lenOf pd__28II_29V rfl) rfl (Nat.le_of_eq rfl) (by decide) (by decide) rfl rfl rfl (fun v W' hF => ?_)
    obtain ⟨rfl, rfl⟩ := hF
    refine Go.nov ?_
    refine Go.aloadN (pc' := 42) d25_41 rfl rfl rfl ?_
    refine Go.iloadN (pc' := 43) d25_42 rfl rfl ?_
    refine Go.callP (pc' := 46) (W1 := 0) (cells' := 0) (slots' := 0) (argsL := [(.int i)]) (rest := []) (y' := (⟨"com/example/pulld/pulld/broker/InFlightDeliveries$ByVisibleAt", "siftUp", "(I)V"⟩ : MethodName)) (a := r) (i := 1) d25_43 (hw _ (List.mem_of_getElem? (i := 144) rfl)) (hw _ (List.mem_of_getElem? (i := 145) rfl)) (hw _ (List.mem_of_getElem? (i := 146) rfl)) (hw _ (List.mem_of_getElem? (i := 11) rfl)) (hw _ (List.mem_of_getElem? (i := 12) rfl)) (hw _ (List.mem_of_getElem? (i := 147) rfl)) (by decide) rfl (siftUpr l Z n0 w0 hw i d r s aq ao aa av ai ah ab hr hs mx ct us fr (sr - (1 : Int32)) ss qs os ats vs ids A2 tb A1 S X A3 A4 hz2) (by decide) (by decide) rfl (lenOf pd__28I_29V rfl) rfl (Nat.le_of_eq rfl) (by decide) (by decide) rfl rfl rfl (fun v W' hF => ?_)
    obtain ⟨rfl, rfl⟩ := hF
    refine Go.nov ?_
    refine Go.aloadN (pc' := 47) d25_46 rfl rfl rfl ?_
    refine Go.aloadN (pc' := 48) d25_47 rfl rfl rfl ?_
    refine Go.getF (pc' := 51) (i := 1) (j := 0) (v := (.ref d)) (host := "") d25_48 (Or.inl (hw _ (List.mem_of_getElem? (i := 16) rfl))) rfl rfl rfl ?_
    refine Go.getF (pc' := 54) (i := 0) (j := 11) (v := (.ref ah))  d25_51 (Or.inr (hw _ (List.mem_of_getElem? (i := 143) rfl))) rfl rfl rfl ?_
    refine Go.iloadN (pc' := 55) d25_54 rfl rfl ?_
    refine Go.ialoadG (pc' := 56) (i := 8) d25_55 rfl hj rfl ?_
    refine Go.callP (pc' := 59) (W1 := 0) (cells' := 0) (slots' := 0) (argsL := [(.int j)]) (rest := []) (y' := (⟨"com/example/pulld/pulld/broker/InFlightDeliveries$ByVisibleAt", "siftDown", "(I)V"⟩ : MethodName)) (a := r) (i := 1) d25_56 (hw _ (List.mem_of_getElem? (i := 204) rfl)) (hw _ (List.mem_of_getElem? (i := 205) rfl)) (hw _ (List.mem_of_getElem? (i := 206) rfl)) (hw _ (List.mem_of_getElem? (i := 11) rfl)) (hw _ (List.mem_of_getElem? (i := 12) rfl)) (hw _ (List.mem_of_getElem? (i := 207) rfl)) (by decide) rfl (siftDownr l Z n0 w0 hw j d r s aq ao aa av ai ah ab hr hs mx ct us fr (sr - (1 : Int32)) ss qs os ats vs ids A4 tb A3 S X R' hp' hF) (by decide) (by decide) rfl (lenOf pd__28I_29V rfl) rfl (Nat.le_of_eq rfl) (by decide) (by decide) rfl rfl rfl (fun v W' hF => ?_)
    obtain ⟨rfl, rfl⟩ := hF
    refine Go.nov ?_
    exact Go.retV d25_59 rfl (by decide) (by decide) ⟨rfl, rfl⟩
theorem d36_0 : decode prog_14_method_5_code 0 = .ok (.aload_n 0, 1) := by decide +kernel
theorem d36_1 : decode prog_14_method_5_code 1 = .ok (.iconst 0, 1) := by decide +kernel
theorem d36_2 : decode prog_14_method_5_code 2 = .ok (.putfield 17, 3) := by decide +kernel
theorem d36_5 : decode prog_14_method_5_code 5 = .ok (.return_, 1) := by decide +kernel
set_option maxRecDepth 65536 in
set_option maxHeartbeats 40000000 in
theorem clearr (l : Launch) (Z : State) (n0 : Nat) (w0 : Array Value) (hw : ∀ d ∈ tables_1, d.before w0 Z = true) (d r s aq ao aa av ai ah ab hr hs : Addr) (mx ct us fr sr ss : Int32) (qs : List Int32) (os : List Int64) (ats : List Int32) (vs ids : List Int64) (hp tb R S : List Int32) (X : Wld) :
    Meets l Z n0 (⟨"com/example/pulld/pulld/broker/InFlightDeliveries$ByVisibleAt", "clear", "()V"⟩ : MethodName) prog_14_method_5_code 1 none ({ frames := 0, cells := 0, slots := 0, locals := 0 } : Room) [] #[(.ref r)] (DW d r s aq ao aa av ai ah ab hr hs mx ct us fr sr ss qs os ats vs ids hp tb R S ++ X) (fun v W' => v = none ∧ W' = (DW d r s aq ao aa av ai ah ab hr hs mx ct us fr (0 : Int32) ss qs os ats vs ids hp tb R S ++ X)) := by
  refine Meets.of_go (ls := #[.val (.ref r)]) (plainFor_of_name (by first | (simp [plainName, overriddenIn]; done) | decide +kernel)) (fun m => by first | (simp [entryFrame, mkF, argsToLocals, Value.category, maxLocals]; done) | rfl) (fun D => ?_)
  refine Go.aloadN (pc' := 1) d36_0 rfl rfl rfl ?_
  refine Go.iconst (pc' := 2) (v := (0 : Int32)) d36_1 rfl rfl ?_
  refine Go.putF (pc' := 5) (i := 1) (j := 2) (ty := .int) (W' := (DW d r s aq ao aa av ai ah ab hr hs mx ct us fr (0 : Int32) ss qs os ats vs ids hp tb R S ++ X)) (host := "") d36_2 (Or.inl (hw _ (List.mem_of_getElem? (i := 102) rfl))) (Or.inl (hw _ (List.mem_of_getElem? (i := 103) rfl))) (hw _ (List.mem_of_getElem? (i := 11) rfl)) rfl rfl (by decide) rfl rfl rfl rfl ?_
  exact Go.retV d36_5 rfl (by decide) (by decide) ⟨rfl, rfl⟩
theorem d31_0 : decode prog_14_method_2_code 0 = .ok (.aload_n 0, 1) := by decide +kernel
theorem d31_1 : decode prog_14_method_2_code 1 = .ok (.getfield 17, 3) := by decide +kernel
theorem d31_4 : decode prog_14_method_2_code 4 = .ok (.ifCond .ne 9, 3) := by decide +kernel
theorem d31_7 : decode prog_14_method_2_code 7 = .ok (.ldc2_w 23, 3) := by decide +kernel
theorem d31_10 : decode prog_14_method_2_code 10 = .ok (.goto 17, 3) := by decide +kernel
theorem d31_27 : decode prog_14_method_2_code 27 = .ok (.lreturn, 1) := by decide +kernel
set_option maxRecDepth 65536 in
set_option maxHeartbeats 40000000 in
theorem first0r (l : Launch) (Z : State) (n0 : Nat) (w0 : Array Value) (hw : ∀ d ∈ tables_1, d.before w0 Z = true) (d r s aq ao aa av ai ah ab hr hs : Addr) (mx ct us fr sr ss : Int32) (qs : List Int32) (os : List Int64) (ats : List Int32) (vs ids : List Int64) (hp tb R S : List Int32) (X : Wld) (hz : sr = 0) :
    Meets l Z n0 (⟨"com/example/pulld/pulld/broker/InFlightDeliveries$ByVisibleAt", "firstAt", "()J"⟩ : MethodName) prog_14_method_2_code 1 (some .long) ({ frames := 0, cells := 0, slots := 0, locals := 0 } : Room) [] #[(.ref r)] (DW d r s aq ao aa av ai ah ab hr hs mx ct us fr sr ss qs os ats vs ids hp tb R S ++ X) (fun v W' => v = some (.long (9223372036854775807 : Int64)) ∧ W' = (DW d r s aq ao aa av ai ah ab hr hs mx ct us fr sr ss qs os ats vs ids hp tb R S ++ X)) := by
  refine Meets.of_go (ls := #[.val (.ref r)]) (plainFor_of_name (by first | (simp [plainName, overriddenIn]; done) | decide +kernel)) (fun m => by first | (simp [entryFrame, mkF, argsToLocals, Value.category, maxLocals]; done) | rfl) (fun D => ?_)
  refine Go.aloadN (pc' := 1) d31_0 rfl rfl rfl ?_
  refine Go.getF (pc' := 4) (i := 1) (j := 2) (v := (.int sr)) (host := "") d31_1 (Or.inl (hw _ (List.mem_of_getElem? (i := 102) rfl))) rfl rfl rfl ?_
  refine Go.if_ne (pcY := 13) (pcN := 7) d31_4 (by decide) (by decide) rfl (fun hc4 => absurd hc4 (Classical.not_not.mpr hz)) (fun hc4 => ?_)
  refine Go.ldcL (pc' := 10) (v := (9223372036854775807 : Int64)) d31_7 (hw _ (List.mem_of_getElem? (i := 192) rfl)) rfl ?_
  refine Go.goto (pc' := 27) d31_10 (by decide) (by decide) ?_
  exact Go.retJ d31_27 rfl (by decide) (by decide) ⟨rfl, rfl⟩
theorem d31_13 : decode prog_14_method_2_code 13 = .ok (.aload_n 0, 1) := by decide +kernel
theorem d31_14 : decode prog_14_method_2_code 14 = .ok (.getfield 1, 3) := by decide +kernel
theorem d31_17 : decode prog_14_method_2_code 17 = .ok (.getfield 25, 3) := by decide +kernel
theorem d31_20 : decode prog_14_method_2_code 20 = .ok (.aload_n 0, 1) := by decide +kernel
theorem d31_21 : decode prog_14_method_2_code 21 = .ok (.getfield 13, 3) := by decide +kernel
theorem d31_24 : decode prog_14_method_2_code 24 = .ok (.iconst 0, 1) := by decide +kernel
theorem d31_25 : decode prog_14_method_2_code 25 = .ok (.iaload, 1) := by decide +kernel
theorem d31_26 : decode prog_14_method_2_code 26 = .ok (.laload, 1) := by decide +kernel
set_option maxRecDepth 65536 in
set_option maxHeartbeats 40000000 in
theorem first1r (l : Launch) (Z : State) (n0 : Nat) (w0 : Array Value) (hw : ∀ d ∈ tables_1, d.before w0 Z = true) (d r s aq ao aa av ai ah ab hr hs : Addr) (mx ct us fr sr ss : Int32) (qs : List Int32) (os : List Int64) (ats : List Int32) (vs ids : List Int64) (hp tb R S : List Int32) (X : Wld) (xq : Int32) (vq : Int64) (hz : ¬ sr = 0) (hx : rdA R 0 = some xq) (hv : rdA vs xq = some vq) :
    Meets l Z n0 (⟨"com/example/pulld/pulld/broker/InFlightDeliveries$ByVisibleAt", "firstAt", "()J"⟩ : MethodName) prog_14_method_2_code 1 (some .long) ({ frames := 0, cells := 0, slots := 0, locals := 0 } : Room) [] #[(.ref r)] (DW d r s aq ao aa av ai ah ab hr hs mx ct us fr sr ss qs os ats vs ids hp tb R S ++ X) (fun v W' => v = some (.long vq) ∧ W' = (DW d r s aq ao aa av ai ah ab hr hs mx ct us fr sr ss qs os ats vs ids hp tb R S ++ X)) := by
  refine Meets.of_go (ls := #[.val (.ref r)]) (plainFor_of_name (by first | (simp [plainName, overriddenIn]; done) | decide +kernel)) (fun m => by first | (simp [entryFrame, mkF, argsToLocals, Value.category, maxLocals]; done) | rfl) (fun D => ?_)
  refine Go.aloadN (pc' := 1) d31_0 rfl rfl rfl ?_
  refine Go.getF (pc' := 4) (i := 1) (j := 2) (v := (.int sr)) (host := "") d31_1 (Or.inl (hw _ (List.mem_of_getElem? (i := 102) rfl))) rfl rfl rfl ?_
  refine Go.if_ne (pcY := 13) (pcN := 7) d31_4 (by decide) (by decide) rfl (fun hc4 => ?_) (fun hc4 => absurd hc4 hz)
  refine Go.aloadN (pc' := 14) d31_13 rfl rfl rfl ?_
  refine Go.getF (pc' := 17) (i := 1) (j := 0) (v := (.ref d)) (host := "") d31_14 (Or.inl (hw _ (List.mem_of_getElem? (i := 16) rfl))) rfl rfl rfl ?_
  refine Go.getF (pc' := 20) (i := 0) (j := 9) (v := (.ref av))  d31_17 (Or.inr (hw _ (List.mem_of_getElem? (i := 198) rfl))) rfl rfl rfl ?_
  refine Go.aloadN (pc' := 21) d31_20 rfl rfl rfl ?_
  refine Go.getF (pc' := 24) (i := 1) (j := 1) (v := (.ref hr)) (host := "") d31_21 (Or.inl (hw _ (List.mem_of_getElem? (i := 20) rfl))) rfl rfl rfl ?_
  refine Go.iconst (pc' := 25) (v := (0 : Int32)) d31_24 rfl rfl ?_
  refine Go.ialoadG (pc' := 26) (i := 10) d31_25 rfl hx rfl ?_
  refine Go.laloadG (pc' := 27) (i := 6) d31_26 rfl hv rfl ?_
  exact Go.retJ d31_27 rfl (by decide) (by decide) ⟨rfl, rfl⟩
set_option maxRecDepth 65536 in
set_option maxHeartbeats 40000000 in
theorem places (l : Launch) (Z : State) (n0 : Nat) (w0 : Array Value) (hw : ∀ d ∈ tables_1, d.before w0 Z = true) (p1 : Int32) (p2 : Int32) (d r s aq ao aa av ai ah ab hr hs : Addr) (mx ct us fr sr ss : Int32) (qs : List Int32) (os : List Int64) (ats : List Int32) (vs ids : List Int64) (hp tb R S : List Int32) (X : Wld) (S' hp' : List Int32) (hF : plF S hp p1 p2 = some (S', hp')) :
    Meets l Z n0 (⟨"com/example/pulld/pulld/broker/InFlightDeliveries$ByVisibleAt", "place", "(II)V"⟩ : MethodName) prog_14_method_10_code 3 none ({ frames := 0, cells := 0, slots := 0, locals := 0 } : Room) [] #[(.ref s), (.int p1), (.int p2)] (DW d r s aq ao aa av ai ah ab hr hs mx ct us fr sr ss qs os ats vs ids hp tb R S ++ X) (fun v W' => v = none ∧ W' = (DW d r s aq ao aa av ai ah ab hr hs mx ct us fr sr ss qs os ats vs ids hp' tb R S' ++ X)) := by
  refine Meets.of_go (ls := #[.val (.ref s), .val (.int p1), .val (.int p2)]) (plainFor_of_name (by first | (simp [plainName, overriddenIn]; done) | decide +kernel)) (fun m => by first | (simp [entryFrame, mkF, argsToLocals, Value.category, maxLocals]; done) | rfl) (fun D => ?_)
  dsimp only [plF] at hF
  obtain ⟨A1, h1, hF⟩ := own_bind hF
  obtain ⟨A2, h2, hF⟩ := own_bind hF
  obtain ⟨e1, e2⟩ := Prod.mk.inj (Option.some.inj hF)
  subst e1 e2
  refine Go.aloadN (pc' := 1) d20_0 rfl rfl rfl ?_
  refine Go.getF (pc' := 4) (i := 2) (j := 1) (v := (.ref hs)) (host := "") d20_1 (Or.inl (hw _ (List.mem_of_getElem? (i := 20) rfl))) rfl rfl rfl ?_
  refine Go.iloadN (pc' := 5) d20_4 rfl rfl ?_
  refine Go.iloadN (pc' := 6) d20_5 rfl rfl ?_
  refine Go.iastoreG (pc' := 7) (i := 11) (W' := (DW d r s aq ao aa av ai ah ab hr hs mx ct us fr sr ss qs os ats vs ids hp tb R A1 ++ X)) d20_6 rfl h1 rfl rfl ?_
  refine Go.aloadN (pc' := 8) d20_7 rfl rfl rfl ?_
  refine Go.getF (pc' := 11) (i := 2) (j := 0) (v := (.ref d)) (host := "") d20_8 (Or.inl (hw _ (List.mem_of_getElem? (i := 16) rfl))) rfl rfl rfl ?_
  refine Go.getF (pc' := 14) (i := 0) (j := 11) (v := (.ref ah))  d20_11 (Or.inr (hw _ (List.mem_of_getElem? (i := 143) rfl))) rfl rfl rfl ?_
  refine Go.iloadN (pc' := 15) d20_14 rfl rfl ?_
  refine Go.iloadN (pc' := 16) d20_15 rfl rfl ?_
  refine Go.iastoreG (pc' := 17) (i := 8) (W' := (DW d r s aq ao aa av ai ah ab hr hs mx ct us fr sr ss qs os ats vs ids A2 tb R A1 ++ X)) d20_16 rfl h2 rfl rfl ?_
  exact Go.retV d20_17 rfl (by decide) (by decide) ⟨rfl, rfl⟩
set_option maxRecDepth 65536 in
set_option maxHeartbeats 40000000 in
theorem siftUps (l : Launch) (Z : State) (n0 : Nat) (w0 : Array Value) (hw : ∀ d ∈ tables_1, d.before w0 Z = true) (p1 : Int32) (d r s aq ao aa av ai ah ab hr hs : Addr) (mx ct us fr sr ss : Int32) (qs : List Int32) (os : List Int64) (ats : List Int32) (vs ids : List Int64) (hp tb R S : List Int32) (X : Wld) (S' hp' : List Int32) (hF : upF (cmpS qs os vs) S hp p1 = some (S', hp')) :
    Meets l Z n0 (⟨"com/example/pulld/pulld/broker/InFlightDeliveries$ByVisibleAt", "siftUp", "(I)V"⟩ : MethodName) prog_14_method_8_code 4 none ({ frames := 2, cells := 0, slots := 0, locals := 30 } : Room) [] #[(.ref s), (.int p1)] (DW d r s aq ao aa av ai ah ab hr hs mx ct us fr sr ss qs os ats vs ids hp tb R S ++ X) (fun v W' => v = none ∧ W' = (DW d r s aq ao aa av ai ah ab hr hs mx ct us fr sr ss qs os ats vs ids hp' tb R S' ++ X)) := by
  refine Meets.of_go (ls := #[.val (.ref s), .val (.int p1), .unset, .unset]) (plainFor_of_name (by first | (simp [plainName, overriddenIn]; done) | decide +kernel)) (fun m => by first | (simp [entryFrame, mkF, argsToLocals, Value.category, maxLocals]; done) | rfl) (fun D => ?_)
  dsimp only [upF] at hF
  obtain ⟨x, hx, hF⟩ := own_bind hF
  have k9 : ∀ (f : Nat) (S hp : List Int32) (i : Int32), upL (cmpS qs os vs) f S hp i x = some (S', hp') → Go l Z n0 ({ frames := 2, cells := 0, slots := 0, locals := 30 } : Room) prog_14_method_8_code 4 (⟨"com/example/pulld/pulld/broker/InFlightDeliveries$ByVisibleAt", "siftUp", "(I)V"⟩ : MethodName) none D (DW d r s aq ao aa av ai ah ab hr hs mx ct us fr sr ss qs os ats vs ids hp tb R S ++ X) 0 0 9 #[.val (.ref s), .val (.int p1), .val (.int i), .val (.int x)] [] (fun v W' => v = none ∧ W' = (DW d r s aq ao aa av ai ah ab hr hs mx ct us fr sr ss qs os ats vs ids hp' tb R S' ++ X)) := by
    intro f
    induction f with
    | zero => intro S hp i h; exact absurd h (by simp [upL])
    | succ f ih =>
      intro S hp i h
      rw [upL] at h
      have k58 : plF S hp i x = some (S', hp') → Go l Z n0 ({ frames := 2, cells := 0, slots := 0, locals := 30 } : Room) prog_14_method_8_code 4 (⟨"com/example/pulld/pulld/broker/InFlightDeliveries$ByVisibleAt", "siftUp", "(I)V"⟩ : MethodName) none D (DW d r s aq ao aa av ai ah ab hr hs mx ct us fr sr ss qs os ats vs ids hp tb R S ++ X) 0 0 58 #[.val (.ref s), .val (.int p1), .val (.int i), .val (.int x)] [] (fun v W' => v = none ∧ W' = (DW d r s aq ao aa av ai ah ab hr hs mx ct us fr sr ss qs os ats vs ids hp' tb R S' ++ X)) := by
        intro hpl
        refine Go.aloadN (pc' := 59) d21_58 rfl rfl rfl ?_
        refine Go.iloadN (pc' := 60) d21_59 rfl rfl ?_
        refine Go.iloadN (pc' := 61) d21_60 rfl rfl ?_
        refine Go.callP (pc' := 64) (W1 := 0) (cells' := 0) (slots' := 0) (argsL := [(.int i), (.int x)]) (rest := []) (y' := (⟨"com/example/pulld/pulld/broker/InFlightDeliveries$ByVisibleAt", "place", "(II)V"⟩ : MethodName)) (a := s) (i := 2) d21_61 (hw _ (List.mem_of_getElem? (i := 139) rfl)) (hw _ (List.mem_of_getElem? (i := 140) rfl)) (hw _ (List.mem_of_getElem? (i := 141) rfl)) (hw _ (List.mem_of_getElem? (i := 11) rfl)) (hw _ (List.mem_of_getElem? (i := 12) rfl)) (hw _ (List.mem_of_getElem? (i := 142) rfl)) (by decide) rfl (places l Z n0 w0 hw i x d r s aq ao aa av ai ah ab hr hs mx ct us fr sr ss qs os ats vs ids hp tb R S X S' hp' hpl) (by decide) (by decide) rfl (lenOf pd__28II_29V rfl) rfl (Nat.le_of_eq rfl) (by decide) (by decide) rfl rfl rfl (fun v W' hF => ?_)
        obtain ⟨rfl, rfl⟩ := hF
        refine Go.nov ?_
        exact Go.retV d21_64 rfl (by decide) (by decide) ⟨rfl, rfl⟩
      refine Go.iloadN (pc' := 10) d21_9 rfl rfl ?_
      refine Go.if_le (pcY := 58) (pcN := 13) d21_10 (by decide) (by decide) rfl (fun hc10 => ?_) (fun hc10 => ?_)
      ·
        rw [if_neg hc10] at h
        exact k58 h
      ·
        rw [if_pos hc10] at h
        obtain ⟨u, hu, h⟩ := own_bind h
        obtain ⟨c, hc, h⟩ := own_bind h
        refine Go.aloadN (pc' := 14) d21_13 rfl rfl rfl ?_
        refine Go.getF (pc' := 17) (i := 2) (j := 0) (v := (.ref d)) (host := "") d21_14 (Or.inl (hw _ (List.mem_of_getElem? (i := 16) rfl))) rfl rfl rfl ?_
        refine Go.iloadN (pc' := 18) d21_17 rfl rfl ?_
        refine Go.aloadN (pc' := 19) d21_18 rfl rfl rfl ?_
        refine Go.getF (pc' := 22) (i := 2) (j := 1) (v := (.ref hs)) (host := "") d21_19 (Or.inl (hw _ (List.mem_of_getElem? (i := 20) rfl))) rfl rfl rfl ?_
        refine Go.iloadN (pc' := 23) d21_22 rfl rfl ?_
        refine Go.iconst (pc' := 24) (v := (1 : Int32)) d21_23 rfl rfl ?_
        refine Go.isub (pc' := 25) d21_24 rfl ?_
        refine Go.iconst (pc' := 26) (v := (2 : Int32)) d21_25 rfl rfl ?_
        refine Go.idiv (pc' := 27) d21_26 (by decide) rfl ?_
        refine Go.ialoadG (pc' := 28) (i := 11) d21_27 rfl hu rfl ?_
        refine Go.callPN (pc' := 31) (W1 := 0) (cells' := 0) (slots' := 0) (argsL := [(.int x), (.int u)]) (rest := []) (y' := (⟨"com/example/pulld/pulld/broker/InFlightDeliveries", "compare", "(II)I"⟩ : MethodName)) (a := d) (i := 0) d21_28 (hw _ (List.mem_of_getElem? (i := 148) rfl)) (hw _ (List.mem_of_getElem? (i := 149) rfl)) (hw _ (List.mem_of_getElem? (i := 150) rfl)) (hw _ (List.mem_of_getElem? (i := 2) rfl)) (hw _ (List.mem_of_getElem? (i := 3) rfl)) (hw _ (List.mem_of_getElem? (i := 151) rfl)) (by decide) rfl (rm22 l Z n0 w0 hw x u d r s aq ao aa av ai ah ab hr hs mx ct us fr sr ss qs os ats vs ids hp tb R S X c hc) (by decide) (by decide) rfl (lenOf pd__28II_29I rfl) rfl (Nat.le_of_eq rfl) (by decide) (by decide) rfl rfl rfl (fun v W' hF => ?_)
        obtain ⟨rfl, rfl⟩ := hF
        refine Go.val ?_
        refine Go.if_ge (pcY := 58) (pcN := 34) d21_31 (by decide) (by decide) rfl (fun hc31 => ?_) (fun hc31 => ?_)
        ·
          rw [if_neg hc31] at h
          exact k58 h
        ·
          rw [if_pos hc31] at h
          obtain ⟨⟨A1, A2⟩, hz, h⟩ := own_bind h
          refine Go.aloadN (pc' := 35) d21_34 rfl rfl rfl ?_
          refine Go.iloadN (pc' := 36) d21_35 rfl rfl ?_
          refine Go.aloadN (pc' := 37) d21_36 rfl rfl rfl ?_
          refine Go.getF (pc' := 40) (i := 2) (j := 1) (v := (.ref hs)) (host := "") d21_37 (Or.inl (hw _ (List.mem_of_getElem? (i := 20) rfl))) rfl rfl rfl ?_
          refine Go.iloadN (pc' := 41) d21_40 rfl rfl ?_
          refine Go.iconst (pc' := 42) (v := (1 : Int32)) d21_41 rfl rfl ?_
          refine Go.isub (pc' := 43) d21_42 rfl ?_
          refine Go.iconst (pc' := 44) (v := (2 : Int32)) d21_43 rfl rfl ?_
          refine Go.idiv (pc' := 45) d21_44 (by decide) rfl ?_
          refine Go.ialoadG (pc' := 46) (i := 11) d21_45 rfl hu rfl ?_
          refine Go.callP (pc' := 49) (W1 := 0) (cells' := 0) (slots' := 0) (argsL := [(.int i), (.int u)]) (rest := []) (y' := (⟨"com/example/pulld/pulld/broker/InFlightDeliveries$ByVisibleAt", "place", "(II)V"⟩ : MethodName)) (a := s) (i := 2) d21_46 (hw _ (List.mem_of_getElem? (i := 139) rfl)) (hw _ (List.mem_of_getElem? (i := 140) rfl)) (hw _ (List.mem_of_getElem? (i := 141) rfl)) (hw _ (List.mem_of_getElem? (i := 11) rfl)) (hw _ (List.mem_of_getElem? (i := 12) rfl)) (hw _ (List.mem_of_getElem? (i := 142) rfl)) (by decide) rfl (places l Z n0 w0 hw i u d r s aq ao aa av ai ah ab hr hs mx ct us fr sr ss qs os ats vs ids hp tb R S X A1 A2 hz) (by decide) (by decide) rfl (lenOf pd__28II_29V rfl) rfl (Nat.le_of_eq rfl) (by decide) (by decide) rfl rfl rfl (fun v W' hF => ?_)
          obtain ⟨rfl, rfl⟩ := hF
          refine Go.nov ?_
          refine Go.iloadN (pc' := 50) d21_49 rfl rfl ?_
          refine Go.iconst (pc' := 51) (v := (1 : Int32)) d21_50 rfl rfl ?_
          refine Go.isub (pc' := 52) d21_51 rfl ?_
          refine Go.iconst (pc' := 53) (v := (2 : Int32)) d21_52 rfl rfl ?_
          refine Go.idiv (pc' := 54) d21_53 (by decide) rfl ?_
          refine Go.istoreN (pc' := 55) (ls' := #[.val (.ref s), .val (.int p1), .val (.int ((i - (1 : Int32)) / (2 : Int32))), .val (.int x)]) d21_54 rfl rfl ?_
          refine Go.goto (pc' := 9) d21_55 (by decide) (by decide) ?_
          exact ih _ _ _ h
  refine Go.iloadN (pc' := 1) d21_0 rfl rfl ?_
  refine Go.istoreN (pc' := 2) (ls' := #[.val (.ref s), .val (.int p1), .val (.int p1), .unset]) d21_1 rfl rfl ?_
  refine Go.aloadN (pc' := 3) d21_2 rfl rfl rfl ?_
  refine Go.getF (pc' := 6) (i := 2) (j := 1) (v := (.ref hs)) (host := "") d21_3 (Or.inl (hw _ (List.mem_of_getElem? (i := 20) rfl))) rfl rfl rfl ?_
  refine Go.iloadN (pc' := 7) d21_6 rfl rfl ?_
  refine Go.ialoadG (pc' := 8) (i := 11) d21_7 rfl hx rfl ?_
  refine Go.istoreN (pc' := 9) (ls' := #[.val (.ref s), .val (.int p1), .val (.int p1), .val (.int x)]) d21_8 rfl rfl ?_
  exact k9 4 _ _ _ hF
set_option maxRecDepth 65536 in
set_option maxHeartbeats 40000000 in
theorem siftDowns (l : Launch) (Z : State) (n0 : Nat) (w0 : Array Value) (hw : ∀ d ∈ tables_1, d.before w0 Z = true) (p1 : Int32) (d r s aq ao aa av ai ah ab hr hs : Addr) (mx ct us fr sr ss : Int32) (qs : List Int32) (os : List Int64) (ats : List Int32) (vs ids : List Int64) (hp tb R S : List Int32) (X : Wld) (S' hp' : List Int32) (hF : dnF (cmpS qs os vs) ss S hp p1 = some (S', hp')) :
    Meets l Z n0 (⟨"com/example/pulld/pulld/broker/InFlightDeliveries$ByVisibleAt", "siftDown", "(I)V"⟩ : MethodName) prog_14_method_9_code 6 none ({ frames := 2, cells := 0, slots := 0, locals := 30 } : Room) [] #[(.ref s), (.int p1)] (DW d r s aq ao aa av ai ah ab hr hs mx ct us fr sr ss qs os ats vs ids hp tb R S ++ X) (fun v W' => v = none ∧ W' = (DW d r s aq ao aa av ai ah ab hr hs mx ct us fr sr ss qs os ats vs ids hp' tb R S' ++ X)) := by
  refine Meets.of_go (ls := #[.val (.ref s), .val (.int p1), .unset, .unset, .unset, .unset]) (plainFor_of_name (by first | (simp [plainName, overriddenIn]; done) | decide +kernel)) (fun m => by first | (simp [entryFrame, mkF, argsToLocals, Value.category, maxLocals]; done) | rfl) (fun D => ?_)
  dsimp only [dnF] at hF
  obtain ⟨x, hx, hF⟩ := own_bind hF
  have k12 : ∀ (f : Nat) (S hp : List Int32) (i sk : Int32) (s5 : Slot), (s5 = .unset ∨ ∃ z, s5 = .val (.int z)) → dnL (cmpS qs os vs) ss f S hp i x sk = some (S', hp') → Go l Z n0 ({ frames := 2, cells := 0, slots := 0, locals := 30 } : Room) prog_14_method_9_code 6 (⟨"com/example/pulld/pulld/broker/InFlightDeliveries$ByVisibleAt", "siftDown", "(I)V"⟩ : MethodName) none D (DW d r s aq ao aa av ai ah ab hr hs mx ct us fr sr ss qs os ats vs ids hp tb R S ++ X) 0 0 12 #[.val (.ref s), .val (.int p1), .val (.int i), .val (.int x), .val (.int sk), s5] [] (fun v W' => v = none ∧ W' = (DW d r s aq ao aa av ai ah ab hr hs mx ct us fr sr ss qs os ats vs ids hp' tb R S' ++ X)) := by
    intro f
    induction f with
    | zero => intro S hp i sk s5 hs h; exact absurd h (by simp [dnL])
    | succ f ih =>
      intro S hp i sk s5 hs h
      rw [dnL] at h
      rcases hs with rfl | ⟨z5, rfl⟩
      ·
        have k124 : plF S hp i x = some (S', hp') → Go l Z n0 ({ frames := 2, cells := 0, slots := 0, locals := 30 } : Room) prog_14_method_9_code 6 (⟨"com/example/pulld/pulld/broker/InFlightDeliveries$ByVisibleAt", "siftDown", "(I)V"⟩ : MethodName) none D (DW d r s aq ao aa av ai ah ab hr hs mx ct us fr sr ss qs os ats vs ids hp tb R S ++ X) 0 0 124 #[.val (.ref s), .val (.int p1), .val (.int i), .val (.int x), .val (.int sk), .unset] [] (fun v W' => v = none ∧ W' = (DW d r s aq ao aa av ai ah ab hr hs mx ct us fr sr ss qs os ats vs ids hp' tb R S' ++ X)) := by
          intro hpl
          refine Go.aloadN (pc' := 125) d34_124 rfl rfl rfl ?_
          refine Go.iloadN (pc' := 126) d34_125 rfl rfl ?_
          refine Go.iloadN (pc' := 127) d34_126 rfl rfl ?_
          refine Go.callP (pc' := 130) (W1 := 0) (cells' := 0) (slots' := 0) (argsL := [(.int i), (.int x)]) (rest := []) (y' := (⟨"com/example/pulld/pulld/broker/InFlightDeliveries$ByVisibleAt", "place", "(II)V"⟩ : MethodName)) (a := s) (i := 2) d34_127 (hw _ (List.mem_of_getElem? (i := 139) rfl)) (hw _ (List.mem_of_getElem? (i := 140) rfl)) (hw _ (List.mem_of_getElem? (i := 141) rfl)) (hw _ (List.mem_of_getElem? (i := 11) rfl)) (hw _ (List.mem_of_getElem? (i := 12) rfl)) (hw _ (List.mem_of_getElem? (i := 142) rfl)) (by decide) rfl (places l Z n0 w0 hw i x d r s aq ao aa av ai ah ab hr hs mx ct us fr sr ss qs os ats vs ids hp tb R S X S' hp' hpl) (by decide) (by decide) rfl (lenOf pd__28II_29V rfl) rfl (Nat.le_of_eq rfl) (by decide) (by decide) rfl rfl rfl (fun v W' hF => ?_)
          obtain ⟨rfl, rfl⟩ := hF
          refine Go.nov ?_
          exact Go.retV d34_130 rfl (by decide) (by decide) ⟨rfl, rfl⟩
        refine Go.iload (pc' := 14) d34_12 rfl rfl ?_
        refine Go.if_eq (pcY := 124) (pcN := 17) d34_14 (by decide) (by decide) rfl (fun hc14 => ?_) (fun hc14 => ?_)
        ·
          rw [if_pos hc14] at h
          exact k124 h
        ·
          rw [if_neg hc14] at h
          refine Go.iconst (pc' := 18) (v := (2 : Int32)) d34_17 rfl rfl ?_
          refine Go.iloadN (pc' := 19) d34_18 rfl rfl ?_
          refine Go.imul (pc' := 20) d34_19 rfl ?_
          refine Go.iconst (pc' := 21) (v := (1 : Int32)) d34_20 rfl rfl ?_
          refine Go.iadd (pc' := 22) d34_21 rfl ?_
          refine Go.aloadN (pc' := 23) d34_22 rfl rfl rfl ?_
          refine Go.getF (pc' := 26) (i := 2) (j := 2) (v := (.int ss)) (host := "") d34_23 (Or.inl (hw _ (List.mem_of_getElem? (i := 102) rfl))) rfl rfl rfl ?_
          refine Go.icmp_ge (pcY := 124) (pcN := 29) d34_26 (by decide) (by decide) rfl (fun hc26 => ?_) (fun hc26 => ?_)
          ·
            rw [if_neg hc26] at h
            exact k124 h
          ·
            rw [if_pos hc26] at h
            obtain ⟨ch, hch, h⟩ := own_bind h
            obtain ⟨u, hu, h⟩ := own_bind h
            obtain ⟨c, hc, h⟩ := own_bind h
            refine Go.iconst (pc' := 30) (v := (2 : Int32)) d34_29 rfl rfl ?_
            refine Go.iloadN (pc' := 31) d34_30 rfl rfl ?_
            refine Go.imul (pc' := 32) d34_31 rfl ?_
            refine Go.iconst (pc' := 33) (v := (1 : Int32)) d34_32 rfl rfl ?_
            refine Go.iadd (pc' := 34) d34_33 rfl ?_
            refine Go.istore (pc' := 36) (ls' := #[.val (.ref s), .val (.int p1), .val (.int i), .val (.int x), .val (.int sk), .val (.int (((2 : Int32) * i) + (1 : Int32)))]) d34_34 rfl rfl ?_
            have k76 : ∀ (x5 : Int32), x5 = ch → Go l Z n0 ({ frames := 2, cells := 0, slots := 0, locals := 30 } : Room) prog_14_method_9_code 6 (⟨"com/example/pulld/pulld/broker/InFlightDeliveries$ByVisibleAt", "siftDown", "(I)V"⟩ : MethodName) none D (DW d r s aq ao aa av ai ah ab hr hs mx ct us fr sr ss qs os ats vs ids hp tb R S ++ X) 0 0 76 #[.val (.ref s), .val (.int p1), .val (.int i), .val (.int x), .val (.int sk), .val (.int x5)] [] (fun v W' => v = none ∧ W' = (DW d r s aq ao aa av ai ah ab hr hs mx ct us fr sr ss qs os ats vs ids hp' tb R S' ++ X)) := by
              intro x5 hx5
              subst hx5
              refine Go.aloadN (pc' := 77) d34_76 rfl rfl rfl ?_
              refine Go.getF (pc' := 80) (i := 2) (j := 0) (v := (.ref d)) (host := "") d34_77 (Or.inl (hw _ (List.mem_of_getElem? (i := 16) rfl))) rfl rfl rfl ?_
              refine Go.aloadN (pc' := 81) d34_80 rfl rfl rfl ?_
              refine Go.getF (pc' := 84) (i := 2) (j := 1) (v := (.ref hs)) (host := "") d34_81 (Or.inl (hw _ (List.mem_of_getElem? (i := 20) rfl))) rfl rfl rfl ?_
              refine Go.iload (pc' := 86) d34_84 rfl rfl ?_
              refine Go.ialoadG (pc' := 87) (i := 11) d34_86 rfl hu rfl ?_
              refine Go.iloadN (pc' := 88) d34_87 rfl rfl ?_
              refine Go.callPN (pc' := 91) (W1 := 0) (cells' := 0) (slots' := 0) (argsL := [(.int u), (.int x)]) (rest := []) (y' := (⟨"com/example/pulld/pulld/broker/InFlightDeliveries", "compare", "(II)I"⟩ : MethodName)) (a := d) (i := 0) d34_88 (hw _ (List.mem_of_getElem? (i := 148) rfl)) (hw _ (List.mem_of_getElem? (i := 149) rfl)) (hw _ (List.mem_of_getElem? (i := 150) rfl)) (hw _ (List.mem_of_getElem? (i := 2) rfl)) (hw _ (List.mem_of_getElem? (i := 3) rfl)) (hw _ (List.mem_of_getElem? (i := 151) rfl)) (by decide) rfl (rm22 l Z n0 w0 hw u x d r s aq ao aa av ai ah ab hr hs mx ct us fr sr ss qs os ats vs ids hp tb R S X c hc) (by decide) (by decide) rfl (lenOf pd__28II_29I rfl) rfl (Nat.le_of_eq rfl) (by decide) (by decide) rfl rfl rfl (fun v W' hF => ?_)
              obtain ⟨rfl, rfl⟩ := hF
              refine Go.val ?_
              refine Go.if_ge (pcY := 98) (pcN := 94) d34_91 (by decide) (by decide) rfl (fun hc91 => ?_) (fun hc91 => ?_)
              ·
                rw [if_neg hc91] at h
                refine Go.iconst (pc' := 99) (v := (0 : Int32)) d34_98 rfl rfl ?_
                refine Go.istore (pc' := 101) (ls' := #[.val (.ref s), .val (.int p1), .val (.int i), .val (.int x), .val (.int (0 : Int32)), .val (.int x5)]) d34_99 rfl rfl ?_
                refine Go.iload (pc' := 103) d34_101 rfl rfl ?_
                refine Go.if_eq (pcY := 121) (pcN := 106) d34_103 (by decide) (by decide) rfl (fun hc103 => ?_) (fun hc103 => absurd hc103 (Classical.not_not.mpr rfl))
                refine Go.goto (pc' := 12) d34_121 (by decide) (by decide) ?_
                exact ih _ _ _ _ _ (Or.inr ⟨_, rfl⟩) h
              ·
                rw [if_pos hc91] at h
                obtain ⟨⟨A1, A2⟩, hz, h⟩ := own_bind h
                refine Go.iconst (pc' := 95) (v := (1 : Int32)) d34_94 rfl rfl ?_
                refine Go.goto (pc' := 99) d34_95 (by decide) (by decide) ?_
                refine Go.istore (pc' := 101) (ls' := #[.val (.ref s), .val (.int p1), .val (.int i), .val (.int x), .val (.int (1 : Int32)), .val (.int x5)]) d34_99 rfl rfl ?_
                refine Go.iload (pc' := 103) d34_101 rfl rfl ?_
                refine Go.if_eq (pcY := 121) (pcN := 106) d34_103 (by decide) (by decide) rfl (fun hc103 => absurd hc103 (by decide)) (fun hc103 => ?_)
                refine Go.aloadN (pc' := 107) d34_106 rfl rfl rfl ?_
                refine Go.iloadN (pc' := 108) d34_107 rfl rfl ?_
                refine Go.aloadN (pc' := 109) d34_108 rfl rfl rfl ?_
                refine Go.getF (pc' := 112) (i := 2) (j := 1) (v := (.ref hs)) (host := "") d34_109 (Or.inl (hw _ (List.mem_of_getElem? (i := 20) rfl))) rfl rfl rfl ?_
                refine Go.iload (pc' := 114) d34_112 rfl rfl ?_
                refine Go.ialoadG (pc' := 115) (i := 11) d34_114 rfl hu rfl ?_
                refine Go.callP (pc' := 118) (W1 := 0) (cells' := 0) (slots' := 0) (argsL := [(.int i), (.int u)]) (rest := []) (y' := (⟨"com/example/pulld/pulld/broker/InFlightDeliveries$ByVisibleAt", "place", "(II)V"⟩ : MethodName)) (a := s) (i := 2) d34_115 (hw _ (List.mem_of_getElem? (i := 139) rfl)) (hw _ (List.mem_of_getElem? (i := 140) rfl)) (hw _ (List.mem_of_getElem? (i := 141) rfl)) (hw _ (List.mem_of_getElem? (i := 11) rfl)) (hw _ (List.mem_of_getElem? (i := 12) rfl)) (hw _ (List.mem_of_getElem? (i := 142) rfl)) (by decide) rfl (places l Z n0 w0 hw i u d r s aq ao aa av ai ah ab hr hs mx ct us fr sr ss qs os ats vs ids hp tb R S X A1 A2 hz) (by decide) (by decide) rfl (lenOf pd__28II_29V rfl) rfl (Nat.le_of_eq rfl) (by decide) (by decide) rfl rfl rfl (fun v W' hF => ?_)
                obtain ⟨rfl, rfl⟩ := hF
                refine Go.nov ?_
                refine Go.iload (pc' := 120) d34_118 rfl rfl ?_
                refine Go.istoreN (pc' := 121) (ls' := #[.val (.ref s), .val (.int p1), .val (.int x5), .val (.int x), .val (.int (1 : Int32)), .val (.int x5)]) d34_120 rfl rfl ?_
                refine Go.goto (pc' := 12) d34_121 (by decide) (by decide) ?_
                exact ih _ _ _ _ _ (Or.inr ⟨_, rfl⟩) h
            dsimp only [chF] at hch
            refine Go.iload (pc' := 38) d34_36 rfl rfl ?_
            refine Go.iconst (pc' := 39) (v := (1 : Int32)) d34_38 rfl rfl ?_
            refine Go.iadd (pc' := 40) d34_39 rfl ?_
            refine Go.aloadN (pc' := 41) d34_40 rfl rfl rfl ?_
            refine Go.getF (pc' := 44) (i := 2) (j := 2) (v := (.int ss)) (host := "") d34_41 (Or.inl (hw _ (List.mem_of_getElem? (i := 102) rfl))) rfl rfl rfl ?_
            refine Go.icmp_ge (pcY := 76) (pcN := 47) d34_44 (by decide) (by decide) rfl (fun hc44 => ?_) (fun hc44 => ?_)
            ·
              rw [if_neg hc44] at hch
              exact k76 _ (Option.some.inj hch)
            ·
              rw [if_pos hc44] at hch
              obtain ⟨u1, hu1, hch⟩ := own_bind hch
              obtain ⟨u2, hu2, hch⟩ := own_bind hch
              obtain ⟨k1, hk1, hch⟩ := own_bind hch
              refine Go.aloadN (pc' := 48) d34_47 rfl rfl rfl ?_
              refine Go.getF (pc' := 51) (i := 2) (j := 0) (v := (.ref d)) (host := "") d34_48 (Or.inl (hw _ (List.mem_of_getElem? (i := 16) rfl))) rfl rfl rfl ?_
              refine Go.aloadN (pc' := 52) d34_51 rfl rfl rfl ?_
              refine Go.getF (pc' := 55) (i := 2) (j := 1) (v := (.ref hs)) (host := "") d34_52 (Or.inl (hw _ (List.mem_of_getElem? (i := 20) rfl))) rfl rfl rfl ?_
              refine Go.iload (pc' := 57) d34_55 rfl rfl ?_
              refine Go.iconst (pc' := 58) (v := (1 : Int32)) d34_57 rfl rfl ?_
              refine Go.iadd (pc' := 59) d34_58 rfl ?_
              refine Go.ialoadG (pc' := 60) (i := 11) d34_59 rfl hu1 rfl ?_
              refine Go.aloadN (pc' := 61) d34_60 rfl rfl rfl ?_
              refine Go.getF (pc' := 64) (i := 2) (j := 1) (v := (.ref hs)) (host := "") d34_61 (Or.inl (hw _ (List.mem_of_getElem? (i := 20) rfl))) rfl rfl rfl ?_
              refine Go.iload (pc' := 66) d34_64 rfl rfl ?_
              refine Go.ialoadG (pc' := 67) (i := 11) d34_66 rfl hu2 rfl ?_
              refine Go.callPN (pc' := 70) (W1 := 0) (cells' := 0) (slots' := 0) (argsL := [(.int u1), (.int u2)]) (rest := []) (y' := (⟨"com/example/pulld/pulld/broker/InFlightDeliveries", "compare", "(II)I"⟩ : MethodName)) (a := d) (i := 0) d34_67 (hw _ (List.mem_of_getElem? (i := 148) rfl)) (hw _ (List.mem_of_getElem? (i := 149) rfl)) (hw _ (List.mem_of_getElem? (i := 150) rfl)) (hw _ (List.mem_of_getElem? (i := 2) rfl)) (hw _ (List.mem_of_getElem? (i := 3) rfl)) (hw _ (List.mem_of_getElem? (i := 151) rfl)) (by decide) rfl (rm22 l Z n0 w0 hw u1 u2 d r s aq ao aa av ai ah ab hr hs mx ct us fr sr ss qs os ats vs ids hp tb R S X k1 hk1) (by decide) (by decide) rfl (lenOf pd__28II_29I rfl) rfl (Nat.le_of_eq rfl) (by decide) (by decide) rfl rfl rfl (fun v W' hF => ?_)
              obtain ⟨rfl, rfl⟩ := hF
              refine Go.val ?_
              refine Go.if_ge (pcY := 76) (pcN := 73) d34_70 (by decide) (by decide) rfl (fun hc70 => ?_) (fun hc70 => ?_)
              ·
                rw [if_neg hc70] at hch
                exact k76 _ (Option.some.inj hch)
              ·
                rw [if_pos hc70] at hch
                refine Go.iinc (pc' := 76) (ls' := #[.val (.ref s), .val (.int p1), .val (.int i), .val (.int x), .val (.int sk), .val (.int ((((2 : Int32) * i) + (1 : Int32)) + (1 : Int32)))]) (z := (1 : Int32)) d34_73 rfl rfl rfl rfl ?_
                exact k76 _ (Option.some.inj hch)
      ·
        have k124 : plF S hp i x = some (S', hp') → Go l Z n0 ({ frames := 2, cells := 0, slots := 0, locals := 30 } : Room) prog_14_method_9_code 6 (⟨"com/example/pulld/pulld/broker/InFlightDeliveries$ByVisibleAt", "siftDown", "(I)V"⟩ : MethodName) none D (DW d r s aq ao aa av ai ah ab hr hs mx ct us fr sr ss qs os ats vs ids hp tb R S ++ X) 0 0 124 #[.val (.ref s), .val (.int p1), .val (.int i), .val (.int x), .val (.int sk), .val (.int z5)] [] (fun v W' => v = none ∧ W' = (DW d r s aq ao aa av ai ah ab hr hs mx ct us fr sr ss qs os ats vs ids hp' tb R S' ++ X)) := by
          intro hpl
          refine Go.aloadN (pc' := 125) d34_124 rfl rfl rfl ?_
          refine Go.iloadN (pc' := 126) d34_125 rfl rfl ?_
          refine Go.iloadN (pc' := 127) d34_126 rfl rfl ?_
          refine Go.callP (pc' := 130) (W1 := 0) (cells' := 0) (slots' := 0) (argsL := [(.int i), (.int x)]) (rest := []) (y' := (⟨"com/example/pulld/pulld/broker/InFlightDeliveries$ByVisibleAt", "place", "(II)V"⟩ : MethodName)) (a := s) (i := 2) d34_127 (hw _ (List.mem_of_getElem? (i := 139) rfl)) (hw _ (List.mem_of_getElem? (i := 140) rfl)) (hw _ (List.mem_of_getElem? (i := 141) rfl)) (hw _ (List.mem_of_getElem? (i := 11) rfl)) (hw _ (List.mem_of_getElem? (i := 12) rfl)) (hw _ (List.mem_of_getElem? (i := 142) rfl)) (by decide) rfl (places l Z n0 w0 hw i x d r s aq ao aa av ai ah ab hr hs mx ct us fr sr ss qs os ats vs ids hp tb R S X S' hp' hpl) (by decide) (by decide) rfl (lenOf pd__28II_29V rfl) rfl (Nat.le_of_eq rfl) (by decide) (by decide) rfl rfl rfl (fun v W' hF => ?_)
          obtain ⟨rfl, rfl⟩ := hF
          refine Go.nov ?_
          exact Go.retV d34_130 rfl (by decide) (by decide) ⟨rfl, rfl⟩
        refine Go.iload (pc' := 14) d34_12 rfl rfl ?_
        refine Go.if_eq (pcY := 124) (pcN := 17) d34_14 (by decide) (by decide) rfl (fun hc14 => ?_) (fun hc14 => ?_)
        ·
          rw [if_pos hc14] at h
          exact k124 h
        ·
          rw [if_neg hc14] at h
          refine Go.iconst (pc' := 18) (v := (2 : Int32)) d34_17 rfl rfl ?_
          refine Go.iloadN (pc' := 19) d34_18 rfl rfl ?_
          refine Go.imul (pc' := 20) d34_19 rfl ?_
          refine Go.iconst (pc' := 21) (v := (1 : Int32)) d34_20 rfl rfl ?_
          refine Go.iadd (pc' := 22) d34_21 rfl ?_
          refine Go.aloadN (pc' := 23) d34_22 rfl rfl rfl ?_
          refine Go.getF (pc' := 26) (i := 2) (j := 2) (v := (.int ss)) (host := "") d34_23 (Or.inl (hw _ (List.mem_of_getElem? (i := 102) rfl))) rfl rfl rfl ?_
          refine Go.icmp_ge (pcY := 124) (pcN := 29) d34_26 (by decide) (by decide) rfl (fun hc26 => ?_) (fun hc26 => ?_)
          ·
            rw [if_neg hc26] at h
            exact k124 h
          ·
            rw [if_pos hc26] at h
            obtain ⟨ch, hch, h⟩ := own_bind h
            obtain ⟨u, hu, h⟩ := own_bind h
            obtain ⟨c, hc, h⟩ := own_bind h
            refine Go.iconst (pc' := 30) (v := (2 : Int32)) d34_29 rfl rfl ?_
            refine Go.iloadN (pc' := 31) d34_30 rfl rfl ?_
            refine Go.imul (pc' := 32) d34_31 rfl ?_
            refine Go.iconst (pc' := 33) (v := (1 : Int32)) d34_32 rfl rfl ?_
            refine Go.iadd (pc' := 34) d34_33 rfl ?_
            refine Go.istore (pc' := 36) (ls' := #[.val (.ref s), .val (.int p1), .val (.int i), .val (.int x), .val (.int sk), .val (.int (((2 : Int32) * i) + (1 : Int32)))]) d34_34 rfl rfl ?_
            have k76 : ∀ (x5 : Int32), x5 = ch → Go l Z n0 ({ frames := 2, cells := 0, slots := 0, locals := 30 } : Room) prog_14_method_9_code 6 (⟨"com/example/pulld/pulld/broker/InFlightDeliveries$ByVisibleAt", "siftDown", "(I)V"⟩ : MethodName) none D (DW d r s aq ao aa av ai ah ab hr hs mx ct us fr sr ss qs os ats vs ids hp tb R S ++ X) 0 0 76 #[.val (.ref s), .val (.int p1), .val (.int i), .val (.int x), .val (.int sk), .val (.int x5)] [] (fun v W' => v = none ∧ W' = (DW d r s aq ao aa av ai ah ab hr hs mx ct us fr sr ss qs os ats vs ids hp' tb R S' ++ X)) := by
              intro x5 hx5
              subst hx5
              refine Go.aloadN (pc' := 77) d34_76 rfl rfl rfl ?_
              refine Go.getF (pc' := 80) (i := 2) (j := 0) (v := (.ref d)) (host := "") d34_77 (Or.inl (hw _ (List.mem_of_getElem? (i := 16) rfl))) rfl rfl rfl ?_
              refine Go.aloadN (pc' := 81) d34_80 rfl rfl rfl ?_
              refine Go.getF (pc' := 84) (i := 2) (j := 1) (v := (.ref hs)) (host := "") d34_81 (Or.inl (hw _ (List.mem_of_getElem? (i := 20) rfl))) rfl rfl rfl ?_
              refine Go.iload (pc' := 86) d34_84 rfl rfl ?_
              refine Go.ialoadG (pc' := 87) (i := 11) d34_86 rfl hu rfl ?_
              refine Go.iloadN (pc' := 88) d34_87 rfl rfl ?_
              refine Go.callPN (pc' := 91) (W1 := 0) (cells' := 0) (slots' := 0) (argsL := [(.int u), (.int x)]) (rest := []) (y' := (⟨"com/example/pulld/pulld/broker/InFlightDeliveries", "compare", "(II)I"⟩ : MethodName)) (a := d) (i := 0) d34_88 (hw _ (List.mem_of_getElem? (i := 148) rfl)) (hw _ (List.mem_of_getElem? (i := 149) rfl)) (hw _ (List.mem_of_getElem? (i := 150) rfl)) (hw _ (List.mem_of_getElem? (i := 2) rfl)) (hw _ (List.mem_of_getElem? (i := 3) rfl)) (hw _ (List.mem_of_getElem? (i := 151) rfl)) (by decide) rfl (rm22 l Z n0 w0 hw u x d r s aq ao aa av ai ah ab hr hs mx ct us fr sr ss qs os ats vs ids hp tb R S X c hc) (by decide) (by decide) rfl (lenOf pd__28II_29I rfl) rfl (Nat.le_of_eq rfl) (by decide) (by decide) rfl rfl rfl (fun v W' hF => ?_)
              obtain ⟨rfl, rfl⟩ := hF
              refine Go.val ?_
              refine Go.if_ge (pcY := 98) (pcN := 94) d34_91 (by decide) (by decide) rfl (fun hc91 => ?_) (fun hc91 => ?_)
              ·
                rw [if_neg hc91] at h
                refine Go.iconst (pc' := 99) (v := (0 : Int32)) d34_98 rfl rfl ?_
                refine Go.istore (pc' := 101) (ls' := #[.val (.ref s), .val (.int p1), .val (.int i), .val (.int x), .val (.int (0 : Int32)), .val (.int x5)]) d34_99 rfl rfl ?_
                refine Go.iload (pc' := 103) d34_101 rfl rfl ?_
                refine Go.if_eq (pcY := 121) (pcN := 106) d34_103 (by decide) (by decide) rfl (fun hc103 => ?_) (fun hc103 => absurd hc103 (Classical.not_not.mpr rfl))
                refine Go.goto (pc' := 12) d34_121 (by decide) (by decide) ?_
                exact ih _ _ _ _ _ (Or.inr ⟨_, rfl⟩) h
              ·
                rw [if_pos hc91] at h
                obtain ⟨⟨A1, A2⟩, hz, h⟩ := own_bind h
                refine Go.iconst (pc' := 95) (v := (1 : Int32)) d34_94 rfl rfl ?_
                refine Go.goto (pc' := 99) d34_95 (by decide) (by decide) ?_
                refine Go.istore (pc' := 101) (ls' := #[.val (.ref s), .val (.int p1), .val (.int i), .val (.int x), .val (.int (1 : Int32)), .val (.int x5)]) d34_99 rfl rfl ?_
                refine Go.iload (pc' := 103) d34_101 rfl rfl ?_
                refine Go.if_eq (pcY := 121) (pcN := 106) d34_103 (by decide) (by decide) rfl (fun hc103 => absurd hc103 (by decide)) (fun hc103 => ?_)
                refine Go.aloadN (pc' := 107) d34_106 rfl rfl rfl ?_
                refine Go.iloadN (pc' := 108) d34_107 rfl rfl ?_
                refine Go.aloadN (pc' := 109) d34_108 rfl rfl rfl ?_
                refine Go.getF (pc' := 112) (i := 2) (j := 1) (v := (.ref hs)) (host := "") d34_109 (Or.inl (hw _ (List.mem_of_getElem? (i := 20) rfl))) rfl rfl rfl ?_
                refine Go.iload (pc' := 114) d34_112 rfl rfl ?_
                refine Go.ialoadG (pc' := 115) (i := 11) d34_114 rfl hu rfl ?_
                refine Go.callP (pc' := 118) (W1 := 0) (cells' := 0) (slots' := 0) (argsL := [(.int i), (.int u)]) (rest := []) (y' := (⟨"com/example/pulld/pulld/broker/InFlightDeliveries$ByVisibleAt", "place", "(II)V"⟩ : MethodName)) (a := s) (i := 2) d34_115 (hw _ (List.mem_of_getElem? (i := 139) rfl)) (hw _ (List.mem_of_getElem? (i := 140) rfl)) (hw _ (List.mem_of_getElem? (i := 141) rfl)) (hw _ (List.mem_of_getElem? (i := 11) rfl)) (hw _ (List.mem_of_getElem? (i := 12) rfl)) (hw _ (List.mem_of_getElem? (i := 142) rfl)) (by decide) rfl (places l Z n0 w0 hw i u d r s aq ao aa av ai ah ab hr hs mx ct us fr sr ss qs os ats vs ids hp tb R S X A1 A2 hz) (by decide) (by decide) rfl (lenOf pd__28II_29V rfl) rfl (Nat.le_of_eq rfl) (by decide) (by decide) rfl rfl rfl (fun v W' hF => ?_)
                obtain ⟨rfl, rfl⟩ := hF
                refine Go.nov ?_
                refine Go.iload (pc' := 120) d34_118 rfl rfl ?_
                refine Go.istoreN (pc' := 121) (ls' := #[.val (.ref s), .val (.int p1), .val (.int x5), .val (.int x), .val (.int (1 : Int32)), .val (.int x5)]) d34_120 rfl rfl ?_
                refine Go.goto (pc' := 12) d34_121 (by decide) (by decide) ?_
                exact ih _ _ _ _ _ (Or.inr ⟨_, rfl⟩) h
            dsimp only [chF] at hch
            refine Go.iload (pc' := 38) d34_36 rfl rfl ?_
            refine Go.iconst (pc' := 39) (v := (1 : Int32)) d34_38 rfl rfl ?_
            refine Go.iadd (pc' := 40) d34_39 rfl ?_
            refine Go.aloadN (pc' := 41) d34_40 rfl rfl rfl ?_
            refine Go.getF (pc' := 44) (i := 2) (j := 2) (v := (.int ss)) (host := "") d34_41 (Or.inl (hw _ (List.mem_of_getElem? (i := 102) rfl))) rfl rfl rfl ?_
            refine Go.icmp_ge (pcY := 76) (pcN := 47) d34_44 (by decide) (by decide) rfl (fun hc44 => ?_) (fun hc44 => ?_)
            ·
              rw [if_neg hc44] at hch
              exact k76 _ (Option.some.inj hch)
            ·
              rw [if_pos hc44] at hch
              obtain ⟨u1, hu1, hch⟩ := own_bind hch
              obtain ⟨u2, hu2, hch⟩ := own_bind hch
              obtain ⟨k1, hk1, hch⟩ := own_bind hch
              refine Go.aloadN (pc' := 48) d34_47 rfl rfl rfl ?_
              refine Go.getF (pc' := 51) (i := 2) (j := 0) (v := (.ref d)) (host := "") d34_48 (Or.inl (hw _ (List.mem_of_getElem? (i := 16) rfl))) rfl rfl rfl ?_
              refine Go.aloadN (pc' := 52) d34_51 rfl rfl rfl ?_
              refine Go.getF (pc' := 55) (i := 2) (j := 1) (v := (.ref hs)) (host := "") d34_52 (Or.inl (hw _ (List.mem_of_getElem? (i := 20) rfl))) rfl rfl rfl ?_
              refine Go.iload (pc' := 57) d34_55 rfl rfl ?_
              refine Go.iconst (pc' := 58) (v := (1 : Int32)) d34_57 rfl rfl ?_
              refine Go.iadd (pc' := 59) d34_58 rfl ?_
              refine Go.ialoadG (pc' := 60) (i := 11) d34_59 rfl hu1 rfl ?_
              refine Go.aloadN (pc' := 61) d34_60 rfl rfl rfl ?_
              refine Go.getF (pc' := 64) (i := 2) (j := 1) (v := (.ref hs)) (host := "") d34_61 (Or.inl (hw _ (List.mem_of_getElem? (i := 20) rfl))) rfl rfl rfl ?_
              refine Go.iload (pc' := 66) d34_64 rfl rfl ?_
              refine Go.ialoadG (pc' := 67) (i := 11) d34_66 rfl hu2 rfl ?_
              refine Go.callPN (pc' := 70) (W1 := 0) (cells' := 0) (slots' := 0) (argsL := [(.int u1), (.int u2)]) (rest := []) (y' := (⟨"com/example/pulld/pulld/broker/InFlightDeliveries", "compare", "(II)I"⟩ : MethodName)) (a := d) (i := 0) d34_67 (hw _ (List.mem_of_getElem? (i := 148) rfl)) (hw _ (List.mem_of_getElem? (i := 149) rfl)) (hw _ (List.mem_of_getElem? (i := 150) rfl)) (hw _ (List.mem_of_getElem? (i := 2) rfl)) (hw _ (List.mem_of_getElem? (i := 3) rfl)) (hw _ (List.mem_of_getElem? (i := 151) rfl)) (by decide) rfl (rm22 l Z n0 w0 hw u1 u2 d r s aq ao aa av ai ah ab hr hs mx ct us fr sr ss qs os ats vs ids hp tb R S X k1 hk1) (by decide) (by decide) rfl (lenOf pd__28II_29I rfl) rfl (Nat.le_of_eq rfl) (by decide) (by decide) rfl rfl rfl (fun v W' hF => ?_)
              obtain ⟨rfl, rfl⟩ := hF
              refine Go.val ?_
              refine Go.if_ge (pcY := 76) (pcN := 73) d34_70 (by decide) (by decide) rfl (fun hc70 => ?_) (fun hc70 => ?_)
              ·
                rw [if_neg hc70] at hch
                exact k76 _ (Option.some.inj hch)
              ·
                rw [if_pos hc70] at hch
                refine Go.iinc (pc' := 76) (ls' := #[.val (.ref s), .val (.int p1), .val (.int i), .val (.int x), .val (.int sk), .val (.int ((((2 : Int32) * i) + (1 : Int32)) + (1 : Int32)))]) (z := (1 : Int32)) d34_73 rfl rfl rfl rfl ?_
                exact k76 _ (Option.some.inj hch)
  refine Go.iloadN (pc' := 1) d34_0 rfl rfl ?_
  refine Go.istoreN (pc' := 2) (ls' := #[.val (.ref s), .val (.int p1), .val (.int p1), .unset, .unset, .unset]) d34_1 rfl rfl ?_
  refine Go.aloadN (pc' := 3) d34_2 rfl rfl rfl ?_
  refine Go.getF (pc' := 6) (i := 2) (j := 1) (v := (.ref hs)) (host := "") d34_3 (Or.inl (hw _ (List.mem_of_getElem? (i := 20) rfl))) rfl rfl rfl ?_
  refine Go.iloadN (pc' := 7) d34_6 rfl rfl ?_
  refine Go.ialoadG (pc' := 8) (i := 11) d34_7 rfl hx rfl ?_
  refine Go.istoreN (pc' := 9) (ls' := #[.val (.ref s), .val (.int p1), .val (.int p1), .val (.int x), .unset, .unset]) d34_8 rfl rfl ?_
  refine Go.iconst (pc' := 10) (v := (1 : Int32)) d34_9 rfl rfl ?_
  refine Go.istore (pc' := 12) (ls' := #[.val (.ref s), .val (.int p1), .val (.int p1), .val (.int x), .val (.int (1 : Int32)), .unset]) d34_10 rfl rfl ?_
  exact k12 4 _ _ _ _ _ (Or.inl rfl) hF
set_option maxRecDepth 65536 in
set_option maxHeartbeats 40000000 in
theorem adds (l : Launch) (Z : State) (n0 : Nat) (w0 : Array Value) (hw : ∀ d ∈ tables_1, d.before w0 Z = true) (p1 : Int32) (d r s aq ao aa av ai ah ab hr hs : Addr) (mx ct us fr sr ss : Int32) (qs : List Int32) (os : List Int64) (ats : List Int32) (vs ids : List Int64) (hp tb R S : List Int32) (X : Wld) (S' hp' : List Int32) (hF : addH (cmpS qs os vs) S hp ss p1 = some (S', hp')) :
    Meets l Z n0 (⟨"com/example/pulld/pulld/broker/InFlightDeliveries$ByVisibleAt", "add", "(I)V"⟩ : MethodName) prog_14_method_4_code 2 none ({ frames := 3, cells := 0, slots := 0, locals := 45 } : Room) [] #[(.ref s), (.int p1)] (DW d r s aq ao aa av ai ah ab hr hs mx ct us fr sr ss qs os ats vs ids hp tb R S ++ X) (fun v W' => v = none ∧ W' = (DW d r s aq ao aa av ai ah ab hr hs mx ct us fr sr (ss + (1 : Int32)) qs os ats vs ids hp' tb R S' ++ X)) := by
  refine Meets.of_go (ls := #[.val (.ref s), .val (.int p1)]) (plainFor_of_name (by first | (simp [plainName, overriddenIn]; done) | decide +kernel)) (fun m => by first | (simp [entryFrame, mkF, argsToLocals, Value.category, maxLocals]; done) | rfl) (fun D => ?_)
  dsimp only [addH] at hF
  obtain ⟨⟨A1, A2⟩, hz, hF⟩ := own_bind hF
  refine Go.aloadN (pc' := 1) d19_0 rfl rfl rfl ?_
  refine Go.aloadN (pc' := 2) d19_1 rfl rfl rfl ?_
  refine Go.dup (pc' := 3) d19_2 rfl rfl ?_
  refine Go.getF (pc' := 6) (i := 2) (j := 2) (v := (.int ss)) (host := "") d19_3 (Or.inl (hw _ (List.mem_of_getElem? (i := 102) rfl))) rfl rfl rfl ?_
  refine Go.dupX1 (pc' := 7) d19_6 rfl rfl rfl ?_
  refine Go.iconst (pc' := 8) (v := (1 : Int32)) d19_7 rfl rfl ?_
  refine Go.iadd (pc' := 9) d19_8 rfl ?_
  refine Go.putF (pc' := 12) (i := 2) (j := 2) (ty := .int) (W' := (DW d r s aq ao aa av ai ah ab hr hs mx ct us fr sr (ss + (1 : Int32)) qs os ats vs ids hp tb R S ++ X)) (host := "") d19_9 (Or.inl (hw _ (List.mem_of_getElem? (i := 102) rfl))) (Or.inl (hw _ (List.mem_of_getElem? (i := 103) rfl))) (hw _ (List.mem_of_getElem? (i := 11) rfl)) rfl rfl (by decide) rfl rfl rfl rfl ?_
  refine Go.iloadN (pc' := 13) d19_12 rfl rfl ?_
  refine Go.callP (pc' := 16) (W1 := 0) (cells' := 0) (slots' := 0) (argsL := [(.int ss), (.int p1)]) (rest := []) (y' := (⟨"com/example/pulld/pulld/broker/InFlightDeliveries$ByVisibleAt", "place", "(II)V"⟩ : MethodName)) (a := s) (i := 2) d19_13 (hw _ (List.mem_of_getElem? (i := 139) rfl)) (hw _ (List.mem_of_getElem? (i := 140) rfl)) (hw _ (List.mem_of_getElem? (i := 141) rfl)) (hw _ (List.mem_of_getElem? (i := 11) rfl)) (hw _ (List.mem_of_getElem? (i := 12) rfl)) (hw _ (List.mem_of_getElem? (i := 142) rfl)) (by decide) rfl (places l Z n0 w0 hw ss p1 d r s aq ao aa av ai ah ab hr hs mx ct us fr sr (ss + (1 : Int32)) qs os ats vs ids hp tb R S X A1 A2 hz) (by decide) (by decide) rfl (lenOf pd__28II_29V rfl) rfl (Nat.le_of_eq rfl) (by decide) (by decide) rfl rfl rfl (fun v W' hF => ?_)
  obtain ⟨rfl, rfl⟩ := hF
  refine Go.nov ?_
  refine Go.aloadN (pc' := 17) d19_16 rfl rfl rfl ?_
  refine Go.aloadN (pc' := 18) d19_17 rfl rfl rfl ?_
  refine Go.getF (pc' := 21) (i := 2) (j := 2) (v := (.int (ss + (1 : Int32)))) (host := "") d19_18 (Or.inl (hw _ (List.mem_of_getElem? (i := 102) rfl))) rfl rfl rfl ?_
  refine Go.iconst (pc' := 22) (v := (1 : Int32)) d19_21 rfl rfl ?_
  refine Go.isub (pc' := 23) d19_22 rfl ?_
  refine Go.callP (pc' := 26) (W1 := 0) (cells' := 0) (slots' := 0) (argsL := [(.int ((ss + (1 : Int32)) - (1 : Int32)))]) (rest := []) (y' := (⟨"com/example/pulld/pulld/broker/InFlightDeliveries$ByVisibleAt", "siftUp", "(I)V"⟩ : MethodName)) (a := s) (i := 2) d19_23 (hw _ (List.mem_of_getElem? (i := 144) rfl)) (hw _ (List.mem_of_getElem? (i := 145) rfl)) (hw _ (List.mem_of_getElem? (i := 146) rfl)) (hw _ (List.mem_of_getElem? (i := 11) rfl)) (hw _ (List.mem_of_getElem? (i := 12) rfl)) (hw _ (List.mem_of_getElem? (i := 147) rfl)) (by decide) rfl (siftUps l Z n0 w0 hw ((ss + (1 : Int32)) - (1 : Int32)) d r s aq ao aa av ai ah ab hr hs mx ct us fr sr (ss + (1 : Int32)) qs os ats vs ids A2 tb R A1 X S' hp' hF) (by decide) (by decide) rfl (lenOf pd__28I_29V rfl) rfl (Nat.le_of_eq rfl) (by decide) (by decide) rfl rfl rfl (fun v W' hF => ?_)
  obtain ⟨rfl, rfl⟩ := hF
  refine Go.nov ?_
  exact Go.retV d19_26 rfl (by decide) (by decide) ⟨rfl, rfl⟩
set_option maxRecDepth 65536 in
set_option maxHeartbeats 40000000 in
theorem rems (l : Launch) (Z : State) (n0 : Nat) (w0 : Array Value) (hw : ∀ d ∈ tables_1, d.before w0 Z = true) (p1 : Int32) (d r s aq ao aa av ai ah ab hr hs : Addr) (mx ct us fr sr ss : Int32) (qs : List Int32) (os : List Int64) (ats : List Int32) (vs ids : List Int64) (hp tb R S : List Int32) (X : Wld) (S' hp' : List Int32) (hF : remH (cmpS qs os vs) S hp ss p1 = some (S', hp')) :
    Meets l Z n0 (⟨"com/example/pulld/pulld/broker/InFlightDeliveries$ByVisibleAt", "remove", "(I)V"⟩ : MethodName) prog_14_method_6_code 4 none ({ frames := 3, cells := 0, slots := 0, locals := 47 } : Room) [] #[(.ref s), (.int p1)] (DW d r s aq ao aa av ai ah ab hr hs mx ct us fr sr ss qs os ats vs ids hp tb R S ++ X) (fun v W' => v = none ∧ W' = (DW d r s aq ao aa av ai ah ab hr hs mx ct us fr sr (ss - (1 : Int32)) qs os ats vs ids hp' tb R S' ++ X)) := by
  refine Meets.of_go (ls := #[.val (.ref s), .val (.int p1), .unset, .unset]) (plainFor_of_name (by first | (simp [plainName, overriddenIn]; done) | decide +kernel)) (fun m => by first | (simp [entryFrame, mkF, argsToLocals, Value.category, maxLocals]; done) | rfl) (fun D => ?_)
  dsimp only [remH] at hF
  obtain ⟨i, hi, hF⟩ := own_bind hF
  obtain ⟨la, hla, hF⟩ := own_bind hF
  refine Go.aloadN (pc' := 1) d25_0 rfl rfl rfl ?_
  refine Go.getF (pc' := 4) (i := 2) (j := 0) (v := (.ref d)) (host := "") d25_1 (Or.inl (hw _ (List.mem_of_getElem? (i := 16) rfl))) rfl rfl rfl ?_
  refine Go.getF (pc' := 7) (i := 0) (j := 11) (v := (.ref ah))  d25_4 (Or.inr (hw _ (List.mem_of_getElem? (i := 143) rfl))) rfl rfl rfl ?_
  refine Go.iloadN (pc' := 8) d25_7 rfl rfl ?_
  refine Go.ialoadG (pc' := 9) (i := 8) d25_8 rfl hi rfl ?_
  refine Go.istoreN (pc' := 10) (ls' := #[.val (.ref s), .val (.int p1), .val (.int i), .unset]) d25_9 rfl rfl ?_
  refine Go.aloadN (pc' := 11) d25_10 rfl rfl rfl ?_
  refine Go.getF (pc' := 14) (i := 2) (j := 1) (v := (.ref hs)) (host := "") d25_11 (Or.inl (hw _ (List.mem_of_getElem? (i := 20) rfl))) rfl rfl rfl ?_
  refine Go.aloadN (pc' := 15) d25_14 rfl rfl rfl ?_
  refine Go.dup (pc' := 16) d25_15 rfl rfl ?_
  refine Go.getF (pc' := 19) (i := 2) (j := 2) (v := (.int ss)) (host := "") d25_16 (Or.inl (hw _ (List.mem_of_getElem? (i := 102) rfl))) rfl rfl rfl ?_
  refine Go.iconst (pc' := 20) (v := (1 : Int32)) d25_19 rfl rfl ?_
  refine Go.isub (pc' := 21) d25_20 rfl ?_
  refine Go.dupX1 (pc' := 22) d25_21 rfl rfl rfl ?_
  refine Go.putF (pc' := 25) (i := 2) (j := 2) (ty := .int) (W' := (DW d r s aq ao aa av ai ah ab hr hs mx ct us fr sr (ss - (1 : Int32)) qs os ats vs ids hp tb R S ++ X)) (host := "") d25_22 (Or.inl (hw _ (List.mem_of_getElem? (i := 102) rfl))) (Or.inl (hw _ (List.mem_of_getElem? (i := 103) rfl))) (hw _ (List.mem_of_getElem? (i := 11) rfl)) rfl rfl (by decide) rfl rfl rfl rfl ?_
  refine Go.ialoadG (pc' := 26) (i := 11) d25_25 rfl hla rfl ?_
  refine Go.istoreN (pc' := 27) (ls' := #[.val (.ref s), .val (.int p1), .val (.int i), .val (.int la)]) d25_26 rfl rfl ?_
  refine Go.iloadN (pc' := 28) d25_27 rfl rfl ?_
  refine Go.aloadN (pc' := 29) d25_28 rfl rfl rfl ?_
  refine Go.getF (pc' := 32) (i := 2) (j := 2) (v := (.int (ss - (1 : Int32)))) (host := "") d25_29 (Or.inl (hw _ (List.mem_of_getElem? (i := 102) rfl))) rfl rfl rfl ?_
  refine Go.icmp_ge (pcY := 59) (pcN := 35) d25_32 (by decide) (by decide) rfl (fun hc32 => ?_) (fun hc32 => ?_)
  ·
    rw [if_neg hc32] at hF
    obtain ⟨e1, e2⟩ := Prod.mk.inj (Option.some.inj hF)
    exact Go.retV d25_59 rfl (by decide) (by decide) ⟨rfl, by rw [e1, e2]⟩
  ·
    rw [if_pos hc32] at hF
    obtain ⟨⟨A1, A2⟩, hz, hF⟩ := own_bind hF
    obtain ⟨⟨A3, A4⟩, hz2, hF⟩ := own_bind hF
    obtain ⟨j, hj, hF⟩ := own_bind hF
    refine Go.aloadN (pc' := 36) d25_35 rfl rfl rfl ?_
    refine Go.iloadN (pc' := 37) d25_36 rfl rfl ?_
    refine Go.iloadN (pc' := 38) d25_37 rfl rfl ?_
    refine Go.callP (pc' := 41) (W1 := 0) (cells' := 0) (slots' := 0) (argsL := [(.int i), (.int la)]) (rest := []) (y' := (⟨"com/example/pulld/pulld/broker/InFlightDeliveries$ByVisibleAt", "place", "(II)V"⟩ : MethodName)) (a := s) (i := 2) d25_38 (hw _ (List.mem_of_getElem? (i := 139) rfl)) (hw _ (List.mem_of_getElem? (i := 140) rfl)) (hw _ (List.mem_of_getElem? (i := 141) rfl)) (hw _ (List.mem_of_getElem? (i := 11) rfl)) (hw _ (List.mem_of_getElem? (i := 12) rfl)) (hw _ (List.mem_of_getElem? (i := 142) rfl)) (by decide) rfl (places l Z n0 w0 hw i la d r s aq ao aa av ai ah ab hr hs mx ct us fr sr (ss - (1 : Int32)) qs os ats vs ids hp tb R S X A1 A2 hz) (by decide) (by decide) rfl (lenOf pd__28II_29V rfl) rfl (Nat.le_of_eq rfl) (by decide) (by decide) rfl rfl rfl (fun v W' hF => ?_)
    obtain ⟨rfl, rfl⟩ := hF
    refine Go.nov ?_
    refine Go.aloadN (pc' := 42) d25_41 rfl rfl rfl ?_
    refine Go.iloadN (pc' := 43) d25_42 rfl rfl ?_
    refine Go.callP (pc' := 46) (W1 := 0) (cells' := 0) (slots' := 0) (argsL := [(.int i)]) (rest := []) (y' := (⟨"com/example/pulld/pulld/broker/InFlightDeliveries$ByVisibleAt", "siftUp", "(I)V"⟩ : MethodName)) (a := s) (i := 2) d25_43 (hw _ (List.mem_of_getElem? (i := 144) rfl)) (hw _ (List.mem_of_getElem? (i := 145) rfl)) (hw _ (List.mem_of_getElem? (i := 146) rfl)) (hw _ (List.mem_of_getElem? (i := 11) rfl)) (hw _ (List.mem_of_getElem? (i := 12) rfl)) (hw _ (List.mem_of_getElem? (i := 147) rfl)) (by decide) rfl (siftUps l Z n0 w0 hw i d r s aq ao aa av ai ah ab hr hs mx ct us fr sr (ss - (1 : Int32)) qs os ats vs ids A2 tb R A1 X A3 A4 hz2) (by decide) (by decide) rfl (lenOf pd__28I_29V rfl) rfl (Nat.le_of_eq rfl) (by decide) (by decide) rfl rfl rfl (fun v W' hF => ?_)
    obtain ⟨rfl, rfl⟩ := hF
    refine Go.nov ?_
    refine Go.aloadN (pc' := 47) d25_46 rfl rfl rfl ?_
    refine Go.aloadN (pc' := 48) d25_47 rfl rfl rfl ?_
    refine Go.getF (pc' := 51) (i := 2) (j := 0) (v := (.ref d)) (host := "") d25_48 (Or.inl (hw _ (List.mem_of_getElem? (i := 16) rfl))) rfl rfl rfl ?_
    refine Go.getF (pc' := 54) (i := 0) (j := 11) (v := (.ref ah))  d25_51 (Or.inr (hw _ (List.mem_of_getElem? (i := 143) rfl))) rfl rfl rfl ?_
    refine Go.iloadN (pc' := 55) d25_54 rfl rfl ?_
    refine Go.ialoadG (pc' := 56) (i := 8) d25_55 rfl hj rfl ?_
    refine Go.callP (pc' := 59) (W1 := 0) (cells' := 0) (slots' := 0) (argsL := [(.int j)]) (rest := []) (y' := (⟨"com/example/pulld/pulld/broker/InFlightDeliveries$ByVisibleAt", "siftDown", "(I)V"⟩ : MethodName)) (a := s) (i := 2) d25_56 (hw _ (List.mem_of_getElem? (i := 204) rfl)) (hw _ (List.mem_of_getElem? (i := 205) rfl)) (hw _ (List.mem_of_getElem? (i := 206) rfl)) (hw _ (List.mem_of_getElem? (i := 11) rfl)) (hw _ (List.mem_of_getElem? (i := 12) rfl)) (hw _ (List.mem_of_getElem? (i := 207) rfl)) (by decide) rfl (siftDowns l Z n0 w0 hw j d r s aq ao aa av ai ah ab hr hs mx ct us fr sr (ss - (1 : Int32)) qs os ats vs ids A4 tb R A3 X S' hp' hF) (by decide) (by decide) rfl (lenOf pd__28I_29V rfl) rfl (Nat.le_of_eq rfl) (by decide) (by decide) rfl rfl rfl (fun v W' hF => ?_)
    obtain ⟨rfl, rfl⟩ := hF
    refine Go.nov ?_
    exact Go.retV d25_59 rfl (by decide) (by decide) ⟨rfl, rfl⟩
set_option maxRecDepth 65536 in
set_option maxHeartbeats 40000000 in
theorem clears (l : Launch) (Z : State) (n0 : Nat) (w0 : Array Value) (hw : ∀ d ∈ tables_1, d.before w0 Z = true) (d r s aq ao aa av ai ah ab hr hs : Addr) (mx ct us fr sr ss : Int32) (qs : List Int32) (os : List Int64) (ats : List Int32) (vs ids : List Int64) (hp tb R S : List Int32) (X : Wld) :
    Meets l Z n0 (⟨"com/example/pulld/pulld/broker/InFlightDeliveries$ByVisibleAt", "clear", "()V"⟩ : MethodName) prog_14_method_5_code 1 none ({ frames := 0, cells := 0, slots := 0, locals := 0 } : Room) [] #[(.ref s)] (DW d r s aq ao aa av ai ah ab hr hs mx ct us fr sr ss qs os ats vs ids hp tb R S ++ X) (fun v W' => v = none ∧ W' = (DW d r s aq ao aa av ai ah ab hr hs mx ct us fr sr (0 : Int32) qs os ats vs ids hp tb R S ++ X)) := by
  refine Meets.of_go (ls := #[.val (.ref s)]) (plainFor_of_name (by first | (simp [plainName, overriddenIn]; done) | decide +kernel)) (fun m => by first | (simp [entryFrame, mkF, argsToLocals, Value.category, maxLocals]; done) | rfl) (fun D => ?_)
  refine Go.aloadN (pc' := 1) d36_0 rfl rfl rfl ?_
  refine Go.iconst (pc' := 2) (v := (0 : Int32)) d36_1 rfl rfl ?_
  refine Go.putF (pc' := 5) (i := 2) (j := 2) (ty := .int) (W' := (DW d r s aq ao aa av ai ah ab hr hs mx ct us fr sr (0 : Int32) qs os ats vs ids hp tb R S ++ X)) (host := "") d36_2 (Or.inl (hw _ (List.mem_of_getElem? (i := 102) rfl))) (Or.inl (hw _ (List.mem_of_getElem? (i := 103) rfl))) (hw _ (List.mem_of_getElem? (i := 11) rfl)) rfl rfl (by decide) rfl rfl rfl rfl ?_
  exact Go.retV d36_5 rfl (by decide) (by decide) ⟨rfl, rfl⟩
set_option maxRecDepth 65536 in
set_option maxHeartbeats 40000000 in
theorem first0s (l : Launch) (Z : State) (n0 : Nat) (w0 : Array Value) (hw : ∀ d ∈ tables_1, d.before w0 Z = true) (d r s aq ao aa av ai ah ab hr hs : Addr) (mx ct us fr sr ss : Int32) (qs : List Int32) (os : List Int64) (ats : List Int32) (vs ids : List Int64) (hp tb R S : List Int32) (X : Wld) (hz : ss = 0) :
    Meets l Z n0 (⟨"com/example/pulld/pulld/broker/InFlightDeliveries$ByVisibleAt", "firstAt", "()J"⟩ : MethodName) prog_14_method_2_code 1 (some .long) ({ frames := 0, cells := 0, slots := 0, locals := 0 } : Room) [] #[(.ref s)] (DW d r s aq ao aa av ai ah ab hr hs mx ct us fr sr ss qs os ats vs ids hp tb R S ++ X) (fun v W' => v = some (.long (9223372036854775807 : Int64)) ∧ W' = (DW d r s aq ao aa av ai ah ab hr hs mx ct us fr sr ss qs os ats vs ids hp tb R S ++ X)) := by
  refine Meets.of_go (ls := #[.val (.ref s)]) (plainFor_of_name (by first | (simp [plainName, overriddenIn]; done) | decide +kernel)) (fun m => by first | (simp [entryFrame, mkF, argsToLocals, Value.category, maxLocals]; done) | rfl) (fun D => ?_)
  refine Go.aloadN (pc' := 1) d31_0 rfl rfl rfl ?_
  refine Go.getF (pc' := 4) (i := 2) (j := 2) (v := (.int ss)) (host := "") d31_1 (Or.inl (hw _ (List.mem_of_getElem? (i := 102) rfl))) rfl rfl rfl ?_
  refine Go.if_ne (pcY := 13) (pcN := 7) d31_4 (by decide) (by decide) rfl (fun hc4 => absurd hc4 (Classical.not_not.mpr hz)) (fun hc4 => ?_)
  refine Go.ldcL (pc' := 10) (v := (9223372036854775807 : Int64)) d31_7 (hw _ (List.mem_of_getElem? (i := 192) rfl)) rfl ?_
  refine Go.goto (pc' := 27) d31_10 (by decide) (by decide) ?_
  exact Go.retJ d31_27 rfl (by decide) (by decide) ⟨rfl, rfl⟩
set_option maxRecDepth 65536 in
set_option maxHeartbeats 40000000 in
theorem first1s (l : Launch) (Z : State) (n0 : Nat) (w0 : Array Value) (hw : ∀ d ∈ tables_1, d.before w0 Z = true) (d r s aq ao aa av ai ah ab hr hs : Addr) (mx ct us fr sr ss : Int32) (qs : List Int32) (os : List Int64) (ats : List Int32) (vs ids : List Int64) (hp tb R S : List Int32) (X : Wld) (xq : Int32) (vq : Int64) (hz : ¬ ss = 0) (hx : rdA S 0 = some xq) (hv : rdA vs xq = some vq) :
    Meets l Z n0 (⟨"com/example/pulld/pulld/broker/InFlightDeliveries$ByVisibleAt", "firstAt", "()J"⟩ : MethodName) prog_14_method_2_code 1 (some .long) ({ frames := 0, cells := 0, slots := 0, locals := 0 } : Room) [] #[(.ref s)] (DW d r s aq ao aa av ai ah ab hr hs mx ct us fr sr ss qs os ats vs ids hp tb R S ++ X) (fun v W' => v = some (.long vq) ∧ W' = (DW d r s aq ao aa av ai ah ab hr hs mx ct us fr sr ss qs os ats vs ids hp tb R S ++ X)) := by
  refine Meets.of_go (ls := #[.val (.ref s)]) (plainFor_of_name (by first | (simp [plainName, overriddenIn]; done) | decide +kernel)) (fun m => by first | (simp [entryFrame, mkF, argsToLocals, Value.category, maxLocals]; done) | rfl) (fun D => ?_)
  refine Go.aloadN (pc' := 1) d31_0 rfl rfl rfl ?_
  refine Go.getF (pc' := 4) (i := 2) (j := 2) (v := (.int ss)) (host := "") d31_1 (Or.inl (hw _ (List.mem_of_getElem? (i := 102) rfl))) rfl rfl rfl ?_
  refine Go.if_ne (pcY := 13) (pcN := 7) d31_4 (by decide) (by decide) rfl (fun hc4 => ?_) (fun hc4 => absurd hc4 hz)
  refine Go.aloadN (pc' := 14) d31_13 rfl rfl rfl ?_
  refine Go.getF (pc' := 17) (i := 2) (j := 0) (v := (.ref d)) (host := "") d31_14 (Or.inl (hw _ (List.mem_of_getElem? (i := 16) rfl))) rfl rfl rfl ?_
  refine Go.getF (pc' := 20) (i := 0) (j := 9) (v := (.ref av))  d31_17 (Or.inr (hw _ (List.mem_of_getElem? (i := 198) rfl))) rfl rfl rfl ?_
  refine Go.aloadN (pc' := 21) d31_20 rfl rfl rfl ?_
  refine Go.getF (pc' := 24) (i := 2) (j := 1) (v := (.ref hs)) (host := "") d31_21 (Or.inl (hw _ (List.mem_of_getElem? (i := 20) rfl))) rfl rfl rfl ?_
  refine Go.iconst (pc' := 25) (v := (0 : Int32)) d31_24 rfl rfl ?_
  refine Go.ialoadG (pc' := 26) (i := 11) d31_25 rfl hx rfl ?_
  refine Go.laloadG (pc' := 27) (i := 6) d31_26 rfl hv rfl ?_
  exact Go.retJ d31_27 rfl (by decide) (by decide) ⟨rfl, rfl⟩
def t3 (a b c : Int32) : List Int32 := [a, b, c, 0, 0, 0, 0, 0, 0, 0, 0, 0]
def u3 (a b c : Int64) : List Int64 := [a, b, c, 0, 0, 0, 0, 0, 0, 0, 0, 0]
theorem d10_0 : decode prog_12_method_13_code 0 = .ok (.aload_n 0, 1) := by decide +kernel
theorem d10_1 : decode prog_12_method_13_code 1 = .ok (.getfield 21, 3) := by decide +kernel
theorem d10_4 : decode prog_12_method_13_code 4 = .ok (.ifCond .lt 21, 3) := by decide +kernel
theorem d10_25 : decode prog_12_method_13_code 25 = .ok (.aload_n 0, 1) := by decide +kernel
theorem d10_26 : decode prog_12_method_13_code 26 = .ok (.getfield 57, 3) := by decide +kernel
theorem d10_29 : decode prog_12_method_13_code 29 = .ok (.aload_n 0, 1) := by decide +kernel
theorem d10_30 : decode prog_12_method_13_code 30 = .ok (.getfield 25, 3) := by decide +kernel
theorem d10_33 : decode prog_12_method_13_code 33 = .ok (.arraylength, 1) := by decide +kernel
theorem d10_34 : decode prog_12_method_13_code 34 = .ok (.if_icmp .ne 31, 3) := by decide +kernel
theorem d10_65 : decode prog_12_method_13_code 65 = .ok (.aload_n 0, 1) := by decide +kernel
theorem d10_66 : decode prog_12_method_13_code 66 = .ok (.dup, 1) := by decide +kernel
theorem d10_67 : decode prog_12_method_13_code 67 = .ok (.getfield 57, 3) := by decide +kernel
theorem d10_70 : decode prog_12_method_13_code 70 = .ok (.dup_x1, 1) := by decide +kernel
theorem d10_71 : decode prog_12_method_13_code 71 = .ok (.iconst 1, 1) := by decide +kernel
theorem d10_72 : decode prog_12_method_13_code 72 = .ok (.iadd, 1) := by decide +kernel
theorem d10_73 : decode prog_12_method_13_code 73 = .ok (.putfield 57, 3) := by decide +kernel
theorem d10_76 : decode prog_12_method_13_code 76 = .ok (.istore_n 1, 1) := by decide +kernel
theorem d10_77 : decode prog_12_method_13_code 77 = .ok (.iload_n 1, 1) := by decide +kernel
theorem d10_78 : decode prog_12_method_13_code 78 = .ok (.ireturn, 1) := by decide +kernel
set_option maxRecDepth 65536 in
set_option maxHeartbeats 40000000 in
theorem rm10 (l : Launch) (Z : State) (n0 : Nat) (w0 : Array Value) (hw : ∀ d ∈ tables_1, d.before w0 Z = true) (d r s aq ao aa av ai ah ab hr hs : Addr) (mx ct us fr sr ss : Int32) (qs : List Int32) (os : List Int64) (ats : List Int32) (vs ids : List Int64) (hp tb R S : List Int32) (X : Wld) (hfr : fr < 0) (hus : ¬ us = qs.length.toInt32) :
    Meets l Z n0 (⟨"com/example/pulld/pulld/broker/InFlightDeliveries", "takeSlot", "()I"⟩ : MethodName) prog_12_method_13_code 2 (some .int) ({ frames := 0, cells := 0, slots := 0, locals := 0 } : Room) [] #[(.ref d)] (DW d r s aq ao aa av ai ah ab hr hs mx ct us fr sr ss qs os ats vs ids hp tb R S ++ X) (fun v W' => v = some (.int us) ∧ W' = (DW d r s aq ao aa av ai ah ab hr hs mx ct (us + (1 : Int32)) fr sr ss qs os ats vs ids hp tb R S ++ X)) := by
  refine Meets.of_go (ls := #[.val (.ref d), .unset]) (plainFor_of_name (by first | (simp [plainName, overriddenIn]; done) | decide +kernel)) (fun m => by first | (simp [entryFrame, mkF, argsToLocals, Value.category, maxLocals]; done) | rfl) (fun D => ?_)
  refine Go.aloadN (pc' := 1) d10_0 rfl rfl rfl ?_
  refine Go.getF (pc' := 4) (i := 0) (j := 5) (v := (.int fr)) (host := "") d10_1 (Or.inl (hw _ (List.mem_of_getElem? (i := 26) rfl))) rfl rfl rfl ?_
  refine Go.if_lt (pcY := 25) (pcN := 7) d10_4 (by decide) (by decide) rfl (fun hc4 => ?_) (fun hc4 => absurd hc4 (Classical.not_not.mpr hfr))
  refine Go.aloadN (pc' := 26) d10_25 rfl rfl rfl ?_
  refine Go.getF (pc' := 29) (i := 0) (j := 4) (v := (.int us)) (host := "") d10_26 (Or.inl (hw _ (List.mem_of_getElem? (i := 92) rfl))) rfl rfl rfl ?_
  refine Go.aloadN (pc' := 30) d10_29 rfl rfl rfl ?_
  refine Go.getF (pc' := 33) (i := 0) (j := 6) (v := (.ref aq)) (host := "") d10_30 (Or.inl (hw _ (List.mem_of_getElem? (i := 28) rfl))) rfl rfl rfl ?_
  refine Go.alenI (pc' := 34) (i := 3) (n := qs.length.toInt32) d10_33 rfl rfl rfl ?_
  refine Go.icmp_ne (pcY := 65) (pcN := 37) d10_34 (by decide) (by decide) rfl (fun hc34 => ?_) (fun hc34 => absurd hc34 hus)
  refine Go.aloadN (pc' := 66) d10_65 rfl rfl rfl ?_
  refine Go.dup (pc' := 67) d10_66 rfl rfl ?_
  refine Go.getF (pc' := 70) (i := 0) (j := 4) (v := (.int us)) (host := "") d10_67 (Or.inl (hw _ (List.mem_of_getElem? (i := 92) rfl))) rfl rfl rfl ?_
  refine Go.dupX1 (pc' := 71) d10_70 rfl rfl rfl ?_
  refine Go.iconst (pc' := 72) (v := (1 : Int32)) d10_71 rfl rfl ?_
  refine Go.iadd (pc' := 73) d10_72 rfl ?_
  refine Go.putF (pc' := 76) (i := 0) (j := 4) (ty := .int) (W' := (DW d r s aq ao aa av ai ah ab hr hs mx ct (us + (1 : Int32)) fr sr ss qs os ats vs ids hp tb R S ++ X)) (host := "") d10_73 (Or.inl (hw _ (List.mem_of_getElem? (i := 92) rfl))) (Or.inl (hw _ (List.mem_of_getElem? (i := 93) rfl))) (hw _ (List.mem_of_getElem? (i := 2) rfl)) rfl rfl (by decide) rfl rfl rfl rfl ?_
  refine Go.istoreN (pc' := 77) (ls' := #[.val (.ref d), .val (.int us)]) d10_76 rfl rfl ?_
  refine Go.iloadN (pc' := 78) d10_77 rfl rfl ?_
  exact Go.retI d10_78 rfl (by decide) (by decide) ⟨rfl, rfl⟩
theorem d6_0 : decode prog_12_method_7_code 0 = .ok (.aload_n 0, 1) := by decide +kernel
theorem d6_1 : decode prog_12_method_7_code 1 = .ok (.aload_n 1, 1) := by decide +kernel
theorem d6_2 : decode prog_12_method_7_code 2 = .ok (.invokevirtual 76, 3) := by decide +kernel
theorem d6_5 : decode prog_12_method_7_code 5 = .ok (.aload_n 1, 1) := by decide +kernel
theorem d6_6 : decode prog_12_method_7_code 6 = .ok (.invokevirtual 82, 3) := by decide +kernel
theorem d6_9 : decode prog_12_method_7_code 9 = .ok (.invokevirtual 68, 3) := by decide +kernel
theorem d6_12 : decode prog_12_method_7_code 12 = .ok (.istore_n 2, 1) := by decide +kernel
theorem d6_13 : decode prog_12_method_7_code 13 = .ok (.iload_n 2, 1) := by decide +kernel
theorem d6_14 : decode prog_12_method_7_code 14 = .ok (.ifCond .lt 15, 3) := by decide +kernel
theorem d6_29 : decode prog_12_method_7_code 29 = .ok (.aload_n 0, 1) := by decide +kernel
theorem d6_30 : decode prog_12_method_7_code 30 = .ok (.invokevirtual 89, 3) := by decide +kernel
theorem d6_33 : decode prog_12_method_7_code 33 = .ok (.istore_n 2, 1) := by decide +kernel
theorem d6_34 : decode prog_12_method_7_code 34 = .ok (.aload_n 0, 1) := by decide +kernel
theorem d6_35 : decode prog_12_method_7_code 35 = .ok (.getfield 25, 3) := by decide +kernel
theorem d6_38 : decode prog_12_method_7_code 38 = .ok (.iload_n 2, 1) := by decide +kernel
theorem d6_39 : decode prog_12_method_7_code 39 = .ok (.aload_n 1, 1) := by decide +kernel
theorem d6_40 : decode prog_12_method_7_code 40 = .ok (.invokevirtual 76, 3) := by decide +kernel
theorem d6_43 : decode prog_12_method_7_code 43 = .ok (.iastore, 1) := by decide +kernel
theorem d6_44 : decode prog_12_method_7_code 44 = .ok (.aload_n 0, 1) := by decide +kernel
theorem d6_45 : decode prog_12_method_7_code 45 = .ok (.getfield 29, 3) := by decide +kernel
theorem d6_48 : decode prog_12_method_7_code 48 = .ok (.iload_n 2, 1) := by decide +kernel
theorem d6_49 : decode prog_12_method_7_code 49 = .ok (.aload_n 1, 1) := by decide +kernel
theorem d6_50 : decode prog_12_method_7_code 50 = .ok (.invokevirtual 82, 3) := by decide +kernel
theorem d6_53 : decode prog_12_method_7_code 53 = .ok (.lastore, 1) := by decide +kernel
theorem d6_54 : decode prog_12_method_7_code 54 = .ok (.aload_n 0, 1) := by decide +kernel
theorem d6_55 : decode prog_12_method_7_code 55 = .ok (.iload_n 2, 1) := by decide +kernel
theorem d6_56 : decode prog_12_method_7_code 56 = .ok (.invokevirtual 92, 3) := by decide +kernel
theorem d6_59 : decode prog_12_method_7_code 59 = .ok (.aload_n 0, 1) := by decide +kernel
theorem d6_60 : decode prog_12_method_7_code 60 = .ok (.dup, 1) := by decide +kernel
theorem d6_61 : decode prog_12_method_7_code 61 = .ok (.getfield 51, 3) := by decide +kernel
theorem d6_64 : decode prog_12_method_7_code 64 = .ok (.iconst 1, 1) := by decide +kernel
theorem d6_65 : decode prog_12_method_7_code 65 = .ok (.iadd, 1) := by decide +kernel
theorem d6_66 : decode prog_12_method_7_code 66 = .ok (.putfield 51, 3) := by decide +kernel
theorem d6_69 : decode prog_12_method_7_code 69 = .ok (.aload_n 0, 1) := by decide +kernel
theorem d6_70 : decode prog_12_method_7_code 70 = .ok (.getfield 33, 3) := by decide +kernel
theorem d6_73 : decode prog_12_method_7_code 73 = .ok (.iload_n 2, 1) := by decide +kernel
theorem d6_74 : decode prog_12_method_7_code 74 = .ok (.aload_n 1, 1) := by decide +kernel
theorem d6_75 : decode prog_12_method_7_code 75 = .ok (.invokevirtual 95, 3) := by decide +kernel
theorem d6_78 : decode prog_12_method_7_code 78 = .ok (.iastore, 1) := by decide +kernel
theorem d6_79 : decode prog_12_method_7_code 79 = .ok (.aload_n 0, 1) := by decide +kernel
theorem d6_80 : decode prog_12_method_7_code 80 = .ok (.getfield 36, 3) := by decide +kernel
theorem d6_83 : decode prog_12_method_7_code 83 = .ok (.iload_n 2, 1) := by decide +kernel
theorem d6_84 : decode prog_12_method_7_code 84 = .ok (.aload_n 1, 1) := by decide +kernel
theorem d6_85 : decode prog_12_method_7_code 85 = .ok (.invokevirtual 98, 3) := by decide +kernel
theorem d6_88 : decode prog_12_method_7_code 88 = .ok (.lastore, 1) := by decide +kernel
theorem d6_89 : decode prog_12_method_7_code 89 = .ok (.aload_n 0, 1) := by decide +kernel
theorem d6_90 : decode prog_12_method_7_code 90 = .ok (.getfield 39, 3) := by decide +kernel
theorem d6_93 : decode prog_12_method_7_code 93 = .ok (.iload_n 2, 1) := by decide +kernel
theorem d6_94 : decode prog_12_method_7_code 94 = .ok (.aload_n 1, 1) := by decide +kernel
theorem d6_95 : decode prog_12_method_7_code 95 = .ok (.invokevirtual 101, 3) := by decide +kernel
theorem d6_98 : decode prog_12_method_7_code 98 = .ok (.lastore, 1) := by decide +kernel
theorem d6_99 : decode prog_12_method_7_code 99 = .ok (.aload_n 0, 1) := by decide +kernel
theorem d6_100 : decode prog_12_method_7_code 100 = .ok (.iload_n 2, 1) := by decide +kernel
theorem d6_101 : decode prog_12_method_7_code 101 = .ok (.invokevirtual 60, 3) := by decide +kernel
theorem d6_104 : decode prog_12_method_7_code 104 = .ok (.iload_n 2, 1) := by decide +kernel
theorem d6_105 : decode prog_12_method_7_code 105 = .ok (.invokevirtual 64, 3) := by decide +kernel
theorem d6_108 : decode prog_12_method_7_code 108 = .ok (.return_, 1) := by decide +kernel
theorem pd__28_29I : parseMethodDescriptor "()I" = some ⟨[], (some .int)⟩ := by decide +kernel
theorem pd__28_29J : parseMethodDescriptor "()J" = some ⟨[], (some .long)⟩ := by decide +kernel
theorem pd__28I_29Lcom_2fexample_2fpulld_2fpulld_2fbroker_2fInFlightDeliveries_24ByVisibleAt_3b : parseMethodDescriptor "(I)Lcom/example/pulld/pulld/broker/InFlightDeliveries$ByVisibleAt;" = some ⟨[.int], (some (.object "com/example/pulld/pulld/broker/InFlightDeliveries$ByVisibleAt"))⟩ := by decide +kernel
set_option maxRecDepth 65536 in
set_option maxHeartbeats 40000000 in
theorem putN (l : Launch) (Z : State) (n0 : Nat) (w0 : Array Value) (hw : ∀ d ∈ tables_1, d.before w0 Z = true) (f : Addr) (d r s aq ao aa av ai ah ab hr hs : Addr) (mx ct us fr sr ss : Int32) (qs : List Int32) (os : List Int64) (ats : List Int32) (vs ids : List Int64) (hp tb R S : List Int32) (X : Wld) (j : Nat) (fq : Int32) (fo : Int64) (fa : Int32) (fv fi : Int64) (sl : Int32) (qs' : List Int32) (os' : List Int64) (tb' ats' : List Int32) (vs' ids' : List Int64) (R' : List Int32) (sr' : Int32) (S' : List Int32) (ss' : Int32) (hp' : List Int32) (hX : X[j]? = some (f, (.inl ("com/example/pulld/pulld/broker/InFlight", [("queue", "I", .int fq), ("offset", "J", .long fo), ("attempt", "I", .int fa), ("visibleAt", "J", .long fv), ("id", "J", .long fi)])))) (h1 : slotF fq fo qs os tb = some sl) (hsl : sl < 0) (hfr : fr < 0) (hus : ¬ us = qs.length.toInt32) (h2 : wrA qs us fq = some qs') (h3 : wrA os us fo = some os') (h4 : linkF qs' os' tb us = some tb') (h5 : wrA ats us fa = some ats') (h6 : wrA vs us fv = some vs') (h7 : wrA ids us fi = some ids') (hA : addD qs' os' vs' ats' mx us (R, sr, S, ss, hp) = some (R', sr', S', ss', hp')) :
    Meets l Z n0 (⟨"com/example/pulld/pulld/broker/InFlightDeliveries", "put", "(Lcom/example/pulld/pulld/broker/InFlight;)V"⟩ : MethodName) prog_12_method_7_code 3 none ({ frames := 4, cells := 0, slots := 0, locals := 58 } : Room) [] #[(.ref d), (.ref f)] (DW d r s aq ao aa av ai ah ab hr hs mx ct us fr sr ss qs os ats vs ids hp tb R S ++ X) (fun v W' => v = none ∧ W' = (DW d r s aq ao aa av ai ah ab hr hs mx (ct + (1 : Int32)) (us + (1 : Int32)) fr sr' ss' qs' os' ats' vs' ids' hp' tb' R' S' ++ X)) := by
  refine Meets.of_go (ls := #[.val (.ref d), .val (.ref f), .unset]) (plainFor_of_name (by first | (simp [plainName, overriddenIn]; done) | decide +kernel)) (fun m => by first | (simp [entryFrame, mkF, argsToLocals, Value.category, maxLocals]; done) | rfl) (fun D => ?_)
  refine Go.aloadN (pc' := 1) d6_0 rfl rfl rfl ?_
  refine Go.aloadN (pc' := 2) d6_1 rfl rfl rfl ?_
  refine Go.callV (pc' := 5) (W1 := 1) (cells' := 0) (slots' := 0) (argsL := []) (rest := [(.ref d)]) (y' := (⟨"com/example/pulld/pulld/broker/InFlight", "queue", "()I"⟩ : MethodName)) (a := f) (i := j + 12) d6_2 (hw _ (List.mem_of_getElem? (i := 74) rfl)) (hw _ (List.mem_of_getElem? (i := 75) rfl)) (hw _ (List.mem_of_getElem? (i := 77) rfl)) (hw _ (List.mem_of_getElem? (i := 76) rfl)) (hw _ (List.mem_of_getElem? (i := 47) rfl)) (hw _ (List.mem_of_getElem? (i := 78) rfl)) (by decide) hX (rm7 l Z n0 w0 hw f (j + 12) fq fo fa fv fi (DW d r s aq ao aa av ai ah ab hr hs mx ct us fr sr ss qs os ats vs ids hp tb R S ++ X) hX) (by decide) (by decide) rfl (lenOf pd__28_29I rfl) rfl (Nat.le_of_eq rfl) (by decide) (by decide) rfl rfl rfl (fun v W' hF => ?_)
  obtain ⟨rfl, rfl⟩ := hF
  refine Go.val ?_
  refine Go.aloadN (pc' := 6) d6_5 rfl rfl rfl ?_
  refine Go.callV (pc' := 9) (W1 := 2) (cells' := 0) (slots' := 0) (argsL := []) (rest := [(.int fq), (.ref d)]) (y' := (⟨"com/example/pulld/pulld/broker/InFlight", "offset", "()J"⟩ : MethodName)) (a := f) (i := j + 12) d6_6 (hw _ (List.mem_of_getElem? (i := 79) rfl)) (hw _ (List.mem_of_getElem? (i := 80) rfl)) (hw _ (List.mem_of_getElem? (i := 82) rfl)) (hw _ (List.mem_of_getElem? (i := 81) rfl)) (hw _ (List.mem_of_getElem? (i := 47) rfl)) (hw _ (List.mem_of_getElem? (i := 83) rfl)) (by decide) hX (rm8 l Z n0 w0 hw f (j + 12) fq fo fa fv fi (DW d r s aq ao aa av ai ah ab hr hs mx ct us fr sr ss qs os ats vs ids hp tb R S ++ X) hX) (by decide) (by decide) rfl (lenOf pd__28_29J rfl) rfl (Nat.le_of_eq rfl) (by decide) (by decide) rfl rfl rfl (fun v W' hF => ?_)
  obtain ⟨rfl, rfl⟩ := hF
  refine Go.val ?_
  refine Go.callP (pc' := 12) (W1 := 0) (cells' := 0) (slots' := 0) (argsL := [(.int fq), (.long fo)]) (rest := []) (y' := (⟨"com/example/pulld/pulld/broker/InFlightDeliveries", "slotOf", "(IJ)I"⟩ : MethodName)) (a := d) (i := 0) d6_9 (hw _ (List.mem_of_getElem? (i := 84) rfl)) (hw _ (List.mem_of_getElem? (i := 85) rfl)) (hw _ (List.mem_of_getElem? (i := 86) rfl)) (hw _ (List.mem_of_getElem? (i := 2) rfl)) (hw _ (List.mem_of_getElem? (i := 3) rfl)) (hw _ (List.mem_of_getElem? (i := 87) rfl)) (by decide) rfl (rm9 l Z n0 w0 hw fq fo d r s aq ao aa av ai ah ab hr hs mx ct us fr sr ss qs os ats vs ids hp tb R S X sl h1) (by decide) (by decide) rfl (lenOf pd__28IJ_29I rfl) rfl (Nat.le_of_eq rfl) (by decide) (by decide) rfl rfl rfl (fun v W' hF => ?_)
  obtain ⟨rfl, rfl⟩ := hF
  refine Go.val ?_
  refine Go.istoreN (pc' := 13) (ls' := #[.val (.ref d), .val (.ref f), .val (.int sl)]) d6_12 rfl rfl ?_
  refine Go.iloadN (pc' := 14) d6_13 rfl rfl ?_
  refine Go.if_lt (pcY := 29) (pcN := 17) d6_14 (by decide) (by decide) rfl (fun hc14 => ?_) (fun hc14 => absurd hc14 (Classical.not_not.mpr hsl))
  refine Go.aloadN (pc' := 30) d6_29 rfl rfl rfl ?_
  refine Go.callP (pc' := 33) (W1 := 0) (cells' := 0) (slots' := 0) (argsL := []) (rest := []) (y' := (⟨"com/example/pulld/pulld/broker/InFlightDeliveries", "takeSlot", "()I"⟩ : MethodName)) (a := d) (i := 0) d6_30 (hw _ (List.mem_of_getElem? (i := 88) rfl)) (hw _ (List.mem_of_getElem? (i := 89) rfl)) (hw _ (List.mem_of_getElem? (i := 90) rfl)) (hw _ (List.mem_of_getElem? (i := 2) rfl)) (hw _ (List.mem_of_getElem? (i := 3) rfl)) (hw _ (List.mem_of_getElem? (i := 91) rfl)) (by decide) rfl (rm10 l Z n0 w0 hw  d r s aq ao aa av ai ah ab hr hs mx ct us fr sr ss qs os ats vs ids hp tb R S X  hfr hus) (by decide) (by decide) rfl (lenOf pd__28_29I rfl) rfl (Nat.le_of_eq rfl) (by decide) (by decide) rfl rfl rfl (fun v W' hF => ?_)
  obtain ⟨rfl, rfl⟩ := hF
  refine Go.val ?_
  refine Go.istoreN (pc' := 34) (ls' := #[.val (.ref d), .val (.ref f), .val (.int us)]) d6_33 rfl rfl ?_
  refine Go.aloadN (pc' := 35) d6_34 rfl rfl rfl ?_
  refine Go.getF (pc' := 38) (i := 0) (j := 6) (v := (.ref aq)) (host := "") d6_35 (Or.inl (hw _ (List.mem_of_getElem? (i := 28) rfl))) rfl rfl rfl ?_
  refine Go.iloadN (pc' := 39) d6_38 rfl rfl ?_
  refine Go.aloadN (pc' := 40) d6_39 rfl rfl rfl ?_
  refine Go.callV (pc' := 43) (W1 := 2) (cells' := 0) (slots' := 0) (argsL := []) (rest := [(.int us), (.ref aq)]) (y' := (⟨"com/example/pulld/pulld/broker/InFlight", "queue", "()I"⟩ : MethodName)) (a := f) (i := j + 12) d6_40 (hw _ (List.mem_of_getElem? (i := 74) rfl)) (hw _ (List.mem_of_getElem? (i := 75) rfl)) (hw _ (List.mem_of_getElem? (i := 77) rfl)) (hw _ (List.mem_of_getElem? (i := 76) rfl)) (hw _ (List.mem_of_getElem? (i := 47) rfl)) (hw _ (List.mem_of_getElem? (i := 78) rfl)) (by decide) hX (rm7 l Z n0 w0 hw f (j + 12) fq fo fa fv fi (DW d r s aq ao aa av ai ah ab hr hs mx ct (us + (1 : Int32)) fr sr ss qs os ats vs ids hp tb R S ++ X) hX) (by decide) (by decide) rfl (lenOf pd__28_29I rfl) rfl (Nat.le_of_eq rfl) (by decide) (by decide) rfl rfl rfl (fun v W' hF => ?_)
  obtain ⟨rfl, rfl⟩ := hF
  refine Go.val ?_
  refine Go.iastoreG (pc' := 44) (i := 3) (W' := (DW d r s aq ao aa av ai ah ab hr hs mx ct (us + (1 : Int32)) fr sr ss qs' os ats vs ids hp tb R S ++ X)) d6_43 rfl h2 rfl rfl ?_
  refine Go.aloadN (pc' := 45) d6_44 rfl rfl rfl ?_
  refine Go.getF (pc' := 48) (i := 0) (j := 7) (v := (.ref ao)) (host := "") d6_45 (Or.inl (hw _ (List.mem_of_getElem? (i := 31) rfl))) rfl rfl rfl ?_
  refine Go.iloadN (pc' := 49) d6_48 rfl rfl ?_
  refine Go.aloadN (pc' := 50) d6_49 rfl rfl rfl ?_
  refine Go.callV (pc' := 53) (W1 := 2) (cells' := 0) (slots' := 0) (argsL := []) (rest := [(.int us), (.ref ao)]) (y' := (⟨"com/example/pulld/pulld/broker/InFlight", "offset", "()J"⟩ : MethodName)) (a := f) (i := j + 12) d6_50 (hw _ (List.mem_of_getElem? (i := 79) rfl)) (hw _ (List.mem_of_getElem? (i := 80) rfl)) (hw _ (List.mem_of_getElem? (i := 82) rfl)) (hw _ (List.mem_of_getElem? (i := 81) rfl)) (hw _ (List.mem_of_getElem? (i := 47) rfl)) (hw _ (List.mem_of_getElem? (i := 83) rfl)) (by decide) hX (rm8 l Z n0 w0 hw f (j + 12) fq fo fa fv fi (DW d r s aq ao aa av ai ah ab hr hs mx ct (us + (1 : Int32)) fr sr ss qs' os ats vs ids hp tb R S ++ X) hX) (by decide) (by decide) rfl (lenOf pd__28_29J rfl) rfl (Nat.le_of_eq rfl) (by decide) (by decide) rfl rfl rfl (fun v W' hF => ?_)
  obtain ⟨rfl, rfl⟩ := hF
  refine Go.val ?_
  refine Go.lastoreG (pc' := 54) (i := 4) (W' := (DW d r s aq ao aa av ai ah ab hr hs mx ct (us + (1 : Int32)) fr sr ss qs' os' ats vs ids hp tb R S ++ X)) d6_53 rfl h3 rfl rfl ?_
  refine Go.aloadN (pc' := 55) d6_54 rfl rfl rfl ?_
  refine Go.iloadN (pc' := 56) d6_55 rfl rfl ?_
  refine Go.callP (pc' := 59) (W1 := 0) (cells' := 0) (slots' := 0) (argsL := [(.int us)]) (rest := []) (y' := (⟨"com/example/pulld/pulld/broker/InFlightDeliveries", "link", "(I)V"⟩ : MethodName)) (a := d) (i := 0) d6_56 (hw _ (List.mem_of_getElem? (i := 104) rfl)) (hw _ (List.mem_of_getElem? (i := 105) rfl)) (hw _ (List.mem_of_getElem? (i := 106) rfl)) (hw _ (List.mem_of_getElem? (i := 2) rfl)) (hw _ (List.mem_of_getElem? (i := 3) rfl)) (hw _ (List.mem_of_getElem? (i := 107) rfl)) (by decide) rfl (rm13 l Z n0 w0 hw us d r s aq ao aa av ai ah ab hr hs mx ct (us + (1 : Int32)) fr sr ss qs' os' ats vs ids hp tb R S X tb' h4) (by decide) (by decide) rfl (lenOf pd__28I_29V rfl) rfl (Nat.le_of_eq rfl) (by decide) (by decide) rfl rfl rfl (fun v W' hF => ?_)
  obtain ⟨rfl, rfl⟩ := hF
  refine Go.nov ?_
  refine Go.aloadN (pc' := 60) d6_59 rfl rfl rfl ?_
  refine Go.dup (pc' := 61) d6_60 rfl rfl ?_
  refine Go.getF (pc' := 64) (i := 0) (j := 3) (v := (.int ct)) (host := "") d6_61 (Or.inl (hw _ (List.mem_of_getElem? (i := 114) rfl))) rfl rfl rfl ?_
  refine Go.iconst (pc' := 65) (v := (1 : Int32)) d6_64 rfl rfl ?_
  refine Go.iadd (pc' := 66) d6_65 rfl ?_
  refine Go.putF (pc' := 69) (i := 0) (j := 3) (ty := .int) (W' := (DW d r s aq ao aa av ai ah ab hr hs mx (ct + (1 : Int32)) (us + (1 : Int32)) fr sr ss qs' os' ats vs ids hp tb' R S ++ X)) (host := "") d6_66 (Or.inl (hw _ (List.mem_of_getElem? (i := 114) rfl))) (Or.inl (hw _ (List.mem_of_getElem? (i := 115) rfl))) (hw _ (List.mem_of_getElem? (i := 2) rfl)) rfl rfl (by decide) rfl rfl rfl rfl ?_
  refine Go.aloadN (pc' := 70) d6_69 rfl rfl rfl ?_
  refine Go.getF (pc' := 73) (i := 0) (j := 8) (v := (.ref aa)) (host := "") d6_70 (Or.inl (hw _ (List.mem_of_getElem? (i := 33) rfl))) rfl rfl rfl ?_
  refine Go.iloadN (pc' := 74) d6_73 rfl rfl ?_
  refine Go.aloadN (pc' := 75) d6_74 rfl rfl rfl ?_
  refine Go.callV (pc' := 78) (W1 := 2) (cells' := 0) (slots' := 0) (argsL := []) (rest := [(.int us), (.ref aa)]) (y' := (⟨"com/example/pulld/pulld/broker/InFlight", "attempt", "()I"⟩ : MethodName)) (a := f) (i := j + 12) d6_75 (hw _ (List.mem_of_getElem? (i := 116) rfl)) (hw _ (List.mem_of_getElem? (i := 117) rfl)) (hw _ (List.mem_of_getElem? (i := 119) rfl)) (hw _ (List.mem_of_getElem? (i := 118) rfl)) (hw _ (List.mem_of_getElem? (i := 47) rfl)) (hw _ (List.mem_of_getElem? (i := 120) rfl)) (by decide) hX (rm15 l Z n0 w0 hw f (j + 12) fq fo fa fv fi (DW d r s aq ao aa av ai ah ab hr hs mx (ct + (1 : Int32)) (us + (1 : Int32)) fr sr ss qs' os' ats vs ids hp tb' R S ++ X) hX) (by decide) (by decide) rfl (lenOf pd__28_29I rfl) rfl (Nat.le_of_eq rfl) (by decide) (by decide) rfl rfl rfl (fun v W' hF => ?_)
  obtain ⟨rfl, rfl⟩ := hF
  refine Go.val ?_
  refine Go.iastoreG (pc' := 79) (i := 5) (W' := (DW d r s aq ao aa av ai ah ab hr hs mx (ct + (1 : Int32)) (us + (1 : Int32)) fr sr ss qs' os' ats' vs ids hp tb' R S ++ X)) d6_78 rfl h5 rfl rfl ?_
  refine Go.aloadN (pc' := 80) d6_79 rfl rfl rfl ?_
  refine Go.getF (pc' := 83) (i := 0) (j := 9) (v := (.ref av)) (host := "") d6_80 (Or.inl (hw _ (List.mem_of_getElem? (i := 35) rfl))) rfl rfl rfl ?_
  refine Go.iloadN (pc' := 84) d6_83 rfl rfl ?_
  refine Go.aloadN (pc' := 85) d6_84 rfl rfl rfl ?_
  refine Go.callV (pc' := 88) (W1 := 2) (cells' := 0) (slots' := 0) (argsL := []) (rest := [(.int us), (.ref av)]) (y' := (⟨"com/example/pulld/pulld/broker/InFlight", "visibleAt", "()J"⟩ : MethodName)) (a := f) (i := j + 12) d6_85 (hw _ (List.mem_of_getElem? (i := 121) rfl)) (hw _ (List.mem_of_getElem? (i := 122) rfl)) (hw _ (List.mem_of_getElem? (i := 124) rfl)) (hw _ (List.mem_of_getElem? (i := 123) rfl)) (hw _ (List.mem_of_getElem? (i := 47) rfl)) (hw _ (List.mem_of_getElem? (i := 125) rfl)) (by decide) hX (rm16 l Z n0 w0 hw f (j + 12) fq fo fa fv fi (DW d r s aq ao aa av ai ah ab hr hs mx (ct + (1 : Int32)) (us + (1 : Int32)) fr sr ss qs' os' ats' vs ids hp tb' R S ++ X) hX) (by decide) (by decide) rfl (lenOf pd__28_29J rfl) rfl (Nat.le_of_eq rfl) (by decide) (by decide) rfl rfl rfl (fun v W' hF => ?_)
  obtain ⟨rfl, rfl⟩ := hF
  refine Go.val ?_
  refine Go.lastoreG (pc' := 89) (i := 6) (W' := (DW d r s aq ao aa av ai ah ab hr hs mx (ct + (1 : Int32)) (us + (1 : Int32)) fr sr ss qs' os' ats' vs' ids hp tb' R S ++ X)) d6_88 rfl h6 rfl rfl ?_
  refine Go.aloadN (pc' := 90) d6_89 rfl rfl rfl ?_
  refine Go.getF (pc' := 93) (i := 0) (j := 10) (v := (.ref ai)) (host := "") d6_90 (Or.inl (hw _ (List.mem_of_getElem? (i := 37) rfl))) rfl rfl rfl ?_
  refine Go.iloadN (pc' := 94) d6_93 rfl rfl ?_
  refine Go.aloadN (pc' := 95) d6_94 rfl rfl rfl ?_
  refine Go.callV (pc' := 98) (W1 := 2) (cells' := 0) (slots' := 0) (argsL := []) (rest := [(.int us), (.ref ai)]) (y' := (⟨"com/example/pulld/pulld/broker/InFlight", "id", "()J"⟩ : MethodName)) (a := f) (i := j + 12) d6_95 (hw _ (List.mem_of_getElem? (i := 126) rfl)) (hw _ (List.mem_of_getElem? (i := 127) rfl)) (hw _ (List.mem_of_getElem? (i := 129) rfl)) (hw _ (List.mem_of_getElem? (i := 128) rfl)) (hw _ (List.mem_of_getElem? (i := 47) rfl)) (hw _ (List.mem_of_getElem? (i := 130) rfl)) (by decide) hX (rm17 l Z n0 w0 hw f (j + 12) fq fo fa fv fi (DW d r s aq ao aa av ai ah ab hr hs mx (ct + (1 : Int32)) (us + (1 : Int32)) fr sr ss qs' os' ats' vs' ids hp tb' R S ++ X) hX) (by decide) (by decide) rfl (lenOf pd__28_29J rfl) rfl (Nat.le_of_eq rfl) (by decide) (by decide) rfl rfl rfl (fun v W' hF => ?_)
  obtain ⟨rfl, rfl⟩ := hF
  refine Go.val ?_
  refine Go.lastoreG (pc' := 99) (i := 7) (W' := (DW d r s aq ao aa av ai ah ab hr hs mx (ct + (1 : Int32)) (us + (1 : Int32)) fr sr ss qs' os' ats' vs' ids' hp tb' R S ++ X)) d6_98 rfl h7 rfl rfl ?_
  refine Go.aloadN (pc' := 100) d6_99 rfl rfl rfl ?_
  refine Go.iloadN (pc' := 101) d6_100 rfl rfl ?_
  dsimp only [addD] at hA
  obtain ⟨a', ha', hA⟩ := own_bind hA
  by_cases hlm : a' < mx
  ·
    rw [if_pos hlm] at hA
    obtain ⟨⟨A1, A2⟩, hz, hA⟩ := own_bind hA
    have hE := Option.some.inj hA
    dsimp only at hE
    refine Go.callP (pc' := 104) (W1 := 0) (cells' := 0) (slots' := 0) (argsL := [(.int us)]) (rest := []) (y' := (⟨"com/example/pulld/pulld/broker/InFlightDeliveries", "byVisibleAt", "(I)Lcom/example/pulld/pulld/broker/InFlightDeliveries$ByVisibleAt;"⟩ : MethodName)) (a := d) (i := 0) d6_101 (hw _ (List.mem_of_getElem? (i := 131) rfl)) (hw _ (List.mem_of_getElem? (i := 132) rfl)) (hw _ (List.mem_of_getElem? (i := 133) rfl)) (hw _ (List.mem_of_getElem? (i := 2) rfl)) (hw _ (List.mem_of_getElem? (i := 3) rfl)) (hw _ (List.mem_of_getElem? (i := 134) rfl)) (by decide) rfl (byR l Z n0 w0 hw us d r s aq ao aa av ai ah ab hr hs mx (ct + (1 : Int32)) (us + (1 : Int32)) fr sr ss qs' os' ats' vs' ids' hp tb' R S X a' ha' hlm) (by decide) (by decide) rfl (lenOf pd__28I_29Lcom_2fexample_2fpulld_2fpulld_2fbroker_2fInFlightDeliveries_24ByVisibleAt_3b rfl) rfl (Nat.le_of_eq rfl) (by decide) (by decide) rfl rfl rfl (fun v W' hF => ?_)
    obtain ⟨rfl, rfl⟩ := hF
    refine Go.val ?_
    refine Go.iloadN (pc' := 105) d6_104 rfl rfl ?_
    refine Go.callPR (pc' := 108) (W1 := 0) (cells' := 0) (slots' := 0) (argsL := [(.int us)]) (rest := []) (y' := (⟨"com/example/pulld/pulld/broker/InFlightDeliveries$ByVisibleAt", "add", "(I)V"⟩ : MethodName)) (a := r) (i := 1) d6_105 (hw _ (List.mem_of_getElem? (i := 135) rfl)) (hw _ (List.mem_of_getElem? (i := 136) rfl)) (hw _ (List.mem_of_getElem? (i := 137) rfl)) (hw _ (List.mem_of_getElem? (i := 11) rfl)) (hw _ (List.mem_of_getElem? (i := 12) rfl)) (hw _ (List.mem_of_getElem? (i := 138) rfl)) (by decide) rfl (addr l Z n0 w0 hw us d r s aq ao aa av ai ah ab hr hs mx (ct + (1 : Int32)) (us + (1 : Int32)) fr sr ss qs' os' ats' vs' ids' hp tb' R S X A1 A2 hz) (by decide) (by decide) rfl (lenOf pd__28I_29V rfl) rfl (Nat.le_of_eq rfl) (by decide) (by decide) rfl rfl rfl (fun v W' hF => ?_)
    obtain ⟨rfl, rfl⟩ := hF
    refine Go.nov ?_
    exact Go.retV d6_108 rfl (by decide) (by decide) ⟨rfl, by cases hE; rfl⟩
  ·
    rw [if_neg hlm] at hA
    obtain ⟨⟨A1, A2⟩, hz, hA⟩ := own_bind hA
    have hE := Option.some.inj hA
    dsimp only at hE
    refine Go.callP (pc' := 104) (W1 := 0) (cells' := 0) (slots' := 0) (argsL := [(.int us)]) (rest := []) (y' := (⟨"com/example/pulld/pulld/broker/InFlightDeliveries", "byVisibleAt", "(I)Lcom/example/pulld/pulld/broker/InFlightDeliveries$ByVisibleAt;"⟩ : MethodName)) (a := d) (i := 0) d6_101 (hw _ (List.mem_of_getElem? (i := 131) rfl)) (hw _ (List.mem_of_getElem? (i := 132) rfl)) (hw _ (List.mem_of_getElem? (i := 133) rfl)) (hw _ (List.mem_of_getElem? (i := 2) rfl)) (hw _ (List.mem_of_getElem? (i := 3) rfl)) (hw _ (List.mem_of_getElem? (i := 134) rfl)) (by decide) rfl (byS l Z n0 w0 hw us d r s aq ao aa av ai ah ab hr hs mx (ct + (1 : Int32)) (us + (1 : Int32)) fr sr ss qs' os' ats' vs' ids' hp tb' R S X a' ha' hlm) (by decide) (by decide) rfl (lenOf pd__28I_29Lcom_2fexample_2fpulld_2fpulld_2fbroker_2fInFlightDeliveries_24ByVisibleAt_3b rfl) rfl (Nat.le_of_eq rfl) (by decide) (by decide) rfl rfl rfl (fun v W' hF => ?_)
    obtain ⟨rfl, rfl⟩ := hF
    refine Go.val ?_
    refine Go.iloadN (pc' := 105) d6_104 rfl rfl ?_
    refine Go.callPR (pc' := 108) (W1 := 0) (cells' := 0) (slots' := 0) (argsL := [(.int us)]) (rest := []) (y' := (⟨"com/example/pulld/pulld/broker/InFlightDeliveries$ByVisibleAt", "add", "(I)V"⟩ : MethodName)) (a := s) (i := 2) d6_105 (hw _ (List.mem_of_getElem? (i := 135) rfl)) (hw _ (List.mem_of_getElem? (i := 136) rfl)) (hw _ (List.mem_of_getElem? (i := 137) rfl)) (hw _ (List.mem_of_getElem? (i := 11) rfl)) (hw _ (List.mem_of_getElem? (i := 12) rfl)) (hw _ (List.mem_of_getElem? (i := 138) rfl)) (by decide) rfl (adds l Z n0 w0 hw us d r s aq ao aa av ai ah ab hr hs mx (ct + (1 : Int32)) (us + (1 : Int32)) fr sr ss qs' os' ats' vs' ids' hp tb' R S X A1 A2 hz) (by decide) (by decide) rfl (lenOf pd__28I_29V rfl) rfl (Nat.le_of_eq rfl) (by decide) (by decide) rfl rfl rfl (fun v W' hF => ?_)
    obtain ⟨rfl, rfl⟩ := hF
    refine Go.nov ?_
    exact Go.retV d6_108 rfl (by decide) (by decide) ⟨rfl, by cases hE; rfl⟩
theorem d6_17 : decode prog_12_method_7_code 17 = .ok (.aload_n 0, 1) := by decide +kernel
theorem d6_18 : decode prog_12_method_7_code 18 = .ok (.iload_n 2, 1) := by decide +kernel
theorem d6_19 : decode prog_12_method_7_code 19 = .ok (.invokevirtual 60, 3) := by decide +kernel
theorem d6_22 : decode prog_12_method_7_code 22 = .ok (.iload_n 2, 1) := by decide +kernel
theorem d6_23 : decode prog_12_method_7_code 23 = .ok (.invokevirtual 86, 3) := by decide +kernel
theorem d6_26 : decode prog_12_method_7_code 26 = .ok (.goto 43, 3) := by decide +kernel
set_option maxRecDepth 65536 in
set_option maxHeartbeats 40000000 in
theorem putO (l : Launch) (Z : State) (n0 : Nat) (w0 : Array Value) (hw : ∀ d ∈ tables_1, d.before w0 Z = true) (f : Addr) (d r s aq ao aa av ai ah ab hr hs : Addr) (mx ct us fr sr ss : Int32) (qs : List Int32) (os : List Int64) (ats : List Int32) (vs ids : List Int64) (hp tb R S : List Int32) (X : Wld) (j : Nat) (fq : Int32) (fo : Int64) (fa : Int32) (fv fi : Int64) (sl : Int32) (H1 : Hs) (ats' : List Int32) (vs' ids' : List Int64) (R' : List Int32) (sr' : Int32) (S' : List Int32) (ss' : Int32) (hp' : List Int32) (hX : X[j]? = some (f, (.inl ("com/example/pulld/pulld/broker/InFlight", [("queue", "I", .int fq), ("offset", "J", .long fo), ("attempt", "I", .int fa), ("visibleAt", "J", .long fv), ("id", "J", .long fi)])))) (h1 : slotF fq fo qs os tb = some sl) (hsl : ¬ sl < 0) (hM : remD qs os vs ats mx sl (R, sr, S, ss, hp) = some H1) (h5 : wrA ats sl fa = some ats') (h6 : wrA vs sl fv = some vs') (h7 : wrA ids sl fi = some ids') (hA : addD qs os vs' ats' mx sl H1 = some (R', sr', S', ss', hp')) :
    Meets l Z n0 (⟨"com/example/pulld/pulld/broker/InFlightDeliveries", "put", "(Lcom/example/pulld/pulld/broker/InFlight;)V"⟩ : MethodName) prog_12_method_7_code 3 none ({ frames := 4, cells := 0, slots := 0, locals := 62 } : Room) [] #[(.ref d), (.ref f)] (DW d r s aq ao aa av ai ah ab hr hs mx ct us fr sr ss qs os ats vs ids hp tb R S ++ X) (fun v W' => v = none ∧ W' = (DW d r s aq ao aa av ai ah ab hr hs mx ct us fr sr' ss' qs os ats' vs' ids' hp' tb R' S' ++ X)) := by
  refine Meets.of_go (ls := #[.val (.ref d), .val (.ref f), .unset]) (plainFor_of_name (by first | (simp [plainName, overriddenIn]; done) | decide +kernel)) (fun m => by first | (simp [entryFrame, mkF, argsToLocals, Value.category, maxLocals]; done) | rfl) (fun D => ?_)
  have k69 : ∀ (R1 : List Int32) (sr1 : Int32) (S1 : List Int32) (ss1 : Int32) (hp1 : List Int32), addD qs os vs' ats' mx sl (R1, sr1, S1, ss1, hp1) = some (R', sr', S', ss', hp') → Go l Z n0 ({ frames := 4, cells := 0, slots := 0, locals := 62 } : Room) prog_12_method_7_code 3 (⟨"com/example/pulld/pulld/broker/InFlightDeliveries", "put", "(Lcom/example/pulld/pulld/broker/InFlight;)V"⟩ : MethodName) none D (DW d r s aq ao aa av ai ah ab hr hs mx ct us fr sr1 ss1 qs os ats vs ids hp1 tb R1 S1 ++ X) 0 0 69 #[.val (.ref d), .val (.ref f), .val (.int sl)] [] (fun v W' => v = none ∧ W' = (DW d r s aq ao aa av ai ah ab hr hs mx ct us fr sr' ss' qs os ats' vs' ids' hp' tb R' S' ++ X)) := by
    intro R1 sr1 S1 ss1 hp1 hA
    refine Go.aloadN (pc' := 70) d6_69 rfl rfl rfl ?_
    refine Go.getF (pc' := 73) (i := 0) (j := 8) (v := (.ref aa)) (host := "") d6_70 (Or.inl (hw _ (List.mem_of_getElem? (i := 33) rfl))) rfl rfl rfl ?_
    refine Go.iloadN (pc' := 74) d6_73 rfl rfl ?_
    refine Go.aloadN (pc' := 75) d6_74 rfl rfl rfl ?_
    refine Go.callV (pc' := 78) (W1 := 2) (cells' := 0) (slots' := 0) (argsL := []) (rest := [(.int sl), (.ref aa)]) (y' := (⟨"com/example/pulld/pulld/broker/InFlight", "attempt", "()I"⟩ : MethodName)) (a := f) (i := j + 12) d6_75 (hw _ (List.mem_of_getElem? (i := 116) rfl)) (hw _ (List.mem_of_getElem? (i := 117) rfl)) (hw _ (List.mem_of_getElem? (i := 119) rfl)) (hw _ (List.mem_of_getElem? (i := 118) rfl)) (hw _ (List.mem_of_getElem? (i := 47) rfl)) (hw _ (List.mem_of_getElem? (i := 120) rfl)) (by decide) hX (rm15 l Z n0 w0 hw f (j + 12) fq fo fa fv fi (DW d r s aq ao aa av ai ah ab hr hs mx ct us fr sr1 ss1 qs os ats vs ids hp1 tb R1 S1 ++ X) hX) (by decide) (by decide) rfl (lenOf pd__28_29I rfl) rfl (Nat.le_of_eq rfl) (by decide) (by decide) rfl rfl rfl (fun v W' hF => ?_)
    obtain ⟨rfl, rfl⟩ := hF
    refine Go.val ?_
    refine Go.iastoreG (pc' := 79) (i := 5) (W' := (DW d r s aq ao aa av ai ah ab hr hs mx ct us fr sr1 ss1 qs os ats' vs ids hp1 tb R1 S1 ++ X)) d6_78 rfl h5 rfl rfl ?_
    refine Go.aloadN (pc' := 80) d6_79 rfl rfl rfl ?_
    refine Go.getF (pc' := 83) (i := 0) (j := 9) (v := (.ref av)) (host := "") d6_80 (Or.inl (hw _ (List.mem_of_getElem? (i := 35) rfl))) rfl rfl rfl ?_
    refine Go.iloadN (pc' := 84) d6_83 rfl rfl ?_
    refine Go.aloadN (pc' := 85) d6_84 rfl rfl rfl ?_
    refine Go.callV (pc' := 88) (W1 := 2) (cells' := 0) (slots' := 0) (argsL := []) (rest := [(.int sl), (.ref av)]) (y' := (⟨"com/example/pulld/pulld/broker/InFlight", "visibleAt", "()J"⟩ : MethodName)) (a := f) (i := j + 12) d6_85 (hw _ (List.mem_of_getElem? (i := 121) rfl)) (hw _ (List.mem_of_getElem? (i := 122) rfl)) (hw _ (List.mem_of_getElem? (i := 124) rfl)) (hw _ (List.mem_of_getElem? (i := 123) rfl)) (hw _ (List.mem_of_getElem? (i := 47) rfl)) (hw _ (List.mem_of_getElem? (i := 125) rfl)) (by decide) hX (rm16 l Z n0 w0 hw f (j + 12) fq fo fa fv fi (DW d r s aq ao aa av ai ah ab hr hs mx ct us fr sr1 ss1 qs os ats' vs ids hp1 tb R1 S1 ++ X) hX) (by decide) (by decide) rfl (lenOf pd__28_29J rfl) rfl (Nat.le_of_eq rfl) (by decide) (by decide) rfl rfl rfl (fun v W' hF => ?_)
    obtain ⟨rfl, rfl⟩ := hF
    refine Go.val ?_
    refine Go.lastoreG (pc' := 89) (i := 6) (W' := (DW d r s aq ao aa av ai ah ab hr hs mx ct us fr sr1 ss1 qs os ats' vs' ids hp1 tb R1 S1 ++ X)) d6_88 rfl h6 rfl rfl ?_
    refine Go.aloadN (pc' := 90) d6_89 rfl rfl rfl ?_
    refine Go.getF (pc' := 93) (i := 0) (j := 10) (v := (.ref ai)) (host := "") d6_90 (Or.inl (hw _ (List.mem_of_getElem? (i := 37) rfl))) rfl rfl rfl ?_
    refine Go.iloadN (pc' := 94) d6_93 rfl rfl ?_
    refine Go.aloadN (pc' := 95) d6_94 rfl rfl rfl ?_
    refine Go.callV (pc' := 98) (W1 := 2) (cells' := 0) (slots' := 0) (argsL := []) (rest := [(.int sl), (.ref ai)]) (y' := (⟨"com/example/pulld/pulld/broker/InFlight", "id", "()J"⟩ : MethodName)) (a := f) (i := j + 12) d6_95 (hw _ (List.mem_of_getElem? (i := 126) rfl)) (hw _ (List.mem_of_getElem? (i := 127) rfl)) (hw _ (List.mem_of_getElem? (i := 129) rfl)) (hw _ (List.mem_of_getElem? (i := 128) rfl)) (hw _ (List.mem_of_getElem? (i := 47) rfl)) (hw _ (List.mem_of_getElem? (i := 130) rfl)) (by decide) hX (rm17 l Z n0 w0 hw f (j + 12) fq fo fa fv fi (DW d r s aq ao aa av ai ah ab hr hs mx ct us fr sr1 ss1 qs os ats' vs' ids hp1 tb R1 S1 ++ X) hX) (by decide) (by decide) rfl (lenOf pd__28_29J rfl) rfl (Nat.le_of_eq rfl) (by decide) (by decide) rfl rfl rfl (fun v W' hF => ?_)
    obtain ⟨rfl, rfl⟩ := hF
    refine Go.val ?_
    refine Go.lastoreG (pc' := 99) (i := 7) (W' := (DW d r s aq ao aa av ai ah ab hr hs mx ct us fr sr1 ss1 qs os ats' vs' ids' hp1 tb R1 S1 ++ X)) d6_98 rfl h7 rfl rfl ?_
    refine Go.aloadN (pc' := 100) d6_99 rfl rfl rfl ?_
    refine Go.iloadN (pc' := 101) d6_100 rfl rfl ?_
    dsimp only [addD] at hA
    obtain ⟨a', ha', hA⟩ := own_bind hA
    by_cases hlm : a' < mx
    ·
      rw [if_pos hlm] at hA
      obtain ⟨⟨A1, A2⟩, hz, hA⟩ := own_bind hA
      have hE := Option.some.inj hA
      dsimp only at hE
      refine Go.callP (pc' := 104) (W1 := 0) (cells' := 0) (slots' := 0) (argsL := [(.int sl)]) (rest := []) (y' := (⟨"com/example/pulld/pulld/broker/InFlightDeliveries", "byVisibleAt", "(I)Lcom/example/pulld/pulld/broker/InFlightDeliveries$ByVisibleAt;"⟩ : MethodName)) (a := d) (i := 0) d6_101 (hw _ (List.mem_of_getElem? (i := 131) rfl)) (hw _ (List.mem_of_getElem? (i := 132) rfl)) (hw _ (List.mem_of_getElem? (i := 133) rfl)) (hw _ (List.mem_of_getElem? (i := 2) rfl)) (hw _ (List.mem_of_getElem? (i := 3) rfl)) (hw _ (List.mem_of_getElem? (i := 134) rfl)) (by decide) rfl (byR l Z n0 w0 hw sl d r s aq ao aa av ai ah ab hr hs mx ct us fr sr1 ss1 qs os ats' vs' ids' hp1 tb R1 S1 X a' ha' hlm) (by decide) (by decide) rfl (lenOf pd__28I_29Lcom_2fexample_2fpulld_2fpulld_2fbroker_2fInFlightDeliveries_24ByVisibleAt_3b rfl) rfl (Nat.le_of_eq rfl) (by decide) (by decide) rfl rfl rfl (fun v W' hF => ?_)
      obtain ⟨rfl, rfl⟩ := hF
      refine Go.val ?_
      refine Go.iloadN (pc' := 105) d6_104 rfl rfl ?_
      refine Go.callPR (pc' := 108) (W1 := 0) (cells' := 0) (slots' := 0) (argsL := [(.int sl)]) (rest := []) (y' := (⟨"com/example/pulld/pulld/broker/InFlightDeliveries$ByVisibleAt", "add", "(I)V"⟩ : MethodName)) (a := r) (i := 1) d6_105 (hw _ (List.mem_of_getElem? (i := 135) rfl)) (hw _ (List.mem_of_getElem? (i := 136) rfl)) (hw _ (List.mem_of_getElem? (i := 137) rfl)) (hw _ (List.mem_of_getElem? (i := 11) rfl)) (hw _ (List.mem_of_getElem? (i := 12) rfl)) (hw _ (List.mem_of_getElem? (i := 138) rfl)) (by decide) rfl (addr l Z n0 w0 hw sl d r s aq ao aa av ai ah ab hr hs mx ct us fr sr1 ss1 qs os ats' vs' ids' hp1 tb R1 S1 X A1 A2 hz) (by decide) (by decide) rfl (lenOf pd__28I_29V rfl) rfl (Nat.le_of_eq rfl) (by decide) (by decide) rfl rfl rfl (fun v W' hF => ?_)
      obtain ⟨rfl, rfl⟩ := hF
      refine Go.nov ?_
      exact Go.retV d6_108 rfl (by decide) (by decide) ⟨rfl, by cases hE; rfl⟩
    ·
      rw [if_neg hlm] at hA
      obtain ⟨⟨A1, A2⟩, hz, hA⟩ := own_bind hA
      have hE := Option.some.inj hA
      dsimp only at hE
      refine Go.callP (pc' := 104) (W1 := 0) (cells' := 0) (slots' := 0) (argsL := [(.int sl)]) (rest := []) (y' := (⟨"com/example/pulld/pulld/broker/InFlightDeliveries", "byVisibleAt", "(I)Lcom/example/pulld/pulld/broker/InFlightDeliveries$ByVisibleAt;"⟩ : MethodName)) (a := d) (i := 0) d6_101 (hw _ (List.mem_of_getElem? (i := 131) rfl)) (hw _ (List.mem_of_getElem? (i := 132) rfl)) (hw _ (List.mem_of_getElem? (i := 133) rfl)) (hw _ (List.mem_of_getElem? (i := 2) rfl)) (hw _ (List.mem_of_getElem? (i := 3) rfl)) (hw _ (List.mem_of_getElem? (i := 134) rfl)) (by decide) rfl (byS l Z n0 w0 hw sl d r s aq ao aa av ai ah ab hr hs mx ct us fr sr1 ss1 qs os ats' vs' ids' hp1 tb R1 S1 X a' ha' hlm) (by decide) (by decide) rfl (lenOf pd__28I_29Lcom_2fexample_2fpulld_2fpulld_2fbroker_2fInFlightDeliveries_24ByVisibleAt_3b rfl) rfl (Nat.le_of_eq rfl) (by decide) (by decide) rfl rfl rfl (fun v W' hF => ?_)
      obtain ⟨rfl, rfl⟩ := hF
      refine Go.val ?_
      refine Go.iloadN (pc' := 105) d6_104 rfl rfl ?_
      refine Go.callPR (pc' := 108) (W1 := 0) (cells' := 0) (slots' := 0) (argsL := [(.int sl)]) (rest := []) (y' := (⟨"com/example/pulld/pulld/broker/InFlightDeliveries$ByVisibleAt", "add", "(I)V"⟩ : MethodName)) (a := s) (i := 2) d6_105 (hw _ (List.mem_of_getElem? (i := 135) rfl)) (hw _ (List.mem_of_getElem? (i := 136) rfl)) (hw _ (List.mem_of_getElem? (i := 137) rfl)) (hw _ (List.mem_of_getElem? (i := 11) rfl)) (hw _ (List.mem_of_getElem? (i := 12) rfl)) (hw _ (List.mem_of_getElem? (i := 138) rfl)) (by decide) rfl (adds l Z n0 w0 hw sl d r s aq ao aa av ai ah ab hr hs mx ct us fr sr1 ss1 qs os ats' vs' ids' hp1 tb R1 S1 X A1 A2 hz) (by decide) (by decide) rfl (lenOf pd__28I_29V rfl) rfl (Nat.le_of_eq rfl) (by decide) (by decide) rfl rfl rfl (fun v W' hF => ?_)
      obtain ⟨rfl, rfl⟩ := hF
      refine Go.nov ?_
      exact Go.retV d6_108 rfl (by decide) (by decide) ⟨rfl, by cases hE; rfl⟩
  refine Go.aloadN (pc' := 1) d6_0 rfl rfl rfl ?_
  refine Go.aloadN (pc' := 2) d6_1 rfl rfl rfl ?_
  refine Go.callV (pc' := 5) (W1 := 1) (cells' := 0) (slots' := 0) (argsL := []) (rest := [(.ref d)]) (y' := (⟨"com/example/pulld/pulld/broker/InFlight", "queue", "()I"⟩ : MethodName)) (a := f) (i := j + 12) d6_2 (hw _ (List.mem_of_getElem? (i := 74) rfl)) (hw _ (List.mem_of_getElem? (i := 75) rfl)) (hw _ (List.mem_of_getElem? (i := 77) rfl)) (hw _ (List.mem_of_getElem? (i := 76) rfl)) (hw _ (List.mem_of_getElem? (i := 47) rfl)) (hw _ (List.mem_of_getElem? (i := 78) rfl)) (by decide) hX (rm7 l Z n0 w0 hw f (j + 12) fq fo fa fv fi (DW d r s aq ao aa av ai ah ab hr hs mx ct us fr sr ss qs os ats vs ids hp tb R S ++ X) hX) (by decide) (by decide) rfl (lenOf pd__28_29I rfl) rfl (Nat.le_of_eq rfl) (by decide) (by decide) rfl rfl rfl (fun v W' hF => ?_)
  obtain ⟨rfl, rfl⟩ := hF
  refine Go.val ?_
  refine Go.aloadN (pc' := 6) d6_5 rfl rfl rfl ?_
  refine Go.callV (pc' := 9) (W1 := 2) (cells' := 0) (slots' := 0) (argsL := []) (rest := [(.int fq), (.ref d)]) (y' := (⟨"com/example/pulld/pulld/broker/InFlight", "offset", "()J"⟩ : MethodName)) (a := f) (i := j + 12) d6_6 (hw _ (List.mem_of_getElem? (i := 79) rfl)) (hw _ (List.mem_of_getElem? (i := 80) rfl)) (hw _ (List.mem_of_getElem? (i := 82) rfl)) (hw _ (List.mem_of_getElem? (i := 81) rfl)) (hw _ (List.mem_of_getElem? (i := 47) rfl)) (hw _ (List.mem_of_getElem? (i := 83) rfl)) (by decide) hX (rm8 l Z n0 w0 hw f (j + 12) fq fo fa fv fi (DW d r s aq ao aa av ai ah ab hr hs mx ct us fr sr ss qs os ats vs ids hp tb R S ++ X) hX) (by decide) (by decide) rfl (lenOf pd__28_29J rfl) rfl (Nat.le_of_eq rfl) (by decide) (by decide) rfl rfl rfl (fun v W' hF => ?_)
  obtain ⟨rfl, rfl⟩ := hF
  refine Go.val ?_
  refine Go.callP (pc' := 12) (W1 := 0) (cells' := 0) (slots' := 0) (argsL := [(.int fq), (.long fo)]) (rest := []) (y' := (⟨"com/example/pulld/pulld/broker/InFlightDeliveries", "slotOf", "(IJ)I"⟩ : MethodName)) (a := d) (i := 0) d6_9 (hw _ (List.mem_of_getElem? (i := 84) rfl)) (hw _ (List.mem_of_getElem? (i := 85) rfl)) (hw _ (List.mem_of_getElem? (i := 86) rfl)) (hw _ (List.mem_of_getElem? (i := 2) rfl)) (hw _ (List.mem_of_getElem? (i := 3) rfl)) (hw _ (List.mem_of_getElem? (i := 87) rfl)) (by decide) rfl (rm9 l Z n0 w0 hw fq fo d r s aq ao aa av ai ah ab hr hs mx ct us fr sr ss qs os ats vs ids hp tb R S X sl h1) (by decide) (by decide) rfl (lenOf pd__28IJ_29I rfl) rfl (Nat.le_of_eq rfl) (by decide) (by decide) rfl rfl rfl (fun v W' hF => ?_)
  obtain ⟨rfl, rfl⟩ := hF
  refine Go.val ?_
  refine Go.istoreN (pc' := 13) (ls' := #[.val (.ref d), .val (.ref f), .val (.int sl)]) d6_12 rfl rfl ?_
  refine Go.iloadN (pc' := 14) d6_13 rfl rfl ?_
  refine Go.if_lt (pcY := 29) (pcN := 17) d6_14 (by decide) (by decide) rfl (fun hc14 => absurd hc14 hsl) (fun hc14 => ?_)
  refine Go.aloadN (pc' := 18) d6_17 rfl rfl rfl ?_
  refine Go.iloadN (pc' := 19) d6_18 rfl rfl ?_
  dsimp only [remD] at hM
  obtain ⟨a', ha', hM⟩ := own_bind hM
  by_cases hlm : a' < mx
  ·
    rw [if_pos hlm] at hM
    obtain ⟨⟨A1, A2⟩, hz, hM⟩ := own_bind hM
    have hE := Option.some.inj hM
    dsimp only at hE
    refine Go.callP (pc' := 22) (W1 := 0) (cells' := 0) (slots' := 0) (argsL := [(.int sl)]) (rest := []) (y' := (⟨"com/example/pulld/pulld/broker/InFlightDeliveries", "byVisibleAt", "(I)Lcom/example/pulld/pulld/broker/InFlightDeliveries$ByVisibleAt;"⟩ : MethodName)) (a := d) (i := 0) d6_19 (hw _ (List.mem_of_getElem? (i := 131) rfl)) (hw _ (List.mem_of_getElem? (i := 132) rfl)) (hw _ (List.mem_of_getElem? (i := 133) rfl)) (hw _ (List.mem_of_getElem? (i := 2) rfl)) (hw _ (List.mem_of_getElem? (i := 3) rfl)) (hw _ (List.mem_of_getElem? (i := 134) rfl)) (by decide) rfl (byR l Z n0 w0 hw sl d r s aq ao aa av ai ah ab hr hs mx ct us fr sr ss qs os ats vs ids hp tb R S X a' ha' hlm) (by decide) (by decide) rfl (lenOf pd__28I_29Lcom_2fexample_2fpulld_2fpulld_2fbroker_2fInFlightDeliveries_24ByVisibleAt_3b rfl) rfl (Nat.le_of_eq rfl) (by decide) (by decide) rfl rfl rfl (fun v W' hF => ?_)
    obtain ⟨rfl, rfl⟩ := hF
    refine Go.val ?_
    refine Go.iloadN (pc' := 23) d6_22 rfl rfl ?_
    refine Go.callPR (pc' := 26) (W1 := 0) (cells' := 0) (slots' := 0) (argsL := [(.int sl)]) (rest := []) (y' := (⟨"com/example/pulld/pulld/broker/InFlightDeliveries$ByVisibleAt", "remove", "(I)V"⟩ : MethodName)) (a := r) (i := 1) d6_23 (hw _ (List.mem_of_getElem? (i := 160) rfl)) (hw _ (List.mem_of_getElem? (i := 161) rfl)) (hw _ (List.mem_of_getElem? (i := 162) rfl)) (hw _ (List.mem_of_getElem? (i := 11) rfl)) (hw _ (List.mem_of_getElem? (i := 12) rfl)) (hw _ (List.mem_of_getElem? (i := 163) rfl)) (by decide) rfl (remr l Z n0 w0 hw sl d r s aq ao aa av ai ah ab hr hs mx ct us fr sr ss qs os ats vs ids hp tb R S X A1 A2 hz) (by decide) (by decide) rfl (lenOf pd__28I_29V rfl) rfl (Nat.le_of_eq rfl) (by decide) (by decide) rfl rfl rfl (fun v W' hF => ?_)
    obtain ⟨rfl, rfl⟩ := hF
    refine Go.nov ?_
    refine Go.goto (pc' := 69) d6_26 (by decide) (by decide) ?_
    exact k69 _ _ _ _ _ (by rw [hE]; exact hA)
  ·
    rw [if_neg hlm] at hM
    obtain ⟨⟨A1, A2⟩, hz, hM⟩ := own_bind hM
    have hE := Option.some.inj hM
    dsimp only at hE
    refine Go.callP (pc' := 22) (W1 := 0) (cells' := 0) (slots' := 0) (argsL := [(.int sl)]) (rest := []) (y' := (⟨"com/example/pulld/pulld/broker/InFlightDeliveries", "byVisibleAt", "(I)Lcom/example/pulld/pulld/broker/InFlightDeliveries$ByVisibleAt;"⟩ : MethodName)) (a := d) (i := 0) d6_19 (hw _ (List.mem_of_getElem? (i := 131) rfl)) (hw _ (List.mem_of_getElem? (i := 132) rfl)) (hw _ (List.mem_of_getElem? (i := 133) rfl)) (hw _ (List.mem_of_getElem? (i := 2) rfl)) (hw _ (List.mem_of_getElem? (i := 3) rfl)) (hw _ (List.mem_of_getElem? (i := 134) rfl)) (by decide) rfl (byS l Z n0 w0 hw sl d r s aq ao aa av ai ah ab hr hs mx ct us fr sr ss qs os ats vs ids hp tb R S X a' ha' hlm) (by decide) (by decide) rfl (lenOf pd__28I_29Lcom_2fexample_2fpulld_2fpulld_2fbroker_2fInFlightDeliveries_24ByVisibleAt_3b rfl) rfl (Nat.le_of_eq rfl) (by decide) (by decide) rfl rfl rfl (fun v W' hF => ?_)
    obtain ⟨rfl, rfl⟩ := hF
    refine Go.val ?_
    refine Go.iloadN (pc' := 23) d6_22 rfl rfl ?_
    refine Go.callPR (pc' := 26) (W1 := 0) (cells' := 0) (slots' := 0) (argsL := [(.int sl)]) (rest := []) (y' := (⟨"com/example/pulld/pulld/broker/InFlightDeliveries$ByVisibleAt", "remove", "(I)V"⟩ : MethodName)) (a := s) (i := 2) d6_23 (hw _ (List.mem_of_getElem? (i := 160) rfl)) (hw _ (List.mem_of_getElem? (i := 161) rfl)) (hw _ (List.mem_of_getElem? (i := 162) rfl)) (hw _ (List.mem_of_getElem? (i := 11) rfl)) (hw _ (List.mem_of_getElem? (i := 12) rfl)) (hw _ (List.mem_of_getElem? (i := 163) rfl)) (by decide) rfl (rems l Z n0 w0 hw sl d r s aq ao aa av ai ah ab hr hs mx ct us fr sr ss qs os ats vs ids hp tb R S X A1 A2 hz) (by decide) (by decide) rfl (lenOf pd__28I_29V rfl) rfl (Nat.le_of_eq rfl) (by decide) (by decide) rfl rfl rfl (fun v W' hF => ?_)
    obtain ⟨rfl, rfl⟩ := hF
    refine Go.nov ?_
    refine Go.goto (pc' := 69) d6_26 (by decide) (by decide) ?_
    exact k69 _ _ _ _ _ (by rw [hE]; exact hA)
theorem d26_0 : decode prog_12_method_8_code 0 = .ok (.aload_n 0, 1) := by decide +kernel
theorem d26_1 : decode prog_12_method_8_code 1 = .ok (.iload_n 1, 1) := by decide +kernel
theorem d26_2 : decode prog_12_method_8_code 2 = .ok (.lload_n 2, 1) := by decide +kernel
theorem d26_3 : decode prog_12_method_8_code 3 = .ok (.invokevirtual 68, 3) := by decide +kernel
theorem d26_6 : decode prog_12_method_8_code 6 = .ok (.istore 4, 2) := by decide +kernel
theorem d26_8 : decode prog_12_method_8_code 8 = .ok (.iload 4, 2) := by decide +kernel
theorem d26_10 : decode prog_12_method_8_code 10 = .ok (.ifCond .ge 4, 3) := by decide +kernel
theorem d26_14 : decode prog_12_method_8_code 14 = .ok (.aload_n 0, 1) := by decide +kernel
theorem d26_15 : decode prog_12_method_8_code 15 = .ok (.iload 4, 2) := by decide +kernel
theorem d26_17 : decode prog_12_method_8_code 17 = .ok (.invokevirtual 60, 3) := by decide +kernel
theorem d26_20 : decode prog_12_method_8_code 20 = .ok (.iload 4, 2) := by decide +kernel
theorem d26_22 : decode prog_12_method_8_code 22 = .ok (.invokevirtual 86, 3) := by decide +kernel
theorem d26_25 : decode prog_12_method_8_code 25 = .ok (.aload_n 0, 1) := by decide +kernel
theorem d26_26 : decode prog_12_method_8_code 26 = .ok (.iload 4, 2) := by decide +kernel
theorem d26_28 : decode prog_12_method_8_code 28 = .ok (.invokevirtual 104, 3) := by decide +kernel
theorem d26_31 : decode prog_12_method_8_code 31 = .ok (.aload_n 0, 1) := by decide +kernel
theorem d26_32 : decode prog_12_method_8_code 32 = .ok (.getfield 25, 3) := by decide +kernel
theorem d26_35 : decode prog_12_method_8_code 35 = .ok (.iload 4, 2) := by decide +kernel
theorem d26_37 : decode prog_12_method_8_code 37 = .ok (.iconst (-1), 1) := by decide +kernel
theorem d26_38 : decode prog_12_method_8_code 38 = .ok (.iastore, 1) := by decide +kernel
theorem d26_39 : decode prog_12_method_8_code 39 = .ok (.aload_n 0, 1) := by decide +kernel
theorem d26_40 : decode prog_12_method_8_code 40 = .ok (.getfield 42, 3) := by decide +kernel
theorem d26_43 : decode prog_12_method_8_code 43 = .ok (.iload 4, 2) := by decide +kernel
theorem d26_45 : decode prog_12_method_8_code 45 = .ok (.aload_n 0, 1) := by decide +kernel
theorem d26_46 : decode prog_12_method_8_code 46 = .ok (.getfield 21, 3) := by decide +kernel
theorem d26_49 : decode prog_12_method_8_code 49 = .ok (.iastore, 1) := by decide +kernel
theorem d26_50 : decode prog_12_method_8_code 50 = .ok (.aload_n 0, 1) := by decide +kernel
theorem d26_51 : decode prog_12_method_8_code 51 = .ok (.iload 4, 2) := by decide +kernel
theorem d26_53 : decode prog_12_method_8_code 53 = .ok (.putfield 21, 3) := by decide +kernel
theorem d26_56 : decode prog_12_method_8_code 56 = .ok (.aload_n 0, 1) := by decide +kernel
theorem d26_57 : decode prog_12_method_8_code 57 = .ok (.dup, 1) := by decide +kernel
theorem d26_58 : decode prog_12_method_8_code 58 = .ok (.getfield 51, 3) := by decide +kernel
theorem d26_61 : decode prog_12_method_8_code 61 = .ok (.iconst 1, 1) := by decide +kernel
theorem d26_62 : decode prog_12_method_8_code 62 = .ok (.isub, 1) := by decide +kernel
theorem d26_63 : decode prog_12_method_8_code 63 = .ok (.putfield 51, 3) := by decide +kernel
theorem d26_66 : decode prog_12_method_8_code 66 = .ok (.aload_n 0, 1) := by decide +kernel
theorem d26_67 : decode prog_12_method_8_code 67 = .ok (.getfield 25, 3) := by decide +kernel
theorem d26_70 : decode prog_12_method_8_code 70 = .ok (.arraylength, 1) := by decide +kernel
theorem d26_71 : decode prog_12_method_8_code 71 = .ok (.bipush 12, 2) := by decide +kernel
theorem d26_73 : decode prog_12_method_8_code 73 = .ok (.if_icmp .le 32, 3) := by decide +kernel
theorem d26_105 : decode prog_12_method_8_code 105 = .ok (.return_, 1) := by decide +kernel
set_option maxRecDepth 65536 in
set_option maxHeartbeats 40000000 in
theorem rm26 (l : Launch) (Z : State) (n0 : Nat) (w0 : Array Value) (hw : ∀ d ∈ tables_1, d.before w0 Z = true) (p1 : Int32) (q2 : Int64) (d r s aq ao aa av ai ah ab hr hs : Addr) (mx ct us fr sr ss : Int32) (qs : List Int32) (os : List Int64) (ats : List Int32) (vs ids : List Int64) (hp tb R S : List Int32) (X : Wld) (sl : Int32) (tb' qs' hp1 : List Int32) (R' : List Int32) (sr' : Int32) (S' : List Int32) (ss' : Int32) (hp' : List Int32) (h1 : slotF p1 q2 qs os tb = some sl) (hsl : ¬ sl < 0) (hM : remD qs os vs ats mx sl (R, sr, S, ss, hp) = some (R', sr', S', ss', hp1)) (h3 : unlF qs os tb sl = some tb') (h4 : wrA qs sl (-1) = some qs') (h5 : wrA hp1 sl fr = some hp') (h6 : ¬ 12 < qs'.length.toInt32) :
    Meets l Z n0 (⟨"com/example/pulld/pulld/broker/InFlightDeliveries", "remove", "(IJ)V"⟩ : MethodName) prog_12_method_8_code 5 none ({ frames := 4, cells := 0, slots := 0, locals := 62 } : Room) [] #[(.ref d), (.int p1), (.long q2)] (DW d r s aq ao aa av ai ah ab hr hs mx ct us fr sr ss qs os ats vs ids hp tb R S ++ X) (fun v W' => v = none ∧ W' = (DW d r s aq ao aa av ai ah ab hr hs mx (ct - (1 : Int32)) us sl sr' ss' qs' os ats vs ids hp' tb' R' S' ++ X)) := by
  refine Meets.of_go (ls := #[.val (.ref d), .val (.int p1), .val (.long q2), .second, .unset]) (plainFor_of_name (by first | (simp [plainName, overriddenIn]; done) | decide +kernel)) (fun m => by first | (simp [entryFrame, mkF, argsToLocals, Value.category, maxLocals]; done) | rfl) (fun D => ?_)
  have k25 : Go l Z n0 ({ frames := 4, cells := 0, slots := 0, locals := 62 } : Room) prog_12_method_8_code 5 (⟨"com/example/pulld/pulld/broker/InFlightDeliveries", "remove", "(IJ)V"⟩ : MethodName) none D (DW d r s aq ao aa av ai ah ab hr hs mx ct us fr sr' ss' qs os ats vs ids hp1 tb R' S' ++ X) 0 0 25 #[.val (.ref d), .val (.int p1), .val (.long q2), .second, .val (.int sl)] [] (fun v W' => v = none ∧ W' = (DW d r s aq ao aa av ai ah ab hr hs mx (ct - (1 : Int32)) us sl sr' ss' qs' os ats vs ids hp' tb' R' S' ++ X)) := by
    refine Go.aloadN (pc' := 26) d26_25 rfl rfl rfl ?_
    refine Go.iload (pc' := 28) d26_26 rfl rfl ?_
    refine Go.callP (pc' := 31) (W1 := 0) (cells' := 0) (slots' := 0) (argsL := [(.int sl)]) (rest := []) (y' := (⟨"com/example/pulld/pulld/broker/InFlightDeliveries", "unlink", "(I)V"⟩ : MethodName)) (a := d) (i := 0) d26_28 (hw _ (List.mem_of_getElem? (i := 169) rfl)) (hw _ (List.mem_of_getElem? (i := 170) rfl)) (hw _ (List.mem_of_getElem? (i := 171) rfl)) (hw _ (List.mem_of_getElem? (i := 2) rfl)) (hw _ (List.mem_of_getElem? (i := 3) rfl)) (hw _ (List.mem_of_getElem? (i := 172) rfl)) (by decide) rfl (rm27 l Z n0 w0 hw sl d r s aq ao aa av ai ah ab hr hs mx ct us fr sr' ss' qs os ats vs ids hp1 tb R' S' X tb' h3) (by decide) (by decide) rfl (lenOf pd__28I_29V rfl) rfl (Nat.le_of_eq rfl) (by decide) (by decide) rfl rfl rfl (fun v W' hF => ?_)
    obtain ⟨rfl, rfl⟩ := hF
    refine Go.nov ?_
    refine Go.aloadN (pc' := 32) d26_31 rfl rfl rfl ?_
    refine Go.getF (pc' := 35) (i := 0) (j := 6) (v := (.ref aq)) (host := "") d26_32 (Or.inl (hw _ (List.mem_of_getElem? (i := 28) rfl))) rfl rfl rfl ?_
    refine Go.iload (pc' := 37) d26_35 rfl rfl ?_
    refine Go.iconst (pc' := 38) (v := (-1 : Int32)) d26_37 rfl rfl ?_
    refine Go.iastoreG (pc' := 39) (i := 3) (W' := (DW d r s aq ao aa av ai ah ab hr hs mx ct us fr sr' ss' qs' os ats vs ids hp1 tb' R' S' ++ X)) d26_38 rfl h4 rfl rfl ?_
    refine Go.aloadN (pc' := 40) d26_39 rfl rfl rfl ?_
    refine Go.getF (pc' := 43) (i := 0) (j := 11) (v := (.ref ah)) (host := "") d26_40 (Or.inl (hw _ (List.mem_of_getElem? (i := 39) rfl))) rfl rfl rfl ?_
    refine Go.iload (pc' := 45) d26_43 rfl rfl ?_
    refine Go.aloadN (pc' := 46) d26_45 rfl rfl rfl ?_
    refine Go.getF (pc' := 49) (i := 0) (j := 5) (v := (.int fr)) (host := "") d26_46 (Or.inl (hw _ (List.mem_of_getElem? (i := 26) rfl))) rfl rfl rfl ?_
    refine Go.iastoreG (pc' := 50) (i := 8) (W' := (DW d r s aq ao aa av ai ah ab hr hs mx ct us fr sr' ss' qs' os ats vs ids hp' tb' R' S' ++ X)) d26_49 rfl h5 rfl rfl ?_
    refine Go.aloadN (pc' := 51) d26_50 rfl rfl rfl ?_
    refine Go.iload (pc' := 53) d26_51 rfl rfl ?_
    refine Go.putF (pc' := 56) (i := 0) (j := 5) (ty := .int) (W' := (DW d r s aq ao aa av ai ah ab hr hs mx ct us sl sr' ss' qs' os ats vs ids hp' tb' R' S' ++ X)) (host := "") d26_53 (Or.inl (hw _ (List.mem_of_getElem? (i := 26) rfl))) (Or.inl (hw _ (List.mem_of_getElem? (i := 27) rfl))) (hw _ (List.mem_of_getElem? (i := 2) rfl)) rfl rfl (by decide) rfl rfl rfl rfl ?_
    refine Go.aloadN (pc' := 57) d26_56 rfl rfl rfl ?_
    refine Go.dup (pc' := 58) d26_57 rfl rfl ?_
    refine Go.getF (pc' := 61) (i := 0) (j := 3) (v := (.int ct)) (host := "") d26_58 (Or.inl (hw _ (List.mem_of_getElem? (i := 114) rfl))) rfl rfl rfl ?_
    refine Go.iconst (pc' := 62) (v := (1 : Int32)) d26_61 rfl rfl ?_
    refine Go.isub (pc' := 63) d26_62 rfl ?_
    refine Go.putF (pc' := 66) (i := 0) (j := 3) (ty := .int) (W' := (DW d r s aq ao aa av ai ah ab hr hs mx (ct - (1 : Int32)) us sl sr' ss' qs' os ats vs ids hp' tb' R' S' ++ X)) (host := "") d26_63 (Or.inl (hw _ (List.mem_of_getElem? (i := 114) rfl))) (Or.inl (hw _ (List.mem_of_getElem? (i := 115) rfl))) (hw _ (List.mem_of_getElem? (i := 2) rfl)) rfl rfl (by decide) rfl rfl rfl rfl ?_
    refine Go.aloadN (pc' := 67) d26_66 rfl rfl rfl ?_
    refine Go.getF (pc' := 70) (i := 0) (j := 6) (v := (.ref aq)) (host := "") d26_67 (Or.inl (hw _ (List.mem_of_getElem? (i := 28) rfl))) rfl rfl rfl ?_
    refine Go.alenI (pc' := 71) (i := 3) (n := qs'.length.toInt32) d26_70 rfl rfl rfl ?_
    refine Go.bipush (pc' := 73) (v := (12 : Int32)) d26_71 rfl rfl ?_
    refine Go.icmp_le (pcY := 105) (pcN := 76) d26_73 (by decide) (by decide) rfl (fun hc73 => ?_) (fun hc73 => absurd hc73 h6)
    exact Go.retV d26_105 rfl (by decide) (by decide) ⟨rfl, rfl⟩
  refine Go.aloadN (pc' := 1) d26_0 rfl rfl rfl ?_
  refine Go.iloadN (pc' := 2) d26_1 rfl rfl ?_
  refine Go.lloadN (pc' := 3) d26_2 rfl rfl ?_
  refine Go.callP (pc' := 6) (W1 := 0) (cells' := 0) (slots' := 0) (argsL := [(.int p1), (.long q2)]) (rest := []) (y' := (⟨"com/example/pulld/pulld/broker/InFlightDeliveries", "slotOf", "(IJ)I"⟩ : MethodName)) (a := d) (i := 0) d26_3 (hw _ (List.mem_of_getElem? (i := 84) rfl)) (hw _ (List.mem_of_getElem? (i := 85) rfl)) (hw _ (List.mem_of_getElem? (i := 86) rfl)) (hw _ (List.mem_of_getElem? (i := 2) rfl)) (hw _ (List.mem_of_getElem? (i := 3) rfl)) (hw _ (List.mem_of_getElem? (i := 87) rfl)) (by decide) rfl (rm9 l Z n0 w0 hw p1 q2 d r s aq ao aa av ai ah ab hr hs mx ct us fr sr ss qs os ats vs ids hp tb R S X sl h1) (by decide) (by decide) rfl (lenOf pd__28IJ_29I rfl) rfl (Nat.le_of_eq rfl) (by decide) (by decide) rfl rfl rfl (fun v W' hF => ?_)
  obtain ⟨rfl, rfl⟩ := hF
  refine Go.val ?_
  refine Go.istore (pc' := 8) (ls' := #[.val (.ref d), .val (.int p1), .val (.long q2), .second, .val (.int sl)]) d26_6 rfl rfl ?_
  refine Go.iload (pc' := 10) d26_8 rfl rfl ?_
  refine Go.if_ge (pcY := 14) (pcN := 13) d26_10 (by decide) (by decide) rfl (fun hc10 => ?_) (fun hc10 => absurd hc10 hsl)
  refine Go.aloadN (pc' := 15) d26_14 rfl rfl rfl ?_
  refine Go.iload (pc' := 17) d26_15 rfl rfl ?_
  dsimp only [remD] at hM
  obtain ⟨a', ha', hM⟩ := own_bind hM
  by_cases hlm : a' < mx
  ·
    rw [if_pos hlm] at hM
    obtain ⟨⟨A1, A2⟩, hz, hM⟩ := own_bind hM
    have hE := Option.some.inj hM
    dsimp only at hE
    refine Go.callP (pc' := 20) (W1 := 0) (cells' := 0) (slots' := 0) (argsL := [(.int sl)]) (rest := []) (y' := (⟨"com/example/pulld/pulld/broker/InFlightDeliveries", "byVisibleAt", "(I)Lcom/example/pulld/pulld/broker/InFlightDeliveries$ByVisibleAt;"⟩ : MethodName)) (a := d) (i := 0) d26_17 (hw _ (List.mem_of_getElem? (i := 131) rfl)) (hw _ (List.mem_of_getElem? (i := 132) rfl)) (hw _ (List.mem_of_getElem? (i := 133) rfl)) (hw _ (List.mem_of_getElem? (i := 2) rfl)) (hw _ (List.mem_of_getElem? (i := 3) rfl)) (hw _ (List.mem_of_getElem? (i := 134) rfl)) (by decide) rfl (byR l Z n0 w0 hw sl d r s aq ao aa av ai ah ab hr hs mx ct us fr sr ss qs os ats vs ids hp tb R S X a' ha' hlm) (by decide) (by decide) rfl (lenOf pd__28I_29Lcom_2fexample_2fpulld_2fpulld_2fbroker_2fInFlightDeliveries_24ByVisibleAt_3b rfl) rfl (Nat.le_of_eq rfl) (by decide) (by decide) rfl rfl rfl (fun v W' hF => ?_)
    obtain ⟨rfl, rfl⟩ := hF
    refine Go.val ?_
    refine Go.iload (pc' := 22) d26_20 rfl rfl ?_
    refine Go.callPR (pc' := 25) (W1 := 0) (cells' := 0) (slots' := 0) (argsL := [(.int sl)]) (rest := []) (y' := (⟨"com/example/pulld/pulld/broker/InFlightDeliveries$ByVisibleAt", "remove", "(I)V"⟩ : MethodName)) (a := r) (i := 1) d26_22 (hw _ (List.mem_of_getElem? (i := 160) rfl)) (hw _ (List.mem_of_getElem? (i := 161) rfl)) (hw _ (List.mem_of_getElem? (i := 162) rfl)) (hw _ (List.mem_of_getElem? (i := 11) rfl)) (hw _ (List.mem_of_getElem? (i := 12) rfl)) (hw _ (List.mem_of_getElem? (i := 163) rfl)) (by decide) rfl (remr l Z n0 w0 hw sl d r s aq ao aa av ai ah ab hr hs mx ct us fr sr ss qs os ats vs ids hp tb R S X A1 A2 hz) (by decide) (by decide) rfl (lenOf pd__28I_29V rfl) rfl (Nat.le_of_eq rfl) (by decide) (by decide) rfl rfl rfl (fun v W' hF => ?_)
    obtain ⟨rfl, rfl⟩ := hF
    refine Go.nov ?_
    cases hE
    exact k25
  ·
    rw [if_neg hlm] at hM
    obtain ⟨⟨A1, A2⟩, hz, hM⟩ := own_bind hM
    have hE := Option.some.inj hM
    dsimp only at hE
    refine Go.callP (pc' := 20) (W1 := 0) (cells' := 0) (slots' := 0) (argsL := [(.int sl)]) (rest := []) (y' := (⟨"com/example/pulld/pulld/broker/InFlightDeliveries", "byVisibleAt", "(I)Lcom/example/pulld/pulld/broker/InFlightDeliveries$ByVisibleAt;"⟩ : MethodName)) (a := d) (i := 0) d26_17 (hw _ (List.mem_of_getElem? (i := 131) rfl)) (hw _ (List.mem_of_getElem? (i := 132) rfl)) (hw _ (List.mem_of_getElem? (i := 133) rfl)) (hw _ (List.mem_of_getElem? (i := 2) rfl)) (hw _ (List.mem_of_getElem? (i := 3) rfl)) (hw _ (List.mem_of_getElem? (i := 134) rfl)) (by decide) rfl (byS l Z n0 w0 hw sl d r s aq ao aa av ai ah ab hr hs mx ct us fr sr ss qs os ats vs ids hp tb R S X a' ha' hlm) (by decide) (by decide) rfl (lenOf pd__28I_29Lcom_2fexample_2fpulld_2fpulld_2fbroker_2fInFlightDeliveries_24ByVisibleAt_3b rfl) rfl (Nat.le_of_eq rfl) (by decide) (by decide) rfl rfl rfl (fun v W' hF => ?_)
    obtain ⟨rfl, rfl⟩ := hF
    refine Go.val ?_
    refine Go.iload (pc' := 22) d26_20 rfl rfl ?_
    refine Go.callPR (pc' := 25) (W1 := 0) (cells' := 0) (slots' := 0) (argsL := [(.int sl)]) (rest := []) (y' := (⟨"com/example/pulld/pulld/broker/InFlightDeliveries$ByVisibleAt", "remove", "(I)V"⟩ : MethodName)) (a := s) (i := 2) d26_22 (hw _ (List.mem_of_getElem? (i := 160) rfl)) (hw _ (List.mem_of_getElem? (i := 161) rfl)) (hw _ (List.mem_of_getElem? (i := 162) rfl)) (hw _ (List.mem_of_getElem? (i := 11) rfl)) (hw _ (List.mem_of_getElem? (i := 12) rfl)) (hw _ (List.mem_of_getElem? (i := 163) rfl)) (by decide) rfl (rems l Z n0 w0 hw sl d r s aq ao aa av ai ah ab hr hs mx ct us fr sr ss qs os ats vs ids hp tb R S X A1 A2 hz) (by decide) (by decide) rfl (lenOf pd__28I_29V rfl) rfl (Nat.le_of_eq rfl) (by decide) (by decide) rfl rfl rfl (fun v W' hF => ?_)
    obtain ⟨rfl, rfl⟩ := hF
    refine Go.nov ?_
    cases hE
    exact k25
theorem d33_0 : decode prog_12_method_5_code 0 = .ok (.iload_n 1, 1) := by decide +kernel
theorem d33_1 : decode prog_12_method_5_code 1 = .ok (.aload_n 0, 1) := by decide +kernel
theorem d33_2 : decode prog_12_method_5_code 2 = .ok (.getfield 48, 3) := by decide +kernel
theorem d33_5 : decode prog_12_method_5_code 5 = .ok (.if_icmp .eq 57, 3) := by decide +kernel
theorem d33_62 : decode prog_12_method_5_code 62 = .ok (.return_, 1) := by decide +kernel
set_option maxRecDepth 65536 in
set_option maxHeartbeats 40000000 in
theorem max0 (l : Launch) (Z : State) (n0 : Nat) (w0 : Array Value) (hw : ∀ d ∈ tables_1, d.before w0 Z = true) (p1 : Int32) (d r s aq ao aa av ai ah ab hr hs : Addr) (mx ct us fr sr ss : Int32) (qs : List Int32) (os : List Int64) (ats : List Int32) (vs ids : List Int64) (hp tb R S : List Int32) (X : Wld) (hq : p1 = mx) :
    Meets l Z n0 (⟨"com/example/pulld/pulld/broker/InFlightDeliveries", "maxAttempts", "(I)V"⟩ : MethodName) prog_12_method_5_code 3 none ({ frames := 0, cells := 0, slots := 0, locals := 0 } : Room) [] #[(.ref d), (.int p1)] (DW d r s aq ao aa av ai ah ab hr hs mx ct us fr sr ss qs os ats vs ids hp tb R S ++ X) (fun v W' => v = none ∧ W' = (DW d r s aq ao aa av ai ah ab hr hs mx ct us fr sr ss qs os ats vs ids hp tb R S ++ X)) := by
  refine Meets.of_go (ls := #[.val (.ref d), .val (.int p1), .unset]) (plainFor_of_name (by first | (simp [plainName, overriddenIn]; done) | decide +kernel)) (fun m => by first | (simp [entryFrame, mkF, argsToLocals, Value.category, maxLocals]; done) | rfl) (fun D => ?_)
  refine Go.iloadN (pc' := 1) d33_0 rfl rfl ?_
  refine Go.aloadN (pc' := 2) d33_1 rfl rfl rfl ?_
  refine Go.getF (pc' := 5) (i := 0) (j := 2) (v := (.int mx)) (host := "") d33_2 (Or.inl (hw _ (List.mem_of_getElem? (i := 43) rfl))) rfl rfl rfl ?_
  refine Go.icmp_eq (pcY := 62) (pcN := 8) d33_5 (by decide) (by decide) rfl (fun hc5 => ?_) (fun hc5 => absurd hc5 (Classical.not_not.mpr hq))
  exact Go.retV d33_62 rfl (by decide) (by decide) ⟨rfl, rfl⟩
theorem d33_8 : decode prog_12_method_5_code 8 = .ok (.aload_n 0, 1) := by decide +kernel
theorem d33_9 : decode prog_12_method_5_code 9 = .ok (.iload_n 1, 1) := by decide +kernel
theorem d33_10 : decode prog_12_method_5_code 10 = .ok (.putfield 48, 3) := by decide +kernel
theorem d33_13 : decode prog_12_method_5_code 13 = .ok (.aload_n 0, 1) := by decide +kernel
theorem d33_14 : decode prog_12_method_5_code 14 = .ok (.getfield 12, 3) := by decide +kernel
theorem d33_17 : decode prog_12_method_5_code 17 = .ok (.invokevirtual 54, 3) := by decide +kernel
theorem d33_20 : decode prog_12_method_5_code 20 = .ok (.aload_n 0, 1) := by decide +kernel
theorem d33_21 : decode prog_12_method_5_code 21 = .ok (.getfield 18, 3) := by decide +kernel
theorem d33_24 : decode prog_12_method_5_code 24 = .ok (.invokevirtual 54, 3) := by decide +kernel
theorem d33_27 : decode prog_12_method_5_code 27 = .ok (.iconst 0, 1) := by decide +kernel
theorem d33_28 : decode prog_12_method_5_code 28 = .ok (.istore_n 2, 1) := by decide +kernel
theorem d33_29 : decode prog_12_method_5_code 29 = .ok (.iload_n 2, 1) := by decide +kernel
theorem d33_30 : decode prog_12_method_5_code 30 = .ok (.aload_n 0, 1) := by decide +kernel
theorem d33_31 : decode prog_12_method_5_code 31 = .ok (.getfield 57, 3) := by decide +kernel
theorem d33_34 : decode prog_12_method_5_code 34 = .ok (.if_icmp .ge 28, 3) := by decide +kernel
theorem d33_37 : decode prog_12_method_5_code 37 = .ok (.aload_n 0, 1) := by decide +kernel
theorem d33_38 : decode prog_12_method_5_code 38 = .ok (.getfield 25, 3) := by decide +kernel
theorem d33_41 : decode prog_12_method_5_code 41 = .ok (.iload_n 2, 1) := by decide +kernel
theorem d33_42 : decode prog_12_method_5_code 42 = .ok (.iaload, 1) := by decide +kernel
theorem d33_43 : decode prog_12_method_5_code 43 = .ok (.iconst (-1), 1) := by decide +kernel
theorem d33_44 : decode prog_12_method_5_code 44 = .ok (.if_icmp .eq 12, 3) := by decide +kernel
theorem d33_47 : decode prog_12_method_5_code 47 = .ok (.aload_n 0, 1) := by decide +kernel
theorem d33_48 : decode prog_12_method_5_code 48 = .ok (.iload_n 2, 1) := by decide +kernel
theorem d33_49 : decode prog_12_method_5_code 49 = .ok (.invokevirtual 60, 3) := by decide +kernel
theorem d33_52 : decode prog_12_method_5_code 52 = .ok (.iload_n 2, 1) := by decide +kernel
theorem d33_53 : decode prog_12_method_5_code 53 = .ok (.invokevirtual 64, 3) := by decide +kernel
theorem d33_56 : decode prog_12_method_5_code 56 = .ok (.iinc 2 1, 3) := by decide +kernel
theorem d33_59 : decode prog_12_method_5_code 59 = .ok (.goto (-30), 3) := by decide +kernel
theorem pd__28_29V : parseMethodDescriptor "()V" = some ⟨[], none⟩ := by decide +kernel
set_option maxRecDepth 65536 in
set_option maxHeartbeats 40000000 in
theorem max1 (l : Launch) (Z : State) (n0 : Nat) (w0 : Array Value) (hw : ∀ d ∈ tables_1, d.before w0 Z = true) (p1 : Int32) (d r s aq ao aa av ai ah ab hr hs : Addr) (mx ct us fr sr ss : Int32) (qs : List Int32) (os : List Int64) (ats : List Int32) (vs ids : List Int64) (hp tb R S : List Int32) (X : Wld) (f : Nat) (R' : List Int32) (sr' : Int32) (S' : List Int32) (ss' : Int32) (hp' : List Int32) (hq : ¬ p1 = mx) (hF : maxL qs os vs ats p1 us f 0 (R, 0, S, 0, hp) = some (R', sr', S', ss', hp')) :
    Meets l Z n0 (⟨"com/example/pulld/pulld/broker/InFlightDeliveries", "maxAttempts", "(I)V"⟩ : MethodName) prog_12_method_5_code 3 none ({ frames := 4, cells := 0, slots := 0, locals := 58 } : Room) [] #[(.ref d), (.int p1)] (DW d r s aq ao aa av ai ah ab hr hs mx ct us fr sr ss qs os ats vs ids hp tb R S ++ X) (fun v W' => v = none ∧ W' = (DW d r s aq ao aa av ai ah ab hr hs p1 ct us fr sr' ss' qs os ats vs ids hp' tb R' S' ++ X)) := by
  refine Meets.of_go (ls := #[.val (.ref d), .val (.int p1), .unset]) (plainFor_of_name (by first | (simp [plainName, overriddenIn]; done) | decide +kernel)) (fun m => by first | (simp [entryFrame, mkF, argsToLocals, Value.category, maxLocals]; done) | rfl) (fun D => ?_)
  have k29 : ∀ (f : Nat) (i : Int32) (R : List Int32) (sr : Int32) (S : List Int32) (ss : Int32) (hp : List Int32), maxL qs os vs ats p1 us f i (R, sr, S, ss, hp) = some (R', sr', S', ss', hp') → Go l Z n0 ({ frames := 4, cells := 0, slots := 0, locals := 58 } : Room) prog_12_method_5_code 3 (⟨"com/example/pulld/pulld/broker/InFlightDeliveries", "maxAttempts", "(I)V"⟩ : MethodName) none D (DW d r s aq ao aa av ai ah ab hr hs p1 ct us fr sr ss qs os ats vs ids hp tb R S ++ X) 0 0 29 #[.val (.ref d), .val (.int p1), .val (.int i)] [] (fun v W' => v = none ∧ W' = (DW d r s aq ao aa av ai ah ab hr hs p1 ct us fr sr' ss' qs os ats vs ids hp' tb R' S' ++ X)) := by
    intro f
    induction f with
    | zero => intro i R sr S ss hp h; exact absurd h (by simp [maxL])
    | succ f ih =>
      intro i R sr S ss hp h
      rw [maxL] at h
      refine Go.iloadN (pc' := 30) d33_29 rfl rfl ?_
      refine Go.aloadN (pc' := 31) d33_30 rfl rfl rfl ?_
      refine Go.getF (pc' := 34) (i := 0) (j := 4) (v := (.int us)) (host := "") d33_31 (Or.inl (hw _ (List.mem_of_getElem? (i := 92) rfl))) rfl rfl rfl ?_
      refine Go.icmp_ge (pcY := 62) (pcN := 37) d33_34 (by decide) (by decide) rfl (fun hc34 => ?_) (fun hc34 => ?_)
      ·
        rw [if_neg hc34] at h
        have hE := Option.some.inj h
        exact Go.retV d33_62 rfl (by decide) (by decide) ⟨rfl, by cases hE; rfl⟩
      ·
        rw [if_pos hc34] at h
        obtain ⟨q, hq, h⟩ := own_bind h
        refine Go.aloadN (pc' := 38) d33_37 rfl rfl rfl ?_
        refine Go.getF (pc' := 41) (i := 0) (j := 6) (v := (.ref aq)) (host := "") d33_38 (Or.inl (hw _ (List.mem_of_getElem? (i := 28) rfl))) rfl rfl rfl ?_
        refine Go.iloadN (pc' := 42) d33_41 rfl rfl ?_
        refine Go.ialoadG (pc' := 43) (i := 3) d33_42 rfl hq rfl ?_
        refine Go.iconst (pc' := 44) (v := (-1 : Int32)) d33_43 rfl rfl ?_
        refine Go.icmp_eq (pcY := 56) (pcN := 47) d33_44 (by decide) (by decide) rfl (fun hc44 => ?_) (fun hc44 => ?_)
        ·
          rw [if_pos hc44] at h
          refine Go.iinc (pc' := 59) (ls' := #[.val (.ref d), .val (.int p1), .val (.int (i + (1 : Int32)))]) (z := (1 : Int32)) d33_56 rfl rfl rfl rfl ?_
          refine Go.goto (pc' := 29) d33_59 (by decide) (by decide) ?_
          exact ih _ _ _ _ _ _ h
        ·
          rw [if_neg hc44] at h
          obtain ⟨H2, hA, h⟩ := own_bind h
          refine Go.aloadN (pc' := 48) d33_47 rfl rfl rfl ?_
          refine Go.iloadN (pc' := 49) d33_48 rfl rfl ?_
          dsimp only [addD] at hA
          obtain ⟨a', ha', hA⟩ := own_bind hA
          by_cases hlm : a' < p1
          ·
            rw [if_pos hlm] at hA
            obtain ⟨⟨A1, A2⟩, hz, hA⟩ := own_bind hA
            have hE := Option.some.inj hA
            dsimp only at hE
            refine Go.callP (pc' := 52) (W1 := 0) (cells' := 0) (slots' := 0) (argsL := [(.int i)]) (rest := []) (y' := (⟨"com/example/pulld/pulld/broker/InFlightDeliveries", "byVisibleAt", "(I)Lcom/example/pulld/pulld/broker/InFlightDeliveries$ByVisibleAt;"⟩ : MethodName)) (a := d) (i := 0) d33_49 (hw _ (List.mem_of_getElem? (i := 131) rfl)) (hw _ (List.mem_of_getElem? (i := 132) rfl)) (hw _ (List.mem_of_getElem? (i := 133) rfl)) (hw _ (List.mem_of_getElem? (i := 2) rfl)) (hw _ (List.mem_of_getElem? (i := 3) rfl)) (hw _ (List.mem_of_getElem? (i := 134) rfl)) (by decide) rfl (byR l Z n0 w0 hw i d r s aq ao aa av ai ah ab hr hs p1 ct us fr sr ss qs os ats vs ids hp tb R S X a' ha' hlm) (by decide) (by decide) rfl (lenOf pd__28I_29Lcom_2fexample_2fpulld_2fpulld_2fbroker_2fInFlightDeliveries_24ByVisibleAt_3b rfl) rfl (Nat.le_of_eq rfl) (by decide) (by decide) rfl rfl rfl (fun v W' hF => ?_)
            obtain ⟨rfl, rfl⟩ := hF
            refine Go.val ?_
            refine Go.iloadN (pc' := 53) d33_52 rfl rfl ?_
            refine Go.callPR (pc' := 56) (W1 := 0) (cells' := 0) (slots' := 0) (argsL := [(.int i)]) (rest := []) (y' := (⟨"com/example/pulld/pulld/broker/InFlightDeliveries$ByVisibleAt", "add", "(I)V"⟩ : MethodName)) (a := r) (i := 1) d33_53 (hw _ (List.mem_of_getElem? (i := 135) rfl)) (hw _ (List.mem_of_getElem? (i := 136) rfl)) (hw _ (List.mem_of_getElem? (i := 137) rfl)) (hw _ (List.mem_of_getElem? (i := 11) rfl)) (hw _ (List.mem_of_getElem? (i := 12) rfl)) (hw _ (List.mem_of_getElem? (i := 138) rfl)) (by decide) rfl (addr l Z n0 w0 hw i d r s aq ao aa av ai ah ab hr hs p1 ct us fr sr ss qs os ats vs ids hp tb R S X A1 A2 hz) (by decide) (by decide) rfl (lenOf pd__28I_29V rfl) rfl (Nat.le_of_eq rfl) (by decide) (by decide) rfl rfl rfl (fun v W' hF => ?_)
            obtain ⟨rfl, rfl⟩ := hF
            refine Go.nov ?_
            refine Go.iinc (pc' := 59) (ls' := #[.val (.ref d), .val (.int p1), .val (.int (i + (1 : Int32)))]) (z := (1 : Int32)) d33_56 rfl rfl rfl rfl ?_
            refine Go.goto (pc' := 29) d33_59 (by decide) (by decide) ?_
            exact ih _ _ _ _ _ _ (by rw [hE]; exact h)
          ·
            rw [if_neg hlm] at hA
            obtain ⟨⟨A1, A2⟩, hz, hA⟩ := own_bind hA
            have hE := Option.some.inj hA
            dsimp only at hE
            refine Go.callP (pc' := 52) (W1 := 0) (cells' := 0) (slots' := 0) (argsL := [(.int i)]) (rest := []) (y' := (⟨"com/example/pulld/pulld/broker/InFlightDeliveries", "byVisibleAt", "(I)Lcom/example/pulld/pulld/broker/InFlightDeliveries$ByVisibleAt;"⟩ : MethodName)) (a := d) (i := 0) d33_49 (hw _ (List.mem_of_getElem? (i := 131) rfl)) (hw _ (List.mem_of_getElem? (i := 132) rfl)) (hw _ (List.mem_of_getElem? (i := 133) rfl)) (hw _ (List.mem_of_getElem? (i := 2) rfl)) (hw _ (List.mem_of_getElem? (i := 3) rfl)) (hw _ (List.mem_of_getElem? (i := 134) rfl)) (by decide) rfl (byS l Z n0 w0 hw i d r s aq ao aa av ai ah ab hr hs p1 ct us fr sr ss qs os ats vs ids hp tb R S X a' ha' hlm) (by decide) (by decide) rfl (lenOf pd__28I_29Lcom_2fexample_2fpulld_2fpulld_2fbroker_2fInFlightDeliveries_24ByVisibleAt_3b rfl) rfl (Nat.le_of_eq rfl) (by decide) (by decide) rfl rfl rfl (fun v W' hF => ?_)
            obtain ⟨rfl, rfl⟩ := hF
            refine Go.val ?_
            refine Go.iloadN (pc' := 53) d33_52 rfl rfl ?_
            refine Go.callPR (pc' := 56) (W1 := 0) (cells' := 0) (slots' := 0) (argsL := [(.int i)]) (rest := []) (y' := (⟨"com/example/pulld/pulld/broker/InFlightDeliveries$ByVisibleAt", "add", "(I)V"⟩ : MethodName)) (a := s) (i := 2) d33_53 (hw _ (List.mem_of_getElem? (i := 135) rfl)) (hw _ (List.mem_of_getElem? (i := 136) rfl)) (hw _ (List.mem_of_getElem? (i := 137) rfl)) (hw _ (List.mem_of_getElem? (i := 11) rfl)) (hw _ (List.mem_of_getElem? (i := 12) rfl)) (hw _ (List.mem_of_getElem? (i := 138) rfl)) (by decide) rfl (adds l Z n0 w0 hw i d r s aq ao aa av ai ah ab hr hs p1 ct us fr sr ss qs os ats vs ids hp tb R S X A1 A2 hz) (by decide) (by decide) rfl (lenOf pd__28I_29V rfl) rfl (Nat.le_of_eq rfl) (by decide) (by decide) rfl rfl rfl (fun v W' hF => ?_)
            obtain ⟨rfl, rfl⟩ := hF
            refine Go.nov ?_
            refine Go.iinc (pc' := 59) (ls' := #[.val (.ref d), .val (.int p1), .val (.int (i + (1 : Int32)))]) (z := (1 : Int32)) d33_56 rfl rfl rfl rfl ?_
            refine Go.goto (pc' := 29) d33_59 (by decide) (by decide) ?_
            exact ih _ _ _ _ _ _ (by rw [hE]; exact h)
  refine Go.iloadN (pc' := 1) d33_0 rfl rfl ?_
  refine Go.aloadN (pc' := 2) d33_1 rfl rfl rfl ?_
  refine Go.getF (pc' := 5) (i := 0) (j := 2) (v := (.int mx)) (host := "") d33_2 (Or.inl (hw _ (List.mem_of_getElem? (i := 43) rfl))) rfl rfl rfl ?_
  refine Go.icmp_eq (pcY := 62) (pcN := 8) d33_5 (by decide) (by decide) rfl (fun hc5 => absurd hc5 hq) (fun hc5 => ?_)
  refine Go.aloadN (pc' := 9) d33_8 rfl rfl rfl ?_
  refine Go.iloadN (pc' := 10) d33_9 rfl rfl ?_
  refine Go.putF (pc' := 13) (i := 0) (j := 2) (ty := .int) (W' := (DW d r s aq ao aa av ai ah ab hr hs p1 ct us fr sr ss qs os ats vs ids hp tb R S ++ X)) (host := "") d33_10 (Or.inl (hw _ (List.mem_of_getElem? (i := 43) rfl))) (Or.inl (hw _ (List.mem_of_getElem? (i := 44) rfl))) (hw _ (List.mem_of_getElem? (i := 2) rfl)) rfl rfl (by decide) rfl rfl rfl rfl ?_
  refine Go.aloadN (pc' := 14) d33_13 rfl rfl rfl ?_
  refine Go.getF (pc' := 17) (i := 0) (j := 0) (v := (.ref r)) (host := "") d33_14 (Or.inl (hw _ (List.mem_of_getElem? (i := 22) rfl))) rfl rfl rfl ?_
  refine Go.callPR (pc' := 20) (W1 := 0) (cells' := 0) (slots' := 0) (argsL := []) (rest := []) (y' := (⟨"com/example/pulld/pulld/broker/InFlightDeliveries$ByVisibleAt", "clear", "()V"⟩ : MethodName)) (a := r) (i := 1) d33_17 (hw _ (List.mem_of_getElem? (i := 212) rfl)) (hw _ (List.mem_of_getElem? (i := 213) rfl)) (hw _ (List.mem_of_getElem? (i := 214) rfl)) (hw _ (List.mem_of_getElem? (i := 11) rfl)) (hw _ (List.mem_of_getElem? (i := 12) rfl)) (hw _ (List.mem_of_getElem? (i := 215) rfl)) (by decide) rfl (clearr l Z n0 w0 hw  d r s aq ao aa av ai ah ab hr hs p1 ct us fr sr ss qs os ats vs ids hp tb R S X  ) (by decide) (by decide) rfl (lenOf pd__28_29V rfl) rfl (Nat.le_of_eq rfl) (by decide) (by decide) rfl rfl rfl (fun v W' hF => ?_)
  obtain ⟨rfl, rfl⟩ := hF
  refine Go.nov ?_
  refine Go.aloadN (pc' := 21) d33_20 rfl rfl rfl ?_
  refine Go.getF (pc' := 24) (i := 0) (j := 1) (v := (.ref s)) (host := "") d33_21 (Or.inl (hw _ (List.mem_of_getElem? (i := 24) rfl))) rfl rfl rfl ?_
  refine Go.callPR (pc' := 27) (W1 := 0) (cells' := 0) (slots' := 0) (argsL := []) (rest := []) (y' := (⟨"com/example/pulld/pulld/broker/InFlightDeliveries$ByVisibleAt", "clear", "()V"⟩ : MethodName)) (a := s) (i := 2) d33_24 (hw _ (List.mem_of_getElem? (i := 212) rfl)) (hw _ (List.mem_of_getElem? (i := 213) rfl)) (hw _ (List.mem_of_getElem? (i := 214) rfl)) (hw _ (List.mem_of_getElem? (i := 11) rfl)) (hw _ (List.mem_of_getElem? (i := 12) rfl)) (hw _ (List.mem_of_getElem? (i := 215) rfl)) (by decide) rfl (clears l Z n0 w0 hw  d r s aq ao aa av ai ah ab hr hs p1 ct us fr (0 : Int32) ss qs os ats vs ids hp tb R S X  ) (by decide) (by decide) rfl (lenOf pd__28_29V rfl) rfl (Nat.le_of_eq rfl) (by decide) (by decide) rfl rfl rfl (fun v W' hF => ?_)
  obtain ⟨rfl, rfl⟩ := hF
  refine Go.nov ?_
  refine Go.iconst (pc' := 28) (v := (0 : Int32)) d33_27 rfl rfl ?_
  refine Go.istoreN (pc' := 29) (ls' := #[.val (.ref d), .val (.int p1), .val (.int (0 : Int32))]) d33_28 rfl rfl ?_
  exact k29 f _ _ _ _ _ _ hF
theorem d3_0 : decode prog_14_method_1_code 0 = .ok (.aload_n 0, 1) := by decide +kernel
theorem d3_1 : decode prog_14_method_1_code 1 = .ok (.aload_n 1, 1) := by decide +kernel
theorem d3_2 : decode prog_14_method_1_code 2 = .ok (.putfield 1, 3) := by decide +kernel
theorem d3_5 : decode prog_14_method_1_code 5 = .ok (.aload_n 0, 1) := by decide +kernel
theorem d3_6 : decode prog_14_method_1_code 6 = .ok (.invokespecial 7, 3) := by decide +kernel
theorem d3_9 : decode prog_14_method_1_code 9 = .ok (.aload_n 0, 1) := by decide +kernel
theorem d3_10 : decode prog_14_method_1_code 10 = .ok (.iconst 0, 1) := by decide +kernel
theorem d3_11 : decode prog_14_method_1_code 11 = .ok (.newarray .int, 2) := by decide +kernel
theorem d3_13 : decode prog_14_method_1_code 13 = .ok (.putfield 13, 3) := by decide +kernel
theorem d3_16 : decode prog_14_method_1_code 16 = .ok (.return_, 1) := by decide +kernel
set_option maxRecDepth 65536 in
set_option maxHeartbeats 40000000 in
theorem binit1 (l : Launch) (Z : State) (n0 : Nat) (w0 : Array Value) (hw : ∀ d ∈ tables_1, d.before w0 Z = true) (a0 d : Addr) (E0 : Desc) :
    Meets l Z n0 (⟨"com/example/pulld/pulld/broker/InFlightDeliveries$ByVisibleAt", "<init>", "(Lcom/example/pulld/pulld/broker/InFlightDeliveries;)V"⟩ : MethodName) prog_14_method_1_code 2 none ({ frames := 1, cells := 1, slots := 0, locals := 12 } : Room) [] #[(.ref a0), (.ref d)] [(d, E0), (a0, .inl ("com/example/pulld/pulld/broker/InFlightDeliveries$ByVisibleAt", [("this$0", "Lcom/example/pulld/pulld/broker/InFlightDeliveries;", .null), ("heap", "[I", .null), ("size", "I", (.int 0))]))] (fun v W' => v = none ∧ ∃ h : Addr, W' = [(d, E0), (a0, .inl ("com/example/pulld/pulld/broker/InFlightDeliveries$ByVisibleAt", [("this$0", "Lcom/example/pulld/pulld/broker/InFlightDeliveries;", (.ref d)), ("heap", "[I", (.ref h)), ("size", "I", (.int 0))])), (h, .inr (.inl []))]) := by
  refine Meets.of_go (ls := #[.val (.ref a0), .val (.ref d)]) (plainFor_of_name (by first | (simp [plainName, overriddenIn]; done) | decide +kernel)) (fun m => by first | (simp [entryFrame, mkF, argsToLocals, Value.category, maxLocals]; done) | rfl) (fun D => ?_)
  refine Go.aloadN (pc' := 1) d3_0 rfl rfl rfl ?_
  refine Go.aloadN (pc' := 2) d3_1 rfl rfl rfl ?_
  refine Go.putF (pc' := 5) (i := 1) (j := 0) (ty := (.object "com/example/pulld/pulld/broker/InFlightDeliveries")) (W' := [(d, E0), (a0, .inl ("com/example/pulld/pulld/broker/InFlightDeliveries$ByVisibleAt", [("this$0", "Lcom/example/pulld/pulld/broker/InFlightDeliveries;", (.ref d)), ("heap", "[I", .null), ("size", "I", (.int 0))]))]) (host := "") d3_2 (Or.inl (hw _ (List.mem_of_getElem? (i := 16) rfl))) (Or.inr ⟨(hw _ (List.mem_of_getElem? (i := 17) rfl)), rfl, rfl⟩) (hw _ (List.mem_of_getElem? (i := 11) rfl)) rfl rfl (by decide) rfl rfl rfl rfl ?_
  refine Go.aloadN (pc' := 6) d3_5 rfl rfl rfl ?_
  refine Go.initO (pc' := 9) (W1 := 0) d3_6 (hw _ (List.mem_of_getElem? (i := 18) rfl)) (hw _ (List.mem_of_getElem? (i := 8) rfl)) (hw _ (List.mem_of_getElem? (i := 9) rfl)) rfl (by decide) (Nat.le_of_eq rfl) (by decide) rfl ?_
  refine Go.aloadN (pc' := 10) d3_9 rfl rfl rfl ?_
  refine Go.iconst (pc' := 11) (v := (0 : Int32)) d3_10 rfl rfl ?_
  refine Go.newI (pc' := 13) (len := 0) (cells' := 1) (slots' := 0) (W' := fun h => [(d, E0), (a0, .inl ("com/example/pulld/pulld/broker/InFlightDeliveries$ByVisibleAt", [("this$0", "Lcom/example/pulld/pulld/broker/InFlightDeliveries;", (.ref d)), ("heap", "[I", .null), ("size", "I", (.int 0))])), (h, .inr (.inl (List.replicate 0 0)))]) d3_11 (hw _ (List.mem_of_getElem? (i := 19) rfl)) (by decide) (by decide) (by decide) (by decide) (by decide) rfl rfl (fun _ => rfl) rfl (fun h => ?_)
  refine Go.putF (pc' := 16) (i := 1) (j := 1) (ty := (.array .int)) (W' := [(d, E0), (a0, .inl ("com/example/pulld/pulld/broker/InFlightDeliveries$ByVisibleAt", [("this$0", "Lcom/example/pulld/pulld/broker/InFlightDeliveries;", (.ref d)), ("heap", "[I", (.ref h)), ("size", "I", (.int 0))])), (h, .inr (.inl []))]) (host := "") d3_13 (Or.inl (hw _ (List.mem_of_getElem? (i := 20) rfl))) (Or.inl (hw _ (List.mem_of_getElem? (i := 21) rfl))) (hw _ (List.mem_of_getElem? (i := 11) rfl)) rfl rfl (by decide) rfl rfl rfl rfl ?_
  exact Go.retV d3_16 rfl (by decide) (by decide) ⟨rfl, _, rfl⟩
set_option maxRecDepth 65536 in
set_option maxHeartbeats 40000000 in
theorem binit2 (l : Launch) (Z : State) (n0 : Nat) (w0 : Array Value) (hw : ∀ d ∈ tables_1, d.before w0 Z = true) (a0 d r hr : Addr) (E0 E1 E2 : Desc) :
    Meets l Z n0 (⟨"com/example/pulld/pulld/broker/InFlightDeliveries$ByVisibleAt", "<init>", "(Lcom/example/pulld/pulld/broker/InFlightDeliveries;)V"⟩ : MethodName) prog_14_method_1_code 2 none ({ frames := 1, cells := 1, slots := 0, locals := 12 } : Room) [] #[(.ref a0), (.ref d)] [(d, E0), (r, E1), (hr, E2), (a0, .inl ("com/example/pulld/pulld/broker/InFlightDeliveries$ByVisibleAt", [("this$0", "Lcom/example/pulld/pulld/broker/InFlightDeliveries;", .null), ("heap", "[I", .null), ("size", "I", (.int 0))]))] (fun v W' => v = none ∧ ∃ h : Addr, W' = [(d, E0), (r, E1), (hr, E2), (a0, .inl ("com/example/pulld/pulld/broker/InFlightDeliveries$ByVisibleAt", [("this$0", "Lcom/example/pulld/pulld/broker/InFlightDeliveries;", (.ref d)), ("heap", "[I", (.ref h)), ("size", "I", (.int 0))])), (h, .inr (.inl []))]) := by
  refine Meets.of_go (ls := #[.val (.ref a0), .val (.ref d)]) (plainFor_of_name (by first | (simp [plainName, overriddenIn]; done) | decide +kernel)) (fun m => by first | (simp [entryFrame, mkF, argsToLocals, Value.category, maxLocals]; done) | rfl) (fun D => ?_)
  refine Go.aloadN (pc' := 1) d3_0 rfl rfl rfl ?_
  refine Go.aloadN (pc' := 2) d3_1 rfl rfl rfl ?_
  refine Go.putF (pc' := 5) (i := 3) (j := 0) (ty := (.object "com/example/pulld/pulld/broker/InFlightDeliveries")) (W' := [(d, E0), (r, E1), (hr, E2), (a0, .inl ("com/example/pulld/pulld/broker/InFlightDeliveries$ByVisibleAt", [("this$0", "Lcom/example/pulld/pulld/broker/InFlightDeliveries;", (.ref d)), ("heap", "[I", .null), ("size", "I", (.int 0))]))]) (host := "") d3_2 (Or.inl (hw _ (List.mem_of_getElem? (i := 16) rfl))) (Or.inr ⟨(hw _ (List.mem_of_getElem? (i := 17) rfl)), rfl, rfl⟩) (hw _ (List.mem_of_getElem? (i := 11) rfl)) rfl rfl (by decide) rfl rfl rfl rfl ?_
  refine Go.aloadN (pc' := 6) d3_5 rfl rfl rfl ?_
  refine Go.initO (pc' := 9) (W1 := 0) d3_6 (hw _ (List.mem_of_getElem? (i := 18) rfl)) (hw _ (List.mem_of_getElem? (i := 8) rfl)) (hw _ (List.mem_of_getElem? (i := 9) rfl)) rfl (by decide) (Nat.le_of_eq rfl) (by decide) rfl ?_
  refine Go.aloadN (pc' := 10) d3_9 rfl rfl rfl ?_
  refine Go.iconst (pc' := 11) (v := (0 : Int32)) d3_10 rfl rfl ?_
  refine Go.newI (pc' := 13) (len := 0) (cells' := 1) (slots' := 0) (W' := fun h => [(d, E0), (r, E1), (hr, E2), (a0, .inl ("com/example/pulld/pulld/broker/InFlightDeliveries$ByVisibleAt", [("this$0", "Lcom/example/pulld/pulld/broker/InFlightDeliveries;", (.ref d)), ("heap", "[I", .null), ("size", "I", (.int 0))])), (h, .inr (.inl (List.replicate 0 0)))]) d3_11 (hw _ (List.mem_of_getElem? (i := 19) rfl)) (by decide) (by decide) (by decide) (by decide) (by decide) rfl rfl (fun _ => rfl) rfl (fun h => ?_)
  refine Go.putF (pc' := 16) (i := 3) (j := 1) (ty := (.array .int)) (W' := [(d, E0), (r, E1), (hr, E2), (a0, .inl ("com/example/pulld/pulld/broker/InFlightDeliveries$ByVisibleAt", [("this$0", "Lcom/example/pulld/pulld/broker/InFlightDeliveries;", (.ref d)), ("heap", "[I", (.ref h)), ("size", "I", (.int 0))])), (h, .inr (.inl []))]) (host := "") d3_13 (Or.inl (hw _ (List.mem_of_getElem? (i := 20) rfl))) (Or.inl (hw _ (List.mem_of_getElem? (i := 21) rfl))) (hw _ (List.mem_of_getElem? (i := 11) rfl)) rfl rfl (by decide) rfl rfl rfl rfl ?_
  exact Go.retV d3_16 rfl (by decide) (by decide) ⟨rfl, _, rfl⟩
theorem d1_0 : decode prog_12_method_1_code 0 = .ok (.aload_n 0, 1) := by decide +kernel
theorem d1_1 : decode prog_12_method_1_code 1 = .ok (.invokespecial 1, 3) := by decide +kernel
theorem d1_4 : decode prog_12_method_1_code 4 = .ok (.aload_n 0, 1) := by decide +kernel
theorem d1_5 : decode prog_12_method_1_code 5 = .ok (.new 7, 3) := by decide +kernel
theorem d1_8 : decode prog_12_method_1_code 8 = .ok (.dup, 1) := by decide +kernel
theorem d1_9 : decode prog_12_method_1_code 9 = .ok (.aload_n 0, 1) := by decide +kernel
theorem d1_10 : decode prog_12_method_1_code 10 = .ok (.invokespecial 9, 3) := by decide +kernel
theorem d1_13 : decode prog_12_method_1_code 13 = .ok (.putfield 12, 3) := by decide +kernel
theorem d1_16 : decode prog_12_method_1_code 16 = .ok (.aload_n 0, 1) := by decide +kernel
theorem d1_17 : decode prog_12_method_1_code 17 = .ok (.new 7, 3) := by decide +kernel
theorem d1_20 : decode prog_12_method_1_code 20 = .ok (.dup, 1) := by decide +kernel
theorem d1_21 : decode prog_12_method_1_code 21 = .ok (.aload_n 0, 1) := by decide +kernel
theorem d1_22 : decode prog_12_method_1_code 22 = .ok (.invokespecial 9, 3) := by decide +kernel
theorem d1_25 : decode prog_12_method_1_code 25 = .ok (.putfield 18, 3) := by decide +kernel
theorem d1_28 : decode prog_12_method_1_code 28 = .ok (.aload_n 0, 1) := by decide +kernel
theorem d1_29 : decode prog_12_method_1_code 29 = .ok (.iconst (-1), 1) := by decide +kernel
theorem d1_30 : decode prog_12_method_1_code 30 = .ok (.putfield 21, 3) := by decide +kernel
theorem d1_33 : decode prog_12_method_1_code 33 = .ok (.aload_n 0, 1) := by decide +kernel
theorem d1_34 : decode prog_12_method_1_code 34 = .ok (.iconst 0, 1) := by decide +kernel
theorem d1_35 : decode prog_12_method_1_code 35 = .ok (.newarray .int, 2) := by decide +kernel
theorem d1_37 : decode prog_12_method_1_code 37 = .ok (.putfield 25, 3) := by decide +kernel
theorem d1_40 : decode prog_12_method_1_code 40 = .ok (.aload_n 0, 1) := by decide +kernel
theorem d1_41 : decode prog_12_method_1_code 41 = .ok (.iconst 0, 1) := by decide +kernel
theorem d1_42 : decode prog_12_method_1_code 42 = .ok (.newarray .long, 2) := by decide +kernel
theorem d1_44 : decode prog_12_method_1_code 44 = .ok (.putfield 29, 3) := by decide +kernel
theorem d1_47 : decode prog_12_method_1_code 47 = .ok (.aload_n 0, 1) := by decide +kernel
theorem d1_48 : decode prog_12_method_1_code 48 = .ok (.iconst 0, 1) := by decide +kernel
theorem d1_49 : decode prog_12_method_1_code 49 = .ok (.newarray .int, 2) := by decide +kernel
theorem d1_51 : decode prog_12_method_1_code 51 = .ok (.putfield 33, 3) := by decide +kernel
theorem d1_54 : decode prog_12_method_1_code 54 = .ok (.aload_n 0, 1) := by decide +kernel
theorem d1_55 : decode prog_12_method_1_code 55 = .ok (.iconst 0, 1) := by decide +kernel
theorem d1_56 : decode prog_12_method_1_code 56 = .ok (.newarray .long, 2) := by decide +kernel
theorem d1_58 : decode prog_12_method_1_code 58 = .ok (.putfield 36, 3) := by decide +kernel
theorem d1_61 : decode prog_12_method_1_code 61 = .ok (.aload_n 0, 1) := by decide +kernel
theorem d1_62 : decode prog_12_method_1_code 62 = .ok (.iconst 0, 1) := by decide +kernel
theorem d1_63 : decode prog_12_method_1_code 63 = .ok (.newarray .long, 2) := by decide +kernel
theorem d1_65 : decode prog_12_method_1_code 65 = .ok (.putfield 39, 3) := by decide +kernel
theorem d1_68 : decode prog_12_method_1_code 68 = .ok (.aload_n 0, 1) := by decide +kernel
theorem d1_69 : decode prog_12_method_1_code 69 = .ok (.iconst 0, 1) := by decide +kernel
theorem d1_70 : decode prog_12_method_1_code 70 = .ok (.newarray .int, 2) := by decide +kernel
theorem d1_72 : decode prog_12_method_1_code 72 = .ok (.putfield 42, 3) := by decide +kernel
theorem d1_75 : decode prog_12_method_1_code 75 = .ok (.aload_n 0, 1) := by decide +kernel
theorem d1_76 : decode prog_12_method_1_code 76 = .ok (.iconst 0, 1) := by decide +kernel
theorem d1_77 : decode prog_12_method_1_code 77 = .ok (.newarray .int, 2) := by decide +kernel
theorem d1_79 : decode prog_12_method_1_code 79 = .ok (.putfield 45, 3) := by decide +kernel
theorem d1_82 : decode prog_12_method_1_code 82 = .ok (.aload_n 0, 1) := by decide +kernel
theorem d1_83 : decode prog_12_method_1_code 83 = .ok (.iload_n 1, 1) := by decide +kernel
theorem d1_84 : decode prog_12_method_1_code 84 = .ok (.putfield 48, 3) := by decide +kernel
theorem d1_87 : decode prog_12_method_1_code 87 = .ok (.return_, 1) := by decide +kernel
theorem pd__28Lcom_2fexample_2fpulld_2fpulld_2fbroker_2fInFlightDeliveries_3b_29V : parseMethodDescriptor "(Lcom/example/pulld/pulld/broker/InFlightDeliveries;)V" = some ⟨[(.object "com/example/pulld/pulld/broker/InFlightDeliveries")], none⟩ := by decide +kernel
set_option maxRecDepth 65536 in
set_option maxHeartbeats 40000000 in
theorem dinit (l : Launch) (Z : State) (n0 : Nat) (w0 : Array Value) (hw : ∀ d ∈ tables_1, d.before w0 Z = true) (d : Addr) (p1 : Int32) :
    Meets l Z n0 (⟨"com/example/pulld/pulld/broker/InFlightDeliveries", "<init>", "(I)V"⟩ : MethodName) prog_12_method_1_code 2 none ({ frames := 2, cells := 11, slots := 6, locals := 27 } : Room) [] #[(.ref d), (.int p1)] [(d, .inl ("com/example/pulld/pulld/broker/InFlightDeliveries", [("returning", "Lcom/example/pulld/pulld/broker/InFlightDeliveries$ByVisibleAt;", .null), ("lastAttempts", "Lcom/example/pulld/pulld/broker/InFlightDeliveries$ByVisibleAt;", .null), ("maxAttempts", "I", (.int 0)), ("count", "I", (.int 0)), ("usedSlots", "I", (.int 0)), ("firstFree", "I", (.int 0)), ("queues", "[I", .null), ("offsets", "[J", .null), ("attempts", "[I", .null), ("visibleAts", "[J", .null), ("ids", "[J", .null), ("heapPlaces", "[I", .null), ("table", "[I", .null)]))] (fun v W' => v = none ∧ ∃ r s aq ao aa av ai ah ab hr hs : Addr, W' = (DW d r s aq ao aa av ai ah ab hr hs p1 0 0 (-1 : Int32) 0 0 [] [] [] [] [] [] [] [] [] ++ [])) := by
  refine Meets.of_go (ls := #[.val (.ref d), .val (.int p1)]) (plainFor_of_name (by first | (simp [plainName, overriddenIn]; done) | decide +kernel)) (fun m => by first | (simp [entryFrame, mkF, argsToLocals, Value.category, maxLocals]; done) | rfl) (fun D => ?_)
  refine Go.aloadN (pc' := 1) d1_0 rfl rfl rfl ?_
  refine Go.initO (pc' := 4) (W1 := 0) d1_1 (hw _ (List.mem_of_getElem? (i := 7) rfl)) (hw _ (List.mem_of_getElem? (i := 8) rfl)) (hw _ (List.mem_of_getElem? (i := 9) rfl)) rfl (by decide) (Nat.le_of_eq rfl) (by decide) rfl ?_
  refine Go.aloadN (pc' := 5) d1_4 rfl rfl rfl ?_
  refine Go.newO (pc' := 8) (cells' := 1) (slots' := 3) (W' := fun r => [(d, .inl ("com/example/pulld/pulld/broker/InFlightDeliveries", [("returning", "Lcom/example/pulld/pulld/broker/InFlightDeliveries$ByVisibleAt;", .null), ("lastAttempts", "Lcom/example/pulld/pulld/broker/InFlightDeliveries$ByVisibleAt;", .null), ("maxAttempts", "I", (.int 0)), ("count", "I", (.int 0)), ("usedSlots", "I", (.int 0)), ("firstFree", "I", (.int 0)), ("queues", "[I", .null), ("offsets", "[J", .null), ("attempts", "[I", .null), ("visibleAts", "[J", .null), ("ids", "[J", .null), ("heapPlaces", "[I", .null), ("table", "[I", .null)])), (r, .inl ("com/example/pulld/pulld/broker/InFlightDeliveries$ByVisibleAt", [("this$0", "Lcom/example/pulld/pulld/broker/InFlightDeliveries;", .null), ("heap", "[I", .null), ("size", "I", (.int 0))]))]) d1_5 (hw _ (List.mem_of_getElem? (i := 10) rfl)) (hw _ (List.mem_of_getElem? (i := 11) rfl)) (hw _ (List.mem_of_getElem? (i := 12) rfl)) (lay_cons (ty := (.object "com/example/pulld/pulld/broker/InFlightDeliveries")) (Or.inr (hw _ (List.mem_of_getElem? (i := 17) rfl))) (by decide) rfl (lay_cons (ty := (.array .int)) (Or.inl (hw _ (List.mem_of_getElem? (i := 21) rfl))) (by decide) rfl (lay_cons (ty := .int) (Or.inl (hw _ (List.mem_of_getElem? (i := 103) rfl))) (by decide) rfl lay_nil))) (by decide) (by decide) (by decide) rfl rfl (fun _ => rfl) rfl (fun r => ?_)
  refine Go.dup (pc' := 9) d1_8 rfl rfl ?_
  refine Go.aloadN (pc' := 10) d1_9 rfl rfl rfl ?_
  refine Go.callI (pc' := 13) (W1 := 2) (cells' := 2) (slots' := 3) (argsL := [(.ref d)]) (rest := [(.ref r), (.ref d)]) (y' := (⟨"com/example/pulld/pulld/broker/InFlightDeliveries$ByVisibleAt", "<init>", "(Lcom/example/pulld/pulld/broker/InFlightDeliveries;)V"⟩ : MethodName)) (a := r) d1_10 rfl (hw _ (List.mem_of_getElem? (i := 13) rfl)) (hw _ (List.mem_of_getElem? (i := 14) rfl)) (hw _ (List.mem_of_getElem? (i := 12) rfl)) (hw _ (List.mem_of_getElem? (i := 15) rfl)) (by decide) (binit1 l Z n0 w0 hw r d (.inl ("com/example/pulld/pulld/broker/InFlightDeliveries", [("returning", "Lcom/example/pulld/pulld/broker/InFlightDeliveries$ByVisibleAt;", .null), ("lastAttempts", "Lcom/example/pulld/pulld/broker/InFlightDeliveries$ByVisibleAt;", .null), ("maxAttempts", "I", (.int 0)), ("count", "I", (.int 0)), ("usedSlots", "I", (.int 0)), ("firstFree", "I", (.int 0)), ("queues", "[I", .null), ("offsets", "[J", .null), ("attempts", "[I", .null), ("visibleAts", "[J", .null), ("ids", "[J", .null), ("heapPlaces", "[I", .null), ("table", "[I", .null)]))) (by decide) (by decide) rfl (lenOf pd__28Lcom_2fexample_2fpulld_2fpulld_2fbroker_2fInFlightDeliveries_3b_29V rfl) rfl (Nat.le_of_eq rfl) (by decide) (by decide) rfl rfl rfl (fun v W' hF => ?_)
  obtain ⟨rfl, hr, rfl⟩ := hF
  refine Go.nov ?_
  refine Go.putF (pc' := 16) (i := 0) (j := 0) (ty := (.object "com/example/pulld/pulld/broker/InFlightDeliveries$ByVisibleAt")) (W' := [(d, .inl ("com/example/pulld/pulld/broker/InFlightDeliveries", [("returning", "Lcom/example/pulld/pulld/broker/InFlightDeliveries$ByVisibleAt;", (.ref r)), ("lastAttempts", "Lcom/example/pulld/pulld/broker/InFlightDeliveries$ByVisibleAt;", .null), ("maxAttempts", "I", (.int 0)), ("count", "I", (.int 0)), ("usedSlots", "I", (.int 0)), ("firstFree", "I", (.int 0)), ("queues", "[I", .null), ("offsets", "[J", .null), ("attempts", "[I", .null), ("visibleAts", "[J", .null), ("ids", "[J", .null), ("heapPlaces", "[I", .null), ("table", "[I", .null)])), (r, .inl ("com/example/pulld/pulld/broker/InFlightDeliveries$ByVisibleAt", [("this$0", "Lcom/example/pulld/pulld/broker/InFlightDeliveries;", (.ref d)), ("heap", "[I", (.ref hr)), ("size", "I", (.int 0))])), (hr, .inr (.inl []))]) (host := "") d1_13 (Or.inl (hw _ (List.mem_of_getElem? (i := 22) rfl))) (Or.inr ⟨(hw _ (List.mem_of_getElem? (i := 23) rfl)), rfl, rfl⟩) (hw _ (List.mem_of_getElem? (i := 2) rfl)) rfl rfl (by decide) rfl rfl rfl rfl ?_
  refine Go.aloadN (pc' := 17) d1_16 rfl rfl rfl ?_
  refine Go.newO (pc' := 20) (cells' := 3) (slots' := 6) (W' := fun s => [(d, .inl ("com/example/pulld/pulld/broker/InFlightDeliveries", [("returning", "Lcom/example/pulld/pulld/broker/InFlightDeliveries$ByVisibleAt;", (.ref r)), ("lastAttempts", "Lcom/example/pulld/pulld/broker/InFlightDeliveries$ByVisibleAt;", .null), ("maxAttempts", "I", (.int 0)), ("count", "I", (.int 0)), ("usedSlots", "I", (.int 0)), ("firstFree", "I", (.int 0)), ("queues", "[I", .null), ("offsets", "[J", .null), ("attempts", "[I", .null), ("visibleAts", "[J", .null), ("ids", "[J", .null), ("heapPlaces", "[I", .null), ("table", "[I", .null)])), (r, .inl ("com/example/pulld/pulld/broker/InFlightDeliveries$ByVisibleAt", [("this$0", "Lcom/example/pulld/pulld/broker/InFlightDeliveries;", (.ref d)), ("heap", "[I", (.ref hr)), ("size", "I", (.int 0))])), (hr, .inr (.inl [])), (s, .inl ("com/example/pulld/pulld/broker/InFlightDeliveries$ByVisibleAt", [("this$0", "Lcom/example/pulld/pulld/broker/InFlightDeliveries;", .null), ("heap", "[I", .null), ("size", "I", (.int 0))]))]) d1_17 (hw _ (List.mem_of_getElem? (i := 10) rfl)) (hw _ (List.mem_of_getElem? (i := 11) rfl)) (hw _ (List.mem_of_getElem? (i := 12) rfl)) (lay_cons (ty := (.object "com/example/pulld/pulld/broker/InFlightDeliveries")) (Or.inr (hw _ (List.mem_of_getElem? (i := 17) rfl))) (by decide) rfl (lay_cons (ty := (.array .int)) (Or.inl (hw _ (List.mem_of_getElem? (i := 21) rfl))) (by decide) rfl (lay_cons (ty := .int) (Or.inl (hw _ (List.mem_of_getElem? (i := 103) rfl))) (by decide) rfl lay_nil))) (by decide) (by decide) (by decide) rfl rfl (fun _ => rfl) rfl (fun s => ?_)
  refine Go.dup (pc' := 21) d1_20 rfl rfl ?_
  refine Go.aloadN (pc' := 22) d1_21 rfl rfl rfl ?_
  refine Go.callI (pc' := 25) (W1 := 2) (cells' := 4) (slots' := 6) (argsL := [(.ref d)]) (rest := [(.ref s), (.ref d)]) (y' := (⟨"com/example/pulld/pulld/broker/InFlightDeliveries$ByVisibleAt", "<init>", "(Lcom/example/pulld/pulld/broker/InFlightDeliveries;)V"⟩ : MethodName)) (a := s) d1_22 rfl (hw _ (List.mem_of_getElem? (i := 13) rfl)) (hw _ (List.mem_of_getElem? (i := 14) rfl)) (hw _ (List.mem_of_getElem? (i := 12) rfl)) (hw _ (List.mem_of_getElem? (i := 15) rfl)) (by decide) (binit2 l Z n0 w0 hw s d r hr (.inl ("com/example/pulld/pulld/broker/InFlightDeliveries", [("returning", "Lcom/example/pulld/pulld/broker/InFlightDeliveries$ByVisibleAt;", (.ref r)), ("lastAttempts", "Lcom/example/pulld/pulld/broker/InFlightDeliveries$ByVisibleAt;", .null), ("maxAttempts", "I", (.int 0)), ("count", "I", (.int 0)), ("usedSlots", "I", (.int 0)), ("firstFree", "I", (.int 0)), ("queues", "[I", .null), ("offsets", "[J", .null), ("attempts", "[I", .null), ("visibleAts", "[J", .null), ("ids", "[J", .null), ("heapPlaces", "[I", .null), ("table", "[I", .null)])) (.inl ("com/example/pulld/pulld/broker/InFlightDeliveries$ByVisibleAt", [("this$0", "Lcom/example/pulld/pulld/broker/InFlightDeliveries;", (.ref d)), ("heap", "[I", (.ref hr)), ("size", "I", (.int 0))])) (.inr (.inl []))) (by decide) (by decide) rfl (lenOf pd__28Lcom_2fexample_2fpulld_2fpulld_2fbroker_2fInFlightDeliveries_3b_29V rfl) rfl (Nat.le_of_eq rfl) (by decide) (by decide) rfl rfl rfl (fun v W' hF => ?_)
  obtain ⟨rfl, hs, rfl⟩ := hF
  refine Go.nov ?_
  refine Go.putF (pc' := 28) (i := 0) (j := 1) (ty := (.object "com/example/pulld/pulld/broker/InFlightDeliveries$ByVisibleAt")) (W' := [(d, .inl ("com/example/pulld/pulld/broker/InFlightDeliveries", [("returning", "Lcom/example/pulld/pulld/broker/InFlightDeliveries$ByVisibleAt;", (.ref r)), ("lastAttempts", "Lcom/example/pulld/pulld/broker/InFlightDeliveries$ByVisibleAt;", (.ref s)), ("maxAttempts", "I", (.int 0)), ("count", "I", (.int 0)), ("usedSlots", "I", (.int 0)), ("firstFree", "I", (.int 0)), ("queues", "[I", .null), ("offsets", "[J", .null), ("attempts", "[I", .null), ("visibleAts", "[J", .null), ("ids", "[J", .null), ("heapPlaces", "[I", .null), ("table", "[I", .null)])), (r, .inl ("com/example/pulld/pulld/broker/InFlightDeliveries$ByVisibleAt", [("this$0", "Lcom/example/pulld/pulld/broker/InFlightDeliveries;", (.ref d)), ("heap", "[I", (.ref hr)), ("size", "I", (.int 0))])), (hr, .inr (.inl [])), (s, .inl ("com/example/pulld/pulld/broker/InFlightDeliveries$ByVisibleAt", [("this$0", "Lcom/example/pulld/pulld/broker/InFlightDeliveries;", (.ref d)), ("heap", "[I", (.ref hs)), ("size", "I", (.int 0))])), (hs, .inr (.inl []))]) (host := "") d1_25 (Or.inl (hw _ (List.mem_of_getElem? (i := 24) rfl))) (Or.inr ⟨(hw _ (List.mem_of_getElem? (i := 25) rfl)), rfl, rfl⟩) (hw _ (List.mem_of_getElem? (i := 2) rfl)) rfl rfl (by decide) rfl rfl rfl rfl ?_
  refine Go.aloadN (pc' := 29) d1_28 rfl rfl rfl ?_
  refine Go.iconst (pc' := 30) (v := (-1 : Int32)) d1_29 rfl rfl ?_
  refine Go.putF (pc' := 33) (i := 0) (j := 5) (ty := .int) (W' := [(d, .inl ("com/example/pulld/pulld/broker/InFlightDeliveries", [("returning", "Lcom/example/pulld/pulld/broker/InFlightDeliveries$ByVisibleAt;", (.ref r)), ("lastAttempts", "Lcom/example/pulld/pulld/broker/InFlightDeliveries$ByVisibleAt;", (.ref s)), ("maxAttempts", "I", (.int 0)), ("count", "I", (.int 0)), ("usedSlots", "I", (.int 0)), ("firstFree", "I", (.int (-1 : Int32))), ("queues", "[I", .null), ("offsets", "[J", .null), ("attempts", "[I", .null), ("visibleAts", "[J", .null), ("ids", "[J", .null), ("heapPlaces", "[I", .null), ("table", "[I", .null)])), (r, .inl ("com/example/pulld/pulld/broker/InFlightDeliveries$ByVisibleAt", [("this$0", "Lcom/example/pulld/pulld/broker/InFlightDeliveries;", (.ref d)), ("heap", "[I", (.ref hr)), ("size", "I", (.int 0))])), (hr, .inr (.inl [])), (s, .inl ("com/example/pulld/pulld/broker/InFlightDeliveries$ByVisibleAt", [("this$0", "Lcom/example/pulld/pulld/broker/InFlightDeliveries;", (.ref d)), ("heap", "[I", (.ref hs)), ("size", "I", (.int 0))])), (hs, .inr (.inl []))]) (host := "") d1_30 (Or.inl (hw _ (List.mem_of_getElem? (i := 26) rfl))) (Or.inl (hw _ (List.mem_of_getElem? (i := 27) rfl))) (hw _ (List.mem_of_getElem? (i := 2) rfl)) rfl rfl (by decide) rfl rfl rfl rfl ?_
  refine Go.aloadN (pc' := 34) d1_33 rfl rfl rfl ?_
  refine Go.iconst (pc' := 35) (v := (0 : Int32)) d1_34 rfl rfl ?_
  refine Go.newI (pc' := 37) (len := 0) (cells' := 5) (slots' := 6) (W' := fun aq => [(d, .inl ("com/example/pulld/pulld/broker/InFlightDeliveries", [("returning", "Lcom/example/pulld/pulld/broker/InFlightDeliveries$ByVisibleAt;", (.ref r)), ("lastAttempts", "Lcom/example/pulld/pulld/broker/InFlightDeliveries$ByVisibleAt;", (.ref s)), ("maxAttempts", "I", (.int 0)), ("count", "I", (.int 0)), ("usedSlots", "I", (.int 0)), ("firstFree", "I", (.int (-1 : Int32))), ("queues", "[I", .null), ("offsets", "[J", .null), ("attempts", "[I", .null), ("visibleAts", "[J", .null), ("ids", "[J", .null), ("heapPlaces", "[I", .null), ("table", "[I", .null)])), (r, .inl ("com/example/pulld/pulld/broker/InFlightDeliveries$ByVisibleAt", [("this$0", "Lcom/example/pulld/pulld/broker/InFlightDeliveries;", (.ref d)), ("heap", "[I", (.ref hr)), ("size", "I", (.int 0))])), (hr, .inr (.inl [])), (s, .inl ("com/example/pulld/pulld/broker/InFlightDeliveries$ByVisibleAt", [("this$0", "Lcom/example/pulld/pulld/broker/InFlightDeliveries;", (.ref d)), ("heap", "[I", (.ref hs)), ("size", "I", (.int 0))])), (hs, .inr (.inl [])), (aq, .inr (.inl (List.replicate 0 0)))]) d1_35 (hw _ (List.mem_of_getElem? (i := 19) rfl)) (by decide) (by decide) (by decide) (by decide) (by decide) rfl rfl (fun _ => rfl) rfl (fun aq => ?_)
  refine Go.putF (pc' := 40) (i := 0) (j := 6) (ty := (.array .int)) (W' := [(d, .inl ("com/example/pulld/pulld/broker/InFlightDeliveries", [("returning", "Lcom/example/pulld/pulld/broker/InFlightDeliveries$ByVisibleAt;", (.ref r)), ("lastAttempts", "Lcom/example/pulld/pulld/broker/InFlightDeliveries$ByVisibleAt;", (.ref s)), ("maxAttempts", "I", (.int 0)), ("count", "I", (.int 0)), ("usedSlots", "I", (.int 0)), ("firstFree", "I", (.int (-1 : Int32))), ("queues", "[I", (.ref aq)), ("offsets", "[J", .null), ("attempts", "[I", .null), ("visibleAts", "[J", .null), ("ids", "[J", .null), ("heapPlaces", "[I", .null), ("table", "[I", .null)])), (r, .inl ("com/example/pulld/pulld/broker/InFlightDeliveries$ByVisibleAt", [("this$0", "Lcom/example/pulld/pulld/broker/InFlightDeliveries;", (.ref d)), ("heap", "[I", (.ref hr)), ("size", "I", (.int 0))])), (hr, .inr (.inl [])), (s, .inl ("com/example/pulld/pulld/broker/InFlightDeliveries$ByVisibleAt", [("this$0", "Lcom/example/pulld/pulld/broker/InFlightDeliveries;", (.ref d)), ("heap", "[I", (.ref hs)), ("size", "I", (.int 0))])), (hs, .inr (.inl [])), (aq, .inr (.inl []))]) (host := "") d1_37 (Or.inl (hw _ (List.mem_of_getElem? (i := 28) rfl))) (Or.inl (hw _ (List.mem_of_getElem? (i := 29) rfl))) (hw _ (List.mem_of_getElem? (i := 2) rfl)) rfl rfl (by decide) rfl rfl rfl rfl ?_
  refine Go.aloadN (pc' := 41) d1_40 rfl rfl rfl ?_
  refine Go.iconst (pc' := 42) (v := (0 : Int32)) d1_41 rfl rfl ?_
  refine Go.newJ (pc' := 44) (len := 0) (cells' := 6) (slots' := 6) (W' := fun ao => [(d, .inl ("com/example/pulld/pulld/broker/InFlightDeliveries", [("returning", "Lcom/example/pulld/pulld/broker/InFlightDeliveries$ByVisibleAt;", (.ref r)), ("lastAttempts", "Lcom/example/pulld/pulld/broker/InFlightDeliveries$ByVisibleAt;", (.ref s)), ("maxAttempts", "I", (.int 0)), ("count", "I", (.int 0)), ("usedSlots", "I", (.int 0)), ("firstFree", "I", (.int (-1 : Int32))), ("queues", "[I", (.ref aq)), ("offsets", "[J", .null), ("attempts", "[I", .null), ("visibleAts", "[J", .null), ("ids", "[J", .null), ("heapPlaces", "[I", .null), ("table", "[I", .null)])), (r, .inl ("com/example/pulld/pulld/broker/InFlightDeliveries$ByVisibleAt", [("this$0", "Lcom/example/pulld/pulld/broker/InFlightDeliveries;", (.ref d)), ("heap", "[I", (.ref hr)), ("size", "I", (.int 0))])), (hr, .inr (.inl [])), (s, .inl ("com/example/pulld/pulld/broker/InFlightDeliveries$ByVisibleAt", [("this$0", "Lcom/example/pulld/pulld/broker/InFlightDeliveries;", (.ref d)), ("heap", "[I", (.ref hs)), ("size", "I", (.int 0))])), (hs, .inr (.inl [])), (aq, .inr (.inl [])), (ao, .inr (.inr (List.replicate 0 0)))]) d1_42 (hw _ (List.mem_of_getElem? (i := 30) rfl)) (by decide) (by decide) (by decide) (by decide) (by decide) rfl rfl (fun _ => rfl) rfl (fun ao => ?_)
  refine Go.putF (pc' := 47) (i := 0) (j := 7) (ty := (.array .long)) (W' := [(d, .inl ("com/example/pulld/pulld/broker/InFlightDeliveries", [("returning", "Lcom/example/pulld/pulld/broker/InFlightDeliveries$ByVisibleAt;", (.ref r)), ("lastAttempts", "Lcom/example/pulld/pulld/broker/InFlightDeliveries$ByVisibleAt;", (.ref s)), ("maxAttempts", "I", (.int 0)), ("count", "I", (.int 0)), ("usedSlots", "I", (.int 0)), ("firstFree", "I", (.int (-1 : Int32))), ("queues", "[I", (.ref aq)), ("offsets", "[J", (.ref ao)), ("attempts", "[I", .null), ("visibleAts", "[J", .null), ("ids", "[J", .null), ("heapPlaces", "[I", .null), ("table", "[I", .null)])), (r, .inl ("com/example/pulld/pulld/broker/InFlightDeliveries$ByVisibleAt", [("this$0", "Lcom/example/pulld/pulld/broker/InFlightDeliveries;", (.ref d)), ("heap", "[I", (.ref hr)), ("size", "I", (.int 0))])), (hr, .inr (.inl [])), (s, .inl ("com/example/pulld/pulld/broker/InFlightDeliveries$ByVisibleAt", [("this$0", "Lcom/example/pulld/pulld/broker/InFlightDeliveries;", (.ref d)), ("heap", "[I", (.ref hs)), ("size", "I", (.int 0))])), (hs, .inr (.inl [])), (aq, .inr (.inl [])), (ao, .inr (.inr []))]) (host := "") d1_44 (Or.inl (hw _ (List.mem_of_getElem? (i := 31) rfl))) (Or.inl (hw _ (List.mem_of_getElem? (i := 32) rfl))) (hw _ (List.mem_of_getElem? (i := 2) rfl)) rfl rfl (by decide) rfl rfl rfl rfl ?_
  refine Go.aloadN (pc' := 48) d1_47 rfl rfl rfl ?_
  refine Go.iconst (pc' := 49) (v := (0 : Int32)) d1_48 rfl rfl ?_
  refine Go.newI (pc' := 51) (len := 0) (cells' := 7) (slots' := 6) (W' := fun aa => [(d, .inl ("com/example/pulld/pulld/broker/InFlightDeliveries", [("returning", "Lcom/example/pulld/pulld/broker/InFlightDeliveries$ByVisibleAt;", (.ref r)), ("lastAttempts", "Lcom/example/pulld/pulld/broker/InFlightDeliveries$ByVisibleAt;", (.ref s)), ("maxAttempts", "I", (.int 0)), ("count", "I", (.int 0)), ("usedSlots", "I", (.int 0)), ("firstFree", "I", (.int (-1 : Int32))), ("queues", "[I", (.ref aq)), ("offsets", "[J", (.ref ao)), ("attempts", "[I", .null), ("visibleAts", "[J", .null), ("ids", "[J", .null), ("heapPlaces", "[I", .null), ("table", "[I", .null)])), (r, .inl ("com/example/pulld/pulld/broker/InFlightDeliveries$ByVisibleAt", [("this$0", "Lcom/example/pulld/pulld/broker/InFlightDeliveries;", (.ref d)), ("heap", "[I", (.ref hr)), ("size", "I", (.int 0))])), (hr, .inr (.inl [])), (s, .inl ("com/example/pulld/pulld/broker/InFlightDeliveries$ByVisibleAt", [("this$0", "Lcom/example/pulld/pulld/broker/InFlightDeliveries;", (.ref d)), ("heap", "[I", (.ref hs)), ("size", "I", (.int 0))])), (hs, .inr (.inl [])), (aq, .inr (.inl [])), (ao, .inr (.inr [])), (aa, .inr (.inl (List.replicate 0 0)))]) d1_49 (hw _ (List.mem_of_getElem? (i := 19) rfl)) (by decide) (by decide) (by decide) (by decide) (by decide) rfl rfl (fun _ => rfl) rfl (fun aa => ?_)
  refine Go.putF (pc' := 54) (i := 0) (j := 8) (ty := (.array .int)) (W' := [(d, .inl ("com/example/pulld/pulld/broker/InFlightDeliveries", [("returning", "Lcom/example/pulld/pulld/broker/InFlightDeliveries$ByVisibleAt;", (.ref r)), ("lastAttempts", "Lcom/example/pulld/pulld/broker/InFlightDeliveries$ByVisibleAt;", (.ref s)), ("maxAttempts", "I", (.int 0)), ("count", "I", (.int 0)), ("usedSlots", "I", (.int 0)), ("firstFree", "I", (.int (-1 : Int32))), ("queues", "[I", (.ref aq)), ("offsets", "[J", (.ref ao)), ("attempts", "[I", (.ref aa)), ("visibleAts", "[J", .null), ("ids", "[J", .null), ("heapPlaces", "[I", .null), ("table", "[I", .null)])), (r, .inl ("com/example/pulld/pulld/broker/InFlightDeliveries$ByVisibleAt", [("this$0", "Lcom/example/pulld/pulld/broker/InFlightDeliveries;", (.ref d)), ("heap", "[I", (.ref hr)), ("size", "I", (.int 0))])), (hr, .inr (.inl [])), (s, .inl ("com/example/pulld/pulld/broker/InFlightDeliveries$ByVisibleAt", [("this$0", "Lcom/example/pulld/pulld/broker/InFlightDeliveries;", (.ref d)), ("heap", "[I", (.ref hs)), ("size", "I", (.int 0))])), (hs, .inr (.inl [])), (aq, .inr (.inl [])), (ao, .inr (.inr [])), (aa, .inr (.inl []))]) (host := "") d1_51 (Or.inl (hw _ (List.mem_of_getElem? (i := 33) rfl))) (Or.inl (hw _ (List.mem_of_getElem? (i := 34) rfl))) (hw _ (List.mem_of_getElem? (i := 2) rfl)) rfl rfl (by decide) rfl rfl rfl rfl ?_
  refine Go.aloadN (pc' := 55) d1_54 rfl rfl rfl ?_
  refine Go.iconst (pc' := 56) (v := (0 : Int32)) d1_55 rfl rfl ?_
  refine Go.newJ (pc' := 58) (len := 0) (cells' := 8) (slots' := 6) (W' := fun av => [(d, .inl ("com/example/pulld/pulld/broker/InFlightDeliveries", [("returning", "Lcom/example/pulld/pulld/broker/InFlightDeliveries$ByVisibleAt;", (.ref r)), ("lastAttempts", "Lcom/example/pulld/pulld/broker/InFlightDeliveries$ByVisibleAt;", (.ref s)), ("maxAttempts", "I", (.int 0)), ("count", "I", (.int 0)), ("usedSlots", "I", (.int 0)), ("firstFree", "I", (.int (-1 : Int32))), ("queues", "[I", (.ref aq)), ("offsets", "[J", (.ref ao)), ("attempts", "[I", (.ref aa)), ("visibleAts", "[J", .null), ("ids", "[J", .null), ("heapPlaces", "[I", .null), ("table", "[I", .null)])), (r, .inl ("com/example/pulld/pulld/broker/InFlightDeliveries$ByVisibleAt", [("this$0", "Lcom/example/pulld/pulld/broker/InFlightDeliveries;", (.ref d)), ("heap", "[I", (.ref hr)), ("size", "I", (.int 0))])), (hr, .inr (.inl [])), (s, .inl ("com/example/pulld/pulld/broker/InFlightDeliveries$ByVisibleAt", [("this$0", "Lcom/example/pulld/pulld/broker/InFlightDeliveries;", (.ref d)), ("heap", "[I", (.ref hs)), ("size", "I", (.int 0))])), (hs, .inr (.inl [])), (aq, .inr (.inl [])), (ao, .inr (.inr [])), (aa, .inr (.inl [])), (av, .inr (.inr (List.replicate 0 0)))]) d1_56 (hw _ (List.mem_of_getElem? (i := 30) rfl)) (by decide) (by decide) (by decide) (by decide) (by decide) rfl rfl (fun _ => rfl) rfl (fun av => ?_)
  refine Go.putF (pc' := 61) (i := 0) (j := 9) (ty := (.array .long)) (W' := [(d, .inl ("com/example/pulld/pulld/broker/InFlightDeliveries", [("returning", "Lcom/example/pulld/pulld/broker/InFlightDeliveries$ByVisibleAt;", (.ref r)), ("lastAttempts", "Lcom/example/pulld/pulld/broker/InFlightDeliveries$ByVisibleAt;", (.ref s)), ("maxAttempts", "I", (.int 0)), ("count", "I", (.int 0)), ("usedSlots", "I", (.int 0)), ("firstFree", "I", (.int (-1 : Int32))), ("queues", "[I", (.ref aq)), ("offsets", "[J", (.ref ao)), ("attempts", "[I", (.ref aa)), ("visibleAts", "[J", (.ref av)), ("ids", "[J", .null), ("heapPlaces", "[I", .null), ("table", "[I", .null)])), (r, .inl ("com/example/pulld/pulld/broker/InFlightDeliveries$ByVisibleAt", [("this$0", "Lcom/example/pulld/pulld/broker/InFlightDeliveries;", (.ref d)), ("heap", "[I", (.ref hr)), ("size", "I", (.int 0))])), (hr, .inr (.inl [])), (s, .inl ("com/example/pulld/pulld/broker/InFlightDeliveries$ByVisibleAt", [("this$0", "Lcom/example/pulld/pulld/broker/InFlightDeliveries;", (.ref d)), ("heap", "[I", (.ref hs)), ("size", "I", (.int 0))])), (hs, .inr (.inl [])), (aq, .inr (.inl [])), (ao, .inr (.inr [])), (aa, .inr (.inl [])), (av, .inr (.inr []))]) (host := "") d1_58 (Or.inl (hw _ (List.mem_of_getElem? (i := 35) rfl))) (Or.inl (hw _ (List.mem_of_getElem? (i := 36) rfl))) (hw _ (List.mem_of_getElem? (i := 2) rfl)) rfl rfl (by decide) rfl rfl rfl rfl ?_
  refine Go.aloadN (pc' := 62) d1_61 rfl rfl rfl ?_
  refine Go.iconst (pc' := 63) (v := (0 : Int32)) d1_62 rfl rfl ?_
  refine Go.newJ (pc' := 65) (len := 0) (cells' := 9) (slots' := 6) (W' := fun ai => [(d, .inl ("com/example/pulld/pulld/broker/InFlightDeliveries", [("returning", "Lcom/example/pulld/pulld/broker/InFlightDeliveries$ByVisibleAt;", (.ref r)), ("lastAttempts", "Lcom/example/pulld/pulld/broker/InFlightDeliveries$ByVisibleAt;", (.ref s)), ("maxAttempts", "I", (.int 0)), ("count", "I", (.int 0)), ("usedSlots", "I", (.int 0)), ("firstFree", "I", (.int (-1 : Int32))), ("queues", "[I", (.ref aq)), ("offsets", "[J", (.ref ao)), ("attempts", "[I", (.ref aa)), ("visibleAts", "[J", (.ref av)), ("ids", "[J", .null), ("heapPlaces", "[I", .null), ("table", "[I", .null)])), (r, .inl ("com/example/pulld/pulld/broker/InFlightDeliveries$ByVisibleAt", [("this$0", "Lcom/example/pulld/pulld/broker/InFlightDeliveries;", (.ref d)), ("heap", "[I", (.ref hr)), ("size", "I", (.int 0))])), (hr, .inr (.inl [])), (s, .inl ("com/example/pulld/pulld/broker/InFlightDeliveries$ByVisibleAt", [("this$0", "Lcom/example/pulld/pulld/broker/InFlightDeliveries;", (.ref d)), ("heap", "[I", (.ref hs)), ("size", "I", (.int 0))])), (hs, .inr (.inl [])), (aq, .inr (.inl [])), (ao, .inr (.inr [])), (aa, .inr (.inl [])), (av, .inr (.inr [])), (ai, .inr (.inr (List.replicate 0 0)))]) d1_63 (hw _ (List.mem_of_getElem? (i := 30) rfl)) (by decide) (by decide) (by decide) (by decide) (by decide) rfl rfl (fun _ => rfl) rfl (fun ai => ?_)
  refine Go.putF (pc' := 68) (i := 0) (j := 10) (ty := (.array .long)) (W' := [(d, .inl ("com/example/pulld/pulld/broker/InFlightDeliveries", [("returning", "Lcom/example/pulld/pulld/broker/InFlightDeliveries$ByVisibleAt;", (.ref r)), ("lastAttempts", "Lcom/example/pulld/pulld/broker/InFlightDeliveries$ByVisibleAt;", (.ref s)), ("maxAttempts", "I", (.int 0)), ("count", "I", (.int 0)), ("usedSlots", "I", (.int 0)), ("firstFree", "I", (.int (-1 : Int32))), ("queues", "[I", (.ref aq)), ("offsets", "[J", (.ref ao)), ("attempts", "[I", (.ref aa)), ("visibleAts", "[J", (.ref av)), ("ids", "[J", (.ref ai)), ("heapPlaces", "[I", .null), ("table", "[I", .null)])), (r, .inl ("com/example/pulld/pulld/broker/InFlightDeliveries$ByVisibleAt", [("this$0", "Lcom/example/pulld/pulld/broker/InFlightDeliveries;", (.ref d)), ("heap", "[I", (.ref hr)), ("size", "I", (.int 0))])), (hr, .inr (.inl [])), (s, .inl ("com/example/pulld/pulld/broker/InFlightDeliveries$ByVisibleAt", [("this$0", "Lcom/example/pulld/pulld/broker/InFlightDeliveries;", (.ref d)), ("heap", "[I", (.ref hs)), ("size", "I", (.int 0))])), (hs, .inr (.inl [])), (aq, .inr (.inl [])), (ao, .inr (.inr [])), (aa, .inr (.inl [])), (av, .inr (.inr [])), (ai, .inr (.inr []))]) (host := "") d1_65 (Or.inl (hw _ (List.mem_of_getElem? (i := 37) rfl))) (Or.inl (hw _ (List.mem_of_getElem? (i := 38) rfl))) (hw _ (List.mem_of_getElem? (i := 2) rfl)) rfl rfl (by decide) rfl rfl rfl rfl ?_
  refine Go.aloadN (pc' := 69) d1_68 rfl rfl rfl ?_
  refine Go.iconst (pc' := 70) (v := (0 : Int32)) d1_69 rfl rfl ?_
  refine Go.newI (pc' := 72) (len := 0) (cells' := 10) (slots' := 6) (W' := fun ah => [(d, .inl ("com/example/pulld/pulld/broker/InFlightDeliveries", [("returning", "Lcom/example/pulld/pulld/broker/InFlightDeliveries$ByVisibleAt;", (.ref r)), ("lastAttempts", "Lcom/example/pulld/pulld/broker/InFlightDeliveries$ByVisibleAt;", (.ref s)), ("maxAttempts", "I", (.int 0)), ("count", "I", (.int 0)), ("usedSlots", "I", (.int 0)), ("firstFree", "I", (.int (-1 : Int32))), ("queues", "[I", (.ref aq)), ("offsets", "[J", (.ref ao)), ("attempts", "[I", (.ref aa)), ("visibleAts", "[J", (.ref av)), ("ids", "[J", (.ref ai)), ("heapPlaces", "[I", .null), ("table", "[I", .null)])), (r, .inl ("com/example/pulld/pulld/broker/InFlightDeliveries$ByVisibleAt", [("this$0", "Lcom/example/pulld/pulld/broker/InFlightDeliveries;", (.ref d)), ("heap", "[I", (.ref hr)), ("size", "I", (.int 0))])), (hr, .inr (.inl [])), (s, .inl ("com/example/pulld/pulld/broker/InFlightDeliveries$ByVisibleAt", [("this$0", "Lcom/example/pulld/pulld/broker/InFlightDeliveries;", (.ref d)), ("heap", "[I", (.ref hs)), ("size", "I", (.int 0))])), (hs, .inr (.inl [])), (aq, .inr (.inl [])), (ao, .inr (.inr [])), (aa, .inr (.inl [])), (av, .inr (.inr [])), (ai, .inr (.inr [])), (ah, .inr (.inl (List.replicate 0 0)))]) d1_70 (hw _ (List.mem_of_getElem? (i := 19) rfl)) (by decide) (by decide) (by decide) (by decide) (by decide) rfl rfl (fun _ => rfl) rfl (fun ah => ?_)
  refine Go.putF (pc' := 75) (i := 0) (j := 11) (ty := (.array .int)) (W' := [(d, .inl ("com/example/pulld/pulld/broker/InFlightDeliveries", [("returning", "Lcom/example/pulld/pulld/broker/InFlightDeliveries$ByVisibleAt;", (.ref r)), ("lastAttempts", "Lcom/example/pulld/pulld/broker/InFlightDeliveries$ByVisibleAt;", (.ref s)), ("maxAttempts", "I", (.int 0)), ("count", "I", (.int 0)), ("usedSlots", "I", (.int 0)), ("firstFree", "I", (.int (-1 : Int32))), ("queues", "[I", (.ref aq)), ("offsets", "[J", (.ref ao)), ("attempts", "[I", (.ref aa)), ("visibleAts", "[J", (.ref av)), ("ids", "[J", (.ref ai)), ("heapPlaces", "[I", (.ref ah)), ("table", "[I", .null)])), (r, .inl ("com/example/pulld/pulld/broker/InFlightDeliveries$ByVisibleAt", [("this$0", "Lcom/example/pulld/pulld/broker/InFlightDeliveries;", (.ref d)), ("heap", "[I", (.ref hr)), ("size", "I", (.int 0))])), (hr, .inr (.inl [])), (s, .inl ("com/example/pulld/pulld/broker/InFlightDeliveries$ByVisibleAt", [("this$0", "Lcom/example/pulld/pulld/broker/InFlightDeliveries;", (.ref d)), ("heap", "[I", (.ref hs)), ("size", "I", (.int 0))])), (hs, .inr (.inl [])), (aq, .inr (.inl [])), (ao, .inr (.inr [])), (aa, .inr (.inl [])), (av, .inr (.inr [])), (ai, .inr (.inr [])), (ah, .inr (.inl []))]) (host := "") d1_72 (Or.inl (hw _ (List.mem_of_getElem? (i := 39) rfl))) (Or.inl (hw _ (List.mem_of_getElem? (i := 40) rfl))) (hw _ (List.mem_of_getElem? (i := 2) rfl)) rfl rfl (by decide) rfl rfl rfl rfl ?_
  refine Go.aloadN (pc' := 76) d1_75 rfl rfl rfl ?_
  refine Go.iconst (pc' := 77) (v := (0 : Int32)) d1_76 rfl rfl ?_
  refine Go.newI (pc' := 79) (len := 0) (cells' := 11) (slots' := 6) (W' := fun ab => [(d, .inl ("com/example/pulld/pulld/broker/InFlightDeliveries", [("returning", "Lcom/example/pulld/pulld/broker/InFlightDeliveries$ByVisibleAt;", (.ref r)), ("lastAttempts", "Lcom/example/pulld/pulld/broker/InFlightDeliveries$ByVisibleAt;", (.ref s)), ("maxAttempts", "I", (.int 0)), ("count", "I", (.int 0)), ("usedSlots", "I", (.int 0)), ("firstFree", "I", (.int (-1 : Int32))), ("queues", "[I", (.ref aq)), ("offsets", "[J", (.ref ao)), ("attempts", "[I", (.ref aa)), ("visibleAts", "[J", (.ref av)), ("ids", "[J", (.ref ai)), ("heapPlaces", "[I", (.ref ah)), ("table", "[I", .null)])), (r, .inl ("com/example/pulld/pulld/broker/InFlightDeliveries$ByVisibleAt", [("this$0", "Lcom/example/pulld/pulld/broker/InFlightDeliveries;", (.ref d)), ("heap", "[I", (.ref hr)), ("size", "I", (.int 0))])), (hr, .inr (.inl [])), (s, .inl ("com/example/pulld/pulld/broker/InFlightDeliveries$ByVisibleAt", [("this$0", "Lcom/example/pulld/pulld/broker/InFlightDeliveries;", (.ref d)), ("heap", "[I", (.ref hs)), ("size", "I", (.int 0))])), (hs, .inr (.inl [])), (aq, .inr (.inl [])), (ao, .inr (.inr [])), (aa, .inr (.inl [])), (av, .inr (.inr [])), (ai, .inr (.inr [])), (ah, .inr (.inl [])), (ab, .inr (.inl (List.replicate 0 0)))]) d1_77 (hw _ (List.mem_of_getElem? (i := 19) rfl)) (by decide) (by decide) (by decide) (by decide) (by decide) rfl rfl (fun _ => rfl) rfl (fun ab => ?_)
  refine Go.putF (pc' := 82) (i := 0) (j := 12) (ty := (.array .int)) (W' := [(d, .inl ("com/example/pulld/pulld/broker/InFlightDeliveries", [("returning", "Lcom/example/pulld/pulld/broker/InFlightDeliveries$ByVisibleAt;", (.ref r)), ("lastAttempts", "Lcom/example/pulld/pulld/broker/InFlightDeliveries$ByVisibleAt;", (.ref s)), ("maxAttempts", "I", (.int 0)), ("count", "I", (.int 0)), ("usedSlots", "I", (.int 0)), ("firstFree", "I", (.int (-1 : Int32))), ("queues", "[I", (.ref aq)), ("offsets", "[J", (.ref ao)), ("attempts", "[I", (.ref aa)), ("visibleAts", "[J", (.ref av)), ("ids", "[J", (.ref ai)), ("heapPlaces", "[I", (.ref ah)), ("table", "[I", (.ref ab))])), (r, .inl ("com/example/pulld/pulld/broker/InFlightDeliveries$ByVisibleAt", [("this$0", "Lcom/example/pulld/pulld/broker/InFlightDeliveries;", (.ref d)), ("heap", "[I", (.ref hr)), ("size", "I", (.int 0))])), (hr, .inr (.inl [])), (s, .inl ("com/example/pulld/pulld/broker/InFlightDeliveries$ByVisibleAt", [("this$0", "Lcom/example/pulld/pulld/broker/InFlightDeliveries;", (.ref d)), ("heap", "[I", (.ref hs)), ("size", "I", (.int 0))])), (hs, .inr (.inl [])), (aq, .inr (.inl [])), (ao, .inr (.inr [])), (aa, .inr (.inl [])), (av, .inr (.inr [])), (ai, .inr (.inr [])), (ah, .inr (.inl [])), (ab, .inr (.inl []))]) (host := "") d1_79 (Or.inl (hw _ (List.mem_of_getElem? (i := 41) rfl))) (Or.inl (hw _ (List.mem_of_getElem? (i := 42) rfl))) (hw _ (List.mem_of_getElem? (i := 2) rfl)) rfl rfl (by decide) rfl rfl rfl rfl ?_
  refine Go.aloadN (pc' := 83) d1_82 rfl rfl rfl ?_
  refine Go.iloadN (pc' := 84) d1_83 rfl rfl ?_
  refine Go.putF (pc' := 87) (i := 0) (j := 2) (ty := .int) (W' := [(d, .inl ("com/example/pulld/pulld/broker/InFlightDeliveries", [("returning", "Lcom/example/pulld/pulld/broker/InFlightDeliveries$ByVisibleAt;", (.ref r)), ("lastAttempts", "Lcom/example/pulld/pulld/broker/InFlightDeliveries$ByVisibleAt;", (.ref s)), ("maxAttempts", "I", (.int p1)), ("count", "I", (.int 0)), ("usedSlots", "I", (.int 0)), ("firstFree", "I", (.int (-1 : Int32))), ("queues", "[I", (.ref aq)), ("offsets", "[J", (.ref ao)), ("attempts", "[I", (.ref aa)), ("visibleAts", "[J", (.ref av)), ("ids", "[J", (.ref ai)), ("heapPlaces", "[I", (.ref ah)), ("table", "[I", (.ref ab))])), (r, .inl ("com/example/pulld/pulld/broker/InFlightDeliveries$ByVisibleAt", [("this$0", "Lcom/example/pulld/pulld/broker/InFlightDeliveries;", (.ref d)), ("heap", "[I", (.ref hr)), ("size", "I", (.int 0))])), (hr, .inr (.inl [])), (s, .inl ("com/example/pulld/pulld/broker/InFlightDeliveries$ByVisibleAt", [("this$0", "Lcom/example/pulld/pulld/broker/InFlightDeliveries;", (.ref d)), ("heap", "[I", (.ref hs)), ("size", "I", (.int 0))])), (hs, .inr (.inl [])), (aq, .inr (.inl [])), (ao, .inr (.inr [])), (aa, .inr (.inl [])), (av, .inr (.inr [])), (ai, .inr (.inr [])), (ah, .inr (.inl [])), (ab, .inr (.inl []))]) (host := "") d1_84 (Or.inl (hw _ (List.mem_of_getElem? (i := 43) rfl))) (Or.inl (hw _ (List.mem_of_getElem? (i := 44) rfl))) (hw _ (List.mem_of_getElem? (i := 2) rfl)) rfl rfl (by decide) rfl rfl rfl rfl ?_
  refine Go.pick (W' := (DW d r s aq ao aa av ai ah ab hr hs p1 0 0 (-1 : Int32) 0 0 [] [] [] [] [] [] [] [] [] ++ [])) [0, 1, 3, 5, 6, 7, 8, 9, 10, 11, 2, 4] rfl (by decide) ?_
  exact Go.retV d1_87 rfl (by decide) (by decide) ⟨rfl, _, _, _, _, _, _, _, _, _, _, _, rfl⟩
theorem d4_0 : decode prog_11_method_1_code 0 = .ok (.aload_n 0, 1) := by decide +kernel
theorem d4_1 : decode prog_11_method_1_code 1 = .ok (.invokespecial 1, 3) := by decide +kernel
theorem d4_4 : decode prog_11_method_1_code 4 = .ok (.aload_n 0, 1) := by decide +kernel
theorem d4_5 : decode prog_11_method_1_code 5 = .ok (.iload_n 1, 1) := by decide +kernel
theorem d4_6 : decode prog_11_method_1_code 6 = .ok (.putfield 7, 3) := by decide +kernel
theorem d4_9 : decode prog_11_method_1_code 9 = .ok (.aload_n 0, 1) := by decide +kernel
theorem d4_10 : decode prog_11_method_1_code 10 = .ok (.lload_n 2, 1) := by decide +kernel
theorem d4_11 : decode prog_11_method_1_code 11 = .ok (.putfield 13, 3) := by decide +kernel
theorem d4_14 : decode prog_11_method_1_code 14 = .ok (.aload_n 0, 1) := by decide +kernel
theorem d4_15 : decode prog_11_method_1_code 15 = .ok (.iload 4, 2) := by decide +kernel
theorem d4_17 : decode prog_11_method_1_code 17 = .ok (.putfield 17, 3) := by decide +kernel
theorem d4_20 : decode prog_11_method_1_code 20 = .ok (.aload_n 0, 1) := by decide +kernel
theorem d4_21 : decode prog_11_method_1_code 21 = .ok (.lload 5, 2) := by decide +kernel
theorem d4_23 : decode prog_11_method_1_code 23 = .ok (.putfield 20, 3) := by decide +kernel
theorem d4_26 : decode prog_11_method_1_code 26 = .ok (.aload_n 0, 1) := by decide +kernel
theorem d4_27 : decode prog_11_method_1_code 27 = .ok (.lload 7, 2) := by decide +kernel
theorem d4_29 : decode prog_11_method_1_code 29 = .ok (.putfield 23, 3) := by decide +kernel
theorem d4_32 : decode prog_11_method_1_code 32 = .ok (.return_, 1) := by decide +kernel
set_option maxRecDepth 65536 in
set_option maxHeartbeats 40000000 in
theorem finit1 (l : Launch) (Z : State) (n0 : Nat) (w0 : Array Value) (hw : ∀ d ∈ tables_1, d.before w0 Z = true) (f1 : Addr) (fq : Int32) (fo : Int64) (fa : Int32) (fv fi : Int64) (d r s aq ao aa av ai ah ab hr hs : Addr) (mx ct us fr sr ss : Int32) (qs : List Int32) (os : List Int64) (ats : List Int32) (vs ids : List Int64) (hp tb R S : List Int32) :
    Meets l Z n0 (⟨"com/example/pulld/pulld/broker/InFlight", "<init>", "(IJIJJ)V"⟩ : MethodName) prog_11_method_1_code 9 none ({ frames := 2, cells := 0, slots := 0, locals := 24 } : Room) [] #[(.ref f1), (.int fq), (.long fo), (.int fa), (.long fv), (.long fi)] (DW d r s aq ao aa av ai ah ab hr hs mx ct us fr sr ss qs os ats vs ids hp tb R S ++ [(f1, .inl ("com/example/pulld/pulld/broker/InFlight", [("queue", "I", (.int 0)), ("offset", "J", (.long 0)), ("attempt", "I", (.int 0)), ("visibleAt", "J", (.long 0)), ("id", "J", (.long 0))]))]) (fun v W' => v = none ∧ W' = (DW d r s aq ao aa av ai ah ab hr hs mx ct us fr sr ss qs os ats vs ids hp tb R S ++ [(f1, .inl ("com/example/pulld/pulld/broker/InFlight", [("queue", "I", (.int fq)), ("offset", "J", (.long fo)), ("attempt", "I", (.int fa)), ("visibleAt", "J", (.long fv)), ("id", "J", (.long fi))]))])) := by
  refine Meets.of_go (ls := #[.val (.ref f1), .val (.int fq), .val (.long fo), .second, .val (.int fa), .val (.long fv), .second, .val (.long fi), .second]) (plainFor_of_name (by first | (simp [plainName, overriddenIn]; done) | decide +kernel)) (fun m => by first | (simp [entryFrame, mkF, argsToLocals, Value.category, maxLocals]; done) | rfl) (fun D => ?_)
  refine Go.aloadN (pc' := 1) d4_0 rfl rfl rfl ?_
  refine Go.callI (pc' := 4) (W1 := 0) (cells' := 0) (slots' := 0) (argsL := []) (rest := []) (y' := (⟨"java/lang/Record", "<init>", "()V"⟩ : MethodName)) (a := f1) d4_1 rfl (hw _ (List.mem_of_getElem? (i := 51) rfl)) (hw _ (List.mem_of_getElem? (i := 52) rfl)) (hw _ (List.mem_of_getElem? (i := 54) rfl)) (hw _ (List.mem_of_getElem? (i := 55) rfl)) (by decide) (rm5 l Z n0 w0 hw f1 (DW d r s aq ao aa av ai ah ab hr hs mx ct us fr sr ss qs os ats vs ids hp tb R S ++ [(f1, .inl ("com/example/pulld/pulld/broker/InFlight", [("queue", "I", (.int 0)), ("offset", "J", (.long 0)), ("attempt", "I", (.int 0)), ("visibleAt", "J", (.long 0)), ("id", "J", (.long 0))]))])) (by decide) (by decide) rfl (lenOf pd__28_29V rfl) rfl (Nat.le_of_eq rfl) (by decide) (by decide) rfl rfl rfl (fun v W' hF => ?_)
  obtain ⟨rfl, rfl⟩ := hF
  refine Go.nov ?_
  refine Go.aloadN (pc' := 5) d4_4 rfl rfl rfl ?_
  refine Go.iloadN (pc' := 6) d4_5 rfl rfl ?_
  refine Go.putF (pc' := 9) (i := 12) (j := 0) (ty := .int) (W' := (DW d r s aq ao aa av ai ah ab hr hs mx ct us fr sr ss qs os ats vs ids hp tb R S ++ [(f1, .inl ("com/example/pulld/pulld/broker/InFlight", [("queue", "I", (.int fq)), ("offset", "J", (.long 0)), ("attempt", "I", (.int 0)), ("visibleAt", "J", (.long 0)), ("id", "J", (.long 0))]))])) (host := "") d4_6 (Or.inl (hw _ (List.mem_of_getElem? (i := 57) rfl))) (Or.inr ⟨(hw _ (List.mem_of_getElem? (i := 58) rfl)), rfl, rfl⟩) (hw _ (List.mem_of_getElem? (i := 46) rfl)) rfl rfl (by decide) rfl rfl rfl rfl ?_
  refine Go.aloadN (pc' := 10) d4_9 rfl rfl rfl ?_
  refine Go.lloadN (pc' := 11) d4_10 rfl rfl ?_
  refine Go.putF (pc' := 14) (i := 12) (j := 1) (ty := .long) (W' := (DW d r s aq ao aa av ai ah ab hr hs mx ct us fr sr ss qs os ats vs ids hp tb R S ++ [(f1, .inl ("com/example/pulld/pulld/broker/InFlight", [("queue", "I", (.int fq)), ("offset", "J", (.long fo)), ("attempt", "I", (.int 0)), ("visibleAt", "J", (.long 0)), ("id", "J", (.long 0))]))])) (host := "") d4_11 (Or.inl (hw _ (List.mem_of_getElem? (i := 59) rfl))) (Or.inr ⟨(hw _ (List.mem_of_getElem? (i := 60) rfl)), rfl, rfl⟩) (hw _ (List.mem_of_getElem? (i := 46) rfl)) rfl rfl (by decide) rfl rfl rfl rfl ?_
  refine Go.aloadN (pc' := 15) d4_14 rfl rfl rfl ?_
  refine Go.iload (pc' := 17) d4_15 rfl rfl ?_
  refine Go.putF (pc' := 20) (i := 12) (j := 2) (ty := .int) (W' := (DW d r s aq ao aa av ai ah ab hr hs mx ct us fr sr ss qs os ats vs ids hp tb R S ++ [(f1, .inl ("com/example/pulld/pulld/broker/InFlight", [("queue", "I", (.int fq)), ("offset", "J", (.long fo)), ("attempt", "I", (.int fa)), ("visibleAt", "J", (.long 0)), ("id", "J", (.long 0))]))])) (host := "") d4_17 (Or.inl (hw _ (List.mem_of_getElem? (i := 61) rfl))) (Or.inr ⟨(hw _ (List.mem_of_getElem? (i := 62) rfl)), rfl, rfl⟩) (hw _ (List.mem_of_getElem? (i := 46) rfl)) rfl rfl (by decide) rfl rfl rfl rfl ?_
  refine Go.aloadN (pc' := 21) d4_20 rfl rfl rfl ?_
  refine Go.lload (pc' := 23) d4_21 rfl rfl ?_
  refine Go.putF (pc' := 26) (i := 12) (j := 3) (ty := .long) (W' := (DW d r s aq ao aa av ai ah ab hr hs mx ct us fr sr ss qs os ats vs ids hp tb R S ++ [(f1, .inl ("com/example/pulld/pulld/broker/InFlight", [("queue", "I", (.int fq)), ("offset", "J", (.long fo)), ("attempt", "I", (.int fa)), ("visibleAt", "J", (.long fv)), ("id", "J", (.long 0))]))])) (host := "") d4_23 (Or.inl (hw _ (List.mem_of_getElem? (i := 63) rfl))) (Or.inr ⟨(hw _ (List.mem_of_getElem? (i := 64) rfl)), rfl, rfl⟩) (hw _ (List.mem_of_getElem? (i := 46) rfl)) rfl rfl (by decide) rfl rfl rfl rfl ?_
  refine Go.aloadN (pc' := 27) d4_26 rfl rfl rfl ?_
  refine Go.lload (pc' := 29) d4_27 rfl rfl ?_
  refine Go.putF (pc' := 32) (i := 12) (j := 4) (ty := .long) (W' := (DW d r s aq ao aa av ai ah ab hr hs mx ct us fr sr ss qs os ats vs ids hp tb R S ++ [(f1, .inl ("com/example/pulld/pulld/broker/InFlight", [("queue", "I", (.int fq)), ("offset", "J", (.long fo)), ("attempt", "I", (.int fa)), ("visibleAt", "J", (.long fv)), ("id", "J", (.long fi))]))])) (host := "") d4_29 (Or.inl (hw _ (List.mem_of_getElem? (i := 65) rfl))) (Or.inr ⟨(hw _ (List.mem_of_getElem? (i := 66) rfl)), rfl, rfl⟩) (hw _ (List.mem_of_getElem? (i := 46) rfl)) rfl rfl (by decide) rfl rfl rfl rfl ?_
  exact Go.retV d4_32 rfl (by decide) (by decide) ⟨rfl, rfl⟩
set_option maxRecDepth 65536 in
set_option maxHeartbeats 40000000 in
theorem finit2 (l : Launch) (Z : State) (n0 : Nat) (w0 : Array Value) (hw : ∀ d ∈ tables_1, d.before w0 Z = true) (f1 f2 : Addr) (fq : Int32) (fo : Int64) (fa : Int32) (fv fi : Int64) (d r s aq ao aa av ai ah ab hr hs : Addr) (mx ct us fr sr ss : Int32) (qs : List Int32) (os : List Int64) (ats : List Int32) (vs ids : List Int64) (hp tb R S : List Int32) (D1 : Desc) :
    Meets l Z n0 (⟨"com/example/pulld/pulld/broker/InFlight", "<init>", "(IJIJJ)V"⟩ : MethodName) prog_11_method_1_code 9 none ({ frames := 2, cells := 0, slots := 0, locals := 24 } : Room) [] #[(.ref f2), (.int fq), (.long fo), (.int fa), (.long fv), (.long fi)] (DW d r s aq ao aa av ai ah ab hr hs mx ct us fr sr ss qs os ats vs ids hp tb R S ++ [(f1, D1), (f2, .inl ("com/example/pulld/pulld/broker/InFlight", [("queue", "I", (.int 0)), ("offset", "J", (.long 0)), ("attempt", "I", (.int 0)), ("visibleAt", "J", (.long 0)), ("id", "J", (.long 0))]))]) (fun v W' => v = none ∧ W' = (DW d r s aq ao aa av ai ah ab hr hs mx ct us fr sr ss qs os ats vs ids hp tb R S ++ [(f1, D1), (f2, .inl ("com/example/pulld/pulld/broker/InFlight", [("queue", "I", (.int fq)), ("offset", "J", (.long fo)), ("attempt", "I", (.int fa)), ("visibleAt", "J", (.long fv)), ("id", "J", (.long fi))]))])) := by
  refine Meets.of_go (ls := #[.val (.ref f2), .val (.int fq), .val (.long fo), .second, .val (.int fa), .val (.long fv), .second, .val (.long fi), .second]) (plainFor_of_name (by first | (simp [plainName, overriddenIn]; done) | decide +kernel)) (fun m => by first | (simp [entryFrame, mkF, argsToLocals, Value.category, maxLocals]; done) | rfl) (fun D => ?_)
  refine Go.aloadN (pc' := 1) d4_0 rfl rfl rfl ?_
  refine Go.callI (pc' := 4) (W1 := 0) (cells' := 0) (slots' := 0) (argsL := []) (rest := []) (y' := (⟨"java/lang/Record", "<init>", "()V"⟩ : MethodName)) (a := f2) d4_1 rfl (hw _ (List.mem_of_getElem? (i := 51) rfl)) (hw _ (List.mem_of_getElem? (i := 52) rfl)) (hw _ (List.mem_of_getElem? (i := 54) rfl)) (hw _ (List.mem_of_getElem? (i := 55) rfl)) (by decide) (rm5 l Z n0 w0 hw f2 (DW d r s aq ao aa av ai ah ab hr hs mx ct us fr sr ss qs os ats vs ids hp tb R S ++ [(f1, D1), (f2, .inl ("com/example/pulld/pulld/broker/InFlight", [("queue", "I", (.int 0)), ("offset", "J", (.long 0)), ("attempt", "I", (.int 0)), ("visibleAt", "J", (.long 0)), ("id", "J", (.long 0))]))])) (by decide) (by decide) rfl (lenOf pd__28_29V rfl) rfl (Nat.le_of_eq rfl) (by decide) (by decide) rfl rfl rfl (fun v W' hF => ?_)
  obtain ⟨rfl, rfl⟩ := hF
  refine Go.nov ?_
  refine Go.aloadN (pc' := 5) d4_4 rfl rfl rfl ?_
  refine Go.iloadN (pc' := 6) d4_5 rfl rfl ?_
  refine Go.putF (pc' := 9) (i := 13) (j := 0) (ty := .int) (W' := (DW d r s aq ao aa av ai ah ab hr hs mx ct us fr sr ss qs os ats vs ids hp tb R S ++ [(f1, D1), (f2, .inl ("com/example/pulld/pulld/broker/InFlight", [("queue", "I", (.int fq)), ("offset", "J", (.long 0)), ("attempt", "I", (.int 0)), ("visibleAt", "J", (.long 0)), ("id", "J", (.long 0))]))])) (host := "") d4_6 (Or.inl (hw _ (List.mem_of_getElem? (i := 57) rfl))) (Or.inr ⟨(hw _ (List.mem_of_getElem? (i := 58) rfl)), rfl, rfl⟩) (hw _ (List.mem_of_getElem? (i := 46) rfl)) rfl rfl (by decide) rfl rfl rfl rfl ?_
  refine Go.aloadN (pc' := 10) d4_9 rfl rfl rfl ?_
  refine Go.lloadN (pc' := 11) d4_10 rfl rfl ?_
  refine Go.putF (pc' := 14) (i := 13) (j := 1) (ty := .long) (W' := (DW d r s aq ao aa av ai ah ab hr hs mx ct us fr sr ss qs os ats vs ids hp tb R S ++ [(f1, D1), (f2, .inl ("com/example/pulld/pulld/broker/InFlight", [("queue", "I", (.int fq)), ("offset", "J", (.long fo)), ("attempt", "I", (.int 0)), ("visibleAt", "J", (.long 0)), ("id", "J", (.long 0))]))])) (host := "") d4_11 (Or.inl (hw _ (List.mem_of_getElem? (i := 59) rfl))) (Or.inr ⟨(hw _ (List.mem_of_getElem? (i := 60) rfl)), rfl, rfl⟩) (hw _ (List.mem_of_getElem? (i := 46) rfl)) rfl rfl (by decide) rfl rfl rfl rfl ?_
  refine Go.aloadN (pc' := 15) d4_14 rfl rfl rfl ?_
  refine Go.iload (pc' := 17) d4_15 rfl rfl ?_
  refine Go.putF (pc' := 20) (i := 13) (j := 2) (ty := .int) (W' := (DW d r s aq ao aa av ai ah ab hr hs mx ct us fr sr ss qs os ats vs ids hp tb R S ++ [(f1, D1), (f2, .inl ("com/example/pulld/pulld/broker/InFlight", [("queue", "I", (.int fq)), ("offset", "J", (.long fo)), ("attempt", "I", (.int fa)), ("visibleAt", "J", (.long 0)), ("id", "J", (.long 0))]))])) (host := "") d4_17 (Or.inl (hw _ (List.mem_of_getElem? (i := 61) rfl))) (Or.inr ⟨(hw _ (List.mem_of_getElem? (i := 62) rfl)), rfl, rfl⟩) (hw _ (List.mem_of_getElem? (i := 46) rfl)) rfl rfl (by decide) rfl rfl rfl rfl ?_
  refine Go.aloadN (pc' := 21) d4_20 rfl rfl rfl ?_
  refine Go.lload (pc' := 23) d4_21 rfl rfl ?_
  refine Go.putF (pc' := 26) (i := 13) (j := 3) (ty := .long) (W' := (DW d r s aq ao aa av ai ah ab hr hs mx ct us fr sr ss qs os ats vs ids hp tb R S ++ [(f1, D1), (f2, .inl ("com/example/pulld/pulld/broker/InFlight", [("queue", "I", (.int fq)), ("offset", "J", (.long fo)), ("attempt", "I", (.int fa)), ("visibleAt", "J", (.long fv)), ("id", "J", (.long 0))]))])) (host := "") d4_23 (Or.inl (hw _ (List.mem_of_getElem? (i := 63) rfl))) (Or.inr ⟨(hw _ (List.mem_of_getElem? (i := 64) rfl)), rfl, rfl⟩) (hw _ (List.mem_of_getElem? (i := 46) rfl)) rfl rfl (by decide) rfl rfl rfl rfl ?_
  refine Go.aloadN (pc' := 27) d4_26 rfl rfl rfl ?_
  refine Go.lload (pc' := 29) d4_27 rfl rfl ?_
  refine Go.putF (pc' := 32) (i := 13) (j := 4) (ty := .long) (W' := (DW d r s aq ao aa av ai ah ab hr hs mx ct us fr sr ss qs os ats vs ids hp tb R S ++ [(f1, D1), (f2, .inl ("com/example/pulld/pulld/broker/InFlight", [("queue", "I", (.int fq)), ("offset", "J", (.long fo)), ("attempt", "I", (.int fa)), ("visibleAt", "J", (.long fv)), ("id", "J", (.long fi))]))])) (host := "") d4_29 (Or.inl (hw _ (List.mem_of_getElem? (i := 65) rfl))) (Or.inr ⟨(hw _ (List.mem_of_getElem? (i := 66) rfl)), rfl, rfl⟩) (hw _ (List.mem_of_getElem? (i := 46) rfl)) rfl rfl (by decide) rfl rfl rfl rfl ?_
  exact Go.retV d4_32 rfl (by decide) (by decide) ⟨rfl, rfl⟩
set_option maxRecDepth 65536 in
set_option maxHeartbeats 40000000 in
theorem finit3 (l : Launch) (Z : State) (n0 : Nat) (w0 : Array Value) (hw : ∀ d ∈ tables_1, d.before w0 Z = true) (f1 f2 f3 : Addr) (fq : Int32) (fo : Int64) (fa : Int32) (fv fi : Int64) (d r s aq ao aa av ai ah ab hr hs : Addr) (mx ct us fr sr ss : Int32) (qs : List Int32) (os : List Int64) (ats : List Int32) (vs ids : List Int64) (hp tb R S : List Int32) (D1 D2 : Desc) :
    Meets l Z n0 (⟨"com/example/pulld/pulld/broker/InFlight", "<init>", "(IJIJJ)V"⟩ : MethodName) prog_11_method_1_code 9 none ({ frames := 2, cells := 0, slots := 0, locals := 24 } : Room) [] #[(.ref f3), (.int fq), (.long fo), (.int fa), (.long fv), (.long fi)] (DW d r s aq ao aa av ai ah ab hr hs mx ct us fr sr ss qs os ats vs ids hp tb R S ++ [(f1, D1), (f2, D2), (f3, .inl ("com/example/pulld/pulld/broker/InFlight", [("queue", "I", (.int 0)), ("offset", "J", (.long 0)), ("attempt", "I", (.int 0)), ("visibleAt", "J", (.long 0)), ("id", "J", (.long 0))]))]) (fun v W' => v = none ∧ W' = (DW d r s aq ao aa av ai ah ab hr hs mx ct us fr sr ss qs os ats vs ids hp tb R S ++ [(f1, D1), (f2, D2), (f3, .inl ("com/example/pulld/pulld/broker/InFlight", [("queue", "I", (.int fq)), ("offset", "J", (.long fo)), ("attempt", "I", (.int fa)), ("visibleAt", "J", (.long fv)), ("id", "J", (.long fi))]))])) := by
  refine Meets.of_go (ls := #[.val (.ref f3), .val (.int fq), .val (.long fo), .second, .val (.int fa), .val (.long fv), .second, .val (.long fi), .second]) (plainFor_of_name (by first | (simp [plainName, overriddenIn]; done) | decide +kernel)) (fun m => by first | (simp [entryFrame, mkF, argsToLocals, Value.category, maxLocals]; done) | rfl) (fun D => ?_)
  refine Go.aloadN (pc' := 1) d4_0 rfl rfl rfl ?_
  refine Go.callI (pc' := 4) (W1 := 0) (cells' := 0) (slots' := 0) (argsL := []) (rest := []) (y' := (⟨"java/lang/Record", "<init>", "()V"⟩ : MethodName)) (a := f3) d4_1 rfl (hw _ (List.mem_of_getElem? (i := 51) rfl)) (hw _ (List.mem_of_getElem? (i := 52) rfl)) (hw _ (List.mem_of_getElem? (i := 54) rfl)) (hw _ (List.mem_of_getElem? (i := 55) rfl)) (by decide) (rm5 l Z n0 w0 hw f3 (DW d r s aq ao aa av ai ah ab hr hs mx ct us fr sr ss qs os ats vs ids hp tb R S ++ [(f1, D1), (f2, D2), (f3, .inl ("com/example/pulld/pulld/broker/InFlight", [("queue", "I", (.int 0)), ("offset", "J", (.long 0)), ("attempt", "I", (.int 0)), ("visibleAt", "J", (.long 0)), ("id", "J", (.long 0))]))])) (by decide) (by decide) rfl (lenOf pd__28_29V rfl) rfl (Nat.le_of_eq rfl) (by decide) (by decide) rfl rfl rfl (fun v W' hF => ?_)
  obtain ⟨rfl, rfl⟩ := hF
  refine Go.nov ?_
  refine Go.aloadN (pc' := 5) d4_4 rfl rfl rfl ?_
  refine Go.iloadN (pc' := 6) d4_5 rfl rfl ?_
  refine Go.putF (pc' := 9) (i := 14) (j := 0) (ty := .int) (W' := (DW d r s aq ao aa av ai ah ab hr hs mx ct us fr sr ss qs os ats vs ids hp tb R S ++ [(f1, D1), (f2, D2), (f3, .inl ("com/example/pulld/pulld/broker/InFlight", [("queue", "I", (.int fq)), ("offset", "J", (.long 0)), ("attempt", "I", (.int 0)), ("visibleAt", "J", (.long 0)), ("id", "J", (.long 0))]))])) (host := "") d4_6 (Or.inl (hw _ (List.mem_of_getElem? (i := 57) rfl))) (Or.inr ⟨(hw _ (List.mem_of_getElem? (i := 58) rfl)), rfl, rfl⟩) (hw _ (List.mem_of_getElem? (i := 46) rfl)) rfl rfl (by decide) rfl rfl rfl rfl ?_
  refine Go.aloadN (pc' := 10) d4_9 rfl rfl rfl ?_
  refine Go.lloadN (pc' := 11) d4_10 rfl rfl ?_
  refine Go.putF (pc' := 14) (i := 14) (j := 1) (ty := .long) (W' := (DW d r s aq ao aa av ai ah ab hr hs mx ct us fr sr ss qs os ats vs ids hp tb R S ++ [(f1, D1), (f2, D2), (f3, .inl ("com/example/pulld/pulld/broker/InFlight", [("queue", "I", (.int fq)), ("offset", "J", (.long fo)), ("attempt", "I", (.int 0)), ("visibleAt", "J", (.long 0)), ("id", "J", (.long 0))]))])) (host := "") d4_11 (Or.inl (hw _ (List.mem_of_getElem? (i := 59) rfl))) (Or.inr ⟨(hw _ (List.mem_of_getElem? (i := 60) rfl)), rfl, rfl⟩) (hw _ (List.mem_of_getElem? (i := 46) rfl)) rfl rfl (by decide) rfl rfl rfl rfl ?_
  refine Go.aloadN (pc' := 15) d4_14 rfl rfl rfl ?_
  refine Go.iload (pc' := 17) d4_15 rfl rfl ?_
  refine Go.putF (pc' := 20) (i := 14) (j := 2) (ty := .int) (W' := (DW d r s aq ao aa av ai ah ab hr hs mx ct us fr sr ss qs os ats vs ids hp tb R S ++ [(f1, D1), (f2, D2), (f3, .inl ("com/example/pulld/pulld/broker/InFlight", [("queue", "I", (.int fq)), ("offset", "J", (.long fo)), ("attempt", "I", (.int fa)), ("visibleAt", "J", (.long 0)), ("id", "J", (.long 0))]))])) (host := "") d4_17 (Or.inl (hw _ (List.mem_of_getElem? (i := 61) rfl))) (Or.inr ⟨(hw _ (List.mem_of_getElem? (i := 62) rfl)), rfl, rfl⟩) (hw _ (List.mem_of_getElem? (i := 46) rfl)) rfl rfl (by decide) rfl rfl rfl rfl ?_
  refine Go.aloadN (pc' := 21) d4_20 rfl rfl rfl ?_
  refine Go.lload (pc' := 23) d4_21 rfl rfl ?_
  refine Go.putF (pc' := 26) (i := 14) (j := 3) (ty := .long) (W' := (DW d r s aq ao aa av ai ah ab hr hs mx ct us fr sr ss qs os ats vs ids hp tb R S ++ [(f1, D1), (f2, D2), (f3, .inl ("com/example/pulld/pulld/broker/InFlight", [("queue", "I", (.int fq)), ("offset", "J", (.long fo)), ("attempt", "I", (.int fa)), ("visibleAt", "J", (.long fv)), ("id", "J", (.long 0))]))])) (host := "") d4_23 (Or.inl (hw _ (List.mem_of_getElem? (i := 63) rfl))) (Or.inr ⟨(hw _ (List.mem_of_getElem? (i := 64) rfl)), rfl, rfl⟩) (hw _ (List.mem_of_getElem? (i := 46) rfl)) rfl rfl (by decide) rfl rfl rfl rfl ?_
  refine Go.aloadN (pc' := 27) d4_26 rfl rfl rfl ?_
  refine Go.lload (pc' := 29) d4_27 rfl rfl ?_
  refine Go.putF (pc' := 32) (i := 14) (j := 4) (ty := .long) (W' := (DW d r s aq ao aa av ai ah ab hr hs mx ct us fr sr ss qs os ats vs ids hp tb R S ++ [(f1, D1), (f2, D2), (f3, .inl ("com/example/pulld/pulld/broker/InFlight", [("queue", "I", (.int fq)), ("offset", "J", (.long fo)), ("attempt", "I", (.int fa)), ("visibleAt", "J", (.long fv)), ("id", "J", (.long fi))]))])) (host := "") d4_29 (Or.inl (hw _ (List.mem_of_getElem? (i := 65) rfl))) (Or.inr ⟨(hw _ (List.mem_of_getElem? (i := 66) rfl)), rfl, rfl⟩) (hw _ (List.mem_of_getElem? (i := 46) rfl)) rfl rfl (by decide) rfl rfl rfl rfl ?_
  exact Go.retV d4_32 rfl (by decide) (by decide) ⟨rfl, rfl⟩
theorem d12_0 : decode prog_14_method_7_code 0 = .ok (.iload_n 2, 1) := by decide +kernel
theorem d12_1 : decode prog_14_method_7_code 1 = .ok (.newarray .int, 2) := by decide +kernel
theorem d12_3 : decode prog_14_method_7_code 3 = .ok (.astore_n 3, 1) := by decide +kernel
theorem d12_4 : decode prog_14_method_7_code 4 = .ok (.iconst 0, 1) := by decide +kernel
theorem d12_5 : decode prog_14_method_7_code 5 = .ok (.istore 4, 2) := by decide +kernel
theorem d12_7 : decode prog_14_method_7_code 7 = .ok (.iload 4, 2) := by decide +kernel
theorem d12_9 : decode prog_14_method_7_code 9 = .ok (.aload_n 0, 1) := by decide +kernel
theorem d12_10 : decode prog_14_method_7_code 10 = .ok (.getfield 17, 3) := by decide +kernel
theorem d12_13 : decode prog_14_method_7_code 13 = .ok (.if_icmp .ge 36, 3) := by decide +kernel
theorem d12_49 : decode prog_14_method_7_code 49 = .ok (.aload_n 0, 1) := by decide +kernel
theorem d12_50 : decode prog_14_method_7_code 50 = .ok (.aload_n 3, 1) := by decide +kernel
theorem d12_51 : decode prog_14_method_7_code 51 = .ok (.putfield 13, 3) := by decide +kernel
theorem d12_54 : decode prog_14_method_7_code 54 = .ok (.return_, 1) := by decide +kernel
set_option maxRecDepth 65536 in
set_option maxHeartbeats 40000000 in
theorem renumr (l : Launch) (Z : State) (n0 : Nat) (w0 : Array Value) (hw : ∀ d ∈ tables_1, d.before w0 Z = true) (mv : Addr) (d r s aq ao aa av ai ah ab hr hs : Addr) (mx ct us fr sr ss : Int32) (qs : List Int32) (os : List Int64) (ats : List Int32) (vs ids : List Int64) (hp tb R S : List Int32) (f1 f2 f3 : Addr) (D1 D2 D3 : Desc) :
    Meets l Z n0 (⟨"com/example/pulld/pulld/broker/InFlightDeliveries$ByVisibleAt", "renumber", "([II)V"⟩ : MethodName) prog_14_method_7_code 5 none ({ frames := 0, cells := 1, slots := 12, locals := 0 } : Room) [] #[(.ref r), (.ref mv), (.int (12 : Int32))] (DW d r s aq ao aa av ai ah ab hr hs mx ct us fr 0 ss qs os ats vs ids hp tb R S ++ [(f1, D1), (f2, D2), (f3, D3)]) (fun v W' => v = none ∧ ∃ nh : Addr, W' = (DW d r s aq ao aa av ai ah ab nh hs mx ct us fr 0 ss qs os ats vs ids hp tb (t3 0 0 0) S ++ [(f1, D1), (f2, D2), (f3, D3)])) := by
  refine Meets.of_go (ls := #[.val (.ref r), .val (.ref mv), .val (.int (12 : Int32)), .unset, .unset]) (plainFor_of_name (by first | (simp [plainName, overriddenIn]; done) | decide +kernel)) (fun m => by first | (simp [entryFrame, mkF, argsToLocals, Value.category, maxLocals]; done) | rfl) (fun D => ?_)
  refine Go.iloadN (pc' := 1) d12_0 rfl rfl ?_
  refine Go.newI (pc' := 3) (len := 12) (cells' := 1) (slots' := 12) (W' := fun nh => (DW d r s aq ao aa av ai ah ab hr hs mx ct us fr 0 ss qs os ats vs ids hp tb R S ++ [(f1, D1), (f2, D2), (f3, D3), (nh, .inr (.inl (List.replicate 12 0)))])) d12_1 (hw _ (List.mem_of_getElem? (i := 19) rfl)) (by decide) (by decide) (by decide) (by decide) (by decide) rfl rfl (fun _ => rfl) rfl (fun nh => ?_)
  refine Go.astoreN (pc' := 4) (ls' := #[.val (.ref r), .val (.ref mv), .val (.int (12 : Int32)), .val (.ref nh), .unset]) d12_3 rfl rfl rfl ?_
  refine Go.iconst (pc' := 5) (v := (0 : Int32)) d12_4 rfl rfl ?_
  refine Go.istore (pc' := 7) (ls' := #[.val (.ref r), .val (.ref mv), .val (.int (12 : Int32)), .val (.ref nh), .val (.int (0 : Int32))]) d12_5 rfl rfl ?_
  refine Go.iload (pc' := 9) d12_7 rfl rfl ?_
  refine Go.aloadN (pc' := 10) d12_9 rfl rfl rfl ?_
  refine Go.getF (pc' := 13) (i := 1) (j := 2) (v := (.int 0)) (host := "") d12_10 (Or.inl (hw _ (List.mem_of_getElem? (i := 102) rfl))) rfl rfl rfl ?_
  refine Go.icmp_ge (pcY := 49) (pcN := 16) d12_13 (by decide) (by decide) rfl (fun hc13 => ?_) (fun hc13 => absurd hc13 (by decide))
  refine Go.aloadN (pc' := 50) d12_49 rfl rfl rfl ?_
  refine Go.aloadN (pc' := 51) d12_50 rfl rfl rfl ?_
  refine Go.putF (pc' := 54) (i := 1) (j := 1) (ty := (.array .int)) (W' := [(d, .inl ("com/example/pulld/pulld/broker/InFlightDeliveries", [("returning", "Lcom/example/pulld/pulld/broker/InFlightDeliveries$ByVisibleAt;", (.ref r)), ("lastAttempts", "Lcom/example/pulld/pulld/broker/InFlightDeliveries$ByVisibleAt;", (.ref s)), ("maxAttempts", "I", (.int mx)), ("count", "I", (.int ct)), ("usedSlots", "I", (.int us)), ("firstFree", "I", (.int fr)), ("queues", "[I", (.ref aq)), ("offsets", "[J", (.ref ao)), ("attempts", "[I", (.ref aa)), ("visibleAts", "[J", (.ref av)), ("ids", "[J", (.ref ai)), ("heapPlaces", "[I", (.ref ah)), ("table", "[I", (.ref ab))])), (r, .inl ("com/example/pulld/pulld/broker/InFlightDeliveries$ByVisibleAt", [("this$0", "Lcom/example/pulld/pulld/broker/InFlightDeliveries;", (.ref d)), ("heap", "[I", (.ref nh)), ("size", "I", (.int 0))])), (s, .inl ("com/example/pulld/pulld/broker/InFlightDeliveries$ByVisibleAt", [("this$0", "Lcom/example/pulld/pulld/broker/InFlightDeliveries;", (.ref d)), ("heap", "[I", (.ref hs)), ("size", "I", (.int ss))])), (aq, .inr (.inl qs)), (ao, .inr (.inr os)), (aa, .inr (.inl ats)), (av, .inr (.inr vs)), (ai, .inr (.inr ids)), (ah, .inr (.inl hp)), (ab, .inr (.inl tb)), (hr, .inr (.inl R)), (hs, .inr (.inl S)), (f1, D1), (f2, D2), (f3, D3), (nh, .inr (.inl (t3 0 0 0)))]) (host := "") d12_51 (Or.inl (hw _ (List.mem_of_getElem? (i := 20) rfl))) (Or.inl (hw _ (List.mem_of_getElem? (i := 21) rfl))) (hw _ (List.mem_of_getElem? (i := 11) rfl)) rfl rfl (by decide) rfl rfl rfl rfl ?_
  refine Go.pick (W' := (DW d r s aq ao aa av ai ah ab nh hs mx ct us fr 0 ss qs os ats vs ids hp tb (t3 0 0 0) S ++ [(f1, D1), (f2, D2), (f3, D3)])) [0, 1, 2, 3, 4, 5, 6, 7, 8, 9, 15, 11, 12, 13, 14] rfl (by decide) ?_
  exact Go.retV d12_54 rfl (by decide) (by decide) ⟨rfl, _, rfl⟩
set_option maxRecDepth 65536 in
set_option maxHeartbeats 40000000 in
theorem renums (l : Launch) (Z : State) (n0 : Nat) (w0 : Array Value) (hw : ∀ d ∈ tables_1, d.before w0 Z = true) (mv : Addr) (d r s aq ao aa av ai ah ab hr hs : Addr) (mx ct us fr sr ss : Int32) (qs : List Int32) (os : List Int64) (ats : List Int32) (vs ids : List Int64) (hp tb R S : List Int32) (f1 f2 f3 : Addr) (D1 D2 D3 : Desc) :
    Meets l Z n0 (⟨"com/example/pulld/pulld/broker/InFlightDeliveries$ByVisibleAt", "renumber", "([II)V"⟩ : MethodName) prog_14_method_7_code 5 none ({ frames := 0, cells := 1, slots := 12, locals := 0 } : Room) [] #[(.ref s), (.ref mv), (.int (12 : Int32))] (DW d r s aq ao aa av ai ah ab hr hs mx ct us fr sr 0 qs os ats vs ids hp tb R S ++ [(f1, D1), (f2, D2), (f3, D3)]) (fun v W' => v = none ∧ ∃ nh : Addr, W' = (DW d r s aq ao aa av ai ah ab hr nh mx ct us fr sr 0 qs os ats vs ids hp tb R (t3 0 0 0) ++ [(f1, D1), (f2, D2), (f3, D3)])) := by
  refine Meets.of_go (ls := #[.val (.ref s), .val (.ref mv), .val (.int (12 : Int32)), .unset, .unset]) (plainFor_of_name (by first | (simp [plainName, overriddenIn]; done) | decide +kernel)) (fun m => by first | (simp [entryFrame, mkF, argsToLocals, Value.category, maxLocals]; done) | rfl) (fun D => ?_)
  refine Go.iloadN (pc' := 1) d12_0 rfl rfl ?_
  refine Go.newI (pc' := 3) (len := 12) (cells' := 1) (slots' := 12) (W' := fun nh => (DW d r s aq ao aa av ai ah ab hr hs mx ct us fr sr 0 qs os ats vs ids hp tb R S ++ [(f1, D1), (f2, D2), (f3, D3), (nh, .inr (.inl (List.replicate 12 0)))])) d12_1 (hw _ (List.mem_of_getElem? (i := 19) rfl)) (by decide) (by decide) (by decide) (by decide) (by decide) rfl rfl (fun _ => rfl) rfl (fun nh => ?_)
  refine Go.astoreN (pc' := 4) (ls' := #[.val (.ref s), .val (.ref mv), .val (.int (12 : Int32)), .val (.ref nh), .unset]) d12_3 rfl rfl rfl ?_
  refine Go.iconst (pc' := 5) (v := (0 : Int32)) d12_4 rfl rfl ?_
  refine Go.istore (pc' := 7) (ls' := #[.val (.ref s), .val (.ref mv), .val (.int (12 : Int32)), .val (.ref nh), .val (.int (0 : Int32))]) d12_5 rfl rfl ?_
  refine Go.iload (pc' := 9) d12_7 rfl rfl ?_
  refine Go.aloadN (pc' := 10) d12_9 rfl rfl rfl ?_
  refine Go.getF (pc' := 13) (i := 2) (j := 2) (v := (.int 0)) (host := "") d12_10 (Or.inl (hw _ (List.mem_of_getElem? (i := 102) rfl))) rfl rfl rfl ?_
  refine Go.icmp_ge (pcY := 49) (pcN := 16) d12_13 (by decide) (by decide) rfl (fun hc13 => ?_) (fun hc13 => absurd hc13 (by decide))
  refine Go.aloadN (pc' := 50) d12_49 rfl rfl rfl ?_
  refine Go.aloadN (pc' := 51) d12_50 rfl rfl rfl ?_
  refine Go.putF (pc' := 54) (i := 2) (j := 1) (ty := (.array .int)) (W' := [(d, .inl ("com/example/pulld/pulld/broker/InFlightDeliveries", [("returning", "Lcom/example/pulld/pulld/broker/InFlightDeliveries$ByVisibleAt;", (.ref r)), ("lastAttempts", "Lcom/example/pulld/pulld/broker/InFlightDeliveries$ByVisibleAt;", (.ref s)), ("maxAttempts", "I", (.int mx)), ("count", "I", (.int ct)), ("usedSlots", "I", (.int us)), ("firstFree", "I", (.int fr)), ("queues", "[I", (.ref aq)), ("offsets", "[J", (.ref ao)), ("attempts", "[I", (.ref aa)), ("visibleAts", "[J", (.ref av)), ("ids", "[J", (.ref ai)), ("heapPlaces", "[I", (.ref ah)), ("table", "[I", (.ref ab))])), (r, .inl ("com/example/pulld/pulld/broker/InFlightDeliveries$ByVisibleAt", [("this$0", "Lcom/example/pulld/pulld/broker/InFlightDeliveries;", (.ref d)), ("heap", "[I", (.ref hr)), ("size", "I", (.int sr))])), (s, .inl ("com/example/pulld/pulld/broker/InFlightDeliveries$ByVisibleAt", [("this$0", "Lcom/example/pulld/pulld/broker/InFlightDeliveries;", (.ref d)), ("heap", "[I", (.ref nh)), ("size", "I", (.int 0))])), (aq, .inr (.inl qs)), (ao, .inr (.inr os)), (aa, .inr (.inl ats)), (av, .inr (.inr vs)), (ai, .inr (.inr ids)), (ah, .inr (.inl hp)), (ab, .inr (.inl tb)), (hr, .inr (.inl R)), (hs, .inr (.inl S)), (f1, D1), (f2, D2), (f3, D3), (nh, .inr (.inl (t3 0 0 0)))]) (host := "") d12_51 (Or.inl (hw _ (List.mem_of_getElem? (i := 20) rfl))) (Or.inl (hw _ (List.mem_of_getElem? (i := 21) rfl))) (hw _ (List.mem_of_getElem? (i := 11) rfl)) rfl rfl (by decide) rfl rfl rfl rfl ?_
  refine Go.pick (W' := (DW d r s aq ao aa av ai ah ab hr nh mx ct us fr sr 0 qs os ats vs ids hp tb R (t3 0 0 0) ++ [(f1, D1), (f2, D2), (f3, D3)])) [0, 1, 2, 3, 4, 5, 6, 7, 8, 9, 10, 15, 12, 13, 14] rfl (by decide) ?_
  exact Go.retV d12_54 rfl (by decide) (by decide) ⟨rfl, _, rfl⟩
theorem d11_0 : decode prog_12_method_14_code 0 = .ok (.aload_n 0, 1) := by decide +kernel
theorem d11_1 : decode prog_12_method_14_code 1 = .ok (.getfield 57, 3) := by decide +kernel
theorem d11_4 : decode prog_12_method_14_code 4 = .ok (.newarray .int, 2) := by decide +kernel
theorem d11_6 : decode prog_12_method_14_code 6 = .ok (.astore_n 2, 1) := by decide +kernel
theorem d11_7 : decode prog_12_method_14_code 7 = .ok (.iload_n 1, 1) := by decide +kernel
theorem d11_8 : decode prog_12_method_14_code 8 = .ok (.newarray .int, 2) := by decide +kernel
theorem d11_10 : decode prog_12_method_14_code 10 = .ok (.astore_n 3, 1) := by decide +kernel
theorem d11_11 : decode prog_12_method_14_code 11 = .ok (.iload_n 1, 1) := by decide +kernel
theorem d11_12 : decode prog_12_method_14_code 12 = .ok (.newarray .long, 2) := by decide +kernel
theorem d11_14 : decode prog_12_method_14_code 14 = .ok (.astore 4, 2) := by decide +kernel
theorem d11_16 : decode prog_12_method_14_code 16 = .ok (.iload_n 1, 1) := by decide +kernel
theorem d11_17 : decode prog_12_method_14_code 17 = .ok (.newarray .int, 2) := by decide +kernel
theorem d11_19 : decode prog_12_method_14_code 19 = .ok (.astore 5, 2) := by decide +kernel
theorem d11_21 : decode prog_12_method_14_code 21 = .ok (.iload_n 1, 1) := by decide +kernel
theorem d11_22 : decode prog_12_method_14_code 22 = .ok (.newarray .long, 2) := by decide +kernel
theorem d11_24 : decode prog_12_method_14_code 24 = .ok (.astore 6, 2) := by decide +kernel
theorem d11_26 : decode prog_12_method_14_code 26 = .ok (.iload_n 1, 1) := by decide +kernel
theorem d11_27 : decode prog_12_method_14_code 27 = .ok (.newarray .long, 2) := by decide +kernel
theorem d11_29 : decode prog_12_method_14_code 29 = .ok (.astore 7, 2) := by decide +kernel
theorem d11_31 : decode prog_12_method_14_code 31 = .ok (.iconst 0, 1) := by decide +kernel
theorem d11_32 : decode prog_12_method_14_code 32 = .ok (.istore 8, 2) := by decide +kernel
theorem d11_34 : decode prog_12_method_14_code 34 = .ok (.iconst 0, 1) := by decide +kernel
theorem d11_35 : decode prog_12_method_14_code 35 = .ok (.istore 9, 2) := by decide +kernel
theorem d11_37 : decode prog_12_method_14_code 37 = .ok (.iload 9, 2) := by decide +kernel
theorem d11_39 : decode prog_12_method_14_code 39 = .ok (.aload_n 0, 1) := by decide +kernel
theorem d11_40 : decode prog_12_method_14_code 40 = .ok (.getfield 57, 3) := by decide +kernel
theorem d11_43 : decode prog_12_method_14_code 43 = .ok (.if_icmp .ge 88, 3) := by decide +kernel
theorem d11_131 : decode prog_12_method_14_code 131 = .ok (.aload_n 0, 1) := by decide +kernel
theorem d11_132 : decode prog_12_method_14_code 132 = .ok (.aload_n 3, 1) := by decide +kernel
theorem d11_133 : decode prog_12_method_14_code 133 = .ok (.putfield 25, 3) := by decide +kernel
theorem d11_136 : decode prog_12_method_14_code 136 = .ok (.aload_n 0, 1) := by decide +kernel
theorem d11_137 : decode prog_12_method_14_code 137 = .ok (.aload 4, 2) := by decide +kernel
theorem d11_139 : decode prog_12_method_14_code 139 = .ok (.putfield 29, 3) := by decide +kernel
theorem d11_142 : decode prog_12_method_14_code 142 = .ok (.aload_n 0, 1) := by decide +kernel
theorem d11_143 : decode prog_12_method_14_code 143 = .ok (.aload 5, 2) := by decide +kernel
theorem d11_145 : decode prog_12_method_14_code 145 = .ok (.putfield 33, 3) := by decide +kernel
theorem d11_148 : decode prog_12_method_14_code 148 = .ok (.aload_n 0, 1) := by decide +kernel
theorem d11_149 : decode prog_12_method_14_code 149 = .ok (.aload 6, 2) := by decide +kernel
theorem d11_151 : decode prog_12_method_14_code 151 = .ok (.putfield 36, 3) := by decide +kernel
theorem d11_154 : decode prog_12_method_14_code 154 = .ok (.aload_n 0, 1) := by decide +kernel
theorem d11_155 : decode prog_12_method_14_code 155 = .ok (.aload 7, 2) := by decide +kernel
theorem d11_157 : decode prog_12_method_14_code 157 = .ok (.putfield 39, 3) := by decide +kernel
theorem d11_160 : decode prog_12_method_14_code 160 = .ok (.aload_n 0, 1) := by decide +kernel
theorem d11_161 : decode prog_12_method_14_code 161 = .ok (.iload_n 1, 1) := by decide +kernel
theorem d11_162 : decode prog_12_method_14_code 162 = .ok (.newarray .int, 2) := by decide +kernel
theorem d11_164 : decode prog_12_method_14_code 164 = .ok (.putfield 42, 3) := by decide +kernel
theorem d11_167 : decode prog_12_method_14_code 167 = .ok (.aload_n 0, 1) := by decide +kernel
theorem d11_168 : decode prog_12_method_14_code 168 = .ok (.iload 8, 2) := by decide +kernel
theorem d11_170 : decode prog_12_method_14_code 170 = .ok (.putfield 57, 3) := by decide +kernel
theorem d11_173 : decode prog_12_method_14_code 173 = .ok (.aload_n 0, 1) := by decide +kernel
theorem d11_174 : decode prog_12_method_14_code 174 = .ok (.iconst (-1), 1) := by decide +kernel
theorem d11_175 : decode prog_12_method_14_code 175 = .ok (.putfield 21, 3) := by decide +kernel
theorem d11_178 : decode prog_12_method_14_code 178 = .ok (.aload_n 0, 1) := by decide +kernel
theorem d11_179 : decode prog_12_method_14_code 179 = .ok (.getfield 12, 3) := by decide +kernel
theorem d11_182 : decode prog_12_method_14_code 182 = .ok (.aload_n 2, 1) := by decide +kernel
theorem d11_183 : decode prog_12_method_14_code 183 = .ok (.iload_n 1, 1) := by decide +kernel
theorem d11_184 : decode prog_12_method_14_code 184 = .ok (.invokevirtual 116, 3) := by decide +kernel
theorem d11_187 : decode prog_12_method_14_code 187 = .ok (.aload_n 0, 1) := by decide +kernel
theorem d11_188 : decode prog_12_method_14_code 188 = .ok (.getfield 18, 3) := by decide +kernel
theorem d11_191 : decode prog_12_method_14_code 191 = .ok (.aload_n 2, 1) := by decide +kernel
theorem d11_192 : decode prog_12_method_14_code 192 = .ok (.iload_n 1, 1) := by decide +kernel
theorem d11_193 : decode prog_12_method_14_code 193 = .ok (.invokevirtual 116, 3) := by decide +kernel
theorem d11_196 : decode prog_12_method_14_code 196 = .ok (.aload_n 0, 1) := by decide +kernel
theorem d11_197 : decode prog_12_method_14_code 197 = .ok (.iconst 2, 1) := by decide +kernel
theorem d11_198 : decode prog_12_method_14_code 198 = .ok (.iload_n 1, 1) := by decide +kernel
theorem d11_199 : decode prog_12_method_14_code 199 = .ok (.iconst 4, 1) := by decide +kernel
theorem d11_200 : decode prog_12_method_14_code 200 = .ok (.iadd, 1) := by decide +kernel
theorem d11_201 : decode prog_12_method_14_code 201 = .ok (.imul, 1) := by decide +kernel
theorem d11_202 : decode prog_12_method_14_code 202 = .ok (.iconst 4, 1) := by decide +kernel
theorem d11_203 : decode prog_12_method_14_code 203 = .ok (.isub, 1) := by decide +kernel
theorem d11_204 : decode prog_12_method_14_code 204 = .ok (.newarray .int, 2) := by decide +kernel
theorem d11_206 : decode prog_12_method_14_code 206 = .ok (.putfield 45, 3) := by decide +kernel
theorem d11_209 : decode prog_12_method_14_code 209 = .ok (.iconst 0, 1) := by decide +kernel
theorem d11_210 : decode prog_12_method_14_code 210 = .ok (.istore 9, 2) := by decide +kernel
theorem d11_212 : decode prog_12_method_14_code 212 = .ok (.iload 9, 2) := by decide +kernel
theorem d11_214 : decode prog_12_method_14_code 214 = .ok (.aload_n 0, 1) := by decide +kernel
theorem d11_215 : decode prog_12_method_14_code 215 = .ok (.getfield 57, 3) := by decide +kernel
theorem d11_218 : decode prog_12_method_14_code 218 = .ok (.if_icmp .ge 15, 3) := by decide +kernel
theorem d11_233 : decode prog_12_method_14_code 233 = .ok (.return_, 1) := by decide +kernel
theorem pd__28_5bII_29V : parseMethodDescriptor "([II)V" = some ⟨[(.array .int), .int], none⟩ := by decide +kernel
set_option maxRecDepth 65536 in
set_option maxHeartbeats 40000000 in
theorem resize0 (l : Launch) (Z : State) (n0 : Nat) (w0 : Array Value) (hw : ∀ d ∈ tables_1, d.before w0 Z = true) (d r s aq ao aa av ai ah ab hr hs : Addr) (mx ct fr : Int32) (f1 f2 f3 : Addr) (D1 D2 D3 : Desc) :
    Meets l Z n0 (⟨"com/example/pulld/pulld/broker/InFlightDeliveries", "resize", "(I)V"⟩ : MethodName) prog_12_method_14_code 10 none ({ frames := 1, cells := 10, slots := 124, locals := 16 } : Room) [] #[(.ref d), (.int (12 : Int32))] (DW d r s aq ao aa av ai ah ab hr hs mx ct 0 fr 0 0 [] [] [] [] [] [] [] [] [] ++ [(f1, D1), (f2, D2), (f3, D3)]) (fun v W' => v = none ∧ ∃ nq no na nv ni nh nt nr ns : Addr, W' = (DW d r s nq no na nv ni nh nt nr ns mx ct 0 (-1 : Int32) 0 0 (t3 0 0 0) (u3 0 0 0) (t3 0 0 0) (u3 0 0 0) (u3 0 0 0) (t3 0 0 0) (List.replicate 28 0) (t3 0 0 0) (t3 0 0 0) ++ [(f1, D1), (f2, D2), (f3, D3)])) := by
  refine Meets.of_go (ls := #[.val (.ref d), .val (.int (12 : Int32)), .unset, .unset, .unset, .unset, .unset, .unset, .unset, .unset]) (plainFor_of_name (by first | (simp [plainName, overriddenIn]; done) | decide +kernel)) (fun m => by first | (simp [entryFrame, mkF, argsToLocals, Value.category, maxLocals]; done) | rfl) (fun D => ?_)
  refine Go.aloadN (pc' := 1) d11_0 rfl rfl rfl ?_
  refine Go.getF (pc' := 4) (i := 0) (j := 4) (v := (.int 0)) (host := "") d11_1 (Or.inl (hw _ (List.mem_of_getElem? (i := 92) rfl))) rfl rfl rfl ?_
  refine Go.newI (pc' := 6) (len := 0) (cells' := 1) (slots' := 0) (W' := fun mv => (DW d r s aq ao aa av ai ah ab hr hs mx ct 0 fr 0 0 [] [] [] [] [] [] [] [] [] ++ [(f1, D1), (f2, D2), (f3, D3), (mv, .inr (.inl (List.replicate 0 0)))])) d11_4 (hw _ (List.mem_of_getElem? (i := 19) rfl)) (by decide) (by decide) (by decide) (by decide) (by decide) rfl rfl (fun _ => rfl) rfl (fun mv => ?_)
  refine Go.astoreN (pc' := 7) (ls' := #[.val (.ref d), .val (.int (12 : Int32)), .val (.ref mv), .unset, .unset, .unset, .unset, .unset, .unset, .unset]) d11_6 rfl rfl rfl ?_
  refine Go.iloadN (pc' := 8) d11_7 rfl rfl ?_
  refine Go.newI (pc' := 10) (len := 12) (cells' := 2) (slots' := 12) (W' := fun nq => (DW d r s aq ao aa av ai ah ab hr hs mx ct 0 fr 0 0 [] [] [] [] [] [] [] [] [] ++ [(f1, D1), (f2, D2), (f3, D3), (mv, .inr (.inl [])), (nq, .inr (.inl (List.replicate 12 0)))])) d11_8 (hw _ (List.mem_of_getElem? (i := 19) rfl)) (by decide) (by decide) (by decide) (by decide) (by decide) rfl rfl (fun _ => rfl) rfl (fun nq => ?_)
  refine Go.astoreN (pc' := 11) (ls' := #[.val (.ref d), .val (.int (12 : Int32)), .val (.ref mv), .val (.ref nq), .unset, .unset, .unset, .unset, .unset, .unset]) d11_10 rfl rfl rfl ?_
  refine Go.iloadN (pc' := 12) d11_11 rfl rfl ?_
  refine Go.newJ (pc' := 14) (len := 12) (cells' := 3) (slots' := 24) (W' := fun no => (DW d r s aq ao aa av ai ah ab hr hs mx ct 0 fr 0 0 [] [] [] [] [] [] [] [] [] ++ [(f1, D1), (f2, D2), (f3, D3), (mv, .inr (.inl [])), (nq, .inr (.inl (t3 0 0 0))), (no, .inr (.inr (List.replicate 12 0)))])) d11_12 (hw _ (List.mem_of_getElem? (i := 30) rfl)) (by decide) (by decide) (by decide) (by decide) (by decide) rfl rfl (fun _ => rfl) rfl (fun no => ?_)
  refine Go.astore (pc' := 16) (ls' := #[.val (.ref d), .val (.int (12 : Int32)), .val (.ref mv), .val (.ref nq), .val (.ref no), .unset, .unset, .unset, .unset, .unset]) d11_14 rfl rfl rfl ?_
  refine Go.iloadN (pc' := 17) d11_16 rfl rfl ?_
  refine Go.newI (pc' := 19) (len := 12) (cells' := 4) (slots' := 36) (W' := fun na => (DW d r s aq ao aa av ai ah ab hr hs mx ct 0 fr 0 0 [] [] [] [] [] [] [] [] [] ++ [(f1, D1), (f2, D2), (f3, D3), (mv, .inr (.inl [])), (nq, .inr (.inl (t3 0 0 0))), (no, .inr (.inr (u3 0 0 0))), (na, .inr (.inl (List.replicate 12 0)))])) d11_17 (hw _ (List.mem_of_getElem? (i := 19) rfl)) (by decide) (by decide) (by decide) (by decide) (by decide) rfl rfl (fun _ => rfl) rfl (fun na => ?_)
  refine Go.astore (pc' := 21) (ls' := #[.val (.ref d), .val (.int (12 : Int32)), .val (.ref mv), .val (.ref nq), .val (.ref no), .val (.ref na), .unset, .unset, .unset, .unset]) d11_19 rfl rfl rfl ?_
  refine Go.iloadN (pc' := 22) d11_21 rfl rfl ?_
  refine Go.newJ (pc' := 24) (len := 12) (cells' := 5) (slots' := 48) (W' := fun nv => (DW d r s aq ao aa av ai ah ab hr hs mx ct 0 fr 0 0 [] [] [] [] [] [] [] [] [] ++ [(f1, D1), (f2, D2), (f3, D3), (mv, .inr (.inl [])), (nq, .inr (.inl (t3 0 0 0))), (no, .inr (.inr (u3 0 0 0))), (na, .inr (.inl (t3 0 0 0))), (nv, .inr (.inr (List.replicate 12 0)))])) d11_22 (hw _ (List.mem_of_getElem? (i := 30) rfl)) (by decide) (by decide) (by decide) (by decide) (by decide) rfl rfl (fun _ => rfl) rfl (fun nv => ?_)
  refine Go.astore (pc' := 26) (ls' := #[.val (.ref d), .val (.int (12 : Int32)), .val (.ref mv), .val (.ref nq), .val (.ref no), .val (.ref na), .val (.ref nv), .unset, .unset, .unset]) d11_24 rfl rfl rfl ?_
  refine Go.iloadN (pc' := 27) d11_26 rfl rfl ?_
  refine Go.newJ (pc' := 29) (len := 12) (cells' := 6) (slots' := 60) (W' := fun ni => (DW d r s aq ao aa av ai ah ab hr hs mx ct 0 fr 0 0 [] [] [] [] [] [] [] [] [] ++ [(f1, D1), (f2, D2), (f3, D3), (mv, .inr (.inl [])), (nq, .inr (.inl (t3 0 0 0))), (no, .inr (.inr (u3 0 0 0))), (na, .inr (.inl (t3 0 0 0))), (nv, .inr (.inr (u3 0 0 0))), (ni, .inr (.inr (List.replicate 12 0)))])) d11_27 (hw _ (List.mem_of_getElem? (i := 30) rfl)) (by decide) (by decide) (by decide) (by decide) (by decide) rfl rfl (fun _ => rfl) rfl (fun ni => ?_)
  refine Go.astore (pc' := 31) (ls' := #[.val (.ref d), .val (.int (12 : Int32)), .val (.ref mv), .val (.ref nq), .val (.ref no), .val (.ref na), .val (.ref nv), .val (.ref ni), .unset, .unset]) d11_29 rfl rfl rfl ?_
  refine Go.iconst (pc' := 32) (v := (0 : Int32)) d11_31 rfl rfl ?_
  refine Go.istore (pc' := 34) (ls' := #[.val (.ref d), .val (.int (12 : Int32)), .val (.ref mv), .val (.ref nq), .val (.ref no), .val (.ref na), .val (.ref nv), .val (.ref ni), .val (.int (0 : Int32)), .unset]) d11_32 rfl rfl ?_
  refine Go.iconst (pc' := 35) (v := (0 : Int32)) d11_34 rfl rfl ?_
  refine Go.istore (pc' := 37) (ls' := #[.val (.ref d), .val (.int (12 : Int32)), .val (.ref mv), .val (.ref nq), .val (.ref no), .val (.ref na), .val (.ref nv), .val (.ref ni), .val (.int (0 : Int32)), .val (.int (0 : Int32))]) d11_35 rfl rfl ?_
  refine Go.iload (pc' := 39) d11_37 rfl rfl ?_
  refine Go.aloadN (pc' := 40) d11_39 rfl rfl rfl ?_
  refine Go.getF (pc' := 43) (i := 0) (j := 4) (v := (.int 0)) (host := "") d11_40 (Or.inl (hw _ (List.mem_of_getElem? (i := 92) rfl))) rfl rfl rfl ?_
  refine Go.icmp_ge (pcY := 131) (pcN := 46) d11_43 (by decide) (by decide) rfl (fun hc43 => ?_) (fun hc43 => absurd hc43 (by decide))
  refine Go.aloadN (pc' := 132) d11_131 rfl rfl rfl ?_
  refine Go.aloadN (pc' := 133) d11_132 rfl rfl rfl ?_
  refine Go.putF (pc' := 136) (i := 0) (j := 6) (ty := (.array .int)) (W' := [(d, .inl ("com/example/pulld/pulld/broker/InFlightDeliveries", [("returning", "Lcom/example/pulld/pulld/broker/InFlightDeliveries$ByVisibleAt;", (.ref r)), ("lastAttempts", "Lcom/example/pulld/pulld/broker/InFlightDeliveries$ByVisibleAt;", (.ref s)), ("maxAttempts", "I", (.int mx)), ("count", "I", (.int ct)), ("usedSlots", "I", (.int 0)), ("firstFree", "I", (.int fr)), ("queues", "[I", (.ref nq)), ("offsets", "[J", (.ref ao)), ("attempts", "[I", (.ref aa)), ("visibleAts", "[J", (.ref av)), ("ids", "[J", (.ref ai)), ("heapPlaces", "[I", (.ref ah)), ("table", "[I", (.ref ab))])), (r, .inl ("com/example/pulld/pulld/broker/InFlightDeliveries$ByVisibleAt", [("this$0", "Lcom/example/pulld/pulld/broker/InFlightDeliveries;", (.ref d)), ("heap", "[I", (.ref hr)), ("size", "I", (.int 0))])), (s, .inl ("com/example/pulld/pulld/broker/InFlightDeliveries$ByVisibleAt", [("this$0", "Lcom/example/pulld/pulld/broker/InFlightDeliveries;", (.ref d)), ("heap", "[I", (.ref hs)), ("size", "I", (.int 0))])), (aq, .inr (.inl [])), (ao, .inr (.inr [])), (aa, .inr (.inl [])), (av, .inr (.inr [])), (ai, .inr (.inr [])), (ah, .inr (.inl [])), (ab, .inr (.inl [])), (hr, .inr (.inl [])), (hs, .inr (.inl [])), (f1, D1), (f2, D2), (f3, D3), (mv, .inr (.inl [])), (nq, .inr (.inl (t3 0 0 0))), (no, .inr (.inr (u3 0 0 0))), (na, .inr (.inl (t3 0 0 0))), (nv, .inr (.inr (u3 0 0 0))), (ni, .inr (.inr (u3 0 0 0)))]) (host := "") d11_133 (Or.inl (hw _ (List.mem_of_getElem? (i := 28) rfl))) (Or.inl (hw _ (List.mem_of_getElem? (i := 29) rfl))) (hw _ (List.mem_of_getElem? (i := 2) rfl)) rfl rfl (by decide) rfl rfl rfl rfl ?_
  refine Go.aloadN (pc' := 137) d11_136 rfl rfl rfl ?_
  refine Go.aload (pc' := 139) d11_137 rfl rfl rfl ?_
  refine Go.putF (pc' := 142) (i := 0) (j := 7) (ty := (.array .long)) (W' := [(d, .inl ("com/example/pulld/pulld/broker/InFlightDeliveries", [("returning", "Lcom/example/pulld/pulld/broker/InFlightDeliveries$ByVisibleAt;", (.ref r)), ("lastAttempts", "Lcom/example/pulld/pulld/broker/InFlightDeliveries$ByVisibleAt;", (.ref s)), ("maxAttempts", "I", (.int mx)), ("count", "I", (.int ct)), ("usedSlots", "I", (.int 0)), ("firstFree", "I", (.int fr)), ("queues", "[I", (.ref nq)), ("offsets", "[J", (.ref no)), ("attempts", "[I", (.ref aa)), ("visibleAts", "[J", (.ref av)), ("ids", "[J", (.ref ai)), ("heapPlaces", "[I", (.ref ah)), ("table", "[I", (.ref ab))])), (r, .inl ("com/example/pulld/pulld/broker/InFlightDeliveries$ByVisibleAt", [("this$0", "Lcom/example/pulld/pulld/broker/InFlightDeliveries;", (.ref d)), ("heap", "[I", (.ref hr)), ("size", "I", (.int 0))])), (s, .inl ("com/example/pulld/pulld/broker/InFlightDeliveries$ByVisibleAt", [("this$0", "Lcom/example/pulld/pulld/broker/InFlightDeliveries;", (.ref d)), ("heap", "[I", (.ref hs)), ("size", "I", (.int 0))])), (aq, .inr (.inl [])), (ao, .inr (.inr [])), (aa, .inr (.inl [])), (av, .inr (.inr [])), (ai, .inr (.inr [])), (ah, .inr (.inl [])), (ab, .inr (.inl [])), (hr, .inr (.inl [])), (hs, .inr (.inl [])), (f1, D1), (f2, D2), (f3, D3), (mv, .inr (.inl [])), (nq, .inr (.inl (t3 0 0 0))), (no, .inr (.inr (u3 0 0 0))), (na, .inr (.inl (t3 0 0 0))), (nv, .inr (.inr (u3 0 0 0))), (ni, .inr (.inr (u3 0 0 0)))]) (host := "") d11_139 (Or.inl (hw _ (List.mem_of_getElem? (i := 31) rfl))) (Or.inl (hw _ (List.mem_of_getElem? (i := 32) rfl))) (hw _ (List.mem_of_getElem? (i := 2) rfl)) rfl rfl (by decide) rfl rfl rfl rfl ?_
  refine Go.aloadN (pc' := 143) d11_142 rfl rfl rfl ?_
  refine Go.aload (pc' := 145) d11_143 rfl rfl rfl ?_
  refine Go.putF (pc' := 148) (i := 0) (j := 8) (ty := (.array .int)) (W' := [(d, .inl ("com/example/pulld/pulld/broker/InFlightDeliveries", [("returning", "Lcom/example/pulld/pulld/broker/InFlightDeliveries$ByVisibleAt;", (.ref r)), ("lastAttempts", "Lcom/example/pulld/pulld/broker/InFlightDeliveries$ByVisibleAt;", (.ref s)), ("maxAttempts", "I", (.int mx)), ("count", "I", (.int ct)), ("usedSlots", "I", (.int 0)), ("firstFree", "I", (.int fr)), ("queues", "[I", (.ref nq)), ("offsets", "[J", (.ref no)), ("attempts", "[I", (.ref na)), ("visibleAts", "[J", (.ref av)), ("ids", "[J", (.ref ai)), ("heapPlaces", "[I", (.ref ah)), ("table", "[I", (.ref ab))])), (r, .inl ("com/example/pulld/pulld/broker/InFlightDeliveries$ByVisibleAt", [("this$0", "Lcom/example/pulld/pulld/broker/InFlightDeliveries;", (.ref d)), ("heap", "[I", (.ref hr)), ("size", "I", (.int 0))])), (s, .inl ("com/example/pulld/pulld/broker/InFlightDeliveries$ByVisibleAt", [("this$0", "Lcom/example/pulld/pulld/broker/InFlightDeliveries;", (.ref d)), ("heap", "[I", (.ref hs)), ("size", "I", (.int 0))])), (aq, .inr (.inl [])), (ao, .inr (.inr [])), (aa, .inr (.inl [])), (av, .inr (.inr [])), (ai, .inr (.inr [])), (ah, .inr (.inl [])), (ab, .inr (.inl [])), (hr, .inr (.inl [])), (hs, .inr (.inl [])), (f1, D1), (f2, D2), (f3, D3), (mv, .inr (.inl [])), (nq, .inr (.inl (t3 0 0 0))), (no, .inr (.inr (u3 0 0 0))), (na, .inr (.inl (t3 0 0 0))), (nv, .inr (.inr (u3 0 0 0))), (ni, .inr (.inr (u3 0 0 0)))]) (host := "") d11_145 (Or.inl (hw _ (List.mem_of_getElem? (i := 33) rfl))) (Or.inl (hw _ (List.mem_of_getElem? (i := 34) rfl))) (hw _ (List.mem_of_getElem? (i := 2) rfl)) rfl rfl (by decide) rfl rfl rfl rfl ?_
  refine Go.aloadN (pc' := 149) d11_148 rfl rfl rfl ?_
  refine Go.aload (pc' := 151) d11_149 rfl rfl rfl ?_
  refine Go.putF (pc' := 154) (i := 0) (j := 9) (ty := (.array .long)) (W' := [(d, .inl ("com/example/pulld/pulld/broker/InFlightDeliveries", [("returning", "Lcom/example/pulld/pulld/broker/InFlightDeliveries$ByVisibleAt;", (.ref r)), ("lastAttempts", "Lcom/example/pulld/pulld/broker/InFlightDeliveries$ByVisibleAt;", (.ref s)), ("maxAttempts", "I", (.int mx)), ("count", "I", (.int ct)), ("usedSlots", "I", (.int 0)), ("firstFree", "I", (.int fr)), ("queues", "[I", (.ref nq)), ("offsets", "[J", (.ref no)), ("attempts", "[I", (.ref na)), ("visibleAts", "[J", (.ref nv)), ("ids", "[J", (.ref ai)), ("heapPlaces", "[I", (.ref ah)), ("table", "[I", (.ref ab))])), (r, .inl ("com/example/pulld/pulld/broker/InFlightDeliveries$ByVisibleAt", [("this$0", "Lcom/example/pulld/pulld/broker/InFlightDeliveries;", (.ref d)), ("heap", "[I", (.ref hr)), ("size", "I", (.int 0))])), (s, .inl ("com/example/pulld/pulld/broker/InFlightDeliveries$ByVisibleAt", [("this$0", "Lcom/example/pulld/pulld/broker/InFlightDeliveries;", (.ref d)), ("heap", "[I", (.ref hs)), ("size", "I", (.int 0))])), (aq, .inr (.inl [])), (ao, .inr (.inr [])), (aa, .inr (.inl [])), (av, .inr (.inr [])), (ai, .inr (.inr [])), (ah, .inr (.inl [])), (ab, .inr (.inl [])), (hr, .inr (.inl [])), (hs, .inr (.inl [])), (f1, D1), (f2, D2), (f3, D3), (mv, .inr (.inl [])), (nq, .inr (.inl (t3 0 0 0))), (no, .inr (.inr (u3 0 0 0))), (na, .inr (.inl (t3 0 0 0))), (nv, .inr (.inr (u3 0 0 0))), (ni, .inr (.inr (u3 0 0 0)))]) (host := "") d11_151 (Or.inl (hw _ (List.mem_of_getElem? (i := 35) rfl))) (Or.inl (hw _ (List.mem_of_getElem? (i := 36) rfl))) (hw _ (List.mem_of_getElem? (i := 2) rfl)) rfl rfl (by decide) rfl rfl rfl rfl ?_
  refine Go.aloadN (pc' := 155) d11_154 rfl rfl rfl ?_
  refine Go.aload (pc' := 157) d11_155 rfl rfl rfl ?_
  refine Go.putF (pc' := 160) (i := 0) (j := 10) (ty := (.array .long)) (W' := [(d, .inl ("com/example/pulld/pulld/broker/InFlightDeliveries", [("returning", "Lcom/example/pulld/pulld/broker/InFlightDeliveries$ByVisibleAt;", (.ref r)), ("lastAttempts", "Lcom/example/pulld/pulld/broker/InFlightDeliveries$ByVisibleAt;", (.ref s)), ("maxAttempts", "I", (.int mx)), ("count", "I", (.int ct)), ("usedSlots", "I", (.int 0)), ("firstFree", "I", (.int fr)), ("queues", "[I", (.ref nq)), ("offsets", "[J", (.ref no)), ("attempts", "[I", (.ref na)), ("visibleAts", "[J", (.ref nv)), ("ids", "[J", (.ref ni)), ("heapPlaces", "[I", (.ref ah)), ("table", "[I", (.ref ab))])), (r, .inl ("com/example/pulld/pulld/broker/InFlightDeliveries$ByVisibleAt", [("this$0", "Lcom/example/pulld/pulld/broker/InFlightDeliveries;", (.ref d)), ("heap", "[I", (.ref hr)), ("size", "I", (.int 0))])), (s, .inl ("com/example/pulld/pulld/broker/InFlightDeliveries$ByVisibleAt", [("this$0", "Lcom/example/pulld/pulld/broker/InFlightDeliveries;", (.ref d)), ("heap", "[I", (.ref hs)), ("size", "I", (.int 0))])), (aq, .inr (.inl [])), (ao, .inr (.inr [])), (aa, .inr (.inl [])), (av, .inr (.inr [])), (ai, .inr (.inr [])), (ah, .inr (.inl [])), (ab, .inr (.inl [])), (hr, .inr (.inl [])), (hs, .inr (.inl [])), (f1, D1), (f2, D2), (f3, D3), (mv, .inr (.inl [])), (nq, .inr (.inl (t3 0 0 0))), (no, .inr (.inr (u3 0 0 0))), (na, .inr (.inl (t3 0 0 0))), (nv, .inr (.inr (u3 0 0 0))), (ni, .inr (.inr (u3 0 0 0)))]) (host := "") d11_157 (Or.inl (hw _ (List.mem_of_getElem? (i := 37) rfl))) (Or.inl (hw _ (List.mem_of_getElem? (i := 38) rfl))) (hw _ (List.mem_of_getElem? (i := 2) rfl)) rfl rfl (by decide) rfl rfl rfl rfl ?_
  refine Go.aloadN (pc' := 161) d11_160 rfl rfl rfl ?_
  refine Go.iloadN (pc' := 162) d11_161 rfl rfl ?_
  refine Go.newI (pc' := 164) (len := 12) (cells' := 7) (slots' := 72) (W' := fun nh => [(d, .inl ("com/example/pulld/pulld/broker/InFlightDeliveries", [("returning", "Lcom/example/pulld/pulld/broker/InFlightDeliveries$ByVisibleAt;", (.ref r)), ("lastAttempts", "Lcom/example/pulld/pulld/broker/InFlightDeliveries$ByVisibleAt;", (.ref s)), ("maxAttempts", "I", (.int mx)), ("count", "I", (.int ct)), ("usedSlots", "I", (.int 0)), ("firstFree", "I", (.int fr)), ("queues", "[I", (.ref nq)), ("offsets", "[J", (.ref no)), ("attempts", "[I", (.ref na)), ("visibleAts", "[J", (.ref nv)), ("ids", "[J", (.ref ni)), ("heapPlaces", "[I", (.ref ah)), ("table", "[I", (.ref ab))])), (r, .inl ("com/example/pulld/pulld/broker/InFlightDeliveries$ByVisibleAt", [("this$0", "Lcom/example/pulld/pulld/broker/InFlightDeliveries;", (.ref d)), ("heap", "[I", (.ref hr)), ("size", "I", (.int 0))])), (s, .inl ("com/example/pulld/pulld/broker/InFlightDeliveries$ByVisibleAt", [("this$0", "Lcom/example/pulld/pulld/broker/InFlightDeliveries;", (.ref d)), ("heap", "[I", (.ref hs)), ("size", "I", (.int 0))])), (aq, .inr (.inl [])), (ao, .inr (.inr [])), (aa, .inr (.inl [])), (av, .inr (.inr [])), (ai, .inr (.inr [])), (ah, .inr (.inl [])), (ab, .inr (.inl [])), (hr, .inr (.inl [])), (hs, .inr (.inl [])), (f1, D1), (f2, D2), (f3, D3), (mv, .inr (.inl [])), (nq, .inr (.inl (t3 0 0 0))), (no, .inr (.inr (u3 0 0 0))), (na, .inr (.inl (t3 0 0 0))), (nv, .inr (.inr (u3 0 0 0))), (ni, .inr (.inr (u3 0 0 0))), (nh, .inr (.inl (List.replicate 12 0)))]) d11_162 (hw _ (List.mem_of_getElem? (i := 19) rfl)) (by decide) (by decide) (by decide) (by decide) (by decide) rfl rfl (fun _ => rfl) rfl (fun nh => ?_)
  refine Go.putF (pc' := 167) (i := 0) (j := 11) (ty := (.array .int)) (W' := [(d, .inl ("com/example/pulld/pulld/broker/InFlightDeliveries", [("returning", "Lcom/example/pulld/pulld/broker/InFlightDeliveries$ByVisibleAt;", (.ref r)), ("lastAttempts", "Lcom/example/pulld/pulld/broker/InFlightDeliveries$ByVisibleAt;", (.ref s)), ("maxAttempts", "I", (.int mx)), ("count", "I", (.int ct)), ("usedSlots", "I", (.int 0)), ("firstFree", "I", (.int fr)), ("queues", "[I", (.ref nq)), ("offsets", "[J", (.ref no)), ("attempts", "[I", (.ref na)), ("visibleAts", "[J", (.ref nv)), ("ids", "[J", (.ref ni)), ("heapPlaces", "[I", (.ref nh)), ("table", "[I", (.ref ab))])), (r, .inl ("com/example/pulld/pulld/broker/InFlightDeliveries$ByVisibleAt", [("this$0", "Lcom/example/pulld/pulld/broker/InFlightDeliveries;", (.ref d)), ("heap", "[I", (.ref hr)), ("size", "I", (.int 0))])), (s, .inl ("com/example/pulld/pulld/broker/InFlightDeliveries$ByVisibleAt", [("this$0", "Lcom/example/pulld/pulld/broker/InFlightDeliveries;", (.ref d)), ("heap", "[I", (.ref hs)), ("size", "I", (.int 0))])), (aq, .inr (.inl [])), (ao, .inr (.inr [])), (aa, .inr (.inl [])), (av, .inr (.inr [])), (ai, .inr (.inr [])), (ah, .inr (.inl [])), (ab, .inr (.inl [])), (hr, .inr (.inl [])), (hs, .inr (.inl [])), (f1, D1), (f2, D2), (f3, D3), (mv, .inr (.inl [])), (nq, .inr (.inl (t3 0 0 0))), (no, .inr (.inr (u3 0 0 0))), (na, .inr (.inl (t3 0 0 0))), (nv, .inr (.inr (u3 0 0 0))), (ni, .inr (.inr (u3 0 0 0))), (nh, .inr (.inl (t3 0 0 0)))]) (host := "") d11_164 (Or.inl (hw _ (List.mem_of_getElem? (i := 39) rfl))) (Or.inl (hw _ (List.mem_of_getElem? (i := 40) rfl))) (hw _ (List.mem_of_getElem? (i := 2) rfl)) rfl rfl (by decide) rfl rfl rfl rfl ?_
  refine Go.aloadN (pc' := 168) d11_167 rfl rfl rfl ?_
  refine Go.iload (pc' := 170) d11_168 rfl rfl ?_
  refine Go.putF (pc' := 173) (i := 0) (j := 4) (ty := .int) (W' := [(d, .inl ("com/example/pulld/pulld/broker/InFlightDeliveries", [("returning", "Lcom/example/pulld/pulld/broker/InFlightDeliveries$ByVisibleAt;", (.ref r)), ("lastAttempts", "Lcom/example/pulld/pulld/broker/InFlightDeliveries$ByVisibleAt;", (.ref s)), ("maxAttempts", "I", (.int mx)), ("count", "I", (.int ct)), ("usedSlots", "I", (.int (0 : Int32))), ("firstFree", "I", (.int fr)), ("queues", "[I", (.ref nq)), ("offsets", "[J", (.ref no)), ("attempts", "[I", (.ref na)), ("visibleAts", "[J", (.ref nv)), ("ids", "[J", (.ref ni)), ("heapPlaces", "[I", (.ref nh)), ("table", "[I", (.ref ab))])), (r, .inl ("com/example/pulld/pulld/broker/InFlightDeliveries$ByVisibleAt", [("this$0", "Lcom/example/pulld/pulld/broker/InFlightDeliveries;", (.ref d)), ("heap", "[I", (.ref hr)), ("size", "I", (.int 0))])), (s, .inl ("com/example/pulld/pulld/broker/InFlightDeliveries$ByVisibleAt", [("this$0", "Lcom/example/pulld/pulld/broker/InFlightDeliveries;", (.ref d)), ("heap", "[I", (.ref hs)), ("size", "I", (.int 0))])), (aq, .inr (.inl [])), (ao, .inr (.inr [])), (aa, .inr (.inl [])), (av, .inr (.inr [])), (ai, .inr (.inr [])), (ah, .inr (.inl [])), (ab, .inr (.inl [])), (hr, .inr (.inl [])), (hs, .inr (.inl [])), (f1, D1), (f2, D2), (f3, D3), (mv, .inr (.inl [])), (nq, .inr (.inl (t3 0 0 0))), (no, .inr (.inr (u3 0 0 0))), (na, .inr (.inl (t3 0 0 0))), (nv, .inr (.inr (u3 0 0 0))), (ni, .inr (.inr (u3 0 0 0))), (nh, .inr (.inl (t3 0 0 0)))]) (host := "") d11_170 (Or.inl (hw _ (List.mem_of_getElem? (i := 92) rfl))) (Or.inl (hw _ (List.mem_of_getElem? (i := 93) rfl))) (hw _ (List.mem_of_getElem? (i := 2) rfl)) rfl rfl (by decide) rfl rfl rfl rfl ?_
  refine Go.aloadN (pc' := 174) d11_173 rfl rfl rfl ?_
  refine Go.iconst (pc' := 175) (v := (-1 : Int32)) d11_174 rfl rfl ?_
  refine Go.putF (pc' := 178) (i := 0) (j := 5) (ty := .int) (W' := [(d, .inl ("com/example/pulld/pulld/broker/InFlightDeliveries", [("returning", "Lcom/example/pulld/pulld/broker/InFlightDeliveries$ByVisibleAt;", (.ref r)), ("lastAttempts", "Lcom/example/pulld/pulld/broker/InFlightDeliveries$ByVisibleAt;", (.ref s)), ("maxAttempts", "I", (.int mx)), ("count", "I", (.int ct)), ("usedSlots", "I", (.int (0 : Int32))), ("firstFree", "I", (.int (-1 : Int32))), ("queues", "[I", (.ref nq)), ("offsets", "[J", (.ref no)), ("attempts", "[I", (.ref na)), ("visibleAts", "[J", (.ref nv)), ("ids", "[J", (.ref ni)), ("heapPlaces", "[I", (.ref nh)), ("table", "[I", (.ref ab))])), (r, .inl ("com/example/pulld/pulld/broker/InFlightDeliveries$ByVisibleAt", [("this$0", "Lcom/example/pulld/pulld/broker/InFlightDeliveries;", (.ref d)), ("heap", "[I", (.ref hr)), ("size", "I", (.int 0))])), (s, .inl ("com/example/pulld/pulld/broker/InFlightDeliveries$ByVisibleAt", [("this$0", "Lcom/example/pulld/pulld/broker/InFlightDeliveries;", (.ref d)), ("heap", "[I", (.ref hs)), ("size", "I", (.int 0))])), (aq, .inr (.inl [])), (ao, .inr (.inr [])), (aa, .inr (.inl [])), (av, .inr (.inr [])), (ai, .inr (.inr [])), (ah, .inr (.inl [])), (ab, .inr (.inl [])), (hr, .inr (.inl [])), (hs, .inr (.inl [])), (f1, D1), (f2, D2), (f3, D3), (mv, .inr (.inl [])), (nq, .inr (.inl (t3 0 0 0))), (no, .inr (.inr (u3 0 0 0))), (na, .inr (.inl (t3 0 0 0))), (nv, .inr (.inr (u3 0 0 0))), (ni, .inr (.inr (u3 0 0 0))), (nh, .inr (.inl (t3 0 0 0)))]) (host := "") d11_175 (Or.inl (hw _ (List.mem_of_getElem? (i := 26) rfl))) (Or.inl (hw _ (List.mem_of_getElem? (i := 27) rfl))) (hw _ (List.mem_of_getElem? (i := 2) rfl)) rfl rfl (by decide) rfl rfl rfl rfl ?_
  refine Go.aloadN (pc' := 179) d11_178 rfl rfl rfl ?_
  refine Go.getF (pc' := 182) (i := 0) (j := 0) (v := (.ref r)) (host := "") d11_179 (Or.inl (hw _ (List.mem_of_getElem? (i := 22) rfl))) rfl rfl rfl ?_
  refine Go.aloadN (pc' := 183) d11_182 rfl rfl rfl ?_
  refine Go.iloadN (pc' := 184) d11_183 rfl rfl ?_
  refine Go.pick (W' := (DW d r s nq no na nv ni nh ab hr hs mx ct (0 : Int32) (-1 : Int32) 0 0 (t3 0 0 0) (u3 0 0 0) (t3 0 0 0) (u3 0 0 0) (u3 0 0 0) (t3 0 0 0) [] [] [] ++ [(f1, D1), (f2, D2), (f3, D3)])) [0, 1, 2, 16, 17, 18, 19, 20, 21, 9, 10, 11, 12, 13, 14] rfl (by decide) ?_
  refine Go.callPR (pc' := 187) (W1 := 0) (cells' := 8) (slots' := 84) (argsL := [(.ref mv), (.int (12 : Int32))]) (rest := []) (y' := (⟨"com/example/pulld/pulld/broker/InFlightDeliveries$ByVisibleAt", "renumber", "([II)V"⟩ : MethodName)) (a := r) (i := 1) d11_184 (hw _ (List.mem_of_getElem? (i := 98) rfl)) (hw _ (List.mem_of_getElem? (i := 99) rfl)) (hw _ (List.mem_of_getElem? (i := 100) rfl)) (hw _ (List.mem_of_getElem? (i := 11) rfl)) (hw _ (List.mem_of_getElem? (i := 12) rfl)) (hw _ (List.mem_of_getElem? (i := 101) rfl)) (by decide) rfl (renumr l Z n0 w0 hw mv d r s nq no na nv ni nh ab hr hs mx ct (0 : Int32) (-1 : Int32) 0 0 (t3 0 0 0) (u3 0 0 0) (t3 0 0 0) (u3 0 0 0) (u3 0 0 0) (t3 0 0 0) [] [] [] f1 f2 f3 (D1) (D2) (D3)) (by decide) (by decide) rfl (lenOf pd__28_5bII_29V rfl) rfl (Nat.le_of_eq rfl) (by decide) (by decide) rfl rfl rfl (fun v W' hF => ?_)
  obtain ⟨rfl, nr, rfl⟩ := hF
  refine Go.nov ?_
  refine Go.aloadN (pc' := 188) d11_187 rfl rfl rfl ?_
  refine Go.getF (pc' := 191) (i := 0) (j := 1) (v := (.ref s)) (host := "") d11_188 (Or.inl (hw _ (List.mem_of_getElem? (i := 24) rfl))) rfl rfl rfl ?_
  refine Go.aloadN (pc' := 192) d11_191 rfl rfl rfl ?_
  refine Go.iloadN (pc' := 193) d11_192 rfl rfl ?_
  refine Go.callPR (pc' := 196) (W1 := 0) (cells' := 9) (slots' := 96) (argsL := [(.ref mv), (.int (12 : Int32))]) (rest := []) (y' := (⟨"com/example/pulld/pulld/broker/InFlightDeliveries$ByVisibleAt", "renumber", "([II)V"⟩ : MethodName)) (a := s) (i := 2) d11_193 (hw _ (List.mem_of_getElem? (i := 98) rfl)) (hw _ (List.mem_of_getElem? (i := 99) rfl)) (hw _ (List.mem_of_getElem? (i := 100) rfl)) (hw _ (List.mem_of_getElem? (i := 11) rfl)) (hw _ (List.mem_of_getElem? (i := 12) rfl)) (hw _ (List.mem_of_getElem? (i := 101) rfl)) (by decide) rfl (renums l Z n0 w0 hw mv d r s nq no na nv ni nh ab nr hs mx ct (0 : Int32) (-1 : Int32) 0 0 (t3 0 0 0) (u3 0 0 0) (t3 0 0 0) (u3 0 0 0) (u3 0 0 0) (t3 0 0 0) [] (t3 0 0 0) [] f1 f2 f3 (D1) (D2) (D3)) (by decide) (by decide) rfl (lenOf pd__28_5bII_29V rfl) rfl (Nat.le_of_eq rfl) (by decide) (by decide) rfl rfl rfl (fun v W' hF => ?_)
  obtain ⟨rfl, ns, rfl⟩ := hF
  refine Go.nov ?_
  refine Go.aloadN (pc' := 197) d11_196 rfl rfl rfl ?_
  refine Go.iconst (pc' := 198) (v := (2 : Int32)) d11_197 rfl rfl ?_
  refine Go.iloadN (pc' := 199) d11_198 rfl rfl ?_
  refine Go.iconst (pc' := 200) (v := (4 : Int32)) d11_199 rfl rfl ?_
  refine Go.iadd (pc' := 201) d11_200 rfl ?_
  refine Go.imul (pc' := 202) d11_201 rfl ?_
  refine Go.iconst (pc' := 203) (v := (4 : Int32)) d11_202 rfl rfl ?_
  refine Go.isub (pc' := 204) d11_203 rfl ?_
  refine Go.newI (pc' := 206) (len := 28) (cells' := 10) (slots' := 124) (W' := fun nt => (DW d r s nq no na nv ni nh ab nr ns mx ct (0 : Int32) (-1 : Int32) 0 0 (t3 0 0 0) (u3 0 0 0) (t3 0 0 0) (u3 0 0 0) (u3 0 0 0) (t3 0 0 0) [] (t3 0 0 0) (t3 0 0 0) ++ [(f1, D1), (f2, D2), (f3, D3), (nt, .inr (.inl (List.replicate 28 0)))])) d11_204 (hw _ (List.mem_of_getElem? (i := 19) rfl)) (by decide) (by decide) (by decide) (by decide) (by decide) rfl rfl (fun _ => rfl) rfl (fun nt => ?_)
  refine Go.putF (pc' := 209) (i := 0) (j := 12) (ty := (.array .int)) (W' := [(d, .inl ("com/example/pulld/pulld/broker/InFlightDeliveries", [("returning", "Lcom/example/pulld/pulld/broker/InFlightDeliveries$ByVisibleAt;", (.ref r)), ("lastAttempts", "Lcom/example/pulld/pulld/broker/InFlightDeliveries$ByVisibleAt;", (.ref s)), ("maxAttempts", "I", (.int mx)), ("count", "I", (.int ct)), ("usedSlots", "I", (.int (0 : Int32))), ("firstFree", "I", (.int (-1 : Int32))), ("queues", "[I", (.ref nq)), ("offsets", "[J", (.ref no)), ("attempts", "[I", (.ref na)), ("visibleAts", "[J", (.ref nv)), ("ids", "[J", (.ref ni)), ("heapPlaces", "[I", (.ref nh)), ("table", "[I", (.ref nt))])), (r, .inl ("com/example/pulld/pulld/broker/InFlightDeliveries$ByVisibleAt", [("this$0", "Lcom/example/pulld/pulld/broker/InFlightDeliveries;", (.ref d)), ("heap", "[I", (.ref nr)), ("size", "I", (.int 0))])), (s, .inl ("com/example/pulld/pulld/broker/InFlightDeliveries$ByVisibleAt", [("this$0", "Lcom/example/pulld/pulld/broker/InFlightDeliveries;", (.ref d)), ("heap", "[I", (.ref ns)), ("size", "I", (.int 0))])), (nq, .inr (.inl (t3 0 0 0))), (no, .inr (.inr (u3 0 0 0))), (na, .inr (.inl (t3 0 0 0))), (nv, .inr (.inr (u3 0 0 0))), (ni, .inr (.inr (u3 0 0 0))), (nh, .inr (.inl (t3 0 0 0))), (ab, .inr (.inl [])), (nr, .inr (.inl (t3 0 0 0))), (ns, .inr (.inl (t3 0 0 0))), (f1, D1), (f2, D2), (f3, D3), (nt, .inr (.inl (List.replicate 28 0)))]) (host := "") d11_206 (Or.inl (hw _ (List.mem_of_getElem? (i := 41) rfl))) (Or.inl (hw _ (List.mem_of_getElem? (i := 42) rfl))) (hw _ (List.mem_of_getElem? (i := 2) rfl)) rfl rfl (by decide) rfl rfl rfl rfl ?_
  refine Go.iconst (pc' := 210) (v := (0 : Int32)) d11_209 rfl rfl ?_
  refine Go.istore (pc' := 212) (ls' := #[.val (.ref d), .val (.int (12 : Int32)), .val (.ref mv), .val (.ref nq), .val (.ref no), .val (.ref na), .val (.ref nv), .val (.ref ni), .val (.int (0 : Int32)), .val (.int (0 : Int32))]) d11_210 rfl rfl ?_
  refine Go.iload (pc' := 214) d11_212 rfl rfl ?_
  refine Go.aloadN (pc' := 215) d11_214 rfl rfl rfl ?_
  refine Go.getF (pc' := 218) (i := 0) (j := 4) (v := (.int (0 : Int32))) (host := "") d11_215 (Or.inl (hw _ (List.mem_of_getElem? (i := 92) rfl))) rfl rfl rfl ?_
  refine Go.icmp_ge (pcY := 233) (pcN := 221) d11_218 (by decide) (by decide) rfl (fun hc218 => ?_) (fun hc218 => absurd hc218 (by decide))
  refine Go.pick (W' := (DW d r s nq no na nv ni nh nt nr ns mx ct (0 : Int32) (-1 : Int32) 0 0 (t3 0 0 0) (u3 0 0 0) (t3 0 0 0) (u3 0 0 0) (u3 0 0 0) (t3 0 0 0) (List.replicate 28 0) (t3 0 0 0) (t3 0 0 0) ++ [(f1, D1), (f2, D2), (f3, D3)])) [0, 1, 2, 3, 4, 5, 6, 7, 8, 15, 10, 11, 12, 13, 14] rfl (by decide) ?_
  exact Go.retV d11_233 rfl (by decide) (by decide) ⟨rfl, _, _, _, _, _, _, _, _, _, rfl⟩
theorem d10_37 : decode prog_12_method_13_code 37 = .ok (.aload_n 0, 1) := by decide +kernel
theorem d10_38 : decode prog_12_method_13_code 38 = .ok (.aload_n 0, 1) := by decide +kernel
theorem d10_39 : decode prog_12_method_13_code 39 = .ok (.getfield 25, 3) := by decide +kernel
theorem d10_42 : decode prog_12_method_13_code 42 = .ok (.arraylength, 1) := by decide +kernel
theorem d10_43 : decode prog_12_method_13_code 43 = .ok (.ifCond .ne 8, 3) := by decide +kernel
theorem d10_46 : decode prog_12_method_13_code 46 = .ok (.bipush 12, 2) := by decide +kernel
theorem d10_48 : decode prog_12_method_13_code 48 = .ok (.goto 14, 3) := by decide +kernel
theorem d10_62 : decode prog_12_method_13_code 62 = .ok (.invokevirtual 107, 3) := by decide +kernel
set_option maxRecDepth 65536 in
set_option maxHeartbeats 40000000 in
theorem take0 (l : Launch) (Z : State) (n0 : Nat) (w0 : Array Value) (hw : ∀ d ∈ tables_1, d.before w0 Z = true) (d r s aq ao aa av ai ah ab hr hs : Addr) (mx ct : Int32) (f1 f2 f3 : Addr) (D1 D2 D3 : Desc) :
    Meets l Z n0 (⟨"com/example/pulld/pulld/broker/InFlightDeliveries", "takeSlot", "()I"⟩ : MethodName) prog_12_method_13_code 2 (some .int) ({ frames := 2, cells := 10, slots := 124, locals := 37 } : Room) [] #[(.ref d)] (DW d r s aq ao aa av ai ah ab hr hs mx ct 0 (-1 : Int32) 0 0 [] [] [] [] [] [] [] [] [] ++ [(f1, D1), (f2, D2), (f3, D3)]) (fun v W' => v = some (.int (0 : Int32)) ∧ ∃ nq no na nv ni nh nt nr ns : Addr, W' = (DW d r s nq no na nv ni nh nt nr ns mx ct ((0 : Int32) + (1 : Int32)) (-1 : Int32) 0 0 (t3 0 0 0) (u3 0 0 0) (t3 0 0 0) (u3 0 0 0) (u3 0 0 0) (t3 0 0 0) (List.replicate 28 0) (t3 0 0 0) (t3 0 0 0) ++ [(f1, D1), (f2, D2), (f3, D3)])) := by
  refine Meets.of_go (ls := #[.val (.ref d), .unset]) (plainFor_of_name (by first | (simp [plainName, overriddenIn]; done) | decide +kernel)) (fun m => by first | (simp [entryFrame, mkF, argsToLocals, Value.category, maxLocals]; done) | rfl) (fun D => ?_)
  refine Go.aloadN (pc' := 1) d10_0 rfl rfl rfl ?_
  refine Go.getF (pc' := 4) (i := 0) (j := 5) (v := (.int (-1 : Int32))) (host := "") d10_1 (Or.inl (hw _ (List.mem_of_getElem? (i := 26) rfl))) rfl rfl rfl ?_
  refine Go.if_lt (pcY := 25) (pcN := 7) d10_4 (by decide) (by decide) rfl (fun hc4 => ?_) (fun hc4 => absurd hc4 (by decide))
  refine Go.aloadN (pc' := 26) d10_25 rfl rfl rfl ?_
  refine Go.getF (pc' := 29) (i := 0) (j := 4) (v := (.int 0)) (host := "") d10_26 (Or.inl (hw _ (List.mem_of_getElem? (i := 92) rfl))) rfl rfl rfl ?_
  refine Go.aloadN (pc' := 30) d10_29 rfl rfl rfl ?_
  refine Go.getF (pc' := 33) (i := 0) (j := 6) (v := (.ref aq)) (host := "") d10_30 (Or.inl (hw _ (List.mem_of_getElem? (i := 28) rfl))) rfl rfl rfl ?_
  refine Go.alenI (pc' := 34) (i := 3) (n := (0 : Int32)) d10_33 rfl rfl rfl ?_
  refine Go.icmp_ne (pcY := 65) (pcN := 37) d10_34 (by decide) (by decide) rfl (fun hc34 => absurd hc34 (by decide)) (fun hc34 => ?_)
  refine Go.aloadN (pc' := 38) d10_37 rfl rfl rfl ?_
  refine Go.aloadN (pc' := 39) d10_38 rfl rfl rfl ?_
  refine Go.getF (pc' := 42) (i := 0) (j := 6) (v := (.ref aq)) (host := "") d10_39 (Or.inl (hw _ (List.mem_of_getElem? (i := 28) rfl))) rfl rfl rfl ?_
  refine Go.alenI (pc' := 43) (i := 3) (n := (0 : Int32)) d10_42 rfl rfl rfl ?_
  refine Go.if_ne (pcY := 51) (pcN := 46) d10_43 (by decide) (by decide) rfl (fun hc43 => absurd hc43 (by decide)) (fun hc43 => ?_)
  refine Go.bipush (pc' := 48) (v := (12 : Int32)) d10_46 rfl rfl ?_
  refine Go.goto (pc' := 62) d10_48 (by decide) (by decide) ?_
  refine Go.callP (pc' := 65) (W1 := 0) (cells' := 10) (slots' := 124) (argsL := [(.int (12 : Int32))]) (rest := []) (y' := (⟨"com/example/pulld/pulld/broker/InFlightDeliveries", "resize", "(I)V"⟩ : MethodName)) (a := d) (i := 0) d10_62 (hw _ (List.mem_of_getElem? (i := 94) rfl)) (hw _ (List.mem_of_getElem? (i := 95) rfl)) (hw _ (List.mem_of_getElem? (i := 96) rfl)) (hw _ (List.mem_of_getElem? (i := 2) rfl)) (hw _ (List.mem_of_getElem? (i := 3) rfl)) (hw _ (List.mem_of_getElem? (i := 97) rfl)) (by decide) rfl (resize0 l Z n0 w0 hw d r s aq ao aa av ai ah ab hr hs mx ct (-1 : Int32) f1 f2 f3 (D1) (D2) (D3)) (by decide) (by decide) rfl (lenOf pd__28I_29V rfl) rfl (Nat.le_of_eq rfl) (by decide) (by decide) rfl rfl rfl (fun v W' hF => ?_)
  obtain ⟨rfl, nq, no, na, nv, ni, nh, nt, nr, ns, rfl⟩ := hF
  refine Go.nov ?_
  refine Go.aloadN (pc' := 66) d10_65 rfl rfl rfl ?_
  refine Go.dup (pc' := 67) d10_66 rfl rfl ?_
  refine Go.getF (pc' := 70) (i := 0) (j := 4) (v := (.int 0)) (host := "") d10_67 (Or.inl (hw _ (List.mem_of_getElem? (i := 92) rfl))) rfl rfl rfl ?_
  refine Go.dupX1 (pc' := 71) d10_70 rfl rfl rfl ?_
  refine Go.iconst (pc' := 72) (v := (1 : Int32)) d10_71 rfl rfl ?_
  refine Go.iadd (pc' := 73) d10_72 rfl ?_
  refine Go.putF (pc' := 76) (i := 0) (j := 4) (ty := .int) (W' := (DW d r s nq no na nv ni nh nt nr ns mx ct (0 + (1 : Int32)) (-1 : Int32) 0 0 (t3 0 0 0) (u3 0 0 0) (t3 0 0 0) (u3 0 0 0) (u3 0 0 0) (t3 0 0 0) (List.replicate 28 0) (t3 0 0 0) (t3 0 0 0) ++ [(f1, D1), (f2, D2), (f3, D3)])) (host := "") d10_73 (Or.inl (hw _ (List.mem_of_getElem? (i := 92) rfl))) (Or.inl (hw _ (List.mem_of_getElem? (i := 93) rfl))) (hw _ (List.mem_of_getElem? (i := 2) rfl)) rfl rfl (by decide) rfl rfl rfl rfl ?_
  refine Go.istoreN (pc' := 77) (ls' := #[.val (.ref d), .val (.int 0)]) d10_76 rfl rfl ?_
  refine Go.iloadN (pc' := 78) d10_77 rfl rfl ?_
  exact Go.retI d10_78 rfl (by decide) (by decide) ⟨rfl, _, _, _, _, _, _, _, _, _, rfl⟩
set_option maxRecDepth 65536 in
set_option maxHeartbeats 40000000 in
theorem putF (l : Launch) (Z : State) (n0 : Nat) (w0 : Array Value) (hw : ∀ d ∈ tables_1, d.before w0 Z = true) (d r s aq ao aa av ai ah ab hr hs : Addr) (mx ct : Int32) (f1 f2 f3 : Addr) (D2 D3 : Desc) (fq : Int32) (fo : Int64) (fa : Int32) (fv fi : Int64) (tb' : List Int32) (R' : List Int32) (sr' : Int32) (S' : List Int32) (ss' : Int32) (hp' : List Int32) (h4 : linkF (t3 fq 0 0) (u3 fo 0 0) (List.replicate 28 0) 0 = some tb') (hA : addD (t3 fq 0 0) (u3 fo 0 0) (u3 fv 0 0) (t3 fa 0 0) mx 0 (t3 0 0 0, 0, t3 0 0 0, 0, t3 0 0 0) = some (R', sr', S', ss', hp')) :
    Meets l Z n0 (⟨"com/example/pulld/pulld/broker/InFlightDeliveries", "put", "(Lcom/example/pulld/pulld/broker/InFlight;)V"⟩ : MethodName) prog_12_method_7_code 3 none ({ frames := 4, cells := 10, slots := 124, locals := 58 } : Room) [] #[(.ref d), (.ref f1)] (DW d r s aq ao aa av ai ah ab hr hs mx ct 0 (-1 : Int32) 0 0 [] [] [] [] [] [] [] [] [] ++ [(f1, .inl ("com/example/pulld/pulld/broker/InFlight", [("queue", "I", (.int fq)), ("offset", "J", (.long fo)), ("attempt", "I", (.int fa)), ("visibleAt", "J", (.long fv)), ("id", "J", (.long fi))])), (f2, D2), (f3, D3)]) (fun v W' => v = none ∧ ∃ nq no na nv ni nh nt nr ns : Addr, W' = (DW d r s nq no na nv ni nh nt nr ns mx (ct + (1 : Int32)) ((0 : Int32) + (1 : Int32)) (-1 : Int32) sr' ss' (t3 fq 0 0) (u3 fo 0 0) (t3 fa 0 0) (u3 fv 0 0) (u3 fi 0 0) hp' tb' R' S' ++ [(f1, .inl ("com/example/pulld/pulld/broker/InFlight", [("queue", "I", (.int fq)), ("offset", "J", (.long fo)), ("attempt", "I", (.int fa)), ("visibleAt", "J", (.long fv)), ("id", "J", (.long fi))])), (f2, D2), (f3, D3)])) := by
  refine Meets.of_go (ls := #[.val (.ref d), .val (.ref f1), .unset]) (plainFor_of_name (by first | (simp [plainName, overriddenIn]; done) | decide +kernel)) (fun m => by first | (simp [entryFrame, mkF, argsToLocals, Value.category, maxLocals]; done) | rfl) (fun D => ?_)
  refine Go.aloadN (pc' := 1) d6_0 rfl rfl rfl ?_
  refine Go.aloadN (pc' := 2) d6_1 rfl rfl rfl ?_
  refine Go.callV (pc' := 5) (W1 := 1) (cells' := 0) (slots' := 0) (argsL := []) (rest := [(.ref d)]) (y' := (⟨"com/example/pulld/pulld/broker/InFlight", "queue", "()I"⟩ : MethodName)) (a := f1) (i := 12) d6_2 (hw _ (List.mem_of_getElem? (i := 74) rfl)) (hw _ (List.mem_of_getElem? (i := 75) rfl)) (hw _ (List.mem_of_getElem? (i := 77) rfl)) (hw _ (List.mem_of_getElem? (i := 76) rfl)) (hw _ (List.mem_of_getElem? (i := 47) rfl)) (hw _ (List.mem_of_getElem? (i := 78) rfl)) (by decide) rfl (rm7 l Z n0 w0 hw f1 12 fq fo fa fv fi (DW d r s aq ao aa av ai ah ab hr hs mx ct 0 (-1 : Int32) 0 0 [] [] [] [] [] [] [] [] [] ++ [(f1, .inl ("com/example/pulld/pulld/broker/InFlight", [("queue", "I", (.int fq)), ("offset", "J", (.long fo)), ("attempt", "I", (.int fa)), ("visibleAt", "J", (.long fv)), ("id", "J", (.long fi))])), (f2, D2), (f3, D3)]) rfl) (by decide) (by decide) rfl (lenOf pd__28_29I rfl) rfl (Nat.le_of_eq rfl) (by decide) (by decide) rfl rfl rfl (fun v W' hF => ?_)
  obtain ⟨rfl, rfl⟩ := hF
  refine Go.val ?_
  refine Go.aloadN (pc' := 6) d6_5 rfl rfl rfl ?_
  refine Go.callV (pc' := 9) (W1 := 2) (cells' := 0) (slots' := 0) (argsL := []) (rest := [(.int fq), (.ref d)]) (y' := (⟨"com/example/pulld/pulld/broker/InFlight", "offset", "()J"⟩ : MethodName)) (a := f1) (i := 12) d6_6 (hw _ (List.mem_of_getElem? (i := 79) rfl)) (hw _ (List.mem_of_getElem? (i := 80) rfl)) (hw _ (List.mem_of_getElem? (i := 82) rfl)) (hw _ (List.mem_of_getElem? (i := 81) rfl)) (hw _ (List.mem_of_getElem? (i := 47) rfl)) (hw _ (List.mem_of_getElem? (i := 83) rfl)) (by decide) rfl (rm8 l Z n0 w0 hw f1 12 fq fo fa fv fi (DW d r s aq ao aa av ai ah ab hr hs mx ct 0 (-1 : Int32) 0 0 [] [] [] [] [] [] [] [] [] ++ [(f1, .inl ("com/example/pulld/pulld/broker/InFlight", [("queue", "I", (.int fq)), ("offset", "J", (.long fo)), ("attempt", "I", (.int fa)), ("visibleAt", "J", (.long fv)), ("id", "J", (.long fi))])), (f2, D2), (f3, D3)]) rfl) (by decide) (by decide) rfl (lenOf pd__28_29J rfl) rfl (Nat.le_of_eq rfl) (by decide) (by decide) rfl rfl rfl (fun v W' hF => ?_)
  obtain ⟨rfl, rfl⟩ := hF
  refine Go.val ?_
  refine Go.callP (pc' := 12) (W1 := 0) (cells' := 0) (slots' := 0) (argsL := [(.int fq), (.long fo)]) (rest := []) (y' := (⟨"com/example/pulld/pulld/broker/InFlightDeliveries", "slotOf", "(IJ)I"⟩ : MethodName)) (a := d) (i := 0) d6_9 (hw _ (List.mem_of_getElem? (i := 84) rfl)) (hw _ (List.mem_of_getElem? (i := 85) rfl)) (hw _ (List.mem_of_getElem? (i := 86) rfl)) (hw _ (List.mem_of_getElem? (i := 2) rfl)) (hw _ (List.mem_of_getElem? (i := 3) rfl)) (hw _ (List.mem_of_getElem? (i := 87) rfl)) (by decide) rfl (rm9 l Z n0 w0 hw fq fo d r s aq ao aa av ai ah ab hr hs mx ct 0 (-1 : Int32) 0 0 [] [] [] [] [] [] [] [] [] [(f1, .inl ("com/example/pulld/pulld/broker/InFlight", [("queue", "I", (.int fq)), ("offset", "J", (.long fo)), ("attempt", "I", (.int fa)), ("visibleAt", "J", (.long fv)), ("id", "J", (.long fi))])), (f2, D2), (f3, D3)] (-1) (if_neg (by decide))) (by decide) (by decide) rfl (lenOf pd__28IJ_29I rfl) rfl (Nat.le_of_eq rfl) (by decide) (by decide) rfl rfl rfl (fun v W' hF => ?_)
  obtain ⟨rfl, rfl⟩ := hF
  refine Go.val ?_
  refine Go.istoreN (pc' := 13) (ls' := #[.val (.ref d), .val (.ref f1), .val (.int (-1))]) d6_12 rfl rfl ?_
  refine Go.iloadN (pc' := 14) d6_13 rfl rfl ?_
  refine Go.if_lt (pcY := 29) (pcN := 17) d6_14 (by decide) (by decide) rfl (fun hc14 => ?_) (fun hc14 => absurd hc14 (by decide))
  refine Go.aloadN (pc' := 30) d6_29 rfl rfl rfl ?_
  refine Go.callP (pc' := 33) (W1 := 0) (cells' := 10) (slots' := 124) (argsL := []) (rest := []) (y' := (⟨"com/example/pulld/pulld/broker/InFlightDeliveries", "takeSlot", "()I"⟩ : MethodName)) (a := d) (i := 0) d6_30 (hw _ (List.mem_of_getElem? (i := 88) rfl)) (hw _ (List.mem_of_getElem? (i := 89) rfl)) (hw _ (List.mem_of_getElem? (i := 90) rfl)) (hw _ (List.mem_of_getElem? (i := 2) rfl)) (hw _ (List.mem_of_getElem? (i := 3) rfl)) (hw _ (List.mem_of_getElem? (i := 91) rfl)) (by decide) rfl (take0 l Z n0 w0 hw d r s aq ao aa av ai ah ab hr hs mx ct f1 f2 f3 (.inl ("com/example/pulld/pulld/broker/InFlight", [("queue", "I", (.int fq)), ("offset", "J", (.long fo)), ("attempt", "I", (.int fa)), ("visibleAt", "J", (.long fv)), ("id", "J", (.long fi))])) (D2) (D3)) (by decide) (by decide) rfl (lenOf pd__28_29I rfl) rfl (Nat.le_of_eq rfl) (by decide) (by decide) rfl rfl rfl (fun v W' hF => ?_)
  obtain ⟨rfl, nq, no, na, nv, ni, nh, nt, nr, ns, rfl⟩ := hF
  refine Go.val ?_
  refine Go.istoreN (pc' := 34) (ls' := #[.val (.ref d), .val (.ref f1), .val (.int (0 : Int32))]) d6_33 rfl rfl ?_
  refine Go.aloadN (pc' := 35) d6_34 rfl rfl rfl ?_
  refine Go.getF (pc' := 38) (i := 0) (j := 6) (v := (.ref nq)) (host := "") d6_35 (Or.inl (hw _ (List.mem_of_getElem? (i := 28) rfl))) rfl rfl rfl ?_
  refine Go.iloadN (pc' := 39) d6_38 rfl rfl ?_
  refine Go.aloadN (pc' := 40) d6_39 rfl rfl rfl ?_
  refine Go.callV (pc' := 43) (W1 := 2) (cells' := 10) (slots' := 124) (argsL := []) (rest := [(.int (0 : Int32)), (.ref nq)]) (y' := (⟨"com/example/pulld/pulld/broker/InFlight", "queue", "()I"⟩ : MethodName)) (a := f1) (i := 12) d6_40 (hw _ (List.mem_of_getElem? (i := 74) rfl)) (hw _ (List.mem_of_getElem? (i := 75) rfl)) (hw _ (List.mem_of_getElem? (i := 77) rfl)) (hw _ (List.mem_of_getElem? (i := 76) rfl)) (hw _ (List.mem_of_getElem? (i := 47) rfl)) (hw _ (List.mem_of_getElem? (i := 78) rfl)) (by decide) rfl (rm7 l Z n0 w0 hw f1 12 fq fo fa fv fi (DW d r s nq no na nv ni nh nt nr ns mx ct ((0 : Int32) + (1 : Int32)) (-1 : Int32) 0 0 (t3 0 0 0) (u3 0 0 0) (t3 0 0 0) (u3 0 0 0) (u3 0 0 0) (t3 0 0 0) (List.replicate 28 0) (t3 0 0 0) (t3 0 0 0) ++ [(f1, .inl ("com/example/pulld/pulld/broker/InFlight", [("queue", "I", (.int fq)), ("offset", "J", (.long fo)), ("attempt", "I", (.int fa)), ("visibleAt", "J", (.long fv)), ("id", "J", (.long fi))])), (f2, D2), (f3, D3)]) rfl) (by decide) (by decide) rfl (lenOf pd__28_29I rfl) rfl (Nat.le_of_eq rfl) (by decide) (by decide) rfl rfl rfl (fun v W' hF => ?_)
  obtain ⟨rfl, rfl⟩ := hF
  refine Go.val ?_
  refine Go.iastoreG (pc' := 44) (i := 3) (W' := (DW d r s nq no na nv ni nh nt nr ns mx ct ((0 : Int32) + (1 : Int32)) (-1 : Int32) 0 0 (t3 fq 0 0) (u3 0 0 0) (t3 0 0 0) (u3 0 0 0) (u3 0 0 0) (t3 0 0 0) (List.replicate 28 0) (t3 0 0 0) (t3 0 0 0) ++ [(f1, .inl ("com/example/pulld/pulld/broker/InFlight", [("queue", "I", (.int fq)), ("offset", "J", (.long fo)), ("attempt", "I", (.int fa)), ("visibleAt", "J", (.long fv)), ("id", "J", (.long fi))])), (f2, D2), (f3, D3)])) d6_43 rfl rfl rfl rfl ?_
  refine Go.aloadN (pc' := 45) d6_44 rfl rfl rfl ?_
  refine Go.getF (pc' := 48) (i := 0) (j := 7) (v := (.ref no)) (host := "") d6_45 (Or.inl (hw _ (List.mem_of_getElem? (i := 31) rfl))) rfl rfl rfl ?_
  refine Go.iloadN (pc' := 49) d6_48 rfl rfl ?_
  refine Go.aloadN (pc' := 50) d6_49 rfl rfl rfl ?_
  refine Go.callV (pc' := 53) (W1 := 2) (cells' := 10) (slots' := 124) (argsL := []) (rest := [(.int (0 : Int32)), (.ref no)]) (y' := (⟨"com/example/pulld/pulld/broker/InFlight", "offset", "()J"⟩ : MethodName)) (a := f1) (i := 12) d6_50 (hw _ (List.mem_of_getElem? (i := 79) rfl)) (hw _ (List.mem_of_getElem? (i := 80) rfl)) (hw _ (List.mem_of_getElem? (i := 82) rfl)) (hw _ (List.mem_of_getElem? (i := 81) rfl)) (hw _ (List.mem_of_getElem? (i := 47) rfl)) (hw _ (List.mem_of_getElem? (i := 83) rfl)) (by decide) rfl (rm8 l Z n0 w0 hw f1 12 fq fo fa fv fi (DW d r s nq no na nv ni nh nt nr ns mx ct ((0 : Int32) + (1 : Int32)) (-1 : Int32) 0 0 (t3 fq 0 0) (u3 0 0 0) (t3 0 0 0) (u3 0 0 0) (u3 0 0 0) (t3 0 0 0) (List.replicate 28 0) (t3 0 0 0) (t3 0 0 0) ++ [(f1, .inl ("com/example/pulld/pulld/broker/InFlight", [("queue", "I", (.int fq)), ("offset", "J", (.long fo)), ("attempt", "I", (.int fa)), ("visibleAt", "J", (.long fv)), ("id", "J", (.long fi))])), (f2, D2), (f3, D3)]) rfl) (by decide) (by decide) rfl (lenOf pd__28_29J rfl) rfl (Nat.le_of_eq rfl) (by decide) (by decide) rfl rfl rfl (fun v W' hF => ?_)
  obtain ⟨rfl, rfl⟩ := hF
  refine Go.val ?_
  refine Go.lastoreG (pc' := 54) (i := 4) (W' := (DW d r s nq no na nv ni nh nt nr ns mx ct ((0 : Int32) + (1 : Int32)) (-1 : Int32) 0 0 (t3 fq 0 0) (u3 fo 0 0) (t3 0 0 0) (u3 0 0 0) (u3 0 0 0) (t3 0 0 0) (List.replicate 28 0) (t3 0 0 0) (t3 0 0 0) ++ [(f1, .inl ("com/example/pulld/pulld/broker/InFlight", [("queue", "I", (.int fq)), ("offset", "J", (.long fo)), ("attempt", "I", (.int fa)), ("visibleAt", "J", (.long fv)), ("id", "J", (.long fi))])), (f2, D2), (f3, D3)])) d6_53 rfl rfl rfl rfl ?_
  refine Go.aloadN (pc' := 55) d6_54 rfl rfl rfl ?_
  refine Go.iloadN (pc' := 56) d6_55 rfl rfl ?_
  refine Go.callP (pc' := 59) (W1 := 0) (cells' := 10) (slots' := 124) (argsL := [(.int (0 : Int32))]) (rest := []) (y' := (⟨"com/example/pulld/pulld/broker/InFlightDeliveries", "link", "(I)V"⟩ : MethodName)) (a := d) (i := 0) d6_56 (hw _ (List.mem_of_getElem? (i := 104) rfl)) (hw _ (List.mem_of_getElem? (i := 105) rfl)) (hw _ (List.mem_of_getElem? (i := 106) rfl)) (hw _ (List.mem_of_getElem? (i := 2) rfl)) (hw _ (List.mem_of_getElem? (i := 3) rfl)) (hw _ (List.mem_of_getElem? (i := 107) rfl)) (by decide) rfl (rm13 l Z n0 w0 hw (0 : Int32) d r s nq no na nv ni nh nt nr ns mx ct ((0 : Int32) + (1 : Int32)) (-1 : Int32) 0 0 (t3 fq 0 0) (u3 fo 0 0) (t3 0 0 0) (u3 0 0 0) (u3 0 0 0) (t3 0 0 0) (List.replicate 28 0) (t3 0 0 0) (t3 0 0 0) [(f1, .inl ("com/example/pulld/pulld/broker/InFlight", [("queue", "I", (.int fq)), ("offset", "J", (.long fo)), ("attempt", "I", (.int fa)), ("visibleAt", "J", (.long fv)), ("id", "J", (.long fi))])), (f2, D2), (f3, D3)] tb' h4) (by decide) (by decide) rfl (lenOf pd__28I_29V rfl) rfl (Nat.le_of_eq rfl) (by decide) (by decide) rfl rfl rfl (fun v W' hF => ?_)
  obtain ⟨rfl, rfl⟩ := hF
  refine Go.nov ?_
  refine Go.aloadN (pc' := 60) d6_59 rfl rfl rfl ?_
  refine Go.dup (pc' := 61) d6_60 rfl rfl ?_
  refine Go.getF (pc' := 64) (i := 0) (j := 3) (v := (.int ct)) (host := "") d6_61 (Or.inl (hw _ (List.mem_of_getElem? (i := 114) rfl))) rfl rfl rfl ?_
  refine Go.iconst (pc' := 65) (v := (1 : Int32)) d6_64 rfl rfl ?_
  refine Go.iadd (pc' := 66) d6_65 rfl ?_
  refine Go.putF (pc' := 69) (i := 0) (j := 3) (ty := .int) (W' := (DW d r s nq no na nv ni nh nt nr ns mx (ct + (1 : Int32)) ((0 : Int32) + (1 : Int32)) (-1 : Int32) 0 0 (t3 fq 0 0) (u3 fo 0 0) (t3 0 0 0) (u3 0 0 0) (u3 0 0 0) (t3 0 0 0) tb' (t3 0 0 0) (t3 0 0 0) ++ [(f1, .inl ("com/example/pulld/pulld/broker/InFlight", [("queue", "I", (.int fq)), ("offset", "J", (.long fo)), ("attempt", "I", (.int fa)), ("visibleAt", "J", (.long fv)), ("id", "J", (.long fi))])), (f2, D2), (f3, D3)])) (host := "") d6_66 (Or.inl (hw _ (List.mem_of_getElem? (i := 114) rfl))) (Or.inl (hw _ (List.mem_of_getElem? (i := 115) rfl))) (hw _ (List.mem_of_getElem? (i := 2) rfl)) rfl rfl (by decide) rfl rfl rfl rfl ?_
  refine Go.aloadN (pc' := 70) d6_69 rfl rfl rfl ?_
  refine Go.getF (pc' := 73) (i := 0) (j := 8) (v := (.ref na)) (host := "") d6_70 (Or.inl (hw _ (List.mem_of_getElem? (i := 33) rfl))) rfl rfl rfl ?_
  refine Go.iloadN (pc' := 74) d6_73 rfl rfl ?_
  refine Go.aloadN (pc' := 75) d6_74 rfl rfl rfl ?_
  refine Go.callV (pc' := 78) (W1 := 2) (cells' := 10) (slots' := 124) (argsL := []) (rest := [(.int (0 : Int32)), (.ref na)]) (y' := (⟨"com/example/pulld/pulld/broker/InFlight", "attempt", "()I"⟩ : MethodName)) (a := f1) (i := 12) d6_75 (hw _ (List.mem_of_getElem? (i := 116) rfl)) (hw _ (List.mem_of_getElem? (i := 117) rfl)) (hw _ (List.mem_of_getElem? (i := 119) rfl)) (hw _ (List.mem_of_getElem? (i := 118) rfl)) (hw _ (List.mem_of_getElem? (i := 47) rfl)) (hw _ (List.mem_of_getElem? (i := 120) rfl)) (by decide) rfl (rm15 l Z n0 w0 hw f1 12 fq fo fa fv fi (DW d r s nq no na nv ni nh nt nr ns mx (ct + (1 : Int32)) ((0 : Int32) + (1 : Int32)) (-1 : Int32) 0 0 (t3 fq 0 0) (u3 fo 0 0) (t3 0 0 0) (u3 0 0 0) (u3 0 0 0) (t3 0 0 0) tb' (t3 0 0 0) (t3 0 0 0) ++ [(f1, .inl ("com/example/pulld/pulld/broker/InFlight", [("queue", "I", (.int fq)), ("offset", "J", (.long fo)), ("attempt", "I", (.int fa)), ("visibleAt", "J", (.long fv)), ("id", "J", (.long fi))])), (f2, D2), (f3, D3)]) rfl) (by decide) (by decide) rfl (lenOf pd__28_29I rfl) rfl (Nat.le_of_eq rfl) (by decide) (by decide) rfl rfl rfl (fun v W' hF => ?_)
  obtain ⟨rfl, rfl⟩ := hF
  refine Go.val ?_
  refine Go.iastoreG (pc' := 79) (i := 5) (W' := (DW d r s nq no na nv ni nh nt nr ns mx (ct + (1 : Int32)) ((0 : Int32) + (1 : Int32)) (-1 : Int32) 0 0 (t3 fq 0 0) (u3 fo 0 0) (t3 fa 0 0) (u3 0 0 0) (u3 0 0 0) (t3 0 0 0) tb' (t3 0 0 0) (t3 0 0 0) ++ [(f1, .inl ("com/example/pulld/pulld/broker/InFlight", [("queue", "I", (.int fq)), ("offset", "J", (.long fo)), ("attempt", "I", (.int fa)), ("visibleAt", "J", (.long fv)), ("id", "J", (.long fi))])), (f2, D2), (f3, D3)])) d6_78 rfl rfl rfl rfl ?_
  refine Go.aloadN (pc' := 80) d6_79 rfl rfl rfl ?_
  refine Go.getF (pc' := 83) (i := 0) (j := 9) (v := (.ref nv)) (host := "") d6_80 (Or.inl (hw _ (List.mem_of_getElem? (i := 35) rfl))) rfl rfl rfl ?_
  refine Go.iloadN (pc' := 84) d6_83 rfl rfl ?_
  refine Go.aloadN (pc' := 85) d6_84 rfl rfl rfl ?_
  refine Go.callV (pc' := 88) (W1 := 2) (cells' := 10) (slots' := 124) (argsL := []) (rest := [(.int (0 : Int32)), (.ref nv)]) (y' := (⟨"com/example/pulld/pulld/broker/InFlight", "visibleAt", "()J"⟩ : MethodName)) (a := f1) (i := 12) d6_85 (hw _ (List.mem_of_getElem? (i := 121) rfl)) (hw _ (List.mem_of_getElem? (i := 122) rfl)) (hw _ (List.mem_of_getElem? (i := 124) rfl)) (hw _ (List.mem_of_getElem? (i := 123) rfl)) (hw _ (List.mem_of_getElem? (i := 47) rfl)) (hw _ (List.mem_of_getElem? (i := 125) rfl)) (by decide) rfl (rm16 l Z n0 w0 hw f1 12 fq fo fa fv fi (DW d r s nq no na nv ni nh nt nr ns mx (ct + (1 : Int32)) ((0 : Int32) + (1 : Int32)) (-1 : Int32) 0 0 (t3 fq 0 0) (u3 fo 0 0) (t3 fa 0 0) (u3 0 0 0) (u3 0 0 0) (t3 0 0 0) tb' (t3 0 0 0) (t3 0 0 0) ++ [(f1, .inl ("com/example/pulld/pulld/broker/InFlight", [("queue", "I", (.int fq)), ("offset", "J", (.long fo)), ("attempt", "I", (.int fa)), ("visibleAt", "J", (.long fv)), ("id", "J", (.long fi))])), (f2, D2), (f3, D3)]) rfl) (by decide) (by decide) rfl (lenOf pd__28_29J rfl) rfl (Nat.le_of_eq rfl) (by decide) (by decide) rfl rfl rfl (fun v W' hF => ?_)
  obtain ⟨rfl, rfl⟩ := hF
  refine Go.val ?_
  refine Go.lastoreG (pc' := 89) (i := 6) (W' := (DW d r s nq no na nv ni nh nt nr ns mx (ct + (1 : Int32)) ((0 : Int32) + (1 : Int32)) (-1 : Int32) 0 0 (t3 fq 0 0) (u3 fo 0 0) (t3 fa 0 0) (u3 fv 0 0) (u3 0 0 0) (t3 0 0 0) tb' (t3 0 0 0) (t3 0 0 0) ++ [(f1, .inl ("com/example/pulld/pulld/broker/InFlight", [("queue", "I", (.int fq)), ("offset", "J", (.long fo)), ("attempt", "I", (.int fa)), ("visibleAt", "J", (.long fv)), ("id", "J", (.long fi))])), (f2, D2), (f3, D3)])) d6_88 rfl rfl rfl rfl ?_
  refine Go.aloadN (pc' := 90) d6_89 rfl rfl rfl ?_
  refine Go.getF (pc' := 93) (i := 0) (j := 10) (v := (.ref ni)) (host := "") d6_90 (Or.inl (hw _ (List.mem_of_getElem? (i := 37) rfl))) rfl rfl rfl ?_
  refine Go.iloadN (pc' := 94) d6_93 rfl rfl ?_
  refine Go.aloadN (pc' := 95) d6_94 rfl rfl rfl ?_
  refine Go.callV (pc' := 98) (W1 := 2) (cells' := 10) (slots' := 124) (argsL := []) (rest := [(.int (0 : Int32)), (.ref ni)]) (y' := (⟨"com/example/pulld/pulld/broker/InFlight", "id", "()J"⟩ : MethodName)) (a := f1) (i := 12) d6_95 (hw _ (List.mem_of_getElem? (i := 126) rfl)) (hw _ (List.mem_of_getElem? (i := 127) rfl)) (hw _ (List.mem_of_getElem? (i := 129) rfl)) (hw _ (List.mem_of_getElem? (i := 128) rfl)) (hw _ (List.mem_of_getElem? (i := 47) rfl)) (hw _ (List.mem_of_getElem? (i := 130) rfl)) (by decide) rfl (rm17 l Z n0 w0 hw f1 12 fq fo fa fv fi (DW d r s nq no na nv ni nh nt nr ns mx (ct + (1 : Int32)) ((0 : Int32) + (1 : Int32)) (-1 : Int32) 0 0 (t3 fq 0 0) (u3 fo 0 0) (t3 fa 0 0) (u3 fv 0 0) (u3 0 0 0) (t3 0 0 0) tb' (t3 0 0 0) (t3 0 0 0) ++ [(f1, .inl ("com/example/pulld/pulld/broker/InFlight", [("queue", "I", (.int fq)), ("offset", "J", (.long fo)), ("attempt", "I", (.int fa)), ("visibleAt", "J", (.long fv)), ("id", "J", (.long fi))])), (f2, D2), (f3, D3)]) rfl) (by decide) (by decide) rfl (lenOf pd__28_29J rfl) rfl (Nat.le_of_eq rfl) (by decide) (by decide) rfl rfl rfl (fun v W' hF => ?_)
  obtain ⟨rfl, rfl⟩ := hF
  refine Go.val ?_
  refine Go.lastoreG (pc' := 99) (i := 7) (W' := (DW d r s nq no na nv ni nh nt nr ns mx (ct + (1 : Int32)) ((0 : Int32) + (1 : Int32)) (-1 : Int32) 0 0 (t3 fq 0 0) (u3 fo 0 0) (t3 fa 0 0) (u3 fv 0 0) (u3 fi 0 0) (t3 0 0 0) tb' (t3 0 0 0) (t3 0 0 0) ++ [(f1, .inl ("com/example/pulld/pulld/broker/InFlight", [("queue", "I", (.int fq)), ("offset", "J", (.long fo)), ("attempt", "I", (.int fa)), ("visibleAt", "J", (.long fv)), ("id", "J", (.long fi))])), (f2, D2), (f3, D3)])) d6_98 rfl rfl rfl rfl ?_
  refine Go.aloadN (pc' := 100) d6_99 rfl rfl rfl ?_
  refine Go.iloadN (pc' := 101) d6_100 rfl rfl ?_
  dsimp only [addD] at hA
  obtain ⟨a', ha', hA⟩ := own_bind hA
  by_cases hlm : a' < mx
  ·
    rw [if_pos hlm] at hA
    obtain ⟨⟨A1, A2⟩, hz, hA⟩ := own_bind hA
    have hE := Option.some.inj hA
    dsimp only at hE
    refine Go.callP (pc' := 104) (W1 := 0) (cells' := 10) (slots' := 124) (argsL := [(.int (0 : Int32))]) (rest := []) (y' := (⟨"com/example/pulld/pulld/broker/InFlightDeliveries", "byVisibleAt", "(I)Lcom/example/pulld/pulld/broker/InFlightDeliveries$ByVisibleAt;"⟩ : MethodName)) (a := d) (i := 0) d6_101 (hw _ (List.mem_of_getElem? (i := 131) rfl)) (hw _ (List.mem_of_getElem? (i := 132) rfl)) (hw _ (List.mem_of_getElem? (i := 133) rfl)) (hw _ (List.mem_of_getElem? (i := 2) rfl)) (hw _ (List.mem_of_getElem? (i := 3) rfl)) (hw _ (List.mem_of_getElem? (i := 134) rfl)) (by decide) rfl (byR l Z n0 w0 hw (0 : Int32) d r s nq no na nv ni nh nt nr ns mx (ct + (1 : Int32)) ((0 : Int32) + (1 : Int32)) (-1 : Int32) 0 0 (t3 fq 0 0) (u3 fo 0 0) (t3 fa 0 0) (u3 fv 0 0) (u3 fi 0 0) (t3 0 0 0) tb' (t3 0 0 0) (t3 0 0 0) [(f1, .inl ("com/example/pulld/pulld/broker/InFlight", [("queue", "I", (.int fq)), ("offset", "J", (.long fo)), ("attempt", "I", (.int fa)), ("visibleAt", "J", (.long fv)), ("id", "J", (.long fi))])), (f2, D2), (f3, D3)] a' ha' hlm) (by decide) (by decide) rfl (lenOf pd__28I_29Lcom_2fexample_2fpulld_2fpulld_2fbroker_2fInFlightDeliveries_24ByVisibleAt_3b rfl) rfl (Nat.le_of_eq rfl) (by decide) (by decide) rfl rfl rfl (fun v W' hF => ?_)
    obtain ⟨rfl, rfl⟩ := hF
    refine Go.val ?_
    refine Go.iloadN (pc' := 105) d6_104 rfl rfl ?_
    refine Go.callPR (pc' := 108) (W1 := 0) (cells' := 10) (slots' := 124) (argsL := [(.int (0 : Int32))]) (rest := []) (y' := (⟨"com/example/pulld/pulld/broker/InFlightDeliveries$ByVisibleAt", "add", "(I)V"⟩ : MethodName)) (a := r) (i := 1) d6_105 (hw _ (List.mem_of_getElem? (i := 135) rfl)) (hw _ (List.mem_of_getElem? (i := 136) rfl)) (hw _ (List.mem_of_getElem? (i := 137) rfl)) (hw _ (List.mem_of_getElem? (i := 11) rfl)) (hw _ (List.mem_of_getElem? (i := 12) rfl)) (hw _ (List.mem_of_getElem? (i := 138) rfl)) (by decide) rfl (addr l Z n0 w0 hw (0 : Int32) d r s nq no na nv ni nh nt nr ns mx (ct + (1 : Int32)) ((0 : Int32) + (1 : Int32)) (-1 : Int32) 0 0 (t3 fq 0 0) (u3 fo 0 0) (t3 fa 0 0) (u3 fv 0 0) (u3 fi 0 0) (t3 0 0 0) tb' (t3 0 0 0) (t3 0 0 0) [(f1, .inl ("com/example/pulld/pulld/broker/InFlight", [("queue", "I", (.int fq)), ("offset", "J", (.long fo)), ("attempt", "I", (.int fa)), ("visibleAt", "J", (.long fv)), ("id", "J", (.long fi))])), (f2, D2), (f3, D3)] A1 A2 hz) (by decide) (by decide) rfl (lenOf pd__28I_29V rfl) rfl (Nat.le_of_eq rfl) (by decide) (by decide) rfl rfl rfl (fun v W' hF => ?_)
    obtain ⟨rfl, rfl⟩ := hF
    refine Go.nov ?_
    exact Go.retV d6_108 rfl (by decide) (by decide) ⟨rfl, _, _, _, _, _, _, _, _, _, by cases hE; rfl⟩
  ·
    rw [if_neg hlm] at hA
    obtain ⟨⟨A1, A2⟩, hz, hA⟩ := own_bind hA
    have hE := Option.some.inj hA
    dsimp only at hE
    refine Go.callP (pc' := 104) (W1 := 0) (cells' := 10) (slots' := 124) (argsL := [(.int (0 : Int32))]) (rest := []) (y' := (⟨"com/example/pulld/pulld/broker/InFlightDeliveries", "byVisibleAt", "(I)Lcom/example/pulld/pulld/broker/InFlightDeliveries$ByVisibleAt;"⟩ : MethodName)) (a := d) (i := 0) d6_101 (hw _ (List.mem_of_getElem? (i := 131) rfl)) (hw _ (List.mem_of_getElem? (i := 132) rfl)) (hw _ (List.mem_of_getElem? (i := 133) rfl)) (hw _ (List.mem_of_getElem? (i := 2) rfl)) (hw _ (List.mem_of_getElem? (i := 3) rfl)) (hw _ (List.mem_of_getElem? (i := 134) rfl)) (by decide) rfl (byS l Z n0 w0 hw (0 : Int32) d r s nq no na nv ni nh nt nr ns mx (ct + (1 : Int32)) ((0 : Int32) + (1 : Int32)) (-1 : Int32) 0 0 (t3 fq 0 0) (u3 fo 0 0) (t3 fa 0 0) (u3 fv 0 0) (u3 fi 0 0) (t3 0 0 0) tb' (t3 0 0 0) (t3 0 0 0) [(f1, .inl ("com/example/pulld/pulld/broker/InFlight", [("queue", "I", (.int fq)), ("offset", "J", (.long fo)), ("attempt", "I", (.int fa)), ("visibleAt", "J", (.long fv)), ("id", "J", (.long fi))])), (f2, D2), (f3, D3)] a' ha' hlm) (by decide) (by decide) rfl (lenOf pd__28I_29Lcom_2fexample_2fpulld_2fpulld_2fbroker_2fInFlightDeliveries_24ByVisibleAt_3b rfl) rfl (Nat.le_of_eq rfl) (by decide) (by decide) rfl rfl rfl (fun v W' hF => ?_)
    obtain ⟨rfl, rfl⟩ := hF
    refine Go.val ?_
    refine Go.iloadN (pc' := 105) d6_104 rfl rfl ?_
    refine Go.callPR (pc' := 108) (W1 := 0) (cells' := 10) (slots' := 124) (argsL := [(.int (0 : Int32))]) (rest := []) (y' := (⟨"com/example/pulld/pulld/broker/InFlightDeliveries$ByVisibleAt", "add", "(I)V"⟩ : MethodName)) (a := s) (i := 2) d6_105 (hw _ (List.mem_of_getElem? (i := 135) rfl)) (hw _ (List.mem_of_getElem? (i := 136) rfl)) (hw _ (List.mem_of_getElem? (i := 137) rfl)) (hw _ (List.mem_of_getElem? (i := 11) rfl)) (hw _ (List.mem_of_getElem? (i := 12) rfl)) (hw _ (List.mem_of_getElem? (i := 138) rfl)) (by decide) rfl (adds l Z n0 w0 hw (0 : Int32) d r s nq no na nv ni nh nt nr ns mx (ct + (1 : Int32)) ((0 : Int32) + (1 : Int32)) (-1 : Int32) 0 0 (t3 fq 0 0) (u3 fo 0 0) (t3 fa 0 0) (u3 fv 0 0) (u3 fi 0 0) (t3 0 0 0) tb' (t3 0 0 0) (t3 0 0 0) [(f1, .inl ("com/example/pulld/pulld/broker/InFlight", [("queue", "I", (.int fq)), ("offset", "J", (.long fo)), ("attempt", "I", (.int fa)), ("visibleAt", "J", (.long fv)), ("id", "J", (.long fi))])), (f2, D2), (f3, D3)] A1 A2 hz) (by decide) (by decide) rfl (lenOf pd__28I_29V rfl) rfl (Nat.le_of_eq rfl) (by decide) (by decide) rfl rfl rfl (fun v W' hF => ?_)
    obtain ⟨rfl, rfl⟩ := hF
    refine Go.nov ?_
    exact Go.retV d6_108 rfl (by decide) (by decide) ⟨rfl, _, _, _, _, _, _, _, _, _, by cases hE; rfl⟩
/-! ## the plain law -/
def Mp {α : Type} (n : Int32) (xs : List α) (P : Int32 → α) : Prop := ∀ i, ¬ i < 0 → i < n → rdA xs i = some (P i)
def pt {α : Type} (P : Int32 → α) (i : Int32) (x : α) : Int32 → α := fun u => if u = i then x else P u
theorem pt_same {α : Type} (P : Int32 → α) (i : Int32) (x : α) : pt P i x i = x := if_pos rfl
theorem pt_other {α : Type} (P : Int32 → α) {i u : Int32} (x : α) (h : ¬ u = i) : pt P i x u = P u := if_neg h
theorem own_nat_inj {i j : Int32} (hi : ¬ i < 0) (hj : ¬ j < 0) (e : i.toNatClampNeg = j.toNatClampNeg) : i = j := by
  have h0 : (0 : Int32).toInt = 0 := rfl
  rw [Int32.lt_iff_toInt_lt] at hi hj
  apply Int32.toInt_inj.mp
  have e1 : i.toInt.toNat = j.toInt.toNat := e
  omega
theorem Mp.wr {α : Type} {n : Int32} {xs : List α} {P : Int32 → α} {i : Int32} (M : Mp n xs P) (h0 : ¬ i < 0) (h1 : i < n) (x : α) : ∃ ys, wrA xs i x = some ys ∧ Mp n ys (pt P i x) ∧ ys.length = xs.length := by
  have hlt := (List.getElem?_eq_some_iff.mp (rdA_some (M i h0 h1)).2).1
  refine ⟨xs.set i.toNatClampNeg x, by rw [wrA, if_neg h0, if_pos hlt], fun j hj hn => ?_, by simp⟩
  rw [rdA, if_neg hj, pt]
  by_cases q : j = i
  · subst q; rw [if_pos rfl, List.getElem?_set_self hlt]
  · rw [if_neg q, List.getElem?_set_ne (fun e => q (own_nat_inj hj h0 e.symm)), (rdA_some (M j hj hn)).2]
theorem own_nat {i n : Int32} (h0 : ¬ i < 0) (h : i < n) : i.toNatClampNeg < n.toNatClampNeg := by
  have e0 : (0 : Int32).toInt = 0 := rfl
  rw [Int32.lt_iff_toInt_lt] at *
  show i.toInt.toNat < n.toInt.toNat
  omega
theorem Mp.rep {α : Type} {n : Int32} {v : α} {k : Nat} (hk : n.toNatClampNeg = k) : Mp n (List.replicate k v) (fun _ => v) := fun i h0 h1 => by
  rw [rdA, if_neg h0, List.getElem?_replicate, if_pos (by rw [← hk]; exact own_nat h0 h1)]
/-! the table: 28 places -/
def In28 (i : Int32) : Prop := ¬ i < 0 ∧ i < 28
theorem own_aft {i : Int32} (h : In28 i) : In28 (aft 28 i) ∧ (aft 28 i).toInt = (if i.toInt = 27 then 0 else i.toInt + 1) := by
  obtain ⟨h0, h1⟩ := h
  have e0 : (0 : Int32).toInt = 0 := rfl
  have e1 : (1 : Int32).toInt = 1 := rfl
  have e28 : (28 : Int32).toInt = 28 := rfl
  rw [Int32.lt_iff_toInt_lt] at h0 h1
  have ea : (i + 1).toInt = i.toInt + 1 := by rw [Int32.toInt_add, e1, Int.bmod_eq_of_le] <;> omega
  unfold aft In28
  by_cases q : i + 1 = 28
  · have q' : (i + 1).toInt = 28 := by rw [q]; rfl
    rw [if_pos q, if_pos (by omega)]
    exact ⟨⟨by decide, by decide⟩, rfl⟩
  · have q' : ¬ i.toInt = 27 := fun e => q (Int32.toInt_inj.mp (by rw [ea, e]; rfl))
    rw [if_neg q, if_neg q', ea]
    refine ⟨⟨?_, ?_⟩, rfl⟩
    · rw [Int32.lt_iff_toInt_lt]; omega
    · rw [Int32.lt_iff_toInt_lt]; omega
theorem own_in28 {i : Int32} (h : In28 i) : 0 ≤ i.toInt ∧ i.toInt < 28 := by
  obtain ⟨h0, h1⟩ := h
  have e0 : (0 : Int32).toInt = 0 := rfl
  have e28 : (28 : Int32).toInt = 28 := rfl
  rw [Int32.lt_iff_toInt_lt] at h0 h1
  omega
theorem own_ne {i j : Int32} (h : ¬ i.toInt = j.toInt) : ¬ i = j := fun e => h (by rw [e])
theorem own_ushr32 (x : Int64) : (XT.ushrL x 32).toBitVec = x.toBitVec >>> 32 := by rfl
theorem own_bk (q : Int32) (o : Int64) : In28 (bkF 28 q o) := by
  unfold bkF
  generalize ((o * (-7046029254386353131)) ^^^ q.toInt64) * (-4658895280553007687) = X
  have h1 : (XT.ushrL X 32).toBitVec.toNat < 2 ^ 32 := by
    rw [own_ushr32, BitVec.toNat_ushiftRight, Nat.shiftRight_eq_div_pow]
    have := X.toBitVec.isLt
    omega
  have h2 : ((XT.ushrL X 32) * (28 : Int32).toInt64).toBitVec.toNat = (XT.ushrL X 32).toBitVec.toNat * 28 := by
    rw [Int64.toBitVec_mul, BitVec.toNat_mul]
    show ((XT.ushrL X 32).toBitVec.toNat * 28) % 2 ^ 64 = _
    exact Nat.mod_eq_of_lt (by omega)
  have h3 : (XT.ushrL ((XT.ushrL X 32) * (28 : Int32).toInt64) 32).toBitVec.toNat < 28 := by
    rw [own_ushr32, BitVec.toNat_ushiftRight, Nat.shiftRight_eq_div_pow, h2]
    omega
  generalize XT.ushrL ((XT.ushrL X 32) * (28 : Int32).toInt64) 32 = Y at h3
  have h4 : Y.toInt32.toBitVec.toNat = Y.toBitVec.toNat := by
    show (Y.toBitVec.signExtend 32).toNat = _
    rw [BitVec.signExtend_eq_setWidth_of_le _ (by decide), BitVec.toNat_setWidth]
    exact Nat.mod_eq_of_lt (by omega)
  have h5 : Y.toInt32.toInt = (Y.toInt32.toBitVec.toNat : Int) := by
    show Y.toInt32.toBitVec.toInt = _
    rw [BitVec.toInt_eq_toNat_cond, if_pos (by omega)]
  have e0 : (0 : Int32).toInt = 0 := rfl
  have e28 : (28 : Int32).toInt = 28 := rfl
  constructor
  · rw [Int32.lt_iff_toInt_lt]; omega
  · rw [Int32.lt_iff_toInt_lt]; omega
section Table
variable {q : Int32} {qs tb : List Int32} {os : List Int64} {o : Int64} {T : Int32 → Int32} {f : Nat} {i x : Int32}
theorem link_here (M : Mp 28 tb T) (hi : In28 i) (h0 : T i = 0) : ∃ tb', linkL tb x (f + 1) i = some tb' ∧ Mp 28 tb' (pt T i (x + 1)) ∧ tb'.length = tb.length := by
  obtain ⟨ys, h1, h2, h3⟩ := M.wr hi.1 hi.2 (x + 1)
  exact ⟨ys, by rw [linkL, M i hi.1 hi.2, Option.bind_some, if_pos h0]; exact h1, h2, h3⟩
theorem link_next (M : Mp 28 tb T) (hl : tb.length.toInt32 = 28) (hi : In28 i) (h0 : ¬ T i = 0) : linkL tb x (f + 1) i = linkL tb x f (aft 28 i) := by
  rw [linkL, M i hi.1 hi.2, Option.bind_some, if_neg h0, hl]
theorem slot_stop (M : Mp 28 tb T) (hi : In28 i) (h0 : T i = 0) : slotL q o qs os tb (f + 1) i (-1) = some (-1) := by
  rw [slotL, if_pos (by decide), M i hi.1 hi.2, Option.bind_some, if_pos h0]
theorem slot_skip {w : Int64} (M : Mp 28 tb T) (hl : tb.length.toInt32 = 28) (hi : In28 i) (h0 : ¬ T i = 0) (hq : rdA qs (T i - 1) = some q) (hw : rdA os (T i - 1) = some w) (hne : ¬ w = o) : slotL q o qs os tb (f + 1) i (-1) = slotL q o qs os tb f (aft 28 i) (-1) := by
  rw [slotL, if_pos (by decide), M i hi.1 hi.2, Option.bind_some, if_neg h0, hq, Option.bind_some, if_pos rfl, hw, Option.bind_some, if_neg hne, Option.bind_some, hl]
theorem slot_hit (M : Mp 28 tb T) (hl : tb.length.toInt32 = 28) (hi : In28 i) (h0 : ¬ T i = 0) (hq : rdA qs (T i - 1) = some q) (hw : rdA os (T i - 1) = some o) (hp : ¬ T i - 1 < 0) : slotL q o qs os tb (f + 2) i (-1) = some (T i - 1) := by
  rw [slotL, if_pos (by decide), M i hi.1 hi.2, Option.bind_some, if_neg h0, hq, Option.bind_some, if_pos rfl, hw, Option.bind_some, if_pos rfl, Option.bind_some, slotL, if_neg hp]
theorem own_three (hi : In28 i) : In28 (aft 28 i) ∧ In28 (aft 28 (aft 28 i)) ∧ ¬ aft 28 i = i ∧ ¬ aft 28 (aft 28 i) = i ∧ ¬ aft 28 (aft 28 i) = aft 28 i := by
  obtain ⟨h1, e1⟩ := own_aft hi
  obtain ⟨h2, e2⟩ := own_aft h1
  have := own_in28 hi
  refine ⟨h1, h2, own_ne ?_, own_ne ?_, own_ne ?_⟩
  · rw [e1]; split <;> omega
  · rw [e2, e1]; split <;> split <;> omega
  · rw [e2, e1]; split <;> split <;> omega
/-- at most two places are taken, by other offsets: nothing is found -/
theorem slot_miss {a b : Int32} {wa wb : Int64} (M : Mp 28 tb T) (hl : tb.length.toInt32 = 28) (hocc : ∀ j, In28 j → ¬ T j = 0 → j = a ∨ j = b) (ha : rdA qs (T a - 1) = some q ∧ rdA os (T a - 1) = some wa ∧ ¬ wa = o) (hb : rdA qs (T b - 1) = some q ∧ rdA os (T b - 1) = some wb ∧ ¬ wb = o) (hi : In28 i) : slotL q o qs os tb (f + 3) i (-1) = some (-1) := by
  obtain ⟨h1, h2, n1, n2, n3⟩ := own_three hi
  have skip : ∀ {g : Nat} {j : Int32}, In28 j → ¬ T j = 0 → slotL q o qs os tb (g + 1) j (-1) = slotL q o qs os tb g (aft 28 j) (-1) := fun {g j} hj h0 => by
    rcases hocc j hj h0 with rfl | rfl
    · exact slot_skip M hl hj h0 ha.1 ha.2.1 ha.2.2
    · exact slot_skip M hl hj h0 hb.1 hb.2.1 hb.2.2
  by_cases z0 : T i = 0
  · exact slot_stop M hi z0
  rw [skip hi z0]
  by_cases z1 : T (aft 28 i) = 0
  · exact slot_stop M h1 z1
  rw [skip h1 z1]
  by_cases z2 : T (aft 28 (aft 28 i)) = 0
  · exact slot_stop M h2 z2
  exfalso
  rcases hocc _ hi z0 with e0 | e0 <;> rcases hocc _ h1 z1 with e1 | e1 <;> rcases hocc _ h2 z2 with e2 | e2
  all_goals first | exact n1 (e1.trans e0.symm) | exact n2 (e2.trans e0.symm) | exact n3 (e2.trans e1.symm)
theorem link_two {a b : Int32} (M : Mp 28 tb T) (hl : tb.length.toInt32 = 28) (hocc : ∀ j, In28 j → ¬ T j = 0 → j = a ∨ j = b) (hi : In28 i) : ∃ p tb', In28 p ∧ T p = 0 ∧ linkL tb x (f + 3) i = some tb' ∧ Mp 28 tb' (pt T p (x + 1)) ∧ tb'.length = tb.length := by
  obtain ⟨h1, h2, n1, n2, n3⟩ := own_three hi
  by_cases z0 : T i = 0
  · obtain ⟨tb', e1, e2, e3⟩ := link_here (x := x) (f := f + 2) M hi z0; exact ⟨i, tb', hi, z0, e1, e2, e3⟩
  rw [link_next M hl hi z0]
  by_cases z1 : T (aft 28 i) = 0
  · obtain ⟨tb', e1, e2, e3⟩ := link_here (x := x) (f := f + 1) M h1 z1; exact ⟨_, tb', h1, z1, e1, e2, e3⟩
  rw [link_next M hl h1 z1]
  by_cases z2 : T (aft 28 (aft 28 i)) = 0
  · obtain ⟨tb', e1, e2, e3⟩ := link_here (x := x) (f := f) M h2 z2; exact ⟨_, tb', h2, z2, e1, e2, e3⟩
  exfalso
  rcases hocc _ hi z0 with e0 | e0 <;> rcases hocc _ h1 z1 with e1 | e1 <;> rcases hocc _ h2 z2 with e2 | e2
  all_goals first | exact n1 (e1.trans e0.symm) | exact n2 (e2.trans e0.symm) | exact n3 (e2.trans e1.symm)
end Table
/-! taking an entry out: it comes to an end -/
theorem unl_stop {qs : List Int32} {os : List Int64} {tb : List Int32} {T : Int32 → Int32} {f : Nat} {g i : Int32} (M : Mp 28 tb T) (hg : In28 g) (hi : In28 i) (h0 : T i = 0) : ∃ tb', unl2 qs os (f + 1) tb g i = some tb' := by
  obtain ⟨ys, h1, -, -⟩ := M.wr hg.1 hg.2 0
  exact ⟨ys, by rw [unl2, M i hi.1 hi.2, Option.bind_some, if_pos h0]; exact h1⟩
theorem unl_step {qs : List Int32} {os : List Int64} {tb : List Int32} {T : Int32 → Int32} {f : Nat} {g i q : Int32} {o : Int64} (M : Mp 28 tb T) (hl : tb.length.toInt32 = 28) (hg : In28 g) (hi : In28 i) (h0 : ¬ T i = 0) (hq : rdA qs (T i - 1) = some q) (ho : rdA os (T i - 1) = some o)
    (k1 : ∃ tb', unl2 qs os f tb g (aft 28 i) = some tb') (k2 : ∀ tb2, Mp 28 tb2 (pt T g (T i)) → tb2.length.toInt32 = 28 → ∃ tb', unl2 qs os f tb2 i (aft 28 i) = some tb') : ∃ tb', unl2 qs os (f + 1) tb g i = some tb' := by
  obtain ⟨ys, h1, h2, h3⟩ := M.wr hg.1 hg.2 (T i)
  rw [unl2, M i hi.1 hi.2, Option.bind_some, if_neg h0, hq, Option.bind_some, ho, Option.bind_some, hl]
  split
  · exact k1
  · rw [h1, Option.bind_some, h3, hl]
    exact k2 ys h2 (by rw [h3]; exact hl)
/-- at most two taken places beside the gap: within three steps an empty one is met -/
theorem unl_all {qs : List Int32} {os : List Int64} {tb : List Int32} {T : Int32 → Int32} {f : Nat} {g a b : Int32} (M : Mp 28 tb T) (hl : tb.length.toInt32 = 28) (hg : In28 g) (hocc : ∀ j, In28 j → ¬ j = g → ¬ T j = 0 → j = a ∨ j = b) (hr : ∀ j, In28 j → ¬ T j = 0 → (∃ q, rdA qs (T j - 1) = some q) ∧ ∃ o, rdA os (T j - 1) = some o) : ∃ tb', unl2 qs os (f + 3) tb g (aft 28 g) = some tb' := by
  obtain ⟨h1, e1⟩ := own_aft hg
  obtain ⟨h2, e2⟩ := own_aft h1
  obtain ⟨h3, e3⟩ := own_aft h2
  have hgi := own_in28 hg
  have n1 : ¬ aft 28 g = g := own_ne (by rw [e1]; split <;> omega)
  have n2 : ¬ aft 28 (aft 28 g) = g := own_ne (by rw [e2, e1]; split <;> split <;> omega)
  have n3 : ¬ aft 28 (aft 28 (aft 28 g)) = g := own_ne (by rw [e3, e2, e1]; split <;> split <;> (try split) <;> omega)
  have m1 : ¬ aft 28 (aft 28 g) = aft 28 g := (own_three h1).2.2.1
  have m2 : ¬ aft 28 (aft 28 (aft 28 g)) = aft 28 g := (own_three h1).2.2.2.1
  have m3 : ¬ aft 28 (aft 28 (aft 28 g)) = aft 28 (aft 28 g) := (own_three h1).2.2.2.2
  by_cases z1 : T (aft 28 g) = 0
  · exact unl_stop M hg h1 z1
  obtain ⟨⟨q1, r1⟩, o1, s1⟩ := hr _ h1 z1
  refine unl_step M hl hg h1 z1 r1 s1 ?_ ?_
  · by_cases z2 : T (aft 28 (aft 28 g)) = 0
    · exact unl_stop M hg h2 z2
    obtain ⟨⟨q2, r2⟩, o2, s2⟩ := hr _ h2 z2
    have z3 : T (aft 28 (aft 28 (aft 28 g))) = 0 := Classical.byContradiction fun z3 => by
      rcases hocc _ h1 n1 z1 with e | e <;> rcases hocc _ h2 n2 z2 with e' | e' <;> rcases hocc _ h3 n3 z3 with e'' | e''
      all_goals first | exact m1 (e'.trans e.symm) | exact m2 (e''.trans e.symm) | exact m3 (e''.trans e'.symm)
    exact unl_step M hl hg h2 z2 r2 s2 (unl_stop M hg h3 z3) (fun tb2 M2 l2 => unl_stop M2 h2 h3 (by rw [pt_other _ _ n3]; exact z3))
  · intro tb2 M2 l2
    have p2 : pt T g (T (aft 28 g)) (aft 28 (aft 28 g)) = T (aft 28 (aft 28 g)) := pt_other _ _ n2
    have p3 : pt T g (T (aft 28 g)) (aft 28 (aft 28 (aft 28 g))) = T (aft 28 (aft 28 (aft 28 g))) := pt_other _ _ n3
    by_cases z2 : T (aft 28 (aft 28 g)) = 0
    · exact unl_stop M2 h1 h2 (p2.trans z2)
    obtain ⟨⟨q2, r2⟩, o2, s2⟩ := hr _ h2 z2
    have z3 : T (aft 28 (aft 28 (aft 28 g))) = 0 := Classical.byContradiction fun z3 => by
      rcases hocc _ h1 n1 z1 with e | e <;> rcases hocc _ h2 n2 z2 with e' | e' <;> rcases hocc _ h3 n3 z3 with e'' | e''
      all_goals first | exact m1 (e'.trans e.symm) | exact m2 (e''.trans e.symm) | exact m3 (e''.trans e'.symm)
    exact unl_step M2 l2 h1 h2 (by rw [p2]; exact z2) (by rw [p2]; exact r2) (by rw [p2]; exact s2) (unl_stop M2 h1 h3 (p3.trans z3)) (fun tb3 M3 l3 => unl_stop M3 h2 h3 (by rw [pt_other _ _ m2]; exact p3.trans z3))
/-! the three stages of the table -/
def Tb2 (q : Int32) (tb : List Int32) : Prop := tb.length.toInt32 = 28 ∧ ∃ (T : Int32 → Int32) (p1 : Int32), Mp 28 tb T ∧ In28 p1 ∧ ¬ p1 = bkF 28 q 0 ∧ T (bkF 28 q 0) = 1 ∧ T p1 = 2 ∧ (∀ j, In28 j → ¬ T j = 0 → j = bkF 28 q 0 ∨ j = p1) ∧ (p1 = bkF 28 q 1 ∨ (bkF 28 q 1 = bkF 28 q 0 ∧ p1 = aft 28 (bkF 28 q 0)))
def TbX (q : Int32) (tb : List Int32) : Prop := tb.length.toInt32 = 28 ∧ ∃ (T : Int32 → Int32) (p1 p2 : Int32), Mp 28 tb T ∧ In28 p1 ∧ ¬ p1 = bkF 28 q 0 ∧ T (bkF 28 q 0) = 1 ∧ T p1 = 2 ∧ (∀ j, In28 j → ¬ T j = 0 → j = bkF 28 q 0 ∨ j = p1 ∨ j = p2) ∧ (∀ j, In28 j → T j = 0 ∨ T j = 1 ∨ T j = 2 ∨ T j = 3) ∧ (p1 = bkF 28 q 1 ∨ (bkF 28 q 1 = bkF 28 q 0 ∧ p1 = aft 28 (bkF 28 q 0)))
theorem rd_q (a b c : Int32) : rdA (t3 a b c) (1 - 1) = some a ∧ rdA (t3 a b c) (2 - 1) = some b ∧ rdA (t3 a b c) (3 - 1) = some c := ⟨rfl, rfl, rfl⟩
theorem rd_o (a b c : Int64) : rdA (u3 a b c) (1 - 1) = some a ∧ rdA (u3 a b c) (2 - 1) = some b ∧ rdA (u3 a b c) (3 - 1) = some c := ⟨rfl, rfl, rfl⟩
theorem tab1 (q : Int32) : ∃ tb, linkF (t3 q 0 0) (u3 0 0 0) (List.replicate 28 0) 0 = some tb ∧ Mp 28 tb (pt (fun _ => 0) (bkF 28 q 0) (0 + 1)) ∧ tb.length = 28 := by
  obtain ⟨tb, h1, h2, h3⟩ := link_here (x := 0) (f := 7) (Mp.rep (n := 28) (v := (0 : Int32)) (k := 28) (by decide)) (own_bk q 0) rfl
  refine ⟨tb, ?_, h2, by rw [h3]; simp⟩
  show (rdA (t3 q 0 0) 0).bind _ = _
  rw [show rdA (t3 q 0 0) 0 = some q from rfl, Option.bind_some, show rdA (u3 0 0 0) 0 = some 0 from rfl, Option.bind_some, show (List.replicate 28 (0 : Int32)).length.toInt32 = 28 by decide]
  exact h1
theorem len28 {tb : List Int32} (h : tb.length = 28) : tb.length.toInt32 = 28 := by rw [h]; rfl
theorem slotF_28 {q : Int32} {o : Int64} {qs : List Int32} {os : List Int64} {tb : List Int32} (hl : tb.length.toInt32 = 28) : slotF q o qs os tb = slotL q o qs os tb 8 (bkF 28 q o) (-1) := by
  rw [slotF, hl, if_pos (by decide)]
theorem tab1_miss {q : Int32} {tb : List Int32} (M : Mp 28 tb (pt (fun _ => 0) (bkF 28 q 0) (0 + 1))) (hl : tb.length = 28) : slotF q 1 (t3 q 0 0) (u3 0 0 0) tb = some (-1) := by
  rw [slotF_28 (len28 hl)]
  have e : pt (fun _ => 0) (bkF 28 q 0) (0 + 1) (bkF 28 q 0) = (1 : Int32) := pt_same _ _ _
  refine slot_miss (f := 5) (a := bkF 28 q 0) (b := bkF 28 q 0) (wa := 0) (wb := 0) M (len28 hl) (fun j _ h => Or.inl (Classical.byContradiction fun q => h (pt_other _ _ q))) ?_ ?_ (own_bk q 1)
  all_goals (rw [e]; exact ⟨(rd_q _ _ _).1, (rd_o _ _ _).1, by decide⟩)
theorem tab2 {q : Int32} {tb : List Int32} (M : Mp 28 tb (pt (fun _ => 0) (bkF 28 q 0) (0 + 1))) (hl : tb.length = 28) : ∃ tb', linkF (t3 q q 0) (u3 0 1 0) tb 1 = some tb' ∧ Tb2 q tb' := by
  have e0 : pt (fun _ => 0) (bkF 28 q 0) (0 + 1) (bkF 28 q 0) = (1 : Int32) := pt_same _ _ _
  have key : ∀ p tb', In28 p → ¬ p = bkF 28 q 0 → Mp 28 tb' (pt (pt (fun _ => 0) (bkF 28 q 0) (0 + 1)) p (1 + 1)) → tb'.length = tb.length → (p = bkF 28 q 1 ∨ (bkF 28 q 1 = bkF 28 q 0 ∧ p = aft 28 (bkF 28 q 0))) → Tb2 q tb' := fun p tb' hp hne M' hl' hw =>
    ⟨len28 (hl'.trans hl), _, p, M', hp, hne, (pt_other _ _ (fun e => hne e.symm)).trans e0, pt_same _ _ _, fun j hj h => by
      by_cases e : j = p
      · exact Or.inr e
      · refine Or.inl (Classical.byContradiction fun e' => h ?_)
        rw [pt_other _ _ e, pt_other _ _ e'], hw⟩
  have eF : linkF (t3 q q 0) (u3 0 1 0) tb 1 = linkL tb 1 8 (bkF 28 q 1) := by
    show (rdA (t3 q q 0) 1).bind _ = _
    rw [show rdA (t3 q q 0) 1 = some q from rfl, Option.bind_some, show rdA (u3 0 1 0) 1 = some 1 from rfl, Option.bind_some, len28 hl]
  rw [eF]
  by_cases hb : bkF 28 q 1 = bkF 28 q 0
  · have h1 := own_three (own_bk q 0)
    rw [hb, link_next M (len28 hl) (own_bk q 0) (by rw [e0]; decide)]
    obtain ⟨tb', r1, r2, r3⟩ := link_here (x := 1) (f := 6) M h1.1 (pt_other _ _ h1.2.2.1)
    exact ⟨tb', r1, key _ tb' h1.1 h1.2.2.1 r2 r3 (Or.inr ⟨hb, rfl⟩)⟩
  · obtain ⟨tb', r1, r2, r3⟩ := link_here (x := 1) (f := 7) M (own_bk q 1) (pt_other _ _ hb)
    exact ⟨tb', r1, key _ tb' (own_bk q 1) hb r2 r3 (Or.inl rfl)⟩
theorem tb2_find0 {q z : Int32} {w : Int64} {tb : List Int32} (h : Tb2 q tb) : slotF q 0 (t3 q q z) (u3 0 1 w) tb = some 0 := by
  obtain ⟨hl, T, p1, M, hp, hne, t0, t1, -, -⟩ := h
  rw [slotF_28 hl, slot_hit (f := 6) M hl (own_bk q 0) (by rw [t0]; decide) (by rw [t0]; exact (rd_q _ _ _).1) (by rw [t0]; exact (rd_o _ _ _).1) (by rw [t0]; decide), t0]
  rfl
theorem tb2_miss {q : Int32} {tb : List Int32} (h : Tb2 q tb) : slotF q 2 (t3 q q 0) (u3 0 1 0) tb = some (-1) := by
  obtain ⟨hl, T, p1, M, hp, hne, t0, t1, hocc, -⟩ := h
  rw [slotF_28 hl]
  refine slot_miss (f := 5) (a := bkF 28 q 0) (b := p1) (wa := 0) (wb := 1) M hl hocc ?_ ?_ (own_bk q 2)
  · rw [t0]; exact ⟨(rd_q _ _ _).1, (rd_o _ _ _).1, by decide⟩
  · rw [t1]; exact ⟨(rd_q _ _ _).2.1, (rd_o _ _ _).2.1, by decide⟩
theorem tb2_link {q : Int32} {tb : List Int32} (h : Tb2 q tb) : ∃ tb', linkF (t3 q q q) (u3 0 1 2) tb 2 = some tb' ∧ TbX q tb' := by
  obtain ⟨hl, T, p1, M, hp, hne, t0, t1, hocc, hw⟩ := h
  obtain ⟨p2, tb', k1, k2, k3, k4, k5⟩ := link_two (x := 2) (f := 5) M hl hocc (own_bk q 2)
  have n0 : ¬ bkF 28 q 0 = p2 := fun e => by rw [← e, t0] at k2; exact absurd k2 (by decide)
  have n1 : ¬ p1 = p2 := fun e => by rw [← e, t1] at k2; exact absurd k2 (by decide)
  refine ⟨tb', ?_, by rw [k5]; exact hl, _, p1, p2, k4, hp, hne, (pt_other _ _ n0).trans t0, (pt_other _ _ n1).trans t1, fun j hj hz => ?_, fun j hj => ?_, hw⟩
  · show (rdA (t3 q q q) 2).bind _ = _
    rw [show rdA (t3 q q q) 2 = some q from rfl, Option.bind_some, show rdA (u3 0 1 2) 2 = some 2 from rfl, Option.bind_some, hl]
    exact k3
  · by_cases e : j = p2
    · exact Or.inr (Or.inr e)
    · rw [pt_other _ _ e] at hz
      exact (hocc j hj hz).elim Or.inl (fun e => Or.inr (Or.inl e))
  · by_cases e : j = p2
    · rw [e, pt_same]; exact Or.inr (Or.inr (Or.inr rfl))
    · rw [pt_other _ _ e]
      by_cases hz : T j = 0
      · exact Or.inl hz
      · rcases hocc j hj hz with rfl | rfl
        · exact Or.inr (Or.inl t0)
        · exact Or.inr (Or.inr (Or.inl t1))
theorem Tb2.x {q : Int32} {tb : List Int32} (h : Tb2 q tb) : TbX q tb := by
  obtain ⟨hl, T, p1, M, hp, hne, t0, t1, hocc, hw⟩ := h
  refine ⟨hl, T, p1, p1, M, hp, hne, t0, t1, fun j hj hz => (hocc j hj hz).elim Or.inl (fun e => Or.inr (Or.inl e)), fun j hj => ?_, hw⟩
  by_cases hz : T j = 0
  · exact Or.inl hz
  · rcases hocc j hj hz with rfl | rfl
    · exact Or.inr (Or.inl t0)
    · exact Or.inr (Or.inr (Or.inl t1))
theorem tbx_find1 {q z : Int32} {w : Int64} {tb : List Int32} (h : TbX q tb) : slotF q 1 (t3 q q z) (u3 0 1 w) tb = some 1 := by
  obtain ⟨hl, T, p1, p2, M, hp, hne, t0, t1, -, -, hw⟩ := h
  rw [slotF_28 hl]
  have hit : ∀ f, slotL q 1 (t3 q q z) (u3 0 1 w) tb (f + 2) p1 (-1) = some 1 := fun f => by
    rw [slot_hit M hl hp (by rw [t1]; decide) (by rw [t1]; exact (rd_q _ _ _).2.1) (by rw [t1]; exact (rd_o _ _ _).2.1) (by rw [t1]; decide), t1]; rfl
  rcases hw with e | ⟨e1, e2⟩
  · rw [← e]; exact hit 6
  · rw [e1, slot_skip (w := 0) M hl (own_bk q 0) (by rw [t0]; decide) (by rw [t0]; exact (rd_q _ _ _).1) (by rw [t0]; exact (rd_o _ _ _).1) (by decide), ← e2]
    exact hit 5
theorem tbx_unl {q z : Int32} {w : Int64} {tb : List Int32} (h : TbX q tb) : ∃ tb', unlF (t3 q q z) (u3 0 1 w) tb 1 = some tb' := by
  obtain ⟨hl, T, p1, p2, M, hp, hne, t0, t1, hocc, hv, hw⟩ := h
  have u1 : unl1 tb 1 8 (bkF 28 q 1) = some p1 := by
    rcases hw with e | ⟨e1, e2⟩
    · rw [← e, unl1, M p1 hp.1 hp.2, Option.bind_some, t1, if_pos (by decide)]
    · rw [e1, unl1, M _ (own_bk q 0).1 (own_bk q 0).2, Option.bind_some, t0, if_neg (by decide), hl, ← e2, unl1, M p1 hp.1 hp.2, Option.bind_some, t1, if_pos (by decide)]
  obtain ⟨tb', k⟩ := unl_all (qs := t3 q q z) (os := u3 0 1 w) (f := 5) (g := p1) (a := bkF 28 q 0) (b := p2) M hl hp (fun j hj hn hz => (hocc j hj hz).elim Or.inl (fun e => e.elim (fun e => absurd e hn) Or.inr)) (fun j hj hz => by
    rcases hv j hj with e | e | e | e
    · exact absurd e hz
    · rw [e]; exact ⟨⟨_, (rd_q _ _ _).1⟩, _, (rd_o _ _ _).1⟩
    · rw [e]; exact ⟨⟨_, (rd_q _ _ _).2.1⟩, _, (rd_o _ _ _).2.1⟩
    · rw [e]; exact ⟨⟨_, (rd_q _ _ _).2.2⟩, _, (rd_o _ _ _).2.2⟩)
  refine ⟨tb', ?_⟩
  show (rdA (t3 q q z) 1).bind _ = _
  rw [show rdA (t3 q q z) 1 = some q from rfl, Option.bind_some, show rdA (u3 0 1 w) 1 = some 1 from rfl, Option.bind_some, hl, u1, Option.bind_some]
  exact k
/-! the heaps: at most three slots -/
def Sl (x : Int32) : Prop := ¬ x < 0 ∧ x < 12
def AtH (Q P : Int32 → Int32) : Int32 → List Int32 → Prop
  | _, [] => True
  | i, x :: r => Q i = x ∧ P x = i ∧ AtH Q P (i + 1) r
theorem pl_ok {R hp : List Int32} {Q P : Int32 → Int32} {i x : Int32} (MR : Mp 12 R Q) (MP : Mp 12 hp P) (hi : Sl i) (hx : Sl x) : ∃ R' hp', plF R hp i x = some (R', hp') ∧ Mp 12 R' (pt Q i x) ∧ Mp 12 hp' (pt P x i) := by
  obtain ⟨R', h1, h2, -⟩ := MR.wr hi.1 hi.2 x
  obtain ⟨hp', k1, k2, -⟩ := MP.wr hx.1 hx.2 i
  exact ⟨R', hp', by rw [plF, h1, Option.bind_some, k1, Option.bind_some], h2, k2⟩
section Heap
variable {cmp : Int32 → Int32 → Option Int32} {R hp R' hp' : List Int32} {f : Nat} {i x u c : Int32}
theorem up_root : upL cmp (f + 1) R hp 0 x = plF R hp 0 x := by rw [upL, if_neg (by decide)]
theorem up_stay (h0 : 0 < i) (hu : rdA R ((i - 1) / 2) = some u) (hc : cmp x u = some c) (h : ¬ c < 0) : upL cmp (f + 1) R hp i x = plF R hp i x := by rw [upL, if_pos h0, hu, Option.bind_some, hc, Option.bind_some, if_neg h]
theorem up_swap (h0 : 0 < i) (hu : rdA R ((i - 1) / 2) = some u) (hc : cmp x u = some c) (h : c < 0) (hp1 : plF R hp i u = some (R', hp')) : upL cmp (f + 1) R hp i x = upL cmp f R' hp' ((i - 1) / 2) x := by rw [upL, if_pos h0, hu, Option.bind_some, hc, Option.bind_some, if_pos h, hp1, Option.bind_some]
theorem dn_end {sz : Int32} (h : ¬ 2 * i + 1 < sz) : dnL cmp sz (f + 1) R hp i x 1 = plF R hp i x := by rw [dnL, if_neg (by decide), if_neg h]
end Heap
def insH (K : Int32 → Int32 → Int32) (x : Int32) : List Int32 → List Int32
  | [] => [x]
  | [a] => if K x a < 0 then [x, a] else [a, x]
  | [a, b] => if K x a < 0 then [x, b, a] else [a, b, x]
  | M => M
def delH (K : Int32 → Int32 → Int32) (x : Int32) : List Int32 → List Int32
  | [a, b] => if x = a then [b] else [a]
  | [a, b, c] => if x = a then (if K b c < 0 then [b, c] else [c, b]) else if x = b then [a, c] else [a, b]
  | _ => []
theorem sl0 : Sl 0 := ⟨by decide, by decide⟩
theorem sl1 : Sl 1 := ⟨by decide, by decide⟩
theorem sl2 : Sl 2 := ⟨by decide, by decide⟩
theorem add_ok {cmp : Int32 → Int32 → Option Int32} {K : Int32 → Int32 → Int32} {Lv : Int32 → Prop} {R hp M : List Int32} {Q P : Int32 → Int32} {x : Int32} (hL : ∀ y, Lv y → Sl y) (hK : ∀ y z, Lv y → Lv z → cmp y z = some (K y z)) (MR : Mp 12 R Q) (MP : Mp 12 hp P) (hA : AtH Q P 0 M) (hM : ∀ y ∈ M, Lv y ∧ ¬ y = x) (hN : M.Nodup) (h2 : M.length ≤ 2) (hx : Lv x) :
    ∃ R' hp' Q' P', addH cmp R hp M.length.toInt32 x = some (R', hp') ∧ Mp 12 R' Q' ∧ Mp 12 hp' P' ∧ AtH Q' P' 0 (insH K x M) ∧ ∀ y, ¬ y = x → y ∉ M → P' y = P y := by
  match M, hA, hM, hN, h2 with
  | [], hA, hM, hN, h2 =>
    obtain ⟨R1, p1, e1, m1, n1⟩ := pl_ok MR MP sl0 (hL x hx)
    obtain ⟨R2, p2, e2, m2, n2⟩ := pl_ok m1 n1 sl0 (hL x hx)
    refine ⟨R2, p2, _, _, ?_, m2, n2, ⟨pt_same _ _ _, pt_same _ _ _, trivial⟩, fun y hy _ => by rw [pt_other _ _ hy, pt_other _ _ hy]⟩
    rw [addH, show ([] : List Int32).length.toInt32 = 0 by decide, e1, Option.bind_some, upF, show (0 : Int32) + 1 - 1 = 0 by decide, m1 0 sl0.1 sl0.2, Option.bind_some, pt_same, up_root]; exact e2
  | [a], ⟨qa, pa, _⟩, hM, hN, h2 =>
    obtain ⟨la, na⟩ := hM a (List.mem_cons_self ..)
    obtain ⟨R1, p1, e1, m1, n1⟩ := pl_ok MR MP sl1 (hL x hx)
    have u1 : rdA R1 ((1 - 1) / 2) = some a := (m1 0 sl0.1 sl0.2).trans (congrArg some ((pt_other _ _ (by decide)).trans qa))
    have s1 : rdA R1 1 = some x := (m1 1 sl1.1 sl1.2).trans (congrArg some (pt_same _ _ _))
    have st : addH cmp R hp [a].length.toInt32 x = upL cmp 4 R1 p1 1 x := by
      rw [addH, show [a].length.toInt32 = 1 from (by decide : Nat.toInt32 1 = 1), e1, Option.bind_some, upF, show (1 : Int32) + 1 - 1 = 1 by decide, s1, Option.bind_some]
    by_cases k : K x a < 0
    · obtain ⟨R2, p2, e2, m2, n2⟩ := pl_ok m1 n1 sl1 (hL a la)
      obtain ⟨R3, p3, e3, m3, n3⟩ := pl_ok m2 n2 sl0 (hL x hx)
      refine ⟨R3, p3, _, _, ?_, m3, n3, ?_, fun y hy hm => ?_⟩
      · rw [st, up_swap (by decide) u1 (hK x a hx la) k e2]; exact e3
      · rw [insH, if_pos k]
        exact ⟨pt_same _ _ _, pt_same _ _ _, (pt_other _ _ (by decide)).trans (pt_same _ _ _), (pt_other _ _ na).trans (pt_same _ _ _), trivial⟩
      · have : ¬ y = a := fun e => hm (e ▸ List.mem_cons_self ..)
        rw [pt_other _ _ hy, pt_other _ _ this, pt_other _ _ hy]
    · obtain ⟨R2, p2, e2, m2, n2⟩ := pl_ok m1 n1 sl1 (hL x hx)
      refine ⟨R2, p2, _, _, ?_, m2, n2, ?_, fun y hy hm => by rw [pt_other _ _ hy, pt_other _ _ hy]⟩
      · rw [st, up_stay (by decide) u1 (hK x a hx la) k]; exact e2
      · rw [insH, if_neg k]
        exact ⟨(pt_other _ _ (by decide)).trans ((pt_other _ _ (by decide)).trans qa), (pt_other _ _ na).trans ((pt_other _ _ na).trans pa), pt_same _ _ _, pt_same _ _ _, trivial⟩
  | [a, b], ⟨qa, pa, qb, pb, _⟩, hM, hN, h2 =>
    obtain ⟨la, na⟩ := hM a (List.mem_cons_self ..)
    obtain ⟨lb, nb⟩ := hM b (List.mem_cons_of_mem _ (List.mem_cons_self ..))
    have hab : ¬ b = a := fun e => by rw [e] at hN; simp at hN
    obtain ⟨R1, p1, e1, m1, n1⟩ := pl_ok MR MP sl2 (hL x hx)
    have u1 : rdA R1 ((2 - 1) / 2) = some a := (m1 0 sl0.1 sl0.2).trans (congrArg some ((pt_other _ _ (by decide)).trans qa))
    have s1 : rdA R1 2 = some x := (m1 2 sl2.1 sl2.2).trans (congrArg some (pt_same _ _ _))
    have st : addH cmp R hp [a, b].length.toInt32 x = upL cmp 4 R1 p1 2 x := by
      rw [addH, show [a, b].length.toInt32 = 2 from (by decide : Nat.toInt32 2 = 2), e1, Option.bind_some, upF, show (2 : Int32) + 1 - 1 = 2 by decide, s1, Option.bind_some]
    have qb' : Q 1 = b := qb
    have pb' : P b = 1 := pb
    by_cases k : K x a < 0
    · obtain ⟨R2, p2, e2, m2, n2⟩ := pl_ok m1 n1 sl2 (hL a la)
      obtain ⟨R3, p3, e3, m3, n3⟩ := pl_ok m2 n2 sl0 (hL x hx)
      refine ⟨R3, p3, _, _, ?_, m3, n3, ?_, fun y hy hm => ?_⟩
      · rw [st, up_swap (by decide) u1 (hK x a hx la) k e2]; exact e3
      · rw [insH, if_pos k]
        refine ⟨pt_same _ _ _, pt_same _ _ _, ?_, ?_, ?_, ?_, trivial⟩
        · exact (pt_other _ _ (by decide)).trans ((pt_other _ _ (by decide)).trans ((pt_other _ _ (by decide)).trans qb'))
        · exact (pt_other _ _ nb).trans ((pt_other _ _ hab).trans ((pt_other _ _ nb).trans pb'))
        · exact (pt_other _ _ (by decide)).trans (pt_same _ _ _)
        · exact (pt_other _ _ na).trans (pt_same _ _ _)
      · have : ¬ y = a := fun e => hm (e ▸ List.mem_cons_self ..)
        rw [pt_other _ _ hy, pt_other _ _ this, pt_other _ _ hy]
    · obtain ⟨R2, p2, e2, m2, n2⟩ := pl_ok m1 n1 sl2 (hL x hx)
      refine ⟨R2, p2, _, _, ?_, m2, n2, ?_, fun y hy hm => by rw [pt_other _ _ hy, pt_other _ _ hy]⟩
      · rw [st, up_stay (by decide) u1 (hK x a hx la) k]; exact e2
      · rw [insH, if_neg k]
        refine ⟨(pt_other _ _ (by decide)).trans ((pt_other _ _ (by decide)).trans qa), (pt_other _ _ na).trans ((pt_other _ _ na).trans pa), ?_, ?_, pt_same _ _ _, pt_same _ _ _, trivial⟩
        · exact (pt_other _ _ (by decide)).trans ((pt_other _ _ (by decide)).trans qb')
        · exact (pt_other _ _ nb).trans ((pt_other _ _ nb).trans pb')
  | a :: b :: c :: r, _, _, _, h2 => simp at h2
theorem rem_ok {cmp : Int32 → Int32 → Option Int32} {K : Int32 → Int32 → Int32} {Lv : Int32 → Prop} {R hp M : List Int32} {Q P : Int32 → Int32} {x : Int32} (hL : ∀ y, Lv y → Sl y) (hK : ∀ y z, Lv y → Lv z → cmp y z = some (K y z)) (MR : Mp 12 R Q) (MP : Mp 12 hp P) (hA : AtH Q P 0 M) (hM : ∀ y ∈ M, Lv y) (hN : M.Nodup) (h3 : M.length ≤ 3) (hx : x ∈ M) (hmin : ∀ a r, M = a :: r → ∀ y ∈ r, ¬ K y a < 0) :
    ∃ R' hp' Q' P', remH cmp R hp M.length.toInt32 x = some (R', hp') ∧ Mp 12 R' Q' ∧ Mp 12 hp' P' ∧ AtH Q' P' 0 (delH K x M) ∧ ∀ y, y ∉ M → P' y = P y := by
  match M, hA, hM, hN, h3, hx, hmin with
  | [], _, _, _, _, hx, _ => exact absurd hx (by simp)
  | [a], ⟨qa, pa, _⟩, hM, hN, h3, hx, hmin =>
    obtain rfl : x = a := by simpa using hx
    have sx := hL x (hM x hx)
    refine ⟨R, hp, Q, P, ?_, MR, MP, trivial, fun _ _ => rfl⟩
    rw [remH, show [x].length.toInt32 = 1 from (by decide : Nat.toInt32 1 = 1), MP x sx.1 sx.2, Option.bind_some, show (1 : Int32) - 1 = 0 by decide, MR 0 sl0.1 sl0.2, Option.bind_some, pa, if_neg (by decide)]
  | [a, b], ⟨qa, pa, qb, pb, _⟩, hM, hN, h3, hx, hmin =>
    have sa := hL a (hM a (List.mem_cons_self ..))
    have sb := hL b (hM b (List.mem_cons_of_mem _ (List.mem_cons_self ..)))
    have hab : ¬ b = a := fun e => by rw [e] at hN; simp at hN
    have qb' : Q 1 = b := qb
    have pb' : P b = 1 := pb
    have el : [a, b].length.toInt32 = 2 := (by decide : Nat.toInt32 2 = 2)
    by_cases ea : x = a
    · subst ea
      obtain ⟨R1, p1, e1, m1, n1⟩ := pl_ok MR MP sl0 sb
      obtain ⟨R2, p2, e2, m2, n2⟩ := pl_ok m1 n1 sl0 sb
      obtain ⟨R3, p3, e3, m3, n3⟩ := pl_ok m2 n2 sl0 sb
      refine ⟨R3, p3, _, _, ?_, m3, n3, ?_, fun y hm => ?_⟩
      · rw [remH, el, MP x sa.1 sa.2, Option.bind_some, pa, show (2 : Int32) - 1 = 1 by decide, MR 1 sl1.1 sl1.2, Option.bind_some, qb', if_pos (by decide), e1, Option.bind_some, upF, m1 0 sl0.1 sl0.2, Option.bind_some, pt_same, up_root, e2, Option.bind_some, n2 b sb.1 sb.2, Option.bind_some, pt_same, dnF, m2 0 sl0.1 sl0.2, Option.bind_some, pt_same, dn_end (by decide)]
        exact e3
      · rw [delH, if_pos rfl]; exact ⟨pt_same _ _ _, pt_same _ _ _, trivial⟩
      · have : ¬ y = b := fun e => hm (e ▸ List.mem_cons_of_mem _ (List.mem_cons_self ..))
        rw [pt_other _ _ this, pt_other _ _ this, pt_other _ _ this]
    · obtain rfl : x = b := by
        rcases List.mem_cons.mp hx with e | e
        · exact absurd e ea
        · simpa using e
      refine ⟨R, hp, Q, P, ?_, MR, MP, ?_, fun _ _ => rfl⟩
      · rw [remH, el, MP x sb.1 sb.2, Option.bind_some, pb', show (2 : Int32) - 1 = 1 by decide, MR 1 sl1.1 sl1.2, Option.bind_some, if_neg (by decide)]
      · rw [delH, if_neg ea]; exact ⟨qa, pa, trivial⟩
  | [a, b, c], ⟨qa, pa, qb, pb, qc, pc, _⟩, hM, hN, h3, hx, hmin =>
    have la := hM a (List.mem_cons_self ..)
    have lb := hM b (List.mem_cons_of_mem _ (List.mem_cons_self ..))
    have lc' := hM c (List.mem_cons_of_mem _ (List.mem_cons_of_mem _ (List.mem_cons_self ..)))
    have sa := hL a la
    have sb := hL b lb
    have sc := hL c lc'
    have hba : ¬ b = a := fun e => by rw [e] at hN; simp at hN
    have hca : ¬ c = a := fun e => by rw [e] at hN; simp at hN
    have hcb : ¬ c = b := fun e => by rw [e] at hN; simp at hN
    have qb' : Q 1 = b := qb
    have pb' : P b = 1 := pb
    have qc' : Q 2 = c := qc
    have pc' : P c = 2 := pc
    have el : [a, b, c].length.toInt32 = 3 := (by decide : Nat.toInt32 3 = 3)
    by_cases ea : x = a
    · subst ea
      obtain ⟨R1, p1, e1, m1, n1⟩ := pl_ok MR MP sl0 sc
      obtain ⟨R2, p2, e2, m2, n2⟩ := pl_ok m1 n1 sl0 sc
      have u2 : rdA R2 1 = some b := (m2 1 sl1.1 sl1.2).trans (congrArg some ((pt_other _ _ (by decide)).trans ((pt_other _ _ (by decide)).trans qb')))
      have ch : chF cmp R2 2 0 = some 1 := by rw [chF, if_neg (by decide)]; rfl
      have start : remH cmp R hp [x, b, c].length.toInt32 x = dnL cmp 2 4 R2 p2 0 c 1 := by
        rw [remH, el, MP x sa.1 sa.2, Option.bind_some, pa, show (3 : Int32) - 1 = 2 by decide, MR 2 sl2.1 sl2.2, Option.bind_some, qc', if_pos (by decide), e1, Option.bind_some, upF, m1 0 sl0.1 sl0.2, Option.bind_some, pt_same, up_root, e2, Option.bind_some, n2 c sc.1 sc.2, Option.bind_some, pt_same, dnF, m2 0 sl0.1 sl0.2, Option.bind_some, pt_same]
      by_cases k : K b c < 0
      · obtain ⟨R3, p3, e3, m3, n3⟩ := pl_ok m2 n2 sl0 sb
        obtain ⟨R4, p4, e4, m4, n4⟩ := pl_ok m3 n3 sl1 sc
        refine ⟨R4, p4, _, _, ?_, m4, n4, ?_, fun y hm => ?_⟩
        · rw [start, dnL, if_neg (by decide), if_pos (by decide), ch, Option.bind_some, u2, Option.bind_some, hK b c lb lc', Option.bind_some, if_pos k, e3, Option.bind_some, dn_end (by decide)]
          exact e4
        · rw [delH, if_pos rfl, if_pos k]
          refine ⟨(pt_other _ _ (by decide)).trans (pt_same _ _ _), (pt_other _ _ (fun e => hcb e.symm)).trans (pt_same _ _ _), pt_same _ _ _, pt_same _ _ _, trivial⟩
        · have n1' : ¬ y = b := fun e => hm (e ▸ List.mem_cons_of_mem _ (List.mem_cons_self ..))
          have n2' : ¬ y = c := fun e => hm (e ▸ List.mem_cons_of_mem _ (List.mem_cons_of_mem _ (List.mem_cons_self ..)))
          rw [pt_other _ _ n2', pt_other _ _ n1', pt_other _ _ n2', pt_other _ _ n2']
      · obtain ⟨R3, p3, e3, m3, n3⟩ := pl_ok m2 n2 sl0 sc
        refine ⟨R3, p3, _, _, ?_, m3, n3, ?_, fun y hm => ?_⟩
        · rw [start, dnL, if_neg (by decide), if_pos (by decide), ch, Option.bind_some, u2, Option.bind_some, hK b c lb lc', Option.bind_some, if_neg k, dnL, if_pos rfl]
          exact e3
        · rw [delH, if_pos rfl, if_neg k]
          refine ⟨pt_same _ _ _, pt_same _ _ _, ?_, ?_, trivial⟩
          · exact (pt_other _ _ (by decide)).trans ((pt_other _ _ (by decide)).trans ((pt_other _ _ (by decide)).trans qb'))
          · exact (pt_other _ _ (fun e => hcb e.symm)).trans ((pt_other _ _ (fun e => hcb e.symm)).trans ((pt_other _ _ (fun e => hcb e.symm)).trans pb'))
        · have n2' : ¬ y = c := fun e => hm (e ▸ List.mem_cons_of_mem _ (List.mem_cons_of_mem _ (List.mem_cons_self ..)))
          rw [pt_other _ _ n2', pt_other _ _ n2', pt_other _ _ n2']
    · by_cases eb : x = b
      · subst eb
        have hk : ¬ K c a < 0 := hmin a _ rfl c (List.mem_cons_of_mem _ (List.mem_cons_self ..))
        obtain ⟨R1, p1, e1, m1, n1⟩ := pl_ok MR MP sl1 sc
        obtain ⟨R2, p2, e2, m2, n2⟩ := pl_ok m1 n1 sl1 sc
        obtain ⟨R3, p3, e3, m3, n3⟩ := pl_ok m2 n2 sl1 sc
        have u1 : rdA R1 ((1 - 1) / 2) = some a := (m1 0 sl0.1 sl0.2).trans (congrArg some ((pt_other _ _ (by decide)).trans qa))
        refine ⟨R3, p3, _, _, ?_, m3, n3, ?_, fun y hm => ?_⟩
        · rw [remH, el, MP x sb.1 sb.2, Option.bind_some, pb', show (3 : Int32) - 1 = 2 by decide, MR 2 sl2.1 sl2.2, Option.bind_some, qc', if_pos (by decide), e1, Option.bind_some, upF, m1 1 sl1.1 sl1.2, Option.bind_some, pt_same, up_stay (by decide) u1 (hK c a lc' la) hk, e2, Option.bind_some, n2 c sc.1 sc.2, Option.bind_some, pt_same, dnF, m2 1 sl1.1 sl1.2, Option.bind_some, pt_same, dn_end (by decide)]
          exact e3
        · rw [delH, if_neg ea, if_pos rfl]
          refine ⟨(pt_other _ _ (by decide)).trans ((pt_other _ _ (by decide)).trans ((pt_other _ _ (by decide)).trans qa)), (pt_other _ _ (fun e => hca e.symm)).trans ((pt_other _ _ (fun e => hca e.symm)).trans ((pt_other _ _ (fun e => hca e.symm)).trans pa)), pt_same _ _ _, pt_same _ _ _, trivial⟩
        · have n2' : ¬ y = c := fun e => hm (e ▸ List.mem_cons_of_mem _ (List.mem_cons_of_mem _ (List.mem_cons_self ..)))
          rw [pt_other _ _ n2', pt_other _ _ n2', pt_other _ _ n2']
      · obtain rfl : x = c := by
          rcases List.mem_cons.mp hx with e | e
          · exact absurd e ea
          · rcases List.mem_cons.mp e with e | e
            · exact absurd e eb
            · simpa using e
        refine ⟨R, hp, Q, P, ?_, MR, MP, ?_, fun _ _ => rfl⟩
        · rw [remH, el, MP x sc.1 sc.2, Option.bind_some, pc', show (3 : Int32) - 1 = 2 by decide, MR 2 sl2.1 sl2.2, Option.bind_some, if_neg (by decide)]
        · rw [delH, if_neg ea, if_neg eb]; exact ⟨qa, pa, qb, pb, trivial⟩
  | a :: b :: c :: d :: r, _, _, _, h3, _, _ => simp at h3
/-! what the lists hold, and that the first is not beaten -/
def RM (K : Int32 → Int32 → Int32) (M : List Int32) : Prop := ∀ a r, M = a :: r → ∀ y ∈ r, ¬ K y a < 0
theorem ins_mem {K : Int32 → Int32 → Int32} {x : Int32} {M : List Int32} (h : M.length ≤ 2) : ∀ y, y ∈ insH K x M ↔ y = x ∨ y ∈ M := by
  match M, h with
  | [], _ => intro y; simp [insH]
  | [a], _ =>
    intro y; rw [insH]; split
    · simp only [List.mem_cons, List.not_mem_nil, or_false]
    · simp only [List.mem_cons, List.not_mem_nil, or_false]; exact Or.comm
  | [a, b], _ =>
    intro y; rw [insH]; split
    · simp only [List.mem_cons, List.not_mem_nil, or_false]
      exact ⟨fun h => h.elim Or.inl (fun h => h.elim (fun e => Or.inr (Or.inr e)) (fun e => Or.inr (Or.inl e))), fun h => h.elim Or.inl (fun h => h.elim (fun e => Or.inr (Or.inr e)) (fun e => Or.inr (Or.inl e)))⟩
    · simp only [List.mem_cons, List.not_mem_nil, or_false]
      exact ⟨fun h => h.elim (fun e => Or.inr (Or.inl e)) (fun h => h.elim (fun e => Or.inr (Or.inr e)) Or.inl), fun h => h.elim (fun e => Or.inr (Or.inr e)) (fun h => h.elim Or.inl (fun e => Or.inr (Or.inl e)))⟩
  | a :: b :: c :: r, h => simp at h
theorem ins_len {K : Int32 → Int32 → Int32} {x : Int32} {M : List Int32} (h : M.length ≤ 2) : (insH K x M).length = M.length + 1 := by
  match M, h with
  | [], _ => rfl
  | [a], _ => rw [insH]; split <;> rfl
  | [a, b], _ => rw [insH]; split <;> rfl
  | a :: b :: c :: r, h => simp at h
theorem ins_nodup {K : Int32 → Int32 → Int32} {x : Int32} {M : List Int32} (h : M.length ≤ 2) (hx : x ∉ M) (hN : M.Nodup) : (insH K x M).Nodup := by
  match M, h with
  | [], _ => simp [insH]
  | [a], _ => rw [insH]; simp only [List.mem_cons, List.not_mem_nil, or_false] at hx; split <;> simp [hx, Ne.symm hx] <;> exact fun e => hx e.symm
  | [a, b], _ =>
    rw [insH]
    simp only [List.mem_cons, List.not_mem_nil, or_false, not_or] at hx
    have hab : ¬ a = b := by simpa using hN
    have hab' : ¬ b = a := fun e => hab e.symm
    have h1 : ¬ a = x := fun e => hx.1 e.symm
    have h2 : ¬ b = x := fun e => hx.2 e.symm
    split <;> simp [hx.1, hx.2, hab, hab', h1, h2]
  | a :: b :: c :: r, h => simp at h
theorem del_mem {K : Int32 → Int32 → Int32} {x : Int32} {M : List Int32} (h : M.length ≤ 3) (hx : x ∈ M) (hN : M.Nodup) : (∀ y, y ∈ delH K x M ↔ y ∈ M ∧ ¬ y = x) ∧ (delH K x M).Nodup ∧ (delH K x M).length + 1 = M.length := by
  match M, h with
  | [], _ => simp at hx
  | [a], _ =>
    obtain rfl : x = a := by simpa using hx
    refine ⟨fun y => ?_, by simp [delH], rfl⟩
    simp [delH]
  | [a, b], _ =>
    have hab : ¬ a = b := by simpa using hN
    simp only [List.mem_cons, List.not_mem_nil, or_false] at hx
    rw [delH]
    by_cases e : x = a
    · subst e; rw [if_pos rfl]
      refine ⟨fun y => ?_, by simp, rfl⟩
      simp only [List.mem_cons, List.not_mem_nil, or_false]
      exact ⟨fun e => ⟨Or.inr e, fun e' => hab (e'.symm.trans e)⟩, fun h => h.1.elim (fun e => absurd e h.2) id⟩
    · obtain rfl : x = b := hx.elim (fun q => absurd q e) id
      rw [if_neg e]
      refine ⟨fun y => ?_, by simp, rfl⟩
      simp only [List.mem_cons, List.not_mem_nil, or_false]
      exact ⟨fun e' => ⟨Or.inl e', fun e'' => hab (e'.symm.trans e'')⟩, fun h => h.1.elim id (fun e => absurd e h.2)⟩
  | [a, b, c], _ =>
    have hab : ¬ a = b := fun e => by rw [e] at hN; simp at hN
    have hac : ¬ a = c := fun e => by rw [e] at hN; simp at hN
    have hbc : ¬ b = c := fun e => by rw [e] at hN; simp at hN
    have hba : ¬ b = a := fun e => hab e.symm
    have hca : ¬ c = a := fun e => hac e.symm
    have hcb : ¬ c = b := fun e => hbc e.symm
    simp only [List.mem_cons, List.not_mem_nil, or_false] at hx
    rw [delH]
    by_cases e : x = a
    · subst e; rw [if_pos rfl]
      split
      · refine ⟨fun y => ?_, by simp [hbc], rfl⟩
        simp only [List.mem_cons, List.not_mem_nil, or_false]
        exact ⟨fun h => ⟨Or.inr h, fun e' => h.elim (fun q => hab (e'.symm.trans q)) (fun q => hac (e'.symm.trans q))⟩, fun h => h.1.elim (fun e => absurd e h.2) id⟩
      · refine ⟨fun y => ?_, by simp [hcb], rfl⟩
        simp only [List.mem_cons, List.not_mem_nil, or_false]
        exact ⟨fun h => ⟨Or.inr h.symm, fun e' => h.elim (fun q => hac (e'.symm.trans q)) (fun q => hab (e'.symm.trans q))⟩, fun h => (h.1.elim (fun e => absurd e h.2) id).symm⟩
    · rw [if_neg e]
      by_cases e2 : x = b
      · subst e2; rw [if_pos rfl]
        refine ⟨fun y => ?_, by simp [hac], rfl⟩
        simp only [List.mem_cons, List.not_mem_nil, or_false]
        exact ⟨fun h => ⟨h.elim Or.inl (fun q => Or.inr (Or.inr q)), fun e' => h.elim (fun q => hab (q.symm.trans e')) (fun q => hbc (e'.symm.trans q))⟩, fun h => h.1.elim Or.inl (fun q => q.elim (fun q => absurd q h.2) Or.inr)⟩
      · obtain rfl : x = c := hx.elim (fun q => absurd q e) (fun q => q.elim (fun q => absurd q e2) id)
        rw [if_neg e2]
        refine ⟨fun y => ?_, by simp [hab], rfl⟩
        simp only [List.mem_cons, List.not_mem_nil, or_false]
        exact ⟨fun h => ⟨h.elim Or.inl (fun q => Or.inr (Or.inl q)), fun e' => h.elim (fun q => hac (q.symm.trans e')) (fun q => hbc (q.symm.trans e'))⟩, fun h => h.1.elim Or.inl (fun q => q.elim Or.inr (fun q => absurd q h.2))⟩
  | a :: b :: c :: d :: r, h => simp at h
theorem ins_rm {K : Int32 → Int32 → Int32} {x : Int32} {M : List Int32} (as : ∀ y z, K y z < 0 → ¬ K z y < 0) (tr : ∀ y z u, K y z < 0 → K z u < 0 → K y u < 0) (h : M.length ≤ 2) (hM : RM K M) : RM K (insH K x M) := by
  match M, h with
  | [], _ => intro a r e; simp [insH] at e; obtain ⟨rfl, rfl⟩ := e; intro y hy; simp at hy
  | [a], _ =>
    intro b r e y hy
    rw [insH] at e
    split at e
    · rename_i k; cases e; obtain rfl : y = a := by simpa using hy
      exact as _ _ k
    · rename_i k; cases e; obtain rfl : y = x := by simpa using hy
      exact k
  | [a, b], _ =>
    have hb : ¬ K b a < 0 := hM a [b] rfl b (List.mem_cons_self ..)
    intro d r e y hy
    rw [insH] at e
    split at e
    · rename_i k; cases e
      simp only [List.mem_cons, List.not_mem_nil, or_false] at hy
      rcases hy with rfl | rfl
      · exact fun q => hb (tr _ _ _ q k)
      · exact as _ _ k
    · rename_i k; cases e
      simp only [List.mem_cons, List.not_mem_nil, or_false] at hy
      rcases hy with rfl | rfl
      · exact hb
      · exact k
  | a :: b :: c :: r, h => simp at h
theorem del_rm {K : Int32 → Int32 → Int32} {x : Int32} {M : List Int32} (as : ∀ y z, K y z < 0 → ¬ K z y < 0) (h : M.length ≤ 3) (hM : RM K M) : RM K (delH K x M) := by
  match M, h with
  | [], _ => intro a r e; simp [delH] at e
  | [a], _ => intro a r e; simp [delH] at e
  | [a, b], _ => intro d r e y hy; rw [delH] at e; split at e <;> (cases e; simp at hy)
  | [a, b, c], _ =>
    intro d r e y hy
    rw [delH] at e
    split at e
    · split at e
      · rename_i k; cases e; obtain rfl : y = c := by simpa using hy
        exact as _ _ k
      · rename_i k; cases e; obtain rfl : y = b := by simpa using hy
        exact k
    · split at e
      · cases e; obtain rfl : y = c := by simpa using hy
        exact hM a _ rfl _ (List.mem_cons_of_mem _ (List.mem_cons_self ..))
      · cases e; obtain rfl : y = b := by simpa using hy
        exact hM a _ rfl _ (List.mem_cons_self ..)
  | a :: b :: c :: d :: r, h => simp at h
/-! both heaps together -/
def HB (H : Hs) (MR MS : List Int32) : Prop := ∃ QR QS P, Mp 12 H.1 QR ∧ Mp 12 H.2.2.1 QS ∧ Mp 12 H.2.2.2.2 P ∧ H.2.1 = MR.length.toInt32 ∧ H.2.2.2.1 = MS.length.toInt32 ∧ AtH QR P 0 MR ∧ AtH QS P 0 MS
theorem AtH.congr {Q P P' : Int32 → Int32} : ∀ {M : List Int32} {i : Int32}, AtH Q P i M → (∀ y ∈ M, P' y = P y) → AtH Q P' i M
  | [], _, _, _ => trivial
  | x :: r, i, h, e => ⟨h.1, (e x (List.mem_cons_self ..)).trans h.2.1, AtH.congr h.2.2 fun y hy => e y (List.mem_cons_of_mem _ hy)⟩
def HI (K : Int32 → Int32 → Int32) (a : Int32 → Int32) (mx : Int32) (H : Hs) (In : Int32 → Prop) (n : Nat) : Prop :=
  ∃ MR MS, HB H MR MS ∧ MR.Nodup ∧ MS.Nodup ∧ MR.length + MS.length = n ∧ RM K MR ∧ RM K MS ∧ (∀ y, y ∈ MR ↔ In y ∧ a y < mx) ∧ ∀ y, y ∈ MS ↔ In y ∧ ¬ a y < mx
theorem HI.congr {K K' : Int32 → Int32 → Int32} {a a' : Int32 → Int32} {mx : Int32} {H : Hs} {In In' : Int32 → Prop} {n : Nat} (h : HI K a mx H In n) (hI : ∀ y, In' y ↔ In y) (hK : ∀ y z, In y → In z → K' y z = K y z) (ha : ∀ y, In y → a' y = a y) : HI K' a' mx H In' n := by
  obtain ⟨MR, MS, h1, h2, h3, h4, h5, h6, h7, h8⟩ := h
  refine ⟨MR, MS, h1, h2, h3, h4, fun c r e y hy => ?_, fun c r e y hy => ?_, fun y => ?_, fun y => ?_⟩
  · rw [hK y c ((h7 y).mp (by rw [e]; exact List.mem_cons_of_mem _ hy)).1 ((h7 c).mp (by rw [e]; exact List.mem_cons_self ..)).1]; exact h5 c r e y hy
  · rw [hK y c ((h8 y).mp (by rw [e]; exact List.mem_cons_of_mem _ hy)).1 ((h8 c).mp (by rw [e]; exact List.mem_cons_self ..)).1]; exact h6 c r e y hy
  · rw [h7 y, hI y]
    exact ⟨fun q => ⟨q.1, by rw [ha y q.1]; exact q.2⟩, fun q => ⟨q.1, by rw [← ha y q.1]; exact q.2⟩⟩
  · rw [h8 y, hI y]
    exact ⟨fun q => ⟨q.1, by rw [ha y q.1]; exact q.2⟩, fun q => ⟨q.1, by rw [← ha y q.1]; exact q.2⟩⟩
theorem own_succ {n : Nat} : n.toInt32 + 1 = (n + 1).toInt32 := by
  show Int32.ofNat n + Int32.ofNat 1 = Int32.ofNat (n + 1)
  rw [← Int32.ofNat_add]
theorem own_pred {n : Nat} : (n + 1).toInt32 - 1 = n.toInt32 := by
  rw [← own_succ]
  exact Int32.add_sub_cancel _ _
section Both
variable {qs ats : List Int32} {os vs : List Int64} {K : Int32 → Int32 → Int32} {Lv : Int32 → Prop} {a : Int32 → Int32} {mx x : Int32} {H : Hs} {In : Int32 → Prop} {n : Nat}
theorem addD_ok (hL : ∀ y, Lv y → Sl y) (hK : ∀ y z, Lv y → Lv z → cmpS qs os vs y z = some (K y z)) (as : ∀ y z, K y z < 0 → ¬ K z y < 0) (tr : ∀ y z u, K y z < 0 → K z u < 0 → K y u < 0) (h : HI K a mx H In n) (hn : n ≤ 2) (hx : Lv x) (hi : ¬ In x) (hIn : ∀ y, In y → Lv y) (ha : rdA ats x = some (a x)) :
    ∃ H', addD qs os vs ats mx x H = some H' ∧ HI K a mx H' (fun y => y = x ∨ In y) (n + 1) := by
  obtain ⟨MR, MS, ⟨QR, QS, P, b1, b2, b3, b4, b5, b6, b7⟩, h2, h3, h4, h5, h6, h7, h8⟩ := h
  obtain ⟨R, sr, S, ss, hp⟩ := H
  dsimp only at b1 b2 b3 b4 b5
  subst b4 b5
  have nR : x ∉ MR := fun q => hi ((h7 x).mp q).1
  have nS : x ∉ MS := fun q => hi ((h8 x).mp q).1
  by_cases k : a x < mx
  · obtain ⟨R', hp', Q', P', c1, c2, c3, c4, c5⟩ := add_ok hL hK b1 b3 b6 (fun y hy => ⟨hIn y ((h7 y).mp hy).1, fun e => nR (by rw [← e]; exact hy)⟩) h2 (by omega) hx
    refine ⟨(R', MR.length.toInt32 + 1, S, MS.length.toInt32, hp'), ?_, insH K x MR, MS, ⟨Q', QS, P', c2, b2, c3, ?_, rfl, c4, b7.congr fun y hy => c5 y (fun e => nS (by rw [← e]; exact hy)) (fun hm => ((h8 y).mp hy).2 ((h7 y).mp hm).2)⟩, ins_nodup (by omega) nR h2, h3, ?_, ins_rm as tr (by omega) h5, h6, fun y => ?_, fun y => ?_⟩
    · rw [addD, ha, Option.bind_some, if_pos k]; dsimp only; rw [c1, Option.bind_some]
    · show MR.length.toInt32 + 1 = _
      rw [ins_len (by omega)]; exact own_succ
    · rw [ins_len (by omega)]; omega
    · rw [ins_mem (by omega) y, h7 y]
      exact ⟨fun q => q.elim (fun e => ⟨Or.inl e, by rw [e]; exact k⟩) (fun q => ⟨Or.inr q.1, q.2⟩), fun q => q.1.elim Or.inl (fun e => Or.inr ⟨e, q.2⟩)⟩
    · rw [h8 y]
      exact ⟨fun q => ⟨Or.inr q.1, q.2⟩, fun q => ⟨q.1.elim (fun e => absurd (by rw [e]; exact k) q.2) id, q.2⟩⟩
  · obtain ⟨S', hp', Q', P', c1, c2, c3, c4, c5⟩ := add_ok hL hK b2 b3 b7 (fun y hy => ⟨hIn y ((h8 y).mp hy).1, fun e => nS (by rw [← e]; exact hy)⟩) h3 (by omega) hx
    refine ⟨(R, MR.length.toInt32, S', MS.length.toInt32 + 1, hp'), ?_, MR, insH K x MS, ⟨QR, Q', P', b1, c2, c3, rfl, ?_, b6.congr fun y hy => c5 y (fun e => nR (by rw [← e]; exact hy)) (fun hm => ((h8 y).mp hm).2 ((h7 y).mp hy).2), c4⟩, h2, ins_nodup (by omega) nS h3, ?_, h5, ins_rm as tr (by omega) h6, fun y => ?_, fun y => ?_⟩
    · rw [addD, ha, Option.bind_some, if_neg k]; dsimp only; rw [c1, Option.bind_some]
    · show MS.length.toInt32 + 1 = _
      rw [ins_len (by omega)]; exact own_succ
    · rw [ins_len (by omega)]; omega
    · rw [h7 y]
      exact ⟨fun q => ⟨Or.inr q.1, q.2⟩, fun q => ⟨q.1.elim (fun e => absurd q.2 (by rw [e]; exact k)) id, q.2⟩⟩
    · rw [ins_mem (by omega) y, h8 y]
      exact ⟨fun q => q.elim (fun e => ⟨Or.inl e, by rw [e]; exact k⟩) (fun q => ⟨Or.inr q.1, q.2⟩), fun q => q.1.elim Or.inl (fun e => Or.inr ⟨e, q.2⟩)⟩
theorem remD_ok (hL : ∀ y, Lv y → Sl y) (hK : ∀ y z, Lv y → Lv z → cmpS qs os vs y z = some (K y z)) (as : ∀ y z, K y z < 0 → ¬ K z y < 0) (h : HI K a mx H In (n + 1)) (hn : n ≤ 2) (hi : In x) (hIn : ∀ y, In y → Lv y) (ha : rdA ats x = some (a x)) :
    ∃ H', remD qs os vs ats mx x H = some H' ∧ HI K a mx H' (fun y => In y ∧ ¬ y = x) n := by
  obtain ⟨MR, MS, ⟨QR, QS, P, b1, b2, b3, b4, b5, b6, b7⟩, h2, h3, h4, h5, h6, h7, h8⟩ := h
  obtain ⟨R, sr, S, ss, hp⟩ := H
  dsimp only at b1 b2 b3 b4 b5
  subst b4 b5
  by_cases k : a x < mx
  · have mR : x ∈ MR := (h7 x).mpr ⟨hi, k⟩
    obtain ⟨R', hp', Q', P', c1, c2, c3, c4, c5⟩ := rem_ok hL hK b1 b3 b6 (fun y hy => hIn y ((h7 y).mp hy).1) h2 (by omega) mR h5
    obtain ⟨d1, d2, d3⟩ := del_mem (K := K) (by omega) mR h2
    refine ⟨(R', MR.length.toInt32 - 1, S, MS.length.toInt32, hp'), ?_, delH K x MR, MS, ⟨Q', QS, P', c2, b2, c3, ?_, rfl, c4, b7.congr fun y hy => c5 y (fun hm => ((h8 y).mp hy).2 ((h7 y).mp hm).2)⟩, d2, h3, by omega, del_rm as (by omega) h5, h6, fun y => ?_, fun y => ?_⟩
    · rw [remD, ha, Option.bind_some, if_pos k]; dsimp only; rw [c1, Option.bind_some]
    · show MR.length.toInt32 - 1 = _
      rw [← d3]; exact own_pred
    · rw [d1 y, h7 y]; exact ⟨fun q => ⟨⟨q.1.1, q.2⟩, q.1.2⟩, fun q => ⟨⟨q.1.1, q.2⟩, q.1.2⟩⟩
    · rw [h8 y]; exact ⟨fun q => ⟨⟨q.1, fun e => q.2 (by rw [e]; exact k)⟩, q.2⟩, fun q => ⟨q.1.1, q.2⟩⟩
  · have mS : x ∈ MS := (h8 x).mpr ⟨hi, k⟩
    obtain ⟨S', hp', Q', P', c1, c2, c3, c4, c5⟩ := rem_ok hL hK b2 b3 b7 (fun y hy => hIn y ((h8 y).mp hy).1) h3 (by omega) mS h6
    obtain ⟨d1, d2, d3⟩ := del_mem (K := K) (by omega) mS h3
    refine ⟨(R, MR.length.toInt32, S', MS.length.toInt32 - 1, hp'), ?_, MR, delH K x MS, ⟨QR, Q', P', b1, c2, c3, rfl, ?_, b6.congr fun y hy => c5 y (fun hm => ((h8 y).mp hm).2 ((h7 y).mp hy).2), c4⟩, h2, d2, by omega, h5, del_rm as (by omega) h6, fun y => ?_, fun y => ?_⟩
    · rw [remD, ha, Option.bind_some, if_neg k]; dsimp only; rw [c1, Option.bind_some]
    · show MS.length.toInt32 - 1 = _
      rw [← d3]; exact own_pred
    · rw [h7 y]; exact ⟨fun q => ⟨⟨q.1, fun e => k (by rw [← e]; exact q.2)⟩, q.2⟩, fun q => ⟨q.1.1, q.2⟩⟩
    · rw [d1 y, h8 y]; exact ⟨fun q => ⟨⟨q.1.1, q.2⟩, q.1.2⟩, fun q => ⟨⟨q.1.1, q.2⟩, q.1.2⟩⟩
end Both
/-! the order of the slots -/
def sel {α : Type} (u v w : α) (x : Int32) : α := if x = 0 then u else if x = 1 then v else w
def Kv (v0 v1 v2 : Int64) (x y : Int32) : Int32 := if lc (sel v0 v1 v2 x) (sel v0 v1 v2 y) = 0 then lc (sel 0 1 2 x) (sel 0 1 2 y) else lc (sel v0 v1 v2 x) (sel v0 v1 v2 y)
theorem lc_lt (x y : Int64) : lc x y < 0 ↔ x < y := by
  unfold lc
  by_cases h : x < y
  · rw [if_pos h]; exact ⟨fun _ => h, fun _ => by decide⟩
  · rw [if_neg h]
    by_cases e : x = y
    · rw [if_pos e]; exact ⟨fun q => absurd q (by decide), fun q => absurd q h⟩
    · rw [if_neg e]; exact ⟨fun q => absurd q (by decide), fun q => absurd q h⟩
theorem lc_eq (x y : Int64) : lc x y = 0 ↔ x = y := by
  unfold lc
  by_cases h : x < y
  · rw [if_pos h]; exact ⟨fun q => absurd q (by decide), fun q => absurd (q ▸ h) (by simp)⟩
  · rw [if_neg h]
    by_cases e : x = y
    · rw [if_pos e]; exact ⟨fun _ => e, fun _ => rfl⟩
    · rw [if_neg e]; exact ⟨fun q => absurd q (by decide), fun q => absurd q e⟩
theorem Kv_lt (v0 v1 v2 : Int64) (x y : Int32) : Kv v0 v1 v2 x y < 0 ↔ (sel v0 v1 v2 x).toInt < (sel v0 v1 v2 y).toInt ∨ ((sel v0 v1 v2 x).toInt = (sel v0 v1 v2 y).toInt ∧ (sel 0 1 2 x : Int64).toInt < (sel 0 1 2 y : Int64).toInt) := by
  unfold Kv
  by_cases e : lc (sel v0 v1 v2 x) (sel v0 v1 v2 y) = 0
  · rw [if_pos e, lc_lt, Int64.lt_iff_toInt_lt]
    have e' := (lc_eq _ _).mp e
    rw [e']; omega
  · rw [if_neg e, lc_lt, Int64.lt_iff_toInt_lt]
    have e' : ¬ (sel v0 v1 v2 x).toInt = (sel v0 v1 v2 y).toInt := fun q => e ((lc_eq _ _).mpr (Int64.toInt_inj.mp q))
    omega
theorem Kv_as (v0 v1 v2 : Int64) : ∀ y z, Kv v0 v1 v2 y z < 0 → ¬ Kv v0 v1 v2 z y < 0 := fun y z => by rw [Kv_lt, Kv_lt]; omega
theorem Kv_tr (v0 v1 v2 : Int64) : ∀ y z u, Kv v0 v1 v2 y z < 0 → Kv v0 v1 v2 z u < 0 → Kv v0 v1 v2 y u < 0 := fun y z u => by rw [Kv_lt, Kv_lt, Kv_lt]; omega
def L2 (x : Int32) : Prop := x = 0 ∨ x = 1
def L3 (x : Int32) : Prop := x = 0 ∨ x = 1 ∨ x = 2
theorem L3.sl {y : Int32} (h : L3 y) : Sl y := by
  rcases h with rfl | rfl | rfl
  · exact sl0
  · exact sl1
  · exact sl2
theorem L2.l3 {y : Int32} (h : L2 y) : L3 y := h.elim Or.inl fun q => Or.inr (Or.inl q)
theorem rd_t {y : Int32} (h : L3 y) (u v w : Int32) : rdA (t3 u v w) y = some (sel u v w y) := by rcases h with rfl | rfl | rfl <;> rfl
theorem rd_u {y : Int32} (h : L3 y) (u v w : Int64) : rdA (u3 u v w) y = some (sel u v w y) := by rcases h with rfl | rfl | rfl <;> rfl
theorem ic_self (q : Int32) : ic q q = 0 := by unfold ic; rw [if_neg (by simp), if_pos rfl]
theorem cmp_of {qs : List Int32} {os vs : List Int64} {q y z : Int32} {v0 v1 v2 : Int64} (h1 : rdA vs y = some (sel v0 v1 v2 y)) (h2 : rdA vs z = some (sel v0 v1 v2 z)) (h3 : rdA qs y = some q) (h4 : rdA qs z = some q) (h5 : rdA os y = some (sel 0 1 2 y)) (h6 : rdA os z = some (sel 0 1 2 z)) : cmpS qs os vs y z = some (Kv v0 v1 v2 y z) := by
  rw [cmpS, h1, Option.bind_some, h2, Option.bind_some, Kv]
  by_cases e : lc (sel v0 v1 v2 y) (sel v0 v1 v2 z) = 0
  · rw [if_pos e, if_pos e, h3, Option.bind_some, h4, Option.bind_some, ic_self, if_pos rfl, h5, Option.bind_some, h6, Option.bind_some]
  · rw [if_neg e, if_neg e]
theorem cmp2 {q z' : Int32} {w v0 v1 v2 : Int64} : ∀ y z, L2 y → L2 z → cmpS (t3 q q z') (u3 0 1 w) (u3 v0 v1 v2) y z = some (Kv v0 v1 v2 y z) := fun y z hy hz => by
  rcases hy with rfl | rfl <;> rcases hz with rfl | rfl <;> exact cmp_of (q := q) rfl rfl rfl rfl rfl rfl
theorem cmp3 {q : Int32} {v0 v1 v2 : Int64} : ∀ y z, L3 y → L3 z → cmpS (t3 q q q) (u3 0 1 2) (u3 v0 v1 v2) y z = some (Kv v0 v1 v2 y z) := fun y z hy hz => by
  rcases hy with rfl | rfl | rfl <;> rcases hz with rfl | rfl | rfl <;> exact cmp_of (q := q) rfl rfl rfl rfl rfl rfl
/-! the stages of the law -/
theorem hi0 {K : Int32 → Int32 → Int32} {a : Int32 → Int32} {mx : Int32} {R S hp : List Int32} (h1 : ∃ Q, Mp 12 R Q) (h2 : ∃ Q, Mp 12 S Q) (h3 : ∃ Q, Mp 12 hp Q) : HI K a mx (R, 0, S, 0, hp) (fun _ => False) 0 := by
  obtain ⟨QR, h1⟩ := h1; obtain ⟨QS, h2⟩ := h2; obtain ⟨P, h3⟩ := h3
  exact ⟨[], [], ⟨QR, QS, P, h1, h2, h3, rfl, rfl, trivial, trivial⟩, List.nodup_nil, List.nodup_nil, rfl, fun c r e => absurd e (by simp), fun c r e => absurd e (by simp), fun y => ⟨fun q => absurd q (by simp), fun q => q.1.elim⟩, fun y => ⟨fun q => absurd q (by simp), fun q => q.1.elim⟩⟩
theorem mp0 : ∃ Q, Mp 12 (t3 0 0 0) Q := ⟨_, Mp.rep (n := 12) (v := (0 : Int32)) (k := 12) (by decide)⟩
theorem HI.maps {K : Int32 → Int32 → Int32} {a : Int32 → Int32} {mx : Int32} {R S hp : List Int32} {sr ss : Int32} {In : Int32 → Prop} {n : Nat} (h : HI K a mx (R, sr, S, ss, hp) In n) : (∃ Q, Mp 12 R Q) ∧ (∃ Q, Mp 12 S Q) ∧ ∃ Q, Mp 12 hp Q := by
  obtain ⟨MR, MS, ⟨QR, QS, P, b1, b2, b3, -⟩, -⟩ := h
  exact ⟨⟨_, b1⟩, ⟨_, b2⟩, _, b3⟩
theorem max_end {qs : List Int32} {os vs : List Int64} {ats : List Int32} {mx us i : Int32} {f : Nat} {H : Hs} (h : ¬ i < us) : maxL qs os vs ats mx us (f + 1) i H = some H := by rw [maxL, if_neg h]
theorem max_step {qs : List Int32} {os vs : List Int64} {ats : List Int32} {mx us i q : Int32} {f : Nat} {H H' : Hs} (h : i < us) (hq : rdA qs i = some q) (hn : ¬ q = -1) (hA : addD qs os vs ats mx i H = some H') : maxL qs os vs ats mx us (f + 1) i H = maxL qs os vs ats mx us f (i + 1) H' := by
  rw [maxL, if_pos h, hq, Option.bind_some, if_neg hn, hA, Option.bind_some]
/-- the state behind the three puts -/
def Stg (q z : Int32) (w : Int64) (us : Int32) (Lv : Int32 → Prop) (n : Nat) : Prop := (z = 0 ∧ w = 0 ∧ us = 2 ∧ Lv = L2 ∧ n = 2) ∨ (z = q ∧ w = 2 ∧ us = 3 ∧ Lv = L3 ∧ n = 3)
abbrev HV (b0 b1 b2 : Int32) (w0 w1 w2 : Int64) (mx : Int32) (H : Hs) (In : Int32 → Prop) (n : Nat) : Prop := HI (Kv w0 w1 w2) (sel b0 b1 b2) mx H In n
theorem Stg.cmp {q z us : Int32} {w : Int64} {Lv : Int32 → Prop} {n : Nat} (h : Stg q z w us Lv n) (w0 w1 w2 : Int64) : ∀ y u, Lv y → Lv u → cmpS (t3 q q z) (u3 0 1 w) (u3 w0 w1 w2) y u = some (Kv w0 w1 w2 y u) := by
  rcases h with ⟨rfl, rfl, rfl, rfl, rfl⟩ | ⟨rfl, rfl, rfl, rfl, rfl⟩
  · exact cmp2
  · exact cmp3
theorem Stg.l3 {q z us : Int32} {w : Int64} {Lv : Int32 → Prop} {n : Nat} (h : Stg q z w us Lv n) : ∀ y, Lv y → L3 y := by
  rcases h with ⟨rfl, rfl, rfl, rfl, rfl⟩ | ⟨rfl, rfl, rfl, rfl, rfl⟩
  · exact fun y => L2.l3
  · exact fun y => id
theorem Stg.one {q z us : Int32} {w : Int64} {Lv : Int32 → Prop} {n : Nat} (h : Stg q z w us Lv n) : Lv 1 ∧ ∃ m, n = m + 1 ∧ m ≤ 2 := by
  rcases h with ⟨rfl, rfl, rfl, rfl, rfl⟩ | ⟨rfl, rfl, rfl, rfl, rfl⟩
  · exact ⟨Or.inr rfl, 1, rfl, by decide⟩
  · exact ⟨Or.inr (Or.inl rfl), 2, rfl, by decide⟩
/-- the first put -/
theorem put1 (q a1 mx : Int32) (v1 v2 v3 : Int64) : ∃ H', addD (t3 q 0 0) (u3 0 0 0) (u3 v1 0 0) (t3 a1 0 0) mx 0 (t3 0 0 0, 0, t3 0 0 0, 0, t3 0 0 0) = some H' ∧ HV a1 0 0 v1 0 0 mx H' (fun y => y = 0) 1 := by
  obtain ⟨H', h1, h2⟩ := addD_ok (qs := t3 q 0 0) (os := u3 0 0 0) (vs := u3 v1 0 0) (ats := t3 a1 0 0) (K := Kv v1 0 0) (Lv := fun y => y = 0) (a := sel a1 0 0) (mx := mx) (x := 0) (fun y h => by rw [h]; exact sl0) (fun y z hy hz => by rw [hy, hz]; exact cmp_of (q := q) rfl rfl rfl rfl rfl rfl) (Kv_as _ _ _) (Kv_tr _ _ _) (hi0 mp0 mp0 mp0) (by decide) rfl id (fun y h => h.elim) (rd_t (Or.inl rfl) ..)
  exact ⟨H', h1, h2.congr (fun y => by simp) (fun _ _ _ _ => rfl) (fun _ _ => rfl)⟩
/-- the second -/
theorem put2 {q a1 a2 mx : Int32} {v1 v2 : Int64} {H : Hs} (h : HV a1 0 0 v1 0 0 mx H (fun y => y = 0) 1) : ∃ H', addD (t3 q q 0) (u3 0 1 0) (u3 v1 v2 0) (t3 a1 a2 0) mx 1 H = some H' ∧ HV a1 a2 0 v1 v2 0 mx H' L2 2 := by
  have h' : HV a1 a2 0 v1 v2 0 mx H (fun y => y = 0) 1 := h.congr (fun _ => Iff.rfl) (fun y z hy hz => by rw [hy, hz]; rfl) (fun y hy => by rw [hy]; rfl)
  obtain ⟨H', h1, h2⟩ := addD_ok (qs := t3 q q 0) (os := u3 0 1 0) (vs := u3 v1 v2 0) (ats := t3 a1 a2 0) (Lv := L2) (x := 1) (fun y hy => hy.l3.sl) cmp2 (Kv_as _ _ _) (Kv_tr _ _ _) h' (by decide) (Or.inr rfl) (by decide) (fun y hy => Or.inl hy) (rd_t (Or.inr (Or.inl rfl)) ..)
  exact ⟨H', h1, h2.congr (fun y => ⟨fun q => q.elim Or.inr Or.inl, fun q => q.elim Or.inr Or.inl⟩) (fun _ _ _ _ => rfl) (fun _ _ => rfl)⟩
/-- the third, at a new offset -/
theorem put3n {q a1 a2 a3 mx : Int32} {v1 v2 v3 : Int64} {H : Hs} (h : HV a1 a2 0 v1 v2 0 mx H L2 2) : ∃ H', addD (t3 q q q) (u3 0 1 2) (u3 v1 v2 v3) (t3 a1 a2 a3) mx 2 H = some H' ∧ HV a1 a2 a3 v1 v2 v3 mx H' L3 3 := by
  have h' : HV a1 a2 a3 v1 v2 v3 mx H L2 2 := h.congr (fun _ => Iff.rfl) (fun y z hy hz => by rcases hy with rfl | rfl <;> rcases hz with rfl | rfl <;> rfl) (fun y hy => by rcases hy with rfl | rfl <;> rfl)
  obtain ⟨H', h1, h2⟩ := addD_ok (qs := t3 q q q) (os := u3 0 1 2) (vs := u3 v1 v2 v3) (ats := t3 a1 a2 a3) (Lv := L3) (x := 2) (fun y hy => hy.sl) cmp3 (Kv_as _ _ _) (Kv_tr _ _ _) h' (by decide) (Or.inr (Or.inr rfl)) (fun q => q.elim (by decide) (by decide)) (fun y hy => hy.l3) (rd_t (Or.inr (Or.inr rfl)) ..)
  exact ⟨H', h1, h2.congr (fun y => ⟨fun q => q.elim (fun e => Or.inr (Or.inl e)) (fun q => q.elim (fun e => Or.inr (Or.inr e)) Or.inl), fun q => q.elim (fun e => Or.inr (Or.inr e)) (fun q => q.elim Or.inl (fun e => Or.inr (Or.inl e)))⟩) (fun _ _ _ _ => rfl) (fun _ _ => rfl)⟩
/-- the third, in the place of the first -/
theorem put3o {q a1 a2 a3 mx : Int32} {v1 v2 v3 : Int64} {H : Hs} (h : HV a1 a2 0 v1 v2 0 mx H L2 2) : ∃ H1 H', remD (t3 q q 0) (u3 0 1 0) (u3 v1 v2 0) (t3 a1 a2 0) mx 0 H = some H1 ∧ addD (t3 q q 0) (u3 0 1 0) (u3 v3 v2 0) (t3 a3 a2 0) mx 0 H1 = some H' ∧ HV a3 a2 0 v3 v2 0 mx H' L2 2 := by
  obtain ⟨H1, h1, h2⟩ := remD_ok (qs := t3 q q 0) (os := u3 0 1 0) (vs := u3 v1 v2 0) (ats := t3 a1 a2 0) (Lv := L2) (x := 0) (n := 1) (fun y hy => hy.l3.sl) cmp2 (Kv_as _ _ _) h (by decide) (Or.inl rfl) (fun y hy => hy) (rd_t (Or.inl rfl) ..)
  have h' : HV a3 a2 0 v3 v2 0 mx H1 (fun y => y = 1) 1 := h2.congr (fun y => ⟨fun e => ⟨Or.inr e, by rw [e]; decide⟩, fun q => q.1.elim (fun e => absurd e q.2) id⟩) (fun y z hy hz => by
    rcases hy with ⟨rfl | rfl, ny⟩ <;> rcases hz with ⟨rfl | rfl, nz⟩ <;> first | exact absurd rfl ny | exact absurd rfl nz | rfl) (fun y hy => by
    rcases hy with ⟨rfl | rfl, ny⟩ <;> first | exact absurd rfl ny | rfl)
  obtain ⟨H', h3, h4⟩ := addD_ok (qs := t3 q q 0) (os := u3 0 1 0) (vs := u3 v3 v2 0) (ats := t3 a3 a2 0) (Lv := L2) (x := 0) (fun y hy => hy.l3.sl) cmp2 (Kv_as _ _ _) (Kv_tr _ _ _) h' (by decide) (Or.inl rfl) (by decide) (fun y hy => Or.inr hy) (rd_t (Or.inl rfl) ..)
  exact ⟨H1, H', h1, h3, h4.congr (fun y => Iff.rfl) (fun _ _ _ _ => rfl) (fun _ _ => rfl)⟩
/-- another bound of attempts -/
theorem remax {q z us mx mx' : Int32} {w : Int64} {Lv : Int32 → Prop} {n : Nat} {b0 b1 b2 : Int32} {w0 w1 w2 : Int64} {R S hp : List Int32} {sr ss : Int32} (hS : Stg q z w us Lv n) (hq : ¬ q = -1) (h : HV b0 b1 b2 w0 w1 w2 mx (R, sr, S, ss, hp) Lv n) :
    ∃ H', maxL (t3 q q z) (u3 0 1 w) (u3 w0 w1 w2) (t3 b0 b1 b2) mx' us 4 0 (R, 0, S, 0, hp) = some H' ∧ HV b0 b1 b2 w0 w1 w2 mx' H' Lv n := by
  obtain ⟨m1, m2, m3⟩ := h.maps
  have hc := hS.cmp w0 w1 w2
  have hl := hS.l3
  have z0 : HV b0 b1 b2 w0 w1 w2 mx' (R, 0, S, 0, hp) (fun _ => False) 0 := hi0 m1 m2 m3
  have hL0 : Lv 0 ∧ Lv 1 := by rcases hS with ⟨rfl, rfl, rfl, rfl, rfl⟩ | ⟨rfl, rfl, rfl, rfl, rfl⟩ <;> exact ⟨Or.inl rfl, by first | exact Or.inr rfl | exact Or.inr (Or.inl rfl)⟩
  obtain ⟨H1, e1, k1⟩ := addD_ok (x := 0) (ats := t3 b0 b1 b2) (fun y hy => (hl y hy).sl) hc (Kv_as _ _ _) (Kv_tr _ _ _) z0 (by decide) hL0.1 id (fun y h => h.elim) (rd_t (Or.inl rfl) ..)
  obtain ⟨H2, e2, k2⟩ := addD_ok (x := 1) (ats := t3 b0 b1 b2) (fun y hy => (hl y hy).sl) hc (Kv_as _ _ _) (Kv_tr _ _ _) k1 (by decide) hL0.2 (fun q => q.elim (by decide) id) (fun y h => h.elim (fun e => by rw [e]; exact hL0.1) False.elim) (rd_t (Or.inr (Or.inl rfl)) ..)
  have u0 : 0 < us ∧ (0 : Int32) + 1 < us := by rcases hS with ⟨rfl, rfl, rfl, rfl, rfl⟩ | ⟨rfl, rfl, rfl, rfl, rfl⟩ <;> exact ⟨by decide, by decide⟩
  rw [max_step u0.1 (show rdA (t3 q q z) 0 = some q from rfl) hq e1, max_step u0.2 (show rdA (t3 q q z) (0 + 1) = some q from rfl) hq e2]
  rcases hS with ⟨rfl, rfl, rfl, rfl, rfl⟩ | ⟨rfl, rfl, rfl, rfl, rfl⟩
  · exact ⟨H2, max_end (by decide), k2.congr (fun y => ⟨fun q => q.elim (fun e => Or.inr (Or.inl e)) Or.inl, fun q => q.elim Or.inr (fun q => q.elim Or.inl False.elim)⟩) (fun _ _ _ _ => rfl) (fun _ _ => rfl)⟩
  · obtain ⟨H3, e3, k3⟩ := addD_ok (x := 2) (ats := t3 b0 b1 b2) (fun y hy => (hl y hy).sl) hc (Kv_as _ _ _) (Kv_tr _ _ _) k2 (by decide) (Or.inr (Or.inr rfl)) (fun q => q.elim (by decide) (fun q => q.elim (by decide) id)) (fun y h => h.elim (fun e => Or.inr (Or.inl e)) (fun h => h.elim Or.inl False.elim)) (rd_t (Or.inr (Or.inr rfl)) ..)
    rw [max_step (by decide) (show rdA (t3 z z z) (0 + 1 + 1) = some z from rfl) hq e3]
    exact ⟨H3, max_end (by decide), k3.congr (fun y => ⟨fun q => q.elim (fun e => Or.inr (Or.inr (Or.inl e))) (fun q => q.elim (fun e => Or.inr (Or.inl e)) Or.inl), fun q => q.elim (fun e => Or.inr (Or.inr e)) (fun q => q.elim (fun e => Or.inr (Or.inl e)) (fun q => q.elim Or.inl False.elim))⟩) (fun _ _ _ _ => rfl) (fun _ _ => rfl)⟩
/-- the second one away -/
theorem gone {q z us mx fr : Int32} {w : Int64} {Lv : Int32 → Prop} {n : Nat} {b0 b1 b2 : Int32} {w0 w1 w2 : Int64} {H : Hs} (hS : Stg q z w us Lv n) (h : HV b0 b1 b2 w0 w1 w2 mx H Lv n) :
    ∃ R sr S ss hp hp' n', n' ≤ 2 ∧ remD (t3 q q z) (u3 0 1 w) (u3 w0 w1 w2) (t3 b0 b1 b2) mx 1 H = some (R, sr, S, ss, hp) ∧ wrA hp 1 fr = some hp' ∧ HV b0 b1 b2 w0 w1 w2 mx (R, sr, S, ss, hp) (fun y => Lv y ∧ ¬ y = 1) n' := by
  obtain ⟨l1, m, rfl, hm⟩ := hS.one
  obtain ⟨⟨R, sr, S, ss, hp⟩, h1, h2⟩ := remD_ok (x := 1) (ats := t3 b0 b1 b2) (fun y hy => (hS.l3 y hy).sl) (hS.cmp w0 w1 w2) (Kv_as _ _ _) h hm l1 (fun y h => h) (rd_t (Or.inr (Or.inl rfl)) ..)
  obtain ⟨-, -, Q, mh⟩ := h2.maps
  obtain ⟨hp', e, -⟩ := Mp.wr mh (i := 1) (by decide) (by decide) fr
  exact ⟨R, sr, S, ss, hp, hp', m, hm, h1, e, h2⟩
/-! the least -/
def isMin (x : Int64) (P : Int64 → Prop) : Prop := (∀ y, P y → ¬ y < x) ∧ (x = 9223372036854775807 ∨ P x)
theorem own_top (x : Int64) : ¬ (9223372036854775807 : Int64) < x := by
  rw [Int64.lt_iff_toInt_lt, show (9223372036854775807 : Int64).toInt = 9223372036854775807 by decide]
  have := x.toInt_lt
  omega
theorem isMin.eq {x y : Int64} {P Q : Int64 → Prop} (h : isMin x P) (k : isMin y Q) (e : ∀ z, P z ↔ Q z) : x = y := by
  have h1 : ¬ y < x := k.2.elim (fun q => by rw [q]; exact own_top x) (fun q => h.1 y ((e y).mpr q))
  have h2 : ¬ x < y := h.2.elim (fun q => by rw [q]; exact own_top y) (fun q => k.1 x ((e x).mp q))
  rw [Int64.lt_iff_toInt_lt] at h1 h2
  exact Int64.toInt_inj.mp (by omega)
theorem isMin.step {x : Int64} {P : Int64 → Prop} (h : isMin x P) (c : Int32) (v : Int64) : isMin (minI x c v) (fun z => P z ∨ (¬ c = 0 ∧ z = v)) := by
  rw [minI]
  by_cases hc : c = 0
  · rw [if_pos hc]
    exact ⟨fun y q => q.elim (h.1 y) (fun q => absurd hc q.1), h.2.elim Or.inl (fun q => Or.inr (Or.inl q))⟩
  · rw [if_neg hc, mn]
    by_cases hv : v < x
    · rw [if_pos hv]
      refine ⟨fun y q => ?_, Or.inr (Or.inr ⟨hc, rfl⟩)⟩
      rcases q with q | ⟨-, rfl⟩
      · have := h.1 y q
        rw [Int64.lt_iff_toInt_lt] at *
        omega
      · rw [Int64.lt_iff_toInt_lt]; omega
    · rw [if_neg hv]
      refine ⟨fun y q => ?_, h.2.elim Or.inl (fun q => Or.inr (Or.inl q))⟩
      rcases q with q | ⟨-, rfl⟩
      · exact h.1 y q
      · exact hv
theorem min3 {A1 A2 A3 : Prop} {c1 c2 c3 : Int32} {v1 v2 v3 x : Int64} (h : isMin x (fun z => (A1 ∧ z = v1) ∨ (A2 ∧ z = v2) ∨ (A3 ∧ z = v3))) (k1 : ¬ c1 = 0 ↔ A1) (k2 : ¬ c2 = 0 ↔ A2) (k3 : ¬ c3 = 0 ↔ A3) : x = minI (minI (minI 9223372036854775807 c1 v1) c2 v2) c3 v3 := by
  have z : isMin 9223372036854775807 (fun _ => False) := ⟨fun _ q => q.elim, Or.inl rfl⟩
  refine h.eq (((z.step c1 v1).step c2 v2).step c3 v3) fun u => ?_
  rw [k1, k2, k3]
  constructor
  · rintro (q | q | q)
    · exact Or.inl (Or.inl (Or.inr q))
    · exact Or.inl (Or.inr q)
    · exact Or.inr q
  · rintro (((q | q) | q) | q)
    · exact q.elim
    · exact Or.inl q
    · exact Or.inr (Or.inl q)
    · exact Or.inr (Or.inr q)
def Fst (R : List Int32) (sz : Int32) (vs : List Int64) (v : Int64) : Prop := (sz = 0 ∧ v = 9223372036854775807) ∨ (¬ sz = 0 ∧ ∃ x, rdA R 0 = some x ∧ rdA vs x = some v)
theorem fst_of {R : List Int32} {Q P : Int32 → Int32} {M : List Int32} {w0 w1 w2 : Int64} (hR : Mp 12 R Q) (hA : AtH Q P 0 M) (hl : M.length ≤ 3) (hM : RM (Kv w0 w1 w2) M) (h3 : ∀ y ∈ M, L3 y) : ∃ v, Fst R M.length.toInt32 (u3 w0 w1 w2) v ∧ isMin v (fun z => ∃ y, y ∈ M ∧ sel w0 w1 w2 y = z) := by
  match M, hA, hl, hM, h3 with
  | [], _, _, _, _ => exact ⟨_, Or.inl ⟨rfl, rfl⟩, fun y ⟨u, q, _⟩ => absurd q (by simp), Or.inl rfl⟩
  | c :: r, hA, hl, hM, h3 =>
    refine ⟨sel w0 w1 w2 c, Or.inr ⟨?_, c, ?_, rd_u (h3 c (List.mem_cons_self ..)) ..⟩, ?_, Or.inr ⟨c, List.mem_cons_self .., rfl⟩⟩
    · have : (c :: r).length = 1 ∨ (c :: r).length = 2 ∨ (c :: r).length = 3 := by simp only [List.length_cons] at *; omega
      rcases this with e | e | e <;> rw [e] <;> decide
    · rw [hR 0 (by decide) (by decide), hA.1]
    · rintro z ⟨y, hy, rfl⟩
      rcases List.mem_cons.mp hy with rfl | hy
      · rw [Int64.lt_iff_toInt_lt]; omega
      · have := hM c r rfl y hy
        rw [Kv_lt] at this
        rw [Int64.lt_iff_toInt_lt]; omega
/-- whose slots they are -/
def Dsc (rp : Int32) (Lv : Int32 → Prop) (b0 b1 b2 : Int32) (w0 w1 w2 : Int64) (a1 a2 a3 : Int32) (v1 v2 v3 : Int64) : Prop :=
  (¬ rp = 0 ∧ Lv = L2 ∧ b0 = a3 ∧ b1 = a2 ∧ w0 = v3 ∧ w1 = v2) ∨ (rp = 0 ∧ Lv = L3 ∧ b0 = a1 ∧ b1 = a2 ∧ b2 = a3 ∧ w0 = v1 ∧ w1 = v2 ∧ w2 = v3)
theorem Dsc.set {rp rm : Int32} {Lv In : Int32 → Prop} {b0 b1 b2 a1 a2 a3 : Int32} {w0 w1 w2 v1 v2 v3 : Int64} (h : Dsc rp Lv b0 b1 b2 w0 w1 w2 a1 a2 a3 v1 v2 v3) (hI : ∀ y, In y ↔ Lv y ∧ (¬ rm = 0 → ¬ y = 1)) (c : Int32 → Prop) (z : Int64) :
    (∃ y, (In y ∧ c (sel b0 b1 b2 y)) ∧ sel w0 w1 w2 y = z) ↔ ((rp = 0 ∧ c a1) ∧ z = v1) ∨ ((rm = 0 ∧ c a2) ∧ z = v2) ∨ (c a3 ∧ z = v3) := by
  rcases h with ⟨hr, rfl, rfl, rfl, rfl, rfl⟩ | ⟨hr, rfl, rfl, rfl, rfl, rfl, rfl, rfl⟩
  · constructor
    · rintro ⟨y, ⟨hy, hc⟩, rfl⟩
      obtain ⟨hy, hm⟩ := (hI y).mp hy
      rcases hy with rfl | rfl
      · exact Or.inr (Or.inr ⟨hc, rfl⟩)
      · exact Or.inr (Or.inl ⟨⟨Classical.byContradiction fun q => hm q rfl, hc⟩, rfl⟩)
    · rintro (⟨⟨q, -⟩, -⟩ | ⟨⟨q, hc⟩, rfl⟩ | ⟨hc, rfl⟩)
      · exact absurd q hr
      · exact ⟨1, ⟨(hI 1).mpr ⟨Or.inr rfl, fun q' => absurd q q'⟩, hc⟩, rfl⟩
      · exact ⟨0, ⟨(hI 0).mpr ⟨Or.inl rfl, fun _ => by decide⟩, hc⟩, rfl⟩
  · constructor
    · rintro ⟨y, ⟨hy, hc⟩, rfl⟩
      obtain ⟨hy, hm⟩ := (hI y).mp hy
      rcases hy with rfl | rfl | rfl
      · exact Or.inl ⟨⟨hr, hc⟩, rfl⟩
      · exact Or.inr (Or.inl ⟨⟨Classical.byContradiction fun q => hm q rfl, hc⟩, rfl⟩)
      · exact Or.inr (Or.inr ⟨hc, rfl⟩)
    · rintro (⟨⟨q, hc⟩, rfl⟩ | ⟨⟨q, hc⟩, rfl⟩ | ⟨hc, rfl⟩)
      · exact ⟨0, ⟨(hI 0).mpr ⟨Or.inl rfl, fun _ => by decide⟩, hc⟩, rfl⟩
      · exact ⟨1, ⟨(hI 1).mpr ⟨Or.inr (Or.inl rfl), fun q' => absurd q q'⟩, hc⟩, rfl⟩
      · exact ⟨2, ⟨(hI 2).mpr ⟨Or.inr (Or.inr rfl), fun _ => by decide⟩, hc⟩, rfl⟩
theorem fins {rp rm lx mx q z us : Int32} {w : Int64} {n m : Nat} {Lv In : Int32 → Prop} {b0 b1 b2 a1 a2 a3 : Int32} {w0 w1 w2 v1 v2 v3 : Int64} {R S hp : List Int32} {sr ss : Int32} (hS : Stg q z w us Lv n) (hD : Dsc rp Lv b0 b1 b2 w0 w1 w2 a1 a2 a3 v1 v2 v3) (hl : lx = mx) (h : HV b0 b1 b2 w0 w1 w2 mx (R, sr, S, ss, hp) In m) (hn : m ≤ 3) (hI : ∀ y, In y ↔ Lv y ∧ (¬ rm = 0 → ¬ y = 1)) :
    ∃ vr vl, Fst R sr (u3 w0 w1 w2) vr ∧ Fst S ss (u3 w0 w1 w2) vl ∧ isMin vr (fun z => ((rp = 0 ∧ a1 < lx) ∧ z = v1) ∨ ((rm = 0 ∧ a2 < lx) ∧ z = v2) ∨ (a3 < lx ∧ z = v3)) ∧ isMin vl (fun z => ((rp = 0 ∧ ¬ a1 < lx) ∧ z = v1) ∨ ((rm = 0 ∧ ¬ a2 < lx) ∧ z = v2) ∨ (¬ a3 < lx ∧ z = v3)) := by
  subst hl
  obtain ⟨MR, MS, ⟨QR, QS, P, b1', b2', b3, b4, b5, b6, b7⟩, h2, h3, h4, h5, h6, h7, h8⟩ := h
  dsimp only at b1' b2' b3 b4 b5
  subst b4 b5
  obtain ⟨vr, r1, r2⟩ := fst_of b1' b6 (by omega) h5 (fun y hy => hS.l3 y ((hI y).mp ((h7 y).mp hy).1).1)
  obtain ⟨vl, l1, l2⟩ := fst_of b2' b7 (by omega) h6 (fun y hy => hS.l3 y ((hI y).mp ((h8 y).mp hy).1).1)
  have eR : (fun z => ∃ y, y ∈ MR ∧ sel w0 w1 w2 y = z) = (fun z => ((rp = 0 ∧ a1 < lx) ∧ z = v1) ∨ ((rm = 0 ∧ a2 < lx) ∧ z = v2) ∨ (a3 < lx ∧ z = v3)) := by
    funext u
    simp only [h7]
    exact propext (hD.set hI (fun x => x < lx) u)
  have eL : (fun z => ∃ y, y ∈ MS ∧ sel w0 w1 w2 y = z) = (fun z => ((rp = 0 ∧ ¬ a1 < lx) ∧ z = v1) ∨ ((rm = 0 ∧ ¬ a2 < lx) ∧ z = v2) ∨ (¬ a3 < lx ∧ z = v3)) := by
    funext u
    simp only [h8]
    exact propext (hD.set hI (fun x => ¬ x < lx) u)
  rw [eR] at r2
  rw [eL] at l2
  exact ⟨vr, vl, r1, l1, r2, l2⟩
theorem Stg.le {q z us : Int32} {w : Int64} {Lv : Int32 → Prop} {n : Nat} (h : Stg q z w us Lv n) : n ≤ 3 := by
  rcases h with ⟨rfl, rfl, rfl, rfl, rfl⟩ | ⟨rfl, rfl, rfl, rfl, rfl⟩ <;> decide
theorem own_q (p : Int32) : ¬ p &&& 2147483647 = -1 := fun h => by
  have h' : (p &&& 2147483647) &&& (-2147483648 : Int32) = -1 &&& (-2147483648 : Int32) := by rw [h]
  rw [Int32.and_assoc, show (2147483647 &&& -2147483648 : Int32) = 0 by decide, Int32.and_zero] at h'
  exact absurd h' (by decide)
theorem pd__28_29Lcom_2fexample_2fpulld_2fpulld_2fbroker_2fInFlightDeliveries_24ByVisibleAt_3b : parseMethodDescriptor "()Lcom/example/pulld/pulld/broker/InFlightDeliveries$ByVisibleAt;" = some ⟨[], (some (.object "com/example/pulld/pulld/broker/InFlightDeliveries$ByVisibleAt"))⟩ := by decide +kernel
theorem pd__28IJ_29V : parseMethodDescriptor "(IJ)V" = some ⟨[.int, .long], none⟩ := by decide +kernel
theorem pd__28IJIJJ_29V : parseMethodDescriptor "(IJIJJ)V" = some ⟨[.int, .long, .int, .long, .long], none⟩ := by decide +kernel
theorem pd__28JZJ_29J : parseMethodDescriptor "(JZJ)J" = some ⟨[.long, .boolean, .long], (some .long)⟩ := by decide +kernel
theorem pd__28Lcom_2fexample_2fpulld_2fpulld_2fbroker_2fInFlight_3b_29V : parseMethodDescriptor "(Lcom/example/pulld/pulld/broker/InFlight;)V" = some ⟨[(.object "com/example/pulld/pulld/broker/InFlight")], none⟩ := by decide +kernel
set_option maxRecDepth 65536 in
set_option maxHeartbeats 40000000 in
theorem rm0 (l : Launch) (Z : State) (n0 : Nat) (w0 : Array Value) (hw : ∀ d ∈ tables_1, d.before w0 Z = true) (q0 : Int64) (q1 : Int64) (q2 : Int64) (p3 : Int32) (p4 : Int32) (p5 : Int32) :
    Meets l Z n0 x code maxLocals ret room_1 tables_1 #[(.long q0), (.long q1), (.long q2), (.int p3), (.int p4), (.int p5)] [] (fun v _ => v = some (.int 1)) := by
  refine Meets.of_go (ls := #[.val (.long q0), .second, .val (.long q1), .second, .val (.long q2), .second, .val (.int p3), .val (.int p4), .val (.int p5), .unset, .unset, .unset, .unset, .unset, .unset, .unset, .unset, .unset, .unset, .unset, .unset, .unset, .unset, .unset, .unset, .unset, .unset, .unset, .unset, .unset, .unset]) (plainFor_of_name (by first | (simp [plainName, overriddenIn]; done) | decide +kernel)) (fun m => by first | (simp [entryFrame, mkF, argsToLocals, Value.category, maxLocals]; done) | rfl) (fun D => ?_)
  show Go l Z n0 room_1 code 31 x (some .boolean) D _ 0 0 0 _ _ _
  have k95 : ∀ (qq : Int32) (a1 : Int32) (a2 : Int32) (a3 : Int32) (m0 : Int32) (m1 : Int32) (rp : Int32) (rm : Int32) (cm : Int32), ¬ qq = -1 → Go l Z n0 room_1 code 31 x (some .boolean) D [] 0 0 95 #[.val (.long q0), .second, .val (.long q1), .second, .val (.long q2), .second, .val (.int p3), .val (.int p4), .val (.int p5), .val (.int qq), .val (.int a1), .val (.int a2), .val (.int a3), .val (.int m0), .val (.int m1), .val (.int rp), .val (.int rm), .val (.int cm), .unset, .unset, .unset, .unset, .unset, .unset, .unset, .unset, .unset, .unset, .unset, .unset, .unset] [] (fun v _ => v = some (.int 1)) := by
    intro qq a1 a2 a3 m0 m1 rp rm cm hqq
    have k109 : ∀ (off : Int64), ((¬ rp = 0 ∧ off = 0) ∨ (rp = 0 ∧ off = 2)) → Go l Z n0 room_1 code 31 x (some .boolean) D [] 0 0 109 #[.val (.long q0), .second, .val (.long q1), .second, .val (.long q2), .second, .val (.int p3), .val (.int p4), .val (.int p5), .val (.int qq), .val (.int a1), .val (.int a2), .val (.int a3), .val (.int m0), .val (.int m1), .val (.int rp), .val (.int rm), .val (.int cm), .val (.long off), .second, .unset, .unset, .unset, .unset, .unset, .unset, .unset, .unset, .unset, .unset, .unset] [] (fun v _ => v = some (.int 1)) := by
      intro off hoff
      refine Go.newO (pc' := 112) (cells' := 1) (slots' := 13) (W' := fun d => [(d, .inl ("com/example/pulld/pulld/broker/InFlightDeliveries", [("returning", "Lcom/example/pulld/pulld/broker/InFlightDeliveries$ByVisibleAt;", .null), ("lastAttempts", "Lcom/example/pulld/pulld/broker/InFlightDeliveries$ByVisibleAt;", .null), ("maxAttempts", "I", (.int 0)), ("count", "I", (.int 0)), ("usedSlots", "I", (.int 0)), ("firstFree", "I", (.int 0)), ("queues", "[I", .null), ("offsets", "[J", .null), ("attempts", "[I", .null), ("visibleAts", "[J", .null), ("ids", "[J", .null), ("heapPlaces", "[I", .null), ("table", "[I", .null)]))]) at_109 (hw _ (List.mem_of_getElem? (i := 1) rfl)) (hw _ (List.mem_of_getElem? (i := 2) rfl)) (hw _ (List.mem_of_getElem? (i := 3) rfl)) (lay_cons (ty := (.object "com/example/pulld/pulld/broker/InFlightDeliveries$ByVisibleAt")) (Or.inr (hw _ (List.mem_of_getElem? (i := 23) rfl))) (by decide) rfl (lay_cons (ty := (.object "com/example/pulld/pulld/broker/InFlightDeliveries$ByVisibleAt")) (Or.inr (hw _ (List.mem_of_getElem? (i := 25) rfl))) (by decide) rfl (lay_cons (ty := .int) (Or.inl (hw _ (List.mem_of_getElem? (i := 44) rfl))) (by decide) rfl (lay_cons (ty := .int) (Or.inl (hw _ (List.mem_of_getElem? (i := 115) rfl))) (by decide) rfl (lay_cons (ty := .int) (Or.inl (hw _ (List.mem_of_getElem? (i := 93) rfl))) (by decide) rfl (lay_cons (ty := .int) (Or.inl (hw _ (List.mem_of_getElem? (i := 27) rfl))) (by decide) rfl (lay_cons (ty := (.array .int)) (Or.inl (hw _ (List.mem_of_getElem? (i := 29) rfl))) (by decide) rfl (lay_cons (ty := (.array .long)) (Or.inl (hw _ (List.mem_of_getElem? (i := 32) rfl))) (by decide) rfl (lay_cons (ty := (.array .int)) (Or.inl (hw _ (List.mem_of_getElem? (i := 34) rfl))) (by decide) rfl (lay_cons (ty := (.array .long)) (Or.inl (hw _ (List.mem_of_getElem? (i := 36) rfl))) (by decide) rfl (lay_cons (ty := (.array .long)) (Or.inl (hw _ (List.mem_of_getElem? (i := 38) rfl))) (by decide) rfl (lay_cons (ty := (.array .int)) (Or.inl (hw _ (List.mem_of_getElem? (i := 40) rfl))) (by decide) rfl (lay_cons (ty := (.array .int)) (Or.inl (hw _ (List.mem_of_getElem? (i := 42) rfl))) (by decide) rfl lay_nil))))))))))))) (by decide) (by decide) (by decide) rfl rfl (fun _ => rfl) rfl (fun d => ?_)
      refine Go.dup (pc' := 113) at_112 rfl rfl ?_
      refine Go.iload (pc' := 115) at_113 rfl rfl ?_
      refine Go.callI (pc' := 118) (W1 := 1) (cells' := 12) (slots' := 19) (argsL := [(.int m0)]) (rest := [(.ref d)]) (y' := (⟨"com/example/pulld/pulld/broker/InFlightDeliveries", "<init>", "(I)V"⟩ : MethodName)) (a := d) at_115 rfl (hw _ (List.mem_of_getElem? (i := 4) rfl)) (hw _ (List.mem_of_getElem? (i := 5) rfl)) (hw _ (List.mem_of_getElem? (i := 3) rfl)) (hw _ (List.mem_of_getElem? (i := 6) rfl)) (by decide) (dinit l Z n0 w0 hw d m0) (by decide) (by decide) rfl (lenOf pd__28I_29V rfl) rfl (Nat.le_of_eq rfl) (by decide) (by decide) rfl rfl rfl (fun v W' hF => ?_)
      obtain ⟨rfl, r, s, aq, ao, aa, av, ai, ah, ab, hr, hs, rfl⟩ := hF
      refine Go.nov ?_
      refine Go.astore (pc' := 120) (ls' := #[.val (.long q0), .second, .val (.long q1), .second, .val (.long q2), .second, .val (.int p3), .val (.int p4), .val (.int p5), .val (.int qq), .val (.int a1), .val (.int a2), .val (.int a3), .val (.int m0), .val (.int m1), .val (.int rp), .val (.int rm), .val (.int cm), .val (.long off), .second, .val (.ref d), .unset, .unset, .unset, .unset, .unset, .unset, .unset, .unset, .unset, .unset]) at_118 rfl rfl rfl ?_
      refine Go.newO (pc' := 123) (cells' := 13) (slots' := 24) (W' := fun f1 => (DW d r s aq ao aa av ai ah ab hr hs m0 0 0 (-1 : Int32) 0 0 [] [] [] [] [] [] [] [] [] ++ [(f1, .inl ("com/example/pulld/pulld/broker/InFlight", [("queue", "I", (.int 0)), ("offset", "J", (.long 0)), ("attempt", "I", (.int 0)), ("visibleAt", "J", (.long 0)), ("id", "J", (.long 0))]))])) at_120 (hw _ (List.mem_of_getElem? (i := 45) rfl)) (hw _ (List.mem_of_getElem? (i := 46) rfl)) (hw _ (List.mem_of_getElem? (i := 47) rfl)) (lay_cons (ty := .int) (Or.inr (hw _ (List.mem_of_getElem? (i := 58) rfl))) (by decide) rfl (lay_cons (ty := .long) (Or.inr (hw _ (List.mem_of_getElem? (i := 60) rfl))) (by decide) rfl (lay_cons (ty := .int) (Or.inr (hw _ (List.mem_of_getElem? (i := 62) rfl))) (by decide) rfl (lay_cons (ty := .long) (Or.inr (hw _ (List.mem_of_getElem? (i := 64) rfl))) (by decide) rfl (lay_cons (ty := .long) (Or.inr (hw _ (List.mem_of_getElem? (i := 66) rfl))) (by decide) rfl lay_nil))))) (by decide) (by decide) (by decide) rfl rfl (fun _ => rfl) rfl (fun f1 => ?_)
      refine Go.dup (pc' := 124) at_123 rfl rfl ?_
      refine Go.iload (pc' := 126) at_124 rfl rfl ?_
      refine Go.lconst (pc' := 127) (v := (0 : Int64)) at_126 rfl rfl ?_
      refine Go.iload (pc' := 129) at_127 rfl rfl ?_
      refine Go.lloadN (pc' := 130) at_129 rfl rfl ?_
      refine Go.lconst (pc' := 131) (v := (1 : Int64)) at_130 rfl rfl ?_
      refine Go.callI (pc' := 134) (W1 := 1) (cells' := 13) (slots' := 24) (argsL := [(.int qq), (.long (0 : Int64)), (.int a1), (.long q0), (.long (1 : Int64))]) (rest := [(.ref f1)]) (y' := (⟨"com/example/pulld/pulld/broker/InFlight", "<init>", "(IJIJJ)V"⟩ : MethodName)) (a := f1) at_131 rfl (hw _ (List.mem_of_getElem? (i := 48) rfl)) (hw _ (List.mem_of_getElem? (i := 49) rfl)) (hw _ (List.mem_of_getElem? (i := 47) rfl)) (hw _ (List.mem_of_getElem? (i := 50) rfl)) (by decide) (finit1 l Z n0 w0 hw f1 qq (0 : Int64) a1 q0 (1 : Int64) d r s aq ao aa av ai ah ab hr hs m0 0 0 (-1 : Int32) 0 0 [] [] [] [] [] [] [] [] [] ) (by decide) (by decide) rfl (lenOf pd__28IJIJJ_29V rfl) rfl (Nat.le_of_eq rfl) (by decide) (by decide) rfl rfl rfl (fun v W' hF => ?_)
      obtain ⟨rfl, rfl⟩ := hF
      refine Go.nov ?_
      refine Go.astore (pc' := 136) (ls' := #[.val (.long q0), .second, .val (.long q1), .second, .val (.long q2), .second, .val (.int p3), .val (.int p4), .val (.int p5), .val (.int qq), .val (.int a1), .val (.int a2), .val (.int a3), .val (.int m0), .val (.int m1), .val (.int rp), .val (.int rm), .val (.int cm), .val (.long off), .second, .val (.ref d), .val (.ref f1), .unset, .unset, .unset, .unset, .unset, .unset, .unset, .unset, .unset]) at_134 rfl rfl rfl ?_
      refine Go.newO (pc' := 139) (cells' := 14) (slots' := 29) (W' := fun f2 => (DW d r s aq ao aa av ai ah ab hr hs m0 0 0 (-1 : Int32) 0 0 [] [] [] [] [] [] [] [] [] ++ [(f1, .inl ("com/example/pulld/pulld/broker/InFlight", [("queue", "I", (.int qq)), ("offset", "J", (.long (0 : Int64))), ("attempt", "I", (.int a1)), ("visibleAt", "J", (.long q0)), ("id", "J", (.long (1 : Int64)))])), (f2, .inl ("com/example/pulld/pulld/broker/InFlight", [("queue", "I", (.int 0)), ("offset", "J", (.long 0)), ("attempt", "I", (.int 0)), ("visibleAt", "J", (.long 0)), ("id", "J", (.long 0))]))])) at_136 (hw _ (List.mem_of_getElem? (i := 45) rfl)) (hw _ (List.mem_of_getElem? (i := 46) rfl)) (hw _ (List.mem_of_getElem? (i := 47) rfl)) (lay_cons (ty := .int) (Or.inr (hw _ (List.mem_of_getElem? (i := 58) rfl))) (by decide) rfl (lay_cons (ty := .long) (Or.inr (hw _ (List.mem_of_getElem? (i := 60) rfl))) (by decide) rfl (lay_cons (ty := .int) (Or.inr (hw _ (List.mem_of_getElem? (i := 62) rfl))) (by decide) rfl (lay_cons (ty := .long) (Or.inr (hw _ (List.mem_of_getElem? (i := 64) rfl))) (by decide) rfl (lay_cons (ty := .long) (Or.inr (hw _ (List.mem_of_getElem? (i := 66) rfl))) (by decide) rfl lay_nil))))) (by decide) (by decide) (by decide) rfl rfl (fun _ => rfl) rfl (fun f2 => ?_)
      refine Go.dup (pc' := 140) at_139 rfl rfl ?_
      refine Go.iload (pc' := 142) at_140 rfl rfl ?_
      refine Go.lconst (pc' := 143) (v := (1 : Int64)) at_142 rfl rfl ?_
      refine Go.iload (pc' := 145) at_143 rfl rfl ?_
      refine Go.lloadN (pc' := 146) at_145 rfl rfl ?_
      refine Go.ldcL (pc' := 149) (v := (2 : Int64)) at_146 (hw _ (List.mem_of_getElem? (i := 67) rfl)) rfl ?_
      refine Go.callI (pc' := 152) (W1 := 1) (cells' := 14) (slots' := 29) (argsL := [(.int qq), (.long (1 : Int64)), (.int a2), (.long q1), (.long (2 : Int64))]) (rest := [(.ref f2)]) (y' := (⟨"com/example/pulld/pulld/broker/InFlight", "<init>", "(IJIJJ)V"⟩ : MethodName)) (a := f2) at_149 rfl (hw _ (List.mem_of_getElem? (i := 48) rfl)) (hw _ (List.mem_of_getElem? (i := 49) rfl)) (hw _ (List.mem_of_getElem? (i := 47) rfl)) (hw _ (List.mem_of_getElem? (i := 50) rfl)) (by decide) (finit2 l Z n0 w0 hw f1 f2 qq (1 : Int64) a2 q1 (2 : Int64) d r s aq ao aa av ai ah ab hr hs m0 0 0 (-1 : Int32) 0 0 [] [] [] [] [] [] [] [] [] (.inl ("com/example/pulld/pulld/broker/InFlight", [("queue", "I", (.int qq)), ("offset", "J", (.long (0 : Int64))), ("attempt", "I", (.int a1)), ("visibleAt", "J", (.long q0)), ("id", "J", (.long (1 : Int64)))]))) (by decide) (by decide) rfl (lenOf pd__28IJIJJ_29V rfl) rfl (Nat.le_of_eq rfl) (by decide) (by decide) rfl rfl rfl (fun v W' hF => ?_)
      obtain ⟨rfl, rfl⟩ := hF
      refine Go.nov ?_
      refine Go.astore (pc' := 154) (ls' := #[.val (.long q0), .second, .val (.long q1), .second, .val (.long q2), .second, .val (.int p3), .val (.int p4), .val (.int p5), .val (.int qq), .val (.int a1), .val (.int a2), .val (.int a3), .val (.int m0), .val (.int m1), .val (.int rp), .val (.int rm), .val (.int cm), .val (.long off), .second, .val (.ref d), .val (.ref f1), .val (.ref f2), .unset, .unset, .unset, .unset, .unset, .unset, .unset, .unset]) at_152 rfl rfl rfl ?_
      refine Go.newO (pc' := 157) (cells' := 15) (slots' := 34) (W' := fun f3 => (DW d r s aq ao aa av ai ah ab hr hs m0 0 0 (-1 : Int32) 0 0 [] [] [] [] [] [] [] [] [] ++ [(f1, .inl ("com/example/pulld/pulld/broker/InFlight", [("queue", "I", (.int qq)), ("offset", "J", (.long (0 : Int64))), ("attempt", "I", (.int a1)), ("visibleAt", "J", (.long q0)), ("id", "J", (.long (1 : Int64)))])), (f2, .inl ("com/example/pulld/pulld/broker/InFlight", [("queue", "I", (.int qq)), ("offset", "J", (.long (1 : Int64))), ("attempt", "I", (.int a2)), ("visibleAt", "J", (.long q1)), ("id", "J", (.long (2 : Int64)))])), (f3, .inl ("com/example/pulld/pulld/broker/InFlight", [("queue", "I", (.int 0)), ("offset", "J", (.long 0)), ("attempt", "I", (.int 0)), ("visibleAt", "J", (.long 0)), ("id", "J", (.long 0))]))])) at_154 (hw _ (List.mem_of_getElem? (i := 45) rfl)) (hw _ (List.mem_of_getElem? (i := 46) rfl)) (hw _ (List.mem_of_getElem? (i := 47) rfl)) (lay_cons (ty := .int) (Or.inr (hw _ (List.mem_of_getElem? (i := 58) rfl))) (by decide) rfl (lay_cons (ty := .long) (Or.inr (hw _ (List.mem_of_getElem? (i := 60) rfl))) (by decide) rfl (lay_cons (ty := .int) (Or.inr (hw _ (List.mem_of_getElem? (i := 62) rfl))) (by decide) rfl (lay_cons (ty := .long) (Or.inr (hw _ (List.mem_of_getElem? (i := 64) rfl))) (by decide) rfl (lay_cons (ty := .long) (Or.inr (hw _ (List.mem_of_getElem? (i := 66) rfl))) (by decide) rfl lay_nil))))) (by decide) (by decide) (by decide) rfl rfl (fun _ => rfl) rfl (fun f3 => ?_)
      refine Go.dup (pc' := 158) at_157 rfl rfl ?_
      refine Go.iload (pc' := 160) at_158 rfl rfl ?_
      refine Go.lload (pc' := 162) at_160 rfl rfl ?_
      refine Go.iload (pc' := 164) at_162 rfl rfl ?_
      refine Go.lload (pc' := 166) at_164 rfl rfl ?_
      refine Go.ldcL (pc' := 169) (v := (3 : Int64)) at_166 (hw _ (List.mem_of_getElem? (i := 68) rfl)) rfl ?_
      refine Go.callI (pc' := 172) (W1 := 1) (cells' := 15) (slots' := 34) (argsL := [(.int qq), (.long off), (.int a3), (.long q2), (.long (3 : Int64))]) (rest := [(.ref f3)]) (y' := (⟨"com/example/pulld/pulld/broker/InFlight", "<init>", "(IJIJJ)V"⟩ : MethodName)) (a := f3) at_169 rfl (hw _ (List.mem_of_getElem? (i := 48) rfl)) (hw _ (List.mem_of_getElem? (i := 49) rfl)) (hw _ (List.mem_of_getElem? (i := 47) rfl)) (hw _ (List.mem_of_getElem? (i := 50) rfl)) (by decide) (finit3 l Z n0 w0 hw f1 f2 f3 qq off a3 q2 (3 : Int64) d r s aq ao aa av ai ah ab hr hs m0 0 0 (-1 : Int32) 0 0 [] [] [] [] [] [] [] [] [] (.inl ("com/example/pulld/pulld/broker/InFlight", [("queue", "I", (.int qq)), ("offset", "J", (.long (0 : Int64))), ("attempt", "I", (.int a1)), ("visibleAt", "J", (.long q0)), ("id", "J", (.long (1 : Int64)))])) (.inl ("com/example/pulld/pulld/broker/InFlight", [("queue", "I", (.int qq)), ("offset", "J", (.long (1 : Int64))), ("attempt", "I", (.int a2)), ("visibleAt", "J", (.long q1)), ("id", "J", (.long (2 : Int64)))]))) (by decide) (by decide) rfl (lenOf pd__28IJIJJ_29V rfl) rfl (Nat.le_of_eq rfl) (by decide) (by decide) rfl rfl rfl (fun v W' hF => ?_)
      obtain ⟨rfl, rfl⟩ := hF
      refine Go.nov ?_
      refine Go.astore (pc' := 174) (ls' := #[.val (.long q0), .second, .val (.long q1), .second, .val (.long q2), .second, .val (.int p3), .val (.int p4), .val (.int p5), .val (.int qq), .val (.int a1), .val (.int a2), .val (.int a3), .val (.int m0), .val (.int m1), .val (.int rp), .val (.int rm), .val (.int cm), .val (.long off), .second, .val (.ref d), .val (.ref f1), .val (.ref f2), .val (.ref f3), .unset, .unset, .unset, .unset, .unset, .unset, .unset]) at_172 rfl rfl rfl ?_
      refine Go.aload (pc' := 176) at_174 rfl rfl rfl ?_
      refine Go.aload (pc' := 178) at_176 rfl rfl rfl ?_
      obtain ⟨tb1, hl1, hM1, hn1⟩ := tab1 qq
      obtain ⟨⟨R1, sr1, S1, ss1, hp1⟩, hA1, hV1⟩ := put1 qq a1 m0 q0 0 0
      refine Go.callV (pc' := 181) (W1 := 0) (cells' := 25) (slots' := 158) (argsL := [(.ref f1)]) (rest := []) (y' := (⟨"com/example/pulld/pulld/broker/InFlightDeliveries", "put", "(Lcom/example/pulld/pulld/broker/InFlight;)V"⟩ : MethodName)) (a := d) (i := 0) at_178 (hw _ (List.mem_of_getElem? (i := 69) rfl)) (hw _ (List.mem_of_getElem? (i := 70) rfl)) (hw _ (List.mem_of_getElem? (i := 72) rfl)) (hw _ (List.mem_of_getElem? (i := 71) rfl)) (hw _ (List.mem_of_getElem? (i := 3) rfl)) (hw _ (List.mem_of_getElem? (i := 73) rfl)) (by decide) rfl (putF l Z n0 w0 hw d r s aq ao aa av ai ah ab hr hs m0 0 f1 f2 f3 (.inl ("com/example/pulld/pulld/broker/InFlight", [("queue", "I", (.int qq)), ("offset", "J", (.long (1 : Int64))), ("attempt", "I", (.int a2)), ("visibleAt", "J", (.long q1)), ("id", "J", (.long (2 : Int64)))])) (.inl ("com/example/pulld/pulld/broker/InFlight", [("queue", "I", (.int qq)), ("offset", "J", (.long off)), ("attempt", "I", (.int a3)), ("visibleAt", "J", (.long q2)), ("id", "J", (.long (3 : Int64)))])) qq (0 : Int64) a1 q0 (1 : Int64) tb1 R1 sr1 S1 ss1 hp1 hl1 hA1) (by decide) (by decide) rfl (lenOf pd__28Lcom_2fexample_2fpulld_2fpulld_2fbroker_2fInFlight_3b_29V rfl) rfl (Nat.le_of_eq rfl) (by decide) (by decide) rfl rfl rfl (fun v W' hF => ?_)
      obtain ⟨rfl, nq, no, na, nv, ni, nh, nt, nr, ns, rfl⟩ := hF
      refine Go.nov ?_
      refine Go.aload (pc' := 183) at_181 rfl rfl rfl ?_
      refine Go.aload (pc' := 185) at_183 rfl rfl rfl ?_
      obtain ⟨tb2, hl2, hT2⟩ := tab2 hM1 hn1
      obtain ⟨⟨R2, sr2, S2, ss2, hp2⟩, hA2, hV2⟩ := put2 (q := qq) (a2 := a2) (v2 := q1) hV1
      refine Go.callV (pc' := 188) (W1 := 0) (cells' := 25) (slots' := 158) (argsL := [(.ref f2)]) (rest := []) (y' := (⟨"com/example/pulld/pulld/broker/InFlightDeliveries", "put", "(Lcom/example/pulld/pulld/broker/InFlight;)V"⟩ : MethodName)) (a := d) (i := 0) at_185 (hw _ (List.mem_of_getElem? (i := 69) rfl)) (hw _ (List.mem_of_getElem? (i := 70) rfl)) (hw _ (List.mem_of_getElem? (i := 72) rfl)) (hw _ (List.mem_of_getElem? (i := 71) rfl)) (hw _ (List.mem_of_getElem? (i := 3) rfl)) (hw _ (List.mem_of_getElem? (i := 73) rfl)) (by decide) rfl (putN l Z n0 w0 hw f2 d r s nq no na nv ni nh nt nr ns m0 (0 + (1 : Int32)) ((0 : Int32) + (1 : Int32)) (-1 : Int32) sr1 ss1 (t3 qq 0 0) (u3 (0 : Int64) 0 0) (t3 a1 0 0) (u3 q0 0 0) (u3 (1 : Int64) 0 0) hp1 tb1 R1 S1 [(f1, .inl ("com/example/pulld/pulld/broker/InFlight", [("queue", "I", (.int qq)), ("offset", "J", (.long (0 : Int64))), ("attempt", "I", (.int a1)), ("visibleAt", "J", (.long q0)), ("id", "J", (.long (1 : Int64)))])), (f2, .inl ("com/example/pulld/pulld/broker/InFlight", [("queue", "I", (.int qq)), ("offset", "J", (.long (1 : Int64))), ("attempt", "I", (.int a2)), ("visibleAt", "J", (.long q1)), ("id", "J", (.long (2 : Int64)))])), (f3, .inl ("com/example/pulld/pulld/broker/InFlight", [("queue", "I", (.int qq)), ("offset", "J", (.long off)), ("attempt", "I", (.int a3)), ("visibleAt", "J", (.long q2)), ("id", "J", (.long (3 : Int64)))]))] 1 qq (1 : Int64) a2 q1 (2 : Int64) (-1 : Int32) (t3 qq qq 0) (u3 0 1 0) tb2 (t3 a1 a2 0) (u3 q0 q1 0) (u3 1 2 0) R2 sr2 S2 ss2 hp2 rfl (tab1_miss hM1 hn1) (by decide) (by decide) (show ¬ ((0 : Int32) + 1) = (12 : Int32) by decide) rfl rfl hl2 rfl rfl rfl hA2) (by decide) (by decide) rfl (lenOf pd__28Lcom_2fexample_2fpulld_2fpulld_2fbroker_2fInFlight_3b_29V rfl) rfl (Nat.le_of_eq rfl) (by decide) (by decide) rfl rfl rfl (fun v W' hF => ?_)
      obtain ⟨rfl, rfl⟩ := hF
      refine Go.nov ?_
      refine Go.aload (pc' := 190) at_188 rfl rfl rfl ?_
      refine Go.aload (pc' := 192) at_190 rfl rfl rfl ?_
      have k195 : ∀ (z : Int32) (w : Int64) (us : Int32) (ct : Int32) (b0 : Int32) (b1 : Int32) (b2 : Int32) (g0 : Int64) (g1 : Int64) (g2 : Int64) (ids : List Int64) (tb : List Int32) (R : List Int32) (sr : Int32) (S : List Int32) (ss : Int32) (hp : List Int32) (Lv : Int32 → Prop) (n : Nat), Stg qq z w us Lv n → Dsc rp Lv b0 b1 b2 g0 g1 g2 a1 a2 a3 q0 q1 q2 → TbX qq tb → HV b0 b1 b2 g0 g1 g2 m0 (R, sr, S, ss, hp) Lv n → Go l Z n0 room_1 code 31 x (some .boolean) D (DW d r s nq no na nv ni nh nt nr ns m0 ct us (-1 : Int32) sr ss (t3 qq qq z) (u3 0 1 w) (t3 b0 b1 b2) (u3 g0 g1 g2) ids hp tb R S ++ [(f1, .inl ("com/example/pulld/pulld/broker/InFlight", [("queue", "I", (.int qq)), ("offset", "J", (.long (0 : Int64))), ("attempt", "I", (.int a1)), ("visibleAt", "J", (.long q0)), ("id", "J", (.long (1 : Int64)))])), (f2, .inl ("com/example/pulld/pulld/broker/InFlight", [("queue", "I", (.int qq)), ("offset", "J", (.long (1 : Int64))), ("attempt", "I", (.int a2)), ("visibleAt", "J", (.long q1)), ("id", "J", (.long (2 : Int64)))])), (f3, .inl ("com/example/pulld/pulld/broker/InFlight", [("queue", "I", (.int qq)), ("offset", "J", (.long off)), ("attempt", "I", (.int a3)), ("visibleAt", "J", (.long q2)), ("id", "J", (.long (3 : Int64)))]))]) 25 158 195 #[.val (.long q0), .second, .val (.long q1), .second, .val (.long q2), .second, .val (.int p3), .val (.int p4), .val (.int p5), .val (.int qq), .val (.int a1), .val (.int a2), .val (.int a3), .val (.int m0), .val (.int m1), .val (.int rp), .val (.int rm), .val (.int cm), .val (.long off), .second, .val (.ref d), .val (.ref f1), .val (.ref f2), .val (.ref f3), .unset, .unset, .unset, .unset, .unset, .unset, .unset] [] (fun v _ => v = some (.int 1)) := by
        intro z w us ct b0 b1 b2 g0 g1 g2 ids tb R sr S ss hp Lv n hS hD hT hH
        have k215 : ∀ (mx : Int32) (lx : Int32) (R4 : List Int32) (sr4 : Int32) (S4 : List Int32) (ss4 : Int32) (hp4 : List Int32), lx = mx → HV b0 b1 b2 g0 g1 g2 mx (R4, sr4, S4, ss4, hp4) Lv n → Go l Z n0 room_1 code 31 x (some .boolean) D (DW d r s nq no na nv ni nh nt nr ns mx ct us (-1 : Int32) sr4 ss4 (t3 qq qq z) (u3 0 1 w) (t3 b0 b1 b2) (u3 g0 g1 g2) ids hp4 tb R4 S4 ++ [(f1, .inl ("com/example/pulld/pulld/broker/InFlight", [("queue", "I", (.int qq)), ("offset", "J", (.long (0 : Int64))), ("attempt", "I", (.int a1)), ("visibleAt", "J", (.long q0)), ("id", "J", (.long (1 : Int64)))])), (f2, .inl ("com/example/pulld/pulld/broker/InFlight", [("queue", "I", (.int qq)), ("offset", "J", (.long (1 : Int64))), ("attempt", "I", (.int a2)), ("visibleAt", "J", (.long q1)), ("id", "J", (.long (2 : Int64)))])), (f3, .inl ("com/example/pulld/pulld/broker/InFlight", [("queue", "I", (.int qq)), ("offset", "J", (.long off)), ("attempt", "I", (.int a3)), ("visibleAt", "J", (.long q2)), ("id", "J", (.long (3 : Int64)))]))]) 25 158 215 #[.val (.long q0), .second, .val (.long q1), .second, .val (.long q2), .second, .val (.int p3), .val (.int p4), .val (.int p5), .val (.int qq), .val (.int a1), .val (.int a2), .val (.int a3), .val (.int m0), .val (.int m1), .val (.int rp), .val (.int rm), .val (.int cm), .val (.long off), .second, .val (.ref d), .val (.ref f1), .val (.ref f2), .val (.ref f3), .val (.int lx), .unset, .unset, .unset, .unset, .unset, .unset] [] (fun v _ => v = some (.int 1)) := by
          intro mx lx R4 sr4 S4 ss4 hp4 hlx hH4
          have k228 : ∀ (ct1 : Int32) (fr1 : Int32) (qs1 : List Int32) (tb9 : List Int32) (R6 : List Int32) (sr6 : Int32) (S6 : List Int32) (ss6 : Int32) (hp6 : List Int32) (vr : Int64) (vl : Int64), Fst R6 sr6 (u3 g0 g1 g2) vr → Fst S6 ss6 (u3 g0 g1 g2) vl → isMin vr (fun z => ((rp = 0 ∧ a1 < lx) ∧ z = q0) ∨ ((rm = 0 ∧ a2 < lx) ∧ z = q1) ∨ (a3 < lx ∧ z = q2)) → isMin vl (fun z => ((rp = 0 ∧ ¬ a1 < lx) ∧ z = q0) ∨ ((rm = 0 ∧ ¬ a2 < lx) ∧ z = q1) ∨ (¬ a3 < lx ∧ z = q2)) → Go l Z n0 room_1 code 31 x (some .boolean) D (DW d r s nq no na nv ni nh nt nr ns mx ct1 us fr1 sr6 ss6 qs1 (u3 0 1 w) (t3 b0 b1 b2) (u3 g0 g1 g2) ids hp6 tb9 R6 S6 ++ [(f1, .inl ("com/example/pulld/pulld/broker/InFlight", [("queue", "I", (.int qq)), ("offset", "J", (.long (0 : Int64))), ("attempt", "I", (.int a1)), ("visibleAt", "J", (.long q0)), ("id", "J", (.long (1 : Int64)))])), (f2, .inl ("com/example/pulld/pulld/broker/InFlight", [("queue", "I", (.int qq)), ("offset", "J", (.long (1 : Int64))), ("attempt", "I", (.int a2)), ("visibleAt", "J", (.long q1)), ("id", "J", (.long (2 : Int64)))])), (f3, .inl ("com/example/pulld/pulld/broker/InFlight", [("queue", "I", (.int qq)), ("offset", "J", (.long off)), ("attempt", "I", (.int a3)), ("visibleAt", "J", (.long q2)), ("id", "J", (.long (3 : Int64)))]))]) 25 158 228 #[.val (.long q0), .second, .val (.long q1), .second, .val (.long q2), .second, .val (.int p3), .val (.int p4), .val (.int p5), .val (.int qq), .val (.int a1), .val (.int a2), .val (.int a3), .val (.int m0), .val (.int m1), .val (.int rp), .val (.int rm), .val (.int cm), .val (.long off), .second, .val (.ref d), .val (.ref f1), .val (.ref f2), .val (.ref f3), .val (.int lx), .unset, .unset, .unset, .unset, .unset, .unset] [] (fun v _ => v = some (.int 1)) := by
            intro ct1 fr1 qs1 tb9 R6 sr6 S6 ss6 hp6 vr vl hfr hfl hmr hml
            have k240 : ∀ (pp1 : Int32), (¬ pp1 = 0 ↔ rp = 0) → Go l Z n0 room_1 code 31 x (some .boolean) D (DW d r s nq no na nv ni nh nt nr ns mx ct1 us fr1 sr6 ss6 qs1 (u3 0 1 w) (t3 b0 b1 b2) (u3 g0 g1 g2) ids hp6 tb9 R6 S6 ++ [(f1, .inl ("com/example/pulld/pulld/broker/InFlight", [("queue", "I", (.int qq)), ("offset", "J", (.long (0 : Int64))), ("attempt", "I", (.int a1)), ("visibleAt", "J", (.long q0)), ("id", "J", (.long (1 : Int64)))])), (f2, .inl ("com/example/pulld/pulld/broker/InFlight", [("queue", "I", (.int qq)), ("offset", "J", (.long (1 : Int64))), ("attempt", "I", (.int a2)), ("visibleAt", "J", (.long q1)), ("id", "J", (.long (2 : Int64)))])), (f3, .inl ("com/example/pulld/pulld/broker/InFlight", [("queue", "I", (.int qq)), ("offset", "J", (.long off)), ("attempt", "I", (.int a3)), ("visibleAt", "J", (.long q2)), ("id", "J", (.long (3 : Int64)))]))]) 25 158 240 #[.val (.long q0), .second, .val (.long q1), .second, .val (.long q2), .second, .val (.int p3), .val (.int p4), .val (.int p5), .val (.int qq), .val (.int a1), .val (.int a2), .val (.int a3), .val (.int m0), .val (.int m1), .val (.int rp), .val (.int rm), .val (.int cm), .val (.long off), .second, .val (.ref d), .val (.ref f1), .val (.ref f2), .val (.ref f3), .val (.int lx), .val (.int pp1), .unset, .unset, .unset, .unset, .unset] [] (fun v _ => v = some (.int 1)) := by
              intro pp1 hpp1
              have k252 : ∀ (pp2 : Int32), (¬ pp2 = 0 ↔ rm = 0) → Go l Z n0 room_1 code 31 x (some .boolean) D (DW d r s nq no na nv ni nh nt nr ns mx ct1 us fr1 sr6 ss6 qs1 (u3 0 1 w) (t3 b0 b1 b2) (u3 g0 g1 g2) ids hp6 tb9 R6 S6 ++ [(f1, .inl ("com/example/pulld/pulld/broker/InFlight", [("queue", "I", (.int qq)), ("offset", "J", (.long (0 : Int64))), ("attempt", "I", (.int a1)), ("visibleAt", "J", (.long q0)), ("id", "J", (.long (1 : Int64)))])), (f2, .inl ("com/example/pulld/pulld/broker/InFlight", [("queue", "I", (.int qq)), ("offset", "J", (.long (1 : Int64))), ("attempt", "I", (.int a2)), ("visibleAt", "J", (.long q1)), ("id", "J", (.long (2 : Int64)))])), (f3, .inl ("com/example/pulld/pulld/broker/InFlight", [("queue", "I", (.int qq)), ("offset", "J", (.long off)), ("attempt", "I", (.int a3)), ("visibleAt", "J", (.long q2)), ("id", "J", (.long (3 : Int64)))]))]) 25 158 252 #[.val (.long q0), .second, .val (.long q1), .second, .val (.long q2), .second, .val (.int p3), .val (.int p4), .val (.int p5), .val (.int qq), .val (.int a1), .val (.int a2), .val (.int a3), .val (.int m0), .val (.int m1), .val (.int rp), .val (.int rm), .val (.int cm), .val (.long off), .second, .val (.ref d), .val (.ref f1), .val (.ref f2), .val (.ref f3), .val (.int lx), .val (.int pp1), .val (.int pp2), .unset, .unset, .unset, .unset] [] (fun v _ => v = some (.int 1)) := by
                intro pp2 hpp2
                refine Go.ldcL (pc' := 255) (v := (9223372036854775807 : Int64)) at_252 (hw _ (List.mem_of_getElem? (i := 173) rfl)) rfl ?_
                refine Go.lstore (pc' := 257) (ls' := #[.val (.long q0), .second, .val (.long q1), .second, .val (.long q2), .second, .val (.int p3), .val (.int p4), .val (.int p5), .val (.int qq), .val (.int a1), .val (.int a2), .val (.int a3), .val (.int m0), .val (.int m1), .val (.int rp), .val (.int rm), .val (.int cm), .val (.long off), .second, .val (.ref d), .val (.ref f1), .val (.ref f2), .val (.ref f3), .val (.int lx), .val (.int pp1), .val (.int pp2), .val (.long (9223372036854775807 : Int64)), .second, .unset, .unset]) at_255 rfl rfl ?_
                refine Go.ldcL (pc' := 260) (v := (9223372036854775807 : Int64)) at_257 (hw _ (List.mem_of_getElem? (i := 173) rfl)) rfl ?_
                refine Go.lstore (pc' := 262) (ls' := #[.val (.long q0), .second, .val (.long q1), .second, .val (.long q2), .second, .val (.int p3), .val (.int p4), .val (.int p5), .val (.int qq), .val (.int a1), .val (.int a2), .val (.int a3), .val (.int m0), .val (.int m1), .val (.int rp), .val (.int rm), .val (.int cm), .val (.long off), .second, .val (.ref d), .val (.ref f1), .val (.ref f2), .val (.ref f3), .val (.int lx), .val (.int pp1), .val (.int pp2), .val (.long (9223372036854775807 : Int64)), .second, .val (.long (9223372036854775807 : Int64)), .second]) at_260 rfl rfl ?_
                refine Go.lload (pc' := 264) at_262 rfl rfl ?_
                refine Go.iload (pc' := 266) at_264 rfl rfl ?_
                have k281 : ∀ (c1 : Int32), (¬ c1 = 0 ↔ rp = 0 ∧ a1 < lx) → Go l Z n0 room_1 code 31 x (some .boolean) D (DW d r s nq no na nv ni nh nt nr ns mx ct1 us fr1 sr6 ss6 qs1 (u3 0 1 w) (t3 b0 b1 b2) (u3 g0 g1 g2) ids hp6 tb9 R6 S6 ++ [(f1, .inl ("com/example/pulld/pulld/broker/InFlight", [("queue", "I", (.int qq)), ("offset", "J", (.long (0 : Int64))), ("attempt", "I", (.int a1)), ("visibleAt", "J", (.long q0)), ("id", "J", (.long (1 : Int64)))])), (f2, .inl ("com/example/pulld/pulld/broker/InFlight", [("queue", "I", (.int qq)), ("offset", "J", (.long (1 : Int64))), ("attempt", "I", (.int a2)), ("visibleAt", "J", (.long q1)), ("id", "J", (.long (2 : Int64)))])), (f3, .inl ("com/example/pulld/pulld/broker/InFlight", [("queue", "I", (.int qq)), ("offset", "J", (.long off)), ("attempt", "I", (.int a3)), ("visibleAt", "J", (.long q2)), ("id", "J", (.long (3 : Int64)))]))]) 25 158 281 #[.val (.long q0), .second, .val (.long q1), .second, .val (.long q2), .second, .val (.int p3), .val (.int p4), .val (.int p5), .val (.int qq), .val (.int a1), .val (.int a2), .val (.int a3), .val (.int m0), .val (.int m1), .val (.int rp), .val (.int rm), .val (.int cm), .val (.long off), .second, .val (.ref d), .val (.ref f1), .val (.ref f2), .val (.ref f3), .val (.int lx), .val (.int pp1), .val (.int pp2), .val (.long (9223372036854775807 : Int64)), .second, .val (.long (9223372036854775807 : Int64)), .second] [(.int c1), (.long (9223372036854775807 : Int64))] (fun v _ => v = some (.int 1)) := by
                  intro c1 hk1
                  refine Go.lloadN (pc' := 282) at_281 rfl rfl ?_
                  refine Go.callS (pc' := 285) (W1 := 0) (cells' := 25) (slots' := 158) (argsL := [(.long (9223372036854775807 : Int64)), (.int c1), (.long q0)]) (rest := []) (y' := (⟨"com/example/pulld/pulld/broker/ByVisibleAtFirstAtPinLaw", "minIf", "(JZJ)J"⟩ : MethodName)) at_282 (hw _ (List.mem_of_getElem? (i := 174) rfl)) (hw _ (List.mem_of_getElem? (i := 175) rfl)) (hw _ (List.mem_of_getElem? (i := 176) rfl)) (hw _ (List.mem_of_getElem? (i := 177) rfl)) (by decide) (rm28 l Z n0 w0 hw (9223372036854775807 : Int64) c1 q0 (DW d r s nq no na nv ni nh nt nr ns mx ct1 us fr1 sr6 ss6 qs1 (u3 0 1 w) (t3 b0 b1 b2) (u3 g0 g1 g2) ids hp6 tb9 R6 S6 ++ [(f1, .inl ("com/example/pulld/pulld/broker/InFlight", [("queue", "I", (.int qq)), ("offset", "J", (.long (0 : Int64))), ("attempt", "I", (.int a1)), ("visibleAt", "J", (.long q0)), ("id", "J", (.long (1 : Int64)))])), (f2, .inl ("com/example/pulld/pulld/broker/InFlight", [("queue", "I", (.int qq)), ("offset", "J", (.long (1 : Int64))), ("attempt", "I", (.int a2)), ("visibleAt", "J", (.long q1)), ("id", "J", (.long (2 : Int64)))])), (f3, .inl ("com/example/pulld/pulld/broker/InFlight", [("queue", "I", (.int qq)), ("offset", "J", (.long off)), ("attempt", "I", (.int a3)), ("visibleAt", "J", (.long q2)), ("id", "J", (.long (3 : Int64)))]))])) (by decide) (by decide) rfl (lenOf pd__28JZJ_29J rfl) rfl (Nat.le_of_eq rfl) (by decide) (by decide) rfl rfl rfl (fun v W' hF => ?_)
                  obtain ⟨rfl, rfl⟩ := hF
                  refine Go.val ?_
                  refine Go.lstore (pc' := 287) (ls' := #[.val (.long q0), .second, .val (.long q1), .second, .val (.long q2), .second, .val (.int p3), .val (.int p4), .val (.int p5), .val (.int qq), .val (.int a1), .val (.int a2), .val (.int a3), .val (.int m0), .val (.int m1), .val (.int rp), .val (.int rm), .val (.int cm), .val (.long off), .second, .val (.ref d), .val (.ref f1), .val (.ref f2), .val (.ref f3), .val (.int lx), .val (.int pp1), .val (.int pp2), .val (.long (minI (9223372036854775807 : Int64) c1 q0)), .second, .val (.long (9223372036854775807 : Int64)), .second]) at_285 rfl rfl ?_
                  refine Go.lload (pc' := 289) at_287 rfl rfl ?_
                  refine Go.iload (pc' := 291) at_289 rfl rfl ?_
                  have k306 : ∀ (c2 : Int32), (¬ c2 = 0 ↔ rm = 0 ∧ a2 < lx) → Go l Z n0 room_1 code 31 x (some .boolean) D (DW d r s nq no na nv ni nh nt nr ns mx ct1 us fr1 sr6 ss6 qs1 (u3 0 1 w) (t3 b0 b1 b2) (u3 g0 g1 g2) ids hp6 tb9 R6 S6 ++ [(f1, .inl ("com/example/pulld/pulld/broker/InFlight", [("queue", "I", (.int qq)), ("offset", "J", (.long (0 : Int64))), ("attempt", "I", (.int a1)), ("visibleAt", "J", (.long q0)), ("id", "J", (.long (1 : Int64)))])), (f2, .inl ("com/example/pulld/pulld/broker/InFlight", [("queue", "I", (.int qq)), ("offset", "J", (.long (1 : Int64))), ("attempt", "I", (.int a2)), ("visibleAt", "J", (.long q1)), ("id", "J", (.long (2 : Int64)))])), (f3, .inl ("com/example/pulld/pulld/broker/InFlight", [("queue", "I", (.int qq)), ("offset", "J", (.long off)), ("attempt", "I", (.int a3)), ("visibleAt", "J", (.long q2)), ("id", "J", (.long (3 : Int64)))]))]) 25 158 306 #[.val (.long q0), .second, .val (.long q1), .second, .val (.long q2), .second, .val (.int p3), .val (.int p4), .val (.int p5), .val (.int qq), .val (.int a1), .val (.int a2), .val (.int a3), .val (.int m0), .val (.int m1), .val (.int rp), .val (.int rm), .val (.int cm), .val (.long off), .second, .val (.ref d), .val (.ref f1), .val (.ref f2), .val (.ref f3), .val (.int lx), .val (.int pp1), .val (.int pp2), .val (.long (minI (9223372036854775807 : Int64) c1 q0)), .second, .val (.long (9223372036854775807 : Int64)), .second] [(.int c2), (.long (minI (9223372036854775807 : Int64) c1 q0))] (fun v _ => v = some (.int 1)) := by
                    intro c2 hk2
                    refine Go.lloadN (pc' := 307) at_306 rfl rfl ?_
                    refine Go.callS (pc' := 310) (W1 := 0) (cells' := 25) (slots' := 158) (argsL := [(.long (minI (9223372036854775807 : Int64) c1 q0)), (.int c2), (.long q1)]) (rest := []) (y' := (⟨"com/example/pulld/pulld/broker/ByVisibleAtFirstAtPinLaw", "minIf", "(JZJ)J"⟩ : MethodName)) at_307 (hw _ (List.mem_of_getElem? (i := 174) rfl)) (hw _ (List.mem_of_getElem? (i := 175) rfl)) (hw _ (List.mem_of_getElem? (i := 176) rfl)) (hw _ (List.mem_of_getElem? (i := 177) rfl)) (by decide) (rm28 l Z n0 w0 hw (minI (9223372036854775807 : Int64) c1 q0) c2 q1 (DW d r s nq no na nv ni nh nt nr ns mx ct1 us fr1 sr6 ss6 qs1 (u3 0 1 w) (t3 b0 b1 b2) (u3 g0 g1 g2) ids hp6 tb9 R6 S6 ++ [(f1, .inl ("com/example/pulld/pulld/broker/InFlight", [("queue", "I", (.int qq)), ("offset", "J", (.long (0 : Int64))), ("attempt", "I", (.int a1)), ("visibleAt", "J", (.long q0)), ("id", "J", (.long (1 : Int64)))])), (f2, .inl ("com/example/pulld/pulld/broker/InFlight", [("queue", "I", (.int qq)), ("offset", "J", (.long (1 : Int64))), ("attempt", "I", (.int a2)), ("visibleAt", "J", (.long q1)), ("id", "J", (.long (2 : Int64)))])), (f3, .inl ("com/example/pulld/pulld/broker/InFlight", [("queue", "I", (.int qq)), ("offset", "J", (.long off)), ("attempt", "I", (.int a3)), ("visibleAt", "J", (.long q2)), ("id", "J", (.long (3 : Int64)))]))])) (by decide) (by decide) rfl (lenOf pd__28JZJ_29J rfl) rfl (Nat.le_of_eq rfl) (by decide) (by decide) rfl rfl rfl (fun v W' hF => ?_)
                    obtain ⟨rfl, rfl⟩ := hF
                    refine Go.val ?_
                    refine Go.lstore (pc' := 312) (ls' := #[.val (.long q0), .second, .val (.long q1), .second, .val (.long q2), .second, .val (.int p3), .val (.int p4), .val (.int p5), .val (.int qq), .val (.int a1), .val (.int a2), .val (.int a3), .val (.int m0), .val (.int m1), .val (.int rp), .val (.int rm), .val (.int cm), .val (.long off), .second, .val (.ref d), .val (.ref f1), .val (.ref f2), .val (.ref f3), .val (.int lx), .val (.int pp1), .val (.int pp2), .val (.long (minI (minI (9223372036854775807 : Int64) c1 q0) c2 q1)), .second, .val (.long (9223372036854775807 : Int64)), .second]) at_310 rfl rfl ?_
                    refine Go.lload (pc' := 314) at_312 rfl rfl ?_
                    refine Go.iload (pc' := 316) at_314 rfl rfl ?_
                    refine Go.iload (pc' := 318) at_316 rfl rfl ?_
                    have k326 : ∀ (c3 : Int32), (¬ c3 = 0 ↔ a3 < lx) → Go l Z n0 room_1 code 31 x (some .boolean) D (DW d r s nq no na nv ni nh nt nr ns mx ct1 us fr1 sr6 ss6 qs1 (u3 0 1 w) (t3 b0 b1 b2) (u3 g0 g1 g2) ids hp6 tb9 R6 S6 ++ [(f1, .inl ("com/example/pulld/pulld/broker/InFlight", [("queue", "I", (.int qq)), ("offset", "J", (.long (0 : Int64))), ("attempt", "I", (.int a1)), ("visibleAt", "J", (.long q0)), ("id", "J", (.long (1 : Int64)))])), (f2, .inl ("com/example/pulld/pulld/broker/InFlight", [("queue", "I", (.int qq)), ("offset", "J", (.long (1 : Int64))), ("attempt", "I", (.int a2)), ("visibleAt", "J", (.long q1)), ("id", "J", (.long (2 : Int64)))])), (f3, .inl ("com/example/pulld/pulld/broker/InFlight", [("queue", "I", (.int qq)), ("offset", "J", (.long off)), ("attempt", "I", (.int a3)), ("visibleAt", "J", (.long q2)), ("id", "J", (.long (3 : Int64)))]))]) 25 158 326 #[.val (.long q0), .second, .val (.long q1), .second, .val (.long q2), .second, .val (.int p3), .val (.int p4), .val (.int p5), .val (.int qq), .val (.int a1), .val (.int a2), .val (.int a3), .val (.int m0), .val (.int m1), .val (.int rp), .val (.int rm), .val (.int cm), .val (.long off), .second, .val (.ref d), .val (.ref f1), .val (.ref f2), .val (.ref f3), .val (.int lx), .val (.int pp1), .val (.int pp2), .val (.long (minI (minI (9223372036854775807 : Int64) c1 q0) c2 q1)), .second, .val (.long (9223372036854775807 : Int64)), .second] [(.int c3), (.long (minI (minI (9223372036854775807 : Int64) c1 q0) c2 q1))] (fun v _ => v = some (.int 1)) := by
                      intro c3 hk3
                      refine Go.lload (pc' := 328) at_326 rfl rfl ?_
                      refine Go.callS (pc' := 331) (W1 := 0) (cells' := 25) (slots' := 158) (argsL := [(.long (minI (minI (9223372036854775807 : Int64) c1 q0) c2 q1)), (.int c3), (.long q2)]) (rest := []) (y' := (⟨"com/example/pulld/pulld/broker/ByVisibleAtFirstAtPinLaw", "minIf", "(JZJ)J"⟩ : MethodName)) at_328 (hw _ (List.mem_of_getElem? (i := 174) rfl)) (hw _ (List.mem_of_getElem? (i := 175) rfl)) (hw _ (List.mem_of_getElem? (i := 176) rfl)) (hw _ (List.mem_of_getElem? (i := 177) rfl)) (by decide) (rm28 l Z n0 w0 hw (minI (minI (9223372036854775807 : Int64) c1 q0) c2 q1) c3 q2 (DW d r s nq no na nv ni nh nt nr ns mx ct1 us fr1 sr6 ss6 qs1 (u3 0 1 w) (t3 b0 b1 b2) (u3 g0 g1 g2) ids hp6 tb9 R6 S6 ++ [(f1, .inl ("com/example/pulld/pulld/broker/InFlight", [("queue", "I", (.int qq)), ("offset", "J", (.long (0 : Int64))), ("attempt", "I", (.int a1)), ("visibleAt", "J", (.long q0)), ("id", "J", (.long (1 : Int64)))])), (f2, .inl ("com/example/pulld/pulld/broker/InFlight", [("queue", "I", (.int qq)), ("offset", "J", (.long (1 : Int64))), ("attempt", "I", (.int a2)), ("visibleAt", "J", (.long q1)), ("id", "J", (.long (2 : Int64)))])), (f3, .inl ("com/example/pulld/pulld/broker/InFlight", [("queue", "I", (.int qq)), ("offset", "J", (.long off)), ("attempt", "I", (.int a3)), ("visibleAt", "J", (.long q2)), ("id", "J", (.long (3 : Int64)))]))])) (by decide) (by decide) rfl (lenOf pd__28JZJ_29J rfl) rfl (Nat.le_of_eq rfl) (by decide) (by decide) rfl rfl rfl (fun v W' hF => ?_)
                      obtain ⟨rfl, rfl⟩ := hF
                      refine Go.val ?_
                      refine Go.lstore (pc' := 333) (ls' := #[.val (.long q0), .second, .val (.long q1), .second, .val (.long q2), .second, .val (.int p3), .val (.int p4), .val (.int p5), .val (.int qq), .val (.int a1), .val (.int a2), .val (.int a3), .val (.int m0), .val (.int m1), .val (.int rp), .val (.int rm), .val (.int cm), .val (.long off), .second, .val (.ref d), .val (.ref f1), .val (.ref f2), .val (.ref f3), .val (.int lx), .val (.int pp1), .val (.int pp2), .val (.long (minI (minI (minI (9223372036854775807 : Int64) c1 q0) c2 q1) c3 q2)), .second, .val (.long (9223372036854775807 : Int64)), .second]) at_331 rfl rfl ?_
                      refine Go.lload (pc' := 335) at_333 rfl rfl ?_
                      refine Go.iload (pc' := 337) at_335 rfl rfl ?_
                      have k352 : ∀ (c4 : Int32), (¬ c4 = 0 ↔ rp = 0 ∧ ¬ a1 < lx) → Go l Z n0 room_1 code 31 x (some .boolean) D (DW d r s nq no na nv ni nh nt nr ns mx ct1 us fr1 sr6 ss6 qs1 (u3 0 1 w) (t3 b0 b1 b2) (u3 g0 g1 g2) ids hp6 tb9 R6 S6 ++ [(f1, .inl ("com/example/pulld/pulld/broker/InFlight", [("queue", "I", (.int qq)), ("offset", "J", (.long (0 : Int64))), ("attempt", "I", (.int a1)), ("visibleAt", "J", (.long q0)), ("id", "J", (.long (1 : Int64)))])), (f2, .inl ("com/example/pulld/pulld/broker/InFlight", [("queue", "I", (.int qq)), ("offset", "J", (.long (1 : Int64))), ("attempt", "I", (.int a2)), ("visibleAt", "J", (.long q1)), ("id", "J", (.long (2 : Int64)))])), (f3, .inl ("com/example/pulld/pulld/broker/InFlight", [("queue", "I", (.int qq)), ("offset", "J", (.long off)), ("attempt", "I", (.int a3)), ("visibleAt", "J", (.long q2)), ("id", "J", (.long (3 : Int64)))]))]) 25 158 352 #[.val (.long q0), .second, .val (.long q1), .second, .val (.long q2), .second, .val (.int p3), .val (.int p4), .val (.int p5), .val (.int qq), .val (.int a1), .val (.int a2), .val (.int a3), .val (.int m0), .val (.int m1), .val (.int rp), .val (.int rm), .val (.int cm), .val (.long off), .second, .val (.ref d), .val (.ref f1), .val (.ref f2), .val (.ref f3), .val (.int lx), .val (.int pp1), .val (.int pp2), .val (.long (minI (minI (minI (9223372036854775807 : Int64) c1 q0) c2 q1) c3 q2)), .second, .val (.long (9223372036854775807 : Int64)), .second] [(.int c4), (.long (9223372036854775807 : Int64))] (fun v _ => v = some (.int 1)) := by
                        intro c4 hk4
                        refine Go.lloadN (pc' := 353) at_352 rfl rfl ?_
                        refine Go.callS (pc' := 356) (W1 := 0) (cells' := 25) (slots' := 158) (argsL := [(.long (9223372036854775807 : Int64)), (.int c4), (.long q0)]) (rest := []) (y' := (⟨"com/example/pulld/pulld/broker/ByVisibleAtFirstAtPinLaw", "minIf", "(JZJ)J"⟩ : MethodName)) at_353 (hw _ (List.mem_of_getElem? (i := 174) rfl)) (hw _ (List.mem_of_getElem? (i := 175) rfl)) (hw _ (List.mem_of_getElem? (i := 176) rfl)) (hw _ (List.mem_of_getElem? (i := 177) rfl)) (by decide) (rm28 l Z n0 w0 hw (9223372036854775807 : Int64) c4 q0 (DW d r s nq no na nv ni nh nt nr ns mx ct1 us fr1 sr6 ss6 qs1 (u3 0 1 w) (t3 b0 b1 b2) (u3 g0 g1 g2) ids hp6 tb9 R6 S6 ++ [(f1, .inl ("com/example/pulld/pulld/broker/InFlight", [("queue", "I", (.int qq)), ("offset", "J", (.long (0 : Int64))), ("attempt", "I", (.int a1)), ("visibleAt", "J", (.long q0)), ("id", "J", (.long (1 : Int64)))])), (f2, .inl ("com/example/pulld/pulld/broker/InFlight", [("queue", "I", (.int qq)), ("offset", "J", (.long (1 : Int64))), ("attempt", "I", (.int a2)), ("visibleAt", "J", (.long q1)), ("id", "J", (.long (2 : Int64)))])), (f3, .inl ("com/example/pulld/pulld/broker/InFlight", [("queue", "I", (.int qq)), ("offset", "J", (.long off)), ("attempt", "I", (.int a3)), ("visibleAt", "J", (.long q2)), ("id", "J", (.long (3 : Int64)))]))])) (by decide) (by decide) rfl (lenOf pd__28JZJ_29J rfl) rfl (Nat.le_of_eq rfl) (by decide) (by decide) rfl rfl rfl (fun v W' hF => ?_)
                        obtain ⟨rfl, rfl⟩ := hF
                        refine Go.val ?_
                        refine Go.lstore (pc' := 358) (ls' := #[.val (.long q0), .second, .val (.long q1), .second, .val (.long q2), .second, .val (.int p3), .val (.int p4), .val (.int p5), .val (.int qq), .val (.int a1), .val (.int a2), .val (.int a3), .val (.int m0), .val (.int m1), .val (.int rp), .val (.int rm), .val (.int cm), .val (.long off), .second, .val (.ref d), .val (.ref f1), .val (.ref f2), .val (.ref f3), .val (.int lx), .val (.int pp1), .val (.int pp2), .val (.long (minI (minI (minI (9223372036854775807 : Int64) c1 q0) c2 q1) c3 q2)), .second, .val (.long (minI (9223372036854775807 : Int64) c4 q0)), .second]) at_356 rfl rfl ?_
                        refine Go.lload (pc' := 360) at_358 rfl rfl ?_
                        refine Go.iload (pc' := 362) at_360 rfl rfl ?_
                        have k377 : ∀ (c5 : Int32), (¬ c5 = 0 ↔ rm = 0 ∧ ¬ a2 < lx) → Go l Z n0 room_1 code 31 x (some .boolean) D (DW d r s nq no na nv ni nh nt nr ns mx ct1 us fr1 sr6 ss6 qs1 (u3 0 1 w) (t3 b0 b1 b2) (u3 g0 g1 g2) ids hp6 tb9 R6 S6 ++ [(f1, .inl ("com/example/pulld/pulld/broker/InFlight", [("queue", "I", (.int qq)), ("offset", "J", (.long (0 : Int64))), ("attempt", "I", (.int a1)), ("visibleAt", "J", (.long q0)), ("id", "J", (.long (1 : Int64)))])), (f2, .inl ("com/example/pulld/pulld/broker/InFlight", [("queue", "I", (.int qq)), ("offset", "J", (.long (1 : Int64))), ("attempt", "I", (.int a2)), ("visibleAt", "J", (.long q1)), ("id", "J", (.long (2 : Int64)))])), (f3, .inl ("com/example/pulld/pulld/broker/InFlight", [("queue", "I", (.int qq)), ("offset", "J", (.long off)), ("attempt", "I", (.int a3)), ("visibleAt", "J", (.long q2)), ("id", "J", (.long (3 : Int64)))]))]) 25 158 377 #[.val (.long q0), .second, .val (.long q1), .second, .val (.long q2), .second, .val (.int p3), .val (.int p4), .val (.int p5), .val (.int qq), .val (.int a1), .val (.int a2), .val (.int a3), .val (.int m0), .val (.int m1), .val (.int rp), .val (.int rm), .val (.int cm), .val (.long off), .second, .val (.ref d), .val (.ref f1), .val (.ref f2), .val (.ref f3), .val (.int lx), .val (.int pp1), .val (.int pp2), .val (.long (minI (minI (minI (9223372036854775807 : Int64) c1 q0) c2 q1) c3 q2)), .second, .val (.long (minI (9223372036854775807 : Int64) c4 q0)), .second] [(.int c5), (.long (minI (9223372036854775807 : Int64) c4 q0))] (fun v _ => v = some (.int 1)) := by
                          intro c5 hk5
                          refine Go.lloadN (pc' := 378) at_377 rfl rfl ?_
                          refine Go.callS (pc' := 381) (W1 := 0) (cells' := 25) (slots' := 158) (argsL := [(.long (minI (9223372036854775807 : Int64) c4 q0)), (.int c5), (.long q1)]) (rest := []) (y' := (⟨"com/example/pulld/pulld/broker/ByVisibleAtFirstAtPinLaw", "minIf", "(JZJ)J"⟩ : MethodName)) at_378 (hw _ (List.mem_of_getElem? (i := 174) rfl)) (hw _ (List.mem_of_getElem? (i := 175) rfl)) (hw _ (List.mem_of_getElem? (i := 176) rfl)) (hw _ (List.mem_of_getElem? (i := 177) rfl)) (by decide) (rm28 l Z n0 w0 hw (minI (9223372036854775807 : Int64) c4 q0) c5 q1 (DW d r s nq no na nv ni nh nt nr ns mx ct1 us fr1 sr6 ss6 qs1 (u3 0 1 w) (t3 b0 b1 b2) (u3 g0 g1 g2) ids hp6 tb9 R6 S6 ++ [(f1, .inl ("com/example/pulld/pulld/broker/InFlight", [("queue", "I", (.int qq)), ("offset", "J", (.long (0 : Int64))), ("attempt", "I", (.int a1)), ("visibleAt", "J", (.long q0)), ("id", "J", (.long (1 : Int64)))])), (f2, .inl ("com/example/pulld/pulld/broker/InFlight", [("queue", "I", (.int qq)), ("offset", "J", (.long (1 : Int64))), ("attempt", "I", (.int a2)), ("visibleAt", "J", (.long q1)), ("id", "J", (.long (2 : Int64)))])), (f3, .inl ("com/example/pulld/pulld/broker/InFlight", [("queue", "I", (.int qq)), ("offset", "J", (.long off)), ("attempt", "I", (.int a3)), ("visibleAt", "J", (.long q2)), ("id", "J", (.long (3 : Int64)))]))])) (by decide) (by decide) rfl (lenOf pd__28JZJ_29J rfl) rfl (Nat.le_of_eq rfl) (by decide) (by decide) rfl rfl rfl (fun v W' hF => ?_)
                          obtain ⟨rfl, rfl⟩ := hF
                          refine Go.val ?_
                          refine Go.lstore (pc' := 383) (ls' := #[.val (.long q0), .second, .val (.long q1), .second, .val (.long q2), .second, .val (.int p3), .val (.int p4), .val (.int p5), .val (.int qq), .val (.int a1), .val (.int a2), .val (.int a3), .val (.int m0), .val (.int m1), .val (.int rp), .val (.int rm), .val (.int cm), .val (.long off), .second, .val (.ref d), .val (.ref f1), .val (.ref f2), .val (.ref f3), .val (.int lx), .val (.int pp1), .val (.int pp2), .val (.long (minI (minI (minI (9223372036854775807 : Int64) c1 q0) c2 q1) c3 q2)), .second, .val (.long (minI (minI (9223372036854775807 : Int64) c4 q0) c5 q1)), .second]) at_381 rfl rfl ?_
                          refine Go.lload (pc' := 385) at_383 rfl rfl ?_
                          refine Go.iload (pc' := 387) at_385 rfl rfl ?_
                          refine Go.iload (pc' := 389) at_387 rfl rfl ?_
                          have k397 : ∀ (c6 : Int32), (¬ c6 = 0 ↔ ¬ a3 < lx) → Go l Z n0 room_1 code 31 x (some .boolean) D (DW d r s nq no na nv ni nh nt nr ns mx ct1 us fr1 sr6 ss6 qs1 (u3 0 1 w) (t3 b0 b1 b2) (u3 g0 g1 g2) ids hp6 tb9 R6 S6 ++ [(f1, .inl ("com/example/pulld/pulld/broker/InFlight", [("queue", "I", (.int qq)), ("offset", "J", (.long (0 : Int64))), ("attempt", "I", (.int a1)), ("visibleAt", "J", (.long q0)), ("id", "J", (.long (1 : Int64)))])), (f2, .inl ("com/example/pulld/pulld/broker/InFlight", [("queue", "I", (.int qq)), ("offset", "J", (.long (1 : Int64))), ("attempt", "I", (.int a2)), ("visibleAt", "J", (.long q1)), ("id", "J", (.long (2 : Int64)))])), (f3, .inl ("com/example/pulld/pulld/broker/InFlight", [("queue", "I", (.int qq)), ("offset", "J", (.long off)), ("attempt", "I", (.int a3)), ("visibleAt", "J", (.long q2)), ("id", "J", (.long (3 : Int64)))]))]) 25 158 397 #[.val (.long q0), .second, .val (.long q1), .second, .val (.long q2), .second, .val (.int p3), .val (.int p4), .val (.int p5), .val (.int qq), .val (.int a1), .val (.int a2), .val (.int a3), .val (.int m0), .val (.int m1), .val (.int rp), .val (.int rm), .val (.int cm), .val (.long off), .second, .val (.ref d), .val (.ref f1), .val (.ref f2), .val (.ref f3), .val (.int lx), .val (.int pp1), .val (.int pp2), .val (.long (minI (minI (minI (9223372036854775807 : Int64) c1 q0) c2 q1) c3 q2)), .second, .val (.long (minI (minI (9223372036854775807 : Int64) c4 q0) c5 q1)), .second] [(.int c6), (.long (minI (minI (9223372036854775807 : Int64) c4 q0) c5 q1))] (fun v _ => v = some (.int 1)) := by
                            intro c6 hk6
                            refine Go.lload (pc' := 399) at_397 rfl rfl ?_
                            refine Go.callS (pc' := 402) (W1 := 0) (cells' := 25) (slots' := 158) (argsL := [(.long (minI (minI (9223372036854775807 : Int64) c4 q0) c5 q1)), (.int c6), (.long q2)]) (rest := []) (y' := (⟨"com/example/pulld/pulld/broker/ByVisibleAtFirstAtPinLaw", "minIf", "(JZJ)J"⟩ : MethodName)) at_399 (hw _ (List.mem_of_getElem? (i := 174) rfl)) (hw _ (List.mem_of_getElem? (i := 175) rfl)) (hw _ (List.mem_of_getElem? (i := 176) rfl)) (hw _ (List.mem_of_getElem? (i := 177) rfl)) (by decide) (rm28 l Z n0 w0 hw (minI (minI (9223372036854775807 : Int64) c4 q0) c5 q1) c6 q2 (DW d r s nq no na nv ni nh nt nr ns mx ct1 us fr1 sr6 ss6 qs1 (u3 0 1 w) (t3 b0 b1 b2) (u3 g0 g1 g2) ids hp6 tb9 R6 S6 ++ [(f1, .inl ("com/example/pulld/pulld/broker/InFlight", [("queue", "I", (.int qq)), ("offset", "J", (.long (0 : Int64))), ("attempt", "I", (.int a1)), ("visibleAt", "J", (.long q0)), ("id", "J", (.long (1 : Int64)))])), (f2, .inl ("com/example/pulld/pulld/broker/InFlight", [("queue", "I", (.int qq)), ("offset", "J", (.long (1 : Int64))), ("attempt", "I", (.int a2)), ("visibleAt", "J", (.long q1)), ("id", "J", (.long (2 : Int64)))])), (f3, .inl ("com/example/pulld/pulld/broker/InFlight", [("queue", "I", (.int qq)), ("offset", "J", (.long off)), ("attempt", "I", (.int a3)), ("visibleAt", "J", (.long q2)), ("id", "J", (.long (3 : Int64)))]))])) (by decide) (by decide) rfl (lenOf pd__28JZJ_29J rfl) rfl (Nat.le_of_eq rfl) (by decide) (by decide) rfl rfl rfl (fun v W' hF => ?_)
                            obtain ⟨rfl, rfl⟩ := hF
                            refine Go.val ?_
                            refine Go.lstore (pc' := 404) (ls' := #[.val (.long q0), .second, .val (.long q1), .second, .val (.long q2), .second, .val (.int p3), .val (.int p4), .val (.int p5), .val (.int qq), .val (.int a1), .val (.int a2), .val (.int a3), .val (.int m0), .val (.int m1), .val (.int rp), .val (.int rm), .val (.int cm), .val (.long off), .second, .val (.ref d), .val (.ref f1), .val (.ref f2), .val (.ref f3), .val (.int lx), .val (.int pp1), .val (.int pp2), .val (.long (minI (minI (minI (9223372036854775807 : Int64) c1 q0) c2 q1) c3 q2)), .second, .val (.long (minI (minI (minI (9223372036854775807 : Int64) c4 q0) c5 q1) c6 q2)), .second]) at_402 rfl rfl ?_
                            refine Go.aload (pc' := 406) at_404 rfl rfl rfl ?_
                            have hR := min3 hmr hk1 hk2 hk3
                            have hL := min3 hml hk4 hk5 hk6
                            refine Go.callV (pc' := 409) (W1 := 0) (cells' := 25) (slots' := 158) (argsL := []) (rest := []) (y' := (⟨"com/example/pulld/pulld/broker/InFlightDeliveries", "returning", "()Lcom/example/pulld/pulld/broker/InFlightDeliveries$ByVisibleAt;"⟩ : MethodName)) (a := d) (i := 0) at_406 (hw _ (List.mem_of_getElem? (i := 182) rfl)) (hw _ (List.mem_of_getElem? (i := 183) rfl)) (hw _ (List.mem_of_getElem? (i := 185) rfl)) (hw _ (List.mem_of_getElem? (i := 184) rfl)) (hw _ (List.mem_of_getElem? (i := 3) rfl)) (hw _ (List.mem_of_getElem? (i := 186) rfl)) (by decide) rfl (rm30 l Z n0 w0 hw  d r s nq no na nv ni nh nt nr ns mx ct1 us fr1 sr6 ss6 qs1 (u3 0 1 w) (t3 b0 b1 b2) (u3 g0 g1 g2) ids hp6 tb9 R6 S6 [(f1, .inl ("com/example/pulld/pulld/broker/InFlight", [("queue", "I", (.int qq)), ("offset", "J", (.long (0 : Int64))), ("attempt", "I", (.int a1)), ("visibleAt", "J", (.long q0)), ("id", "J", (.long (1 : Int64)))])), (f2, .inl ("com/example/pulld/pulld/broker/InFlight", [("queue", "I", (.int qq)), ("offset", "J", (.long (1 : Int64))), ("attempt", "I", (.int a2)), ("visibleAt", "J", (.long q1)), ("id", "J", (.long (2 : Int64)))])), (f3, .inl ("com/example/pulld/pulld/broker/InFlight", [("queue", "I", (.int qq)), ("offset", "J", (.long off)), ("attempt", "I", (.int a3)), ("visibleAt", "J", (.long q2)), ("id", "J", (.long (3 : Int64)))]))]  ) (by decide) (by decide) rfl (lenOf pd__28_29Lcom_2fexample_2fpulld_2fpulld_2fbroker_2fInFlightDeliveries_24ByVisibleAt_3b rfl) rfl (Nat.le_of_eq rfl) (by decide) (by decide) rfl rfl rfl (fun v W' hF => ?_)
                            obtain ⟨rfl, rfl⟩ := hF
                            refine Go.val ?_
                            have k412 : Go l Z n0 room_1 code 31 x (some .boolean) D (DW d r s nq no na nv ni nh nt nr ns mx ct1 us fr1 sr6 ss6 qs1 (u3 0 1 w) (t3 b0 b1 b2) (u3 g0 g1 g2) ids hp6 tb9 R6 S6 ++ [(f1, .inl ("com/example/pulld/pulld/broker/InFlight", [("queue", "I", (.int qq)), ("offset", "J", (.long (0 : Int64))), ("attempt", "I", (.int a1)), ("visibleAt", "J", (.long q0)), ("id", "J", (.long (1 : Int64)))])), (f2, .inl ("com/example/pulld/pulld/broker/InFlight", [("queue", "I", (.int qq)), ("offset", "J", (.long (1 : Int64))), ("attempt", "I", (.int a2)), ("visibleAt", "J", (.long q1)), ("id", "J", (.long (2 : Int64)))])), (f3, .inl ("com/example/pulld/pulld/broker/InFlight", [("queue", "I", (.int qq)), ("offset", "J", (.long off)), ("attempt", "I", (.int a3)), ("visibleAt", "J", (.long q2)), ("id", "J", (.long (3 : Int64)))]))]) 25 158 412 #[.val (.long q0), .second, .val (.long q1), .second, .val (.long q2), .second, .val (.int p3), .val (.int p4), .val (.int p5), .val (.int qq), .val (.int a1), .val (.int a2), .val (.int a3), .val (.int m0), .val (.int m1), .val (.int rp), .val (.int rm), .val (.int cm), .val (.long off), .second, .val (.ref d), .val (.ref f1), .val (.ref f2), .val (.ref f3), .val (.int lx), .val (.int pp1), .val (.int pp2), .val (.long (minI (minI (minI (9223372036854775807 : Int64) c1 q0) c2 q1) c3 q2)), .second, .val (.long (minI (minI (minI (9223372036854775807 : Int64) c4 q0) c5 q1) c6 q2)), .second] [(.long vr)] (fun v _ => v = some (.int 1)) := by
                              refine Go.lload (pc' := 414) at_412 rfl rfl ?_
                              refine Go.lcmp (pc' := 415) at_414 rfl ?_
                              refine Go.if_ne (pcY := 436) (pcN := 418) at_415 (by decide) (by decide) rfl (fun hc415 => absurd hc415 (fun q => q ((own_ceq _ _).mpr hR))) (fun hc415 => ?_)
                              refine Go.aload (pc' := 420) at_418 rfl rfl rfl ?_
                              refine Go.callV (pc' := 423) (W1 := 0) (cells' := 25) (slots' := 158) (argsL := []) (rest := []) (y' := (⟨"com/example/pulld/pulld/broker/InFlightDeliveries", "lastAttempts", "()Lcom/example/pulld/pulld/broker/InFlightDeliveries$ByVisibleAt;"⟩ : MethodName)) (a := d) (i := 0) at_420 (hw _ (List.mem_of_getElem? (i := 193) rfl)) (hw _ (List.mem_of_getElem? (i := 194) rfl)) (hw _ (List.mem_of_getElem? (i := 196) rfl)) (hw _ (List.mem_of_getElem? (i := 195) rfl)) (hw _ (List.mem_of_getElem? (i := 3) rfl)) (hw _ (List.mem_of_getElem? (i := 197) rfl)) (by decide) rfl (rm32 l Z n0 w0 hw  d r s nq no na nv ni nh nt nr ns mx ct1 us fr1 sr6 ss6 qs1 (u3 0 1 w) (t3 b0 b1 b2) (u3 g0 g1 g2) ids hp6 tb9 R6 S6 [(f1, .inl ("com/example/pulld/pulld/broker/InFlight", [("queue", "I", (.int qq)), ("offset", "J", (.long (0 : Int64))), ("attempt", "I", (.int a1)), ("visibleAt", "J", (.long q0)), ("id", "J", (.long (1 : Int64)))])), (f2, .inl ("com/example/pulld/pulld/broker/InFlight", [("queue", "I", (.int qq)), ("offset", "J", (.long (1 : Int64))), ("attempt", "I", (.int a2)), ("visibleAt", "J", (.long q1)), ("id", "J", (.long (2 : Int64)))])), (f3, .inl ("com/example/pulld/pulld/broker/InFlight", [("queue", "I", (.int qq)), ("offset", "J", (.long off)), ("attempt", "I", (.int a3)), ("visibleAt", "J", (.long q2)), ("id", "J", (.long (3 : Int64)))]))]  ) (by decide) (by decide) rfl (lenOf pd__28_29Lcom_2fexample_2fpulld_2fpulld_2fbroker_2fInFlightDeliveries_24ByVisibleAt_3b rfl) rfl (Nat.le_of_eq rfl) (by decide) (by decide) rfl rfl rfl (fun v W' hF => ?_)
                              obtain ⟨rfl, rfl⟩ := hF
                              refine Go.val ?_
                              have k426 : Go l Z n0 room_1 code 31 x (some .boolean) D (DW d r s nq no na nv ni nh nt nr ns mx ct1 us fr1 sr6 ss6 qs1 (u3 0 1 w) (t3 b0 b1 b2) (u3 g0 g1 g2) ids hp6 tb9 R6 S6 ++ [(f1, .inl ("com/example/pulld/pulld/broker/InFlight", [("queue", "I", (.int qq)), ("offset", "J", (.long (0 : Int64))), ("attempt", "I", (.int a1)), ("visibleAt", "J", (.long q0)), ("id", "J", (.long (1 : Int64)))])), (f2, .inl ("com/example/pulld/pulld/broker/InFlight", [("queue", "I", (.int qq)), ("offset", "J", (.long (1 : Int64))), ("attempt", "I", (.int a2)), ("visibleAt", "J", (.long q1)), ("id", "J", (.long (2 : Int64)))])), (f3, .inl ("com/example/pulld/pulld/broker/InFlight", [("queue", "I", (.int qq)), ("offset", "J", (.long off)), ("attempt", "I", (.int a3)), ("visibleAt", "J", (.long q2)), ("id", "J", (.long (3 : Int64)))]))]) 25 158 426 #[.val (.long q0), .second, .val (.long q1), .second, .val (.long q2), .second, .val (.int p3), .val (.int p4), .val (.int p5), .val (.int qq), .val (.int a1), .val (.int a2), .val (.int a3), .val (.int m0), .val (.int m1), .val (.int rp), .val (.int rm), .val (.int cm), .val (.long off), .second, .val (.ref d), .val (.ref f1), .val (.ref f2), .val (.ref f3), .val (.int lx), .val (.int pp1), .val (.int pp2), .val (.long (minI (minI (minI (9223372036854775807 : Int64) c1 q0) c2 q1) c3 q2)), .second, .val (.long (minI (minI (minI (9223372036854775807 : Int64) c4 q0) c5 q1) c6 q2)), .second] [(.long vl)] (fun v _ => v = some (.int 1)) := by
                                refine Go.lload (pc' := 428) at_426 rfl rfl ?_
                                refine Go.lcmp (pc' := 429) at_428 rfl ?_
                                refine Go.if_ne (pcY := 436) (pcN := 432) at_429 (by decide) (by decide) rfl (fun hc429 => absurd hc429 (fun q => q ((own_ceq _ _).mpr hL))) (fun hc429 => ?_)
                                refine Go.iconst (pc' := 433) (v := (1 : Int32)) at_432 rfl rfl ?_
                                refine Go.goto (pc' := 437) at_433 (by decide) (by decide) ?_
                                exact Go.retZ (z' := (1 : Int32)) at_437 rfl (by decide) (by decide) (by decide) rfl
                              rcases hfl with ⟨h0, h1⟩ | ⟨h0, xw, hx, hv⟩
                              ·
                                refine Go.callV (pc' := 426) (W1 := 0) (cells' := 25) (slots' := 158) (argsL := []) (rest := []) (y' := (⟨"com/example/pulld/pulld/broker/InFlightDeliveries$ByVisibleAt", "firstAt", "()J"⟩ : MethodName)) (a := s) (i := 2) at_423 (hw _ (List.mem_of_getElem? (i := 187) rfl)) (hw _ (List.mem_of_getElem? (i := 188) rfl)) (hw _ (List.mem_of_getElem? (i := 190) rfl)) (hw _ (List.mem_of_getElem? (i := 189) rfl)) (hw _ (List.mem_of_getElem? (i := 12) rfl)) (hw _ (List.mem_of_getElem? (i := 191) rfl)) (by decide) rfl (first0s l Z n0 w0 hw  d r s nq no na nv ni nh nt nr ns mx ct1 us fr1 sr6 ss6 qs1 (u3 0 1 w) (t3 b0 b1 b2) (u3 g0 g1 g2) ids hp6 tb9 R6 S6 [(f1, .inl ("com/example/pulld/pulld/broker/InFlight", [("queue", "I", (.int qq)), ("offset", "J", (.long (0 : Int64))), ("attempt", "I", (.int a1)), ("visibleAt", "J", (.long q0)), ("id", "J", (.long (1 : Int64)))])), (f2, .inl ("com/example/pulld/pulld/broker/InFlight", [("queue", "I", (.int qq)), ("offset", "J", (.long (1 : Int64))), ("attempt", "I", (.int a2)), ("visibleAt", "J", (.long q1)), ("id", "J", (.long (2 : Int64)))])), (f3, .inl ("com/example/pulld/pulld/broker/InFlight", [("queue", "I", (.int qq)), ("offset", "J", (.long off)), ("attempt", "I", (.int a3)), ("visibleAt", "J", (.long q2)), ("id", "J", (.long (3 : Int64)))]))]  h0) (by decide) (by decide) rfl (lenOf pd__28_29J rfl) rfl (Nat.le_of_eq rfl) (by decide) (by decide) rfl rfl rfl (fun v W' hF => ?_)
                                obtain ⟨rfl, rfl⟩ := hF
                                refine Go.val ?_
                                rw [h1] at k426
                                exact k426
                              ·
                                refine Go.callV (pc' := 426) (W1 := 0) (cells' := 25) (slots' := 158) (argsL := []) (rest := []) (y' := (⟨"com/example/pulld/pulld/broker/InFlightDeliveries$ByVisibleAt", "firstAt", "()J"⟩ : MethodName)) (a := s) (i := 2) at_423 (hw _ (List.mem_of_getElem? (i := 187) rfl)) (hw _ (List.mem_of_getElem? (i := 188) rfl)) (hw _ (List.mem_of_getElem? (i := 190) rfl)) (hw _ (List.mem_of_getElem? (i := 189) rfl)) (hw _ (List.mem_of_getElem? (i := 12) rfl)) (hw _ (List.mem_of_getElem? (i := 191) rfl)) (by decide) rfl (first1s l Z n0 w0 hw  d r s nq no na nv ni nh nt nr ns mx ct1 us fr1 sr6 ss6 qs1 (u3 0 1 w) (t3 b0 b1 b2) (u3 g0 g1 g2) ids hp6 tb9 R6 S6 [(f1, .inl ("com/example/pulld/pulld/broker/InFlight", [("queue", "I", (.int qq)), ("offset", "J", (.long (0 : Int64))), ("attempt", "I", (.int a1)), ("visibleAt", "J", (.long q0)), ("id", "J", (.long (1 : Int64)))])), (f2, .inl ("com/example/pulld/pulld/broker/InFlight", [("queue", "I", (.int qq)), ("offset", "J", (.long (1 : Int64))), ("attempt", "I", (.int a2)), ("visibleAt", "J", (.long q1)), ("id", "J", (.long (2 : Int64)))])), (f3, .inl ("com/example/pulld/pulld/broker/InFlight", [("queue", "I", (.int qq)), ("offset", "J", (.long off)), ("attempt", "I", (.int a3)), ("visibleAt", "J", (.long q2)), ("id", "J", (.long (3 : Int64)))]))] xw vl h0 hx hv) (by decide) (by decide) rfl (lenOf pd__28_29J rfl) rfl (Nat.le_of_eq rfl) (by decide) (by decide) rfl rfl rfl (fun v W' hF => ?_)
                                obtain ⟨rfl, rfl⟩ := hF
                                refine Go.val ?_
                                exact k426
                            rcases hfr with ⟨h0, h1⟩ | ⟨h0, xw, hx, hv⟩
                            ·
                              refine Go.callV (pc' := 412) (W1 := 0) (cells' := 25) (slots' := 158) (argsL := []) (rest := []) (y' := (⟨"com/example/pulld/pulld/broker/InFlightDeliveries$ByVisibleAt", "firstAt", "()J"⟩ : MethodName)) (a := r) (i := 1) at_409 (hw _ (List.mem_of_getElem? (i := 187) rfl)) (hw _ (List.mem_of_getElem? (i := 188) rfl)) (hw _ (List.mem_of_getElem? (i := 190) rfl)) (hw _ (List.mem_of_getElem? (i := 189) rfl)) (hw _ (List.mem_of_getElem? (i := 12) rfl)) (hw _ (List.mem_of_getElem? (i := 191) rfl)) (by decide) rfl (first0r l Z n0 w0 hw  d r s nq no na nv ni nh nt nr ns mx ct1 us fr1 sr6 ss6 qs1 (u3 0 1 w) (t3 b0 b1 b2) (u3 g0 g1 g2) ids hp6 tb9 R6 S6 [(f1, .inl ("com/example/pulld/pulld/broker/InFlight", [("queue", "I", (.int qq)), ("offset", "J", (.long (0 : Int64))), ("attempt", "I", (.int a1)), ("visibleAt", "J", (.long q0)), ("id", "J", (.long (1 : Int64)))])), (f2, .inl ("com/example/pulld/pulld/broker/InFlight", [("queue", "I", (.int qq)), ("offset", "J", (.long (1 : Int64))), ("attempt", "I", (.int a2)), ("visibleAt", "J", (.long q1)), ("id", "J", (.long (2 : Int64)))])), (f3, .inl ("com/example/pulld/pulld/broker/InFlight", [("queue", "I", (.int qq)), ("offset", "J", (.long off)), ("attempt", "I", (.int a3)), ("visibleAt", "J", (.long q2)), ("id", "J", (.long (3 : Int64)))]))]  h0) (by decide) (by decide) rfl (lenOf pd__28_29J rfl) rfl (Nat.le_of_eq rfl) (by decide) (by decide) rfl rfl rfl (fun v W' hF => ?_)
                              obtain ⟨rfl, rfl⟩ := hF
                              refine Go.val ?_
                              rw [h1] at k412
                              exact k412
                            ·
                              refine Go.callV (pc' := 412) (W1 := 0) (cells' := 25) (slots' := 158) (argsL := []) (rest := []) (y' := (⟨"com/example/pulld/pulld/broker/InFlightDeliveries$ByVisibleAt", "firstAt", "()J"⟩ : MethodName)) (a := r) (i := 1) at_409 (hw _ (List.mem_of_getElem? (i := 187) rfl)) (hw _ (List.mem_of_getElem? (i := 188) rfl)) (hw _ (List.mem_of_getElem? (i := 190) rfl)) (hw _ (List.mem_of_getElem? (i := 189) rfl)) (hw _ (List.mem_of_getElem? (i := 12) rfl)) (hw _ (List.mem_of_getElem? (i := 191) rfl)) (by decide) rfl (first1r l Z n0 w0 hw  d r s nq no na nv ni nh nt nr ns mx ct1 us fr1 sr6 ss6 qs1 (u3 0 1 w) (t3 b0 b1 b2) (u3 g0 g1 g2) ids hp6 tb9 R6 S6 [(f1, .inl ("com/example/pulld/pulld/broker/InFlight", [("queue", "I", (.int qq)), ("offset", "J", (.long (0 : Int64))), ("attempt", "I", (.int a1)), ("visibleAt", "J", (.long q0)), ("id", "J", (.long (1 : Int64)))])), (f2, .inl ("com/example/pulld/pulld/broker/InFlight", [("queue", "I", (.int qq)), ("offset", "J", (.long (1 : Int64))), ("attempt", "I", (.int a2)), ("visibleAt", "J", (.long q1)), ("id", "J", (.long (2 : Int64)))])), (f3, .inl ("com/example/pulld/pulld/broker/InFlight", [("queue", "I", (.int qq)), ("offset", "J", (.long off)), ("attempt", "I", (.int a3)), ("visibleAt", "J", (.long q2)), ("id", "J", (.long (3 : Int64)))]))] xw vr h0 hx hv) (by decide) (by decide) rfl (lenOf pd__28_29J rfl) rfl (Nat.le_of_eq rfl) (by decide) (by decide) rfl rfl rfl (fun v W' hF => ?_)
                              obtain ⟨rfl, rfl⟩ := hF
                              refine Go.val ?_
                              exact k412
                          refine Go.icmp_lt (pcY := 396) (pcN := 392) at_389 (by decide) (by decide) rfl (fun hc389 => ?_) (fun hc389 => ?_)
                          ·
                            refine Go.iconst (pc' := 397) (v := (0 : Int32)) at_396 rfl rfl ?_
                            exact k397 _ ⟨fun q => absurd rfl q, fun q => absurd hc389 q⟩
                          ·
                            refine Go.iconst (pc' := 393) (v := (1 : Int32)) at_392 rfl rfl ?_
                            refine Go.goto (pc' := 397) at_393 (by decide) (by decide) ?_
                            exact k397 _ ⟨fun _ => hc389, fun _ => by decide⟩
                        refine Go.if_eq (pcY := 376) (pcN := 365) at_362 (by decide) (by decide) rfl (fun hc362 => ?_) (fun hc362 => ?_)
                        ·
                          refine Go.iconst (pc' := 377) (v := (0 : Int32)) at_376 rfl rfl ?_
                          exact k377 _ ⟨fun q => absurd rfl q, fun q => absurd hc362 (hpp2.mpr q.1)⟩
                        ·
                          refine Go.iload (pc' := 367) at_365 rfl rfl ?_
                          refine Go.iload (pc' := 369) at_367 rfl rfl ?_
                          refine Go.icmp_lt (pcY := 376) (pcN := 372) at_369 (by decide) (by decide) rfl (fun hc369 => ?_) (fun hc369 => ?_)
                          ·
                            refine Go.iconst (pc' := 377) (v := (0 : Int32)) at_376 rfl rfl ?_
                            exact k377 _ ⟨fun q => absurd rfl q, fun q => absurd hc369 q.2⟩
                          ·
                            refine Go.iconst (pc' := 373) (v := (1 : Int32)) at_372 rfl rfl ?_
                            refine Go.goto (pc' := 377) at_373 (by decide) (by decide) ?_
                            exact k377 _ ⟨fun _ => ⟨hpp2.mp hc362, hc369⟩, fun _ => by decide⟩
                      refine Go.if_eq (pcY := 351) (pcN := 340) at_337 (by decide) (by decide) rfl (fun hc337 => ?_) (fun hc337 => ?_)
                      ·
                        refine Go.iconst (pc' := 352) (v := (0 : Int32)) at_351 rfl rfl ?_
                        exact k352 _ ⟨fun q => absurd rfl q, fun q => absurd hc337 (hpp1.mpr q.1)⟩
                      ·
                        refine Go.iload (pc' := 342) at_340 rfl rfl ?_
                        refine Go.iload (pc' := 344) at_342 rfl rfl ?_
                        refine Go.icmp_lt (pcY := 351) (pcN := 347) at_344 (by decide) (by decide) rfl (fun hc344 => ?_) (fun hc344 => ?_)
                        ·
                          refine Go.iconst (pc' := 352) (v := (0 : Int32)) at_351 rfl rfl ?_
                          exact k352 _ ⟨fun q => absurd rfl q, fun q => absurd hc344 q.2⟩
                        ·
                          refine Go.iconst (pc' := 348) (v := (1 : Int32)) at_347 rfl rfl ?_
                          refine Go.goto (pc' := 352) at_348 (by decide) (by decide) ?_
                          exact k352 _ ⟨fun _ => ⟨hpp1.mp hc337, hc344⟩, fun _ => by decide⟩
                    refine Go.icmp_ge (pcY := 325) (pcN := 321) at_318 (by decide) (by decide) rfl (fun hc318 => ?_) (fun hc318 => ?_)
                    ·
                      refine Go.iconst (pc' := 326) (v := (0 : Int32)) at_325 rfl rfl ?_
                      exact k326 _ ⟨fun q => absurd rfl q, fun q => absurd q hc318⟩
                    ·
                      refine Go.iconst (pc' := 322) (v := (1 : Int32)) at_321 rfl rfl ?_
                      refine Go.goto (pc' := 326) at_322 (by decide) (by decide) ?_
                      exact k326 _ ⟨fun _ => hc318, fun _ => by decide⟩
                  refine Go.if_eq (pcY := 305) (pcN := 294) at_291 (by decide) (by decide) rfl (fun hc291 => ?_) (fun hc291 => ?_)
                  ·
                    refine Go.iconst (pc' := 306) (v := (0 : Int32)) at_305 rfl rfl ?_
                    exact k306 _ ⟨fun q => absurd rfl q, fun q => absurd hc291 (hpp2.mpr q.1)⟩
                  ·
                    refine Go.iload (pc' := 296) at_294 rfl rfl ?_
                    refine Go.iload (pc' := 298) at_296 rfl rfl ?_
                    refine Go.icmp_ge (pcY := 305) (pcN := 301) at_298 (by decide) (by decide) rfl (fun hc298 => ?_) (fun hc298 => ?_)
                    ·
                      refine Go.iconst (pc' := 306) (v := (0 : Int32)) at_305 rfl rfl ?_
                      exact k306 _ ⟨fun q => absurd rfl q, fun q => absurd q.2 hc298⟩
                    ·
                      refine Go.iconst (pc' := 302) (v := (1 : Int32)) at_301 rfl rfl ?_
                      refine Go.goto (pc' := 306) at_302 (by decide) (by decide) ?_
                      exact k306 _ ⟨fun _ => ⟨hpp2.mp hc291, hc298⟩, fun _ => by decide⟩
                refine Go.if_eq (pcY := 280) (pcN := 269) at_266 (by decide) (by decide) rfl (fun hc266 => ?_) (fun hc266 => ?_)
                ·
                  refine Go.iconst (pc' := 281) (v := (0 : Int32)) at_280 rfl rfl ?_
                  exact k281 _ ⟨fun q => absurd rfl q, fun q => absurd hc266 (hpp1.mpr q.1)⟩
                ·
                  refine Go.iload (pc' := 271) at_269 rfl rfl ?_
                  refine Go.iload (pc' := 273) at_271 rfl rfl ?_
                  refine Go.icmp_ge (pcY := 280) (pcN := 276) at_273 (by decide) (by decide) rfl (fun hc273 => ?_) (fun hc273 => ?_)
                  ·
                    refine Go.iconst (pc' := 281) (v := (0 : Int32)) at_280 rfl rfl ?_
                    exact k281 _ ⟨fun q => absurd rfl q, fun q => absurd q.2 hc273⟩
                  ·
                    refine Go.iconst (pc' := 277) (v := (1 : Int32)) at_276 rfl rfl ?_
                    refine Go.goto (pc' := 281) at_277 (by decide) (by decide) ?_
                    exact k281 _ ⟨fun _ => ⟨hpp1.mp hc266, hc273⟩, fun _ => by decide⟩
              refine Go.iload (pc' := 242) at_240 rfl rfl ?_
              refine Go.if_ne (pcY := 249) (pcN := 245) at_242 (by decide) (by decide) rfl (fun hc242 => ?_) (fun hc242 => ?_)
              ·
                refine Go.iconst (pc' := 250) (v := (0 : Int32)) at_249 rfl rfl ?_
                refine Go.istore (pc' := 252) (ls' := #[.val (.long q0), .second, .val (.long q1), .second, .val (.long q2), .second, .val (.int p3), .val (.int p4), .val (.int p5), .val (.int qq), .val (.int a1), .val (.int a2), .val (.int a3), .val (.int m0), .val (.int m1), .val (.int rp), .val (.int rm), .val (.int cm), .val (.long off), .second, .val (.ref d), .val (.ref f1), .val (.ref f2), .val (.ref f3), .val (.int lx), .val (.int pp1), .val (.int (0 : Int32)), .unset, .unset, .unset, .unset]) at_250 rfl rfl ?_
                exact k252 _ ⟨fun q => absurd rfl q, fun q => absurd q hc242⟩
              ·
                refine Go.iconst (pc' := 246) (v := (1 : Int32)) at_245 rfl rfl ?_
                refine Go.goto (pc' := 250) at_246 (by decide) (by decide) ?_
                refine Go.istore (pc' := 252) (ls' := #[.val (.long q0), .second, .val (.long q1), .second, .val (.long q2), .second, .val (.int p3), .val (.int p4), .val (.int p5), .val (.int qq), .val (.int a1), .val (.int a2), .val (.int a3), .val (.int m0), .val (.int m1), .val (.int rp), .val (.int rm), .val (.int cm), .val (.long off), .second, .val (.ref d), .val (.ref f1), .val (.ref f2), .val (.ref f3), .val (.int lx), .val (.int pp1), .val (.int (1 : Int32)), .unset, .unset, .unset, .unset]) at_250 rfl rfl ?_
                exact k252 _ ⟨fun _ => hc242, fun _ => by decide⟩
            refine Go.iload (pc' := 230) at_228 rfl rfl ?_
            refine Go.if_ne (pcY := 237) (pcN := 233) at_230 (by decide) (by decide) rfl (fun hc230 => ?_) (fun hc230 => ?_)
            ·
              refine Go.iconst (pc' := 238) (v := (0 : Int32)) at_237 rfl rfl ?_
              refine Go.istore (pc' := 240) (ls' := #[.val (.long q0), .second, .val (.long q1), .second, .val (.long q2), .second, .val (.int p3), .val (.int p4), .val (.int p5), .val (.int qq), .val (.int a1), .val (.int a2), .val (.int a3), .val (.int m0), .val (.int m1), .val (.int rp), .val (.int rm), .val (.int cm), .val (.long off), .second, .val (.ref d), .val (.ref f1), .val (.ref f2), .val (.ref f3), .val (.int lx), .val (.int (0 : Int32)), .unset, .unset, .unset, .unset, .unset]) at_238 rfl rfl ?_
              exact k240 _ ⟨fun q => absurd rfl q, fun q => absurd q hc230⟩
            ·
              refine Go.iconst (pc' := 234) (v := (1 : Int32)) at_233 rfl rfl ?_
              refine Go.goto (pc' := 238) at_234 (by decide) (by decide) ?_
              refine Go.istore (pc' := 240) (ls' := #[.val (.long q0), .second, .val (.long q1), .second, .val (.long q2), .second, .val (.int p3), .val (.int p4), .val (.int p5), .val (.int qq), .val (.int a1), .val (.int a2), .val (.int a3), .val (.int m0), .val (.int m1), .val (.int rp), .val (.int rm), .val (.int cm), .val (.long off), .second, .val (.ref d), .val (.ref f1), .val (.ref f2), .val (.ref f3), .val (.int lx), .val (.int (1 : Int32)), .unset, .unset, .unset, .unset, .unset]) at_238 rfl rfl ?_
              exact k240 _ ⟨fun _ => hc230, fun _ => by decide⟩
          refine Go.iload (pc' := 217) at_215 rfl rfl ?_
          refine Go.if_eq (pcY := 228) (pcN := 220) at_217 (by decide) (by decide) rfl (fun hc217 => ?_) (fun hc217 => ?_)
          ·
            obtain ⟨vr, vl, e1, e2, e3, e4⟩ := fins (rm := rm) hS hD hlx hH4 hS.le (fun y => ⟨fun q => ⟨q, fun e => absurd hc217 e⟩, fun q => q.1⟩)
            exact k228 _ _ _ _ _ _ _ _ _ _ _ e1 e2 e3 e4
          ·
            refine Go.aload (pc' := 222) at_220 rfl rfl rfl ?_
            refine Go.iload (pc' := 224) at_222 rfl rfl ?_
            refine Go.lconst (pc' := 225) (v := (1 : Int64)) at_224 rfl rfl ?_
            obtain ⟨R7, sr7, S7, ss7, hp7, hp8, n7, hn7, hM7, hw7, hV7⟩ := gone (fr := -1) hS hH4
            obtain ⟨tb7, hu7⟩ := tbx_unl (z := z) (w := w) hT
            refine Go.callV (pc' := 228) (W1 := 0) (cells' := 25) (slots' := 158) (argsL := [(.int qq), (.long (1 : Int64))]) (rest := []) (y' := (⟨"com/example/pulld/pulld/broker/InFlightDeliveries", "remove", "(IJ)V"⟩ : MethodName)) (a := d) (i := 0) at_225 (hw _ (List.mem_of_getElem? (i := 164) rfl)) (hw _ (List.mem_of_getElem? (i := 165) rfl)) (hw _ (List.mem_of_getElem? (i := 167) rfl)) (hw _ (List.mem_of_getElem? (i := 166) rfl)) (hw _ (List.mem_of_getElem? (i := 3) rfl)) (hw _ (List.mem_of_getElem? (i := 168) rfl)) (by decide) rfl (rm26 l Z n0 w0 hw qq (1 : Int64) d r s nq no na nv ni nh nt nr ns mx ct us (-1 : Int32) sr4 ss4 (t3 qq qq z) (u3 0 1 w) (t3 b0 b1 b2) (u3 g0 g1 g2) ids hp4 tb R4 S4 [(f1, .inl ("com/example/pulld/pulld/broker/InFlight", [("queue", "I", (.int qq)), ("offset", "J", (.long (0 : Int64))), ("attempt", "I", (.int a1)), ("visibleAt", "J", (.long q0)), ("id", "J", (.long (1 : Int64)))])), (f2, .inl ("com/example/pulld/pulld/broker/InFlight", [("queue", "I", (.int qq)), ("offset", "J", (.long (1 : Int64))), ("attempt", "I", (.int a2)), ("visibleAt", "J", (.long q1)), ("id", "J", (.long (2 : Int64)))])), (f3, .inl ("com/example/pulld/pulld/broker/InFlight", [("queue", "I", (.int qq)), ("offset", "J", (.long off)), ("attempt", "I", (.int a3)), ("visibleAt", "J", (.long q2)), ("id", "J", (.long (3 : Int64)))]))] (1 : Int32) tb7 (t3 qq (-1) z) hp7 R7 sr7 S7 ss7 hp8 (tbx_find1 hT) (by decide) hM7 hu7 rfl hw7 (show ¬ (12 : Int32) < 12 by decide)) (by decide) (by decide) rfl (lenOf pd__28IJ_29V rfl) rfl (Nat.le_of_eq rfl) (by decide) (by decide) rfl rfl rfl (fun v W' hF => ?_)
            obtain ⟨rfl, rfl⟩ := hF
            refine Go.nov ?_
            obtain ⟨vr, vl, e1, e2, e3, e4⟩ := fins (rm := rm) hS hD hlx hV7 (by omega) (fun y => ⟨fun q => ⟨q.1, fun _ => q.2⟩, fun q => ⟨q.1, q.2 hc217⟩⟩)
            exact k228 _ _ _ _ _ _ _ _ _ _ _ e1 e2 e3 e4
        refine Go.iload (pc' := 197) at_195 rfl rfl ?_
        refine Go.istore (pc' := 199) (ls' := #[.val (.long q0), .second, .val (.long q1), .second, .val (.long q2), .second, .val (.int p3), .val (.int p4), .val (.int p5), .val (.int qq), .val (.int a1), .val (.int a2), .val (.int a3), .val (.int m0), .val (.int m1), .val (.int rp), .val (.int rm), .val (.int cm), .val (.long off), .second, .val (.ref d), .val (.ref f1), .val (.ref f2), .val (.ref f3), .val (.int m0), .unset, .unset, .unset, .unset, .unset, .unset]) at_197 rfl rfl ?_
        refine Go.iload (pc' := 201) at_199 rfl rfl ?_
        refine Go.if_eq (pcY := 215) (pcN := 204) at_201 (by decide) (by decide) rfl (fun hc201 => ?_) (fun hc201 => ?_)
        ·
          exact k215 _ _ _ _ _ _ _ rfl hH
        ·
          refine Go.aload (pc' := 206) at_204 rfl rfl rfl ?_
          refine Go.iload (pc' := 208) at_206 rfl rfl ?_
          by_cases hm : m1 = m0
          ·
            refine Go.callV (pc' := 211) (W1 := 0) (cells' := 25) (slots' := 158) (argsL := [(.int m1)]) (rest := []) (y' := (⟨"com/example/pulld/pulld/broker/InFlightDeliveries", "maxAttempts", "(I)V"⟩ : MethodName)) (a := d) (i := 0) at_208 (hw _ (List.mem_of_getElem? (i := 199) rfl)) (hw _ (List.mem_of_getElem? (i := 200) rfl)) (hw _ (List.mem_of_getElem? (i := 202) rfl)) (hw _ (List.mem_of_getElem? (i := 201) rfl)) (hw _ (List.mem_of_getElem? (i := 3) rfl)) (hw _ (List.mem_of_getElem? (i := 203) rfl)) (by decide) rfl (max0 l Z n0 w0 hw m1 d r s nq no na nv ni nh nt nr ns m0 ct us (-1 : Int32) sr ss (t3 qq qq z) (u3 0 1 w) (t3 b0 b1 b2) (u3 g0 g1 g2) ids hp tb R S [(f1, .inl ("com/example/pulld/pulld/broker/InFlight", [("queue", "I", (.int qq)), ("offset", "J", (.long (0 : Int64))), ("attempt", "I", (.int a1)), ("visibleAt", "J", (.long q0)), ("id", "J", (.long (1 : Int64)))])), (f2, .inl ("com/example/pulld/pulld/broker/InFlight", [("queue", "I", (.int qq)), ("offset", "J", (.long (1 : Int64))), ("attempt", "I", (.int a2)), ("visibleAt", "J", (.long q1)), ("id", "J", (.long (2 : Int64)))])), (f3, .inl ("com/example/pulld/pulld/broker/InFlight", [("queue", "I", (.int qq)), ("offset", "J", (.long off)), ("attempt", "I", (.int a3)), ("visibleAt", "J", (.long q2)), ("id", "J", (.long (3 : Int64)))]))]  hm) (by decide) (by decide) rfl (lenOf pd__28I_29V rfl) rfl (Nat.le_of_eq rfl) (by decide) (by decide) rfl rfl rfl (fun v W' hF => ?_)
            obtain ⟨rfl, rfl⟩ := hF
            refine Go.nov ?_
            refine Go.iload (pc' := 213) at_211 rfl rfl ?_
            refine Go.istore (pc' := 215) (ls' := #[.val (.long q0), .second, .val (.long q1), .second, .val (.long q2), .second, .val (.int p3), .val (.int p4), .val (.int p5), .val (.int qq), .val (.int a1), .val (.int a2), .val (.int a3), .val (.int m0), .val (.int m1), .val (.int rp), .val (.int rm), .val (.int cm), .val (.long off), .second, .val (.ref d), .val (.ref f1), .val (.ref f2), .val (.ref f3), .val (.int m1), .unset, .unset, .unset, .unset, .unset, .unset]) at_213 rfl rfl ?_
            exact k215 _ _ _ _ _ _ _ hm hH
          ·
            obtain ⟨⟨R5, sr5, S5, ss5, hp5⟩, hF5, hV5⟩ := remax (mx' := m1) hS hqq hH
            refine Go.callV (pc' := 211) (W1 := 0) (cells' := 25) (slots' := 158) (argsL := [(.int m1)]) (rest := []) (y' := (⟨"com/example/pulld/pulld/broker/InFlightDeliveries", "maxAttempts", "(I)V"⟩ : MethodName)) (a := d) (i := 0) at_208 (hw _ (List.mem_of_getElem? (i := 199) rfl)) (hw _ (List.mem_of_getElem? (i := 200) rfl)) (hw _ (List.mem_of_getElem? (i := 202) rfl)) (hw _ (List.mem_of_getElem? (i := 201) rfl)) (hw _ (List.mem_of_getElem? (i := 3) rfl)) (hw _ (List.mem_of_getElem? (i := 203) rfl)) (by decide) rfl (max1 l Z n0 w0 hw m1 d r s nq no na nv ni nh nt nr ns m0 ct us (-1 : Int32) sr ss (t3 qq qq z) (u3 0 1 w) (t3 b0 b1 b2) (u3 g0 g1 g2) ids hp tb R S [(f1, .inl ("com/example/pulld/pulld/broker/InFlight", [("queue", "I", (.int qq)), ("offset", "J", (.long (0 : Int64))), ("attempt", "I", (.int a1)), ("visibleAt", "J", (.long q0)), ("id", "J", (.long (1 : Int64)))])), (f2, .inl ("com/example/pulld/pulld/broker/InFlight", [("queue", "I", (.int qq)), ("offset", "J", (.long (1 : Int64))), ("attempt", "I", (.int a2)), ("visibleAt", "J", (.long q1)), ("id", "J", (.long (2 : Int64)))])), (f3, .inl ("com/example/pulld/pulld/broker/InFlight", [("queue", "I", (.int qq)), ("offset", "J", (.long off)), ("attempt", "I", (.int a3)), ("visibleAt", "J", (.long q2)), ("id", "J", (.long (3 : Int64)))]))] 4 R5 sr5 S5 ss5 hp5 hm hF5) (by decide) (by decide) rfl (lenOf pd__28I_29V rfl) rfl (Nat.le_of_eq rfl) (by decide) (by decide) rfl rfl rfl (fun v W' hF => ?_)
            obtain ⟨rfl, rfl⟩ := hF
            refine Go.nov ?_
            refine Go.iload (pc' := 213) at_211 rfl rfl ?_
            refine Go.istore (pc' := 215) (ls' := #[.val (.long q0), .second, .val (.long q1), .second, .val (.long q2), .second, .val (.int p3), .val (.int p4), .val (.int p5), .val (.int qq), .val (.int a1), .val (.int a2), .val (.int a3), .val (.int m0), .val (.int m1), .val (.int rp), .val (.int rm), .val (.int cm), .val (.long off), .second, .val (.ref d), .val (.ref f1), .val (.ref f2), .val (.ref f3), .val (.int m1), .unset, .unset, .unset, .unset, .unset, .unset]) at_213 rfl rfl ?_
            exact k215 _ _ _ _ _ _ _ rfl hV5
      rcases hoff with ⟨hrp, hO⟩ | ⟨hrp, hO⟩
      ·
        obtain ⟨H1, ⟨R3, sr3, S3, ss3, hp3⟩, hM3, hA3, hV3⟩ := put3o (q := qq) (a3 := a3) (v3 := q2) hV2
        refine Go.callV (pc' := 195) (W1 := 0) (cells' := 25) (slots' := 158) (argsL := [(.ref f3)]) (rest := []) (y' := (⟨"com/example/pulld/pulld/broker/InFlightDeliveries", "put", "(Lcom/example/pulld/pulld/broker/InFlight;)V"⟩ : MethodName)) (a := d) (i := 0) at_192 (hw _ (List.mem_of_getElem? (i := 69) rfl)) (hw _ (List.mem_of_getElem? (i := 70) rfl)) (hw _ (List.mem_of_getElem? (i := 72) rfl)) (hw _ (List.mem_of_getElem? (i := 71) rfl)) (hw _ (List.mem_of_getElem? (i := 3) rfl)) (hw _ (List.mem_of_getElem? (i := 73) rfl)) (by decide) rfl (putO l Z n0 w0 hw f3 d r s nq no na nv ni nh nt nr ns m0 ((0 + (1 : Int32)) + (1 : Int32)) (((0 : Int32) + (1 : Int32)) + (1 : Int32)) (-1 : Int32) sr2 ss2 (t3 qq qq 0) (u3 0 1 0) (t3 a1 a2 0) (u3 q0 q1 0) (u3 1 2 0) hp2 tb2 R2 S2 [(f1, .inl ("com/example/pulld/pulld/broker/InFlight", [("queue", "I", (.int qq)), ("offset", "J", (.long (0 : Int64))), ("attempt", "I", (.int a1)), ("visibleAt", "J", (.long q0)), ("id", "J", (.long (1 : Int64)))])), (f2, .inl ("com/example/pulld/pulld/broker/InFlight", [("queue", "I", (.int qq)), ("offset", "J", (.long (1 : Int64))), ("attempt", "I", (.int a2)), ("visibleAt", "J", (.long q1)), ("id", "J", (.long (2 : Int64)))])), (f3, .inl ("com/example/pulld/pulld/broker/InFlight", [("queue", "I", (.int qq)), ("offset", "J", (.long off)), ("attempt", "I", (.int a3)), ("visibleAt", "J", (.long q2)), ("id", "J", (.long (3 : Int64)))]))] 2 qq off a3 q2 (3 : Int64) (0 : Int32) H1 (t3 a3 a2 0) (u3 q2 q1 0) (u3 3 2 0) R3 sr3 S3 ss3 hp3 rfl (by rw [hO]; exact tb2_find0 hT2) (by decide) hM3 rfl rfl rfl hA3) (by decide) (by decide) rfl (lenOf pd__28Lcom_2fexample_2fpulld_2fpulld_2fbroker_2fInFlight_3b_29V rfl) rfl (Nat.le_of_eq rfl) (by decide) (by decide) rfl rfl rfl (fun v W' hF => ?_)
        obtain ⟨rfl, rfl⟩ := hF
        refine Go.nov ?_
        exact k195 0 0 _ _ a3 a2 0 q2 q1 0 _ _ _ _ _ _ _ L2 2 (Or.inl ⟨rfl, rfl, rfl, rfl, rfl⟩) (Or.inl ⟨hrp, rfl, rfl, rfl, rfl, rfl⟩) hT2.x hV3
      ·
        obtain ⟨tb3, hl3, hT3⟩ := tb2_link hT2
        obtain ⟨⟨R3, sr3, S3, ss3, hp3⟩, hA3, hV3⟩ := put3n (q := qq) (a3 := a3) (v3 := q2) hV2
        refine Go.callV (pc' := 195) (W1 := 0) (cells' := 25) (slots' := 158) (argsL := [(.ref f3)]) (rest := []) (y' := (⟨"com/example/pulld/pulld/broker/InFlightDeliveries", "put", "(Lcom/example/pulld/pulld/broker/InFlight;)V"⟩ : MethodName)) (a := d) (i := 0) at_192 (hw _ (List.mem_of_getElem? (i := 69) rfl)) (hw _ (List.mem_of_getElem? (i := 70) rfl)) (hw _ (List.mem_of_getElem? (i := 72) rfl)) (hw _ (List.mem_of_getElem? (i := 71) rfl)) (hw _ (List.mem_of_getElem? (i := 3) rfl)) (hw _ (List.mem_of_getElem? (i := 73) rfl)) (by decide) rfl (putN l Z n0 w0 hw f3 d r s nq no na nv ni nh nt nr ns m0 ((0 + (1 : Int32)) + (1 : Int32)) (((0 : Int32) + (1 : Int32)) + (1 : Int32)) (-1 : Int32) sr2 ss2 (t3 qq qq 0) (u3 0 1 0) (t3 a1 a2 0) (u3 q0 q1 0) (u3 1 2 0) hp2 tb2 R2 S2 [(f1, .inl ("com/example/pulld/pulld/broker/InFlight", [("queue", "I", (.int qq)), ("offset", "J", (.long (0 : Int64))), ("attempt", "I", (.int a1)), ("visibleAt", "J", (.long q0)), ("id", "J", (.long (1 : Int64)))])), (f2, .inl ("com/example/pulld/pulld/broker/InFlight", [("queue", "I", (.int qq)), ("offset", "J", (.long (1 : Int64))), ("attempt", "I", (.int a2)), ("visibleAt", "J", (.long q1)), ("id", "J", (.long (2 : Int64)))])), (f3, .inl ("com/example/pulld/pulld/broker/InFlight", [("queue", "I", (.int qq)), ("offset", "J", (.long off)), ("attempt", "I", (.int a3)), ("visibleAt", "J", (.long q2)), ("id", "J", (.long (3 : Int64)))]))] 2 qq off a3 q2 (3 : Int64) (-1 : Int32) (t3 qq qq qq) (u3 0 1 2) tb3 (t3 a1 a2 a3) (u3 q0 q1 q2) (u3 1 2 3) R3 sr3 S3 ss3 hp3 rfl (by rw [hO]; exact tb2_miss hT2) (by decide) (by decide) (show ¬ (((0 : Int32) + 1) + 1) = (12 : Int32) by decide) rfl (by rw [hO]; rfl) hl3 rfl rfl rfl hA3) (by decide) (by decide) rfl (lenOf pd__28Lcom_2fexample_2fpulld_2fpulld_2fbroker_2fInFlight_3b_29V rfl) rfl (Nat.le_of_eq rfl) (by decide) (by decide) rfl rfl rfl (fun v W' hF => ?_)
        obtain ⟨rfl, rfl⟩ := hF
        refine Go.nov ?_
        exact k195 qq 2 _ _ a1 a2 a3 q0 q1 q2 _ _ _ _ _ _ _ L3 3 (Or.inr ⟨rfl, rfl, rfl, rfl, rfl⟩) (Or.inr ⟨hrp, rfl, rfl, rfl, rfl, rfl, rfl, rfl⟩) hT3 hV3
    refine Go.iload (pc' := 97) at_95 rfl rfl ?_
    refine Go.if_eq (pcY := 104) (pcN := 100) at_97 (by decide) (by decide) rfl (fun hc97 => ?_) (fun hc97 => ?_)
    ·
      refine Go.ldcL (pc' := 107) (v := (2 : Int64)) at_104 (hw _ (List.mem_of_getElem? (i := 67) rfl)) rfl ?_
      refine Go.lstore (pc' := 109) (ls' := #[.val (.long q0), .second, .val (.long q1), .second, .val (.long q2), .second, .val (.int p3), .val (.int p4), .val (.int p5), .val (.int qq), .val (.int a1), .val (.int a2), .val (.int a3), .val (.int m0), .val (.int m1), .val (.int rp), .val (.int rm), .val (.int cm), .val (.long (2 : Int64)), .second, .unset, .unset, .unset, .unset, .unset, .unset, .unset, .unset, .unset, .unset, .unset]) at_107 rfl rfl ?_
      exact k109 _ (Or.inr ⟨hc97, rfl⟩)
    ·
      refine Go.lconst (pc' := 101) (v := (0 : Int64)) at_100 rfl rfl ?_
      refine Go.goto (pc' := 107) at_101 (by decide) (by decide) ?_
      refine Go.lstore (pc' := 109) (ls' := #[.val (.long q0), .second, .val (.long q1), .second, .val (.long q2), .second, .val (.int p3), .val (.int p4), .val (.int p5), .val (.int qq), .val (.int a1), .val (.int a2), .val (.int a3), .val (.int m0), .val (.int m1), .val (.int rp), .val (.int rm), .val (.int cm), .val (.long (0 : Int64)), .second, .unset, .unset, .unset, .unset, .unset, .unset, .unset, .unset, .unset, .unset, .unset]) at_107 rfl rfl ?_
      exact k109 _ (Or.inl ⟨hc97, rfl⟩)
  refine Go.iload (pc' := 2) at_0 rfl rfl ?_
  refine Go.ldcI (pc' := 4) (v := (2147483647 : Int32)) at_2 (hw _ (List.mem_of_getElem? (i := 0) rfl)) rfl ?_
  refine Go.iand (pc' := 5) at_4 rfl ?_
  refine Go.istore (pc' := 7) (ls' := #[.val (.long q0), .second, .val (.long q1), .second, .val (.long q2), .second, .val (.int p3), .val (.int p4), .val (.int p5), .val (.int (p3 &&& (2147483647 : Int32))), .unset, .unset, .unset, .unset, .unset, .unset, .unset, .unset, .unset, .unset, .unset, .unset, .unset, .unset, .unset, .unset, .unset, .unset, .unset, .unset, .unset]) at_5 rfl rfl ?_
  refine Go.iload (pc' := 9) at_7 rfl rfl ?_
  refine Go.bipush (pc' := 11) (v := (7 : Int32)) at_9 rfl rfl ?_
  refine Go.iand (pc' := 12) at_11 rfl ?_
  refine Go.istore (pc' := 14) (ls' := #[.val (.long q0), .second, .val (.long q1), .second, .val (.long q2), .second, .val (.int p3), .val (.int p4), .val (.int p5), .val (.int (p3 &&& (2147483647 : Int32))), .val (.int (p4 &&& (7 : Int32))), .unset, .unset, .unset, .unset, .unset, .unset, .unset, .unset, .unset, .unset, .unset, .unset, .unset, .unset, .unset, .unset, .unset, .unset, .unset, .unset]) at_12 rfl rfl ?_
  refine Go.iload (pc' := 16) at_14 rfl rfl ?_
  refine Go.iconst (pc' := 17) (v := (3 : Int32)) at_16 rfl rfl ?_
  refine Go.iushr (pc' := 18) at_17 rfl ?_
  refine Go.bipush (pc' := 20) (v := (7 : Int32)) at_18 rfl rfl ?_
  refine Go.iand (pc' := 21) at_20 rfl ?_
  refine Go.istore (pc' := 23) (ls' := #[.val (.long q0), .second, .val (.long q1), .second, .val (.long q2), .second, .val (.int p3), .val (.int p4), .val (.int p5), .val (.int (p3 &&& (2147483647 : Int32))), .val (.int (p4 &&& (7 : Int32))), .val (.int ((XT.ushr p4 (3 : Int32)) &&& (7 : Int32))), .unset, .unset, .unset, .unset, .unset, .unset, .unset, .unset, .unset, .unset, .unset, .unset, .unset, .unset, .unset, .unset, .unset, .unset, .unset]) at_21 rfl rfl ?_
  refine Go.iload (pc' := 25) at_23 rfl rfl ?_
  refine Go.bipush (pc' := 27) (v := (6 : Int32)) at_25 rfl rfl ?_
  refine Go.iushr (pc' := 28) at_27 rfl ?_
  refine Go.bipush (pc' := 30) (v := (7 : Int32)) at_28 rfl rfl ?_
  refine Go.iand (pc' := 31) at_30 rfl ?_
  refine Go.istore (pc' := 33) (ls' := #[.val (.long q0), .second, .val (.long q1), .second, .val (.long q2), .second, .val (.int p3), .val (.int p4), .val (.int p5), .val (.int (p3 &&& (2147483647 : Int32))), .val (.int (p4 &&& (7 : Int32))), .val (.int ((XT.ushr p4 (3 : Int32)) &&& (7 : Int32))), .val (.int ((XT.ushr p4 (6 : Int32)) &&& (7 : Int32))), .unset, .unset, .unset, .unset, .unset, .unset, .unset, .unset, .unset, .unset, .unset, .unset, .unset, .unset, .unset, .unset, .unset, .unset]) at_31 rfl rfl ?_
  refine Go.iload (pc' := 35) at_33 rfl rfl ?_
  refine Go.bipush (pc' := 37) (v := (9 : Int32)) at_35 rfl rfl ?_
  refine Go.iushr (pc' := 38) at_37 rfl ?_
  refine Go.bipush (pc' := 40) (v := (7 : Int32)) at_38 rfl rfl ?_
  refine Go.iand (pc' := 41) at_40 rfl ?_
  refine Go.istore (pc' := 43) (ls' := #[.val (.long q0), .second, .val (.long q1), .second, .val (.long q2), .second, .val (.int p3), .val (.int p4), .val (.int p5), .val (.int (p3 &&& (2147483647 : Int32))), .val (.int (p4 &&& (7 : Int32))), .val (.int ((XT.ushr p4 (3 : Int32)) &&& (7 : Int32))), .val (.int ((XT.ushr p4 (6 : Int32)) &&& (7 : Int32))), .val (.int ((XT.ushr p4 (9 : Int32)) &&& (7 : Int32))), .unset, .unset, .unset, .unset, .unset, .unset, .unset, .unset, .unset, .unset, .unset, .unset, .unset, .unset, .unset, .unset, .unset]) at_41 rfl rfl ?_
  refine Go.iload (pc' := 45) at_43 rfl rfl ?_
  refine Go.bipush (pc' := 47) (v := (12 : Int32)) at_45 rfl rfl ?_
  refine Go.iushr (pc' := 48) at_47 rfl ?_
  refine Go.bipush (pc' := 50) (v := (7 : Int32)) at_48 rfl rfl ?_
  refine Go.iand (pc' := 51) at_50 rfl ?_
  refine Go.istore (pc' := 53) (ls' := #[.val (.long q0), .second, .val (.long q1), .second, .val (.long q2), .second, .val (.int p3), .val (.int p4), .val (.int p5), .val (.int (p3 &&& (2147483647 : Int32))), .val (.int (p4 &&& (7 : Int32))), .val (.int ((XT.ushr p4 (3 : Int32)) &&& (7 : Int32))), .val (.int ((XT.ushr p4 (6 : Int32)) &&& (7 : Int32))), .val (.int ((XT.ushr p4 (9 : Int32)) &&& (7 : Int32))), .val (.int ((XT.ushr p4 (12 : Int32)) &&& (7 : Int32))), .unset, .unset, .unset, .unset, .unset, .unset, .unset, .unset, .unset, .unset, .unset, .unset, .unset, .unset, .unset, .unset]) at_51 rfl rfl ?_
  refine Go.iload (pc' := 55) at_53 rfl rfl ?_
  refine Go.iconst (pc' := 56) (v := (1 : Int32)) at_55 rfl rfl ?_
  refine Go.iand (pc' := 57) at_56 rfl ?_
  refine Go.if_eq (pcY := 64) (pcN := 60) at_57 (by decide) (by decide) rfl (fun hc57 => ?_) (fun hc57 => ?_)
  ·
    refine Go.iconst (pc' := 65) (v := (0 : Int32)) at_64 rfl rfl ?_
    refine Go.istore (pc' := 67) (ls' := #[.val (.long q0), .second, .val (.long q1), .second, .val (.long q2), .second, .val (.int p3), .val (.int p4), .val (.int p5), .val (.int (p3 &&& (2147483647 : Int32))), .val (.int (p4 &&& (7 : Int32))), .val (.int ((XT.ushr p4 (3 : Int32)) &&& (7 : Int32))), .val (.int ((XT.ushr p4 (6 : Int32)) &&& (7 : Int32))), .val (.int ((XT.ushr p4 (9 : Int32)) &&& (7 : Int32))), .val (.int ((XT.ushr p4 (12 : Int32)) &&& (7 : Int32))), .val (.int (0 : Int32)), .unset, .unset, .unset, .unset, .unset, .unset, .unset, .unset, .unset, .unset, .unset, .unset, .unset, .unset, .unset]) at_65 rfl rfl ?_
    refine Go.iload (pc' := 69) at_67 rfl rfl ?_
    refine Go.iconst (pc' := 70) (v := (2 : Int32)) at_69 rfl rfl ?_
    refine Go.iand (pc' := 71) at_70 rfl ?_
    refine Go.if_eq (pcY := 78) (pcN := 74) at_71 (by decide) (by decide) rfl (fun hc71 => ?_) (fun hc71 => ?_)
    ·
      refine Go.iconst (pc' := 79) (v := (0 : Int32)) at_78 rfl rfl ?_
      refine Go.istore (pc' := 81) (ls' := #[.val (.long q0), .second, .val (.long q1), .second, .val (.long q2), .second, .val (.int p3), .val (.int p4), .val (.int p5), .val (.int (p3 &&& (2147483647 : Int32))), .val (.int (p4 &&& (7 : Int32))), .val (.int ((XT.ushr p4 (3 : Int32)) &&& (7 : Int32))), .val (.int ((XT.ushr p4 (6 : Int32)) &&& (7 : Int32))), .val (.int ((XT.ushr p4 (9 : Int32)) &&& (7 : Int32))), .val (.int ((XT.ushr p4 (12 : Int32)) &&& (7 : Int32))), .val (.int (0 : Int32)), .val (.int (0 : Int32)), .unset, .unset, .unset, .unset, .unset, .unset, .unset, .unset, .unset, .unset, .unset, .unset, .unset, .unset]) at_79 rfl rfl ?_
      refine Go.iload (pc' := 83) at_81 rfl rfl ?_
      refine Go.iconst (pc' := 84) (v := (4 : Int32)) at_83 rfl rfl ?_
      refine Go.iand (pc' := 85) at_84 rfl ?_
      refine Go.if_eq (pcY := 92) (pcN := 88) at_85 (by decide) (by decide) rfl (fun hc85 => ?_) (fun hc85 => ?_)
      ·
        refine Go.iconst (pc' := 93) (v := (0 : Int32)) at_92 rfl rfl ?_
        refine Go.istore (pc' := 95) (ls' := #[.val (.long q0), .second, .val (.long q1), .second, .val (.long q2), .second, .val (.int p3), .val (.int p4), .val (.int p5), .val (.int (p3 &&& (2147483647 : Int32))), .val (.int (p4 &&& (7 : Int32))), .val (.int ((XT.ushr p4 (3 : Int32)) &&& (7 : Int32))), .val (.int ((XT.ushr p4 (6 : Int32)) &&& (7 : Int32))), .val (.int ((XT.ushr p4 (9 : Int32)) &&& (7 : Int32))), .val (.int ((XT.ushr p4 (12 : Int32)) &&& (7 : Int32))), .val (.int (0 : Int32)), .val (.int (0 : Int32)), .val (.int (0 : Int32)), .unset, .unset, .unset, .unset, .unset, .unset, .unset, .unset, .unset, .unset, .unset, .unset, .unset]) at_93 rfl rfl ?_
        exact k95 _ _ _ _ _ _ _ _ _ (own_q _)
      ·
        refine Go.iconst (pc' := 89) (v := (1 : Int32)) at_88 rfl rfl ?_
        refine Go.goto (pc' := 93) at_89 (by decide) (by decide) ?_
        refine Go.istore (pc' := 95) (ls' := #[.val (.long q0), .second, .val (.long q1), .second, .val (.long q2), .second, .val (.int p3), .val (.int p4), .val (.int p5), .val (.int (p3 &&& (2147483647 : Int32))), .val (.int (p4 &&& (7 : Int32))), .val (.int ((XT.ushr p4 (3 : Int32)) &&& (7 : Int32))), .val (.int ((XT.ushr p4 (6 : Int32)) &&& (7 : Int32))), .val (.int ((XT.ushr p4 (9 : Int32)) &&& (7 : Int32))), .val (.int ((XT.ushr p4 (12 : Int32)) &&& (7 : Int32))), .val (.int (0 : Int32)), .val (.int (0 : Int32)), .val (.int (1 : Int32)), .unset, .unset, .unset, .unset, .unset, .unset, .unset, .unset, .unset, .unset, .unset, .unset, .unset]) at_93 rfl rfl ?_
        exact k95 _ _ _ _ _ _ _ _ _ (own_q _)
    ·
      refine Go.iconst (pc' := 75) (v := (1 : Int32)) at_74 rfl rfl ?_
      refine Go.goto (pc' := 79) at_75 (by decide) (by decide) ?_
      refine Go.istore (pc' := 81) (ls' := #[.val (.long q0), .second, .val (.long q1), .second, .val (.long q2), .second, .val (.int p3), .val (.int p4), .val (.int p5), .val (.int (p3 &&& (2147483647 : Int32))), .val (.int (p4 &&& (7 : Int32))), .val (.int ((XT.ushr p4 (3 : Int32)) &&& (7 : Int32))), .val (.int ((XT.ushr p4 (6 : Int32)) &&& (7 : Int32))), .val (.int ((XT.ushr p4 (9 : Int32)) &&& (7 : Int32))), .val (.int ((XT.ushr p4 (12 : Int32)) &&& (7 : Int32))), .val (.int (0 : Int32)), .val (.int (1 : Int32)), .unset, .unset, .unset, .unset, .unset, .unset, .unset, .unset, .unset, .unset, .unset, .unset, .unset, .unset]) at_79 rfl rfl ?_
      refine Go.iload (pc' := 83) at_81 rfl rfl ?_
      refine Go.iconst (pc' := 84) (v := (4 : Int32)) at_83 rfl rfl ?_
      refine Go.iand (pc' := 85) at_84 rfl ?_
      refine Go.if_eq (pcY := 92) (pcN := 88) at_85 (by decide) (by decide) rfl (fun hc85 => ?_) (fun hc85 => ?_)
      ·
        refine Go.iconst (pc' := 93) (v := (0 : Int32)) at_92 rfl rfl ?_
        refine Go.istore (pc' := 95) (ls' := #[.val (.long q0), .second, .val (.long q1), .second, .val (.long q2), .second, .val (.int p3), .val (.int p4), .val (.int p5), .val (.int (p3 &&& (2147483647 : Int32))), .val (.int (p4 &&& (7 : Int32))), .val (.int ((XT.ushr p4 (3 : Int32)) &&& (7 : Int32))), .val (.int ((XT.ushr p4 (6 : Int32)) &&& (7 : Int32))), .val (.int ((XT.ushr p4 (9 : Int32)) &&& (7 : Int32))), .val (.int ((XT.ushr p4 (12 : Int32)) &&& (7 : Int32))), .val (.int (0 : Int32)), .val (.int (1 : Int32)), .val (.int (0 : Int32)), .unset, .unset, .unset, .unset, .unset, .unset, .unset, .unset, .unset, .unset, .unset, .unset, .unset]) at_93 rfl rfl ?_
        exact k95 _ _ _ _ _ _ _ _ _ (own_q _)
      ·
        refine Go.iconst (pc' := 89) (v := (1 : Int32)) at_88 rfl rfl ?_
        refine Go.goto (pc' := 93) at_89 (by decide) (by decide) ?_
        refine Go.istore (pc' := 95) (ls' := #[.val (.long q0), .second, .val (.long q1), .second, .val (.long q2), .second, .val (.int p3), .val (.int p4), .val (.int p5), .val (.int (p3 &&& (2147483647 : Int32))), .val (.int (p4 &&& (7 : Int32))), .val (.int ((XT.ushr p4 (3 : Int32)) &&& (7 : Int32))), .val (.int ((XT.ushr p4 (6 : Int32)) &&& (7 : Int32))), .val (.int ((XT.ushr p4 (9 : Int32)) &&& (7 : Int32))), .val (.int ((XT.ushr p4 (12 : Int32)) &&& (7 : Int32))), .val (.int (0 : Int32)), .val (.int (1 : Int32)), .val (.int (1 : Int32)), .unset, .unset, .unset, .unset, .unset, .unset, .unset, .unset, .unset, .unset, .unset, .unset, .unset]) at_93 rfl rfl ?_
        exact k95 _ _ _ _ _ _ _ _ _ (own_q _)
  ·
    refine Go.iconst (pc' := 61) (v := (1 : Int32)) at_60 rfl rfl ?_
    refine Go.goto (pc' := 65) at_61 (by decide) (by decide) ?_
    refine Go.istore (pc' := 67) (ls' := #[.val (.long q0), .second, .val (.long q1), .second, .val (.long q2), .second, .val (.int p3), .val (.int p4), .val (.int p5), .val (.int (p3 &&& (2147483647 : Int32))), .val (.int (p4 &&& (7 : Int32))), .val (.int ((XT.ushr p4 (3 : Int32)) &&& (7 : Int32))), .val (.int ((XT.ushr p4 (6 : Int32)) &&& (7 : Int32))), .val (.int ((XT.ushr p4 (9 : Int32)) &&& (7 : Int32))), .val (.int ((XT.ushr p4 (12 : Int32)) &&& (7 : Int32))), .val (.int (1 : Int32)), .unset, .unset, .unset, .unset, .unset, .unset, .unset, .unset, .unset, .unset, .unset, .unset, .unset, .unset, .unset]) at_65 rfl rfl ?_
    refine Go.iload (pc' := 69) at_67 rfl rfl ?_
    refine Go.iconst (pc' := 70) (v := (2 : Int32)) at_69 rfl rfl ?_
    refine Go.iand (pc' := 71) at_70 rfl ?_
    refine Go.if_eq (pcY := 78) (pcN := 74) at_71 (by decide) (by decide) rfl (fun hc71 => ?_) (fun hc71 => ?_)
    ·
      refine Go.iconst (pc' := 79) (v := (0 : Int32)) at_78 rfl rfl ?_
      refine Go.istore (pc' := 81) (ls' := #[.val (.long q0), .second, .val (.long q1), .second, .val (.long q2), .second, .val (.int p3), .val (.int p4), .val (.int p5), .val (.int (p3 &&& (2147483647 : Int32))), .val (.int (p4 &&& (7 : Int32))), .val (.int ((XT.ushr p4 (3 : Int32)) &&& (7 : Int32))), .val (.int ((XT.ushr p4 (6 : Int32)) &&& (7 : Int32))), .val (.int ((XT.ushr p4 (9 : Int32)) &&& (7 : Int32))), .val (.int ((XT.ushr p4 (12 : Int32)) &&& (7 : Int32))), .val (.int (1 : Int32)), .val (.int (0 : Int32)), .unset, .unset, .unset, .unset, .unset, .unset, .unset, .unset, .unset, .unset, .unset, .unset, .unset, .unset]) at_79 rfl rfl ?_
      refine Go.iload (pc' := 83) at_81 rfl rfl ?_
      refine Go.iconst (pc' := 84) (v := (4 : Int32)) at_83 rfl rfl ?_
      refine Go.iand (pc' := 85) at_84 rfl ?_
      refine Go.if_eq (pcY := 92) (pcN := 88) at_85 (by decide) (by decide) rfl (fun hc85 => ?_) (fun hc85 => ?_)
      ·
        refine Go.iconst (pc' := 93) (v := (0 : Int32)) at_92 rfl rfl ?_
        refine Go.istore (pc' := 95) (ls' := #[.val (.long q0), .second, .val (.long q1), .second, .val (.long q2), .second, .val (.int p3), .val (.int p4), .val (.int p5), .val (.int (p3 &&& (2147483647 : Int32))), .val (.int (p4 &&& (7 : Int32))), .val (.int ((XT.ushr p4 (3 : Int32)) &&& (7 : Int32))), .val (.int ((XT.ushr p4 (6 : Int32)) &&& (7 : Int32))), .val (.int ((XT.ushr p4 (9 : Int32)) &&& (7 : Int32))), .val (.int ((XT.ushr p4 (12 : Int32)) &&& (7 : Int32))), .val (.int (1 : Int32)), .val (.int (0 : Int32)), .val (.int (0 : Int32)), .unset, .unset, .unset, .unset, .unset, .unset, .unset, .unset, .unset, .unset, .unset, .unset, .unset]) at_93 rfl rfl ?_
        exact k95 _ _ _ _ _ _ _ _ _ (own_q _)
      ·
        refine Go.iconst (pc' := 89) (v := (1 : Int32)) at_88 rfl rfl ?_
        refine Go.goto (pc' := 93) at_89 (by decide) (by decide) ?_
        refine Go.istore (pc' := 95) (ls' := #[.val (.long q0), .second, .val (.long q1), .second, .val (.long q2), .second, .val (.int p3), .val (.int p4), .val (.int p5), .val (.int (p3 &&& (2147483647 : Int32))), .val (.int (p4 &&& (7 : Int32))), .val (.int ((XT.ushr p4 (3 : Int32)) &&& (7 : Int32))), .val (.int ((XT.ushr p4 (6 : Int32)) &&& (7 : Int32))), .val (.int ((XT.ushr p4 (9 : Int32)) &&& (7 : Int32))), .val (.int ((XT.ushr p4 (12 : Int32)) &&& (7 : Int32))), .val (.int (1 : Int32)), .val (.int (0 : Int32)), .val (.int (1 : Int32)), .unset, .unset, .unset, .unset, .unset, .unset, .unset, .unset, .unset, .unset, .unset, .unset, .unset]) at_93 rfl rfl ?_
        exact k95 _ _ _ _ _ _ _ _ _ (own_q _)
    ·
      refine Go.iconst (pc' := 75) (v := (1 : Int32)) at_74 rfl rfl ?_
      refine Go.goto (pc' := 79) at_75 (by decide) (by decide) ?_
      refine Go.istore (pc' := 81) (ls' := #[.val (.long q0), .second, .val (.long q1), .second, .val (.long q2), .second, .val (.int p3), .val (.int p4), .val (.int p5), .val (.int (p3 &&& (2147483647 : Int32))), .val (.int (p4 &&& (7 : Int32))), .val (.int ((XT.ushr p4 (3 : Int32)) &&& (7 : Int32))), .val (.int ((XT.ushr p4 (6 : Int32)) &&& (7 : Int32))), .val (.int ((XT.ushr p4 (9 : Int32)) &&& (7 : Int32))), .val (.int ((XT.ushr p4 (12 : Int32)) &&& (7 : Int32))), .val (.int (1 : Int32)), .val (.int (1 : Int32)), .unset, .unset, .unset, .unset, .unset, .unset, .unset, .unset, .unset, .unset, .unset, .unset, .unset, .unset]) at_79 rfl rfl ?_
      refine Go.iload (pc' := 83) at_81 rfl rfl ?_
      refine Go.iconst (pc' := 84) (v := (4 : Int32)) at_83 rfl rfl ?_
      refine Go.iand (pc' := 85) at_84 rfl ?_
      refine Go.if_eq (pcY := 92) (pcN := 88) at_85 (by decide) (by decide) rfl (fun hc85 => ?_) (fun hc85 => ?_)
      ·
        refine Go.iconst (pc' := 93) (v := (0 : Int32)) at_92 rfl rfl ?_
        refine Go.istore (pc' := 95) (ls' := #[.val (.long q0), .second, .val (.long q1), .second, .val (.long q2), .second, .val (.int p3), .val (.int p4), .val (.int p5), .val (.int (p3 &&& (2147483647 : Int32))), .val (.int (p4 &&& (7 : Int32))), .val (.int ((XT.ushr p4 (3 : Int32)) &&& (7 : Int32))), .val (.int ((XT.ushr p4 (6 : Int32)) &&& (7 : Int32))), .val (.int ((XT.ushr p4 (9 : Int32)) &&& (7 : Int32))), .val (.int ((XT.ushr p4 (12 : Int32)) &&& (7 : Int32))), .val (.int (1 : Int32)), .val (.int (1 : Int32)), .val (.int (0 : Int32)), .unset, .unset, .unset, .unset, .unset, .unset, .unset, .unset, .unset, .unset, .unset, .unset, .unset]) at_93 rfl rfl ?_
        exact k95 _ _ _ _ _ _ _ _ _ (own_q _)
      ·
        refine Go.iconst (pc' := 89) (v := (1 : Int32)) at_88 rfl rfl ?_
        refine Go.goto (pc' := 93) at_89 (by decide) (by decide) ?_
        refine Go.istore (pc' := 95) (ls' := #[.val (.long q0), .second, .val (.long q1), .second, .val (.long q2), .second, .val (.int p3), .val (.int p4), .val (.int p5), .val (.int (p3 &&& (2147483647 : Int32))), .val (.int (p4 &&& (7 : Int32))), .val (.int ((XT.ushr p4 (3 : Int32)) &&& (7 : Int32))), .val (.int ((XT.ushr p4 (6 : Int32)) &&& (7 : Int32))), .val (.int ((XT.ushr p4 (9 : Int32)) &&& (7 : Int32))), .val (.int ((XT.ushr p4 (12 : Int32)) &&& (7 : Int32))), .val (.int (1 : Int32)), .val (.int (1 : Int32)), .val (.int (1 : Int32)), .unset, .unset, .unset, .unset, .unset, .unset, .unset, .unset, .unset, .unset, .unset, .unset, .unset]) at_93 rfl rfl ?_
        exact k95 _ _ _ _ _ _ _ _ _ (own_q _)
set_option maxRecDepth 65536 in
set_option maxHeartbeats 40000000 in
theorem comes_1 {Post : Tables → Env → Array Value → State → Outcome → State → Prop} (hpost : ∀ tb e args s v u, (limb_1_1.after args s (.returned v) u = true ∧ limb_1_2.after args s (.returned v) u = true ∧ True) → FrameEnd s (.returned v) u (Jvm.fieldLocs frame_1_writes args s ++ Jvm.arrayLocs frame_1_arrays args s ++ Jvm.staticLocs frame_1_statics s) 64 384 → Post tb e args s (.returned v) u) :
    ArmFor flags0 classFile x code maxLocals ret World_1 tables_1 room_1 Calls_1 rest_1 Pre_1 Post := by
  intro l hfl _ _ p e ha hc hk s m args below hf hA hF happ hP
  obtain ⟨hcalls, hrest, hpre⟩ := hP
  obtain ⟨-, -, -, hnamed, -, -, -, hat⟩ := (Spec.applies_iff hf).mp happ
  obtain ⟨hg, hn⟩ := and_e (Cond.before_iff.mp (show (Jvm.Cond.and given_1 narrow_1).before args s = true from hpre))
  obtain ⟨g0, k0⟩ := and_e hg
  obtain ⟨w0, w1, w2, w3, w4, w5, rfl⟩ : ∃ w0 w1 w2 w3 w4 w5 : Value, args = #[w0, w1, w2, w3, w4, w5] := by
    have hs : args.size = 6 := by simpa [Cond.value, given_1] using g0
    obtain ⟨L⟩ := args
    match L, hs with
    | [w0, w1, w2, w3, w4, w5], _ => exact ⟨w0, w1, w2, w3, w4, w5, rfl⟩
  have hw := fun d (hd : d ∈ tables_1) => atoms_spec (ws := Jvm.Cond.code x code maxLocals ret :: tables_1) hat d (List.mem_cons_of_mem _ hd)
  obtain ⟨g1, k1⟩ := and_e k0
  obtain ⟨i0, e0⟩ := isL_v g1
  obtain rfl : w0 = (.long i0) := Option.some.inj e0
  obtain ⟨g2, k2⟩ := and_e k1
  obtain ⟨i1, e1⟩ := isL_v g2
  obtain rfl : w1 = (.long i1) := Option.some.inj e1
  obtain ⟨g3, k3⟩ := and_e k2
  obtain ⟨i2, e2⟩ := isL_v g3
  obtain rfl : w2 = (.long i2) := Option.some.inj e2
  obtain ⟨g4, k4⟩ := and_e k3
  obtain ⟨i3, e3⟩ := is_v g4
  obtain rfl : w3 = (.int i3) := Option.some.inj e3
  obtain ⟨g5, k5⟩ := and_e k4
  obtain ⟨i4, e4⟩ := is_v g5
  obtain rfl : w4 = (.int i4) := Option.some.inj e4
  obtain ⟨i5, e5⟩ := is_v k5
  obtain rfl : w5 = (.int i5) := Option.some.inj e5
  have hWd : World s s.heap.size s.heap [] := ⟨Nat.le_refl _, List.nodup_nil, fun _ q => nomatch q⟩
  obtain ⟨n, o, h1, h2, h3, v, L, rfl, ⟨N, W', -, rfl⟩, hq⟩ := rm0 l s s.heap.size _ hw i0 i1 i2 i3 i4 i5 s.heap hWd p e ha hc hk s m _ below hf ((Spec.applies_iff_loose hf).mp happ).1 ⟨rfl, State.Warmed39.refl s, rfl⟩ trivial
  refine ⟨n, _, h1, h2, h3, hpost _ _ _ _ _ _ ⟨Cond.after_iff.mpr rfl, Cond.after_iff.mpr (eq_i res_at (Term.int_eval (1)) rfl), trivial⟩ ⟨hq.1, hq.2.1, (hq.2.2.sift fun y hy => Or.inr (N y hy)).mono (by decide) (by decide)⟩⟩
theorem main_1_1 : Claimed_1_1 := comes_1 fun _ _ _ _ _ _ h hF => ⟨h.1, hF⟩
theorem main_1_2 : Claimed_1_2 := comes_1 fun _ _ _ _ _ _ h hF => ⟨h.2.1, hF⟩
end Jvm.Pilot.@@N@@
namespace Jvm.Pilot.@@N@@
open Jvm Jvm.ClassFile Sem Op Lib Jvm.Free Jvm.Stand Jvm.Pilot.@@N@@.Jvm.D
/-! MADE BY PROGRAM (witnessworld.py) out of the Statement's table words and the real class files: 22 classes; the members and pool entries that the words name. The judged class is class 1, her method 2. -/
namespace start1
open Jvm.ClassFile
def u (s : String) : CpInfo := .utf8 (stringToUtf16 s)
/-- a pool by its gaps: so many unusable entries, then the entry; so many at the end -/
def gap : Nat → List CpInfo → List CpInfo
  | 0, r => r
  | n + 1, r => .unusable :: gap n r
def poolList (es : List (Nat × CpInfo)) (last : Nat) : List CpInfo := es.foldr (fun e r => gap e.1 (e.2 :: r)) (gap last [])
def pool (es : List (Nat × CpInfo)) (last : Nat) : Array CpInfo := ⟨poolList es last⟩
def fileOf (pool : Array CpInfo) (this : Nat) (attrs : Array Attribute := #[]) (ms : Array MethodInfo := #[]) (fl : Nat := 33) (sup : Nat := 0) (ifs : Array Nat := #[]) (fds : Array FieldInfo := #[]) : ClassFile where
  minorVersion := 0
  majorVersion := 65
  constantPool := pool
  accessFlags := fl
  thisClass := this
  superClass := sup
  interfaces := ifs
  fields := fds
  methods := ms
  attributes := attrs
def plain (name : String) (sup : Option ClassId) : Class where
  name := name
  kind := .ordinary
  loader := none
  accessFlags := 33
  super := sup
  interfaces := #[]
  cf := none
  fields := #[]
  methods := #[]
  instanceTypes := #[]
  staticTypes := #[]
  resolved := #[]
  callSites := []
  init := .initialized
  statics := none
  mirror := none

def pool0 : Array CpInfo := pool [(5, u "<init>"), (0, u "()V"), (1, .class_ 10), (1, u "java/lang/Object")] 113

def k0c0 : Code := { maxStack := 0, maxLocals := 1, code := object_method_1_code, exceptionTable := #[], attributes := #[] }
def k0m0 : Method := { name := "<init>", desc := "()V", sig := { parameters := [], returnType := none }, accessFlags := 1, code := some k0c0 }
/-- java/lang/Object -/
def k0 : Class := { plain "java/lang/Object" none with
  accessFlags := 33
  interfaces := #[]
  cf := some (fileOf pool0 8 #[] #[{ accessFlags := 1, nameIndex := 5, descriptorIndex := 6, attributes := #[] }] 33 0 #[] #[])
  fields := #[]
  methods := #[k0m0]
  instanceTypes := #[]
  staticTypes := #[]
  resolved := Array.replicate 124 none
  statics := none }

def pool1 : Array CpInfo := pool [(2, .class_ 4), (1, u "java/lang/Object"), (0, u "<init>"), (0, u "()V"), (0, .methodref 8 9), (0, .class_ 10), (0, .nameAndType 11 12), (0, u "java/lang/Math"), (0, u "min"), (0, u "(JJ)J"), (0, .integer 2147483647), (0, .long 2), (1, .class_ 17), (0, u "com/example/pulld/pulld/broker/InFlightDeliveries"), (0, .methodref 16 19), (0, .nameAndType 5 20), (0, u "(I)V"), (0, .class_ 22), (0, u "com/example/pulld/pulld/broker/InFlight"), (0, .methodref 21 24), (0, .nameAndType 5 25), (0, u "(IJIJJ)V"), (0, .long 3), (1, .methodref 16 29), (0, .nameAndType 30 31), (0, u "put"), (0, u "(Lcom/example/pulld/pulld/broker/InFlight;)V"), (0, .methodref 16 33), (0, .nameAndType 34 20), (0, u "maxAttempts"), (0, .methodref 16 36), (0, .nameAndType 37 38), (0, u "remove"), (0, u "(IJ)V"), (2, .long 9223372036854775807), (1, .methodref 44 45), (0, .class_ 46), (0, .nameAndType 47 48), (0, u "com/example/pulld/pulld/broker/ByVisibleAtFirstAtPinLaw"), (0, u "minIf"), (0, u "(JZJ)J"), (0, .methodref 16 50), (0, .nameAndType 51 52), (0, u "returning"), (0, u "()Lcom/example/pulld/pulld/broker/InFlightDeliveries$ByVisibleAt;"), (0, .methodref 54 55), (0, .class_ 56), (0, .nameAndType 57 58), (0, u "com/example/pulld/pulld/broker/InFlightDeliveries$ByVisibleAt"), (0, u "firstAt"), (0, u "()J"), (0, .methodref 16 60), (0, .nameAndType 61 52), (0, u "lastAttempts"), (3, u "law"), (0, u "(JJJIII)Z")] 4

def k1m0 : Method := { name := "<init>", desc := "()V", sig := { parameters := [], returnType := none }, accessFlags := 1, code := none }
def k1c1 : Code := { maxStack := 4, maxLocals := 5, code := method_2_code, exceptionTable := #[], attributes := #[] }
def k1m1 : Method := { name := "minIf", desc := "(JZJ)J", sig := { parameters := [.long, .boolean, .long], returnType := some .long }, accessFlags := 10, code := some k1c1 }
def k1c2 : Code := { maxStack := 10, maxLocals := 31, code := code, exceptionTable := #[], attributes := #[] }
def k1m2 : Method := { name := "law", desc := "(JJJIII)Z", sig := { parameters := [.long, .long, .long, .int, .int, .int], returnType := some .boolean }, accessFlags := 9, code := some k1c2 }
/-- com/example/pulld/pulld/broker/ByVisibleAtFirstAtPinLaw -/
def k1 : Class := { plain "com/example/pulld/pulld/broker/ByVisibleAtFirstAtPinLaw" (some 0) with
  accessFlags := 49
  interfaces := #[]
  cf := some (fileOf pool1 44 #[] #[{ accessFlags := 1, nameIndex := 5, descriptorIndex := 6, attributes := #[] }, { accessFlags := 10, nameIndex := 47, descriptorIndex := 48, attributes := #[] }, { accessFlags := 9, nameIndex := 65, descriptorIndex := 66, attributes := #[] }] 49 2 #[] #[])
  fields := #[]
  methods := #[k1m0, k1m1, k1m2]
  instanceTypes := #[]
  staticTypes := #[]
  resolved := Array.replicate 71 none
  statics := none }

def pool2 : Array CpInfo := pool [(8, .class_ 10), (1, u "java/lang/Iterable"), (24, .class_ 36), (0, u "java/lang/Object")] 25

/-- java/lang/Iterable -/
def k2 : Class := { plain "java/lang/Iterable" (some 0) with
  accessFlags := 1537
  interfaces := #[]
  cf := some (fileOf pool2 8 #[] #[] 1537 35 #[] #[])
  fields := #[]
  methods := #[]
  instanceTypes := #[]
  staticTypes := #[]
  resolved := Array.replicate 62 none
  statics := none }

def pool3 : Array CpInfo := pool [(1, .methodref 2 3), (0, .class_ 4), (0, .nameAndType 5 6), (0, u "java/lang/Object"), (0, u "<init>"), (0, u "()V"), (0, .class_ 8), (0, u "com/example/pulld/pulld/broker/InFlightDeliveries$ByVisibleAt"), (0, .methodref 7 10), (0, .nameAndType 5 11), (0, u "(Lcom/example/pulld/pulld/broker/InFlightDeliveries;)V"), (0, .fieldref 13 14), (0, .class_ 15), (0, .nameAndType 16 17), (0, u "com/example/pulld/pulld/broker/InFlightDeliveries"), (0, u "returning"), (0, u "Lcom/example/pulld/pulld/broker/InFlightDeliveries$ByVisibleAt;"), (0, .fieldref 13 19), (0, .nameAndType 20 17), (0, u "lastAttempts"), (0, .fieldref 13 22), (0, .nameAndType 23 24), (0, u "firstFree"), (0, u "I"), (0, .fieldref 13 26), (0, .nameAndType 27 28), (0, u "queues"), (0, u "[I"), (0, .fieldref 13 30), (0, .nameAndType 31 32), (0, u "offsets"), (0, u "[J"), (0, .fieldref 13 34), (0, .nameAndType 35 28), (0, u "attempts"), (0, .fieldref 13 37), (0, .nameAndType 38 32), (0, u "visibleAts"), (0, .fieldref 13 40), (0, .nameAndType 41 32), (0, u "ids"), (0, .fieldref 13 43), (0, .nameAndType 44 28), (0, u "heapPlaces"), (0, .fieldref 13 46), (0, .nameAndType 47 28), (0, u "table"), (0, .fieldref 13 49), (0, .nameAndType 50 24), (0, u "maxAttempts"), (0, .fieldref 13 52), (0, .nameAndType 53 24), (0, u "count"), (0, .methodref 7 55), (0, .nameAndType 56 6), (0, u "clear"), (0, .fieldref 13 58), (0, .nameAndType 59 24), (0, u "usedSlots"), (0, .methodref 13 61), (0, .nameAndType 62 63), (0, u "byVisibleAt"), (0, u "(I)Lcom/example/pulld/pulld/broker/InFlightDeliveries$ByVisibleAt;"), (0, .methodref 7 65), (0, .nameAndType 66 67), (0, u "add"), (0, u "(I)V"), (0, .methodref 13 69), (0, .nameAndType 70 71), (0, u "slotOf"), (0, u "(IJ)I"), (4, .methodref 77 78), (0, .class_ 79), (0, .nameAndType 80 81), (0, u "com/example/pulld/pulld/broker/InFlight"), (0, u "queue"), (0, u "()I"), (0, .methodref 77 83), (0, .nameAndType 84 85), (0, u "offset"), (0, u "()J"), (0, .methodref 7 87), (0, .nameAndType 88 67), (0, u "remove"), (0, .methodref 13 90), (0, .nameAndType 91 81), (0, u "takeSlot"), (0, .methodref 13 93), (0, .nameAndType 94 67), (0, u "link"), (0, .methodref 77 96), (0, .nameAndType 97 81), (0, u "attempt"), (0, .methodref 77 99), (0, .nameAndType 100 85), (0, u "visibleAt"), (0, .methodref 77 102), (0, .nameAndType 103 85), (0, u "id"), (0, .methodref 13 105), (0, .nameAndType 106 67), (0, u "unlink"), (0, .methodref 13 108), (0, .nameAndType 109 67), (0, u "resize"), (0, .class_ 111), (0, u "com/example/pulld/pulld/broker/InFlightDeliveries$1"), (4, .methodref 7 117), (0, .nameAndType 118 119), (0, u "renumber"), (0, u "([II)V"), (0, .long 11400714819323198485), (1, .long 13787848793156543929), (1, .class_ 125), (0, u "java/lang/Integer"), (0, .methodref 13 127), (0, .nameAndType 128 71), (0, u "bucket"), (0, .methodref 13 130), (0, .nameAndType 131 132), (0, u "after"), (0, u "(I)I"), (0, .methodref 13 134), (0, .nameAndType 135 136), (0, u "distance"), (0, u "(II)I"), (0, .methodref 138 139), (0, .class_ 140), (0, .nameAndType 141 142), (0, u "java/lang/Long"), (0, u "compare"), (0, u "(JJ)I"), (0, .methodref 124 144), (0, .nameAndType 141 136), (0, .class_ 146), (0, u "java/lang/Iterable"), (0, u "MIN_SLOTS"), (2, u "HEADER_INTS"), (1, u "FREE"), (1, u "MIX"), (0, u "J"), (0, u "MIX_AGAIN"), (2, u "()Lcom/example/pulld/pulld/broker/InFlightDeliveries$ByVisibleAt;"), (3, u "put"), (0, u "(Lcom/example/pulld/pulld/broker/InFlight;)V"), (0, u "(IJ)V")] 13

def k3c0 : Code := { maxStack := 4, maxLocals := 2, code := prog_12_method_1_code, exceptionTable := #[], attributes := #[] }
def k3m0 : Method := { name := "<init>", desc := "(I)V", sig := { parameters := [.int], returnType := none }, accessFlags := 0, code := some k3c0 }
def k3c1 : Code := { maxStack := 1, maxLocals := 1, code := prog_12_method_3_code, exceptionTable := #[], attributes := #[] }
def k3m1 : Method := { name := "returning", desc := "()Lcom/example/pulld/pulld/broker/InFlightDeliveries$ByVisibleAt;", sig := { parameters := [], returnType := some (.object "com/example/pulld/pulld/broker/InFlightDeliveries$ByVisibleAt") }, accessFlags := 0, code := some k3c1 }
def k3c2 : Code := { maxStack := 1, maxLocals := 1, code := prog_12_method_4_code, exceptionTable := #[], attributes := #[] }
def k3m2 : Method := { name := "lastAttempts", desc := "()Lcom/example/pulld/pulld/broker/InFlightDeliveries$ByVisibleAt;", sig := { parameters := [], returnType := some (.object "com/example/pulld/pulld/broker/InFlightDeliveries$ByVisibleAt") }, accessFlags := 0, code := some k3c2 }
def k3c3 : Code := { maxStack := 2, maxLocals := 3, code := prog_12_method_5_code, exceptionTable := #[], attributes := #[] }
def k3m3 : Method := { name := "maxAttempts", desc := "(I)V", sig := { parameters := [.int], returnType := none }, accessFlags := 0, code := some k3c3 }
def k3c4 : Code := { maxStack := 4, maxLocals := 3, code := prog_12_method_7_code, exceptionTable := #[], attributes := #[] }
def k3m4 : Method := { name := "put", desc := "(Lcom/example/pulld/pulld/broker/InFlight;)V", sig := { parameters := [(.object "com/example/pulld/pulld/broker/InFlight")], returnType := none }, accessFlags := 0, code := some k3c4 }
def k3c5 : Code := { maxStack := 4, maxLocals := 5, code := prog_12_method_8_code, exceptionTable := #[], attributes := #[] }
def k3m5 : Method := { name := "remove", desc := "(IJ)V", sig := { parameters := [.int, .long], returnType := none }, accessFlags := 0, code := some k3c5 }
def k3c6 : Code := { maxStack := 2, maxLocals := 2, code := prog_12_method_12_code, exceptionTable := #[], attributes := #[] }
def k3m6 : Method := { name := "byVisibleAt", desc := "(I)Lcom/example/pulld/pulld/broker/InFlightDeliveries$ByVisibleAt;", sig := { parameters := [.int], returnType := some (.object "com/example/pulld/pulld/broker/InFlightDeliveries$ByVisibleAt") }, accessFlags := 2, code := some k3c6 }
def k3c7 : Code := { maxStack := 4, maxLocals := 2, code := prog_12_method_13_code, exceptionTable := #[], attributes := #[] }
def k3m7 : Method := { name := "takeSlot", desc := "()I", sig := { parameters := [], returnType := some .int }, accessFlags := 2, code := some k3c7 }
def k3c8 : Code := { maxStack := 4, maxLocals := 10, code := prog_12_method_14_code, exceptionTable := #[], attributes := #[] }
def k3m8 : Method := { name := "resize", desc := "(I)V", sig := { parameters := [.int], returnType := none }, accessFlags := 2, code := some k3c8 }
def k3c9 : Code := { maxStack := 4, maxLocals := 6, code := prog_12_method_15_code, exceptionTable := #[], attributes := #[] }
def k3m9 : Method := { name := "bucket", desc := "(IJ)I", sig := { parameters := [.int, .long], returnType := some .int }, accessFlags := 2, code := some k3c9 }
def k3c10 : Code := { maxStack := 2, maxLocals := 2, code := prog_12_method_16_code, exceptionTable := #[], attributes := #[] }
def k3m10 : Method := { name := "after", desc := "(I)I", sig := { parameters := [.int], returnType := some .int }, accessFlags := 2, code := some k3c10 }
def k3c11 : Code := { maxStack := 2, maxLocals := 3, code := prog_12_method_17_code, exceptionTable := #[], attributes := #[] }
def k3m11 : Method := { name := "distance", desc := "(II)I", sig := { parameters := [.int, .int], returnType := some .int }, accessFlags := 2, code := some k3c11 }
def k3c12 : Code := { maxStack := 4, maxLocals := 7, code := prog_12_method_18_code, exceptionTable := #[], attributes := #[] }
def k3m12 : Method := { name := "slotOf", desc := "(IJ)I", sig := { parameters := [.int, .long], returnType := some .int }, accessFlags := 2, code := some k3c12 }
def k3c13 : Code := { maxStack := 4, maxLocals := 3, code := prog_12_method_19_code, exceptionTable := #[], attributes := #[] }
def k3m13 : Method := { name := "link", desc := "(I)V", sig := { parameters := [.int], returnType := none }, accessFlags := 2, code := some k3c13 }
def k3c14 : Code := { maxStack := 5, maxLocals := 5, code := prog_12_method_20_code, exceptionTable := #[], attributes := #[] }
def k3m14 : Method := { name := "unlink", desc := "(I)V", sig := { parameters := [.int], returnType := none }, accessFlags := 2, code := some k3c14 }
def k3c15 : Code := { maxStack := 4, maxLocals := 4, code := prog_12_method_21_code, exceptionTable := #[], attributes := #[] }
def k3m15 : Method := { name := "compare", desc := "(II)I", sig := { parameters := [.int, .int], returnType := some .int }, accessFlags := 2, code := some k3c15 }
/-- com/example/pulld/pulld/broker/InFlightDeliveries -/
def k3 : Class := { plain "com/example/pulld/pulld/broker/InFlightDeliveries" (some 0) with
  accessFlags := 32
  interfaces := #[2]
  cf := some (fileOf pool3 13 #[.nestMembers #[7, 110]] #[{ accessFlags := 0, nameIndex := 5, descriptorIndex := 67, attributes := #[] }, { accessFlags := 0, nameIndex := 16, descriptorIndex := 159, attributes := #[] }, { accessFlags := 0, nameIndex := 20, descriptorIndex := 159, attributes := #[] }, { accessFlags := 0, nameIndex := 50, descriptorIndex := 67, attributes := #[] }, { accessFlags := 0, nameIndex := 163, descriptorIndex := 164, attributes := #[] }, { accessFlags := 0, nameIndex := 88, descriptorIndex := 165, attributes := #[] }, { accessFlags := 2, nameIndex := 62, descriptorIndex := 63, attributes := #[] }, { accessFlags := 2, nameIndex := 91, descriptorIndex := 81, attributes := #[] }, { accessFlags := 2, nameIndex := 109, descriptorIndex := 67, attributes := #[] }, { accessFlags := 2, nameIndex := 128, descriptorIndex := 71, attributes := #[] }, { accessFlags := 2, nameIndex := 131, descriptorIndex := 132, attributes := #[] }, { accessFlags := 2, nameIndex := 135, descriptorIndex := 136, attributes := #[] }, { accessFlags := 2, nameIndex := 70, descriptorIndex := 71, attributes := #[] }, { accessFlags := 2, nameIndex := 94, descriptorIndex := 67, attributes := #[] }, { accessFlags := 2, nameIndex := 106, descriptorIndex := 67, attributes := #[] }, { accessFlags := 2, nameIndex := 141, descriptorIndex := 136, attributes := #[] }] 32 2 #[145] #[{ accessFlags := 26, nameIndex := 147, descriptorIndex := 24, attributes := #[] }, { accessFlags := 26, nameIndex := 150, descriptorIndex := 24, attributes := #[] }, { accessFlags := 26, nameIndex := 152, descriptorIndex := 24, attributes := #[] }, { accessFlags := 26, nameIndex := 154, descriptorIndex := 155, attributes := #[] }, { accessFlags := 26, nameIndex := 156, descriptorIndex := 155, attributes := #[] }, { accessFlags := 18, nameIndex := 16, descriptorIndex := 17, attributes := #[] }, { accessFlags := 18, nameIndex := 20, descriptorIndex := 17, attributes := #[] }, { accessFlags := 2, nameIndex := 50, descriptorIndex := 24, attributes := #[] }, { accessFlags := 2, nameIndex := 53, descriptorIndex := 24, attributes := #[] }, { accessFlags := 2, nameIndex := 59, descriptorIndex := 24, attributes := #[] }, { accessFlags := 2, nameIndex := 23, descriptorIndex := 24, attributes := #[] }, { accessFlags := 2, nameIndex := 27, descriptorIndex := 28, attributes := #[] }, { accessFlags := 2, nameIndex := 31, descriptorIndex := 32, attributes := #[] }, { accessFlags := 2, nameIndex := 35, descriptorIndex := 28, attributes := #[] }, { accessFlags := 2, nameIndex := 38, descriptorIndex := 32, attributes := #[] }, { accessFlags := 2, nameIndex := 41, descriptorIndex := 32, attributes := #[] }, { accessFlags := 2, nameIndex := 44, descriptorIndex := 28, attributes := #[] }, { accessFlags := 2, nameIndex := 47, descriptorIndex := 28, attributes := #[] }])
  fields := #[{ name := "MIN_SLOTS", type := .int, accessFlags := 26, slot := 0, constantValue := 0 }, { name := "HEADER_INTS", type := .int, accessFlags := 26, slot := 1, constantValue := 0 }, { name := "FREE", type := .int, accessFlags := 26, slot := 2, constantValue := 0 }, { name := "MIX", type := .long, accessFlags := 26, slot := 3, constantValue := 0 }, { name := "MIX_AGAIN", type := .long, accessFlags := 26, slot := 4, constantValue := 0 }, { name := "returning", type := (.object "com/example/pulld/pulld/broker/InFlightDeliveries$ByVisibleAt"), accessFlags := 18, slot := 0, constantValue := 0 }, { name := "lastAttempts", type := (.object "com/example/pulld/pulld/broker/InFlightDeliveries$ByVisibleAt"), accessFlags := 18, slot := 1, constantValue := 0 }, { name := "maxAttempts", type := .int, accessFlags := 2, slot := 2, constantValue := 0 }, { name := "count", type := .int, accessFlags := 2, slot := 3, constantValue := 0 }, { name := "usedSlots", type := .int, accessFlags := 2, slot := 4, constantValue := 0 }, { name := "firstFree", type := .int, accessFlags := 2, slot := 5, constantValue := 0 }, { name := "queues", type := (.array .int), accessFlags := 2, slot := 6, constantValue := 0 }, { name := "offsets", type := (.array .long), accessFlags := 2, slot := 7, constantValue := 0 }, { name := "attempts", type := (.array .int), accessFlags := 2, slot := 8, constantValue := 0 }, { name := "visibleAts", type := (.array .long), accessFlags := 2, slot := 9, constantValue := 0 }, { name := "ids", type := (.array .long), accessFlags := 2, slot := 10, constantValue := 0 }, { name := "heapPlaces", type := (.array .int), accessFlags := 2, slot := 11, constantValue := 0 }, { name := "table", type := (.array .int), accessFlags := 2, slot := 12, constantValue := 0 }]
  methods := #[k3m0, k3m1, k3m2, k3m3, k3m4, k3m5, k3m6, k3m7, k3m8, k3m9, k3m10, k3m11, k3m12, k3m13, k3m14, k3m15]
  instanceTypes := #[(.object "com/example/pulld/pulld/broker/InFlightDeliveries$ByVisibleAt"), (.object "com/example/pulld/pulld/broker/InFlightDeliveries$ByVisibleAt"), .int, .int, .int, .int, (.array .int), (.array .long), (.array .int), (.array .long), (.array .long), (.array .int), (.array .int)]
  staticTypes := #[.int, .int, .int, .long, .long]
  resolved := ((((((Array.replicate 179 none).setIfInBounds 7 (some (.cls 4))).setIfInBounds 54 (some (.method ⟨4, 3⟩))).setIfInBounds 64 (some (.method ⟨4, 2⟩))).setIfInBounds 86 (some (.method ⟨4, 4⟩))).setIfInBounds 116 (some (.method ⟨4, 5⟩)))
  statics := none }

def pool4 : Array CpInfo := pool [(1, .fieldref 2 3), (0, .class_ 4), (0, .nameAndType 5 6), (0, u "com/example/pulld/pulld/broker/InFlightDeliveries$ByVisibleAt"), (0, u "this$0"), (0, u "Lcom/example/pulld/pulld/broker/InFlightDeliveries;"), (0, .methodref 8 9), (0, .class_ 10), (0, .nameAndType 11 12), (0, u "java/lang/Object"), (0, u "<init>"), (0, u "()V"), (0, .fieldref 2 14), (0, .nameAndType 15 16), (0, u "heap"), (0, u "[I"), (0, .fieldref 2 18), (0, .nameAndType 19 20), (0, u "size"), (0, u "I"), (2, .long 9223372036854775807), (1, .fieldref 26 27), (0, .class_ 28), (0, .nameAndType 29 30), (0, u "com/example/pulld/pulld/broker/InFlightDeliveries"), (0, u "visibleAts"), (0, u "[J"), (7, u "compare"), (12, u "add"), (25, .methodref 2 78), (0, .nameAndType 79 80), (0, u "place"), (0, u "(II)V"), (0, .methodref 2 82), (0, .nameAndType 83 84), (0, u "siftUp"), (0, u "(I)V"), (0, .fieldref 26 86), (0, .nameAndType 87 16), (0, u "heapPlaces"), (0, .methodref 2 89), (0, .nameAndType 90 84), (0, u "siftDown"), (0, .methodref 26 92), (0, .nameAndType 38 93), (0, u "(II)I"), (0, u "(Lcom/example/pulld/pulld/broker/InFlightDeliveries;)V"), (3, u "firstAt"), (0, u "()J"), (5, u "clear"), (0, u "remove"), (0, u "renumber"), (0, u "([II)V")] 27

def k4c0 : Code := { maxStack := 2, maxLocals := 2, code := prog_14_method_1_code, exceptionTable := #[], attributes := #[] }
def k4m0 : Method := { name := "<init>", desc := "(Lcom/example/pulld/pulld/broker/InFlightDeliveries;)V", sig := { parameters := [(.object "com/example/pulld/pulld/broker/InFlightDeliveries")], returnType := none }, accessFlags := 0, code := some k4c0 }
def k4c1 : Code := { maxStack := 3, maxLocals := 1, code := prog_14_method_2_code, exceptionTable := #[], attributes := #[] }
def k4m1 : Method := { name := "firstAt", desc := "()J", sig := { parameters := [], returnType := some .long }, accessFlags := 0, code := some k4c1 }
def k4c2 : Code := { maxStack := 5, maxLocals := 2, code := prog_14_method_4_code, exceptionTable := #[], attributes := #[] }
def k4m2 : Method := { name := "add", desc := "(I)V", sig := { parameters := [.int], returnType := none }, accessFlags := 2, code := some k4c2 }
def k4c3 : Code := { maxStack := 2, maxLocals := 1, code := prog_14_method_5_code, exceptionTable := #[], attributes := #[] }
def k4m3 : Method := { name := "clear", desc := "()V", sig := { parameters := [], returnType := none }, accessFlags := 2, code := some k4c3 }
def k4c4 : Code := { maxStack := 4, maxLocals := 4, code := prog_14_method_6_code, exceptionTable := #[], attributes := #[] }
def k4m4 : Method := { name := "remove", desc := "(I)V", sig := { parameters := [.int], returnType := none }, accessFlags := 2, code := some k4c4 }
def k4c5 : Code := { maxStack := 5, maxLocals := 5, code := prog_14_method_7_code, exceptionTable := #[], attributes := #[] }
def k4m5 : Method := { name := "renumber", desc := "([II)V", sig := { parameters := [(.array .int), .int], returnType := none }, accessFlags := 2, code := some k4c5 }
def k4c6 : Code := { maxStack := 5, maxLocals := 4, code := prog_14_method_8_code, exceptionTable := #[], attributes := #[] }
def k4m6 : Method := { name := "siftUp", desc := "(I)V", sig := { parameters := [.int], returnType := none }, accessFlags := 2, code := some k4c6 }
def k4c7 : Code := { maxStack := 4, maxLocals := 6, code := prog_14_method_9_code, exceptionTable := #[], attributes := #[] }
def k4m7 : Method := { name := "siftDown", desc := "(I)V", sig := { parameters := [.int], returnType := none }, accessFlags := 2, code := some k4c7 }
def k4c8 : Code := { maxStack := 3, maxLocals := 3, code := prog_14_method_10_code, exceptionTable := #[], attributes := #[] }
def k4m8 : Method := { name := "place", desc := "(II)V", sig := { parameters := [.int, .int], returnType := none }, accessFlags := 2, code := some k4c8 }
/-- com/example/pulld/pulld/broker/InFlightDeliveries$ByVisibleAt -/
def k4 : Class := { plain "com/example/pulld/pulld/broker/InFlightDeliveries$ByVisibleAt" (some 0) with
  accessFlags := 32
  interfaces := #[]
  cf := some (fileOf pool4 2 #[.nestHost 26] #[{ accessFlags := 0, nameIndex := 11, descriptorIndex := 94, attributes := #[] }, { accessFlags := 0, nameIndex := 98, descriptorIndex := 99, attributes := #[] }, { accessFlags := 2, nameIndex := 51, descriptorIndex := 84, attributes := #[] }, { accessFlags := 2, nameIndex := 105, descriptorIndex := 12, attributes := #[] }, { accessFlags := 2, nameIndex := 106, descriptorIndex := 84, attributes := #[] }, { accessFlags := 2, nameIndex := 107, descriptorIndex := 108, attributes := #[] }, { accessFlags := 2, nameIndex := 83, descriptorIndex := 84, attributes := #[] }, { accessFlags := 2, nameIndex := 90, descriptorIndex := 84, attributes := #[] }, { accessFlags := 2, nameIndex := 79, descriptorIndex := 80, attributes := #[] }] 32 8 #[] #[{ accessFlags := 2, nameIndex := 15, descriptorIndex := 16, attributes := #[] }, { accessFlags := 2, nameIndex := 19, descriptorIndex := 20, attributes := #[] }, { accessFlags := 4112, nameIndex := 5, descriptorIndex := 6, attributes := #[] }])
  fields := #[{ name := "heap", type := (.array .int), accessFlags := 2, slot := 0, constantValue := 0 }, { name := "size", type := .int, accessFlags := 2, slot := 1, constantValue := 0 }, { name := "this$0", type := (.object "com/example/pulld/pulld/broker/InFlightDeliveries"), accessFlags := 4112, slot := 2, constantValue := 0 }]
  methods := #[k4m0, k4m1, k4m2, k4m3, k4m4, k4m5, k4m6, k4m7, k4m8]
  instanceTypes := #[(.array .int), .int, (.object "com/example/pulld/pulld/broker/InFlightDeliveries")]
  staticTypes := #[]
  resolved := Array.replicate 136 none
  statics := none }

def pool5 : Array CpInfo := pool [(1, .methodref 2 3), (0, .class_ 4), (0, .nameAndType 5 6), (0, u "java/lang/Object"), (0, u "<init>"), (0, u "()V"), (0, .class_ 8), (0, u "java/lang/Record")] 13

def k5c0 : Code := { maxStack := 1, maxLocals := 1, code := jdk_30_method_1_code, exceptionTable := #[], attributes := #[] }
def k5m0 : Method := { name := "<init>", desc := "()V", sig := { parameters := [], returnType := none }, accessFlags := 4, code := some k5c0 }
/-- java/lang/Record -/
def k5 : Class := { plain "java/lang/Record" (some 0) with
  accessFlags := 1057
  interfaces := #[]
  cf := some (fileOf pool5 7 #[] #[{ accessFlags := 4, nameIndex := 5, descriptorIndex := 6, attributes := #[] }] 1057 2 #[] #[])
  fields := #[]
  methods := #[k5m0]
  instanceTypes := #[]
  staticTypes := #[]
  resolved := Array.replicate 22 none
  statics := none }

def pool6 : Array CpInfo := pool [(1, .methodref 2 3), (0, .class_ 4), (0, .nameAndType 5 6), (0, u "java/lang/Record"), (0, u "<init>"), (0, u "()V"), (0, .fieldref 8 9), (0, .class_ 10), (0, .nameAndType 11 12), (0, u "com/example/pulld/pulld/broker/InFlight"), (0, u "queue"), (0, u "I"), (0, .fieldref 8 14), (0, .nameAndType 15 16), (0, u "offset"), (0, u "J"), (0, .fieldref 8 18), (0, .nameAndType 19 12), (0, u "attempt"), (0, .fieldref 8 21), (0, .nameAndType 22 16), (0, u "visibleAt"), (0, .fieldref 8 24), (0, .nameAndType 25 16), (0, u "id"), (12, u "(IJIJJ)V"), (4, u "()I"), (1, u "()J")] 24

def k6c0 : Code := { maxStack := 3, maxLocals := 9, code := prog_11_method_1_code, exceptionTable := #[], attributes := #[] }
def k6m0 : Method := { name := "<init>", desc := "(IJIJJ)V", sig := { parameters := [.int, .long, .int, .long, .long], returnType := none }, accessFlags := 0, code := some k6c0 }
def k6c1 : Code := { maxStack := 1, maxLocals := 1, code := prog_11_method_5_code, exceptionTable := #[], attributes := #[] }
def k6m1 : Method := { name := "queue", desc := "()I", sig := { parameters := [], returnType := some .int }, accessFlags := 1, code := some k6c1 }
def k6c2 : Code := { maxStack := 2, maxLocals := 1, code := prog_11_method_6_code, exceptionTable := #[], attributes := #[] }
def k6m2 : Method := { name := "offset", desc := "()J", sig := { parameters := [], returnType := some .long }, accessFlags := 1, code := some k6c2 }
def k6c3 : Code := { maxStack := 1, maxLocals := 1, code := prog_11_method_7_code, exceptionTable := #[], attributes := #[] }
def k6m3 : Method := { name := "attempt", desc := "()I", sig := { parameters := [], returnType := some .int }, accessFlags := 1, code := some k6c3 }
def k6c4 : Code := { maxStack := 2, maxLocals := 1, code := prog_11_method_8_code, exceptionTable := #[], attributes := #[] }
def k6m4 : Method := { name := "visibleAt", desc := "()J", sig := { parameters := [], returnType := some .long }, accessFlags := 1, code := some k6c4 }
def k6c5 : Code := { maxStack := 2, maxLocals := 1, code := prog_11_method_9_code, exceptionTable := #[], attributes := #[] }
def k6m5 : Method := { name := "id", desc := "()J", sig := { parameters := [], returnType := some .long }, accessFlags := 1, code := some k6c5 }
/-- com/example/pulld/pulld/broker/InFlight -/
def k6 : Class := { plain "com/example/pulld/pulld/broker/InFlight" (some 5) with
  accessFlags := 48
  interfaces := #[]
  cf := some (fileOf pool6 8 #[] #[{ accessFlags := 0, nameIndex := 5, descriptorIndex := 38, attributes := #[] }, { accessFlags := 1, nameIndex := 11, descriptorIndex := 43, attributes := #[] }, { accessFlags := 1, nameIndex := 15, descriptorIndex := 45, attributes := #[] }, { accessFlags := 1, nameIndex := 19, descriptorIndex := 43, attributes := #[] }, { accessFlags := 1, nameIndex := 22, descriptorIndex := 45, attributes := #[] }, { accessFlags := 1, nameIndex := 25, descriptorIndex := 45, attributes := #[] }] 48 2 #[] #[{ accessFlags := 18, nameIndex := 11, descriptorIndex := 12, attributes := #[] }, { accessFlags := 18, nameIndex := 15, descriptorIndex := 16, attributes := #[] }, { accessFlags := 18, nameIndex := 19, descriptorIndex := 12, attributes := #[] }, { accessFlags := 18, nameIndex := 22, descriptorIndex := 16, attributes := #[] }, { accessFlags := 18, nameIndex := 25, descriptorIndex := 16, attributes := #[] }])
  fields := #[{ name := "queue", type := .int, accessFlags := 18, slot := 0, constantValue := 0 }, { name := "offset", type := .long, accessFlags := 18, slot := 1, constantValue := 0 }, { name := "attempt", type := .int, accessFlags := 18, slot := 2, constantValue := 0 }, { name := "visibleAt", type := .long, accessFlags := 18, slot := 3, constantValue := 0 }, { name := "id", type := .long, accessFlags := 18, slot := 4, constantValue := 0 }]
  methods := #[k6m0, k6m1, k6m2, k6m3, k6m4, k6m5]
  instanceTypes := #[.int, .long, .int, .long, .long]
  staticTypes := #[]
  resolved := Array.replicate 70 none
  statics := none }

def pool7 : Array CpInfo := pool [(1, .class_ 2), (0, u "java/io/Serializable"), (0, .class_ 4), (0, u "java/lang/Object")] 2

/-- java/io/Serializable -/
def k7 : Class := { plain "java/io/Serializable" (some 0) with
  accessFlags := 1537
  interfaces := #[]
  cf := some (fileOf pool7 1 #[] #[] 1537 3 #[] #[])
  fields := #[]
  methods := #[]
  instanceTypes := #[]
  staticTypes := #[]
  resolved := Array.replicate 7 none
  statics := none }

def pool8 : Array CpInfo := pool [(2, .class_ 4), (1, u "java/lang/Object"), (0, u "<init>"), (0, u "()V"), (1, .class_ 10), (1, u "java/lang/Number"), (2, .class_ 14), (0, u "java/io/Serializable"), (0, u "serialVersionUID"), (0, u "J")] 20

def k8m0 : Method := { name := "<init>", desc := "()V", sig := { parameters := [], returnType := none }, accessFlags := 1, code := none }
/-- java/lang/Number -/
def k8 : Class := { plain "java/lang/Number" (some 0) with
  accessFlags := 1057
  interfaces := #[7]
  cf := some (fileOf pool8 8 #[] #[{ accessFlags := 1, nameIndex := 5, descriptorIndex := 6, attributes := #[] }] 1057 2 #[13] #[{ accessFlags := 26, nameIndex := 15, descriptorIndex := 16, attributes := #[] }])
  fields := #[{ name := "serialVersionUID", type := .long, accessFlags := 26, slot := 0, constantValue := 0 }]
  methods := #[k8m0]
  instanceTypes := #[]
  staticTypes := #[.long]
  resolved := Array.replicate 37 none
  statics := none }

def pool9 : Array CpInfo := pool [(1, .class_ 2), (0, u "java/lang/Comparable"), (0, .class_ 4), (0, u "java/lang/Object")] 7

/-- java/lang/Comparable -/
def k9 : Class := { plain "java/lang/Comparable" (some 0) with
  accessFlags := 1537
  interfaces := #[]
  cf := some (fileOf pool9 1 #[] #[] 1537 3 #[] #[])
  fields := #[]
  methods := #[]
  instanceTypes := #[]
  staticTypes := #[]
  resolved := Array.replicate 12 none
  statics := none }

def pool10 : Array CpInfo := pool [(1, .class_ 2), (0, u "java/lang/constant/Constable"), (0, .class_ 4), (0, u "java/lang/Object")] 6

/-- java/lang/constant/Constable -/
def k10 : Class := { plain "java/lang/constant/Constable" (some 0) with
  accessFlags := 1537
  interfaces := #[]
  cf := some (fileOf pool10 1 #[] #[] 1537 3 #[] #[])
  fields := #[]
  methods := #[]
  instanceTypes := #[]
  staticTypes := #[]
  resolved := Array.replicate 11 none
  statics := none }

def pool11 : Array CpInfo := pool [(1, .class_ 2), (0, u "java/lang/constant/ConstantDesc"), (0, .class_ 4), (0, u "java/lang/Object")] 32

/-- java/lang/constant/ConstantDesc -/
def k11 : Class := { plain "java/lang/constant/ConstantDesc" (some 0) with
  accessFlags := 1537
  interfaces := #[]
  cf := some (fileOf pool11 1 #[] #[] 1537 3 #[] #[])
  fields := #[]
  methods := #[]
  instanceTypes := #[]
  staticTypes := #[]
  resolved := Array.replicate 37 none
  statics := none }

def pool12 : Array CpInfo := pool [(1, .class_ 2), (0, u "java/lang/Long"), (232, .class_ 237), (1, u "java/lang/Long$LongCache"), (33, .class_ 272), (0, u "java/lang/Number"), (2, u "value"), (0, u "J"), (27, u "compare"), (0, u "(JJ)I"), (55, u "TYPE"), (0, u "Ljava/lang/Class;"), (0, .class_ 364), (0, u "java/lang/Comparable"), (0, .class_ 366), (0, u "java/lang/constant/Constable"), (0, .class_ 368), (0, u "java/lang/constant/ConstantDesc"), (0, u "MIN_VALUE"), (1, u "MAX_VALUE"), (4, u "SIZE"), (0, u "I"), (1, u "BYTES"), (1, u "serialVersionUID")] 142

def k12c0 : Code := { maxStack := 4, maxLocals := 4, code := jdk_35_method_42_code, exceptionTable := #[], attributes := #[] }
def k12m0 : Method := { name := "compare", desc := "(JJ)I", sig := { parameters := [.long, .long], returnType := some .int }, accessFlags := 9, code := some k12c0 }
/-- java/lang/Long -/
def k12 : Class := { plain "java/lang/Long" (some 8) with
  accessFlags := 49
  interfaces := #[9, 10, 11]
  cf := some (fileOf pool12 1 #[.nestMembers #[235]] #[{ accessFlags := 9, nameIndex := 304, descriptorIndex := 305, attributes := #[] }] 49 271 #[363, 365, 367] #[{ accessFlags := 25, nameIndex := 369, descriptorIndex := 276, attributes := #[] }, { accessFlags := 25, nameIndex := 371, descriptorIndex := 276, attributes := #[] }, { accessFlags := 25, nameIndex := 361, descriptorIndex := 362, attributes := #[] }, { accessFlags := 18, nameIndex := 275, descriptorIndex := 276, attributes := #[] }, { accessFlags := 25, nameIndex := 376, descriptorIndex := 377, attributes := #[] }, { accessFlags := 25, nameIndex := 379, descriptorIndex := 377, attributes := #[] }, { accessFlags := 26, nameIndex := 381, descriptorIndex := 276, attributes := #[] }])
  fields := #[{ name := "MIN_VALUE", type := .long, accessFlags := 25, slot := 0, constantValue := 0 }, { name := "MAX_VALUE", type := .long, accessFlags := 25, slot := 1, constantValue := 0 }, { name := "TYPE", type := (.object "java/lang/Class"), accessFlags := 25, slot := 2, constantValue := 0 }, { name := "value", type := .long, accessFlags := 18, slot := 0, constantValue := 0 }, { name := "SIZE", type := .int, accessFlags := 25, slot := 3, constantValue := 0 }, { name := "BYTES", type := .int, accessFlags := 25, slot := 4, constantValue := 0 }, { name := "serialVersionUID", type := .long, accessFlags := 26, slot := 5, constantValue := 0 }]
  methods := #[k12m0]
  instanceTypes := #[.long]
  staticTypes := #[.long, .long, (.object "java/lang/Class"), .int, .int, .long]
  resolved := Array.replicate 524 none
  statics := none }

def pool13 : Array CpInfo := pool [(1, .class_ 2), (0, u "java/lang/Math"), (1, .class_ 6), (1, u "java/lang/Object"), (0, u "<init>"), (0, u "()V"), (89, .class_ 100), (1, u "java/lang/Math$RandomNumberGeneratorHolder"), (20, u "(JJ)J"), (50, u "negativeZeroFloatBits"), (0, u "J"), (2, u "negativeZeroDoubleBits"), (24, u "min"), (43, u "$assertionsDisabled"), (0, u "Z"), (91, u "twoToTheDoubleScaleDown"), (0, u "D"), (4, u "twoToTheDoubleScaleUp"), (9, u "E"), (3, u "PI"), (2, u "TAU"), (2, u "DEGREES_TO_RADIANS"), (0, u "RADIANS_TO_DEGREES")] 94

def k13m0 : Method := { name := "<init>", desc := "()V", sig := { parameters := [], returnType := none }, accessFlags := 2, code := none }
def k13c1 : Code := { maxStack := 4, maxLocals := 4, code := jdk_29_method_70_code, exceptionTable := #[], attributes := #[] }
def k13m1 : Method := { name := "min", desc := "(JJ)J", sig := { parameters := [.long, .long], returnType := some .long }, accessFlags := 9, code := some k13c1 }
/-- java/lang/Math -/
def k13 : Class := { plain "java/lang/Math" (some 0) with
  accessFlags := 49
  interfaces := #[]
  cf := some (fileOf pool13 1 #[.nestMembers #[98]] #[{ accessFlags := 2, nameIndex := 7, descriptorIndex := 8, attributes := #[] }, { accessFlags := 9, nameIndex := 201, descriptorIndex := 121, attributes := #[] }] 49 4 #[] #[{ accessFlags := 25, nameIndex := 354, descriptorIndex := 339, attributes := #[] }, { accessFlags := 25, nameIndex := 358, descriptorIndex := 339, attributes := #[] }, { accessFlags := 25, nameIndex := 361, descriptorIndex := 339, attributes := #[] }, { accessFlags := 26, nameIndex := 364, descriptorIndex := 339, attributes := #[] }, { accessFlags := 26, nameIndex := 365, descriptorIndex := 339, attributes := #[] }, { accessFlags := 26, nameIndex := 172, descriptorIndex := 173, attributes := #[] }, { accessFlags := 26, nameIndex := 176, descriptorIndex := 173, attributes := #[] }, { accessFlags := 8, nameIndex := 344, descriptorIndex := 339, attributes := #[] }, { accessFlags := 8, nameIndex := 338, descriptorIndex := 339, attributes := #[] }, { accessFlags := 4120, nameIndex := 245, descriptorIndex := 246, attributes := #[] }])
  fields := #[{ name := "E", type := .double, accessFlags := 25, slot := 0, constantValue := 0 }, { name := "PI", type := .double, accessFlags := 25, slot := 1, constantValue := 0 }, { name := "TAU", type := .double, accessFlags := 25, slot := 2, constantValue := 0 }, { name := "DEGREES_TO_RADIANS", type := .double, accessFlags := 26, slot := 3, constantValue := 0 }, { name := "RADIANS_TO_DEGREES", type := .double, accessFlags := 26, slot := 4, constantValue := 0 }, { name := "negativeZeroFloatBits", type := .long, accessFlags := 26, slot := 5, constantValue := 0 }, { name := "negativeZeroDoubleBits", type := .long, accessFlags := 26, slot := 6, constantValue := 0 }, { name := "twoToTheDoubleScaleUp", type := .double, accessFlags := 8, slot := 7, constantValue := 0 }, { name := "twoToTheDoubleScaleDown", type := .double, accessFlags := 8, slot := 8, constantValue := 0 }, { name := "$assertionsDisabled", type := .boolean, accessFlags := 4120, slot := 9, constantValue := 0 }]
  methods := #[k13m0, k13m1]
  instanceTypes := #[]
  staticTypes := #[.double, .double, .double, .double, .double, .long, .long, .double, .double, .boolean]
  resolved := Array.replicate 460 none
  statics := none }

def pool14 : Array CpInfo := pool [(1, .class_ 2), (0, u "java/lang/Integer"), (16, u "digits"), (0, u "[C"), (39, u "(II)I"), (24, u "DigitOnes"), (0, u "[B"), (2, u "DigitTens"), (99, .class_ 190), (0, u "java/lang/Integer$IntegerCache"), (3, u "I"), (8, .class_ 204), (0, u "java/lang/Number"), (2, u "value"), (53, u "compare"), (40, u "TYPE"), (0, u "Ljava/lang/Class;"), (0, .class_ 305), (0, u "java/lang/Comparable"), (0, .class_ 307), (0, u "java/lang/constant/Constable"), (0, .class_ 309), (0, u "java/lang/constant/ConstantDesc"), (0, u "MIN_VALUE"), (1, u "MAX_VALUE"), (3, u "SIZE"), (1, u "BYTES"), (1, u "serialVersionUID"), (0, u "J")] 131

def k14c0 : Code := { maxStack := 2, maxLocals := 2, code := jdk_33_method_40_code, exceptionTable := #[], attributes := #[] }
def k14m0 : Method := { name := "compare", desc := "(II)I", sig := { parameters := [.int, .int], returnType := some .int }, accessFlags := 9, code := some k14c0 }
/-- java/lang/Integer -/
def k14 : Class := { plain "java/lang/Integer" (some 8) with
  accessFlags := 49
  interfaces := #[9, 10, 11]
  cf := some (fileOf pool14 1 #[.nestMembers #[189]] #[{ accessFlags := 9, nameIndex := 261, descriptorIndex := 60, attributes := #[] }] 49 203 #[304, 306, 308] #[{ accessFlags := 25, nameIndex := 310, descriptorIndex := 194, attributes := #[] }, { accessFlags := 25, nameIndex := 312, descriptorIndex := 194, attributes := #[] }, { accessFlags := 25, nameIndex := 302, descriptorIndex := 303, attributes := #[] }, { accessFlags := 24, nameIndex := 19, descriptorIndex := 20, attributes := #[] }, { accessFlags := 24, nameIndex := 89, descriptorIndex := 86, attributes := #[] }, { accessFlags := 24, nameIndex := 85, descriptorIndex := 86, attributes := #[] }, { accessFlags := 18, nameIndex := 207, descriptorIndex := 194, attributes := #[] }, { accessFlags := 25, nameIndex := 316, descriptorIndex := 194, attributes := #[] }, { accessFlags := 25, nameIndex := 318, descriptorIndex := 194, attributes := #[] }, { accessFlags := 26, nameIndex := 320, descriptorIndex := 321, attributes := #[] }])
  fields := #[{ name := "MIN_VALUE", type := .int, accessFlags := 25, slot := 0, constantValue := 0 }, { name := "MAX_VALUE", type := .int, accessFlags := 25, slot := 1, constantValue := 0 }, { name := "TYPE", type := (.object "java/lang/Class"), accessFlags := 25, slot := 2, constantValue := 0 }, { name := "digits", type := (.array .char), accessFlags := 24, slot := 3, constantValue := 0 }, { name := "DigitTens", type := (.array .byte), accessFlags := 24, slot := 4, constantValue := 0 }, { name := "DigitOnes", type := (.array .byte), accessFlags := 24, slot := 5, constantValue := 0 }, { name := "value", type := .int, accessFlags := 18, slot := 0, constantValue := 0 }, { name := "SIZE", type := .int, accessFlags := 25, slot := 6, constantValue := 0 }, { name := "BYTES", type := .int, accessFlags := 25, slot := 7, constantValue := 0 }, { name := "serialVersionUID", type := .long, accessFlags := 26, slot := 8, constantValue := 0 }]
  methods := #[k14m0]
  instanceTypes := #[.int]
  staticTypes := #[.int, .int, (.object "java/lang/Class"), (.array .char), (.array .byte), (.array .byte), .int, .int, .long]
  resolved := Array.replicate 453 none
  statics := none }

def pool15 : Array CpInfo := pool [(1, u "java/lang/Cloneable"), (0, .class_ 1), (0, u "java/lang/Object"), (0, .class_ 3)] 3

/-- java/lang/Cloneable -/
def k15 : Class := { plain "java/lang/Cloneable" (some 0) with
  accessFlags := 1537
  interfaces := #[]
  cf := some (fileOf pool15 2 #[] #[] 1537 4 #[] #[])
  fields := #[]
  methods := #[]
  instanceTypes := #[]
  staticTypes := #[]
  resolved := Array.replicate 8 none
  statics := none }

/-- the primitive byte -/
def k16 : Class := { plain "byte" none with kind := .primitive 'B', accessFlags := 0x411 }
/-- [B -/
def k17 : Class := { plain "[B" (some 0) with kind := .array 16 .byte, interfaces := #[15, 7], accessFlags := 1041 }

/-- the primitive int -/
def k18 : Class := { plain "int" none with kind := .primitive 'I', accessFlags := 0x411 }
/-- [I -/
def k19 : Class := { plain "[I" (some 0) with kind := .array 18 .int, interfaces := #[15, 7], accessFlags := 1041 }

/-- the primitive long -/
def k20 : Class := { plain "long" none with kind := .primitive 'J', accessFlags := 0x411 }
/-- [J -/
def k21 : Class := { plain "[J" (some 0) with kind := .array 20 .long, interfaces := #[15, 7], accessFlags := 1041 }

def heap : Heap := #[]
def classes : Array Class := #[k0, k1, k2, k3, k4, k5, k6, k7, k8, k9, k10, k11, k12, k13, k14, k15, k16, k17, k18, k19, k20, k21]
def interned : List (Array UInt16 × Addr) := []
def slotsUsed : Nat := 0
def theMethod : MethodId := ⟨1, 2⟩
def args0 : Array Value := #[.long 5, .long 7, .long 9, .int 1, .int 2, .int 3]
def aboutOver (below : List Frame) : State where
  vm := { classes := classes, interned := interned.toArray }
  heap := heap
  slotsUsed := slotsUsed
  threads := #[{ frames := .invoking theMethod args0 :: below }]
def below0 : List Frame := [.native { method := ⟨0, 0⟩, args := #[] }]
def about1 : State := aboutOver below0
def p0 : Program := .bare "" "" ""
def e0 : Env := launch0.env 0 0 0
theorem w_frames : about1.frames = Frame.invoking theMethod args0 :: below0 := rfl
set_option maxRecDepth 65536 in
theorem w_args : argsFit about1.vm theMethod args0 = true := by decide +kernel
set_option maxRecDepth 65536 in
theorem w_heap : heapFits about1 = true := by decide +kernel
set_option maxRecDepth 65536 in
theorem w_runnable : about1.curStatus? = some .runnable := by decide +kernel
set_option maxRecDepth 65536 in
theorem w_alone : about1.alone = true := by decide +kernel
set_option maxRecDepth 65536 in
theorem w_named : about1.methodNamed? x = some theMethod := by decide +kernel
set_option maxRecDepth 65536 in
theorem w_hears : about1.hears theMethod below0 = true := by decide +kernel
set_option maxRecDepth 65536 in
theorem w_ripe : about1.ripe theMethod args0 below0 = true := by decide +kernel
theorem w_running : about1.status = .running := rfl
set_option maxRecDepth 65536 in
theorem w_room : about1.hasRoom e0.platform room_1 = true :=
  launch0.hasRoom_least _ room_1 (by decide +kernel) (by decide +kernel) (by decide +kernel) (by decide +kernel) (by decide +kernel) (by decide +kernel)
theorem allAtoms_all (ts : List Jvm.Cond) (a : Array Jvm.Value) (st : Jvm.State) : (allAtoms ts).before a st = ts.all (fun c => c.before a st) := by
  induction ts with
  | nil => rfl
  | cons c t ih =>
    show (Jvm.Cond.and c (allAtoms t)).before a st = _
    rw [Jvm.Cond.before_and, ih, List.all_cons]
def words1 : List Jvm.Cond := Jvm.Cond.code x code maxLocals ret :: tables_1
/-- a 'code' word, met by the world's own term for the bytes: nothing is compared byte by byte -/
theorem code_word {y : MethodName} {bytes : ByteArray} {mx : Nat} {rt : Option FieldType} {a : Array Value} {s : State} {m : MethodId} {meth : Method} {c : Code} (h1 : s.methodNamed? y = some m) (h2 : s.vm.method? m = some meth) (h3 : meth.code = some c) (h4 : c.code = bytes)
    (h5 : (c.maxLocals == mx && c.exceptionTable.isEmpty && decide (c.maxStack ≤ mostOperands) && decide (meth.sig.returnType = rt) && !meth.locks && decide (parseMethodDescriptor y.desc = some meth.sig)) = true) : (Jvm.Cond.code y bytes mx rt).before a s = true := by
  simp only [Bool.and_eq_true, beq_iff_eq, Bool.not_eq_true', decide_eq_true_eq] at h5
  obtain ⟨⟨⟨⟨⟨g1, g2⟩, g3⟩, g4⟩, g5⟩, g6⟩ := h5
  simp [Cond.before, Cond.holds, Cond.value, h1, h2, h3, h4, g1, g2, g3, g4, g5, g6]
def isCode : Jvm.Cond → Bool
  | .code _ _ _ _ => true
  | _ => false
theorem all_split {L : List Jvm.Cond} {P : Jvm.Cond → Bool} (h1 : L.all (fun c => isCode c || P c) = true) (h2 : ∀ c ∈ L.filter isCode, P c = true) : L.all P = true := by
  refine List.all_eq_true.mpr fun c hc => ?_
  have h := List.all_eq_true.mp h1 c hc
  rcases Bool.eq_false_or_eq_true (isCode c) with hi | hi
  · exact h2 c (List.mem_filter.mpr ⟨hc, hi⟩)
  · simpa [hi] using h
set_option maxRecDepth 65536 in
theorem w_c0 : (Jvm.Cond.code x code maxLocals ret).before args0 about1 = true := code_word (m := ⟨1, 2⟩) (meth := k1m2) (c := k1c2) (by decide +kernel) rfl rfl rfl (by decide +kernel)
set_option maxRecDepth 65536 in
theorem w_c1 : (Jvm.Cond.code ({ cls := "com/example/pulld/pulld/broker/InFlightDeliveries", name := "<init>", desc := "(I)V" } : Jvm.MethodName) prog_12_method_1_code (2 : Nat) (Option.none : Option Jvm.ClassFile.FieldType)).before args0 about1 = true := code_word (m := ⟨3, 0⟩) (meth := k3m0) (c := k3c0) (by decide +kernel) rfl rfl rfl (by decide +kernel)
set_option maxRecDepth 65536 in
theorem w_c2 : (Jvm.Cond.code ({ cls := "java/lang/Object", name := "<init>", desc := "()V" } : Jvm.MethodName) object_method_1_code (1 : Nat) (Option.none : Option Jvm.ClassFile.FieldType)).before args0 about1 = true := code_word (m := ⟨0, 0⟩) (meth := k0m0) (c := k0c0) (by decide +kernel) rfl rfl rfl (by decide +kernel)
set_option maxRecDepth 65536 in
theorem w_c3 : (Jvm.Cond.code ({ cls := "com/example/pulld/pulld/broker/InFlightDeliveries$ByVisibleAt", name := "<init>", desc := "(Lcom/example/pulld/pulld/broker/InFlightDeliveries;)V" } : Jvm.MethodName) prog_14_method_1_code (2 : Nat) (Option.none : Option Jvm.ClassFile.FieldType)).before args0 about1 = true := code_word (m := ⟨4, 0⟩) (meth := k4m0) (c := k4c0) (by decide +kernel) rfl rfl rfl (by decide +kernel)
set_option maxRecDepth 65536 in
theorem w_c4 : (Jvm.Cond.code ({ cls := "com/example/pulld/pulld/broker/InFlight", name := "<init>", desc := "(IJIJJ)V" } : Jvm.MethodName) prog_11_method_1_code (9 : Nat) (Option.none : Option Jvm.ClassFile.FieldType)).before args0 about1 = true := code_word (m := ⟨6, 0⟩) (meth := k6m0) (c := k6c0) (by decide +kernel) rfl rfl rfl (by decide +kernel)
set_option maxRecDepth 65536 in
theorem w_c5 : (Jvm.Cond.code ({ cls := "java/lang/Record", name := "<init>", desc := "()V" } : Jvm.MethodName) jdk_30_method_1_code (1 : Nat) (Option.none : Option Jvm.ClassFile.FieldType)).before args0 about1 = true := code_word (m := ⟨5, 0⟩) (meth := k5m0) (c := k5c0) (by decide +kernel) rfl rfl rfl (by decide +kernel)
set_option maxRecDepth 65536 in
theorem w_c6 : (Jvm.Cond.code ({ cls := "com/example/pulld/pulld/broker/InFlightDeliveries", name := "put", desc := "(Lcom/example/pulld/pulld/broker/InFlight;)V" } : Jvm.MethodName) prog_12_method_7_code (3 : Nat) (Option.none : Option Jvm.ClassFile.FieldType)).before args0 about1 = true := code_word (m := ⟨3, 4⟩) (meth := k3m4) (c := k3c4) (by decide +kernel) rfl rfl rfl (by decide +kernel)
set_option maxRecDepth 65536 in
theorem w_c7 : (Jvm.Cond.code ({ cls := "com/example/pulld/pulld/broker/InFlight", name := "queue", desc := "()I" } : Jvm.MethodName) prog_11_method_5_code (1 : Nat) (Option.some Jvm.ClassFile.FieldType.int)).before args0 about1 = true := code_word (m := ⟨6, 1⟩) (meth := k6m1) (c := k6c1) (by decide +kernel) rfl rfl rfl (by decide +kernel)
set_option maxRecDepth 65536 in
theorem w_c8 : (Jvm.Cond.code ({ cls := "com/example/pulld/pulld/broker/InFlight", name := "offset", desc := "()J" } : Jvm.MethodName) prog_11_method_6_code (1 : Nat) (Option.some Jvm.ClassFile.FieldType.long)).before args0 about1 = true := code_word (m := ⟨6, 2⟩) (meth := k6m2) (c := k6c2) (by decide +kernel) rfl rfl rfl (by decide +kernel)
set_option maxRecDepth 65536 in
theorem w_c9 : (Jvm.Cond.code ({ cls := "com/example/pulld/pulld/broker/InFlightDeliveries", name := "slotOf", desc := "(IJ)I" } : Jvm.MethodName) prog_12_method_18_code (7 : Nat) (Option.some Jvm.ClassFile.FieldType.int)).before args0 about1 = true := code_word (m := ⟨3, 12⟩) (meth := k3m12) (c := k3c12) (by decide +kernel) rfl rfl rfl (by decide +kernel)
set_option maxRecDepth 65536 in
theorem w_c10 : (Jvm.Cond.code ({ cls := "com/example/pulld/pulld/broker/InFlightDeliveries", name := "takeSlot", desc := "()I" } : Jvm.MethodName) prog_12_method_13_code (2 : Nat) (Option.some Jvm.ClassFile.FieldType.int)).before args0 about1 = true := code_word (m := ⟨3, 7⟩) (meth := k3m7) (c := k3c7) (by decide +kernel) rfl rfl rfl (by decide +kernel)
set_option maxRecDepth 65536 in
theorem w_c11 : (Jvm.Cond.code ({ cls := "com/example/pulld/pulld/broker/InFlightDeliveries", name := "resize", desc := "(I)V" } : Jvm.MethodName) prog_12_method_14_code (10 : Nat) (Option.none : Option Jvm.ClassFile.FieldType)).before args0 about1 = true := code_word (m := ⟨3, 8⟩) (meth := k3m8) (c := k3c8) (by decide +kernel) rfl rfl rfl (by decide +kernel)
set_option maxRecDepth 65536 in
theorem w_c12 : (Jvm.Cond.code ({ cls := "com/example/pulld/pulld/broker/InFlightDeliveries$ByVisibleAt", name := "renumber", desc := "([II)V" } : Jvm.MethodName) prog_14_method_7_code (5 : Nat) (Option.none : Option Jvm.ClassFile.FieldType)).before args0 about1 = true := code_word (m := ⟨4, 5⟩) (meth := k4m5) (c := k4c5) (by decide +kernel) rfl rfl rfl (by decide +kernel)
set_option maxRecDepth 65536 in
theorem w_c13 : (Jvm.Cond.code ({ cls := "com/example/pulld/pulld/broker/InFlightDeliveries", name := "link", desc := "(I)V" } : Jvm.MethodName) prog_12_method_19_code (3 : Nat) (Option.none : Option Jvm.ClassFile.FieldType)).before args0 about1 = true := code_word (m := ⟨3, 13⟩) (meth := k3m13) (c := k3c13) (by decide +kernel) rfl rfl rfl (by decide +kernel)
set_option maxRecDepth 65536 in
theorem w_c14 : (Jvm.Cond.code ({ cls := "com/example/pulld/pulld/broker/InFlightDeliveries", name := "bucket", desc := "(IJ)I" } : Jvm.MethodName) prog_12_method_15_code (6 : Nat) (Option.some Jvm.ClassFile.FieldType.int)).before args0 about1 = true := code_word (m := ⟨3, 9⟩) (meth := k3m9) (c := k3c9) (by decide +kernel) rfl rfl rfl (by decide +kernel)
set_option maxRecDepth 65536 in
theorem w_c15 : (Jvm.Cond.code ({ cls := "com/example/pulld/pulld/broker/InFlight", name := "attempt", desc := "()I" } : Jvm.MethodName) prog_11_method_7_code (1 : Nat) (Option.some Jvm.ClassFile.FieldType.int)).before args0 about1 = true := code_word (m := ⟨6, 3⟩) (meth := k6m3) (c := k6c3) (by decide +kernel) rfl rfl rfl (by decide +kernel)
set_option maxRecDepth 65536 in
theorem w_c16 : (Jvm.Cond.code ({ cls := "com/example/pulld/pulld/broker/InFlight", name := "visibleAt", desc := "()J" } : Jvm.MethodName) prog_11_method_8_code (1 : Nat) (Option.some Jvm.ClassFile.FieldType.long)).before args0 about1 = true := code_word (m := ⟨6, 4⟩) (meth := k6m4) (c := k6c4) (by decide +kernel) rfl rfl rfl (by decide +kernel)
set_option maxRecDepth 65536 in
theorem w_c17 : (Jvm.Cond.code ({ cls := "com/example/pulld/pulld/broker/InFlight", name := "id", desc := "()J" } : Jvm.MethodName) prog_11_method_9_code (1 : Nat) (Option.some Jvm.ClassFile.FieldType.long)).before args0 about1 = true := code_word (m := ⟨6, 5⟩) (meth := k6m5) (c := k6c5) (by decide +kernel) rfl rfl rfl (by decide +kernel)
set_option maxRecDepth 65536 in
theorem w_c18 : (Jvm.Cond.code ({ cls := "com/example/pulld/pulld/broker/InFlightDeliveries", name := "byVisibleAt", desc := "(I)Lcom/example/pulld/pulld/broker/InFlightDeliveries$ByVisibleAt;" } : Jvm.MethodName) prog_12_method_12_code (2 : Nat) (Option.some (Jvm.ClassFile.FieldType.object "com/example/pulld/pulld/broker/InFlightDeliveries$ByVisibleAt"))).before args0 about1 = true := code_word (m := ⟨3, 6⟩) (meth := k3m6) (c := k3c6) (by decide +kernel) rfl rfl rfl (by decide +kernel)
set_option maxRecDepth 65536 in
theorem w_c19 : (Jvm.Cond.code ({ cls := "com/example/pulld/pulld/broker/InFlightDeliveries$ByVisibleAt", name := "add", desc := "(I)V" } : Jvm.MethodName) prog_14_method_4_code (2 : Nat) (Option.none : Option Jvm.ClassFile.FieldType)).before args0 about1 = true := code_word (m := ⟨4, 2⟩) (meth := k4m2) (c := k4c2) (by decide +kernel) rfl rfl rfl (by decide +kernel)
set_option maxRecDepth 65536 in
theorem w_c20 : (Jvm.Cond.code ({ cls := "com/example/pulld/pulld/broker/InFlightDeliveries$ByVisibleAt", name := "place", desc := "(II)V" } : Jvm.MethodName) prog_14_method_10_code (3 : Nat) (Option.none : Option Jvm.ClassFile.FieldType)).before args0 about1 = true := code_word (m := ⟨4, 8⟩) (meth := k4m8) (c := k4c8) (by decide +kernel) rfl rfl rfl (by decide +kernel)
set_option maxRecDepth 65536 in
theorem w_c21 : (Jvm.Cond.code ({ cls := "com/example/pulld/pulld/broker/InFlightDeliveries$ByVisibleAt", name := "siftUp", desc := "(I)V" } : Jvm.MethodName) prog_14_method_8_code (4 : Nat) (Option.none : Option Jvm.ClassFile.FieldType)).before args0 about1 = true := code_word (m := ⟨4, 6⟩) (meth := k4m6) (c := k4c6) (by decide +kernel) rfl rfl rfl (by decide +kernel)
set_option maxRecDepth 65536 in
theorem w_c22 : (Jvm.Cond.code ({ cls := "com/example/pulld/pulld/broker/InFlightDeliveries", name := "compare", desc := "(II)I" } : Jvm.MethodName) prog_12_method_21_code (4 : Nat) (Option.some Jvm.ClassFile.FieldType.int)).before args0 about1 = true := code_word (m := ⟨3, 15⟩) (meth := k3m15) (c := k3c15) (by decide +kernel) rfl rfl rfl (by decide +kernel)
set_option maxRecDepth 65536 in
theorem w_c23 : (Jvm.Cond.code ({ cls := "java/lang/Long", name := "compare", desc := "(JJ)I" } : Jvm.MethodName) jdk_35_method_42_code (4 : Nat) (Option.some Jvm.ClassFile.FieldType.int)).before args0 about1 = true := code_word (m := ⟨12, 0⟩) (meth := k12m0) (c := k12c0) (by decide +kernel) rfl rfl rfl (by decide +kernel)
set_option maxRecDepth 65536 in
theorem w_c24 : (Jvm.Cond.code ({ cls := "com/example/pulld/pulld/broker/InFlightDeliveries", name := "after", desc := "(I)I" } : Jvm.MethodName) prog_12_method_16_code (2 : Nat) (Option.some Jvm.ClassFile.FieldType.int)).before args0 about1 = true := code_word (m := ⟨3, 10⟩) (meth := k3m10) (c := k3c10) (by decide +kernel) rfl rfl rfl (by decide +kernel)
set_option maxRecDepth 65536 in
theorem w_c25 : (Jvm.Cond.code ({ cls := "com/example/pulld/pulld/broker/InFlightDeliveries$ByVisibleAt", name := "remove", desc := "(I)V" } : Jvm.MethodName) prog_14_method_6_code (4 : Nat) (Option.none : Option Jvm.ClassFile.FieldType)).before args0 about1 = true := code_word (m := ⟨4, 4⟩) (meth := k4m4) (c := k4c4) (by decide +kernel) rfl rfl rfl (by decide +kernel)
set_option maxRecDepth 65536 in
theorem w_c26 : (Jvm.Cond.code ({ cls := "com/example/pulld/pulld/broker/InFlightDeliveries", name := "remove", desc := "(IJ)V" } : Jvm.MethodName) prog_12_method_8_code (5 : Nat) (Option.none : Option Jvm.ClassFile.FieldType)).before args0 about1 = true := code_word (m := ⟨3, 5⟩) (meth := k3m5) (c := k3c5) (by decide +kernel) rfl rfl rfl (by decide +kernel)
set_option maxRecDepth 65536 in
theorem w_c27 : (Jvm.Cond.code ({ cls := "com/example/pulld/pulld/broker/InFlightDeliveries", name := "unlink", desc := "(I)V" } : Jvm.MethodName) prog_12_method_20_code (5 : Nat) (Option.none : Option Jvm.ClassFile.FieldType)).before args0 about1 = true := code_word (m := ⟨3, 14⟩) (meth := k3m14) (c := k3c14) (by decide +kernel) rfl rfl rfl (by decide +kernel)
set_option maxRecDepth 65536 in
theorem w_c28 : (Jvm.Cond.code ({ cls := "com/example/pulld/pulld/broker/ByVisibleAtFirstAtPinLaw", name := "minIf", desc := "(JZJ)J" } : Jvm.MethodName) method_2_code (5 : Nat) (Option.some Jvm.ClassFile.FieldType.long)).before args0 about1 = true := code_word (m := ⟨1, 1⟩) (meth := k1m1) (c := k1c1) (by decide +kernel) rfl rfl rfl (by decide +kernel)
set_option maxRecDepth 65536 in
theorem w_c29 : (Jvm.Cond.code ({ cls := "java/lang/Math", name := "min", desc := "(JJ)J" } : Jvm.MethodName) jdk_29_method_70_code (4 : Nat) (Option.some Jvm.ClassFile.FieldType.long)).before args0 about1 = true := code_word (m := ⟨13, 1⟩) (meth := k13m1) (c := k13c1) (by decide +kernel) rfl rfl rfl (by decide +kernel)
set_option maxRecDepth 65536 in
theorem w_c30 : (Jvm.Cond.code ({ cls := "com/example/pulld/pulld/broker/InFlightDeliveries", name := "returning", desc := "()Lcom/example/pulld/pulld/broker/InFlightDeliveries$ByVisibleAt;" } : Jvm.MethodName) prog_12_method_3_code (1 : Nat) (Option.some (Jvm.ClassFile.FieldType.object "com/example/pulld/pulld/broker/InFlightDeliveries$ByVisibleAt"))).before args0 about1 = true := code_word (m := ⟨3, 1⟩) (meth := k3m1) (c := k3c1) (by decide +kernel) rfl rfl rfl (by decide +kernel)
set_option maxRecDepth 65536 in
theorem w_c31 : (Jvm.Cond.code ({ cls := "com/example/pulld/pulld/broker/InFlightDeliveries$ByVisibleAt", name := "firstAt", desc := "()J" } : Jvm.MethodName) prog_14_method_2_code (1 : Nat) (Option.some Jvm.ClassFile.FieldType.long)).before args0 about1 = true := code_word (m := ⟨4, 1⟩) (meth := k4m1) (c := k4c1) (by decide +kernel) rfl rfl rfl (by decide +kernel)
set_option maxRecDepth 65536 in
theorem w_c32 : (Jvm.Cond.code ({ cls := "com/example/pulld/pulld/broker/InFlightDeliveries", name := "lastAttempts", desc := "()Lcom/example/pulld/pulld/broker/InFlightDeliveries$ByVisibleAt;" } : Jvm.MethodName) prog_12_method_4_code (1 : Nat) (Option.some (Jvm.ClassFile.FieldType.object "com/example/pulld/pulld/broker/InFlightDeliveries$ByVisibleAt"))).before args0 about1 = true := code_word (m := ⟨3, 2⟩) (meth := k3m2) (c := k3c2) (by decide +kernel) rfl rfl rfl (by decide +kernel)
set_option maxRecDepth 65536 in
theorem w_c33 : (Jvm.Cond.code ({ cls := "com/example/pulld/pulld/broker/InFlightDeliveries", name := "maxAttempts", desc := "(I)V" } : Jvm.MethodName) prog_12_method_5_code (3 : Nat) (Option.none : Option Jvm.ClassFile.FieldType)).before args0 about1 = true := code_word (m := ⟨3, 3⟩) (meth := k3m3) (c := k3c3) (by decide +kernel) rfl rfl rfl (by decide +kernel)
set_option maxRecDepth 65536 in
theorem w_c34 : (Jvm.Cond.code ({ cls := "com/example/pulld/pulld/broker/InFlightDeliveries$ByVisibleAt", name := "siftDown", desc := "(I)V" } : Jvm.MethodName) prog_14_method_9_code (6 : Nat) (Option.none : Option Jvm.ClassFile.FieldType)).before args0 about1 = true := code_word (m := ⟨4, 7⟩) (meth := k4m7) (c := k4c7) (by decide +kernel) rfl rfl rfl (by decide +kernel)
set_option maxRecDepth 65536 in
theorem w_c35 : (Jvm.Cond.code ({ cls := "java/lang/Integer", name := "compare", desc := "(II)I" } : Jvm.MethodName) jdk_33_method_40_code (2 : Nat) (Option.some Jvm.ClassFile.FieldType.int)).before args0 about1 = true := code_word (m := ⟨14, 0⟩) (meth := k14m0) (c := k14c0) (by decide +kernel) rfl rfl rfl (by decide +kernel)
set_option maxRecDepth 65536 in
theorem w_c36 : (Jvm.Cond.code ({ cls := "com/example/pulld/pulld/broker/InFlightDeliveries$ByVisibleAt", name := "clear", desc := "()V" } : Jvm.MethodName) prog_14_method_5_code (1 : Nat) (Option.none : Option Jvm.ClassFile.FieldType)).before args0 about1 = true := code_word (m := ⟨4, 3⟩) (meth := k4m3) (c := k4c3) (by decide +kernel) rfl rfl rfl (by decide +kernel)
set_option maxRecDepth 65536 in
theorem w_c37 : (Jvm.Cond.code ({ cls := "com/example/pulld/pulld/broker/InFlightDeliveries", name := "distance", desc := "(II)I" } : Jvm.MethodName) prog_12_method_17_code (3 : Nat) (Option.some Jvm.ClassFile.FieldType.int)).before args0 about1 = true := code_word (m := ⟨3, 11⟩) (meth := k3m11) (c := k3c11) (by decide +kernel) rfl rfl rfl (by decide +kernel)
def codes1 : List Jvm.Cond := [Jvm.Cond.code x code maxLocals ret, Jvm.Cond.code ({ cls := "com/example/pulld/pulld/broker/InFlightDeliveries", name := "<init>", desc := "(I)V" } : Jvm.MethodName) prog_12_method_1_code (2 : Nat) (Option.none : Option Jvm.ClassFile.FieldType), Jvm.Cond.code ({ cls := "java/lang/Object", name := "<init>", desc := "()V" } : Jvm.MethodName) object_method_1_code (1 : Nat) (Option.none : Option Jvm.ClassFile.FieldType), Jvm.Cond.code ({ cls := "com/example/pulld/pulld/broker/InFlightDeliveries$ByVisibleAt", name := "<init>", desc := "(Lcom/example/pulld/pulld/broker/InFlightDeliveries;)V" } : Jvm.MethodName) prog_14_method_1_code (2 : Nat) (Option.none : Option Jvm.ClassFile.FieldType), Jvm.Cond.code ({ cls := "com/example/pulld/pulld/broker/InFlight", name := "<init>", desc := "(IJIJJ)V" } : Jvm.MethodName) prog_11_method_1_code (9 : Nat) (Option.none : Option Jvm.ClassFile.FieldType), Jvm.Cond.code ({ cls := "java/lang/Record", name := "<init>", desc := "()V" } : Jvm.MethodName) jdk_30_method_1_code (1 : Nat) (Option.none : Option Jvm.ClassFile.FieldType), Jvm.Cond.code ({ cls := "com/example/pulld/pulld/broker/InFlightDeliveries", name := "put", desc := "(Lcom/example/pulld/pulld/broker/InFlight;)V" } : Jvm.MethodName) prog_12_method_7_code (3 : Nat) (Option.none : Option Jvm.ClassFile.FieldType), Jvm.Cond.code ({ cls := "com/example/pulld/pulld/broker/InFlight", name := "queue", desc := "()I" } : Jvm.MethodName) prog_11_method_5_code (1 : Nat) (Option.some Jvm.ClassFile.FieldType.int), Jvm.Cond.code ({ cls := "com/example/pulld/pulld/broker/InFlight", name := "offset", desc := "()J" } : Jvm.MethodName) prog_11_method_6_code (1 : Nat) (Option.some Jvm.ClassFile.FieldType.long), Jvm.Cond.code ({ cls := "com/example/pulld/pulld/broker/InFlightDeliveries", name := "slotOf", desc := "(IJ)I" } : Jvm.MethodName) prog_12_method_18_code (7 : Nat) (Option.some Jvm.ClassFile.FieldType.int), Jvm.Cond.code ({ cls := "com/example/pulld/pulld/broker/InFlightDeliveries", name := "takeSlot", desc := "()I" } : Jvm.MethodName) prog_12_method_13_code (2 : Nat) (Option.some Jvm.ClassFile.FieldType.int), Jvm.Cond.code ({ cls := "com/example/pulld/pulld/broker/InFlightDeliveries", name := "resize", desc := "(I)V" } : Jvm.MethodName) prog_12_method_14_code (10 : Nat) (Option.none : Option Jvm.ClassFile.FieldType), Jvm.Cond.code ({ cls := "com/example/pulld/pulld/broker/InFlightDeliveries$ByVisibleAt", name := "renumber", desc := "([II)V" } : Jvm.MethodName) prog_14_method_7_code (5 : Nat) (Option.none : Option Jvm.ClassFile.FieldType), Jvm.Cond.code ({ cls := "com/example/pulld/pulld/broker/InFlightDeliveries", name := "link", desc := "(I)V" } : Jvm.MethodName) prog_12_method_19_code (3 : Nat) (Option.none : Option Jvm.ClassFile.FieldType), Jvm.Cond.code ({ cls := "com/example/pulld/pulld/broker/InFlightDeliveries", name := "bucket", desc := "(IJ)I" } : Jvm.MethodName) prog_12_method_15_code (6 : Nat) (Option.some Jvm.ClassFile.FieldType.int), Jvm.Cond.code ({ cls := "com/example/pulld/pulld/broker/InFlight", name := "attempt", desc := "()I" } : Jvm.MethodName) prog_11_method_7_code (1 : Nat) (Option.some Jvm.ClassFile.FieldType.int), Jvm.Cond.code ({ cls := "com/example/pulld/pulld/broker/InFlight", name := "visibleAt", desc := "()J" } : Jvm.MethodName) prog_11_method_8_code (1 : Nat) (Option.some Jvm.ClassFile.FieldType.long), Jvm.Cond.code ({ cls := "com/example/pulld/pulld/broker/InFlight", name := "id", desc := "()J" } : Jvm.MethodName) prog_11_method_9_code (1 : Nat) (Option.some Jvm.ClassFile.FieldType.long), Jvm.Cond.code ({ cls := "com/example/pulld/pulld/broker/InFlightDeliveries", name := "byVisibleAt", desc := "(I)Lcom/example/pulld/pulld/broker/InFlightDeliveries$ByVisibleAt;" } : Jvm.MethodName) prog_12_method_12_code (2 : Nat) (Option.some (Jvm.ClassFile.FieldType.object "com/example/pulld/pulld/broker/InFlightDeliveries$ByVisibleAt")), Jvm.Cond.code ({ cls := "com/example/pulld/pulld/broker/InFlightDeliveries$ByVisibleAt", name := "add", desc := "(I)V" } : Jvm.MethodName) prog_14_method_4_code (2 : Nat) (Option.none : Option Jvm.ClassFile.FieldType), Jvm.Cond.code ({ cls := "com/example/pulld/pulld/broker/InFlightDeliveries$ByVisibleAt", name := "place", desc := "(II)V" } : Jvm.MethodName) prog_14_method_10_code (3 : Nat) (Option.none : Option Jvm.ClassFile.FieldType), Jvm.Cond.code ({ cls := "com/example/pulld/pulld/broker/InFlightDeliveries$ByVisibleAt", name := "siftUp", desc := "(I)V" } : Jvm.MethodName) prog_14_method_8_code (4 : Nat) (Option.none : Option Jvm.ClassFile.FieldType), Jvm.Cond.code ({ cls := "com/example/pulld/pulld/broker/InFlightDeliveries", name := "compare", desc := "(II)I" } : Jvm.MethodName) prog_12_method_21_code (4 : Nat) (Option.some Jvm.ClassFile.FieldType.int), Jvm.Cond.code ({ cls := "java/lang/Long", name := "compare", desc := "(JJ)I" } : Jvm.MethodName) jdk_35_method_42_code (4 : Nat) (Option.some Jvm.ClassFile.FieldType.int), Jvm.Cond.code ({ cls := "com/example/pulld/pulld/broker/InFlightDeliveries", name := "after", desc := "(I)I" } : Jvm.MethodName) prog_12_method_16_code (2 : Nat) (Option.some Jvm.ClassFile.FieldType.int), Jvm.Cond.code ({ cls := "com/example/pulld/pulld/broker/InFlightDeliveries$ByVisibleAt", name := "remove", desc := "(I)V" } : Jvm.MethodName) prog_14_method_6_code (4 : Nat) (Option.none : Option Jvm.ClassFile.FieldType), Jvm.Cond.code ({ cls := "com/example/pulld/pulld/broker/InFlightDeliveries", name := "remove", desc := "(IJ)V" } : Jvm.MethodName) prog_12_method_8_code (5 : Nat) (Option.none : Option Jvm.ClassFile.FieldType), Jvm.Cond.code ({ cls := "com/example/pulld/pulld/broker/InFlightDeliveries", name := "unlink", desc := "(I)V" } : Jvm.MethodName) prog_12_method_20_code (5 : Nat) (Option.none : Option Jvm.ClassFile.FieldType), Jvm.Cond.code ({ cls := "com/example/pulld/pulld/broker/ByVisibleAtFirstAtPinLaw", name := "minIf", desc := "(JZJ)J" } : Jvm.MethodName) method_2_code (5 : Nat) (Option.some Jvm.ClassFile.FieldType.long), Jvm.Cond.code ({ cls := "java/lang/Math", name := "min", desc := "(JJ)J" } : Jvm.MethodName) jdk_29_method_70_code (4 : Nat) (Option.some Jvm.ClassFile.FieldType.long), Jvm.Cond.code ({ cls := "com/example/pulld/pulld/broker/InFlightDeliveries", name := "returning", desc := "()Lcom/example/pulld/pulld/broker/InFlightDeliveries$ByVisibleAt;" } : Jvm.MethodName) prog_12_method_3_code (1 : Nat) (Option.some (Jvm.ClassFile.FieldType.object "com/example/pulld/pulld/broker/InFlightDeliveries$ByVisibleAt")), Jvm.Cond.code ({ cls := "com/example/pulld/pulld/broker/InFlightDeliveries$ByVisibleAt", name := "firstAt", desc := "()J" } : Jvm.MethodName) prog_14_method_2_code (1 : Nat) (Option.some Jvm.ClassFile.FieldType.long), Jvm.Cond.code ({ cls := "com/example/pulld/pulld/broker/InFlightDeliveries", name := "lastAttempts", desc := "()Lcom/example/pulld/pulld/broker/InFlightDeliveries$ByVisibleAt;" } : Jvm.MethodName) prog_12_method_4_code (1 : Nat) (Option.some (Jvm.ClassFile.FieldType.object "com/example/pulld/pulld/broker/InFlightDeliveries$ByVisibleAt")), Jvm.Cond.code ({ cls := "com/example/pulld/pulld/broker/InFlightDeliveries", name := "maxAttempts", desc := "(I)V" } : Jvm.MethodName) prog_12_method_5_code (3 : Nat) (Option.none : Option Jvm.ClassFile.FieldType), Jvm.Cond.code ({ cls := "com/example/pulld/pulld/broker/InFlightDeliveries$ByVisibleAt", name := "siftDown", desc := "(I)V" } : Jvm.MethodName) prog_14_method_9_code (6 : Nat) (Option.none : Option Jvm.ClassFile.FieldType), Jvm.Cond.code ({ cls := "java/lang/Integer", name := "compare", desc := "(II)I" } : Jvm.MethodName) jdk_33_method_40_code (2 : Nat) (Option.some Jvm.ClassFile.FieldType.int), Jvm.Cond.code ({ cls := "com/example/pulld/pulld/broker/InFlightDeliveries$ByVisibleAt", name := "clear", desc := "()V" } : Jvm.MethodName) prog_14_method_5_code (1 : Nat) (Option.none : Option Jvm.ClassFile.FieldType), Jvm.Cond.code ({ cls := "com/example/pulld/pulld/broker/InFlightDeliveries", name := "distance", desc := "(II)I" } : Jvm.MethodName) prog_12_method_17_code (3 : Nat) (Option.some Jvm.ClassFile.FieldType.int)]
set_option maxRecDepth 65536 in
theorem codes_eq : words1.filter isCode = codes1 := rfl
theorem w_codes : ∀ c ∈ words1.filter isCode, c.before args0 about1 = true := by
  rw [codes_eq]
  intro c hc
  simp only [codes1, List.mem_cons, List.not_mem_nil, or_false] at hc
  rcases hc with rfl | rfl | rfl | rfl | rfl | rfl | rfl | rfl | rfl | rfl | rfl | rfl | rfl | rfl | rfl | rfl | rfl | rfl | rfl | rfl | rfl | rfl | rfl | rfl | rfl | rfl | rfl | rfl | rfl | rfl | rfl | rfl | rfl | rfl | rfl | rfl | rfl | rfl
  · exact w_c0
  · exact w_c1
  · exact w_c2
  · exact w_c3
  · exact w_c4
  · exact w_c5
  · exact w_c6
  · exact w_c7
  · exact w_c8
  · exact w_c9
  · exact w_c10
  · exact w_c11
  · exact w_c12
  · exact w_c13
  · exact w_c14
  · exact w_c15
  · exact w_c16
  · exact w_c17
  · exact w_c18
  · exact w_c19
  · exact w_c20
  · exact w_c21
  · exact w_c22
  · exact w_c23
  · exact w_c24
  · exact w_c25
  · exact w_c26
  · exact w_c27
  · exact w_c28
  · exact w_c29
  · exact w_c30
  · exact w_c31
  · exact w_c32
  · exact w_c33
  · exact w_c34
  · exact w_c35
  · exact w_c36
  · exact w_c37
set_option maxRecDepth 65536 in
theorem w_t1 : (words1.take 24).all (fun c => isCode c || c.before args0 about1) = true := by decide +kernel
set_option maxRecDepth 65536 in
theorem w_t2 : ((words1.drop 24).take 24).all (fun c => isCode c || c.before args0 about1) = true := by decide +kernel
set_option maxRecDepth 65536 in
theorem w_t3 : (((words1.drop 24).drop 24).take 24).all (fun c => isCode c || c.before args0 about1) = true := by decide +kernel
set_option maxRecDepth 65536 in
theorem w_t4 : ((((words1.drop 24).drop 24).drop 24).take 24).all (fun c => isCode c || c.before args0 about1) = true := by decide +kernel
set_option maxRecDepth 65536 in
theorem w_t5 : (((((words1.drop 24).drop 24).drop 24).drop 24).take 24).all (fun c => isCode c || c.before args0 about1) = true := by decide +kernel
set_option maxRecDepth 65536 in
theorem w_t6 : ((((((words1.drop 24).drop 24).drop 24).drop 24).drop 24).take 24).all (fun c => isCode c || c.before args0 about1) = true := by decide +kernel
set_option maxRecDepth 65536 in
theorem w_t7 : (((((((words1.drop 24).drop 24).drop 24).drop 24).drop 24).drop 24).take 24).all (fun c => isCode c || c.before args0 about1) = true := by decide +kernel
set_option maxRecDepth 65536 in
theorem w_t8 : ((((((((words1.drop 24).drop 24).drop 24).drop 24).drop 24).drop 24).drop 24).take 24).all (fun c => isCode c || c.before args0 about1) = true := by decide +kernel
set_option maxRecDepth 65536 in
theorem w_t9 : (((((((((words1.drop 24).drop 24).drop 24).drop 24).drop 24).drop 24).drop 24).drop 24).take 24).all (fun c => isCode c || c.before args0 about1) = true := by decide +kernel
set_option maxRecDepth 65536 in
theorem w_t10 : (((((((((words1.drop 24).drop 24).drop 24).drop 24).drop 24).drop 24).drop 24).drop 24).drop 24).all (fun c => isCode c || c.before args0 about1) = true := by decide +kernel
theorem w_tables : (allAtoms (Jvm.Cond.code x code maxLocals ret :: tables_1)).before args0 about1 = true := by
  rw [allAtoms_all]
  show words1.all (fun c => c.before args0 about1) = true
  refine all_split ?_ w_codes
  rw [← List.take_append_drop 24 words1, List.all_append, w_t1, ← List.take_append_drop 24 (words1.drop 24), List.all_append, w_t2, ← List.take_append_drop 24 ((words1.drop 24).drop 24), List.all_append, w_t3, ← List.take_append_drop 24 (((words1.drop 24).drop 24).drop 24), List.all_append, w_t4, ← List.take_append_drop 24 ((((words1.drop 24).drop 24).drop 24).drop 24), List.all_append, w_t5, ← List.take_append_drop 24 (((((words1.drop 24).drop 24).drop 24).drop 24).drop 24), List.all_append, w_t6, ← List.take_append_drop 24 ((((((words1.drop 24).drop 24).drop 24).drop 24).drop 24).drop 24), List.all_append, w_t7, ← List.take_append_drop 24 (((((((words1.drop 24).drop 24).drop 24).drop 24).drop 24).drop 24).drop 24), List.all_append, w_t8, ← List.take_append_drop 24 ((((((((words1.drop 24).drop 24).drop 24).drop 24).drop 24).drop 24).drop 24).drop 24), List.all_append, w_t9, w_t10]
  rfl
set_option maxRecDepth 65536 in
theorem w_case : (Jvm.Cond.and given_1 narrow_1).before args0 about1 = true := by decide +kernel
theorem w_applies : (headSpec (Jvm.Cond.code x code maxLocals ret :: tables_1) room_1).applies x e0.platform about1 = true :=
  (Spec.applies_iff w_frames).mpr ⟨w_running, w_runnable, w_alone, w_named, w_hears, w_ripe, w_room, w_tables⟩
theorem atStart : AtStart classFile x code maxLocals ret World_1 tables_1 room_1 Calls_1 rest_1 Pre_1 launch0 p0 e0 about1 theMethod args0 below0 :=
  ⟨lists_1, trivial, launch0.admits_env _ _ _, launch0.least_env, fairChoices_fair.cas, fairChoices_fair.clock, w_frames, w_args, w_heap, w_applies, trivial, trivial, w_case⟩
end start1
theorem witness_1 : WitnessClaimed_1 := ⟨start1.p0, start1.e0, start1.about1, start1.theMethod, start1.args0, start1.below0, start1.atStart⟩
end Jvm.Pilot.@@N@@
