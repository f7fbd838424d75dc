import JvmDerived
import JvmDerived.Pilot.@@N@@Statement
import JvmDerived.Pilot.@@N@@Code
set_option linter.unusedVariables false
set_option linter.unusedSimpArgs false
namespace Jvm.Pilot.@@N@@
open Jvm Jvm.ClassFile Sem Op Lib Jvm.Free Jvm.Stand Jvm.LawKit Jvm.RoadKit Bundle Jvm.Pilot.@@N@@.Jvm.D
/-! ## own layer: a walk goal by goal, over a world of objects that the law made itself -/
abbrev Desc : Type := (String × List (String × String × Value)) ⊕ (List Int32 ⊕ List Int64)
abbrev Wld : Type := List (Addr × Desc)
def Is (Z : State) (h : Heap) (a : Addr) : Desc → Prop
  | .inl o => Exa Z h a o.1 ∧ (∀ f ∈ o.2, Fld Z h a o.1 f.1 f.2.1 f.2.2) ∧ (o.2.map fun f => Jvm.RoadKit.slotOf Z o.1 f.1 f.2.1).Nodup
  | .inr (.inl vs) => ∃ cl : Cell, Arr Z h a cl .int ∧ cl.slots = (vs.map Value.int).toArray ∧ vs.length < 2 ^ 31
  | .inr (.inr vs) => ∃ cl : Cell, Arr Z h a cl .long ∧ cl.slots = (vs.map Value.long).toArray ∧ vs.length < 2 ^ 31
def World (Z : State) (n0 : Nat) (h : Heap) (W : Wld) : Prop := n0 ≤ h.size ∧ (W.map fun q => q.1).Nodup ∧ ∀ q ∈ W, n0 ≤ q.1 ∧ Is Z h q.1 q.2
section OwnFacts
variable {Z : State} {h h' : Heap} {a b : Addr} {d : Desc} {n0 sl i : Nat} {v : Value} {W : Wld}
theorem own_nodup {α : Type} {xs : List α} (N : xs.Nodup) {i j : Nat} {x : α} (h1 : xs[i]? = some x) (h2 : xs[j]? = some x) : i = j := by
  have hi := (List.getElem?_eq_some_iff.mp h1).1
  exact (List.getElem?_inj hi N).mp (h1.trans h2.symm)
theorem own_set_map {α β : Type} (f : α → β) {xs : List α} {i : Nat} {x y : α} (h1 : xs[i]? = some x) (e : f y = f x) : (xs.set i y).map f = xs.map f := by
  apply List.ext_getElem?
  intro k
  rw [List.getElem?_map, List.getElem?_map, List.getElem?_set]
  by_cases q : i = k
  · subst q
    obtain ⟨hlt, hx⟩ := List.getElem?_eq_some_iff.mp h1
    simp [hlt, hx, e]
  · simp [q]
theorem own_mem_set {α : Type} {xs : List α} {i : Nat} {y z : α} (hz : z ∈ xs.set i y) : z = y ∨ ∃ k, k ≠ i ∧ xs[k]? = some z := by
  obtain ⟨k, hk⟩ := List.mem_iff_getElem?.mp hz
  rw [List.getElem?_set] at hk
  by_cases q : i = k
  · subst q
    by_cases l : i < xs.length
    · simp [l] at hk; exact Or.inl hk.symm
    · simp [l] at hk
  · simp only [q, if_false] at hk
    exact Or.inr ⟨k, fun e => q e.symm, hk⟩
theorem Is.lt : ∀ {d : Desc}, Is Z h a d → a < h.size
  | .inl _, I => I.1.lt
  | .inr (.inl _), I => by obtain ⟨_, A, _⟩ := I; exact A.lt
  | .inr (.inr _), I => by obtain ⟨_, A, _⟩ := I; exact A.lt
theorem Is.ext (E : Ext h h') : ∀ {d : Desc}, Is Z h a d → Is Z h' a d
  | .inl _, I => ⟨I.1.ext E, fun f hf => (I.2.1 f hf).ext E, I.2.2⟩
  | .inr (.inl _), I => by obtain ⟨c, A, r⟩ := I; exact ⟨c, A.ext E, r⟩
  | .inr (.inr _), I => by obtain ⟨c, A, r⟩ := I; exact ⟨c, A.ext E, r⟩
theorem Is.other (K : Wr h h' b sl v) (q : a ≠ b) : ∀ {d : Desc}, Is Z h a d → Is Z h' a d
  | .inl _, I => ⟨I.1.wr K, fun f hf => (I.2.1 f hf).other K (Or.inl q), I.2.2⟩
  | .inr (.inl _), I => by obtain ⟨c, A, r⟩ := I; exact ⟨c, A.other K q, r⟩
  | .inr (.inr _), I => by obtain ⟨c, A, r⟩ := I; exact ⟨c, A.other K q, r⟩
theorem Is.put {C n t : String} {fs : List (String × String × Value)} {old : Value} {j : Nat} (K : Wr h h' a (Jvm.RoadKit.slotOf Z C n t) v) (I : Is Z h a (.inl (C, fs))) (hj : fs[j]? = some (n, t, old)) : Is Z h' a (.inl (C, fs.set j (n, t, v))) := by
  obtain ⟨E, Fs, P⟩ := I
  refine ⟨E.wr K, fun f hf => ?_, ?_⟩
  · rcases own_mem_set hf with rfl | ⟨k, q, hk⟩
    · exact (Fs _ (List.mem_of_getElem? hj)).same K
    · refine (Fs f (List.mem_of_getElem? hk)).other K (Or.inr fun e => q ?_)
      have h1 : (fs.map fun f => Jvm.RoadKit.slotOf Z C f.1 f.2.1)[k]? = some (Jvm.RoadKit.slotOf Z C f.1 f.2.1) := by rw [List.getElem?_map, hk]; rfl
      have h2 : (fs.map fun f => Jvm.RoadKit.slotOf Z C f.1 f.2.1)[j]? = some (Jvm.RoadKit.slotOf Z C f.1 f.2.1) := by rw [List.getElem?_map, hj, e]; rfl
      exact own_nodup P h1 h2
  · have := own_set_map (fun f : String × String × Value => Jvm.RoadKit.slotOf Z C f.1 f.2.1) (y := (n, t, v)) hj rfl
    show (List.map (fun f : String × String × Value => Jvm.RoadKit.slotOf Z C f.1 f.2.1) (fs.set j (n, t, v))).Nodup
    rw [this]; exact P
theorem own_size {vs : List Int32} {cl : Cell} (e : cl.slots = (vs.map Value.int).toArray) : cl.slots.size = vs.length := by rw [e]; simp
theorem own_sizeL {vs : List Int64} {cl : Cell} (e : cl.slots = (vs.map Value.long).toArray) : cl.slots.size = vs.length := by rw [e]; simp
theorem Is.setI {vs : List Int32} {k : Nat} {x : Int32} (K : Wr h h' a k (.int x)) (I : Is Z h a (.inr (.inl vs))) : Is Z h' a (.inr (.inl (vs.set k x))) := by
  obtain ⟨c, A, e, hl⟩ := I
  refine ⟨_, A.same K, ?_, by simpa using hl⟩
  show c.slots.setIfInBounds k (.int x) = _
  rw [e]; simp [List.map_set]
theorem Is.setJ {vs : List Int64} {k : Nat} {x : Int64} (K : Wr h h' a k (.long x)) (I : Is Z h a (.inr (.inr vs))) : Is Z h' a (.inr (.inr (vs.set k x))) := by
  obtain ⟨c, A, e, hl⟩ := I
  refine ⟨_, A.same K, ?_, by simpa using hl⟩
  show c.slots.setIfInBounds k (.long x) = _
  rw [e]; simp [List.map_set]
theorem World.get (D : World Z n0 h W) (hi : W[i]? = some (a, d)) : n0 ≤ a ∧ Is Z h a d := D.2.2 _ (List.mem_of_getElem? hi)
theorem World.upd {d' : Desc} (D : World Z n0 h W) (hi : W[i]? = some (a, d)) (K : Wr h h' a sl v) (I : Is Z h' a d') : World Z n0 h' (W.set i (a, d')) := by
  refine ⟨by rw [K.size]; exact D.1, ?_, fun q hq => ?_⟩
  · rw [own_set_map (fun q : Addr × Desc => q.1) (y := (a, d')) hi rfl]; exact D.2.1
  · rcases own_mem_set hq with rfl | ⟨k, ne, hk⟩
    · exact ⟨(D.get hi).1, I⟩
    · have hq' := D.2.2 q (List.mem_of_getElem? hk)
      refine ⟨hq'.1, hq'.2.other K fun e => ne ?_⟩
      have h1 : (W.map fun q => q.1)[k]? = some q.1 := by rw [List.getElem?_map, hk]; rfl
      have h2 : (W.map fun q => q.1)[i]? = some q.1 := by rw [List.getElem?_map, hi, e]; rfl
      exact own_nodup D.2.1 h1 h2
theorem World.add {d : Desc} (D : World Z n0 h W) (E : Ext h h') (I : Is Z h' h.size d) : World Z n0 h' (W ++ [(h.size, d)]) := by
  refine ⟨Nat.le_trans D.1 E.1, ?_, fun q hq => ?_⟩
  · rw [List.map_append, List.nodup_append]
    refine ⟨D.2.1, by simp, fun x hx y hy e => ?_⟩
    obtain ⟨q, hq, rfl⟩ := List.mem_map.mp hx
    simp only [List.map_cons, List.map_nil, List.mem_singleton] at hy
    have hlt := (D.2.2 q hq).2.lt
    subst hy
    exact absurd e (Nat.ne_of_lt hlt)
  · rcases List.mem_append.mp hq with hq | hq
    · exact ⟨(D.2.2 q hq).1, (D.2.2 q hq).2.ext E⟩
    · cases List.mem_singleton.mp hq
      exact ⟨D.1, I⟩
theorem World.ne {i j : Nat} {a b : Addr} {d d' : Desc} (D : World Z n0 h W) (hi : W[i]? = some (a, d)) (hj : W[j]? = some (b, d')) (q : i ≠ j) : a ≠ b := fun e => q (by
  have h1 : (W.map fun q => q.1)[i]? = some a := by rw [List.getElem?_map, hi]; rfl
  have h2 : (W.map fun q => q.1)[j]? = some a := by rw [List.getElem?_map, hj, e]; rfl
  exact own_nodup D.2.1 h1 h2)
end OwnFacts
/-- the fields of a new object, at their first values -/
def Lay (Z : State) (a0 : Array Value) (C : String) (fs : List (String × String × Value)) : Prop := ∀ f ∈ fs, Laid Z a0 C C f.1 f.2.1 ∧ ∃ ty, parseFieldDescriptor f.2.1 = some ty ∧ f.2.2 = defaultValue ty
theorem lay_nil {Z : State} {a0 : Array Value} {C : String} : Lay Z a0 C [] := fun _ q => nomatch q
theorem lay_cons {Z : State} {a0 : Array Value} {C n t : String} {v : Value} {ty : FieldType} {fs : List (String × String × Value)} (L : Laid Z a0 C C n t) (ht : parseFieldDescriptor t = some ty) (hv : v = defaultValue ty) (r : Lay Z a0 C fs) : Lay Z a0 C ((n, t, v) :: fs) := fun f hf => by
  rcases List.mem_cons.mp hf with rfl | hf
  · exact ⟨L, ty, ht, hv⟩
  · exact r f hf
theorem Lay.slots {Z : State} {a0 : Array Value} {C : String} : ∀ {fs : List (String × String × Value)}, Lay Z a0 C fs → (fs.map fun f => f.1).Nodup → (fs.map fun f => Jvm.RoadKit.slotOf Z C f.1 f.2.1).Nodup
  | [], _, _ => by simp
  | f :: fs, L, N => by
    simp only [List.map_cons, List.nodup_cons] at N ⊢
    refine ⟨fun hm => ?_, Lay.slots (fun g hg => L g (List.mem_cons_of_mem _ hg)) N.2⟩
    obtain ⟨g, hg, e⟩ := List.mem_map.mp hm
    obtain ⟨L1, t1, p1, -⟩ := L f (List.mem_cons_self ..)
    obtain ⟨L2, t2, p2, -⟩ := L g (List.mem_cons_of_mem _ hg)
    exact slot_ne L2 L1 (fun q => N.1 (q ▸ List.mem_map.mpr ⟨g, hg, rfl⟩)) p2 p1 e
abbrev Dyn : Type := Program × Env × State × MethodId × Array Value × List Frame × Method × Code
def Done (Z : State) (n0 : Nat) (s : State) (R : Room) (F : Option Value → Wld → Prop) (s₂ : State) (o : Outcome) : Prop := ∃ v L, o = .returned v ∧ (Fr n0 L ∧ ∃ W', World Z n0 s₂.heap W' ∧ F v W') ∧ FrameEnd s o s₂ L R.cells R.slots
def Go (l : Launch) (Z : State) (n0 : Nat) (R : Room) (code : ByteArray) (maxL : Nat) (y : MethodName) (ret : Option FieldType) (D : Dyn) (W : Wld) (cells slots pc : Nat) (ls : Array Slot) (st : List Value) (F : Option Value → Wld → Prop) : Prop :=
  match D with
  | (p, e, s, m, args, below, meth, c) => p.tables.exec = Jvm.exec → Z.Warmed39 s.vm → c.code = code → c.maxLocals = maxL → s.vm.findClass y.cls = some m.cls → meth.name = y.name → meth.sig.returnType = ret → meth.locks = false →
    ∀ T locs, Stand p l e R s m args below meth c T locs cells slots → Fr n0 locs → World Z n0 T.heap W → ∃ s₂ o, Steps p.tables e below (T.setTop (mkF m pc ls st)) s₂ ∧ s₂.status = .running ∧ Ended s₂ below o ∧ Done Z n0 s R F s₂ o
def Meets (l : Launch) (Z : State) (n0 : Nat) (y : MethodName) (bytes : ByteArray) (maxL : Nat) (ret : Option FieldType) (rm : Room) (ws : List Jvm.Cond) (as : Array Value) (W : Wld) (F : Option Value → Wld → Prop) : Prop :=
  ∀ h0 : Heap, World Z n0 h0 W → MetFree l y (head1 (Jvm.Cond.code y bytes maxL ret :: ws) rm) (fun a U => a = as ∧ Z.Warmed39 U.vm ∧ U.heap = h0) (fun _ _ _ _ _ => True) (fun _ U o U' => ∃ v L, o = .returned v ∧ (Fr n0 L ∧ ∃ W', World Z n0 U'.heap W' ∧ F v W') ∧ FrameEnd U o U' L rm.cells rm.slots)
theorem Meets.of_go {l : Launch} {Z : State} {n0 : Nat} {y : MethodName} {bytes : ByteArray} {maxL : Nat} {ret : Option FieldType} {rm : Room} {ws : List Jvm.Cond} {as : Array Value} {W : Wld} {F : Option Value → Wld → Prop} {ls : Array Slot} (hpl : plainFor y = true)
    (ef : ∀ m, entryFrame m as maxL = mkF m 0 ls []) (k : ∀ D, Go l Z n0 rm bytes maxL y ret D W 0 0 0 ls [] F) : Meets l Z n0 y bytes maxL ret rm ws as W F := by
  intro h0 Wd
  refine MetFree.of_bodySF hpl hisR ?_
  intro p e s m args below meth c s₁ Bd hml0 hP hK
  obtain ⟨rfl, hZ, hh⟩ := hP
  have e0 : s₁.heap = h0 := by rw [← hh, Bd.state]; rfl
  obtain ⟨s₂, o, h1, h2, h3, h4⟩ := k (p, e, s, m, _, below, meth, c) Bd.exec hZ Bd.bytes hml0 (findClass_of_methodNamed Bd.named) (name_of_methodNamed Bd.named Bd.method).1 Bd.returns Bd.notSynchronized s₁ [] (Stand.of_body Bd) (Fr.nil n0) (e0 ▸ Wd)
  exact ⟨s₂, o, castTop (ef m) h1, h2, h3, h4⟩
theorem Meets.mono {l : Launch} {Z : State} {n0 : Nat} {y : MethodName} {bytes : ByteArray} {maxL : Nat} {ret : Option FieldType} {rm : Room} {ws : List Jvm.Cond} {as : Array Value} {W : Wld} {F G : Option Value → Wld → Prop} (M : Meets l Z n0 y bytes maxL ret rm ws as W F) (q : ∀ v W', F v W' → G v W') : Meets l Z n0 y bytes maxL ret rm ws as W G := by
  intro h0 Wd p e a1 a2 a3 s m args below b1 b2 b3 b4
  obtain ⟨n, o, c1, c2, c3, v, L, d1, ⟨d2, W', d3, d4⟩, d5⟩ := M h0 Wd p e a1 a2 a3 s m args below b1 b2 b3 b4
  exact ⟨n, o, c1, c2, c3, v, L, d1, ⟨d2, W', d3, q _ _ d4⟩, d5⟩
section OwnSteps
variable {l : Launch} {Z : State} {n0 : Nat} {R : Room} {code : ByteArray} {maxL : Nat} {y : MethodName} {ret : Option FieldType} {D : Dyn} {W : Wld} {cells slots pc pc' : Nat} {ls ls' : Array Slot} {stk stk' : List Value} {F : Option Value → Wld → Prop} {a0 : Array Value}
theorem Go.plain (st : ∀ (p : Program) (e : Env) (s : State) (m : MethodId) (args : Array Value) (below : List Frame) (meth : Method) (c : Code) (T : State) (locs : List Loc), p.tables.exec = Jvm.exec → Z.Warmed39 s.vm → c.code = code → s.vm.findClass y.cls = some m.cls → Stand p l e R s m args below meth c T locs cells slots → World Z n0 T.heap W →
      ∀ target, Steps p.tables e below (T.setTop (mkF m pc' ls' stk')) target → Steps p.tables e below (T.setTop (mkF m pc ls stk)) target)
    (k : Go l Z n0 R code maxL y ret D W cells slots pc' ls' stk' F) : Go l Z n0 R code maxL y ret D W cells slots pc ls stk F := by
  obtain ⟨p, e, s, m, args, below, meth, c⟩ := D
  intro hx hZ hby hml hown hnm hret hlk T locs X N Wd
  obtain ⟨s₂, o, h1, h2⟩ := k hx hZ hby hml hown hnm hret hlk T locs X N Wd
  exact ⟨s₂, o, st p e s m args below meth c T locs hx hZ hby hown X Wd _ h1, h2⟩
theorem Go.val {r : Value} {rest : List Value} (k : Go l Z n0 R code maxL y ret D W cells slots pc ls (r :: rest) F) : Go l Z n0 R code maxL y ret D W cells slots pc ls ((some r).toList ++ rest) F := k
theorem Go.nov {rest : List Value} (k : Go l Z n0 R code maxL y ret D W cells slots pc ls rest F) : Go l Z n0 R code maxL y ret D W cells slots pc ls ((none : Option Value).toList ++ rest) F := k
/-! plain steps -/
theorem Go.iload {k : Nat} {v : Int32} (hd : decode code pc = .ok (.iload k, 2)) (hl : ls[k]? = some (.val (.int v))) (hp : pc + 2 = pc') (k : Go l Z n0 R code maxL y ret D W cells slots pc' ls (.int v :: stk) F) : Go l Z n0 R code maxL y ret D W cells slots pc ls stk F := by
  subst hp; exact Go.plain (fun p e s m args below meth c T locs hx hZ hby hown X Wd target h => XS.iload X.here hx rfl (hb hby hd) hl h) k
theorem Go.iloadN {k : Fin 4} {v : Int32} (hd : decode code pc = .ok (.iload_n k, 1)) (hl : ls[k.val]? = some (.val (.int v))) (hp : pc + 1 = pc') (k : Go l Z n0 R code maxL y ret D W cells slots pc' ls (.int v :: stk) F) : Go l Z n0 R code maxL y ret D W cells slots pc ls stk F := by
  subst hp; exact Go.plain (fun p e s m args below meth c T locs hx hZ hby hown X Wd target h => XS.iloadN X.here hx rfl (hb hby hd) hl h) k
theorem Go.istore {k : Nat} {v : Int32} (hd : decode code pc = .ok (.istore k, 2)) (hl : storeLocals ls k (.int v) = some ls') (hp : pc + 2 = pc') (k : Go l Z n0 R code maxL y ret D W cells slots pc' ls' stk F) : Go l Z n0 R code maxL y ret D W cells slots pc ls (.int v :: stk) F := by
  subst hp; exact Go.plain (fun p e s m args below meth c T locs hx hZ hby hown X Wd target h => XS.istore X.here hx rfl (hb hby hd) rfl hl h) k
theorem Go.istoreN {k : Fin 4} {v : Int32} (hd : decode code pc = .ok (.istore_n k, 1)) (hl : storeLocals ls k.val (.int v) = some ls') (hp : pc + 1 = pc') (k : Go l Z n0 R code maxL y ret D W cells slots pc' ls' stk F) : Go l Z n0 R code maxL y ret D W cells slots pc ls (.int v :: stk) F := by
  subst hp; exact Go.plain (fun p e s m args below meth c T locs hx hZ hby hown X Wd target h => XS.istoreN X.here hx rfl (hb hby hd) rfl hl h) k
theorem Go.lload {k : Nat} {v : Int64} (hd : decode code pc = .ok (.lload k, 2)) (hl : ls[k]? = some (.val (.long v))) (hp : pc + 2 = pc') (k : Go l Z n0 R code maxL y ret D W cells slots pc' ls (.long v :: stk) F) : Go l Z n0 R code maxL y ret D W cells slots pc ls stk F := by
  subst hp; exact Go.plain (fun p e s m args below meth c T locs hx hZ hby hown X Wd target h => XT.lload X.here hx rfl (hb hby hd) hl h) k
theorem Go.lloadN {k : Fin 4} {v : Int64} (hd : decode code pc = .ok (.lload_n k, 1)) (hl : ls[k.val]? = some (.val (.long v))) (hp : pc + 1 = pc') (k : Go l Z n0 R code maxL y ret D W cells slots pc' ls (.long v :: stk) F) : Go l Z n0 R code maxL y ret D W cells slots pc ls stk F := by
  subst hp; exact Go.plain (fun p e s m args below meth c T locs hx hZ hby hown X Wd target h => XT.lloadN X.here hx rfl (hb hby hd) hl h) k
theorem Go.lstore {k : Nat} {v : Int64} (hd : decode code pc = .ok (.lstore k, 2)) (hl : storeLocals ls k (.long v) = some ls') (hp : pc + 2 = pc') (k : Go l Z n0 R code maxL y ret D W cells slots pc' ls' stk F) : Go l Z n0 R code maxL y ret D W cells slots pc ls (.long v :: stk) F := by
  subst hp; exact Go.plain (fun p e s m args below meth c T locs hx hZ hby hown X Wd target h => XT.lstore X.here hx rfl (hb hby hd) rfl hl h) k
theorem Go.lstoreN {k : Fin 4} {v : Int64} (hd : decode code pc = .ok (.lstore_n k, 1)) (hl : storeLocals ls k.val (.long v) = some ls') (hp : pc + 1 = pc') (k : Go l Z n0 R code maxL y ret D W cells slots pc' ls' stk F) : Go l Z n0 R code maxL y ret D W cells slots pc ls (.long v :: stk) F := by
  subst hp; exact Go.plain (fun p e s m args below meth c T locs hx hZ hby hown X Wd target h => XT.lstoreN X.here hx rfl (hb hby hd) rfl hl h) k
theorem Go.aload {k : Nat} {v : Value} (hd : decode code pc = .ok (.aload k, 2)) (hl : ls[k]? = some (.val v)) (hv : v.isRef = true) (hp : pc + 2 = pc') (k : Go l Z n0 R code maxL y ret D W cells slots pc' ls (v :: stk) F) : Go l Z n0 R code maxL y ret D W cells slots pc ls stk F := by
  subst hp; exact Go.plain (fun p e s m args below meth c T locs hx hZ hby hown X Wd target h => XS.aload X.here hx rfl (hb hby hd) hl hv h) k
theorem Go.aloadN {k : Fin 4} {v : Value} (hd : decode code pc = .ok (.aload_n k, 1)) (hl : ls[k.val]? = some (.val v)) (hv : v.isRef = true) (hp : pc + 1 = pc') (k : Go l Z n0 R code maxL y ret D W cells slots pc' ls (v :: stk) F) : Go l Z n0 R code maxL y ret D W cells slots pc ls stk F := by
  subst hp; exact Go.plain (fun p e s m args below meth c T locs hx hZ hby hown X Wd target h => XS.aloadN X.here hx rfl (hb hby hd) hl hv h) k
theorem Go.astore {k : Nat} {v : Value} (hd : decode code pc = .ok (.astore k, 2)) (hv : v.isRef = true) (hl : storeLocals ls k v = some ls') (hp : pc + 2 = pc') (k : Go l Z n0 R code maxL y ret D W cells slots pc' ls' stk F) : Go l Z n0 R code maxL y ret D W cells slots pc ls (v :: stk) F := by
  subst hp; exact Go.plain (fun p e s m args below meth c T locs hx hZ hby hown X Wd target h => XS.astore X.here hx rfl (hb hby hd) rfl hv hl h) k
theorem Go.astoreN {k : Fin 4} {v : Value} (hd : decode code pc = .ok (.astore_n k, 1)) (hv : v.isRef = true) (hl : storeLocals ls k.val v = some ls') (hp : pc + 1 = pc') (k : Go l Z n0 R code maxL y ret D W cells slots pc' ls' stk F) : Go l Z n0 R code maxL y ret D W cells slots pc ls (v :: stk) F := by
  subst hp; exact Go.plain (fun p e s m args below meth c T locs hx hZ hby hown X Wd target h => XS.astoreN X.here hx rfl (hb hby hd) rfl hv hl h) k
theorem Go.iconst {i : Int} {v : Int32} (hd : decode code pc = .ok (.iconst i, 1)) (hv : Int32.ofInt i = v) (hp : pc + 1 = pc') (k : Go l Z n0 R code maxL y ret D W cells slots pc' ls (.int v :: stk) F) : Go l Z n0 R code maxL y ret D W cells slots pc ls stk F := by
  subst hp hv; exact Go.plain (fun p e s m args below meth c T locs hx hZ hby hown X Wd target h => XS.iconst X.here hx rfl (hb hby hd) h) k
theorem Go.bipush {i : Int} {v : Int32} (hd : decode code pc = .ok (.bipush i, 2)) (hv : (Int8.ofInt i).toInt32 = v) (hp : pc + 2 = pc') (k : Go l Z n0 R code maxL y ret D W cells slots pc' ls (.int v :: stk) F) : Go l Z n0 R code maxL y ret D W cells slots pc ls stk F := by
  subst hp hv; exact Go.plain (fun p e s m args below meth c T locs hx hZ hby hown X Wd target h => XS.bipush X.here hx rfl (hb hby hd) h) k
theorem Go.sipush {i : Int} {v : Int32} (hd : decode code pc = .ok (.sipush i, 3)) (hv : (Int16.ofInt i).toInt32 = v) (hp : pc + 3 = pc') (k : Go l Z n0 R code maxL y ret D W cells slots pc' ls (.int v :: stk) F) : Go l Z n0 R code maxL y ret D W cells slots pc ls stk F := by
  subst hp hv; exact Go.plain (fun p e s m args below meth c T locs hx hZ hby hown X Wd target h => XS.sipush X.here hx rfl (hb hby hd) h) k
theorem Go.lconst {i : Fin 2} {v : Int64} (hd : decode code pc = .ok (.lconst i, 1)) (hv : Int64.ofNat i = v) (hp : pc + 1 = pc') (k : Go l Z n0 R code maxL y ret D W cells slots pc' ls (.long v :: stk) F) : Go l Z n0 R code maxL y ret D W cells slots pc ls stk F := by
  subst hp hv; exact Go.plain (fun p e s m args below meth c T locs hx hZ hby hown X Wd target h => XT.lconst X.here hx rfl (hb hby hd) h) k
theorem Go.aconstNull  (hd : decode code pc = .ok (.aconst_null, 1)) (hp : pc + 1 = pc') (k : Go l Z n0 R code maxL y ret D W cells slots pc' ls (.null :: stk) F) : Go l Z n0 R code maxL y ret D W cells slots pc ls stk F := by
  subst hp; exact Go.plain (fun p e s m args below meth c T locs hx hZ hby hown X Wd target h => XS.aconstNull X.here hx rfl (hb hby hd) h) k
theorem Go.iadd {u v : Int32} (hd : decode code pc = .ok (.iadd, 1)) (hp : pc + 1 = pc') (k : Go l Z n0 R code maxL y ret D W cells slots pc' ls (.int (u + v) :: stk) F) : Go l Z n0 R code maxL y ret D W cells slots pc ls (.int v :: .int u :: stk) F := by
  subst hp; exact Go.plain (fun p e s m args below meth c T locs hx hZ hby hown X Wd target h => XS.iadd X.here hx rfl (hb hby hd) rfl h) k
theorem Go.ladd {u v : Int64} (hd : decode code pc = .ok (.ladd, 1)) (hp : pc + 1 = pc') (k : Go l Z n0 R code maxL y ret D W cells slots pc' ls (.long (u + v) :: stk) F) : Go l Z n0 R code maxL y ret D W cells slots pc ls (.long v :: .long u :: stk) F := by
  subst hp; exact Go.plain (fun p e s m args below meth c T locs hx hZ hby hown X Wd target h => XT.ladd X.here hx rfl (hb hby hd) rfl h) k
theorem Go.isub {u v : Int32} (hd : decode code pc = .ok (.isub, 1)) (hp : pc + 1 = pc') (k : Go l Z n0 R code maxL y ret D W cells slots pc' ls (.int (u - v) :: stk) F) : Go l Z n0 R code maxL y ret D W cells slots pc ls (.int v :: .int u :: stk) F := by
  subst hp; exact Go.plain (fun p e s m args below meth c T locs hx hZ hby hown X Wd target h => XS.isub X.here hx rfl (hb hby hd) rfl h) k
theorem Go.lsub {u v : Int64} (hd : decode code pc = .ok (.lsub, 1)) (hp : pc + 1 = pc') (k : Go l Z n0 R code maxL y ret D W cells slots pc' ls (.long (u - v) :: stk) F) : Go l Z n0 R code maxL y ret D W cells slots pc ls (.long v :: .long u :: stk) F := by
  subst hp; exact Go.plain (fun p e s m args below meth c T locs hx hZ hby hown X Wd target h => XT.lsub X.here hx rfl (hb hby hd) rfl h) k
theorem Go.imul {u v : Int32} (hd : decode code pc = .ok (.imul, 1)) (hp : pc + 1 = pc') (k : Go l Z n0 R code maxL y ret D W cells slots pc' ls (.int (u * v) :: stk) F) : Go l Z n0 R code maxL y ret D W cells slots pc ls (.int v :: .int u :: stk) F := by
  subst hp; exact Go.plain (fun p e s m args below meth c T locs hx hZ hby hown X Wd target h => XS.imul X.here hx rfl (hb hby hd) rfl h) k
theorem Go.lmul {u v : Int64} (hd : decode code pc = .ok (.lmul, 1)) (hp : pc + 1 = pc') (k : Go l Z n0 R code maxL y ret D W cells slots pc' ls (.long (u * v) :: stk) F) : Go l Z n0 R code maxL y ret D W cells slots pc ls (.long v :: .long u :: stk) F := by
  subst hp; exact Go.plain (fun p e s m args below meth c T locs hx hZ hby hown X Wd target h => XT.lmul X.here hx rfl (hb hby hd) rfl h) k
theorem Go.iand {u v : Int32} (hd : decode code pc = .ok (.iand, 1)) (hp : pc + 1 = pc') (k : Go l Z n0 R code maxL y ret D W cells slots pc' ls (.int (u &&& v) :: stk) F) : Go l Z n0 R code maxL y ret D W cells slots pc ls (.int v :: .int u :: stk) F := by
  subst hp; exact Go.plain (fun p e s m args below meth c T locs hx hZ hby hown X Wd target h => XS.iand X.here hx rfl (hb hby hd) rfl h) k
theorem Go.land {u v : Int64} (hd : decode code pc = .ok (.land, 1)) (hp : pc + 1 = pc') (k : Go l Z n0 R code maxL y ret D W cells slots pc' ls (.long (u &&& v) :: stk) F) : Go l Z n0 R code maxL y ret D W cells slots pc ls (.long v :: .long u :: stk) F := by
  subst hp; exact Go.plain (fun p e s m args below meth c T locs hx hZ hby hown X Wd target h => XT.land X.here hx rfl (hb hby hd) rfl h) k
theorem Go.ior {u v : Int32} (hd : decode code pc = .ok (.ior, 1)) (hp : pc + 1 = pc') (k : Go l Z n0 R code maxL y ret D W cells slots pc' ls (.int (u ||| v) :: stk) F) : Go l Z n0 R code maxL y ret D W cells slots pc ls (.int v :: .int u :: stk) F := by
  subst hp; exact Go.plain (fun p e s m args below meth c T locs hx hZ hby hown X Wd target h => XT.ior X.here hx rfl (hb hby hd) rfl h) k
theorem Go.lor {u v : Int64} (hd : decode code pc = .ok (.lor, 1)) (hp : pc + 1 = pc') (k : Go l Z n0 R code maxL y ret D W cells slots pc' ls (.long (u ||| v) :: stk) F) : Go l Z n0 R code maxL y ret D W cells slots pc ls (.long v :: .long u :: stk) F := by
  subst hp; exact Go.plain (fun p e s m args below meth c T locs hx hZ hby hown X Wd target h => XT.lor X.here hx rfl (hb hby hd) rfl h) k
theorem Go.ixor {u v : Int32} (hd : decode code pc = .ok (.ixor, 1)) (hp : pc + 1 = pc') (k : Go l Z n0 R code maxL y ret D W cells slots pc' ls (.int (u ^^^ v) :: stk) F) : Go l Z n0 R code maxL y ret D W cells slots pc ls (.int v :: .int u :: stk) F := by
  subst hp; exact Go.plain (fun p e s m args below meth c T locs hx hZ hby hown X Wd target h => XT.ixor X.here hx rfl (hb hby hd) rfl h) k
theorem Go.lxor {u v : Int64} (hd : decode code pc = .ok (.lxor, 1)) (hp : pc + 1 = pc') (k : Go l Z n0 R code maxL y ret D W cells slots pc' ls (.long (u ^^^ v) :: stk) F) : Go l Z n0 R code maxL y ret D W cells slots pc ls (.long v :: .long u :: stk) F := by
  subst hp; exact Go.plain (fun p e s m args below meth c T locs hx hZ hby hown X Wd target h => XT.lxor X.here hx rfl (hb hby hd) rfl h) k
theorem Go.ishl {u v : Int32} (hd : decode code pc = .ok (.ishl, 1)) (hp : pc + 1 = pc') (k : Go l Z n0 R code maxL y ret D W cells slots pc' ls (.int (u <<< (v &&& 31)) :: stk) F) : Go l Z n0 R code maxL y ret D W cells slots pc ls (.int v :: .int u :: stk) F := by
  subst hp; exact Go.plain (fun p e s m args below meth c T locs hx hZ hby hown X Wd target h => XT.ishl X.here hx rfl (hb hby hd) rfl h) k
theorem Go.ishr {u v : Int32} (hd : decode code pc = .ok (.ishr, 1)) (hp : pc + 1 = pc') (k : Go l Z n0 R code maxL y ret D W cells slots pc' ls (.int (u >>> (v &&& 31)) :: stk) F) : Go l Z n0 R code maxL y ret D W cells slots pc ls (.int v :: .int u :: stk) F := by
  subst hp; exact Go.plain (fun p e s m args below meth c T locs hx hZ hby hown X Wd target h => XT.ishr X.here hx rfl (hb hby hd) rfl h) k
theorem Go.iushr {u v : Int32} (hd : decode code pc = .ok (.iushr, 1)) (hp : pc + 1 = pc') (k : Go l Z n0 R code maxL y ret D W cells slots pc' ls (.int (XT.ushr u v) :: stk) F) : Go l Z n0 R code maxL y ret D W cells slots pc ls (.int v :: .int u :: stk) F := by
  subst hp; exact Go.plain (fun p e s m args below meth c T locs hx hZ hby hown X Wd target h => XT.iushr X.here hx rfl (hb hby hd) rfl h) k
theorem Go.lushr {u : Int64} {v : Int32} (hd : decode code pc = .ok (.lushr, 1)) (hp : pc + 1 = pc') (k : Go l Z n0 R code maxL y ret D W cells slots pc' ls (.long (XT.ushrL u v) :: stk) F) : Go l Z n0 R code maxL y ret D W cells slots pc ls (.int v :: .long u :: stk) F := by
  subst hp; exact Go.plain (fun p e s m args below meth c T locs hx hZ hby hown X Wd target h => XT.lushr X.here hx rfl (hb hby hd) rfl h) k
theorem Go.lshl {u : Int64} {v : Int32} (hd : decode code pc = .ok (.lshl, 1)) (hp : pc + 1 = pc') (k : Go l Z n0 R code maxL y ret D W cells slots pc' ls (.long (u <<< (v.toInt64 &&& 63)) :: stk) F) : Go l Z n0 R code maxL y ret D W cells slots pc ls (.int v :: .long u :: stk) F := by
  subst hp; exact Go.plain (fun p e s m args below meth c T locs hx hZ hby hown X Wd target h => XT.lshl X.here hx rfl (hb hby hd) rfl h) k
theorem Go.idiv {u v : Int32} (hd : decode code pc = .ok (.idiv, 1)) (hz : v ≠ 0) (hp : pc + 1 = pc') (k : Go l Z n0 R code maxL y ret D W cells slots pc' ls (.int (u / v) :: stk) F) : Go l Z n0 R code maxL y ret D W cells slots pc ls (.int v :: .int u :: stk) F := by
  subst hp; exact Go.plain (fun p e s m args below meth c T locs hx hZ hby hown X Wd target h => XS.idiv X.here hx rfl (hb hby hd) rfl hz h) k
theorem Go.irem {u v : Int32} (hd : decode code pc = .ok (.irem, 1)) (hz : v ≠ 0) (hp : pc + 1 = pc') (k : Go l Z n0 R code maxL y ret D W cells slots pc' ls (.int (u % v) :: stk) F) : Go l Z n0 R code maxL y ret D W cells slots pc ls (.int v :: .int u :: stk) F := by
  subst hp; exact Go.plain (fun p e s m args below meth c T locs hx hZ hby hown X Wd target h => iremM X hx rfl (hb hby hd) rfl hz h) k
theorem Go.ineg {u : Int32} (hd : decode code pc = .ok (.ineg, 1)) (hp : pc + 1 = pc') (k : Go l Z n0 R code maxL y ret D W cells slots pc' ls (.int (-u) :: stk) F) : Go l Z n0 R code maxL y ret D W cells slots pc ls (.int u :: stk) F := by
  subst hp; exact Go.plain (fun p e s m args below meth c T locs hx hZ hby hown X Wd target h => XS.ineg X.here hx rfl (hb hby hd) rfl h) k
theorem Go.lcmp {u v : Int64} (hd : decode code pc = .ok (.lcmp, 1)) (hp : pc + 1 = pc') (k : Go l Z n0 R code maxL y ret D W cells slots pc' ls (.int (XT.cmpL u v) :: stk) F) : Go l Z n0 R code maxL y ret D W cells slots pc ls (.long v :: .long u :: stk) F := by
  subst hp; exact Go.plain (fun p e s m args below meth c T locs hx hZ hby hown X Wd target h => XT.lcmp X.here hx rfl (hb hby hd) rfl h) k
theorem Go.i2l {u : Int32} (hd : decode code pc = .ok (.i2l, 1)) (hp : pc + 1 = pc') (k : Go l Z n0 R code maxL y ret D W cells slots pc' ls (.long u.toInt64 :: stk) F) : Go l Z n0 R code maxL y ret D W cells slots pc ls (.int u :: stk) F := by
  subst hp; exact Go.plain (fun p e s m args below meth c T locs hx hZ hby hown X Wd target h => XT.i2l X.here hx rfl (hb hby hd) rfl h) k
theorem Go.l2i {u : Int64} (hd : decode code pc = .ok (.l2i, 1)) (hp : pc + 1 = pc') (k : Go l Z n0 R code maxL y ret D W cells slots pc' ls (.int u.toInt32 :: stk) F) : Go l Z n0 R code maxL y ret D W cells slots pc ls (.long u :: stk) F := by
  subst hp; exact Go.plain (fun p e s m args below meth c T locs hx hZ hby hown X Wd target h => XT.l2i X.here hx rfl (hb hby hd) rfl h) k
theorem Go.i2c {u : Int32} (hd : decode code pc = .ok (.i2c, 1)) (hp : pc + 1 = pc') (k : Go l Z n0 R code maxL y ret D W cells slots pc' ls (.int u.toUInt32.toUInt16.toUInt32.toInt32 :: stk) F) : Go l Z n0 R code maxL y ret D W cells slots pc ls (.int u :: stk) F := by
  subst hp; exact Go.plain (fun p e s m args below meth c T locs hx hZ hby hown X Wd target h => XT.i2c X.here hx rfl (hb hby hd) rfl h) k
theorem Go.i2b {u : Int32} (hd : decode code pc = .ok (.i2b, 1)) (hp : pc + 1 = pc') (k : Go l Z n0 R code maxL y ret D W cells slots pc' ls (.int u.toInt8.toInt32 :: stk) F) : Go l Z n0 R code maxL y ret D W cells slots pc ls (.int u :: stk) F := by
  subst hp; exact Go.plain (fun p e s m args below meth c T locs hx hZ hby hown X Wd target h => XT.i2b X.here hx rfl (hb hby hd) rfl h) k
theorem Go.dup {u : Value} (hd : decode code pc = .ok (.dup, 1)) (hc : u.category = 1) (hp : pc + 1 = pc') (k : Go l Z n0 R code maxL y ret D W cells slots pc' ls (u :: u :: stk) F) : Go l Z n0 R code maxL y ret D W cells slots pc ls (u :: stk) F := by
  subst hp; exact Go.plain (fun p e s m args below meth c T locs hx hZ hby hown X Wd target h => XS.dup X.here hx rfl (hb hby hd) rfl hc h) k
theorem Go.pop {u : Value} (hd : decode code pc = .ok (.pop, 1)) (hc : u.category = 1) (hp : pc + 1 = pc') (k : Go l Z n0 R code maxL y ret D W cells slots pc' ls stk F) : Go l Z n0 R code maxL y ret D W cells slots pc ls (u :: stk) F := by
  subst hp; exact Go.plain (fun p e s m args below meth c T locs hx hZ hby hown X Wd target h => XT.pop X.here hx rfl (hb hby hd) rfl hc h) k
theorem Go.dupX1 {u v : Value} (hd : decode code pc = .ok (.dup_x1, 1)) (hc : u.category = 1) (hc' : v.category = 1) (hp : pc + 1 = pc') (k : Go l Z n0 R code maxL y ret D W cells slots pc' ls (u :: v :: u :: stk) F) : Go l Z n0 R code maxL y ret D W cells slots pc ls (u :: v :: stk) F := by
  subst hp; exact Go.plain (fun p e s m args below meth c T locs hx hZ hby hown X Wd target h => XT.dupX1 X.here hx rfl (hb hby hd) rfl hc hc' h) k
theorem Go.dup2 {u v : Value} (hd : decode code pc = .ok (.dup2, 1)) (hc : u.category = 1) (hc' : v.category = 1) (hp : pc + 1 = pc') (k : Go l Z n0 R code maxL y ret D W cells slots pc' ls (u :: v :: u :: v :: stk) F) : Go l Z n0 R code maxL y ret D W cells slots pc ls (u :: v :: stk) F := by
  subst hp; exact Go.plain (fun p e s m args below meth c T locs hx hZ hby hown X Wd target h => XT.dup2 X.here hx rfl (hb hby hd) rfl hc hc' h) k
theorem Go.iinc {k : Nat} {i : Int} {x z : Int32} (hd : decode code pc = .ok (.iinc k i, 3)) (hl : ls[k]? = some (.val (.int x))) (hi : Int32.ofInt i = z) (hl' : storeLocals ls k (.int (x + z)) = some ls') (hp : pc + 3 = pc') (k : Go l Z n0 R code maxL y ret D W cells slots pc' ls' stk F) : Go l Z n0 R code maxL y ret D W cells slots pc ls stk F := by
  subst hp hi; exact Go.plain (fun p e s m args below meth c T locs hx hZ hby hown X Wd target h => XS.iinc X.here hx rfl (hb hby hd) hl hl' h) k
theorem Go.goto {o : Int} (hd : decode code pc = .ok (.goto o, 3)) (ho : 0 ≤ (pc : Int) + o) (hp : ((pc : Int) + o).toNat = pc') (k : Go l Z n0 R code maxL y ret D W cells slots pc' ls stk F) : Go l Z n0 R code maxL y ret D W cells slots pc ls stk F :=
  Go.plain (fun p e s m args below meth c T locs hx hZ hby hown X Wd target h => XS.goto X.here hx rfl rfl (hb hby hd) ho hp h) k
theorem Go.if_lt {o : Int} {u : Int32} {pcY pcN : Nat} (hd : decode code pc = .ok (.ifCond .lt o, 3)) (ho : 0 ≤ (pc : Int) + o) (hp : ((pc : Int) + o).toNat = pcY) (hq : pc + 3 = pcN) (ky : u < (0 : Int32) → Go l Z n0 R code maxL y ret D W cells slots pcY ls stk F) (kn : ¬ u < (0 : Int32) → Go l Z n0 R code maxL y ret D W cells slots pcN ls stk F) : Go l Z n0 R code maxL y ret D W cells slots pc ls (.int u :: stk) F := by
  subst hq
  by_cases q : u < (0 : Int32)
  · exact Go.plain (fun p e s m args below meth c T locs hx hZ hby hown X Wd target h => XS.ifYes X.here hx rfl rfl (hb hby hd) rfl ((if0 _ _).trans (tlt q).1) ho hp h) (ky q)
  · exact Go.plain (fun p e s m args below meth c T locs hx hZ hby hown X Wd target h => XS.ifNo X.here hx rfl (hb hby hd) rfl ((if0 _ _).trans (flt q).1) h) (kn q)
theorem Go.icmp_lt {o : Int} {u v : Int32} {pcY pcN : Nat} (hd : decode code pc = .ok (.if_icmp .lt o, 3)) (ho : 0 ≤ (pc : Int) + o) (hp : ((pc : Int) + o).toNat = pcY) (hq : pc + 3 = pcN) (ky : u < v → Go l Z n0 R code maxL y ret D W cells slots pcY ls stk F) (kn : ¬ u < v → Go l Z n0 R code maxL y ret D W cells slots pcN ls stk F) : Go l Z n0 R code maxL y ret D W cells slots pc ls (.int v :: .int u :: stk) F := by
  subst hq
  by_cases q : u < v
  · exact Go.plain (fun p e s m args below meth c T locs hx hZ hby hown X Wd target h => XS.icmpYes X.here hx rfl rfl (hb hby hd) rfl (tlt q).1 ho hp h) (ky q)
  · exact Go.plain (fun p e s m args below meth c T locs hx hZ hby hown X Wd target h => XS.icmpNo X.here hx rfl (hb hby hd) rfl (flt q).1 h) (kn q)
theorem Go.if_ge {o : Int} {u : Int32} {pcY pcN : Nat} (hd : decode code pc = .ok (.ifCond .ge o, 3)) (ho : 0 ≤ (pc : Int) + o) (hp : ((pc : Int) + o).toNat = pcY) (hq : pc + 3 = pcN) (ky : ¬ u < (0 : Int32) → Go l Z n0 R code maxL y ret D W cells slots pcY ls stk F) (kn : u < (0 : Int32) → Go l Z n0 R code maxL y ret D W cells slots pcN ls stk F) : Go l Z n0 R code maxL y ret D W cells slots pc ls (.int u :: stk) F := by
  subst hq
  by_cases q : u < (0 : Int32)
  · exact Go.plain (fun p e s m args below meth c T locs hx hZ hby hown X Wd target h => XS.ifNo X.here hx rfl (hb hby hd) rfl ((if0 _ _).trans (tlt q).2.1) h) (kn q)
  · exact Go.plain (fun p e s m args below meth c T locs hx hZ hby hown X Wd target h => XS.ifYes X.here hx rfl rfl (hb hby hd) rfl ((if0 _ _).trans (flt q).2.1) ho hp h) (ky q)
theorem Go.icmp_ge {o : Int} {u v : Int32} {pcY pcN : Nat} (hd : decode code pc = .ok (.if_icmp .ge o, 3)) (ho : 0 ≤ (pc : Int) + o) (hp : ((pc : Int) + o).toNat = pcY) (hq : pc + 3 = pcN) (ky : ¬ u < v → Go l Z n0 R code maxL y ret D W cells slots pcY ls stk F) (kn : u < v → Go l Z n0 R code maxL y ret D W cells slots pcN ls stk F) : Go l Z n0 R code maxL y ret D W cells slots pc ls (.int v :: .int u :: stk) F := by
  subst hq
  by_cases q : u < v
  · exact Go.plain (fun p e s m args below meth c T locs hx hZ hby hown X Wd target h => XS.icmpNo X.here hx rfl (hb hby hd) rfl (tlt q).2.1 h) (kn q)
  · exact Go.plain (fun p e s m args below meth c T locs hx hZ hby hown X Wd target h => XS.icmpYes X.here hx rfl rfl (hb hby hd) rfl (flt q).2.1 ho hp h) (ky q)
theorem Go.if_gt {o : Int} {u : Int32} {pcY pcN : Nat} (hd : decode code pc = .ok (.ifCond .gt o, 3)) (ho : 0 ≤ (pc : Int) + o) (hp : ((pc : Int) + o).toNat = pcY) (hq : pc + 3 = pcN) (ky : (0 : Int32) < u → Go l Z n0 R code maxL y ret D W cells slots pcY ls stk F) (kn : ¬ (0 : Int32) < u → Go l Z n0 R code maxL y ret D W cells slots pcN ls stk F) : Go l Z n0 R code maxL y ret D W cells slots pc ls (.int u :: stk) F := by
  subst hq
  by_cases q : (0 : Int32) < u
  · exact Go.plain (fun p e s m args below meth c T locs hx hZ hby hown X Wd target h => XS.ifYes X.here hx rfl rfl (hb hby hd) rfl ((if0 _ _).trans (tlt q).2.2.1) ho hp h) (ky q)
  · exact Go.plain (fun p e s m args below meth c T locs hx hZ hby hown X Wd target h => XS.ifNo X.here hx rfl (hb hby hd) rfl ((if0 _ _).trans (flt q).2.2.1) h) (kn q)
theorem Go.icmp_gt {o : Int} {u v : Int32} {pcY pcN : Nat} (hd : decode code pc = .ok (.if_icmp .gt o, 3)) (ho : 0 ≤ (pc : Int) + o) (hp : ((pc : Int) + o).toNat = pcY) (hq : pc + 3 = pcN) (ky : v < u → Go l Z n0 R code maxL y ret D W cells slots pcY ls stk F) (kn : ¬ v < u → Go l Z n0 R code maxL y ret D W cells slots pcN ls stk F) : Go l Z n0 R code maxL y ret D W cells slots pc ls (.int v :: .int u :: stk) F := by
  subst hq
  by_cases q : v < u
  · exact Go.plain (fun p e s m args below meth c T locs hx hZ hby hown X Wd target h => XS.icmpYes X.here hx rfl rfl (hb hby hd) rfl (tlt q).2.2.1 ho hp h) (ky q)
  · exact Go.plain (fun p e s m args below meth c T locs hx hZ hby hown X Wd target h => XS.icmpNo X.here hx rfl (hb hby hd) rfl (flt q).2.2.1 h) (kn q)
theorem Go.if_le {o : Int} {u : Int32} {pcY pcN : Nat} (hd : decode code pc = .ok (.ifCond .le o, 3)) (ho : 0 ≤ (pc : Int) + o) (hp : ((pc : Int) + o).toNat = pcY) (hq : pc + 3 = pcN) (ky : ¬ (0 : Int32) < u → Go l Z n0 R code maxL y ret D W cells slots pcY ls stk F) (kn : (0 : Int32) < u → Go l Z n0 R code maxL y ret D W cells slots pcN ls stk F) : Go l Z n0 R code maxL y ret D W cells slots pc ls (.int u :: stk) F := by
  subst hq
  by_cases q : (0 : Int32) < u
  · exact Go.plain (fun p e s m args below meth c T locs hx hZ hby hown X Wd target h => XS.ifNo X.here hx rfl (hb hby hd) rfl ((if0 _ _).trans (tlt q).2.2.2) h) (kn q)
  · exact Go.plain (fun p e s m args below meth c T locs hx hZ hby hown X Wd target h => XS.ifYes X.here hx rfl rfl (hb hby hd) rfl ((if0 _ _).trans (flt q).2.2.2) ho hp h) (ky q)
theorem Go.icmp_le {o : Int} {u v : Int32} {pcY pcN : Nat} (hd : decode code pc = .ok (.if_icmp .le o, 3)) (ho : 0 ≤ (pc : Int) + o) (hp : ((pc : Int) + o).toNat = pcY) (hq : pc + 3 = pcN) (ky : ¬ v < u → Go l Z n0 R code maxL y ret D W cells slots pcY ls stk F) (kn : v < u → Go l Z n0 R code maxL y ret D W cells slots pcN ls stk F) : Go l Z n0 R code maxL y ret D W cells slots pc ls (.int v :: .int u :: stk) F := by
  subst hq
  by_cases q : v < u
  · exact Go.plain (fun p e s m args below meth c T locs hx hZ hby hown X Wd target h => XS.icmpNo X.here hx rfl (hb hby hd) rfl (tlt q).2.2.2 h) (kn q)
  · exact Go.plain (fun p e s m args below meth c T locs hx hZ hby hown X Wd target h => XS.icmpYes X.here hx rfl rfl (hb hby hd) rfl (flt q).2.2.2 ho hp h) (ky q)
theorem Go.if_eq {o : Int} {u : Int32} {pcY pcN : Nat} (hd : decode code pc = .ok (.ifCond .eq o, 3)) (ho : 0 ≤ (pc : Int) + o) (hp : ((pc : Int) + o).toNat = pcY) (hq : pc + 3 = pcN) (ky : u = (0 : Int32) → Go l Z n0 R code maxL y ret D W cells slots pcY ls stk F) (kn : ¬ u = (0 : Int32) → Go l Z n0 R code maxL y ret D W cells slots pcN ls stk F) : Go l Z n0 R code maxL y ret D W cells slots pc ls (.int u :: stk) F := by
  subst hq
  by_cases q : u = (0 : Int32)
  · exact Go.plain (fun p e s m args below meth c T locs hx hZ hby hown X Wd target h => XS.ifYes X.here hx rfl rfl (hb hby hd) rfl ((if0 _ _).trans (teq q).1) ho hp h) (ky q)
  · exact Go.plain (fun p e s m args below meth c T locs hx hZ hby hown X Wd target h => XS.ifNo X.here hx rfl (hb hby hd) rfl ((if0 _ _).trans (feq q).1) h) (kn q)
theorem Go.icmp_eq {o : Int} {u v : Int32} {pcY pcN : Nat} (hd : decode code pc = .ok (.if_icmp .eq o, 3)) (ho : 0 ≤ (pc : Int) + o) (hp : ((pc : Int) + o).toNat = pcY) (hq : pc + 3 = pcN) (ky : u = v → Go l Z n0 R code maxL y ret D W cells slots pcY ls stk F) (kn : ¬ u = v → Go l Z n0 R code maxL y ret D W cells slots pcN ls stk F) : Go l Z n0 R code maxL y ret D W cells slots pc ls (.int v :: .int u :: stk) F := by
  subst hq
  by_cases q : u = v
  · exact Go.plain (fun p e s m args below meth c T locs hx hZ hby hown X Wd target h => XS.icmpYes X.here hx rfl rfl (hb hby hd) rfl (teq q).1 ho hp h) (ky q)
  · exact Go.plain (fun p e s m args below meth c T locs hx hZ hby hown X Wd target h => XS.icmpNo X.here hx rfl (hb hby hd) rfl (feq q).1 h) (kn q)
theorem Go.if_ne {o : Int} {u : Int32} {pcY pcN : Nat} (hd : decode code pc = .ok (.ifCond .ne o, 3)) (ho : 0 ≤ (pc : Int) + o) (hp : ((pc : Int) + o).toNat = pcY) (hq : pc + 3 = pcN) (ky : ¬ u = (0 : Int32) → Go l Z n0 R code maxL y ret D W cells slots pcY ls stk F) (kn : u = (0 : Int32) → Go l Z n0 R code maxL y ret D W cells slots pcN ls stk F) : Go l Z n0 R code maxL y ret D W cells slots pc ls (.int u :: stk) F := by
  subst hq
  by_cases q : u = (0 : Int32)
  · exact Go.plain (fun p e s m args below meth c T locs hx hZ hby hown X Wd target h => XS.ifNo X.here hx rfl (hb hby hd) rfl ((if0 _ _).trans (teq q).2) h) (kn q)
  · exact Go.plain (fun p e s m args below meth c T locs hx hZ hby hown X Wd target h => XS.ifYes X.here hx rfl rfl (hb hby hd) rfl ((if0 _ _).trans (feq q).2) ho hp h) (ky q)
theorem Go.icmp_ne {o : Int} {u v : Int32} {pcY pcN : Nat} (hd : decode code pc = .ok (.if_icmp .ne o, 3)) (ho : 0 ≤ (pc : Int) + o) (hp : ((pc : Int) + o).toNat = pcY) (hq : pc + 3 = pcN) (ky : ¬ u = v → Go l Z n0 R code maxL y ret D W cells slots pcY ls stk F) (kn : u = v → Go l Z n0 R code maxL y ret D W cells slots pcN ls stk F) : Go l Z n0 R code maxL y ret D W cells slots pc ls (.int v :: .int u :: stk) F := by
  subst hq
  by_cases q : u = v
  · exact Go.plain (fun p e s m args below meth c T locs hx hZ hby hown X Wd target h => XS.icmpNo X.here hx rfl (hb hby hd) rfl (teq q).2 h) (kn q)
  · exact Go.plain (fun p e s m args below meth c T locs hx hZ hby hown X Wd target h => XS.icmpYes X.here hx rfl rfl (hb hby hd) rfl (feq q).2 ho hp h) (ky q)
theorem Go.ifnullY {o : Int} (hd : decode code pc = .ok (.ifnull o, 3)) (ho : 0 ≤ (pc : Int) + o) (hp : ((pc : Int) + o).toNat = pc') (k : Go l Z n0 R code maxL y ret D W cells slots pc' ls stk F) : Go l Z n0 R code maxL y ret D W cells slots pc ls (.null :: stk) F :=
  Go.plain (fun p e s m args below meth c T locs hx hZ hby hown X Wd target h => XS.ifnullYes X.here hx rfl rfl (hb hby hd) rfl ho hp h) k
theorem Go.ifnullN {o : Int} {a : Addr} (hd : decode code pc = .ok (.ifnull o, 3)) (hp : pc + 3 = pc') (k : Go l Z n0 R code maxL y ret D W cells slots pc' ls stk F) : Go l Z n0 R code maxL y ret D W cells slots pc ls (.ref a :: stk) F := by
  subst hp; exact Go.plain (fun p e s m args below meth c T locs hx hZ hby hown X Wd target h => XS.ifnullNo X.here hx rfl (hb hby hd) rfl h) k
theorem Go.ifnonnullY {o : Int} {a : Addr} (hd : decode code pc = .ok (.ifnonnull o, 3)) (ho : 0 ≤ (pc : Int) + o) (hp : ((pc : Int) + o).toNat = pc') (k : Go l Z n0 R code maxL y ret D W cells slots pc' ls stk F) : Go l Z n0 R code maxL y ret D W cells slots pc ls (.ref a :: stk) F :=
  Go.plain (fun p e s m args below meth c T locs hx hZ hby hown X Wd target h => XT.ifnonnullYes X.here hx rfl rfl (hb hby hd) rfl ho hp h) k
theorem Go.ifnonnullN {o : Int} (hd : decode code pc = .ok (.ifnonnull o, 3)) (hp : pc + 3 = pc') (k : Go l Z n0 R code maxL y ret D W cells slots pc' ls stk F) : Go l Z n0 R code maxL y ret D W cells slots pc ls (.null :: stk) F := by
  subst hp; exact Go.plain (fun p e s m args below meth c T locs hx hZ hby hown X Wd target h => XT.ifnonnullNo X.here hx rfl (hb hby hd) rfl h) k
theorem Go.ldcI {idx : Nat} {v : Int32} (hd : decode code pc = .ok (.ldc idx, 2)) (w : (Jvm.Cond.constant y.cls idx v).before a0 Z = true) (hp : pc + 2 = pc') (k : Go l Z n0 R code maxL y ret D W cells slots pc' ls (.int v :: stk) F) : Go l Z n0 R code maxL y ret D W cells slots pc ls stk F := by
  subst hp; exact Go.plain (fun p e s m args below meth c T locs hx hZ hby hown X Wd target h => X.ldcInt hx hown (mvT hZ w) (g := mkF m pc ls stk) rfl (hb hby hd) target h) k
theorem Go.ldcL {idx : Nat} {v : Int64} (hd : decode code pc = .ok (.ldc2_w idx, 3)) (w : (Jvm.Cond.constantLong y.cls idx v).before a0 Z = true) (hp : pc + 3 = pc') (k : Go l Z n0 R code maxL y ret D W cells slots pc' ls (.long v :: stk) F) : Go l Z n0 R code maxL y ret D W cells slots pc ls stk F := by
  subst hp; exact Go.plain (fun p e s m args below meth c T locs hx hZ hby hown X Wd target h => X.ldc2Long hx hown (mvT hZ w) (g := mkF m pc ls stk) rfl (hb hby hd) target h) k
theorem Go.getF {idx i j : Nat} {C n t host : String} {a : Addr} {fs : List (String × String × Value)} {v : Value} (hd : decode code pc = .ok (.getfield idx, 3)) (w : (Jvm.Cond.fieldLink y.cls idx C n t).before a0 Z = true ∨ (Jvm.Cond.fieldLinkNest y.cls idx C n t host).before a0 Z = true) (hi : W[i]? = some (a, .inl (C, fs))) (hj : fs[j]? = some (n, t, v)) (hp : pc + 3 = pc')
    (k : Go l Z n0 R code maxL y ret D W cells slots pc' ls (v :: stk) F) : Go l Z n0 R code maxL y ret D W cells slots pc ls (.ref a :: stk) F := by
  subst hp
  obtain ⟨p, e, s, m, args, below, meth, c⟩ := D
  intro hx hZ hby hml hown hnm hret hlk T locs X N Wd
  obtain ⟨T', X', e', st⟩ := getF X hx hZ hown w Via.refl rfl ((Wd.get hi).2.2.1 _ (List.mem_of_getElem? hj)) (g := mkF m pc ls (.ref a :: stk)) rfl rfl (hb hby hd)
  obtain ⟨s₂, o, h1, h2⟩ := k hx hZ hby hml hown hnm hret hlk T' locs X' N (e' ▸ Wd)
  exact ⟨s₂, o, st _ h1, h2⟩
theorem own_in {j : Int32} {k n : Nat} (hj : ¬ j < 0) (hk : j.toNatClampNeg < n) (e : k = n) : ¬ (j < 0 ∨ k ≤ j.toNatClampNeg) := by
  rintro (q | q)
  · exact hj q
  · omega
theorem Go.initO {idx W1 : Nat} {a : Addr} (hd : decode code pc = .ok (.invokespecial idx, 3)) (w1 : (Jvm.Cond.methodLink y.cls idx Lib.objectInit).before a0 Z = true) (w2 : (Jvm.Cond.instanceMethod Lib.objectInit).before a0 Z = true) (w3 : (Jvm.Cond.code Lib.objectInit ⟨#[0xb1]⟩ 1 none).before a0 Z = true) (hsz : ls.size = maxL) (hf : 1 ≤ R.frames) (hW1 : (stk.map fun v => v.category).sum ≤ W1) (hl : W1 + 12 ≤ R.locals) (hp : pc + 3 = pc')
    (k : Go l Z n0 R code maxL y ret D W cells slots pc' ls stk F) : Go l Z n0 R code maxL y ret D W cells slots pc ls (.ref a :: stk) F := by
  subst hp
  obtain ⟨p, e, s, m, args, below, meth, c⟩ := D
  intro hx hZ hby hml hown hnm hret hlk T locs X N Wd
  obtain ⟨T', X', e', st⟩ := initO X hx hZ hown w1 w2 w3 rfl (g := mkF m pc ls (.ref a :: stk)) rfl (hsz.trans hml.symm) rfl (hb hby hd) hf (W := W1) (by show 2 * 0 + _ ≤ _; omega) hl
  obtain ⟨s₂, o, h1, h2⟩ := k hx hZ hby hml hown hnm hret hlk T' _ X' N (e' ▸ Wd)
  exact ⟨s₂, o, st _ h1, h2⟩
/-! calls by contract -/
theorem Go.callS {idx W1 cells' slots' maxL' : Nat} {y' : MethodName} {bytes' : ByteArray} {ret' : Option FieldType} {rm : Room} {argsL rest : List Value} {F' : Option Value → Wld → Prop} (hd : decode code pc = .ok (.invokestatic idx, 3)) (w1 : (Jvm.Cond.methodLink y.cls idx y').before a0 Z = true) (w2 : (Jvm.Cond.static y').before a0 Z = true) (w3 : (Jvm.Cond.initialized y'.cls).before a0 Z = true) (w4 : (Jvm.Cond.code y' bytes' maxL' ret').before a0 Z = true)
    (hy : y'.cls ≠ "java/lang/invoke/MethodHandle" ∧ y'.cls ≠ "java/lang/invoke/VarHandle") (M : Meets l Z n0 y' bytes' maxL' ret' rm [] argsL.toArray W F') (hfr : rm.frames + 1 ≤ R.frames) (hlo : W1 + (maxL' + 11) + rm.locals ≤ R.locals) (hsz : ls.size = maxL) (hlen : ∀ sig, parseMethodDescriptor y'.desc = some sig → argsL.length = sig.parameters.length) (hst : stk = argsL.reverse ++ rest) (hW1 : (rest.map fun v => v.category).sum ≤ W1)
    (hcells : cells + rm.cells ≤ R.cells) (hslots : slots + rm.slots ≤ R.slots) (ec : cells + rm.cells = cells') (es : slots + rm.slots = slots') (hp : pc + 3 = pc') (k : ∀ v W', F' v W' → Go l Z n0 R code maxL y ret D W' cells' slots' pc' ls (v.toList ++ rest) F) : Go l Z n0 R code maxL y ret D W cells slots pc ls stk F := by
  subst hp ec es
  obtain ⟨p, e, s, m, args, below, meth, c⟩ := D
  intro hx hZ hby hml hown hnm hret hlk T locs X N Wd
  obtain ⟨v, _, ⟨T', L', k', n'⟩, -, X', ⟨Lc, ⟨hFr, W', hWd, hF⟩, l1, y1, z1⟩, st⟩ := Jvm.LawKit.callS X hx hown (mvT hZ w1) (mvT hZ w2) (mvT hZ w3) (mvT hZ w4) hy (backOf (W := W1) (h := T.heap) (Q := fun v h L => Fr n0 L ∧ ∃ W', World Z n0 h W' ∧ F' v W') (M T.heap Wd) hZ w4 w3 hfr hlo) (g := mkF m pc ls stk) rfl (hsz.trans hml.symm) hlen hst (by show 2 * 0 + _ ≤ _; omega) (hb hby hd) (fun _ _ => ⟨rfl, rfl, hcells, hslots⟩)
  dsimp only [Pt.U, Pt.locs, Pt.cells, Pt.slots] at X' l1 y1 z1 st hWd
  subst l1 y1 z1
  obtain ⟨s₂, o, h1, h2⟩ := k v W' hF hx hZ hby hml hown hnm hret hlk T' _ X' (Fr.app N hFr) hWd
  exact ⟨s₂, o, st _ h1, h2⟩
theorem Go.callI {idx W1 cells' slots' maxL' : Nat} {y' : MethodName} {bytes' : ByteArray} {rm : Room} {a : Addr} {argsL rest : List Value} {F' : Option Value → Wld → Prop} (hd : decode code pc = .ok (.invokespecial idx, 3)) (hy1 : y'.name = "<init>") (w1 : (Jvm.Cond.methodLink y.cls idx y').before a0 Z = true) (w2 : (Jvm.Cond.instanceMethod y').before a0 Z = true) (w3 : (Jvm.Cond.initialized y'.cls).before a0 Z = true) (w4 : (Jvm.Cond.code y' bytes' maxL' none).before a0 Z = true)
    (hy : y'.cls ≠ "java/lang/invoke/MethodHandle" ∧ y'.cls ≠ "java/lang/invoke/VarHandle") (M : Meets l Z n0 y' bytes' maxL' none rm [] (.ref a :: argsL).toArray W F') (hfr : rm.frames + 1 ≤ R.frames) (hlo : W1 + (maxL' + 11) + rm.locals ≤ R.locals) (hsz : ls.size = maxL) (hlen : ∀ sig, parseMethodDescriptor y'.desc = some sig → argsL.length = sig.parameters.length) (hst : stk = argsL.reverse ++ .ref a :: rest) (hW1 : (rest.map fun v => v.category).sum ≤ W1)
    (hcells : cells + rm.cells ≤ R.cells) (hslots : slots + rm.slots ≤ R.slots) (ec : cells + rm.cells = cells') (es : slots + rm.slots = slots') (hp : pc + 3 = pc') (k : ∀ v W', F' v W' → Go l Z n0 R code maxL y ret D W' cells' slots' pc' ls (v.toList ++ rest) F) : Go l Z n0 R code maxL y ret D W cells slots pc ls stk F := by
  subst hp ec es
  obtain ⟨p, e, s, m, args, below, meth, c⟩ := D
  intro hx hZ hby hml hown hnm hret hlk T locs X N Wd
  obtain ⟨v, _, ⟨T', L', k', n'⟩, -, X', ⟨Lc, ⟨hFr, W', hWd, hF⟩, l1, y1, z1⟩, st⟩ := X.specialBack hx hy1 hown (mvT hZ w1) (mvT hZ w2) (mvT hZ w4) hy (backOf (W := W1) (h := T.heap) (Q := fun v h L => Fr n0 L ∧ ∃ W', World Z n0 h W' ∧ F' v W') (M T.heap Wd) hZ w4 w3 hfr hlo) (g := mkF m pc ls stk) rfl (hsz.trans hml.symm) (Steps.refl _) hlen hst (by show 2 * 0 + _ ≤ _; omega) (hb hby hd) (fun _ _ => ⟨rfl, rfl, hcells, hslots⟩)
  dsimp only [Pt.U, Pt.locs, Pt.cells, Pt.slots] at X' l1 y1 z1 st hWd
  subst l1 y1 z1
  obtain ⟨s₂, o, h1, h2⟩ := k v W' hF hx hZ hby hml hown hnm hret hlk T' _ X' (Fr.app N hFr) hWd
  exact ⟨s₂, o, st.trans h1, h2⟩
theorem Go.callV {idx W1 cells' slots' maxL' i : Nat} {C : String} {fs : List (String × String × Value)} {y' : MethodName} {bytes' : ByteArray} {ret' : Option FieldType} {rm : Room} {a : Addr} {argsL rest : List Value} {F' : Option Value → Wld → Prop} (hd : decode code pc = .ok (.invokevirtual idx, 3)) (w1 : (Jvm.Cond.methodLink y.cls idx y').before a0 Z = true) (w2 : (Jvm.Cond.declares y').before a0 Z = true) (w3 : (Jvm.Cond.selects C y' y').before a0 Z = true) (w4 : (Jvm.Cond.instanceMethod y').before a0 Z = true) (w5 : (Jvm.Cond.initialized y'.cls).before a0 Z = true) (w6 : (Jvm.Cond.code y' bytes' maxL' ret').before a0 Z = true)
    (hy : y'.cls ≠ "java/lang/invoke/MethodHandle" ∧ y'.cls ≠ "java/lang/invoke/VarHandle") (hi : W[i]? = some (a, .inl (C, fs))) (M : Meets l Z n0 y' bytes' maxL' ret' rm [] (.ref a :: argsL).toArray W F') (hfr : rm.frames + 1 ≤ R.frames) (hlo : W1 + (maxL' + 11) + rm.locals ≤ R.locals) (hsz : ls.size = maxL) (hlen : ∀ sig, parseMethodDescriptor y'.desc = some sig → argsL.length = sig.parameters.length) (hst : stk = argsL.reverse ++ .ref a :: rest) (hW1 : (rest.map fun v => v.category).sum ≤ W1)
    (hcells : cells + rm.cells ≤ R.cells) (hslots : slots + rm.slots ≤ R.slots) (ec : cells + rm.cells = cells') (es : slots + rm.slots = slots') (hp : pc + 3 = pc') (k : ∀ v W', F' v W' → Go l Z n0 R code maxL y ret D W' cells' slots' pc' ls (v.toList ++ rest) F) : Go l Z n0 R code maxL y ret D W cells slots pc ls stk F := by
  subst hp ec es
  obtain ⟨p, e, s, m, args, below, meth, c⟩ := D
  intro hx hZ hby hml hown hnm hret hlk T locs X N Wd
  obtain ⟨cq, kq, qa, qb, qc⟩ := isOf (T := T) hZ rfl (Wd.get hi).2.1
  obtain ⟨v, _, ⟨T', L', k', n'⟩, -, X', ⟨Lc, ⟨hFr, W', hWd, hF⟩, l1, y1, z1⟩, st⟩ := X.virtualBack hx (y := y') (z := y') hown (mvT hZ w1) (mvT hZ w2) (notFace_of_selects (args := #[]) (mvT hZ w3)) (mvT hZ w3) (mvT hZ w4) hy (backOf (W := W1) (h := T.heap) (Q := fun v h L => Fr n0 L ∧ ∃ W', World Z n0 h W' ∧ F' v W') (M T.heap Wd) hZ w6 w5 hfr hlo) qa qc (g := mkF m pc ls stk) rfl (hsz.trans hml.symm) (Steps.refl _) hlen hst (by show 2 * 0 + _ ≤ _; omega) (hb hby hd) (fun _ _ => ⟨rfl, rfl, hcells, hslots⟩)
  dsimp only [Pt.U, Pt.locs, Pt.cells, Pt.slots] at X' l1 y1 z1 st hWd
  subst l1 y1 z1
  obtain ⟨s₂, o, h1, h2⟩ := k v W' hF hx hZ hby hml hown hnm hret hlk T' _ X' (Fr.app N hFr) hWd
  exact ⟨s₂, o, st.trans h1, h2⟩
theorem Go.callP {idx W1 cells' slots' maxL' i kk : Nat} {fs : List (String × String × Value)} {y' : MethodName} {bytes' : ByteArray} {ret' : Option FieldType} {rm : Room} {a : Addr} {argsL rest : List Value} {F' : Option Value → Wld → Prop} (hd : decode code pc = .ok (.invokevirtual idx, 3)) (w1 : (Jvm.Cond.methodLink y.cls idx y').before a0 Z = true) (w2 : (Jvm.Cond.instanceMethod y').before a0 Z = true) (w3 : (Jvm.Cond.privateMethod y').before a0 Z = true) (w4 : (Jvm.Cond.instantiable y'.cls kk).before a0 Z = true) (w5 : (Jvm.Cond.initialized y'.cls).before a0 Z = true) (w6 : (Jvm.Cond.code y' bytes' maxL' ret').before a0 Z = true)
    (hy : y'.cls ≠ "java/lang/invoke/MethodHandle" ∧ y'.cls ≠ "java/lang/invoke/VarHandle") (hi : W[i]? = some (a, .inl (y'.cls, fs))) (M : Meets l Z n0 y' bytes' maxL' ret' rm [] (.ref a :: argsL).toArray W F') (hfr : rm.frames + 1 ≤ R.frames) (hlo : W1 + (maxL' + 11) + rm.locals ≤ R.locals) (hsz : ls.size = maxL) (hlen : ∀ sig, parseMethodDescriptor y'.desc = some sig → argsL.length = sig.parameters.length) (hst : stk = argsL.reverse ++ .ref a :: rest) (hW1 : (rest.map fun v => v.category).sum ≤ W1)
    (hcells : cells + rm.cells ≤ R.cells) (hslots : slots + rm.slots ≤ R.slots) (ec : cells + rm.cells = cells') (es : slots + rm.slots = slots') (hp : pc + 3 = pc') (k : ∀ v W', F' v W' → Go l Z n0 R code maxL y ret D W' cells' slots' pc' ls (v.toList ++ rest) F) : Go l Z n0 R code maxL y ret D W cells slots pc ls stk F := by
  subst hp ec es
  obtain ⟨p, e, s, m, args, below, meth, c⟩ := D
  intro hx hZ hby hml hown hnm hret hlk T locs X N Wd
  obtain ⟨cl, q1, q2⟩ := (Wd.get hi).2.1.cell
  have hpr : s.PrivateAt y' := Cond.privateMethod_at (mvP hZ w3 (args := #[]))
  obtain ⟨cB, kB, b1, b2, b3, b4⟩ := Cond.instantiable_spec (mv (args := args) hZ w4)
  obtain ⟨v, _, ⟨T', L', k', n'⟩, -, X', ⟨Lc, ⟨hFr, W', hWd, hF⟩, l1, y1, z1⟩, st⟩ := X.privateBack hx (y := y') hown (mvT hZ w1) (mvT hZ w2) (selects_self_of_private b1 b2 (Bool.or_eq_false_iff.mp b4.1).1 hpr (mvT hZ w2) hy) hpr (mvT hZ w6) hy (backOf (W := W1) (h := T.heap) (Q := fun v h L => Fr n0 L ∧ ∃ W', World Z n0 h W' ∧ F' v W') (M T.heap Wd) hZ w6 w5 hfr hlo) (g := mkF m pc ls stk) rfl (hsz.trans hml.symm) (Steps.refl _) (a := a) q1 q2 hlen hst (by show 2 * 0 + _ ≤ _; omega) (hb hby hd) (fun _ _ => ⟨rfl, rfl, hcells, hslots⟩)
  dsimp only [Pt.U, Pt.locs, Pt.cells, Pt.slots] at X' l1 y1 z1 st hWd
  subst l1 y1 z1
  obtain ⟨s₂, o, h1, h2⟩ := k v W' hF hx hZ hby hml hown hnm hret hlk T' _ X' (Fr.app N hFr) hWd
  exact ⟨s₂, o, st.trans h1, h2⟩
theorem Go.more {cells' slots' : Nat} (hc : cells ≤ cells') (hs : slots ≤ slots') (k : Go l Z n0 R code maxL y ret D W cells' slots' pc ls stk F) : Go l Z n0 R code maxL y ret D W cells slots pc ls stk F := by
  obtain ⟨p, e, s, m, args, below, meth, c⟩ := D
  intro hx hZ hby hml hown hnm hret hlk T locs X N Wd
  exact k hx hZ hby hml hown hnm hret hlk T locs (X.more hc hs) N Wd
/-! leaving -/
theorem Go.out {v : Option Value} (hv : ret = none → v = none) (hcells : cells ≤ R.cells) (hslots : slots ≤ R.slots) (st : ∀ (p : Program) (e : Env) (s : State) (m : MethodId) (args : Array Value) (below : List Frame) (meth : Method) (c : Code) (T : State) (locs : List Loc), p.tables.exec = Jvm.exec → c.code = code → meth.sig.returnType = ret → Stand p l e R s m args below meth c T locs cells slots → ∀ fs : List Frame,
      (∀ (f : JFrame) (acts : List Action), f.method = m → f.locked = none → f.entered = [] → (doReturn e (T.setTop f) acts v).1 = T.setFrames fs) → Steps p.tables e below (T.setTop (mkF m pc ls stk)) (T.setFrames fs)) (hF : F v W) : Go l Z n0 R code maxL y ret D W cells slots pc ls stk F := by
  obtain ⟨p, e, s, m, args, below, meth, c⟩ := D
  intro hx hZ hby hml hown hnm hret hlk T locs X N Wd
  obtain ⟨fs, hr, hrun, hended, hW, hsame⟩ := X.leave (v := v) (fun h => hv (hret ▸ h)) hlk
  exact ⟨_, _, st p e s m args below meth c T locs hx hby hret X fs hr, hrun, hended, v, locs, rfl, ⟨N, W, Wd, hF⟩, ⟨_, rfl⟩, hW, hsame.mono hcells hslots⟩
theorem Go.retV (hd : decode code pc = .ok (.return_, 1)) (hret : ret = none) (hcells : cells ≤ R.cells) (hslots : slots ≤ R.slots) (hF : F none W) : Go l Z n0 R code maxL y ret D W cells slots pc ls [] F := by
  subst hret; exact Go.out (fun _ => rfl) hcells hslots (fun p e s m args below meth c T locs hx hby hret X fs hr => X.returnOut hx hret (hb hby hd) hr) hF
theorem Go.retI {z : Int32} (hd : decode code pc = .ok (.ireturn, 1)) (hret : ret = some .int) (hcells : cells ≤ R.cells) (hslots : slots ≤ R.slots) (hF : F (some (.int z)) W) : Go l Z n0 R code maxL y ret D W cells slots pc ls (.int z :: stk) F := by
  subst hret; exact Go.out (fun h => nomatch h) hcells hslots (fun p e s m args below meth c T locs hx hby hret X fs hr => retOut X hx hret rfl (Or.inl ⟨rfl, Or.inl rfl, z, rfl⟩) (hb hby hd) hr) hF
theorem Go.retZ {z z' : Int32} (hd : decode code pc = .ok (.ireturn, 1)) (hret : ret = some .boolean) (hz : z &&& 1 = z') (hcells : cells ≤ R.cells) (hslots : slots ≤ R.slots) (hF : F (some (.int z')) W) : Go l Z n0 R code maxL y ret D W cells slots pc ls (.int z :: stk) F := by
  subst hret hz; exact Go.out (fun h => nomatch h) hcells hslots (fun p e s m args below meth c T locs hx hby hret X fs hr => retN X hx (t := .boolean) hret (Or.inl rfl) (hb hby hd) hr) hF
theorem Go.retJ {z : Int64} (hd : decode code pc = .ok (.lreturn, 1)) (hret : ret = some .long) (hcells : cells ≤ R.cells) (hslots : slots ≤ R.slots) (hF : F (some (.long z)) W) : Go l Z n0 R code maxL y ret D W cells slots pc ls (.long z :: stk) F := by
  subst hret; exact Go.out (fun h => nomatch h) hcells hslots (fun p e s m args below meth c T locs hx hby hret X fs hr => retOut X hx hret rfl (Or.inr (Or.inl ⟨rfl, rfl, z, rfl⟩)) (hb hby hd) hr) hF
theorem Go.retA {v : Value} {t : FieldType} (hd : decode code pc = .ok (.areturn, 1)) (hret : ret = some t) (ht : t.isReference = true) (hv : v.isRef = true) (hn : narrow t v = v) (hcells : cells ≤ R.cells) (hslots : slots ≤ R.slots) (hF : F (some v) W) : Go l Z n0 R code maxL y ret D W cells slots pc ls (v :: stk) F := by
  subst hret; exact Go.out (fun h => nomatch h) hcells hslots (fun p e s m args below meth c T locs hx hby hret X fs hr => retOut X hx hret hn (Or.inr (Or.inr (Or.inr (Or.inr ⟨rfl, ht, hv⟩)))) (hb hby hd) hr) hF
theorem Go.putF {idx i j kk : Nat} {C n t host : String} {a : Addr} {fs : List (String × String × Value)} {v old : Value} {ty : FieldType} {W' : Wld} (hd : decode code pc = .ok (.putfield idx, 3)) (w : (Jvm.Cond.fieldLink y.cls idx C n t).before a0 Z = true ∨ (Jvm.Cond.fieldLinkNest y.cls idx C n t host).before a0 Z = true) (L : (Jvm.Cond.lays C C n t).before a0 Z = true ∨ ((Jvm.Cond.laysFinal C C n t).before a0 Z = true ∧ y.cls = C ∧ y.name = "<init>")) (wi : (Jvm.Cond.instantiable C kk).before a0 Z = true)
    (hi : W[i]? = some (a, .inl (C, fs))) (hj : fs[j]? = some (n, t, old)) (hty : parseFieldDescriptor t = some ty) (hn : narrow ty v = v) (hf : fits ty v = true) (hW : W.set i (a, .inl (C, fs.set j (n, t, v))) = W') (hp : pc + 3 = pc')
    (k : Go l Z n0 R code maxL y ret D W' cells slots pc' ls stk F) : Go l Z n0 R code maxL y ret D W cells slots pc ls (v :: .ref a :: stk) F := by
  subst hp hW
  obtain ⟨p, e, s, m, args, below, meth, c⟩ := D
  intro hx hZ hby hml hown hnm hret hlk T locs X N Wd
  have G := Wd.get hi
  obtain ⟨T', h', X', e', K, st⟩ := putF X hx hZ hown w Via.refl rfl (G.2.2.1 _ (List.mem_of_getElem? hj)) G.2.1 (L.imp id fun q => ⟨q.1, q.2.1, hnm.trans q.2.2⟩) wi hty hn hf (g := mkF m pc ls (v :: .ref a :: stk)) rfl rfl (hb hby hd)
  obtain ⟨s₂, o, h1, h2⟩ := k hx hZ hby hml hown hnm hret hlk T' _ X' (Fr.snoc X' N G.1) (e' ▸ Wd.upd hi K (G.2.put K hj))
  exact ⟨s₂, o, st _ h1, h2⟩
theorem Go.newO {idx n cells' slots' : Nat} {W' : Addr → Wld} {C : String} {fs : List (String × String × Value)} (hd : decode code pc = .ok (.new idx, 3)) (w : (Jvm.Cond.classLink y.cls idx C).before a0 Z = true) (wi : (Jvm.Cond.instantiable C n).before a0 Z = true) (wz : (Jvm.Cond.initialized C).before a0 Z = true) (hL : Lay Z a0 C fs) (hN : (fs.map fun f => f.1).Nodup) (hcells : cells + 1 ≤ R.cells) (hslots : slots + n ≤ R.slots) (ec : cells + 1 = cells') (es : slots + n = slots') (hW : ∀ a, W ++ [(a, .inl (C, fs))] = W' a) (hp : pc + 3 = pc')
    (k : ∀ a, Go l Z n0 R code maxL y ret D (W' a) cells' slots' pc' ls (.ref a :: stk) F) : Go l Z n0 R code maxL y ret D W cells slots pc ls stk F := by
  subst hp ec es
  obtain ⟨p, e, s, m, args, below, meth, c⟩ := D
  intro hx hZ hby hml hown hnm hret hlk T locs X N Wd
  obtain ⟨T', h', X', e', E, A, Ds, -, st⟩ := newO X hx hZ hown w wi wz rfl (g := mkF m pc ls stk) rfl (hb hby hd) hcells hslots
  have I : Is Z h' T.heap.size (.inl (C, fs)) := ⟨A, fun f hf => by
    obtain ⟨L1, ty, t1, t2⟩ := hL f hf
    rw [t2]; exact Ds L1 t1, hL.slots hN⟩
  obtain ⟨s₂, o, h1, h2⟩ := k T.heap.size hx hZ hby hml hown hnm hret hlk T' _ X' N (e' ▸ hW _ ▸ Wd.add E I)
  exact ⟨s₂, o, st _ h1, h2⟩
theorem Go.newI {n : Int32} {len cells' slots' : Nat} {W' : Addr → Wld} (hd : decode code pc = .ok (.newarray .int, 2)) (w : (Jvm.Cond.arrayClass .int).before a0 Z = true) (hn : ¬ n < 0) (hlen : n.toNatClampNeg = len) (hbig : len * 8 ≤ 536870912) (hcells : cells + 1 ≤ R.cells) (hslots : slots + len ≤ R.slots) (ec : cells + 1 = cells') (es : slots + len = slots') (hW : ∀ a, W ++ [(a, .inr (.inl (List.replicate len 0)))] = W' a) (hp : pc + 2 = pc')
    (k : ∀ a, Go l Z n0 R code maxL y ret D (W' a) cells' slots' pc' ls (.ref a :: stk) F) : Go l Z n0 R code maxL y ret D W cells slots pc ls (.int n :: stk) F := by
  subst hp ec es hlen
  obtain ⟨p, e, s, m, args, below, meth, c⟩ := D
  intro hx hZ hby hml hown hnm hret hlk T locs X N Wd
  obtain ⟨T', h', cA, X', e', E, A, st⟩ := newP X hx hZ (aty := .int) w rfl (g := mkF m pc ls (.int n :: stk)) rfl (hb hby hd) rfl hn (Nat.le_refl _) hbig hcells hslots
  have I : Is Z h' T.heap.size (.inr (.inl (List.replicate n.toNatClampNeg 0))) := ⟨_, A, by
    show Array.replicate n.toNatClampNeg (defaultValue .int) = _
    simp [defaultValue], by simpa using (back32 hn).2⟩
  obtain ⟨s₂, o, h1, h2⟩ := k T.heap.size hx hZ hby hml hown hnm hret hlk T' _ X' N (e' ▸ hW _ ▸ Wd.add E I)
  exact ⟨s₂, o, st _ h1, h2⟩
theorem Go.newJ {n : Int32} {len cells' slots' : Nat} {W' : Addr → Wld} (hd : decode code pc = .ok (.newarray .long, 2)) (w : (Jvm.Cond.arrayClass .long).before a0 Z = true) (hn : ¬ n < 0) (hlen : n.toNatClampNeg = len) (hbig : len * 8 ≤ 536870912) (hcells : cells + 1 ≤ R.cells) (hslots : slots + len ≤ R.slots) (ec : cells + 1 = cells') (es : slots + len = slots') (hW : ∀ a, W ++ [(a, .inr (.inr (List.replicate len 0)))] = W' a) (hp : pc + 2 = pc')
    (k : ∀ a, Go l Z n0 R code maxL y ret D (W' a) cells' slots' pc' ls (.ref a :: stk) F) : Go l Z n0 R code maxL y ret D W cells slots pc ls (.int n :: stk) F := by
  subst hp ec es hlen
  obtain ⟨p, e, s, m, args, below, meth, c⟩ := D
  intro hx hZ hby hml hown hnm hret hlk T locs X N Wd
  obtain ⟨T', h', cA, X', e', E, A, st⟩ := newP X hx hZ (aty := .long) w rfl (g := mkF m pc ls (.int n :: stk)) rfl (hb hby hd) rfl hn (Nat.le_refl _) hbig hcells hslots
  have I : Is Z h' T.heap.size (.inr (.inr (List.replicate n.toNatClampNeg 0))) := ⟨_, A, by
    show Array.replicate n.toNatClampNeg (defaultValue .long) = _
    simp [defaultValue], by simpa using (back32 hn).2⟩
  obtain ⟨s₂, o, h1, h2⟩ := k T.heap.size hx hZ hby hml hown hnm hret hlk T' _ X' N (e' ▸ hW _ ▸ Wd.add E I)
  exact ⟨s₂, o, st _ h1, h2⟩
theorem Go.alenI {i : Nat} {a : Addr} {vs : List Int32} {n : Int32} (hd : decode code pc = .ok (.arraylength, 1)) (hi : W[i]? = some (a, .inr (.inl vs))) (hn : vs.length.toInt32 = n) (hp : pc + 1 = pc')
    (k : Go l Z n0 R code maxL y ret D W cells slots pc' ls (.int n :: stk) F) : Go l Z n0 R code maxL y ret D W cells slots pc ls (.ref a :: stk) F := by
  subst hp hn
  refine Go.plain (fun p e s m args below meth c T locs hx hZ hby hown X Wd target h => ?_) k
  obtain ⟨cl, A, e1, -⟩ := (Wd.get hi).2
  exact X.arraylength hx A.1 (State.isArrayOf_alike hZ.alike A.2.1) (g := mkF m pc ls (.ref a :: stk)) rfl rfl (hb hby hd) target (by rw [own_size e1]; exact h)
theorem Go.alenJ {i : Nat} {a : Addr} {vs : List Int64} {n : Int32} (hd : decode code pc = .ok (.arraylength, 1)) (hi : W[i]? = some (a, .inr (.inr vs))) (hn : vs.length.toInt32 = n) (hp : pc + 1 = pc')
    (k : Go l Z n0 R code maxL y ret D W cells slots pc' ls (.int n :: stk) F) : Go l Z n0 R code maxL y ret D W cells slots pc ls (.ref a :: stk) F := by
  subst hp hn
  refine Go.plain (fun p e s m args below meth c T locs hx hZ hby hown X Wd target h => ?_) k
  obtain ⟨cl, A, e1, -⟩ := (Wd.get hi).2
  exact X.arraylength hx A.1 (State.isArrayOf_alike hZ.alike A.2.1) (g := mkF m pc ls (.ref a :: stk)) rfl rfl (hb hby hd) target (by rw [own_sizeL e1]; exact h)
theorem Go.iaload {i : Nat} {a : Addr} {vs : List Int32} {j x : Int32} (hd : decode code pc = .ok (.iaload, 1)) (hi : W[i]? = some (a, .inr (.inl vs))) (hj : ¬ j < 0) (hv : vs[j.toNatClampNeg]? = some x) (hp : pc + 1 = pc')
    (k : Go l Z n0 R code maxL y ret D W cells slots pc' ls (.int x :: stk) F) : Go l Z n0 R code maxL y ret D W cells slots pc ls (.int j :: .ref a :: stk) F := by
  subst hp
  refine Go.plain (fun p e s m args below meth c T locs hx hZ hby hown X Wd target h => ?_) k
  obtain ⟨cl, A, e1, -⟩ := (Wd.get hi).2
  have hlt := (List.getElem?_eq_some_iff.mp hv).1
  exact X.iaload hx A.1 (State.isArrayOf_alike hZ.alike A.2.1) A.2.2 (own_in hj hlt (own_size e1)) (by rw [e1]; simp [hv]) (g := mkF m pc ls (.int j :: .ref a :: stk)) rfl rfl (hb hby hd) target h
theorem Go.laload {i : Nat} {a : Addr} {vs : List Int64} {j : Int32} {x : Int64} (hd : decode code pc = .ok (.laload, 1)) (hi : W[i]? = some (a, .inr (.inr vs))) (hj : ¬ j < 0) (hv : vs[j.toNatClampNeg]? = some x) (hp : pc + 1 = pc')
    (k : Go l Z n0 R code maxL y ret D W cells slots pc' ls (.long x :: stk) F) : Go l Z n0 R code maxL y ret D W cells slots pc ls (.int j :: .ref a :: stk) F := by
  subst hp
  refine Go.plain (fun p e s m args below meth c T locs hx hZ hby hown X Wd target h => ?_) k
  obtain ⟨cl, A, e1, -⟩ := (Wd.get hi).2
  have hlt := (List.getElem?_eq_some_iff.mp hv).1
  exact X.laload hx A.1 (State.isArrayOf_alike hZ.alike A.2.1) A.2.2 (own_in hj hlt (own_sizeL e1)) (by rw [e1]; simp [hv]) (g := mkF m pc ls (.int j :: .ref a :: stk)) rfl rfl (hb hby hd) target h
theorem Go.iastore {i : Nat} {a : Addr} {vs : List Int32} {j x : Int32} {W' : Wld} (hd : decode code pc = .ok (.iastore, 1)) (hi : W[i]? = some (a, .inr (.inl vs))) (hj : ¬ j < 0) (hlt : j.toNatClampNeg < vs.length) (hW : W.set i (a, .inr (.inl (vs.set j.toNatClampNeg x))) = W') (hp : pc + 1 = pc')
    (k : Go l Z n0 R code maxL y ret D W' cells slots pc' ls stk F) : Go l Z n0 R code maxL y ret D W cells slots pc ls (.int x :: .int j :: .ref a :: stk) F := by
  subst hp hW
  obtain ⟨p, e, s, m, args, below, meth, c⟩ := D
  intro hx hZ hby hml hown hnm hret hlk T locs X N Wd
  have G := Wd.get hi
  obtain ⟨cl, A, e1, e2⟩ := id G.2
  obtain ⟨T', h', X', e', K, st⟩ := stI X hx hZ rfl A (own_in hj hlt (own_size e1)) (g := mkF m pc ls (.int x :: .int j :: .ref a :: stk)) rfl rfl (hb hby hd)
  obtain ⟨s₂, o, h1, h2⟩ := k hx hZ hby hml hown hnm hret hlk T' _ X' (Fr.snoc X' N G.1) (e' ▸ Wd.upd hi K (Is.setI K G.2))
  exact ⟨s₂, o, st _ h1, h2⟩
theorem Go.lastore {i : Nat} {a : Addr} {vs : List Int64} {j : Int32} {x : Int64} {W' : Wld} (hd : decode code pc = .ok (.lastore, 1)) (hi : W[i]? = some (a, .inr (.inr vs))) (hj : ¬ j < 0) (hlt : j.toNatClampNeg < vs.length) (hW : W.set i (a, .inr (.inr (vs.set j.toNatClampNeg x))) = W') (hp : pc + 1 = pc')
    (k : Go l Z n0 R code maxL y ret D W' cells slots pc' ls stk F) : Go l Z n0 R code maxL y ret D W cells slots pc ls (.long x :: .int j :: .ref a :: stk) F := by
  subst hp hW
  obtain ⟨p, e, s, m, args, below, meth, c⟩ := D
  intro hx hZ hby hml hown hnm hret hlk T locs X N Wd
  have G := Wd.get hi
  obtain ⟨cl, A, e1, e2⟩ := id G.2
  obtain ⟨T', h', X', e', K, st⟩ := stJ X hx hZ rfl A (own_in hj hlt (own_sizeL e1)) (g := mkF m pc ls (.long x :: .int j :: .ref a :: stk)) rfl rfl (hb hby hd)
  obtain ⟨s₂, o, h1, h2⟩ := k hx hZ hby hml hown hnm hret hlk T' _ X' (Fr.snoc X' N G.1) (e' ▸ Wd.upd hi K (Is.setJ K G.2))
  exact ⟨s₂, o, st _ h1, h2⟩
theorem Go.less {W' : Wld} (q : W'.Sublist W) (k : Go l Z n0 R code maxL y ret D W' cells slots pc ls stk F) : Go l Z n0 R code maxL y ret D W cells slots pc ls stk F := by
  obtain ⟨p, e, s, m, args, below, meth, c⟩ := D
  intro hx hZ hby hml hown hnm hret hlk T locs X N Wd
  exact k hx hZ hby hml hown hnm hret hlk T locs X N ⟨Wd.1, (q.map _).nodup Wd.2.1, fun z hz => Wd.2.2 z (q.subset hz)⟩
end OwnSteps
/-! reading and writing a place of an array, as a function that may fail -/
def rdA {α : Type} (xs : List α) (i : Int32) : Option α := if i < 0 then none else xs[i.toNatClampNeg]?
def wrA {α : Type} (xs : List α) (i : Int32) (x : α) : Option (List α) := if i < 0 then none else if i.toNatClampNeg < xs.length then some (xs.set i.toNatClampNeg x) else none
theorem rdA_some {α : Type} {xs : List α} {i : Int32} {x : α} (h : rdA xs i = some x) : ¬ i < 0 ∧ xs[i.toNatClampNeg]? = some x := by
  unfold rdA at h
  by_cases q : i < 0
  · rw [if_pos q] at h; cases h
  · rw [if_neg q] at h; exact ⟨q, h⟩
theorem wrA_some {α : Type} {xs ys : List α} {i : Int32} {x : α} (h : wrA xs i x = some ys) : ¬ i < 0 ∧ i.toNatClampNeg < xs.length ∧ xs.set i.toNatClampNeg x = ys := by
  unfold wrA at h
  by_cases q : i < 0
  · rw [if_pos q] at h; cases h
  · rw [if_neg q] at h
    by_cases r : i.toNatClampNeg < xs.length
    · rw [if_pos r] at h; exact ⟨q, r, Option.some.inj h⟩
    · rw [if_neg r] at h; cases h
theorem own_bind {α β : Type} {o : Option α} {f : α → Option β} {b : β} (h : o.bind f = some b) : ∃ a, o = some a ∧ f a = some b := Option.bind_eq_some_iff.mp h
section OwnOpt
variable {l : Launch} {Z : State} {n0 : Nat} {R : Room} {code : ByteArray} {maxL : Nat} {y : MethodName} {ret : Option FieldType} {D : Dyn} {W : Wld} {cells slots pc pc' : Nat} {ls ls' : Array Slot} {stk stk' : List Value} {F : Option Value → Wld → Prop} {a0 : Array Value}
theorem Go.ialoadG {i : Nat} {a : Addr} {vs : List Int32} {j x : Int32} (hd : decode code pc = .ok (.iaload, 1)) (hi : W[i]? = some (a, .inr (.inl vs))) (h : rdA vs j = some x) (hp : pc + 1 = pc')
    (k : Go l Z n0 R code maxL y ret D W cells slots pc' ls (.int x :: stk) F) : Go l Z n0 R code maxL y ret D W cells slots pc ls (.int j :: .ref a :: stk) F := Go.iaload hd hi (rdA_some h).1 (rdA_some h).2 hp k
theorem Go.laloadG {i : Nat} {a : Addr} {vs : List Int64} {j : Int32} {x : Int64} (hd : decode code pc = .ok (.laload, 1)) (hi : W[i]? = some (a, .inr (.inr vs))) (h : rdA vs j = some x) (hp : pc + 1 = pc')
    (k : Go l Z n0 R code maxL y ret D W cells slots pc' ls (.long x :: stk) F) : Go l Z n0 R code maxL y ret D W cells slots pc ls (.int j :: .ref a :: stk) F := Go.laload hd hi (rdA_some h).1 (rdA_some h).2 hp k
theorem Go.iastoreG {i : Nat} {a : Addr} {vs vs' : List Int32} {j x : Int32} {W' : Wld} (hd : decode code pc = .ok (.iastore, 1)) (hi : W[i]? = some (a, .inr (.inl vs))) (h : wrA vs j x = some vs') (hW : W.set i (a, .inr (.inl vs')) = W') (hp : pc + 1 = pc')
    (k : Go l Z n0 R code maxL y ret D W' cells slots pc' ls stk F) : Go l Z n0 R code maxL y ret D W cells slots pc ls (.int x :: .int j :: .ref a :: stk) F := by
  obtain ⟨h1, h2, rfl⟩ := wrA_some h
  exact Go.iastore hd hi h1 h2 hW hp k
theorem Go.lastoreG {i : Nat} {a : Addr} {vs vs' : List Int64} {j : Int32} {x : Int64} {W' : Wld} (hd : decode code pc = .ok (.lastore, 1)) (hi : W[i]? = some (a, .inr (.inr vs))) (h : wrA vs j x = some vs') (hW : W.set i (a, .inr (.inr vs')) = W') (hp : pc + 1 = pc')
    (k : Go l Z n0 R code maxL y ret D W' cells slots pc' ls stk F) : Go l Z n0 R code maxL y ret D W cells slots pc ls (.long x :: .int j :: .ref a :: stk) F := by
  obtain ⟨h1, h2, rfl⟩ := wrA_some h
  exact Go.lastore hd hi h1 h2 hW hp k
end OwnOpt
abbrev Tr : Type := Int32 × List Int32 × List Int32 × List Int32 × List Int32
def TW (t aw an ap al sl ai : Addr) (lim : Int32) (s : Tr) : Wld := [(t, .inl ("com/example/kortkod/kortkod/coding/AdaptiveTree", [("weights", "[I", (.ref aw)), ("nodes", "[I", (.ref an)), ("parents", "[I", (.ref ap)), ("leaves", "[I", (.ref al)), ("nodeCount", "I", (.int s.1)), ("sortedLeaves", "[J", (.ref sl)), ("innerWeights", "[I", (.ref ai)), ("limit", "I", (.int lim))])), (aw, .inr (.inl s.2.1)), (an, .inr (.inl s.2.2.1)), (ap, .inr (.inl s.2.2.2.1)), (al, .inr (.inl s.2.2.2.2))]
def placeF (s : Tr) (i v : Int32) : Option Tr :=
  (wrA s.2.2.1 i v).bind fun nd =>
    if v < 0 then (wrA s.2.2.2.2 (v ^^^ (-1)) i).bind fun le => some (s.1, s.2.1, nd, s.2.2.2.1, le)
    else (wrA s.2.2.2.1 ((v - 1) >>> (1 &&& 31)) i).bind fun pa => some (s.1, s.2.1, nd, pa, s.2.2.2.2)
def splitF (s : Tr) (x : Int32) : Option (Tr × Int32) :=
  (rdA s.2.2.2.2 256).bind fun z => (placeF (s.1 + 2, s.2) z s.1).bind fun s1 => (placeF s1 s.1 (x ^^^ (-1))).bind fun s2 => (placeF s2 (s.1 + 1) (-257)).bind fun s3 => some (s3, s.1)
def swapF (s : Tr) (i j : Int32) : Option Tr :=
  (rdA s.2.2.1 i).bind fun x => (rdA s.2.2.1 j).bind fun u => (placeF s i u).bind fun s1 => placeF s1 j x
def hldF (v : Int32) : Int32 := if v = -1 then 0 else 1
def lead1 (w : List Int32) (wt : Int32) : Nat → Int32 → Int32 → Int32 → Option (Int32 × Int32)
  | 0, _, _, _ => none
  | f + 1, r, st, j => if j < 0 then some (r, j) else (rdA w j).bind fun x => if wt < x then some (r, j) else lead1 w wt f j (st <<< (1 &&& 31)) (j - st)
def lead2 (w : List Int32) (wt : Int32) : Nat → Int32 → Int32 → Option Int32
  | 0, _, _ => none
  | f + 1, lo, r => if lo < r then (rdA w (XT.ushr (lo + r) 1)).bind fun x => if wt < x then lead2 w wt f (XT.ushr (lo + r) 1 + 1) r else lead2 w wt f lo (XT.ushr (lo + r) 1) else some lo
def leadF (w : List Int32) (n : Int32) : Option Int32 :=
  (rdA w n).bind fun wt => (lead1 w wt 16 n 1 (n - 1)).bind fun q => lead2 w wt 16 (q.2 + 1) q.1
def updF : Nat → Tr → Int32 → Option Tr
  | 0, _, _ => none
  | f + 1, s, n =>
    if n = 0 then (rdA s.2.1 0).bind fun x => (wrA s.2.1 0 (x + 1)).bind fun w => some (s.1, w, s.2.2)
    else (leadF s.2.1 n).bind fun m => (if m = n then some (s, n) else (rdA s.2.2.2.1 ((n - 1) >>> (1 &&& 31))).bind fun q => if m = q then some (s, n) else (swapF s n m).bind fun s1 => some (s1, m)).bind fun z =>
      (rdA z.1.2.1 z.2).bind fun x => (wrA z.1.2.1 z.2 (x + 1)).bind fun w => (rdA z.1.2.2.2.1 ((z.2 - 1) >>> (1 &&& 31))).bind fun q => updF f (z.1.1, w, z.1.2.2) q
def addF (lim : Int32) (s : Tr) (x : Int32) : Option Tr :=
  (rdA s.2.2.2.2 x).bind fun v => (if v = -1 then splitF s x else some (s, v)).bind fun q => (updF 8 q.1 q.2).bind fun s2 => (rdA s2.2.1 0).bind fun u => if u < lim then some s2 else none
def fillS (n v : Int32) : Nat → List Int32 → Int32 → Option (List Int32)
  | 0, _, _ => none
  | f + 1, vs, i => if i < n then (wrA vs i v).bind fun vs' => fillS n v f vs' (i + 1) else some vs
theorem d5_0 : decode prog_13_method_2_code 0 = .ok (.aload_n 0, 1) := by decide +kernel
theorem d5_1 : decode prog_13_method_2_code 1 = .ok (.getfield 21, 3) := by decide +kernel
theorem d5_4 : decode prog_13_method_2_code 4 = .ok (.iload_n 1, 1) := by decide +kernel
theorem d5_5 : decode prog_13_method_2_code 5 = .ok (.iaload, 1) := by decide +kernel
theorem d5_6 : decode prog_13_method_2_code 6 = .ok (.iconst (-1), 1) := by decide +kernel
theorem d5_7 : decode prog_13_method_2_code 7 = .ok (.if_icmp .eq 7, 3) := by decide +kernel
theorem d5_10 : decode prog_13_method_2_code 10 = .ok (.iconst 1, 1) := by decide +kernel
theorem d5_11 : decode prog_13_method_2_code 11 = .ok (.goto 4, 3) := by decide +kernel
theorem d5_14 : decode prog_13_method_2_code 14 = .ok (.iconst 0, 1) := by decide +kernel
theorem d5_15 : decode prog_13_method_2_code 15 = .ok (.ireturn, 1) := by decide +kernel
set_option maxRecDepth 65536 in
set_option maxHeartbeats 40000000 in
theorem rm5 (l : Launch) (Z : State) (n0 : Nat) (w0 : Array Value) (hw : ∀ d ∈ tables_1, d.before w0 Z = true) (a0 : Addr) (p1 : Int32) (aw an ap al sl ai : Addr) (lim nc : Int32) (w nd pa le : List Int32) (x : Int32) (hF : rdA le p1 = some x) :
    Meets l Z n0 (⟨"com/example/kortkod/kortkod/coding/AdaptiveTree", "holds", "(I)Z"⟩ : MethodName) prog_13_method_2_code 2 (some .boolean) ({ frames := 0, cells := 0, slots := 0, locals := 0 } : Room) [] #[(.ref a0), (.int p1)] (TW a0 aw an ap al sl ai lim (nc, w, nd, pa, le)) (fun r W' => r = some (.int (hldF x)) ∧ W' = TW a0 aw an ap al sl ai lim (nc, w, nd, pa, le)) := by
  refine Meets.of_go (ls := #[.val (.ref a0), .val (.int p1)]) (plainFor_of_name (by first | (simp [plainName, overriddenIn]; done) | decide +kernel)) (fun m => by first | (simp [entryFrame, mkF, argsToLocals, Value.category, maxLocals]; done) | rfl) (fun D => ?_)
  refine Go.aloadN (pc' := 1) d5_0 rfl rfl rfl ?_
  refine Go.getF (pc' := 4) (i := 0) (j := 3) (v := (.ref al)) (host := "") d5_1 (Or.inl (hw _ (List.mem_of_getElem? (i := 17) rfl))) rfl rfl rfl ?_
  refine Go.iloadN (pc' := 5) d5_4 rfl rfl ?_
  refine Go.ialoadG (pc' := 6) (i := 4) d5_5 rfl hF rfl ?_
  refine Go.iconst (pc' := 7) (v := (-1 : Int32)) d5_6 rfl rfl ?_
  refine Go.icmp_eq (pcY := 14) (pcN := 10) d5_7 (by decide) (by decide) rfl (fun hc7 => ?_) (fun hc7 => ?_)
  ·
    refine Go.iconst (pc' := 15) (v := (0 : Int32)) d5_14 rfl rfl ?_
    exact Go.retZ (z' := (0 : Int32)) d5_15 rfl (by decide) (by decide) (by decide) ⟨by rw [hldF, if_pos hc7], rfl⟩
  ·
    refine Go.iconst (pc' := 11) (v := (1 : Int32)) d5_10 rfl rfl ?_
    refine Go.goto (pc' := 15) d5_11 (by decide) (by decide) ?_
    exact Go.retZ (z' := (1 : Int32)) d5_15 rfl (by decide) (by decide) (by decide) ⟨by rw [hldF, if_neg hc7], rfl⟩
theorem d10_0 : decode prog_13_method_15_code 0 = .ok (.aload_n 0, 1) := by decide +kernel
theorem d10_1 : decode prog_13_method_15_code 1 = .ok (.getfield 18, 3) := by decide +kernel
theorem d10_4 : decode prog_13_method_15_code 4 = .ok (.iload_n 1, 1) := by decide +kernel
theorem d10_5 : decode prog_13_method_15_code 5 = .ok (.iconst 1, 1) := by decide +kernel
theorem d10_6 : decode prog_13_method_15_code 6 = .ok (.isub, 1) := by decide +kernel
theorem d10_7 : decode prog_13_method_15_code 7 = .ok (.iconst 1, 1) := by decide +kernel
theorem d10_8 : decode prog_13_method_15_code 8 = .ok (.ishr, 1) := by decide +kernel
theorem d10_9 : decode prog_13_method_15_code 9 = .ok (.iaload, 1) := by decide +kernel
theorem d10_10 : decode prog_13_method_15_code 10 = .ok (.ireturn, 1) := by decide +kernel
set_option maxRecDepth 65536 in
set_option maxHeartbeats 40000000 in
theorem rm10 (l : Launch) (Z : State) (n0 : Nat) (w0 : Array Value) (hw : ∀ d ∈ tables_1, d.before w0 Z = true) (a0 : Addr) (p1 : Int32) (aw an ap al sl ai : Addr) (lim nc : Int32) (w nd pa le : List Int32) (x : Int32) (hF : rdA pa ((p1 - 1) >>> (1 &&& 31)) = some x) :
    Meets l Z n0 (⟨"com/example/kortkod/kortkod/coding/AdaptiveTree", "parent", "(I)I"⟩ : MethodName) prog_13_method_15_code 2 (some .int) ({ frames := 0, cells := 0, slots := 0, locals := 0 } : Room) [] #[(.ref a0), (.int p1)] (TW a0 aw an ap al sl ai lim (nc, w, nd, pa, le)) (fun r W' => r = some (.int x) ∧ W' = TW a0 aw an ap al sl ai lim (nc, w, nd, pa, le)) := by
  refine Meets.of_go (ls := #[.val (.ref a0), .val (.int p1)]) (plainFor_of_name (by first | (simp [plainName, overriddenIn]; done) | decide +kernel)) (fun m => by first | (simp [entryFrame, mkF, argsToLocals, Value.category, maxLocals]; done) | rfl) (fun D => ?_)
  refine Go.aloadN (pc' := 1) d10_0 rfl rfl rfl ?_
  refine Go.getF (pc' := 4) (i := 0) (j := 2) (v := (.ref ap)) (host := "") d10_1 (Or.inl (hw _ (List.mem_of_getElem? (i := 15) rfl))) rfl rfl rfl ?_
  refine Go.iloadN (pc' := 5) d10_4 rfl rfl ?_
  refine Go.iconst (pc' := 6) (v := (1 : Int32)) d10_5 rfl rfl ?_
  refine Go.isub (pc' := 7) d10_6 rfl ?_
  refine Go.iconst (pc' := 8) (v := (1 : Int32)) d10_7 rfl rfl ?_
  refine Go.ishr (pc' := 9) d10_8 rfl ?_
  refine Go.ialoadG (pc' := 10) (i := 3) d10_9 rfl hF rfl ?_
  exact Go.retI d10_10 rfl (by decide) (by decide) ⟨rfl, rfl⟩
theorem d4_0 : decode prog_13_method_14_code 0 = .ok (.aload_n 0, 1) := by decide +kernel
theorem d4_1 : decode prog_13_method_14_code 1 = .ok (.getfield 15, 3) := by decide +kernel
theorem d4_4 : decode prog_13_method_14_code 4 = .ok (.iload_n 1, 1) := by decide +kernel
theorem d4_5 : decode prog_13_method_14_code 5 = .ok (.iload_n 2, 1) := by decide +kernel
theorem d4_6 : decode prog_13_method_14_code 6 = .ok (.iastore, 1) := by decide +kernel
theorem d4_7 : decode prog_13_method_14_code 7 = .ok (.iload_n 2, 1) := by decide +kernel
theorem d4_8 : decode prog_13_method_14_code 8 = .ok (.ifCond .lt 17, 3) := by decide +kernel
theorem d4_11 : decode prog_13_method_14_code 11 = .ok (.aload_n 0, 1) := by decide +kernel
theorem d4_12 : decode prog_13_method_14_code 12 = .ok (.getfield 18, 3) := by decide +kernel
theorem d4_15 : decode prog_13_method_14_code 15 = .ok (.iload_n 2, 1) := by decide +kernel
theorem d4_16 : decode prog_13_method_14_code 16 = .ok (.iconst 1, 1) := by decide +kernel
theorem d4_17 : decode prog_13_method_14_code 17 = .ok (.isub, 1) := by decide +kernel
theorem d4_18 : decode prog_13_method_14_code 18 = .ok (.iconst 1, 1) := by decide +kernel
theorem d4_19 : decode prog_13_method_14_code 19 = .ok (.ishr, 1) := by decide +kernel
theorem d4_20 : decode prog_13_method_14_code 20 = .ok (.iload_n 1, 1) := by decide +kernel
theorem d4_21 : decode prog_13_method_14_code 21 = .ok (.iastore, 1) := by decide +kernel
theorem d4_22 : decode prog_13_method_14_code 22 = .ok (.goto 12, 3) := by decide +kernel
theorem d4_25 : decode prog_13_method_14_code 25 = .ok (.aload_n 0, 1) := by decide +kernel
theorem d4_26 : decode prog_13_method_14_code 26 = .ok (.getfield 21, 3) := by decide +kernel
theorem d4_29 : decode prog_13_method_14_code 29 = .ok (.iload_n 2, 1) := by decide +kernel
theorem d4_30 : decode prog_13_method_14_code 30 = .ok (.iconst (-1), 1) := by decide +kernel
theorem d4_31 : decode prog_13_method_14_code 31 = .ok (.ixor, 1) := by decide +kernel
theorem d4_32 : decode prog_13_method_14_code 32 = .ok (.iload_n 1, 1) := by decide +kernel
theorem d4_33 : decode prog_13_method_14_code 33 = .ok (.iastore, 1) := by decide +kernel
theorem d4_34 : decode prog_13_method_14_code 34 = .ok (.return_, 1) := by decide +kernel
set_option maxRecDepth 65536 in
set_option maxHeartbeats 40000000 in
theorem rm4 (l : Launch) (Z : State) (n0 : Nat) (w0 : Array Value) (hw : ∀ d ∈ tables_1, d.before w0 Z = true) (a0 : Addr) (p1 : Int32) (p2 : Int32) (aw an ap al sl ai : Addr) (lim nc : Int32) (w nd pa le : List Int32) (s' : Tr) (hF : placeF (nc, w, nd, pa, le) p1 p2 = some s') :
    Meets l Z n0 (⟨"com/example/kortkod/kortkod/coding/AdaptiveTree", "place", "(II)V"⟩ : MethodName) prog_13_method_14_code 3 none ({ frames := 0, cells := 0, slots := 0, locals := 0 } : Room) [] #[(.ref a0), (.int p1), (.int p2)] (TW a0 aw an ap al sl ai lim (nc, w, nd, pa, le)) (fun r W' => r = none ∧ W' = TW a0 aw an ap al sl ai lim s') := by
  refine Meets.of_go (ls := #[.val (.ref a0), .val (.int p1), .val (.int p2)]) (plainFor_of_name (by first | (simp [plainName, overriddenIn]; done) | decide +kernel)) (fun m => by first | (simp [entryFrame, mkF, argsToLocals, Value.category, maxLocals]; done) | rfl) (fun D => ?_)
  dsimp only [placeF] at hF
  obtain ⟨nd', hnd, hF⟩ := own_bind hF
  refine Go.aloadN (pc' := 1) d4_0 rfl rfl rfl ?_
  refine Go.getF (pc' := 4) (i := 0) (j := 1) (v := (.ref an)) (host := "") d4_1 (Or.inl (hw _ (List.mem_of_getElem? (i := 13) rfl))) rfl rfl rfl ?_
  refine Go.iloadN (pc' := 5) d4_4 rfl rfl ?_
  refine Go.iloadN (pc' := 6) d4_5 rfl rfl ?_
  refine Go.iastoreG (pc' := 7) (i := 2) (W' := (TW a0 aw an ap al sl ai lim (nc, w, nd', pa, le))) d4_6 rfl hnd rfl rfl ?_
  refine Go.iloadN (pc' := 8) d4_7 rfl rfl ?_
  refine Go.if_lt (pcY := 25) (pcN := 11) d4_8 (by decide) (by decide) rfl (fun hc8 => ?_) (fun hc8 => ?_)
  ·
    rw [if_pos hc8] at hF
    obtain ⟨le', hle, hF⟩ := own_bind hF
    cases hF
    refine Go.aloadN (pc' := 26) d4_25 rfl rfl rfl ?_
    refine Go.getF (pc' := 29) (i := 0) (j := 3) (v := (.ref al)) (host := "") d4_26 (Or.inl (hw _ (List.mem_of_getElem? (i := 17) rfl))) rfl rfl rfl ?_
    refine Go.iloadN (pc' := 30) d4_29 rfl rfl ?_
    refine Go.iconst (pc' := 31) (v := (-1 : Int32)) d4_30 rfl rfl ?_
    refine Go.ixor (pc' := 32) d4_31 rfl ?_
    refine Go.iloadN (pc' := 33) d4_32 rfl rfl ?_
    refine Go.iastoreG (pc' := 34) (i := 4) (W' := (TW a0 aw an ap al sl ai lim (nc, w, nd', pa, le'))) d4_33 rfl hle rfl rfl ?_
    exact Go.retV d4_34 rfl (by decide) (by decide) ⟨rfl, rfl⟩
  ·
    rw [if_neg hc8] at hF
    obtain ⟨pa', hpa, hF⟩ := own_bind hF
    cases hF
    refine Go.aloadN (pc' := 12) d4_11 rfl rfl rfl ?_
    refine Go.getF (pc' := 15) (i := 0) (j := 2) (v := (.ref ap)) (host := "") d4_12 (Or.inl (hw _ (List.mem_of_getElem? (i := 15) rfl))) rfl rfl rfl ?_
    refine Go.iloadN (pc' := 16) d4_15 rfl rfl ?_
    refine Go.iconst (pc' := 17) (v := (1 : Int32)) d4_16 rfl rfl ?_
    refine Go.isub (pc' := 18) d4_17 rfl ?_
    refine Go.iconst (pc' := 19) (v := (1 : Int32)) d4_18 rfl rfl ?_
    refine Go.ishr (pc' := 20) d4_19 rfl ?_
    refine Go.iloadN (pc' := 21) d4_20 rfl rfl ?_
    refine Go.iastoreG (pc' := 22) (i := 3) (W' := (TW a0 aw an ap al sl ai lim (nc, w, nd', pa', le))) d4_21 rfl hpa rfl rfl ?_
    refine Go.goto (pc' := 34) d4_22 (by decide) (by decide) ?_
    exact Go.retV d4_34 rfl (by decide) (by decide) ⟨rfl, rfl⟩
theorem d7_0 : decode prog_13_method_8_code 0 = .ok (.aload_n 0, 1) := by decide +kernel
theorem d7_1 : decode prog_13_method_8_code 1 = .ok (.getfield 21, 3) := by decide +kernel
theorem d7_4 : decode prog_13_method_8_code 4 = .ok (.sipush 256, 3) := by decide +kernel
theorem d7_7 : decode prog_13_method_8_code 7 = .ok (.iaload, 1) := by decide +kernel
theorem d7_8 : decode prog_13_method_8_code 8 = .ok (.istore_n 2, 1) := by decide +kernel
theorem d7_9 : decode prog_13_method_8_code 9 = .ok (.aload_n 0, 1) := by decide +kernel
theorem d7_10 : decode prog_13_method_8_code 10 = .ok (.getfield 24, 3) := by decide +kernel
theorem d7_13 : decode prog_13_method_8_code 13 = .ok (.istore_n 3, 1) := by decide +kernel
theorem d7_14 : decode prog_13_method_8_code 14 = .ok (.aload_n 0, 1) := by decide +kernel
theorem d7_15 : decode prog_13_method_8_code 15 = .ok (.dup, 1) := by decide +kernel
theorem d7_16 : decode prog_13_method_8_code 16 = .ok (.getfield 24, 3) := by decide +kernel
theorem d7_19 : decode prog_13_method_8_code 19 = .ok (.iconst 2, 1) := by decide +kernel
theorem d7_20 : decode prog_13_method_8_code 20 = .ok (.iadd, 1) := by decide +kernel
theorem d7_21 : decode prog_13_method_8_code 21 = .ok (.putfield 24, 3) := by decide +kernel
theorem d7_24 : decode prog_13_method_8_code 24 = .ok (.aload_n 0, 1) := by decide +kernel
theorem d7_25 : decode prog_13_method_8_code 25 = .ok (.iload_n 2, 1) := by decide +kernel
theorem d7_26 : decode prog_13_method_8_code 26 = .ok (.iload_n 3, 1) := by decide +kernel
theorem d7_27 : decode prog_13_method_8_code 27 = .ok (.invokevirtual 44, 3) := by decide +kernel
theorem d7_30 : decode prog_13_method_8_code 30 = .ok (.aload_n 0, 1) := by decide +kernel
theorem d7_31 : decode prog_13_method_8_code 31 = .ok (.iload_n 3, 1) := by decide +kernel
theorem d7_32 : decode prog_13_method_8_code 32 = .ok (.iload_n 1, 1) := by decide +kernel
theorem d7_33 : decode prog_13_method_8_code 33 = .ok (.iconst (-1), 1) := by decide +kernel
theorem d7_34 : decode prog_13_method_8_code 34 = .ok (.ixor, 1) := by decide +kernel
theorem d7_35 : decode prog_13_method_8_code 35 = .ok (.invokevirtual 44, 3) := by decide +kernel
theorem d7_38 : decode prog_13_method_8_code 38 = .ok (.aload_n 0, 1) := by decide +kernel
theorem d7_39 : decode prog_13_method_8_code 39 = .ok (.iload_n 3, 1) := by decide +kernel
theorem d7_40 : decode prog_13_method_8_code 40 = .ok (.iconst 1, 1) := by decide +kernel
theorem d7_41 : decode prog_13_method_8_code 41 = .ok (.iadd, 1) := by decide +kernel
theorem d7_42 : decode prog_13_method_8_code 42 = .ok (.sipush (-257), 3) := by decide +kernel
theorem d7_45 : decode prog_13_method_8_code 45 = .ok (.invokevirtual 44, 3) := by decide +kernel
theorem d7_48 : decode prog_13_method_8_code 48 = .ok (.iload_n 3, 1) := by decide +kernel
theorem d7_49 : decode prog_13_method_8_code 49 = .ok (.ireturn, 1) := by decide +kernel
theorem pd__28II_29V : parseMethodDescriptor "(II)V" = some ⟨[.int, .int], none⟩ := by decide +kernel
set_option maxRecDepth 65536 in
set_option maxHeartbeats 40000000 in
theorem rm7 (l : Launch) (Z : State) (n0 : Nat) (w0 : Array Value) (hw : ∀ d ∈ tables_1, d.before w0 Z = true) (a0 : Addr) (p1 : Int32) (aw an ap al sl ai : Addr) (lim nc : Int32) (w nd pa le : List Int32) (s' : Tr) (r' : Int32) (hF : splitF (nc, w, nd, pa, le) p1 = some (s', r')) :
    Meets l Z n0 (⟨"com/example/kortkod/kortkod/coding/AdaptiveTree", "split", "(I)I"⟩ : MethodName) prog_13_method_8_code 4 (some .int) ({ frames := 1, cells := 0, slots := 0, locals := 14 } : Room) [] #[(.ref a0), (.int p1)] (TW a0 aw an ap al sl ai lim (nc, w, nd, pa, le)) (fun r W' => r = some (.int r') ∧ W' = TW a0 aw an ap al sl ai lim s') := by
  refine Meets.of_go (ls := #[.val (.ref a0), .val (.int p1), .unset, .unset]) (plainFor_of_name (by first | (simp [plainName, overriddenIn]; done) | decide +kernel)) (fun m => by first | (simp [entryFrame, mkF, argsToLocals, Value.category, maxLocals]; done) | rfl) (fun D => ?_)
  dsimp only [splitF] at hF
  obtain ⟨z, hz, hF⟩ := own_bind hF
  obtain ⟨⟨nc1, w1, nd1, pa1, le1⟩, h1, hF⟩ := own_bind hF
  obtain ⟨⟨nc2, w2, nd2, pa2, le2⟩, h2, hF⟩ := own_bind hF
  obtain ⟨⟨nc3, w3, nd3, pa3, le3⟩, h3, hF⟩ := own_bind hF
  obtain ⟨e1, e2⟩ := Prod.mk.inj (Option.some.inj hF)
  subst e1
  refine Go.aloadN (pc' := 1) d7_0 rfl rfl rfl ?_
  refine Go.getF (pc' := 4) (i := 0) (j := 3) (v := (.ref al)) (host := "") d7_1 (Or.inl (hw _ (List.mem_of_getElem? (i := 17) rfl))) rfl rfl rfl ?_
  refine Go.sipush (pc' := 7) (v := (256 : Int32)) d7_4 rfl rfl ?_
  refine Go.ialoadG (pc' := 8) (i := 4) d7_7 rfl hz rfl ?_
  refine Go.istoreN (pc' := 9) (ls' := #[.val (.ref a0), .val (.int p1), .val (.int z), .unset]) d7_8 rfl rfl ?_
  refine Go.aloadN (pc' := 10) d7_9 rfl rfl rfl ?_
  refine Go.getF (pc' := 13) (i := 0) (j := 4) (v := (.int nc)) (host := "") d7_10 (Or.inl (hw _ (List.mem_of_getElem? (i := 19) rfl))) rfl rfl rfl ?_
  refine Go.istoreN (pc' := 14) (ls' := #[.val (.ref a0), .val (.int p1), .val (.int z), .val (.int nc)]) d7_13 rfl rfl ?_
  refine Go.aloadN (pc' := 15) d7_14 rfl rfl rfl ?_
  refine Go.dup (pc' := 16) d7_15 rfl rfl ?_
  refine Go.getF (pc' := 19) (i := 0) (j := 4) (v := (.int nc)) (host := "") d7_16 (Or.inl (hw _ (List.mem_of_getElem? (i := 19) rfl))) rfl rfl rfl ?_
  refine Go.iconst (pc' := 20) (v := (2 : Int32)) d7_19 rfl rfl ?_
  refine Go.iadd (pc' := 21) d7_20 rfl ?_
  refine Go.putF (pc' := 24) (i := 0) (j := 4) (ty := .int) (W' := (TW a0 aw an ap al sl ai lim ((nc + (2 : Int32)), w, nd, pa, le))) (host := "") d7_21 (Or.inl (hw _ (List.mem_of_getElem? (i := 19) rfl))) (Or.inl (hw _ (List.mem_of_getElem? (i := 20) rfl))) (hw _ (List.mem_of_getElem? (i := 1) rfl)) rfl rfl (by decide) rfl rfl rfl rfl ?_
  refine Go.aloadN (pc' := 25) d7_24 rfl rfl rfl ?_
  refine Go.iloadN (pc' := 26) d7_25 rfl rfl ?_
  refine Go.iloadN (pc' := 27) d7_26 rfl rfl ?_
  refine Go.callP (pc' := 30) (W1 := 0) (cells' := 0) (slots' := 0) (argsL := [(.int z), (.int nc)]) (rest := []) (y' := (⟨"com/example/kortkod/kortkod/coding/AdaptiveTree", "place", "(II)V"⟩ : MethodName)) (a := a0) (i := 0) d7_27 (hw _ (List.mem_of_getElem? (i := 32) rfl)) (hw _ (List.mem_of_getElem? (i := 33) rfl)) (hw _ (List.mem_of_getElem? (i := 34) rfl)) (hw _ (List.mem_of_getElem? (i := 1) rfl)) (hw _ (List.mem_of_getElem? (i := 2) rfl)) (hw _ (List.mem_of_getElem? (i := 35) rfl)) (by decide) rfl (rm4 l Z n0 w0 hw a0 z nc aw an ap al sl ai lim (nc + (2 : Int32)) w nd pa le (nc1, w1, nd1, pa1, le1) h1) (by decide) (by decide) rfl (lenOf pd__28II_29V rfl) rfl (Nat.le_of_eq rfl) (by decide) (by decide) rfl rfl rfl (fun v W' hF => ?_)
  obtain ⟨rfl, rfl⟩ := hF
  refine Go.nov ?_
  refine Go.aloadN (pc' := 31) d7_30 rfl rfl rfl ?_
  refine Go.iloadN (pc' := 32) d7_31 rfl rfl ?_
  refine Go.iloadN (pc' := 33) d7_32 rfl rfl ?_
  refine Go.iconst (pc' := 34) (v := (-1 : Int32)) d7_33 rfl rfl ?_
  refine Go.ixor (pc' := 35) d7_34 rfl ?_
  refine Go.callP (pc' := 38) (W1 := 0) (cells' := 0) (slots' := 0) (argsL := [(.int nc), (.int (p1 ^^^ (-1 : Int32)))]) (rest := []) (y' := (⟨"com/example/kortkod/kortkod/coding/AdaptiveTree", "place", "(II)V"⟩ : MethodName)) (a := a0) (i := 0) d7_35 (hw _ (List.mem_of_getElem? (i := 32) rfl)) (hw _ (List.mem_of_getElem? (i := 33) rfl)) (hw _ (List.mem_of_getElem? (i := 34) rfl)) (hw _ (List.mem_of_getElem? (i := 1) rfl)) (hw _ (List.mem_of_getElem? (i := 2) rfl)) (hw _ (List.mem_of_getElem? (i := 35) rfl)) (by decide) rfl (rm4 l Z n0 w0 hw a0 nc (p1 ^^^ (-1 : Int32)) aw an ap al sl ai lim nc1 w1 nd1 pa1 le1 (nc2, w2, nd2, pa2, le2) h2) (by decide) (by decide) rfl (lenOf pd__28II_29V rfl) rfl (Nat.le_of_eq rfl) (by decide) (by decide) rfl rfl rfl (fun v W' hF => ?_)
  obtain ⟨rfl, rfl⟩ := hF
  refine Go.nov ?_
  refine Go.aloadN (pc' := 39) d7_38 rfl rfl rfl ?_
  refine Go.iloadN (pc' := 40) d7_39 rfl rfl ?_
  refine Go.iconst (pc' := 41) (v := (1 : Int32)) d7_40 rfl rfl ?_
  refine Go.iadd (pc' := 42) d7_41 rfl ?_
  refine Go.sipush (pc' := 45) (v := (-257 : Int32)) d7_42 rfl rfl ?_
  refine Go.callP (pc' := 48) (W1 := 0) (cells' := 0) (slots' := 0) (argsL := [(.int (nc + (1 : Int32))), (.int (-257 : Int32))]) (rest := []) (y' := (⟨"com/example/kortkod/kortkod/coding/AdaptiveTree", "place", "(II)V"⟩ : MethodName)) (a := a0) (i := 0) d7_45 (hw _ (List.mem_of_getElem? (i := 32) rfl)) (hw _ (List.mem_of_getElem? (i := 33) rfl)) (hw _ (List.mem_of_getElem? (i := 34) rfl)) (hw _ (List.mem_of_getElem? (i := 1) rfl)) (hw _ (List.mem_of_getElem? (i := 2) rfl)) (hw _ (List.mem_of_getElem? (i := 35) rfl)) (by decide) rfl (rm4 l Z n0 w0 hw a0 (nc + (1 : Int32)) (-257 : Int32) aw an ap al sl ai lim nc2 w2 nd2 pa2 le2 (nc3, w3, nd3, pa3, le3) h3) (by decide) (by decide) rfl (lenOf pd__28II_29V rfl) rfl (Nat.le_of_eq rfl) (by decide) (by decide) rfl rfl rfl (fun v W' hF => ?_)
  obtain ⟨rfl, rfl⟩ := hF
  refine Go.nov ?_
  refine Go.iloadN (pc' := 49) d7_48 rfl rfl ?_
  exact Go.retI d7_49 rfl (by decide) (by decide) ⟨by rw [e2], rfl⟩
theorem d11_0 : decode prog_13_method_13_code 0 = .ok (.aload_n 0, 1) := by decide +kernel
theorem d11_1 : decode prog_13_method_13_code 1 = .ok (.getfield 15, 3) := by decide +kernel
theorem d11_4 : decode prog_13_method_13_code 4 = .ok (.iload_n 1, 1) := by decide +kernel
theorem d11_5 : decode prog_13_method_13_code 5 = .ok (.iaload, 1) := by decide +kernel
theorem d11_6 : decode prog_13_method_13_code 6 = .ok (.istore_n 3, 1) := by decide +kernel
theorem d11_7 : decode prog_13_method_13_code 7 = .ok (.aload_n 0, 1) := by decide +kernel
theorem d11_8 : decode prog_13_method_13_code 8 = .ok (.iload_n 1, 1) := by decide +kernel
theorem d11_9 : decode prog_13_method_13_code 9 = .ok (.aload_n 0, 1) := by decide +kernel
theorem d11_10 : decode prog_13_method_13_code 10 = .ok (.getfield 15, 3) := by decide +kernel
theorem d11_13 : decode prog_13_method_13_code 13 = .ok (.iload_n 2, 1) := by decide +kernel
theorem d11_14 : decode prog_13_method_13_code 14 = .ok (.iaload, 1) := by decide +kernel
theorem d11_15 : decode prog_13_method_13_code 15 = .ok (.invokevirtual 44, 3) := by decide +kernel
theorem d11_18 : decode prog_13_method_13_code 18 = .ok (.aload_n 0, 1) := by decide +kernel
theorem d11_19 : decode prog_13_method_13_code 19 = .ok (.iload_n 2, 1) := by decide +kernel
theorem d11_20 : decode prog_13_method_13_code 20 = .ok (.iload_n 3, 1) := by decide +kernel
theorem d11_21 : decode prog_13_method_13_code 21 = .ok (.invokevirtual 44, 3) := by decide +kernel
theorem d11_24 : decode prog_13_method_13_code 24 = .ok (.return_, 1) := by decide +kernel
set_option maxRecDepth 65536 in
set_option maxHeartbeats 40000000 in
theorem rm11 (l : Launch) (Z : State) (n0 : Nat) (w0 : Array Value) (hw : ∀ d ∈ tables_1, d.before w0 Z = true) (a0 : Addr) (p1 : Int32) (p2 : Int32) (aw an ap al sl ai : Addr) (lim nc : Int32) (w nd pa le : List Int32) (s' : Tr) (hF : swapF (nc, w, nd, pa, le) p1 p2 = some s') :
    Meets l Z n0 (⟨"com/example/kortkod/kortkod/coding/AdaptiveTree", "swap", "(II)V"⟩ : MethodName) prog_13_method_13_code 4 none ({ frames := 1, cells := 0, slots := 0, locals := 14 } : Room) [] #[(.ref a0), (.int p1), (.int p2)] (TW a0 aw an ap al sl ai lim (nc, w, nd, pa, le)) (fun r W' => r = none ∧ W' = TW a0 aw an ap al sl ai lim s') := by
  refine Meets.of_go (ls := #[.val (.ref a0), .val (.int p1), .val (.int p2), .unset]) (plainFor_of_name (by first | (simp [plainName, overriddenIn]; done) | decide +kernel)) (fun m => by first | (simp [entryFrame, mkF, argsToLocals, Value.category, maxLocals]; done) | rfl) (fun D => ?_)
  dsimp only [swapF] at hF
  obtain ⟨x, hx, hF⟩ := own_bind hF
  obtain ⟨u, hu, hF⟩ := own_bind hF
  obtain ⟨⟨nc1, w1, nd1, pa1, le1⟩, h1, hF⟩ := own_bind hF
  obtain ⟨nc2, w2, nd2, pa2, le2⟩ := s'
  refine Go.aloadN (pc' := 1) d11_0 rfl rfl rfl ?_
  refine Go.getF (pc' := 4) (i := 0) (j := 1) (v := (.ref an)) (host := "") d11_1 (Or.inl (hw _ (List.mem_of_getElem? (i := 13) rfl))) rfl rfl rfl ?_
  refine Go.iloadN (pc' := 5) d11_4 rfl rfl ?_
  refine Go.ialoadG (pc' := 6) (i := 2) d11_5 rfl hx rfl ?_
  refine Go.istoreN (pc' := 7) (ls' := #[.val (.ref a0), .val (.int p1), .val (.int p2), .val (.int x)]) d11_6 rfl rfl ?_
  refine Go.aloadN (pc' := 8) d11_7 rfl rfl rfl ?_
  refine Go.iloadN (pc' := 9) d11_8 rfl rfl ?_
  refine Go.aloadN (pc' := 10) d11_9 rfl rfl rfl ?_
  refine Go.getF (pc' := 13) (i := 0) (j := 1) (v := (.ref an)) (host := "") d11_10 (Or.inl (hw _ (List.mem_of_getElem? (i := 13) rfl))) rfl rfl rfl ?_
  refine Go.iloadN (pc' := 14) d11_13 rfl rfl ?_
  refine Go.ialoadG (pc' := 15) (i := 2) d11_14 rfl hu rfl ?_
  refine Go.callP (pc' := 18) (W1 := 0) (cells' := 0) (slots' := 0) (argsL := [(.int p1), (.int u)]) (rest := []) (y' := (⟨"com/example/kortkod/kortkod/coding/AdaptiveTree", "place", "(II)V"⟩ : MethodName)) (a := a0) (i := 0) d11_15 (hw _ (List.mem_of_getElem? (i := 32) rfl)) (hw _ (List.mem_of_getElem? (i := 33) rfl)) (hw _ (List.mem_of_getElem? (i := 34) rfl)) (hw _ (List.mem_of_getElem? (i := 1) rfl)) (hw _ (List.mem_of_getElem? (i := 2) rfl)) (hw _ (List.mem_of_getElem? (i := 35) rfl)) (by decide) rfl (rm4 l Z n0 w0 hw a0 p1 u aw an ap al sl ai lim nc w nd pa le (nc1, w1, nd1, pa1, le1) h1) (by decide) (by decide) rfl (lenOf pd__28II_29V rfl) rfl (Nat.le_of_eq rfl) (by decide) (by decide) rfl rfl rfl (fun v W' hF => ?_)
  obtain ⟨rfl, rfl⟩ := hF
  refine Go.nov ?_
  refine Go.aloadN (pc' := 19) d11_18 rfl rfl rfl ?_
  refine Go.iloadN (pc' := 20) d11_19 rfl rfl ?_
  refine Go.iloadN (pc' := 21) d11_20 rfl rfl ?_
  refine Go.callP (pc' := 24) (W1 := 0) (cells' := 0) (slots' := 0) (argsL := [(.int p2), (.int x)]) (rest := []) (y' := (⟨"com/example/kortkod/kortkod/coding/AdaptiveTree", "place", "(II)V"⟩ : MethodName)) (a := a0) (i := 0) d11_21 (hw _ (List.mem_of_getElem? (i := 32) rfl)) (hw _ (List.mem_of_getElem? (i := 33) rfl)) (hw _ (List.mem_of_getElem? (i := 34) rfl)) (hw _ (List.mem_of_getElem? (i := 1) rfl)) (hw _ (List.mem_of_getElem? (i := 2) rfl)) (hw _ (List.mem_of_getElem? (i := 35) rfl)) (by decide) rfl (rm4 l Z n0 w0 hw a0 p2 x aw an ap al sl ai lim nc1 w1 nd1 pa1 le1 (nc2, w2, nd2, pa2, le2) hF) (by decide) (by decide) rfl (lenOf pd__28II_29V rfl) rfl (Nat.le_of_eq rfl) (by decide) (by decide) rfl rfl rfl (fun v W' hF => ?_)
  obtain ⟨rfl, rfl⟩ := hF
  refine Go.nov ?_
  exact Go.retV d11_24 rfl (by decide) (by decide) ⟨rfl, rfl⟩
theorem d9_0 : decode prog_13_method_10_code 0 = .ok (.aload_n 0, 1) := by decide +kernel
theorem d9_1 : decode prog_13_method_10_code 1 = .ok (.getfield 11, 3) := by decide +kernel
theorem d9_4 : decode prog_13_method_10_code 4 = .ok (.iload_n 1, 1) := by decide +kernel
theorem d9_5 : decode prog_13_method_10_code 5 = .ok (.iaload, 1) := by decide +kernel
theorem d9_6 : decode prog_13_method_10_code 6 = .ok (.istore_n 2, 1) := by decide +kernel
theorem d9_7 : decode prog_13_method_10_code 7 = .ok (.iload_n 1, 1) := by decide +kernel
theorem d9_8 : decode prog_13_method_10_code 8 = .ok (.istore_n 3, 1) := by decide +kernel
theorem d9_9 : decode prog_13_method_10_code 9 = .ok (.iconst 1, 1) := by decide +kernel
theorem d9_10 : decode prog_13_method_10_code 10 = .ok (.istore 4, 2) := by decide +kernel
theorem d9_12 : decode prog_13_method_10_code 12 = .ok (.iload_n 1, 1) := by decide +kernel
theorem d9_13 : decode prog_13_method_10_code 13 = .ok (.iconst 1, 1) := by decide +kernel
theorem d9_14 : decode prog_13_method_10_code 14 = .ok (.isub, 1) := by decide +kernel
theorem d9_15 : decode prog_13_method_10_code 15 = .ok (.istore 5, 2) := by decide +kernel
theorem d9_17 : decode prog_13_method_10_code 17 = .ok (.iload 5, 2) := by decide +kernel
theorem d9_19 : decode prog_13_method_10_code 19 = .ok (.ifCond .lt 33, 3) := by decide +kernel
theorem d9_22 : decode prog_13_method_10_code 22 = .ok (.aload_n 0, 1) := by decide +kernel
theorem d9_23 : decode prog_13_method_10_code 23 = .ok (.getfield 11, 3) := by decide +kernel
theorem d9_26 : decode prog_13_method_10_code 26 = .ok (.iload 5, 2) := by decide +kernel
theorem d9_28 : decode prog_13_method_10_code 28 = .ok (.iaload, 1) := by decide +kernel
theorem d9_29 : decode prog_13_method_10_code 29 = .ok (.iload_n 2, 1) := by decide +kernel
theorem d9_30 : decode prog_13_method_10_code 30 = .ok (.if_icmp .gt 22, 3) := by decide +kernel
theorem d9_33 : decode prog_13_method_10_code 33 = .ok (.iload 5, 2) := by decide +kernel
theorem d9_35 : decode prog_13_method_10_code 35 = .ok (.istore_n 3, 1) := by decide +kernel
theorem d9_36 : decode prog_13_method_10_code 36 = .ok (.iload 5, 2) := by decide +kernel
theorem d9_38 : decode prog_13_method_10_code 38 = .ok (.iload 4, 2) := by decide +kernel
theorem d9_40 : decode prog_13_method_10_code 40 = .ok (.isub, 1) := by decide +kernel
theorem d9_41 : decode prog_13_method_10_code 41 = .ok (.istore 5, 2) := by decide +kernel
theorem d9_43 : decode prog_13_method_10_code 43 = .ok (.iload 4, 2) := by decide +kernel
theorem d9_45 : decode prog_13_method_10_code 45 = .ok (.iconst 1, 1) := by decide +kernel
theorem d9_46 : decode prog_13_method_10_code 46 = .ok (.ishl, 1) := by decide +kernel
theorem d9_47 : decode prog_13_method_10_code 47 = .ok (.istore 4, 2) := by decide +kernel
theorem d9_49 : decode prog_13_method_10_code 49 = .ok (.goto (-32), 3) := by decide +kernel
theorem d9_52 : decode prog_13_method_10_code 52 = .ok (.iload 5, 2) := by decide +kernel
theorem d9_54 : decode prog_13_method_10_code 54 = .ok (.iconst 1, 1) := by decide +kernel
theorem d9_55 : decode prog_13_method_10_code 55 = .ok (.iadd, 1) := by decide +kernel
theorem d9_56 : decode prog_13_method_10_code 56 = .ok (.istore 6, 2) := by decide +kernel
theorem d9_58 : decode prog_13_method_10_code 58 = .ok (.iload 6, 2) := by decide +kernel
theorem d9_60 : decode prog_13_method_10_code 60 = .ok (.iload_n 3, 1) := by decide +kernel
theorem d9_61 : decode prog_13_method_10_code 61 = .ok (.if_icmp .ge 37, 3) := by decide +kernel
theorem d9_64 : decode prog_13_method_10_code 64 = .ok (.iload 6, 2) := by decide +kernel
theorem d9_66 : decode prog_13_method_10_code 66 = .ok (.iload_n 3, 1) := by decide +kernel
theorem d9_67 : decode prog_13_method_10_code 67 = .ok (.iadd, 1) := by decide +kernel
theorem d9_68 : decode prog_13_method_10_code 68 = .ok (.iconst 1, 1) := by decide +kernel
theorem d9_69 : decode prog_13_method_10_code 69 = .ok (.iushr, 1) := by decide +kernel
theorem d9_70 : decode prog_13_method_10_code 70 = .ok (.istore 7, 2) := by decide +kernel
theorem d9_72 : decode prog_13_method_10_code 72 = .ok (.aload_n 0, 1) := by decide +kernel
theorem d9_73 : decode prog_13_method_10_code 73 = .ok (.getfield 11, 3) := by decide +kernel
theorem d9_76 : decode prog_13_method_10_code 76 = .ok (.iload 7, 2) := by decide +kernel
theorem d9_78 : decode prog_13_method_10_code 78 = .ok (.iaload, 1) := by decide +kernel
theorem d9_79 : decode prog_13_method_10_code 79 = .ok (.iload_n 2, 1) := by decide +kernel
theorem d9_80 : decode prog_13_method_10_code 80 = .ok (.if_icmp .gt 9, 3) := by decide +kernel
theorem d9_83 : decode prog_13_method_10_code 83 = .ok (.iload 7, 2) := by decide +kernel
theorem d9_85 : decode prog_13_method_10_code 85 = .ok (.istore_n 3, 1) := by decide +kernel
theorem d9_86 : decode prog_13_method_10_code 86 = .ok (.goto 9, 3) := by decide +kernel
theorem d9_89 : decode prog_13_method_10_code 89 = .ok (.iload 7, 2) := by decide +kernel
theorem d9_91 : decode prog_13_method_10_code 91 = .ok (.iconst 1, 1) := by decide +kernel
theorem d9_92 : decode prog_13_method_10_code 92 = .ok (.iadd, 1) := by decide +kernel
theorem d9_93 : decode prog_13_method_10_code 93 = .ok (.istore 6, 2) := by decide +kernel
theorem d9_95 : decode prog_13_method_10_code 95 = .ok (.goto (-37), 3) := by decide +kernel
theorem d9_98 : decode prog_13_method_10_code 98 = .ok (.iload 6, 2) := by decide +kernel
theorem d9_100 : decode prog_13_method_10_code 100 = .ok (.ireturn, 1) := by decide +kernel
set_option maxRecDepth 65536 in
set_option maxHeartbeats 40000000 in
theorem rm9 (l : Launch) (Z : State) (n0 : Nat) (w0 : Array Value) (hw : ∀ d ∈ tables_1, d.before w0 Z = true) (a0 : Addr) (p1 : Int32) (aw an ap al sl ai : Addr) (lim nc : Int32) (w nd pa le : List Int32) (x' : Int32) (hF : leadF w p1 = some x') :
    Meets l Z n0 (⟨"com/example/kortkod/kortkod/coding/AdaptiveTree", "leader", "(I)I"⟩ : MethodName) prog_13_method_10_code 8 (some .int) ({ frames := 0, cells := 0, slots := 0, locals := 0 } : Room) [] #[(.ref a0), (.int p1)] (TW a0 aw an ap al sl ai lim (nc, w, nd, pa, le)) (fun r W' => r = some (.int x') ∧ W' = TW a0 aw an ap al sl ai lim (nc, w, nd, pa, le)) := by
  refine Meets.of_go (ls := #[.val (.ref a0), .val (.int p1), .unset, .unset, .unset, .unset, .unset, .unset]) (plainFor_of_name (by first | (simp [plainName, overriddenIn]; done) | decide +kernel)) (fun m => by first | (simp [entryFrame, mkF, argsToLocals, Value.category, maxLocals]; done) | rfl) (fun D => ?_)
  dsimp only [leadF] at hF
  obtain ⟨wt, hwt, hF⟩ := own_bind hF
  obtain ⟨⟨r1, j1⟩, h1, hF⟩ := own_bind hF
  dsimp only at hF
  have k58 : ∀ (f : Nat) (st j lo r : Int32) (s7 : Slot), (s7 = .unset ∨ ∃ z, s7 = .val (.int z)) → lead2 w wt f lo r = some x' → Go l Z n0 ({ frames := 0, cells := 0, slots := 0, locals := 0 } : Room) prog_13_method_10_code 8 (⟨"com/example/kortkod/kortkod/coding/AdaptiveTree", "leader", "(I)I"⟩ : MethodName) (some .int) D (TW a0 aw an ap al sl ai lim (nc, w, nd, pa, le)) 0 0 58 #[.val (.ref a0), .val (.int p1), .val (.int wt), .val (.int r), .val (.int st), .val (.int j), .val (.int lo), s7] [] (fun r W' => r = some (.int x') ∧ W' = TW a0 aw an ap al sl ai lim (nc, w, nd, pa, le)) := by
    intro f
    induction f with
    | zero => intro st j lo r s7 hs h; exact absurd h (by simp [lead2])
    | succ f ih =>
      intro st j lo r s7 hs h
      rw [lead2] at h
      rcases hs with rfl | ⟨z7, rfl⟩
      ·
        refine Go.iload (pc' := 60) d9_58 rfl rfl ?_
        refine Go.iloadN (pc' := 61) d9_60 rfl rfl ?_
        refine Go.icmp_ge (pcY := 98) (pcN := 64) d9_61 (by decide) (by decide) rfl (fun hc61 => ?_) (fun hc61 => ?_)
        ·
          rw [if_neg hc61] at h
          refine Go.iload (pc' := 100) d9_98 rfl rfl ?_
          exact Go.retI d9_100 rfl (by decide) (by decide) ⟨by cases h; rfl, rfl⟩
        ·
          rw [if_pos hc61] at h
          obtain ⟨x, hx, h⟩ := own_bind h
          refine Go.iload (pc' := 66) d9_64 rfl rfl ?_
          refine Go.iloadN (pc' := 67) d9_66 rfl rfl ?_
          refine Go.iadd (pc' := 68) d9_67 rfl ?_
          refine Go.iconst (pc' := 69) (v := (1 : Int32)) d9_68 rfl rfl ?_
          refine Go.iushr (pc' := 70) d9_69 rfl ?_
          refine Go.istore (pc' := 72) (ls' := #[.val (.ref a0), .val (.int p1), .val (.int wt), .val (.int r), .val (.int st), .val (.int j), .val (.int lo), .val (.int (XT.ushr (lo + r) (1 : Int32)))]) d9_70 rfl rfl ?_
          refine Go.aloadN (pc' := 73) d9_72 rfl rfl rfl ?_
          refine Go.getF (pc' := 76) (i := 0) (j := 0) (v := (.ref aw)) (host := "") d9_73 (Or.inl (hw _ (List.mem_of_getElem? (i := 11) rfl))) rfl rfl rfl ?_
          refine Go.iload (pc' := 78) d9_76 rfl rfl ?_
          refine Go.ialoadG (pc' := 79) (i := 1) d9_78 rfl hx rfl ?_
          refine Go.iloadN (pc' := 80) d9_79 rfl rfl ?_
          refine Go.icmp_gt (pcY := 89) (pcN := 83) d9_80 (by decide) (by decide) rfl (fun hc80 => ?_) (fun hc80 => ?_)
          ·
            rw [if_pos hc80] at h
            refine Go.iload (pc' := 91) d9_89 rfl rfl ?_
            refine Go.iconst (pc' := 92) (v := (1 : Int32)) d9_91 rfl rfl ?_
            refine Go.iadd (pc' := 93) d9_92 rfl ?_
            refine Go.istore (pc' := 95) (ls' := #[.val (.ref a0), .val (.int p1), .val (.int wt), .val (.int r), .val (.int st), .val (.int j), .val (.int ((XT.ushr (lo + r) (1 : Int32)) + (1 : Int32))), .val (.int (XT.ushr (lo + r) (1 : Int32)))]) d9_93 rfl rfl ?_
            refine Go.goto (pc' := 58) d9_95 (by decide) (by decide) ?_
            exact ih _ _ _ _ _ (Or.inr ⟨_, rfl⟩) h
          ·
            rw [if_neg hc80] at h
            refine Go.iload (pc' := 85) d9_83 rfl rfl ?_
            refine Go.istoreN (pc' := 86) (ls' := #[.val (.ref a0), .val (.int p1), .val (.int wt), .val (.int (XT.ushr (lo + r) (1 : Int32))), .val (.int st), .val (.int j), .val (.int lo), .val (.int (XT.ushr (lo + r) (1 : Int32)))]) d9_85 rfl rfl ?_
            refine Go.goto (pc' := 95) d9_86 (by decide) (by decide) ?_
            refine Go.goto (pc' := 58) d9_95 (by decide) (by decide) ?_
            exact ih _ _ _ _ _ (Or.inr ⟨_, rfl⟩) h
      ·
        refine Go.iload (pc' := 60) d9_58 rfl rfl ?_
        refine Go.iloadN (pc' := 61) d9_60 rfl rfl ?_
        refine Go.icmp_ge (pcY := 98) (pcN := 64) d9_61 (by decide) (by decide) rfl (fun hc61 => ?_) (fun hc61 => ?_)
        ·
          rw [if_neg hc61] at h
          refine Go.iload (pc' := 100) d9_98 rfl rfl ?_
          exact Go.retI d9_100 rfl (by decide) (by decide) ⟨by cases h; rfl, rfl⟩
        ·
          rw [if_pos hc61] at h
          obtain ⟨x, hx, h⟩ := own_bind h
          refine Go.iload (pc' := 66) d9_64 rfl rfl ?_
          refine Go.iloadN (pc' := 67) d9_66 rfl rfl ?_
          refine Go.iadd (pc' := 68) d9_67 rfl ?_
          refine Go.iconst (pc' := 69) (v := (1 : Int32)) d9_68 rfl rfl ?_
          refine Go.iushr (pc' := 70) d9_69 rfl ?_
          refine Go.istore (pc' := 72) (ls' := #[.val (.ref a0), .val (.int p1), .val (.int wt), .val (.int r), .val (.int st), .val (.int j), .val (.int lo), .val (.int (XT.ushr (lo + r) (1 : Int32)))]) d9_70 rfl rfl ?_
          refine Go.aloadN (pc' := 73) d9_72 rfl rfl rfl ?_
          refine Go.getF (pc' := 76) (i := 0) (j := 0) (v := (.ref aw)) (host := "") d9_73 (Or.inl (hw _ (List.mem_of_getElem? (i := 11) rfl))) rfl rfl rfl ?_
          refine Go.iload (pc' := 78) d9_76 rfl rfl ?_
          refine Go.ialoadG (pc' := 79) (i := 1) d9_78 rfl hx rfl ?_
          refine Go.iloadN (pc' := 80) d9_79 rfl rfl ?_
          refine Go.icmp_gt (pcY := 89) (pcN := 83) d9_80 (by decide) (by decide) rfl (fun hc80 => ?_) (fun hc80 => ?_)
          ·
            rw [if_pos hc80] at h
            refine Go.iload (pc' := 91) d9_89 rfl rfl ?_
            refine Go.iconst (pc' := 92) (v := (1 : Int32)) d9_91 rfl rfl ?_
            refine Go.iadd (pc' := 93) d9_92 rfl ?_
            refine Go.istore (pc' := 95) (ls' := #[.val (.ref a0), .val (.int p1), .val (.int wt), .val (.int r), .val (.int st), .val (.int j), .val (.int ((XT.ushr (lo + r) (1 : Int32)) + (1 : Int32))), .val (.int (XT.ushr (lo + r) (1 : Int32)))]) d9_93 rfl rfl ?_
            refine Go.goto (pc' := 58) d9_95 (by decide) (by decide) ?_
            exact ih _ _ _ _ _ (Or.inr ⟨_, rfl⟩) h
          ·
            rw [if_neg hc80] at h
            refine Go.iload (pc' := 85) d9_83 rfl rfl ?_
            refine Go.istoreN (pc' := 86) (ls' := #[.val (.ref a0), .val (.int p1), .val (.int wt), .val (.int (XT.ushr (lo + r) (1 : Int32))), .val (.int st), .val (.int j), .val (.int lo), .val (.int (XT.ushr (lo + r) (1 : Int32)))]) d9_85 rfl rfl ?_
            refine Go.goto (pc' := 95) d9_86 (by decide) (by decide) ?_
            refine Go.goto (pc' := 58) d9_95 (by decide) (by decide) ?_
            exact ih _ _ _ _ _ (Or.inr ⟨_, rfl⟩) h
  have k17 : ∀ (f : Nat) (r st j : Int32), lead1 w wt f r st j = some (r1, j1) → Go l Z n0 ({ frames := 0, cells := 0, slots := 0, locals := 0 } : Room) prog_13_method_10_code 8 (⟨"com/example/kortkod/kortkod/coding/AdaptiveTree", "leader", "(I)I"⟩ : MethodName) (some .int) D (TW a0 aw an ap al sl ai lim (nc, w, nd, pa, le)) 0 0 17 #[.val (.ref a0), .val (.int p1), .val (.int wt), .val (.int r), .val (.int st), .val (.int j), .unset, .unset] [] (fun r W' => r = some (.int x') ∧ W' = TW a0 aw an ap al sl ai lim (nc, w, nd, pa, le)) := by
    intro f
    induction f with
    | zero => intro r st j h; exact absurd h (by simp [lead1])
    | succ f ih =>
      intro r st j h
      rw [lead1] at h
      refine Go.iload (pc' := 19) d9_17 rfl rfl ?_
      refine Go.if_lt (pcY := 52) (pcN := 22) d9_19 (by decide) (by decide) rfl (fun hc19 => ?_) (fun hc19 => ?_)
      ·
        rw [if_pos hc19] at h
        obtain ⟨e1, e2⟩ := Prod.mk.inj (Option.some.inj h)
        refine Go.iload (pc' := 54) d9_52 rfl rfl ?_
        refine Go.iconst (pc' := 55) (v := (1 : Int32)) d9_54 rfl rfl ?_
        refine Go.iadd (pc' := 56) d9_55 rfl ?_
        refine Go.istore (pc' := 58) (ls' := #[.val (.ref a0), .val (.int p1), .val (.int wt), .val (.int r), .val (.int st), .val (.int j), .val (.int (j + (1 : Int32))), .unset]) d9_56 rfl rfl ?_
        exact k58 16 _ _ _ _ _ (Or.inl rfl) (by rw [e1, e2]; exact hF)
      ·
        rw [if_neg hc19] at h
        obtain ⟨x, hx, h⟩ := own_bind h
        refine Go.aloadN (pc' := 23) d9_22 rfl rfl rfl ?_
        refine Go.getF (pc' := 26) (i := 0) (j := 0) (v := (.ref aw)) (host := "") d9_23 (Or.inl (hw _ (List.mem_of_getElem? (i := 11) rfl))) rfl rfl rfl ?_
        refine Go.iload (pc' := 28) d9_26 rfl rfl ?_
        refine Go.ialoadG (pc' := 29) (i := 1) d9_28 rfl hx rfl ?_
        refine Go.iloadN (pc' := 30) d9_29 rfl rfl ?_
        refine Go.icmp_gt (pcY := 52) (pcN := 33) d9_30 (by decide) (by decide) rfl (fun hc30 => ?_) (fun hc30 => ?_)
        ·
          rw [if_pos hc30] at h
          obtain ⟨e1, e2⟩ := Prod.mk.inj (Option.some.inj h)
          refine Go.iload (pc' := 54) d9_52 rfl rfl ?_
          refine Go.iconst (pc' := 55) (v := (1 : Int32)) d9_54 rfl rfl ?_
          refine Go.iadd (pc' := 56) d9_55 rfl ?_
          refine Go.istore (pc' := 58) (ls' := #[.val (.ref a0), .val (.int p1), .val (.int wt), .val (.int r), .val (.int st), .val (.int j), .val (.int (j + (1 : Int32))), .unset]) d9_56 rfl rfl ?_
          exact k58 16 _ _ _ _ _ (Or.inl rfl) (by rw [e1, e2]; exact hF)
        ·
          rw [if_neg hc30] at h
          refine Go.iload (pc' := 35) d9_33 rfl rfl ?_
          refine Go.istoreN (pc' := 36) (ls' := #[.val (.ref a0), .val (.int p1), .val (.int wt), .val (.int j), .val (.int st), .val (.int j), .unset, .unset]) d9_35 rfl rfl ?_
          refine Go.iload (pc' := 38) d9_36 rfl rfl ?_
          refine Go.iload (pc' := 40) d9_38 rfl rfl ?_
          refine Go.isub (pc' := 41) d9_40 rfl ?_
          refine Go.istore (pc' := 43) (ls' := #[.val (.ref a0), .val (.int p1), .val (.int wt), .val (.int j), .val (.int st), .val (.int (j - st)), .unset, .unset]) d9_41 rfl rfl ?_
          refine Go.iload (pc' := 45) d9_43 rfl rfl ?_
          refine Go.iconst (pc' := 46) (v := (1 : Int32)) d9_45 rfl rfl ?_
          refine Go.ishl (pc' := 47) d9_46 rfl ?_
          refine Go.istore (pc' := 49) (ls' := #[.val (.ref a0), .val (.int p1), .val (.int wt), .val (.int j), .val (.int (st <<< ((1 : Int32) &&& 31))), .val (.int (j - st)), .unset, .unset]) d9_47 rfl rfl ?_
          refine Go.goto (pc' := 17) d9_49 (by decide) (by decide) ?_
          exact ih _ _ _ h
  refine Go.aloadN (pc' := 1) d9_0 rfl rfl rfl ?_
  refine Go.getF (pc' := 4) (i := 0) (j := 0) (v := (.ref aw)) (host := "") d9_1 (Or.inl (hw _ (List.mem_of_getElem? (i := 11) rfl))) rfl rfl rfl ?_
  refine Go.iloadN (pc' := 5) d9_4 rfl rfl ?_
  refine Go.ialoadG (pc' := 6) (i := 1) d9_5 rfl hwt rfl ?_
  refine Go.istoreN (pc' := 7) (ls' := #[.val (.ref a0), .val (.int p1), .val (.int wt), .unset, .unset, .unset, .unset, .unset]) d9_6 rfl rfl ?_
  refine Go.iloadN (pc' := 8) d9_7 rfl rfl ?_
  refine Go.istoreN (pc' := 9) (ls' := #[.val (.ref a0), .val (.int p1), .val (.int wt), .val (.int p1), .unset, .unset, .unset, .unset]) d9_8 rfl rfl ?_
  refine Go.iconst (pc' := 10) (v := (1 : Int32)) d9_9 rfl rfl ?_
  refine Go.istore (pc' := 12) (ls' := #[.val (.ref a0), .val (.int p1), .val (.int wt), .val (.int p1), .val (.int (1 : Int32)), .unset, .unset, .unset]) d9_10 rfl rfl ?_
  refine Go.iloadN (pc' := 13) d9_12 rfl rfl ?_
  refine Go.iconst (pc' := 14) (v := (1 : Int32)) d9_13 rfl rfl ?_
  refine Go.isub (pc' := 15) d9_14 rfl ?_
  refine Go.istore (pc' := 17) (ls' := #[.val (.ref a0), .val (.int p1), .val (.int wt), .val (.int p1), .val (.int (1 : Int32)), .val (.int (p1 - (1 : Int32))), .unset, .unset]) d9_15 rfl rfl ?_
  exact k17 16 _ _ _ h1
theorem d8_0 : decode prog_13_method_9_code 0 = .ok (.iload_n 1, 1) := by decide +kernel
theorem d8_1 : decode prog_13_method_9_code 1 = .ok (.ifCond .eq 50, 3) := by decide +kernel
theorem d8_4 : decode prog_13_method_9_code 4 = .ok (.aload_n 0, 1) := by decide +kernel
theorem d8_5 : decode prog_13_method_9_code 5 = .ok (.iload_n 1, 1) := by decide +kernel
theorem d8_6 : decode prog_13_method_9_code 6 = .ok (.invokevirtual 84, 3) := by decide +kernel
theorem d8_9 : decode prog_13_method_9_code 9 = .ok (.istore_n 2, 1) := by decide +kernel
theorem d8_10 : decode prog_13_method_9_code 10 = .ok (.iload_n 2, 1) := by decide +kernel
theorem d8_11 : decode prog_13_method_9_code 11 = .ok (.iload_n 1, 1) := by decide +kernel
theorem d8_12 : decode prog_13_method_9_code 12 = .ok (.if_icmp .eq 20, 3) := by decide +kernel
theorem d8_15 : decode prog_13_method_9_code 15 = .ok (.iload_n 2, 1) := by decide +kernel
theorem d8_16 : decode prog_13_method_9_code 16 = .ok (.aload_n 0, 1) := by decide +kernel
theorem d8_17 : decode prog_13_method_9_code 17 = .ok (.iload_n 1, 1) := by decide +kernel
theorem d8_18 : decode prog_13_method_9_code 18 = .ok (.invokevirtual 52, 3) := by decide +kernel
theorem d8_21 : decode prog_13_method_9_code 21 = .ok (.if_icmp .eq 11, 3) := by decide +kernel
theorem d8_24 : decode prog_13_method_9_code 24 = .ok (.aload_n 0, 1) := by decide +kernel
theorem d8_25 : decode prog_13_method_9_code 25 = .ok (.iload_n 1, 1) := by decide +kernel
theorem d8_26 : decode prog_13_method_9_code 26 = .ok (.iload_n 2, 1) := by decide +kernel
theorem d8_27 : decode prog_13_method_9_code 27 = .ok (.invokevirtual 87, 3) := by decide +kernel
theorem d8_30 : decode prog_13_method_9_code 30 = .ok (.iload_n 2, 1) := by decide +kernel
theorem d8_31 : decode prog_13_method_9_code 31 = .ok (.istore_n 1, 1) := by decide +kernel
theorem d8_32 : decode prog_13_method_9_code 32 = .ok (.aload_n 0, 1) := by decide +kernel
theorem d8_33 : decode prog_13_method_9_code 33 = .ok (.getfield 11, 3) := by decide +kernel
theorem d8_36 : decode prog_13_method_9_code 36 = .ok (.iload_n 1, 1) := by decide +kernel
theorem d8_37 : decode prog_13_method_9_code 37 = .ok (.dup2, 1) := by decide +kernel
theorem d8_38 : decode prog_13_method_9_code 38 = .ok (.iaload, 1) := by decide +kernel
theorem d8_39 : decode prog_13_method_9_code 39 = .ok (.iconst 1, 1) := by decide +kernel
theorem d8_40 : decode prog_13_method_9_code 40 = .ok (.iadd, 1) := by decide +kernel
theorem d8_41 : decode prog_13_method_9_code 41 = .ok (.iastore, 1) := by decide +kernel
theorem d8_42 : decode prog_13_method_9_code 42 = .ok (.aload_n 0, 1) := by decide +kernel
theorem d8_43 : decode prog_13_method_9_code 43 = .ok (.iload_n 1, 1) := by decide +kernel
theorem d8_44 : decode prog_13_method_9_code 44 = .ok (.invokevirtual 52, 3) := by decide +kernel
theorem d8_47 : decode prog_13_method_9_code 47 = .ok (.istore_n 1, 1) := by decide +kernel
theorem d8_48 : decode prog_13_method_9_code 48 = .ok (.goto (-48), 3) := by decide +kernel
theorem d8_51 : decode prog_13_method_9_code 51 = .ok (.aload_n 0, 1) := by decide +kernel
theorem d8_52 : decode prog_13_method_9_code 52 = .ok (.getfield 11, 3) := by decide +kernel
theorem d8_55 : decode prog_13_method_9_code 55 = .ok (.iconst 0, 1) := by decide +kernel
theorem d8_56 : decode prog_13_method_9_code 56 = .ok (.dup2, 1) := by decide +kernel
theorem d8_57 : decode prog_13_method_9_code 57 = .ok (.iaload, 1) := by decide +kernel
theorem d8_58 : decode prog_13_method_9_code 58 = .ok (.iconst 1, 1) := by decide +kernel
theorem d8_59 : decode prog_13_method_9_code 59 = .ok (.iadd, 1) := by decide +kernel
theorem d8_60 : decode prog_13_method_9_code 60 = .ok (.iastore, 1) := by decide +kernel
theorem d8_61 : decode prog_13_method_9_code 61 = .ok (.return_, 1) := by decide +kernel
theorem pd__28I_29I : parseMethodDescriptor "(I)I" = some ⟨[.int], (some .int)⟩ := by decide +kernel
set_option maxRecDepth 65536 in
set_option maxHeartbeats 40000000 in
theorem rm8 (l : Launch) (Z : State) (n0 : Nat) (w0 : Array Value) (hw : ∀ d ∈ tables_1, d.before w0 Z = true) (a0 : Addr) (p1 : Int32) (aw an ap al sl ai : Addr) (lim nc : Int32) (w nd pa le : List Int32) (f : Nat) (s' : Tr) (hF : updF f (nc, w, nd, pa, le) p1 = some s') :
    Meets l Z n0 (⟨"com/example/kortkod/kortkod/coding/AdaptiveTree", "update", "(I)V"⟩ : MethodName) prog_13_method_9_code 3 none ({ frames := 2, cells := 0, slots := 0, locals := 29 } : Room) [] #[(.ref a0), (.int p1)] (TW a0 aw an ap al sl ai lim (nc, w, nd, pa, le)) (fun r W' => r = none ∧ W' = TW a0 aw an ap al sl ai lim s') := by
  refine Meets.of_go (ls := #[.val (.ref a0), .val (.int p1), .unset]) (plainFor_of_name (by first | (simp [plainName, overriddenIn]; done) | decide +kernel)) (fun m => by first | (simp [entryFrame, mkF, argsToLocals, Value.category, maxLocals]; done) | rfl) (fun D => ?_)
  revert hF
  revert nc w nd pa le p1
  suffices key : ∀ (f : Nat) (s2 : Slot), (s2 = .unset ∨ ∃ z, s2 = .val (.int z)) → ∀ (p1 nc : Int32) (w nd pa le : List Int32), updF f (nc, w, nd, pa, le) p1 = some s' → Go l Z n0 ({ frames := 2, cells := 0, slots := 0, locals := 29 } : Room) prog_13_method_9_code 3 (⟨"com/example/kortkod/kortkod/coding/AdaptiveTree", "update", "(I)V"⟩ : MethodName) none D (TW a0 aw an ap al sl ai lim (nc, w, nd, pa, le)) 0 0 0 #[.val (.ref a0), .val (.int p1), s2] [] (fun r W' => r = none ∧ W' = TW a0 aw an ap al sl ai lim s') from fun p1 nc w nd pa le hF => key f .unset (Or.inl rfl) p1 nc w nd pa le hF
  intro f
  induction f with
  | zero => intro s2 hs p1 nc w nd pa le h; exact absurd h (by simp [updF])
  | succ f ih =>
    intro s2 hs p1 nc w nd pa le h
    rw [updF] at h
    dsimp only at h
    rcases hs with rfl | ⟨z2, rfl⟩
    ·
      refine Go.iloadN (pc' := 1) d8_0 rfl rfl ?_
      refine Go.if_eq (pcY := 51) (pcN := 4) d8_1 (by decide) (by decide) rfl (fun hc1 => ?_) (fun hc1 => ?_)
      ·
        rw [if_pos hc1] at h
        obtain ⟨x, hx, h⟩ := own_bind h
        obtain ⟨w', hw', h⟩ := own_bind h
        cases h
        refine Go.aloadN (pc' := 52) d8_51 rfl rfl rfl ?_
        refine Go.getF (pc' := 55) (i := 0) (j := 0) (v := (.ref aw)) (host := "") d8_52 (Or.inl (hw _ (List.mem_of_getElem? (i := 11) rfl))) rfl rfl rfl ?_
        refine Go.iconst (pc' := 56) (v := (0 : Int32)) d8_55 rfl rfl ?_
        refine Go.dup2 (pc' := 57) d8_56 rfl rfl rfl ?_
        refine Go.ialoadG (pc' := 58) (i := 1) d8_57 rfl hx rfl ?_
        refine Go.iconst (pc' := 59) (v := (1 : Int32)) d8_58 rfl rfl ?_
        refine Go.iadd (pc' := 60) d8_59 rfl ?_
        refine Go.iastoreG (pc' := 61) (i := 1) (W' := (TW a0 aw an ap al sl ai lim (nc, w', nd, pa, le))) d8_60 rfl hw' rfl rfl ?_
        exact Go.retV d8_61 rfl (by decide) (by decide) ⟨rfl, rfl⟩
      ·
        rw [if_neg hc1] at h
        obtain ⟨m, hm, h⟩ := own_bind h
        obtain ⟨⟨⟨nc5, w5, nd5, pa5, le5⟩, n5⟩, h5, h⟩ := own_bind h
        dsimp only at h
        obtain ⟨x, hx, h⟩ := own_bind h
        obtain ⟨w', hw', h⟩ := own_bind h
        obtain ⟨q, hq, h⟩ := own_bind h
        have k32 : Go l Z n0 ({ frames := 2, cells := 0, slots := 0, locals := 29 } : Room) prog_13_method_9_code 3 (⟨"com/example/kortkod/kortkod/coding/AdaptiveTree", "update", "(I)V"⟩ : MethodName) none D (TW a0 aw an ap al sl ai lim (nc5, w5, nd5, pa5, le5)) 0 0 32 #[.val (.ref a0), .val (.int n5), .val (.int m)] [] (fun r W' => r = none ∧ W' = TW a0 aw an ap al sl ai lim s') := by
          refine Go.aloadN (pc' := 33) d8_32 rfl rfl rfl ?_
          refine Go.getF (pc' := 36) (i := 0) (j := 0) (v := (.ref aw)) (host := "") d8_33 (Or.inl (hw _ (List.mem_of_getElem? (i := 11) rfl))) rfl rfl rfl ?_
          refine Go.iloadN (pc' := 37) d8_36 rfl rfl ?_
          refine Go.dup2 (pc' := 38) d8_37 rfl rfl rfl ?_
          refine Go.ialoadG (pc' := 39) (i := 1) d8_38 rfl hx rfl ?_
          refine Go.iconst (pc' := 40) (v := (1 : Int32)) d8_39 rfl rfl ?_
          refine Go.iadd (pc' := 41) d8_40 rfl ?_
          refine Go.iastoreG (pc' := 42) (i := 1) (W' := (TW a0 aw an ap al sl ai lim (nc5, w', nd5, pa5, le5))) d8_41 rfl hw' rfl rfl ?_
          refine Go.aloadN (pc' := 43) d8_42 rfl rfl rfl ?_
          refine Go.iloadN (pc' := 44) d8_43 rfl rfl ?_
          refine Go.callP (pc' := 47) (W1 := 0) (cells' := 0) (slots' := 0) (argsL := [(.int n5)]) (rest := []) (y' := (⟨"com/example/kortkod/kortkod/coding/AdaptiveTree", "parent", "(I)I"⟩ : MethodName)) (a := a0) (i := 0) d8_44 (hw _ (List.mem_of_getElem? (i := 59) rfl)) (hw _ (List.mem_of_getElem? (i := 60) rfl)) (hw _ (List.mem_of_getElem? (i := 61) rfl)) (hw _ (List.mem_of_getElem? (i := 1) rfl)) (hw _ (List.mem_of_getElem? (i := 2) rfl)) (hw _ (List.mem_of_getElem? (i := 62) rfl)) (by decide) rfl (rm10 l Z n0 w0 hw a0 n5 aw an ap al sl ai lim nc5 w' nd5 pa5 le5 q hq) (by decide) (by decide) rfl (lenOf pd__28I_29I rfl) rfl (Nat.le_of_eq rfl) (by decide) (by decide) rfl rfl rfl (fun v W' hF => ?_)
          obtain ⟨rfl, rfl⟩ := hF
          refine Go.val ?_
          refine Go.istoreN (pc' := 48) (ls' := #[.val (.ref a0), .val (.int q), .val (.int m)]) d8_47 rfl rfl ?_
          refine Go.goto (pc' := 0) d8_48 (by decide) (by decide) ?_
          exact ih _ (Or.inr ⟨_, rfl⟩) _ _ _ _ _ _ h
        refine Go.aloadN (pc' := 5) d8_4 rfl rfl rfl ?_
        refine Go.iloadN (pc' := 6) d8_5 rfl rfl ?_
        refine Go.callP (pc' := 9) (W1 := 0) (cells' := 0) (slots' := 0) (argsL := [(.int p1)]) (rest := []) (y' := (⟨"com/example/kortkod/kortkod/coding/AdaptiveTree", "leader", "(I)I"⟩ : MethodName)) (a := a0) (i := 0) d8_6 (hw _ (List.mem_of_getElem? (i := 55) rfl)) (hw _ (List.mem_of_getElem? (i := 56) rfl)) (hw _ (List.mem_of_getElem? (i := 57) rfl)) (hw _ (List.mem_of_getElem? (i := 1) rfl)) (hw _ (List.mem_of_getElem? (i := 2) rfl)) (hw _ (List.mem_of_getElem? (i := 58) rfl)) (by decide) rfl (rm9 l Z n0 w0 hw a0 p1 aw an ap al sl ai lim nc w nd pa le m hm) (by decide) (by decide) rfl (lenOf pd__28I_29I rfl) rfl (Nat.le_of_eq rfl) (by decide) (by decide) rfl rfl rfl (fun v W' hF => ?_)
        obtain ⟨rfl, rfl⟩ := hF
        refine Go.val ?_
        refine Go.istoreN (pc' := 10) (ls' := #[.val (.ref a0), .val (.int p1), .val (.int m)]) d8_9 rfl rfl ?_
        refine Go.iloadN (pc' := 11) d8_10 rfl rfl ?_
        refine Go.iloadN (pc' := 12) d8_11 rfl rfl ?_
        refine Go.icmp_eq (pcY := 32) (pcN := 15) d8_12 (by decide) (by decide) rfl (fun hc12 => ?_) (fun hc12 => ?_)
        ·
          rw [if_pos hc12] at h5
          cases h5
          exact k32
        ·
          rw [if_neg hc12] at h5
          obtain ⟨u, hu, h5⟩ := own_bind h5
          refine Go.iloadN (pc' := 16) d8_15 rfl rfl ?_
          refine Go.aloadN (pc' := 17) d8_16 rfl rfl rfl ?_
          refine Go.iloadN (pc' := 18) d8_17 rfl rfl ?_
          refine Go.callP (pc' := 21) (W1 := 1) (cells' := 0) (slots' := 0) (argsL := [(.int p1)]) (rest := [(.int m)]) (y' := (⟨"com/example/kortkod/kortkod/coding/AdaptiveTree", "parent", "(I)I"⟩ : MethodName)) (a := a0) (i := 0) d8_18 (hw _ (List.mem_of_getElem? (i := 59) rfl)) (hw _ (List.mem_of_getElem? (i := 60) rfl)) (hw _ (List.mem_of_getElem? (i := 61) rfl)) (hw _ (List.mem_of_getElem? (i := 1) rfl)) (hw _ (List.mem_of_getElem? (i := 2) rfl)) (hw _ (List.mem_of_getElem? (i := 62) rfl)) (by decide) rfl (rm10 l Z n0 w0 hw a0 p1 aw an ap al sl ai lim nc w nd pa le u hu) (by decide) (by decide) rfl (lenOf pd__28I_29I rfl) rfl (Nat.le_of_eq rfl) (by decide) (by decide) rfl rfl rfl (fun v W' hF => ?_)
          obtain ⟨rfl, rfl⟩ := hF
          refine Go.val ?_
          refine Go.icmp_eq (pcY := 32) (pcN := 24) d8_21 (by decide) (by decide) rfl (fun hc21 => ?_) (fun hc21 => ?_)
          ·
            rw [if_pos hc21] at h5
            cases h5
            exact k32
          ·
            rw [if_neg hc21] at h5
            obtain ⟨⟨nc6, w6, nd6, pa6, le6⟩, h6, h5⟩ := own_bind h5
            refine Go.aloadN (pc' := 25) d8_24 rfl rfl rfl ?_
            refine Go.iloadN (pc' := 26) d8_25 rfl rfl ?_
            refine Go.iloadN (pc' := 27) d8_26 rfl rfl ?_
            refine Go.callP (pc' := 30) (W1 := 0) (cells' := 0) (slots' := 0) (argsL := [(.int p1), (.int m)]) (rest := []) (y' := (⟨"com/example/kortkod/kortkod/coding/AdaptiveTree", "swap", "(II)V"⟩ : MethodName)) (a := a0) (i := 0) d8_27 (hw _ (List.mem_of_getElem? (i := 63) rfl)) (hw _ (List.mem_of_getElem? (i := 64) rfl)) (hw _ (List.mem_of_getElem? (i := 65) rfl)) (hw _ (List.mem_of_getElem? (i := 1) rfl)) (hw _ (List.mem_of_getElem? (i := 2) rfl)) (hw _ (List.mem_of_getElem? (i := 66) rfl)) (by decide) rfl (rm11 l Z n0 w0 hw a0 p1 m aw an ap al sl ai lim nc w nd pa le (nc6, w6, nd6, pa6, le6) h6) (by decide) (by decide) rfl (lenOf pd__28II_29V rfl) rfl (Nat.le_of_eq rfl) (by decide) (by decide) rfl rfl rfl (fun v W' hF => ?_)
            obtain ⟨rfl, rfl⟩ := hF
            refine Go.nov ?_
            refine Go.iloadN (pc' := 31) d8_30 rfl rfl ?_
            refine Go.istoreN (pc' := 32) (ls' := #[.val (.ref a0), .val (.int m), .val (.int m)]) d8_31 rfl rfl ?_
            cases h5
            exact k32
    ·
      refine Go.iloadN (pc' := 1) d8_0 rfl rfl ?_
      refine Go.if_eq (pcY := 51) (pcN := 4) d8_1 (by decide) (by decide) rfl (fun hc1 => ?_) (fun hc1 => ?_)
      ·
        rw [if_pos hc1] at h
        obtain ⟨x, hx, h⟩ := own_bind h
        obtain ⟨w', hw', h⟩ := own_bind h
        cases h
        refine Go.aloadN (pc' := 52) d8_51 rfl rfl rfl ?_
        refine Go.getF (pc' := 55) (i := 0) (j := 0) (v := (.ref aw)) (host := "") d8_52 (Or.inl (hw _ (List.mem_of_getElem? (i := 11) rfl))) rfl rfl rfl ?_
        refine Go.iconst (pc' := 56) (v := (0 : Int32)) d8_55 rfl rfl ?_
        refine Go.dup2 (pc' := 57) d8_56 rfl rfl rfl ?_
        refine Go.ialoadG (pc' := 58) (i := 1) d8_57 rfl hx rfl ?_
        refine Go.iconst (pc' := 59) (v := (1 : Int32)) d8_58 rfl rfl ?_
        refine Go.iadd (pc' := 60) d8_59 rfl ?_
        refine Go.iastoreG (pc' := 61) (i := 1) (W' := (TW a0 aw an ap al sl ai lim (nc, w', nd, pa, le))) d8_60 rfl hw' rfl rfl ?_
        exact Go.retV d8_61 rfl (by decide) (by decide) ⟨rfl, rfl⟩
      ·
        rw [if_neg hc1] at h
        obtain ⟨m, hm, h⟩ := own_bind h
        obtain ⟨⟨⟨nc5, w5, nd5, pa5, le5⟩, n5⟩, h5, h⟩ := own_bind h
        dsimp only at h
        obtain ⟨x, hx, h⟩ := own_bind h
        obtain ⟨w', hw', h⟩ := own_bind h
        obtain ⟨q, hq, h⟩ := own_bind h
        have k32 : Go l Z n0 ({ frames := 2, cells := 0, slots := 0, locals := 29 } : Room) prog_13_method_9_code 3 (⟨"com/example/kortkod/kortkod/coding/AdaptiveTree", "update", "(I)V"⟩ : MethodName) none D (TW a0 aw an ap al sl ai lim (nc5, w5, nd5, pa5, le5)) 0 0 32 #[.val (.ref a0), .val (.int n5), .val (.int m)] [] (fun r W' => r = none ∧ W' = TW a0 aw an ap al sl ai lim s') := by
          refine Go.aloadN (pc' := 33) d8_32 rfl rfl rfl ?_
          refine Go.getF (pc' := 36) (i := 0) (j := 0) (v := (.ref aw)) (host := "") d8_33 (Or.inl (hw _ (List.mem_of_getElem? (i := 11) rfl))) rfl rfl rfl ?_
          refine Go.iloadN (pc' := 37) d8_36 rfl rfl ?_
          refine Go.dup2 (pc' := 38) d8_37 rfl rfl rfl ?_
          refine Go.ialoadG (pc' := 39) (i := 1) d8_38 rfl hx rfl ?_
          refine Go.iconst (pc' := 40) (v := (1 : Int32)) d8_39 rfl rfl ?_
          refine Go.iadd (pc' := 41) d8_40 rfl ?_
          refine Go.iastoreG (pc' := 42) (i := 1) (W' := (TW a0 aw an ap al sl ai lim (nc5, w', nd5, pa5, le5))) d8_41 rfl hw' rfl rfl ?_
          refine Go.aloadN (pc' := 43) d8_42 rfl rfl rfl ?_
          refine Go.iloadN (pc' := 44) d8_43 rfl rfl ?_
          refine Go.callP (pc' := 47) (W1 := 0) (cells' := 0) (slots' := 0) (argsL := [(.int n5)]) (rest := []) (y' := (⟨"com/example/kortkod/kortkod/coding/AdaptiveTree", "parent", "(I)I"⟩ : MethodName)) (a := a0) (i := 0) d8_44 (hw _ (List.mem_of_getElem? (i := 59) rfl)) (hw _ (List.mem_of_getElem? (i := 60) rfl)) (hw _ (List.mem_of_getElem? (i := 61) rfl)) (hw _ (List.mem_of_getElem? (i := 1) rfl)) (hw _ (List.mem_of_getElem? (i := 2) rfl)) (hw _ (List.mem_of_getElem? (i := 62) rfl)) (by decide) rfl (rm10 l Z n0 w0 hw a0 n5 aw an ap al sl ai lim nc5 w' nd5 pa5 le5 q hq) (by decide) (by decide) rfl (lenOf pd__28I_29I rfl) rfl (Nat.le_of_eq rfl) (by decide) (by decide) rfl rfl rfl (fun v W' hF => ?_)
          obtain ⟨rfl, rfl⟩ := hF
          refine Go.val ?_
          refine Go.istoreN (pc' := 48) (ls' := #[.val (.ref a0), .val (.int q), .val (.int m)]) d8_47 rfl rfl ?_
          refine Go.goto (pc' := 0) d8_48 (by decide) (by decide) ?_
          exact ih _ (Or.inr ⟨_, rfl⟩) _ _ _ _ _ _ h
        refine Go.aloadN (pc' := 5) d8_4 rfl rfl rfl ?_
        refine Go.iloadN (pc' := 6) d8_5 rfl rfl ?_
        refine Go.callP (pc' := 9) (W1 := 0) (cells' := 0) (slots' := 0) (argsL := [(.int p1)]) (rest := []) (y' := (⟨"com/example/kortkod/kortkod/coding/AdaptiveTree", "leader", "(I)I"⟩ : MethodName)) (a := a0) (i := 0) d8_6 (hw _ (List.mem_of_getElem? (i := 55) rfl)) (hw _ (List.mem_of_getElem? (i := 56) rfl)) (hw _ (List.mem_of_getElem? (i := 57) rfl)) (hw _ (List.mem_of_getElem? (i := 1) rfl)) (hw _ (List.mem_of_getElem? (i := 2) rfl)) (hw _ (List.mem_of_getElem? (i := 58) rfl)) (by decide) rfl (rm9 l Z n0 w0 hw a0 p1 aw an ap al sl ai lim nc w nd pa le m hm) (by decide) (by decide) rfl (lenOf pd__28I_29I rfl) rfl (Nat.le_of_eq rfl) (by decide) (by decide) rfl rfl rfl (fun v W' hF => ?_)
        obtain ⟨rfl, rfl⟩ := hF
        refine Go.val ?_
        refine Go.istoreN (pc' := 10) (ls' := #[.val (.ref a0), .val (.int p1), .val (.int m)]) d8_9 rfl rfl ?_
        refine Go.iloadN (pc' := 11) d8_10 rfl rfl ?_
        refine Go.iloadN (pc' := 12) d8_11 rfl rfl ?_
        refine Go.icmp_eq (pcY := 32) (pcN := 15) d8_12 (by decide) (by decide) rfl (fun hc12 => ?_) (fun hc12 => ?_)
        ·
          rw [if_pos hc12] at h5
          cases h5
          exact k32
        ·
          rw [if_neg hc12] at h5
          obtain ⟨u, hu, h5⟩ := own_bind h5
          refine Go.iloadN (pc' := 16) d8_15 rfl rfl ?_
          refine Go.aloadN (pc' := 17) d8_16 rfl rfl rfl ?_
          refine Go.iloadN (pc' := 18) d8_17 rfl rfl ?_
          refine Go.callP (pc' := 21) (W1 := 1) (cells' := 0) (slots' := 0) (argsL := [(.int p1)]) (rest := [(.int m)]) (y' := (⟨"com/example/kortkod/kortkod/coding/AdaptiveTree", "parent", "(I)I"⟩ : MethodName)) (a := a0) (i := 0) d8_18 (hw _ (List.mem_of_getElem? (i := 59) rfl)) (hw _ (List.mem_of_getElem? (i := 60) rfl)) (hw _ (List.mem_of_getElem? (i := 61) rfl)) (hw _ (List.mem_of_getElem? (i := 1) rfl)) (hw _ (List.mem_of_getElem? (i := 2) rfl)) (hw _ (List.mem_of_getElem? (i := 62) rfl)) (by decide) rfl (rm10 l Z n0 w0 hw a0 p1 aw an ap al sl ai lim nc w nd pa le u hu) (by decide) (by decide) rfl (lenOf pd__28I_29I rfl) rfl (Nat.le_of_eq rfl) (by decide) (by decide) rfl rfl rfl (fun v W' hF => ?_)
          obtain ⟨rfl, rfl⟩ := hF
          refine Go.val ?_
          refine Go.icmp_eq (pcY := 32) (pcN := 24) d8_21 (by decide) (by decide) rfl (fun hc21 => ?_) (fun hc21 => ?_)
          ·
            rw [if_pos hc21] at h5
            cases h5
            exact k32
          ·
            rw [if_neg hc21] at h5
            obtain ⟨⟨nc6, w6, nd6, pa6, le6⟩, h6, h5⟩ := own_bind h5
            refine Go.aloadN (pc' := 25) d8_24 rfl rfl rfl ?_
            refine Go.iloadN (pc' := 26) d8_25 rfl rfl ?_
            refine Go.iloadN (pc' := 27) d8_26 rfl rfl ?_
            refine Go.callP (pc' := 30) (W1 := 0) (cells' := 0) (slots' := 0) (argsL := [(.int p1), (.int m)]) (rest := []) (y' := (⟨"com/example/kortkod/kortkod/coding/AdaptiveTree", "swap", "(II)V"⟩ : MethodName)) (a := a0) (i := 0) d8_27 (hw _ (List.mem_of_getElem? (i := 63) rfl)) (hw _ (List.mem_of_getElem? (i := 64) rfl)) (hw _ (List.mem_of_getElem? (i := 65) rfl)) (hw _ (List.mem_of_getElem? (i := 1) rfl)) (hw _ (List.mem_of_getElem? (i := 2) rfl)) (hw _ (List.mem_of_getElem? (i := 66) rfl)) (by decide) rfl (rm11 l Z n0 w0 hw a0 p1 m aw an ap al sl ai lim nc w nd pa le (nc6, w6, nd6, pa6, le6) h6) (by decide) (by decide) rfl (lenOf pd__28II_29V rfl) rfl (Nat.le_of_eq rfl) (by decide) (by decide) rfl rfl rfl (fun v W' hF => ?_)
            obtain ⟨rfl, rfl⟩ := hF
            refine Go.nov ?_
            refine Go.iloadN (pc' := 31) d8_30 rfl rfl ?_
            refine Go.istoreN (pc' := 32) (ls' := #[.val (.ref a0), .val (.int m), .val (.int m)]) d8_31 rfl rfl ?_
            cases h5
            exact k32
theorem d6_0 : decode prog_13_method_6_code 0 = .ok (.aload_n 0, 1) := by decide +kernel
theorem d6_1 : decode prog_13_method_6_code 1 = .ok (.aload_n 0, 1) := by decide +kernel
theorem d6_2 : decode prog_13_method_6_code 2 = .ok (.iload_n 1, 1) := by decide +kernel
theorem d6_3 : decode prog_13_method_6_code 3 = .ok (.invokevirtual 71, 3) := by decide +kernel
theorem d6_6 : decode prog_13_method_6_code 6 = .ok (.ifCond .eq 12, 3) := by decide +kernel
theorem d6_9 : decode prog_13_method_6_code 9 = .ok (.aload_n 0, 1) := by decide +kernel
theorem d6_10 : decode prog_13_method_6_code 10 = .ok (.getfield 21, 3) := by decide +kernel
theorem d6_13 : decode prog_13_method_6_code 13 = .ok (.iload_n 1, 1) := by decide +kernel
theorem d6_14 : decode prog_13_method_6_code 14 = .ok (.iaload, 1) := by decide +kernel
theorem d6_15 : decode prog_13_method_6_code 15 = .ok (.goto 8, 3) := by decide +kernel
theorem d6_18 : decode prog_13_method_6_code 18 = .ok (.aload_n 0, 1) := by decide +kernel
theorem d6_19 : decode prog_13_method_6_code 19 = .ok (.iload_n 1, 1) := by decide +kernel
theorem d6_20 : decode prog_13_method_6_code 20 = .ok (.invokevirtual 75, 3) := by decide +kernel
theorem d6_23 : decode prog_13_method_6_code 23 = .ok (.invokevirtual 78, 3) := by decide +kernel
theorem d6_26 : decode prog_13_method_6_code 26 = .ok (.aload_n 0, 1) := by decide +kernel
theorem d6_27 : decode prog_13_method_6_code 27 = .ok (.getfield 11, 3) := by decide +kernel
theorem d6_30 : decode prog_13_method_6_code 30 = .ok (.iconst 0, 1) := by decide +kernel
theorem d6_31 : decode prog_13_method_6_code 31 = .ok (.iaload, 1) := by decide +kernel
theorem d6_32 : decode prog_13_method_6_code 32 = .ok (.aload_n 0, 1) := by decide +kernel
theorem d6_33 : decode prog_13_method_6_code 33 = .ok (.getfield 35, 3) := by decide +kernel
theorem d6_36 : decode prog_13_method_6_code 36 = .ok (.if_icmp .lt 7, 3) := by decide +kernel
theorem d6_43 : decode prog_13_method_6_code 43 = .ok (.return_, 1) := by decide +kernel
theorem pd__28I_29V : parseMethodDescriptor "(I)V" = some ⟨[.int], none⟩ := by decide +kernel
theorem pd__28I_29Z : parseMethodDescriptor "(I)Z" = some ⟨[.int], (some .boolean)⟩ := by decide +kernel
set_option maxRecDepth 65536 in
set_option maxHeartbeats 40000000 in
theorem rm6 (l : Launch) (Z : State) (n0 : Nat) (w0 : Array Value) (hw : ∀ d ∈ tables_1, d.before w0 Z = true) (a0 : Addr) (p1 : Int32) (aw an ap al sl ai : Addr) (lim nc : Int32) (w nd pa le : List Int32) (s' : Tr) (hF : addF lim (nc, w, nd, pa, le) p1 = some s') :
    Meets l Z n0 (⟨"com/example/kortkod/kortkod/coding/AdaptiveTree", "add", "(I)V"⟩ : MethodName) prog_13_method_6_code 2 none ({ frames := 3, cells := 0, slots := 0, locals := 43 } : Room) [] #[(.ref a0), (.int p1)] (TW a0 aw an ap al sl ai lim (nc, w, nd, pa, le)) (fun r W' => r = none ∧ W' = TW a0 aw an ap al sl ai lim s') := by
  refine Meets.of_go (ls := #[.val (.ref a0), .val (.int p1)]) (plainFor_of_name (by first | (simp [plainName, overriddenIn]; done) | decide +kernel)) (fun m => by first | (simp [entryFrame, mkF, argsToLocals, Value.category, maxLocals]; done) | rfl) (fun D => ?_)
  dsimp only [addF] at hF
  obtain ⟨v, hv, hF⟩ := own_bind hF
  obtain ⟨⟨⟨nc1, w1, nd1, pa1, le1⟩, n1⟩, h1, hF⟩ := own_bind hF
  dsimp only at hF
  obtain ⟨⟨nc2, w2, nd2, pa2, le2⟩, h2, hF⟩ := own_bind hF
  obtain ⟨u, hu, hF⟩ := own_bind hF
  by_cases hul : u < lim
  case neg => rw [if_neg hul] at hF; cases hF
  rw [if_pos hul] at hF
  cases hF
  have k23 : Go l Z n0 ({ frames := 3, cells := 0, slots := 0, locals := 43 } : Room) prog_13_method_6_code 2 (⟨"com/example/kortkod/kortkod/coding/AdaptiveTree", "add", "(I)V"⟩ : MethodName) none D (TW a0 aw an ap al sl ai lim (nc1, w1, nd1, pa1, le1)) 0 0 23 #[.val (.ref a0), .val (.int p1)] [(.int n1), (.ref a0)] (fun r W' => r = none ∧ W' = TW a0 aw an ap al sl ai lim (nc2, w2, nd2, pa2, le2)) := by
    refine Go.callP (pc' := 26) (W1 := 0) (cells' := 0) (slots' := 0) (argsL := [(.int n1)]) (rest := []) (y' := (⟨"com/example/kortkod/kortkod/coding/AdaptiveTree", "update", "(I)V"⟩ : MethodName)) (a := a0) (i := 0) d6_23 (hw _ (List.mem_of_getElem? (i := 51) rfl)) (hw _ (List.mem_of_getElem? (i := 52) rfl)) (hw _ (List.mem_of_getElem? (i := 53) rfl)) (hw _ (List.mem_of_getElem? (i := 1) rfl)) (hw _ (List.mem_of_getElem? (i := 2) rfl)) (hw _ (List.mem_of_getElem? (i := 54) rfl)) (by decide) rfl (rm8 l Z n0 w0 hw a0 n1 aw an ap al sl ai lim nc1 w1 nd1 pa1 le1 8 (nc2, w2, nd2, pa2, le2) h2) (by decide) (by decide) rfl (lenOf pd__28I_29V rfl) rfl (Nat.le_of_eq rfl) (by decide) (by decide) rfl rfl rfl (fun v W' hF => ?_)
    obtain ⟨rfl, rfl⟩ := hF
    refine Go.nov ?_
    refine Go.aloadN (pc' := 27) d6_26 rfl rfl rfl ?_
    refine Go.getF (pc' := 30) (i := 0) (j := 0) (v := (.ref aw)) (host := "") d6_27 (Or.inl (hw _ (List.mem_of_getElem? (i := 11) rfl))) rfl rfl rfl ?_
    refine Go.iconst (pc' := 31) (v := (0 : Int32)) d6_30 rfl rfl ?_
    refine Go.ialoadG (pc' := 32) (i := 1) d6_31 rfl hu rfl ?_
    refine Go.aloadN (pc' := 33) d6_32 rfl rfl rfl ?_
    refine Go.getF (pc' := 36) (i := 0) (j := 7) (v := (.int lim)) (host := "") d6_33 (Or.inl (hw _ (List.mem_of_getElem? (i := 26) rfl))) rfl rfl rfl ?_
    refine Go.icmp_lt (pcY := 43) (pcN := 39) d6_36 (by decide) (by decide) rfl (fun hc36 => ?_) (fun hc36 => absurd hc36 (Classical.not_not.mpr hul))
    exact Go.retV d6_43 rfl (by decide) (by decide) ⟨rfl, rfl⟩
  refine Go.aloadN (pc' := 1) d6_0 rfl rfl rfl ?_
  refine Go.aloadN (pc' := 2) d6_1 rfl rfl rfl ?_
  refine Go.iloadN (pc' := 3) d6_2 rfl rfl ?_
  refine Go.callV (pc' := 6) (W1 := 1) (cells' := 0) (slots' := 0) (argsL := [(.int p1)]) (rest := [(.ref a0)]) (y' := (⟨"com/example/kortkod/kortkod/coding/AdaptiveTree", "holds", "(I)Z"⟩ : MethodName)) (a := a0) (i := 0) d6_3 (hw _ (List.mem_of_getElem? (i := 46) rfl)) (hw _ (List.mem_of_getElem? (i := 37) rfl)) (hw _ (List.mem_of_getElem? (i := 39) rfl)) (hw _ (List.mem_of_getElem? (i := 38) rfl)) (hw _ (List.mem_of_getElem? (i := 2) rfl)) (hw _ (List.mem_of_getElem? (i := 40) rfl)) (by decide) rfl (rm5 l Z n0 w0 hw a0 p1 aw an ap al sl ai lim nc w nd pa le v hv) (by decide) (by decide) rfl (lenOf pd__28I_29Z rfl) rfl (Nat.le_of_eq rfl) (by decide) (by decide) rfl rfl rfl (fun v W' hF => ?_)
  obtain ⟨rfl, rfl⟩ := hF
  refine Go.val ?_
  refine Go.if_eq (pcY := 18) (pcN := 9) d6_6 (by decide) (by decide) rfl (fun hc6 => ?_) (fun hc6 => ?_)
  ·
    have hq : v = -1 := by
      by_cases q : v = -1
      · exact q
      · rw [hldF, if_neg q] at hc6; exact absurd hc6 (by decide)
    rw [if_pos hq] at h1
    refine Go.aloadN (pc' := 19) d6_18 rfl rfl rfl ?_
    refine Go.iloadN (pc' := 20) d6_19 rfl rfl ?_
    refine Go.callP (pc' := 23) (W1 := 1) (cells' := 0) (slots' := 0) (argsL := [(.int p1)]) (rest := [(.ref a0)]) (y' := (⟨"com/example/kortkod/kortkod/coding/AdaptiveTree", "split", "(I)I"⟩ : MethodName)) (a := a0) (i := 0) d6_20 (hw _ (List.mem_of_getElem? (i := 47) rfl)) (hw _ (List.mem_of_getElem? (i := 48) rfl)) (hw _ (List.mem_of_getElem? (i := 49) rfl)) (hw _ (List.mem_of_getElem? (i := 1) rfl)) (hw _ (List.mem_of_getElem? (i := 2) rfl)) (hw _ (List.mem_of_getElem? (i := 50) rfl)) (by decide) rfl (rm7 l Z n0 w0 hw a0 p1 aw an ap al sl ai lim nc w nd pa le (nc1, w1, nd1, pa1, le1) n1 h1) (by decide) (by decide) rfl (lenOf pd__28I_29I rfl) rfl (Nat.le_of_eq rfl) (by decide) (by decide) rfl rfl rfl (fun v W' hF => ?_)
    obtain ⟨rfl, rfl⟩ := hF
    refine Go.val ?_
    exact k23
  ·
    have hq : ¬ v = -1 := fun q => hc6 (by rw [hldF, if_pos q])
    rw [if_neg hq] at h1
    refine Go.aloadN (pc' := 10) d6_9 rfl rfl rfl ?_
    refine Go.getF (pc' := 13) (i := 0) (j := 3) (v := (.ref al)) (host := "") d6_10 (Or.inl (hw _ (List.mem_of_getElem? (i := 17) rfl))) rfl rfl rfl ?_
    refine Go.iloadN (pc' := 14) d6_13 rfl rfl ?_
    refine Go.ialoadG (pc' := 15) (i := 4) d6_14 rfl hv rfl ?_
    refine Go.goto (pc' := 23) d6_15 (by decide) (by decide) ?_
    cases h1
    exact k23
theorem d3_0 : decode jdk_65_method_103_code 0 = .ok (.iconst 0, 1) := by decide +kernel
theorem d3_1 : decode jdk_65_method_103_code 1 = .ok (.istore_n 2, 1) := by decide +kernel
theorem d3_2 : decode jdk_65_method_103_code 2 = .ok (.aload_n 0, 1) := by decide +kernel
theorem d3_3 : decode jdk_65_method_103_code 3 = .ok (.arraylength, 1) := by decide +kernel
theorem d3_4 : decode jdk_65_method_103_code 4 = .ok (.istore_n 3, 1) := by decide +kernel
theorem d3_5 : decode jdk_65_method_103_code 5 = .ok (.iload_n 2, 1) := by decide +kernel
theorem d3_6 : decode jdk_65_method_103_code 6 = .ok (.iload_n 3, 1) := by decide +kernel
theorem d3_7 : decode jdk_65_method_103_code 7 = .ok (.if_icmp .ge 13, 3) := by decide +kernel
theorem d3_10 : decode jdk_65_method_103_code 10 = .ok (.aload_n 0, 1) := by decide +kernel
theorem d3_11 : decode jdk_65_method_103_code 11 = .ok (.iload_n 2, 1) := by decide +kernel
theorem d3_12 : decode jdk_65_method_103_code 12 = .ok (.iload_n 1, 1) := by decide +kernel
theorem d3_13 : decode jdk_65_method_103_code 13 = .ok (.iastore, 1) := by decide +kernel
theorem d3_14 : decode jdk_65_method_103_code 14 = .ok (.iinc 2 1, 3) := by decide +kernel
theorem d3_17 : decode jdk_65_method_103_code 17 = .ok (.goto (-12), 3) := by decide +kernel
theorem d3_20 : decode jdk_65_method_103_code 20 = .ok (.return_, 1) := by decide +kernel
set_option maxRecDepth 65536 in
set_option maxHeartbeats 40000000 in
theorem rm3 (l : Launch) (Z : State) (n0 : Nat) (w0 : Array Value) (hw : ∀ d ∈ tables_1, d.before w0 Z = true) (a0 : Addr) (p1 : Int32) (t aw an ap sl ai : Addr) (d0 d1 d2 d3 d5 d6 : Desc) (f : Nat) (vs vs' : List Int32) (hF : fillS vs.length.toInt32 p1 f vs 0 = some vs') :
    Meets l Z n0 (⟨"java/util/Arrays", "fill", "([II)V"⟩ : MethodName) jdk_65_method_103_code 4 none ({ frames := 0, cells := 0, slots := 0, locals := 0 } : Room) [] #[(.ref a0), (.int p1)] [(t, d0), (aw, d1), (an, d2), (ap, d3), (a0, .inr (.inl vs)), (sl, d5), (ai, d6)] (fun r W' => r = none ∧ W' = [(t, d0), (aw, d1), (an, d2), (ap, d3), (a0, .inr (.inl vs')), (sl, d5), (ai, d6)]) := by
  refine Meets.of_go (ls := #[.val (.ref a0), .val (.int p1), .unset, .unset]) (plainFor_of_name (by first | (simp [plainName, overriddenIn]; done) | decide +kernel)) (fun m => by first | (simp [entryFrame, mkF, argsToLocals, Value.category, maxLocals]; done) | rfl) (fun D => ?_)
  have k5 : ∀ (f : Nat) (us : List Int32) (i : Int32), fillS vs.length.toInt32 p1 f us i = some vs' → Go l Z n0 ({ frames := 0, cells := 0, slots := 0, locals := 0 } : Room) jdk_65_method_103_code 4 (⟨"java/util/Arrays", "fill", "([II)V"⟩ : MethodName) none D [(t, d0), (aw, d1), (an, d2), (ap, d3), (a0, .inr (.inl us)), (sl, d5), (ai, d6)] 0 0 5 #[.val (.ref a0), .val (.int p1), .val (.int i), .val (.int vs.length.toInt32)] [] (fun r W' => r = none ∧ W' = [(t, d0), (aw, d1), (an, d2), (ap, d3), (a0, .inr (.inl vs')), (sl, d5), (ai, d6)]) := by
    intro f
    induction f with
    | zero => intro us i h; exact absurd h (by simp [fillS])
    | succ f ih =>
      intro us i h
      rw [fillS] at h
      refine Go.iloadN (pc' := 6) d3_5 rfl rfl ?_
      refine Go.iloadN (pc' := 7) d3_6 rfl rfl ?_
      refine Go.icmp_ge (pcY := 20) (pcN := 10) d3_7 (by decide) (by decide) rfl (fun hc7 => ?_) (fun hc7 => ?_)
      ·
        rw [if_neg hc7] at h
        cases h
        exact Go.retV d3_20 rfl (by decide) (by decide) ⟨rfl, rfl⟩
      ·
        rw [if_pos hc7] at h
        obtain ⟨us', hu, h⟩ := own_bind h
        refine Go.aloadN (pc' := 11) d3_10 rfl rfl rfl ?_
        refine Go.iloadN (pc' := 12) d3_11 rfl rfl ?_
        refine Go.iloadN (pc' := 13) d3_12 rfl rfl ?_
        refine Go.iastoreG (pc' := 14) (i := 4) (W' := [(t, d0), (aw, d1), (an, d2), (ap, d3), (a0, .inr (.inl us')), (sl, d5), (ai, d6)]) d3_13 rfl hu rfl rfl ?_
        refine Go.iinc (pc' := 17) (ls' := #[.val (.ref a0), .val (.int p1), .val (.int (i + (1 : Int32))), .val (.int vs.length.toInt32)]) (z := (1 : Int32)) d3_14 rfl rfl rfl rfl ?_
        refine Go.goto (pc' := 5) d3_17 (by decide) (by decide) ?_
        exact ih _ _ h
  refine Go.iconst (pc' := 1) (v := (0 : Int32)) d3_0 rfl rfl ?_
  refine Go.istoreN (pc' := 2) (ls' := #[.val (.ref a0), .val (.int p1), .val (.int (0 : Int32)), .unset]) d3_1 rfl rfl ?_
  refine Go.aloadN (pc' := 3) d3_2 rfl rfl rfl ?_
  refine Go.alenI (pc' := 4) (i := 4) (n := vs.length.toInt32) d3_3 rfl rfl rfl ?_
  refine Go.istoreN (pc' := 5) (ls' := #[.val (.ref a0), .val (.int p1), .val (.int (0 : Int32)), .val (.int vs.length.toInt32)]) d3_4 rfl rfl ?_
  exact k5 f _ _ hF
def s0 : Tr := ((1 : Int32), List.replicate 513 0, (List.replicate 513 0).set 0 (-257), List.replicate 256 0, (List.replicate 257 (-1)).set 256 0)
theorem own_fill : fillS (List.replicate 257 (0 : Int32)).length.toInt32 (-1) 300 (List.replicate 257 0) 0 = some (List.replicate 257 (-1)) := by decide +kernel
theorem own_place0 : placeF (1, List.replicate 513 0, List.replicate 513 0, List.replicate 256 0, List.replicate 257 (-1)) 0 (-257) = some s0 := by decide +kernel
theorem d1_0 : decode prog_13_method_1_code 0 = .ok (.aload_n 0, 1) := by decide +kernel
theorem d1_1 : decode prog_13_method_1_code 1 = .ok (.invokespecial 3, 3) := by decide +kernel
theorem d1_4 : decode prog_13_method_1_code 4 = .ok (.aload_n 0, 1) := by decide +kernel
theorem d1_5 : decode prog_13_method_1_code 5 = .ok (.sipush 513, 3) := by decide +kernel
theorem d1_8 : decode prog_13_method_1_code 8 = .ok (.newarray .int, 2) := by decide +kernel
theorem d1_10 : decode prog_13_method_1_code 10 = .ok (.putfield 11, 3) := by decide +kernel
theorem d1_13 : decode prog_13_method_1_code 13 = .ok (.aload_n 0, 1) := by decide +kernel
theorem d1_14 : decode prog_13_method_1_code 14 = .ok (.sipush 513, 3) := by decide +kernel
theorem d1_17 : decode prog_13_method_1_code 17 = .ok (.newarray .int, 2) := by decide +kernel
theorem d1_19 : decode prog_13_method_1_code 19 = .ok (.putfield 15, 3) := by decide +kernel
theorem d1_22 : decode prog_13_method_1_code 22 = .ok (.aload_n 0, 1) := by decide +kernel
theorem d1_23 : decode prog_13_method_1_code 23 = .ok (.sipush 256, 3) := by decide +kernel
theorem d1_26 : decode prog_13_method_1_code 26 = .ok (.newarray .int, 2) := by decide +kernel
theorem d1_28 : decode prog_13_method_1_code 28 = .ok (.putfield 18, 3) := by decide +kernel
theorem d1_31 : decode prog_13_method_1_code 31 = .ok (.aload_n 0, 1) := by decide +kernel
theorem d1_32 : decode prog_13_method_1_code 32 = .ok (.sipush 257, 3) := by decide +kernel
theorem d1_35 : decode prog_13_method_1_code 35 = .ok (.newarray .int, 2) := by decide +kernel
theorem d1_37 : decode prog_13_method_1_code 37 = .ok (.putfield 21, 3) := by decide +kernel
theorem d1_40 : decode prog_13_method_1_code 40 = .ok (.aload_n 0, 1) := by decide +kernel
theorem d1_41 : decode prog_13_method_1_code 41 = .ok (.iconst 1, 1) := by decide +kernel
theorem d1_42 : decode prog_13_method_1_code 42 = .ok (.putfield 24, 3) := by decide +kernel
theorem d1_45 : decode prog_13_method_1_code 45 = .ok (.aload_n 0, 1) := by decide +kernel
theorem d1_46 : decode prog_13_method_1_code 46 = .ok (.sipush 257, 3) := by decide +kernel
theorem d1_49 : decode prog_13_method_1_code 49 = .ok (.newarray .long, 2) := by decide +kernel
theorem d1_51 : decode prog_13_method_1_code 51 = .ok (.putfield 28, 3) := by decide +kernel
theorem d1_54 : decode prog_13_method_1_code 54 = .ok (.aload_n 0, 1) := by decide +kernel
theorem d1_55 : decode prog_13_method_1_code 55 = .ok (.sipush 256, 3) := by decide +kernel
theorem d1_58 : decode prog_13_method_1_code 58 = .ok (.newarray .int, 2) := by decide +kernel
theorem d1_60 : decode prog_13_method_1_code 60 = .ok (.putfield 32, 3) := by decide +kernel
theorem d1_63 : decode prog_13_method_1_code 63 = .ok (.aload_n 0, 1) := by decide +kernel
theorem d1_64 : decode prog_13_method_1_code 64 = .ok (.iload_n 1, 1) := by decide +kernel
theorem d1_65 : decode prog_13_method_1_code 65 = .ok (.putfield 35, 3) := by decide +kernel
theorem d1_68 : decode prog_13_method_1_code 68 = .ok (.aload_n 0, 1) := by decide +kernel
theorem d1_69 : decode prog_13_method_1_code 69 = .ok (.getfield 21, 3) := by decide +kernel
theorem d1_72 : decode prog_13_method_1_code 72 = .ok (.iconst (-1), 1) := by decide +kernel
theorem d1_73 : decode prog_13_method_1_code 73 = .ok (.invokestatic 38, 3) := by decide +kernel
theorem d1_76 : decode prog_13_method_1_code 76 = .ok (.aload_n 0, 1) := by decide +kernel
theorem d1_77 : decode prog_13_method_1_code 77 = .ok (.iconst 0, 1) := by decide +kernel
theorem d1_78 : decode prog_13_method_1_code 78 = .ok (.sipush (-257), 3) := by decide +kernel
theorem d1_81 : decode prog_13_method_1_code 81 = .ok (.invokevirtual 44, 3) := by decide +kernel
theorem d1_84 : decode prog_13_method_1_code 84 = .ok (.return_, 1) := by decide +kernel
theorem pd__28_5bII_29V : parseMethodDescriptor "([II)V" = some ⟨[(.array .int), .int], none⟩ := by decide +kernel
set_option maxRecDepth 65536 in
set_option maxHeartbeats 40000000 in
theorem rm1 (l : Launch) (Z : State) (n0 : Nat) (w0 : Array Value) (hw : ∀ d ∈ tables_1, d.before w0 Z = true) (a0 : Addr) (p1 : Int32) :
    Meets l Z n0 (⟨"com/example/kortkod/kortkod/coding/AdaptiveTree", "<init>", "(I)V"⟩ : MethodName) prog_13_method_1_code 2 none ({ frames := 1, cells := 6, slots := 2052, locals := 15 } : Room) [] #[(.ref a0), (.int p1)] [(a0, .inl ("com/example/kortkod/kortkod/coding/AdaptiveTree", [("weights", "[I", .null), ("nodes", "[I", .null), ("parents", "[I", .null), ("leaves", "[I", .null), ("nodeCount", "I", (.int 0)), ("sortedLeaves", "[J", .null), ("innerWeights", "[I", .null), ("limit", "I", (.int 0))]))] (fun r W' => r = none ∧ ∃ aw an ap al sl ai : Addr, W' = TW a0 aw an ap al sl ai p1 s0) := by
  refine Meets.of_go (ls := #[.val (.ref a0), .val (.int p1)]) (plainFor_of_name (by first | (simp [plainName, overriddenIn]; done) | decide +kernel)) (fun m => by first | (simp [entryFrame, mkF, argsToLocals, Value.category, maxLocals]; done) | rfl) (fun D => ?_)
  refine Go.aloadN (pc' := 1) d1_0 rfl rfl rfl ?_
  refine Go.initO (pc' := 4) (W1 := 0) d1_1 (hw _ (List.mem_of_getElem? (i := 7) rfl)) (hw _ (List.mem_of_getElem? (i := 8) rfl)) (hw _ (List.mem_of_getElem? (i := 9) rfl)) rfl (by decide) (Nat.le_of_eq rfl) (by decide) rfl ?_
  refine Go.aloadN (pc' := 5) d1_4 rfl rfl rfl ?_
  refine Go.sipush (pc' := 8) (v := (513 : Int32)) d1_5 rfl rfl ?_
  refine Go.newI (pc' := 10) (len := 513) (cells' := 1) (slots' := 513) (W' := fun aw => [(a0, .inl ("com/example/kortkod/kortkod/coding/AdaptiveTree", [("weights", "[I", .null), ("nodes", "[I", .null), ("parents", "[I", .null), ("leaves", "[I", .null), ("nodeCount", "I", (.int 0)), ("sortedLeaves", "[J", .null), ("innerWeights", "[I", .null), ("limit", "I", (.int 0))])), (aw, .inr (.inl (List.replicate 513 0)))]) d1_8 (hw _ (List.mem_of_getElem? (i := 10) rfl)) (by decide) (by decide) (by decide) (by decide) (by decide) rfl rfl (fun _ => rfl) rfl (fun aw => ?_)
  refine Go.putF (pc' := 13) (i := 0) (j := 0) (ty := (.array .int)) (W' := [(a0, .inl ("com/example/kortkod/kortkod/coding/AdaptiveTree", [("weights", "[I", (.ref aw)), ("nodes", "[I", .null), ("parents", "[I", .null), ("leaves", "[I", .null), ("nodeCount", "I", (.int 0)), ("sortedLeaves", "[J", .null), ("innerWeights", "[I", .null), ("limit", "I", (.int 0))])), (aw, .inr (.inl (List.replicate 513 0)))]) (host := "") d1_10 (Or.inl (hw _ (List.mem_of_getElem? (i := 11) rfl))) (Or.inr ⟨(hw _ (List.mem_of_getElem? (i := 12) rfl)), rfl, rfl⟩) (hw _ (List.mem_of_getElem? (i := 1) rfl)) rfl rfl (by decide) rfl rfl rfl rfl ?_
  refine Go.aloadN (pc' := 14) d1_13 rfl rfl rfl ?_
  refine Go.sipush (pc' := 17) (v := (513 : Int32)) d1_14 rfl rfl ?_
  refine Go.newI (pc' := 19) (len := 513) (cells' := 2) (slots' := 1026) (W' := fun an => [(a0, .inl ("com/example/kortkod/kortkod/coding/AdaptiveTree", [("weights", "[I", (.ref aw)), ("nodes", "[I", .null), ("parents", "[I", .null), ("leaves", "[I", .null), ("nodeCount", "I", (.int 0)), ("sortedLeaves", "[J", .null), ("innerWeights", "[I", .null), ("limit", "I", (.int 0))])), (aw, .inr (.inl (List.replicate 513 0))), (an, .inr (.inl (List.replicate 513 0)))]) d1_17 (hw _ (List.mem_of_getElem? (i := 10) rfl)) (by decide) (by decide) (by decide) (by decide) (by decide) rfl rfl (fun _ => rfl) rfl (fun an => ?_)
  refine Go.putF (pc' := 22) (i := 0) (j := 1) (ty := (.array .int)) (W' := [(a0, .inl ("com/example/kortkod/kortkod/coding/AdaptiveTree", [("weights", "[I", (.ref aw)), ("nodes", "[I", (.ref an)), ("parents", "[I", .null), ("leaves", "[I", .null), ("nodeCount", "I", (.int 0)), ("sortedLeaves", "[J", .null), ("innerWeights", "[I", .null), ("limit", "I", (.int 0))])), (aw, .inr (.inl (List.replicate 513 0))), (an, .inr (.inl (List.replicate 513 0)))]) (host := "") d1_19 (Or.inl (hw _ (List.mem_of_getElem? (i := 13) rfl))) (Or.inr ⟨(hw _ (List.mem_of_getElem? (i := 14) rfl)), rfl, rfl⟩) (hw _ (List.mem_of_getElem? (i := 1) rfl)) rfl rfl (by decide) rfl rfl rfl rfl ?_
  refine Go.aloadN (pc' := 23) d1_22 rfl rfl rfl ?_
  refine Go.sipush (pc' := 26) (v := (256 : Int32)) d1_23 rfl rfl ?_
  refine Go.newI (pc' := 28) (len := 256) (cells' := 3) (slots' := 1282) (W' := fun ap => [(a0, .inl ("com/example/kortkod/kortkod/coding/AdaptiveTree", [("weights", "[I", (.ref aw)), ("nodes", "[I", (.ref an)), ("parents", "[I", .null), ("leaves", "[I", .null), ("nodeCount", "I", (.int 0)), ("sortedLeaves", "[J", .null), ("innerWeights", "[I", .null), ("limit", "I", (.int 0))])), (aw, .inr (.inl (List.replicate 513 0))), (an, .inr (.inl (List.replicate 513 0))), (ap, .inr (.inl (List.replicate 256 0)))]) d1_26 (hw _ (List.mem_of_getElem? (i := 10) rfl)) (by decide) (by decide) (by decide) (by decide) (by decide) rfl rfl (fun _ => rfl) rfl (fun ap => ?_)
  refine Go.putF (pc' := 31) (i := 0) (j := 2) (ty := (.array .int)) (W' := [(a0, .inl ("com/example/kortkod/kortkod/coding/AdaptiveTree", [("weights", "[I", (.ref aw)), ("nodes", "[I", (.ref an)), ("parents", "[I", (.ref ap)), ("leaves", "[I", .null), ("nodeCount", "I", (.int 0)), ("sortedLeaves", "[J", .null), ("innerWeights", "[I", .null), ("limit", "I", (.int 0))])), (aw, .inr (.inl (List.replicate 513 0))), (an, .inr (.inl (List.replicate 513 0))), (ap, .inr (.inl (List.replicate 256 0)))]) (host := "") d1_28 (Or.inl (hw _ (List.mem_of_getElem? (i := 15) rfl))) (Or.inr ⟨(hw _ (List.mem_of_getElem? (i := 16) rfl)), rfl, rfl⟩) (hw _ (List.mem_of_getElem? (i := 1) rfl)) rfl rfl (by decide) rfl rfl rfl rfl ?_
  refine Go.aloadN (pc' := 32) d1_31 rfl rfl rfl ?_
  refine Go.sipush (pc' := 35) (v := (257 : Int32)) d1_32 rfl rfl ?_
  refine Go.newI (pc' := 37) (len := 257) (cells' := 4) (slots' := 1539) (W' := fun al => [(a0, .inl ("com/example/kortkod/kortkod/coding/AdaptiveTree", [("weights", "[I", (.ref aw)), ("nodes", "[I", (.ref an)), ("parents", "[I", (.ref ap)), ("leaves", "[I", .null), ("nodeCount", "I", (.int 0)), ("sortedLeaves", "[J", .null), ("innerWeights", "[I", .null), ("limit", "I", (.int 0))])), (aw, .inr (.inl (List.replicate 513 0))), (an, .inr (.inl (List.replicate 513 0))), (ap, .inr (.inl (List.replicate 256 0))), (al, .inr (.inl (List.replicate 257 0)))]) d1_35 (hw _ (List.mem_of_getElem? (i := 10) rfl)) (by decide) (by decide) (by decide) (by decide) (by decide) rfl rfl (fun _ => rfl) rfl (fun al => ?_)
  refine Go.putF (pc' := 40) (i := 0) (j := 3) (ty := (.array .int)) (W' := [(a0, .inl ("com/example/kortkod/kortkod/coding/AdaptiveTree", [("weights", "[I", (.ref aw)), ("nodes", "[I", (.ref an)), ("parents", "[I", (.ref ap)), ("leaves", "[I", (.ref al)), ("nodeCount", "I", (.int 0)), ("sortedLeaves", "[J", .null), ("innerWeights", "[I", .null), ("limit", "I", (.int 0))])), (aw, .inr (.inl (List.replicate 513 0))), (an, .inr (.inl (List.replicate 513 0))), (ap, .inr (.inl (List.replicate 256 0))), (al, .inr (.inl (List.replicate 257 0)))]) (host := "") d1_37 (Or.inl (hw _ (List.mem_of_getElem? (i := 17) rfl))) (Or.inr ⟨(hw _ (List.mem_of_getElem? (i := 18) rfl)), rfl, rfl⟩) (hw _ (List.mem_of_getElem? (i := 1) rfl)) rfl rfl (by decide) rfl rfl rfl rfl ?_
  refine Go.aloadN (pc' := 41) d1_40 rfl rfl rfl ?_
  refine Go.iconst (pc' := 42) (v := (1 : Int32)) d1_41 rfl rfl ?_
  refine Go.putF (pc' := 45) (i := 0) (j := 4) (ty := .int) (W' := [(a0, .inl ("com/example/kortkod/kortkod/coding/AdaptiveTree", [("weights", "[I", (.ref aw)), ("nodes", "[I", (.ref an)), ("parents", "[I", (.ref ap)), ("leaves", "[I", (.ref al)), ("nodeCount", "I", (.int (1 : Int32))), ("sortedLeaves", "[J", .null), ("innerWeights", "[I", .null), ("limit", "I", (.int 0))])), (aw, .inr (.inl (List.replicate 513 0))), (an, .inr (.inl (List.replicate 513 0))), (ap, .inr (.inl (List.replicate 256 0))), (al, .inr (.inl (List.replicate 257 0)))]) (host := "") d1_42 (Or.inl (hw _ (List.mem_of_getElem? (i := 19) rfl))) (Or.inl (hw _ (List.mem_of_getElem? (i := 20) rfl))) (hw _ (List.mem_of_getElem? (i := 1) rfl)) rfl rfl (by decide) rfl rfl rfl rfl ?_
  refine Go.aloadN (pc' := 46) d1_45 rfl rfl rfl ?_
  refine Go.sipush (pc' := 49) (v := (257 : Int32)) d1_46 rfl rfl ?_
  refine Go.newJ (pc' := 51) (len := 257) (cells' := 5) (slots' := 1796) (W' := fun sl => [(a0, .inl ("com/example/kortkod/kortkod/coding/AdaptiveTree", [("weights", "[I", (.ref aw)), ("nodes", "[I", (.ref an)), ("parents", "[I", (.ref ap)), ("leaves", "[I", (.ref al)), ("nodeCount", "I", (.int (1 : Int32))), ("sortedLeaves", "[J", .null), ("innerWeights", "[I", .null), ("limit", "I", (.int 0))])), (aw, .inr (.inl (List.replicate 513 0))), (an, .inr (.inl (List.replicate 513 0))), (ap, .inr (.inl (List.replicate 256 0))), (al, .inr (.inl (List.replicate 257 0))), (sl, .inr (.inr (List.replicate 257 0)))]) d1_49 (hw _ (List.mem_of_getElem? (i := 21) rfl)) (by decide) (by decide) (by decide) (by decide) (by decide) rfl rfl (fun _ => rfl) rfl (fun sl => ?_)
  refine Go.putF (pc' := 54) (i := 0) (j := 5) (ty := (.array .long)) (W' := [(a0, .inl ("com/example/kortkod/kortkod/coding/AdaptiveTree", [("weights", "[I", (.ref aw)), ("nodes", "[I", (.ref an)), ("parents", "[I", (.ref ap)), ("leaves", "[I", (.ref al)), ("nodeCount", "I", (.int (1 : Int32))), ("sortedLeaves", "[J", (.ref sl)), ("innerWeights", "[I", .null), ("limit", "I", (.int 0))])), (aw, .inr (.inl (List.replicate 513 0))), (an, .inr (.inl (List.replicate 513 0))), (ap, .inr (.inl (List.replicate 256 0))), (al, .inr (.inl (List.replicate 257 0))), (sl, .inr (.inr (List.replicate 257 0)))]) (host := "") d1_51 (Or.inl (hw _ (List.mem_of_getElem? (i := 22) rfl))) (Or.inr ⟨(hw _ (List.mem_of_getElem? (i := 23) rfl)), rfl, rfl⟩) (hw _ (List.mem_of_getElem? (i := 1) rfl)) rfl rfl (by decide) rfl rfl rfl rfl ?_
  refine Go.aloadN (pc' := 55) d1_54 rfl rfl rfl ?_
  refine Go.sipush (pc' := 58) (v := (256 : Int32)) d1_55 rfl rfl ?_
  refine Go.newI (pc' := 60) (len := 256) (cells' := 6) (slots' := 2052) (W' := fun ai => [(a0, .inl ("com/example/kortkod/kortkod/coding/AdaptiveTree", [("weights", "[I", (.ref aw)), ("nodes", "[I", (.ref an)), ("parents", "[I", (.ref ap)), ("leaves", "[I", (.ref al)), ("nodeCount", "I", (.int (1 : Int32))), ("sortedLeaves", "[J", (.ref sl)), ("innerWeights", "[I", .null), ("limit", "I", (.int 0))])), (aw, .inr (.inl (List.replicate 513 0))), (an, .inr (.inl (List.replicate 513 0))), (ap, .inr (.inl (List.replicate 256 0))), (al, .inr (.inl (List.replicate 257 0))), (sl, .inr (.inr (List.replicate 257 0))), (ai, .inr (.inl (List.replicate 256 0)))]) d1_58 (hw _ (List.mem_of_getElem? (i := 10) rfl)) (by decide) (by decide) (by decide) (by decide) (by decide) rfl rfl (fun _ => rfl) rfl (fun ai => ?_)
  refine Go.putF (pc' := 63) (i := 0) (j := 6) (ty := (.array .int)) (W' := [(a0, .inl ("com/example/kortkod/kortkod/coding/AdaptiveTree", [("weights", "[I", (.ref aw)), ("nodes", "[I", (.ref an)), ("parents", "[I", (.ref ap)), ("leaves", "[I", (.ref al)), ("nodeCount", "I", (.int (1 : Int32))), ("sortedLeaves", "[J", (.ref sl)), ("innerWeights", "[I", (.ref ai)), ("limit", "I", (.int 0))])), (aw, .inr (.inl (List.replicate 513 0))), (an, .inr (.inl (List.replicate 513 0))), (ap, .inr (.inl (List.replicate 256 0))), (al, .inr (.inl (List.replicate 257 0))), (sl, .inr (.inr (List.replicate 257 0))), (ai, .inr (.inl (List.replicate 256 0)))]) (host := "") d1_60 (Or.inl (hw _ (List.mem_of_getElem? (i := 24) rfl))) (Or.inr ⟨(hw _ (List.mem_of_getElem? (i := 25) rfl)), rfl, rfl⟩) (hw _ (List.mem_of_getElem? (i := 1) rfl)) rfl rfl (by decide) rfl rfl rfl rfl ?_
  refine Go.aloadN (pc' := 64) d1_63 rfl rfl rfl ?_
  refine Go.iloadN (pc' := 65) d1_64 rfl rfl ?_
  refine Go.putF (pc' := 68) (i := 0) (j := 7) (ty := .int) (W' := [(a0, .inl ("com/example/kortkod/kortkod/coding/AdaptiveTree", [("weights", "[I", (.ref aw)), ("nodes", "[I", (.ref an)), ("parents", "[I", (.ref ap)), ("leaves", "[I", (.ref al)), ("nodeCount", "I", (.int (1 : Int32))), ("sortedLeaves", "[J", (.ref sl)), ("innerWeights", "[I", (.ref ai)), ("limit", "I", (.int p1))])), (aw, .inr (.inl (List.replicate 513 0))), (an, .inr (.inl (List.replicate 513 0))), (ap, .inr (.inl (List.replicate 256 0))), (al, .inr (.inl (List.replicate 257 0))), (sl, .inr (.inr (List.replicate 257 0))), (ai, .inr (.inl (List.replicate 256 0)))]) (host := "") d1_65 (Or.inl (hw _ (List.mem_of_getElem? (i := 26) rfl))) (Or.inr ⟨(hw _ (List.mem_of_getElem? (i := 27) rfl)), rfl, rfl⟩) (hw _ (List.mem_of_getElem? (i := 1) rfl)) rfl rfl (by decide) rfl rfl rfl rfl ?_
  refine Go.aloadN (pc' := 69) d1_68 rfl rfl rfl ?_
  refine Go.getF (pc' := 72) (i := 0) (j := 3) (v := (.ref al)) (host := "") d1_69 (Or.inl (hw _ (List.mem_of_getElem? (i := 17) rfl))) rfl rfl rfl ?_
  refine Go.iconst (pc' := 73) (v := (-1 : Int32)) d1_72 rfl rfl ?_
  refine Go.callS (pc' := 76) (W1 := 0) (cells' := 6) (slots' := 2052) (argsL := [(.ref al), (.int (-1 : Int32))]) (rest := []) (y' := (⟨"java/util/Arrays", "fill", "([II)V"⟩ : MethodName)) d1_73 (hw _ (List.mem_of_getElem? (i := 28) rfl)) (hw _ (List.mem_of_getElem? (i := 29) rfl)) (hw _ (List.mem_of_getElem? (i := 30) rfl)) (hw _ (List.mem_of_getElem? (i := 31) rfl)) (by decide) (rm3 l Z n0 w0 hw al (-1 : Int32) a0 aw an ap sl ai (.inl ("com/example/kortkod/kortkod/coding/AdaptiveTree", [("weights", "[I", (.ref aw)), ("nodes", "[I", (.ref an)), ("parents", "[I", (.ref ap)), ("leaves", "[I", (.ref al)), ("nodeCount", "I", (.int (1 : Int32))), ("sortedLeaves", "[J", (.ref sl)), ("innerWeights", "[I", (.ref ai)), ("limit", "I", (.int p1))])) (.inr (.inl (List.replicate 513 0))) (.inr (.inl (List.replicate 513 0))) (.inr (.inl (List.replicate 256 0))) (.inr (.inr (List.replicate 257 0))) (.inr (.inl (List.replicate 256 0))) 300 (List.replicate 257 0) (List.replicate 257 (-1)) own_fill) (by decide) (by decide) rfl (lenOf pd__28_5bII_29V rfl) rfl (Nat.le_of_eq rfl) (by decide) (by decide) rfl rfl rfl (fun v W' hF => ?_)
  obtain ⟨rfl, rfl⟩ := hF
  refine Go.nov ?_
  refine Go.less (W' := (TW a0 aw an ap al sl ai p1 ((1 : Int32), (List.replicate 513 0), (List.replicate 513 0), (List.replicate 256 0), (List.replicate 257 (-1))))) (List.Sublist.cons_cons _ (List.Sublist.cons_cons _ (List.Sublist.cons_cons _ (List.Sublist.cons_cons _ (List.Sublist.cons_cons _ (List.Sublist.cons _ (List.Sublist.cons _ List.Sublist.slnil))))))) ?_
  refine Go.aloadN (pc' := 77) d1_76 rfl rfl rfl ?_
  refine Go.iconst (pc' := 78) (v := (0 : Int32)) d1_77 rfl rfl ?_
  refine Go.sipush (pc' := 81) (v := (-257 : Int32)) d1_78 rfl rfl ?_
  refine Go.callP (pc' := 84) (W1 := 0) (cells' := 6) (slots' := 2052) (argsL := [(.int (0 : Int32)), (.int (-257 : Int32))]) (rest := []) (y' := (⟨"com/example/kortkod/kortkod/coding/AdaptiveTree", "place", "(II)V"⟩ : MethodName)) (a := a0) (i := 0) d1_81 (hw _ (List.mem_of_getElem? (i := 32) rfl)) (hw _ (List.mem_of_getElem? (i := 33) rfl)) (hw _ (List.mem_of_getElem? (i := 34) rfl)) (hw _ (List.mem_of_getElem? (i := 1) rfl)) (hw _ (List.mem_of_getElem? (i := 2) rfl)) (hw _ (List.mem_of_getElem? (i := 35) rfl)) (by decide) rfl (rm4 l Z n0 w0 hw a0 (0 : Int32) (-257 : Int32) aw an ap al sl ai p1 (1 : Int32) (List.replicate 513 0) (List.replicate 513 0) (List.replicate 256 0) (List.replicate 257 (-1)) s0 own_place0) (by decide) (by decide) rfl (lenOf pd__28II_29V rfl) rfl (Nat.le_of_eq rfl) (by decide) (by decide) rfl rfl rfl (fun v W' hF => ?_)
  obtain ⟨rfl, rfl⟩ := hF
  refine Go.nov ?_
  exact Go.retV d1_84 rfl (by decide) (by decide) ⟨rfl, _, _, _, _, _, _, rfl⟩
/-! what up to three adds leave -/
def Mp (n : Int32) (xs : List Int32) (P : Int32 → Int32) : Prop := ∀ i, ¬ i < 0 → i < n → rdA xs i = some (P i)
def pt (P : Int32 → Int32) (i x : Int32) : Int32 → Int32 := fun u => if u = i then x else P u
theorem pt_same (P : Int32 → Int32) (i x : Int32) : pt P i x i = x := if_pos rfl
theorem pt_other (P : Int32 → Int32) {i u : Int32} (x : Int32) (h : ¬ u = i) : pt P i x u = P u := if_neg h
theorem own_nat_inj {i j : Int32} (hi : ¬ i < 0) (hj : ¬ j < 0) (e : i.toNatClampNeg = j.toNatClampNeg) : i = j := by
  have h0 : (0 : Int32).toInt = 0 := rfl
  rw [Int32.lt_iff_toInt_lt] at hi hj
  apply Int32.toInt_inj.mp
  have e1 : i.toInt.toNat = j.toInt.toNat := e
  omega
theorem Mp.wr {n : Int32} {xs : List Int32} {P : Int32 → Int32} {i : Int32} (M : Mp n xs P) (h0 : ¬ i < 0) (h1 : i < n) (x : Int32) : ∃ ys, wrA xs i x = some ys ∧ Mp n ys (pt P i x) := by
  have hlt := (List.getElem?_eq_some_iff.mp (rdA_some (M i h0 h1)).2).1
  refine ⟨xs.set i.toNatClampNeg x, by rw [wrA, if_neg h0, if_pos hlt], fun j hj hn => ?_⟩
  rw [rdA, if_neg hj, pt]
  by_cases q : j = i
  · subst q; rw [if_pos rfl, List.getElem?_set_self hlt]
  · rw [if_neg q, List.getElem?_set_ne (fun e => q (own_nat_inj hj h0 e.symm)), (rdA_some (M j hj hn)).2]
theorem own_not (x : Int32) : x ^^^ (-1) = ~~~x := by
  apply Int32.toBitVec_inj.mp
  rw [Int32.toBitVec_xor, Int32.toBitVec_not]
  exact BitVec.xor_allOnes
theorem own_toInt_not (x : Int32) : (x ^^^ (-1)).toInt = -x.toInt - 1 := by
  rw [own_not, Int32.toInt_not]
  have h1 := Int32.toInt_lt x
  have h2 := Int32.le_toInt x
  exact Int.bmod_eq_of_le (by omega) (by omega)
theorem own_neg {x : Int32} (h : ¬ x < 0) : (x ^^^ (-1)) < 0 := by
  have h0 : (0 : Int32).toInt = 0 := rfl
  rw [Int32.lt_iff_toInt_lt] at *
  rw [own_toInt_not]; omega
theorem own_xx (x : Int32) : (x ^^^ (-1)) ^^^ (-1) = x := by rw [Int32.xor_assoc, show (-1 : Int32) ^^^ (-1) = 0 by decide, Int32.xor_zero]
theorem place_leaf {nc : Int32} {w nd pa le : List Int32} {Q P : Int32 → Int32} {i x : Int32} (MN : Mp 513 nd Q) (ML : Mp 257 le P) (hi0 : ¬ i < 0) (hi1 : i < 513) (hx0 : ¬ x < 0) (hx1 : x < 257) : ∃ nd' le', placeF (nc, w, nd, pa, le) i (x ^^^ (-1)) = some (nc, w, nd', pa, le') ∧ Mp 513 nd' (pt Q i (x ^^^ (-1))) ∧ Mp 257 le' (pt P x i) := by
  obtain ⟨nd', h1, M1⟩ := MN.wr hi0 hi1 (x ^^^ (-1))
  obtain ⟨le', h2, M2⟩ := ML.wr hx0 hx1 i
  refine ⟨nd', le', ?_, M1, M2⟩
  dsimp only [placeF]
  rw [h1]
  show (if (x ^^^ (-1)) < 0 then _ else _) = _
  rw [if_pos (own_neg hx0), own_xx, h2]; rfl
theorem place_node {nc : Int32} {w nd pa pa' le : List Int32} {Q : Int32 → Int32} {i v : Int32} (MN : Mp 513 nd Q) (hi0 : ¬ i < 0) (hi1 : i < 513) (hv : ¬ v < 0) (hp : wrA pa ((v - 1) >>> (1 &&& 31)) i = some pa') : ∃ nd', placeF (nc, w, nd, pa, le) i v = some (nc, w, nd', pa', le) ∧ Mp 513 nd' (pt Q i v) := by
  obtain ⟨nd', h1, M1⟩ := MN.wr hi0 hi1 v
  refine ⟨nd', ?_, M1⟩
  dsimp only [placeF]
  rw [h1]
  show (if v < 0 then _ else _) = _
  rw [if_neg hv, hp]; rfl
theorem split_ok {nc : Int32} {w nd pa pa' le : List Int32} {Q P : Int32 → Int32} {x z : Int32} (MN : Mp 513 nd Q) (ML : Mp 257 le P) (hx0 : ¬ x < 0) (hx1 : x < 257) (hz : P 256 = z) (hz0 : ¬ z < 0) (hz1 : z < 513) (a1 : ¬ nc < 0) (a2 : nc < 513) (a3 : ¬ nc + 1 < 0) (a4 : nc + 1 < 513) (hp : wrA pa ((nc - 1) >>> (1 &&& 31)) z = some pa') :
    ∃ nd' le', splitF (nc, w, nd, pa, le) x = some ((nc + 2, w, nd', pa', le'), nc) ∧ Mp 513 nd' (pt (pt (pt Q z nc) nc (x ^^^ (-1))) (nc + 1) (-257)) ∧ Mp 257 le' (pt (pt P x nc) 256 (nc + 1)) := by
  obtain ⟨nd1, h1, M1⟩ := place_node (nc := nc + 2) (w := w) (le := le) MN hz0 hz1 a1 hp
  obtain ⟨nd2, le2, h2, M2, K2⟩ := place_leaf (nc := nc + 2) (w := w) (pa := pa') M1 ML a1 a2 hx0 hx1
  obtain ⟨nd3, le3, h3, M3, K3⟩ := place_leaf (nc := nc + 2) (w := w) (pa := pa') (x := 256) M2 K2 a3 a4 (by decide) (by decide)
  refine ⟨nd3, le3, ?_, M3, K3⟩
  dsimp only [splitF]
  rw [ML 256 (by decide) (by decide), hz]
  show (placeF (nc + 2, w, nd, pa, le) z nc).bind _ = _
  rw [h1]
  show (placeF (nc + 2, w, nd1, pa', le) nc (x ^^^ (-1))).bind _ = _
  rw [h2]
  show (placeF (nc + 2, w, nd2, pa', le2) (nc + 1) (256 ^^^ (-1))).bind _ = _
  rw [h3]; rfl
theorem step_end {f : Nat} {nc : Int32} {w w' nd pa le : List Int32} {x : Int32} (h1 : rdA w 0 = some x) (h2 : wrA w 0 (x + 1) = some w') : updF (f + 1) (nc, w, nd, pa, le) 0 = some (nc, w', nd, pa, le) := by
  rw [updF]; dsimp only; rw [if_pos rfl, h1]
  show (wrA w 0 (x + 1)).bind _ = _
  rw [h2]; rfl
theorem step_stay {f : Nat} {nc : Int32} {w w' nd pa le : List Int32} {n m x q : Int32} {r : Option Tr} (hn : ¬ n = 0) (hm : leadF w n = some m) (hs : m = n ∨ rdA pa ((n - 1) >>> (1 &&& 31)) = some m) (hx : rdA w n = some x) (hw : wrA w n (x + 1) = some w') (hq : rdA pa ((n - 1) >>> (1 &&& 31)) = some q) (k : updF f (nc, w', nd, pa, le) q = r) : updF (f + 1) (nc, w, nd, pa, le) n = r := by
  have e : (if m = n then some (((nc, w, nd, pa, le) : Tr), n) else (rdA pa ((n - 1) >>> (1 &&& 31))).bind fun q => if m = q then some (((nc, w, nd, pa, le) : Tr), n) else (swapF (nc, w, nd, pa, le) n m).bind fun s1 => some (s1, m)) = some (((nc, w, nd, pa, le) : Tr), n) := by
    by_cases g : m = n
    · rw [if_pos g]
    · rw [if_neg g]
      rcases hs with hs | hs
      · exact absurd hs g
      · rw [hs]
        show (if m = m then _ else _) = _
        rw [if_pos rfl]
  rw [updF]; dsimp only; rw [if_neg hn, hm]
  show Option.bind (if m = n then _ else _) _ = _
  rw [e]
  show (rdA w n).bind _ = _
  rw [hx]
  show (wrA w n (x + 1)).bind _ = _
  rw [hw]
  show (rdA pa ((n - 1) >>> (1 &&& 31))).bind _ = _
  rw [hq]; exact k
theorem step_swap {f : Nat} {nc : Int32} {w w' nd nd' pa pa' le le' : List Int32} {n m x q u : Int32} {r : Option Tr} (hn : ¬ n = 0) (hm : leadF w n = some m) (h1 : ¬ m = n) (hu : rdA pa ((n - 1) >>> (1 &&& 31)) = some u) (h2 : ¬ m = u) (hs : swapF (nc, w, nd, pa, le) n m = some (nc, w, nd', pa', le')) (hx : rdA w m = some x) (hw : wrA w m (x + 1) = some w') (hq : rdA pa' ((m - 1) >>> (1 &&& 31)) = some q) (k : updF f (nc, w', nd', pa', le') q = r) : updF (f + 1) (nc, w, nd, pa, le) n = r := by
  rw [updF]; dsimp only; rw [if_neg hn, hm]
  show Option.bind (if m = n then _ else _) _ = _
  rw [if_neg h1, hu]
  show Option.bind (if m = u then _ else _) _ = _
  rw [if_neg h2, hs]
  show (rdA w m).bind _ = _
  rw [hx]
  show (wrA w m (x + 1)).bind _ = _
  rw [hw]
  show (rdA pa' ((m - 1) >>> (1 &&& 31))).bind _ = _
  rw [hq]; exact k
theorem add_new {lim nc nc2 : Int32} {w nd pa le w2 nd2 pa2 le2 : List Int32} {P : Int32 → Int32} {x n u : Int32} {s1 : Tr} (hv : rdA le x = some (-1)) (h1 : splitF (nc, w, nd, pa, le) x = some (s1, n)) (h2 : updF 8 s1 n = some (nc2, w2, nd2, pa2, le2)) (h3 : rdA w2 0 = some u) (h4 : u < lim) : addF lim (nc, w, nd, pa, le) x = some (nc2, w2, nd2, pa2, le2) := by
  dsimp only [addF]
  rw [hv, Option.bind_some, if_pos rfl, h1, Option.bind_some, h2, Option.bind_some, h3, Option.bind_some, if_pos h4]
theorem add_old {lim nc nc2 : Int32} {w nd pa le w2 nd2 pa2 le2 : List Int32} {x v u : Int32} (hv : rdA le x = some v) (h1 : ¬ v = -1) (h2 : updF 8 (nc, w, nd, pa, le) v = some (nc2, w2, nd2, pa2, le2)) (h3 : rdA w2 0 = some u) (h4 : u < lim) : addF lim (nc, w, nd, pa, le) x = some (nc2, w2, nd2, pa2, le2) := by
  dsimp only [addF]
  rw [hv, Option.bind_some, if_neg h1, Option.bind_some, h2, Option.bind_some, h3, Option.bind_some, if_pos h4]
def Wv (xs : List Int32) : List Int32 := xs ++ List.replicate (513 - xs.length) 0
def Pv (xs : List Int32) : List Int32 := xs ++ List.replicate (256 - xs.length) 0
def P0 : Int32 → Int32 := pt (fun _ => -1) 256 0
def Q0 : Int32 → Int32 := pt (fun _ => 0) 0 (-257)
theorem own_nat {i n : Int32} (h0 : ¬ i < 0) (h : i < n) : i.toNatClampNeg < n.toNatClampNeg := by
  have e0 : (0 : Int32).toInt = 0 := rfl
  rw [Int32.lt_iff_toInt_lt] at *
  show i.toInt.toNat < n.toInt.toNat
  omega
theorem Mp.rep {n v : Int32} {k : Nat} (hk : n.toNatClampNeg = k) : Mp n (List.replicate k v) (fun _ => v) := fun i h0 h1 => by
  rw [rdA, if_neg h0, List.getElem?_replicate, if_pos (by rw [← hk]; exact own_nat h0 h1)]
theorem Mp.put {n : Int32} {xs : List Int32} {P : Int32 → Int32} {i x : Int32} {k : Nat} (M : Mp n xs P) (h0 : ¬ i < 0) (h1 : i < n) (hk : i.toNatClampNeg = k) : Mp n (xs.set k x) (pt P i x) := by
  obtain ⟨ys, e, M'⟩ := M.wr h0 h1 x
  obtain ⟨-, -, e2⟩ := wrA_some e
  rw [← hk, e2]; exact M'
theorem own_le0 : Mp 257 s0.2.2.2.2 P0 := (Mp.rep (by decide)).put (by decide) (by decide) (by decide)
theorem own_nd0 : Mp 513 s0.2.2.1 Q0 := (Mp.rep (by decide)).put (by decide) (by decide) (by decide)
theorem own_s0 : s0 = (1, Wv [], s0.2.2.1, Pv [], s0.2.2.2.2) := by decide +kernel
/-- a symbol -/
def Sy (x : Int32) : Prop := ¬ x < 0 ∧ x < 256
theorem Sy.lt {x : Int32} (h : Sy x) : x < 257 := by
  have := h.2; rw [Int32.lt_iff_toInt_lt] at *
  have e1 : (256 : Int32).toInt = 256 := rfl
  have e2 : (257 : Int32).toInt = 257 := rfl
  omega
theorem Sy.ne {x : Int32} (h : Sy x) : ¬ x = 256 := fun e => by have := h.2; rw [e] at this; exact absurd this (by decide)
def P1 (a : Int32) : Int32 → Int32 := pt (pt P0 a 1) 256 2
def Q1 (a : Int32) : Int32 → Int32 := pt (pt (pt Q0 0 1) 1 (a ^^^ (-1))) 2 (-257)
theorem adds1 {lim a : Int32} (ha : Sy a) (hl : (3 : Int32) < lim) : ∃ nd le, addF lim s0 a = some (3, Wv [1, 1], nd, Pv [], le) ∧ Mp 513 nd (Q1 a) ∧ Mp 257 le (P1 a) := by
  have l1 : (1 : Int32) < lim := Int32.lt_trans (by decide) hl
  obtain ⟨nd, le, h, MN, ML⟩ := split_ok (nc := 1) (w := Wv []) (pa := Pv []) (pa' := Pv []) (z := 0) own_nd0 own_le0 ha.1 ha.lt rfl (by decide) (by decide) (by decide) (by decide) (by decide) (by decide) (by decide +kernel)
  refine ⟨nd, le, ?_, MN, ML⟩
  rw [own_s0]
  refine add_new (P := P0) (n := 1) (u := 1) ((own_le0 a ha.1 ha.lt).trans (congrArg some (pt_other _ _ ha.ne))) h ?_ (by decide +kernel) l1
  refine step_stay (m := 0) (x := 0) (q := 0) (w' := Wv [0, 1]) (by decide) (by decide +kernel) (Or.inr (by decide +kernel)) (by decide +kernel) (by decide +kernel) (by decide +kernel) ?_
  exact step_end (x := 0) (by decide +kernel) (by decide +kernel)
theorem adds_aa {lim a : Int32} {nd le : List Int32} (ha : Sy a) (hl : (3 : Int32) < lim) (ML : Mp 257 le (P1 a)) : addF lim (3, Wv [1, 1], nd, Pv [], le) a = some (3, Wv [2, 2], nd, Pv [], le) := by
  have e : P1 a a = 1 := (pt_other _ _ ha.ne).trans (pt_same _ _ _)
  refine add_old (v := 1) (u := 2) ((ML a ha.1 ha.lt).trans (congrArg some e)) (by decide) ?_ (by decide +kernel) (Int32.lt_trans (by decide) hl)
  refine step_stay (m := 0) (x := 1) (q := 0) (w' := Wv [1, 2]) (by decide) (by decide +kernel) (Or.inr (by decide +kernel)) (by decide +kernel) (by decide +kernel) (by decide +kernel) ?_
  exact step_end (x := 1) (by decide +kernel) (by decide +kernel)
theorem adds_aaa {lim a : Int32} {nd le : List Int32} (ha : Sy a) (hl : (3 : Int32) < lim) (ML : Mp 257 le (P1 a)) : addF lim (3, Wv [2, 2], nd, Pv [], le) a = some (3, Wv [3, 3], nd, Pv [], le) := by
  have e : P1 a a = 1 := (pt_other _ _ ha.ne).trans (pt_same _ _ _)
  refine add_old (v := 1) (u := 3) ((ML a ha.1 ha.lt).trans (congrArg some e)) (by decide) ?_ (by decide +kernel) hl
  refine step_stay (m := 0) (x := 2) (q := 0) (w' := Wv [2, 3]) (by decide) (by decide +kernel) (Or.inr (by decide +kernel)) (by decide +kernel) (by decide +kernel) (by decide +kernel) ?_
  exact step_end (x := 2) (by decide +kernel) (by decide +kernel)
def P2 (a b : Int32) : Int32 → Int32 := pt (pt (P1 a) b 3) 256 4
def Q2 (a b : Int32) : Int32 → Int32 := pt (pt (pt (Q1 a) 2 3) 3 (b ^^^ (-1))) 4 (-257)
theorem own_P1 {a b : Int32} (hb : Sy b) (ne : ¬ b = a) : P1 a b = -1 := (pt_other _ _ hb.ne).trans ((pt_other _ _ ne).trans (pt_other _ _ hb.ne))
theorem adds_ab {lim a b : Int32} {nd le : List Int32} (hb : Sy b) (ne : ¬ b = a) (hl : (3 : Int32) < lim) (MN : Mp 513 nd (Q1 a)) (ML : Mp 257 le (P1 a)) : ∃ nd' le', addF lim (3, Wv [1, 1], nd, Pv [], le) b = some (5, Wv [2, 1, 1, 1], nd', Pv [0, 2], le') ∧ Mp 513 nd' (Q2 a b) ∧ Mp 257 le' (P2 a b) := by
  obtain ⟨nd', le', h, MN', ML'⟩ := split_ok (nc := 3) (w := Wv [1, 1]) (pa := Pv []) (pa' := Pv [0, 2]) (z := 2) MN ML hb.1 hb.lt (pt_same _ _ _) (by decide) (by decide) (by decide) (by decide) (by decide) (by decide) (by decide +kernel)
  refine ⟨nd', le', ?_, MN', ML'⟩
  refine add_new (P := P1 a) (n := 3) (u := 2) ((ML b hb.1 hb.lt).trans (congrArg some (own_P1 hb ne))) h ?_ (by decide +kernel) (Int32.lt_trans (by decide) hl)
  refine step_stay (m := 2) (x := 0) (q := 2) (w' := Wv [1, 1, 0, 1]) (by decide) (by decide +kernel) (Or.inr (by decide +kernel)) (by decide +kernel) (by decide +kernel) (by decide +kernel) ?_
  refine step_stay (m := 2) (x := 0) (q := 0) (w' := Wv [1, 1, 1, 1]) (by decide) (by decide +kernel) (Or.inl rfl) (by decide +kernel) (by decide +kernel) (by decide +kernel) ?_
  exact step_end (x := 1) (by decide +kernel) (by decide +kernel)
theorem adds_aab {lim a b : Int32} {nd le : List Int32} (hb : Sy b) (ne : ¬ b = a) (hl : (3 : Int32) < lim) (MN : Mp 513 nd (Q1 a)) (ML : Mp 257 le (P1 a)) : ∃ nd' le', addF lim (3, Wv [2, 2], nd, Pv [], le) b = some (5, Wv [3, 2, 1, 1], nd', Pv [0, 2], le') ∧ Mp 257 le' (P2 a b) := by
  obtain ⟨nd', le', h, MN', ML'⟩ := split_ok (nc := 3) (w := Wv [2, 2]) (pa := Pv []) (pa' := Pv [0, 2]) (z := 2) MN ML hb.1 hb.lt (pt_same _ _ _) (by decide) (by decide) (by decide) (by decide) (by decide) (by decide) (by decide +kernel)
  refine ⟨nd', le', ?_, ML'⟩
  refine add_new (P := P1 a) (n := 3) (u := 3) ((ML b hb.1 hb.lt).trans (congrArg some (own_P1 hb ne))) h ?_ (by decide +kernel) hl
  refine step_stay (m := 2) (x := 0) (q := 2) (w' := Wv [2, 2, 0, 1]) (by decide) (by decide +kernel) (Or.inr (by decide +kernel)) (by decide +kernel) (by decide +kernel) (by decide +kernel) ?_
  refine step_stay (m := 2) (x := 0) (q := 0) (w' := Wv [2, 2, 1, 1]) (by decide) (by decide +kernel) (Or.inl rfl) (by decide +kernel) (by decide +kernel) (by decide +kernel) ?_
  exact step_end (x := 2) (by decide +kernel) (by decide +kernel)
theorem own_P2a {a b : Int32} (ha : Sy a) (ne : ¬ b = a) : P2 a b a = 1 := (pt_other _ _ ha.ne).trans ((pt_other _ _ (fun e => ne e.symm)).trans ((pt_other _ _ ha.ne).trans (pt_same _ _ _)))
theorem own_P2b {a b : Int32} (hb : Sy b) : P2 a b b = 3 := (pt_other _ _ hb.ne).trans (pt_same _ _ _)
theorem adds_aba {lim a b : Int32} {nd le : List Int32} (ha : Sy a) (ne : ¬ b = a) (hl : (3 : Int32) < lim) (ML : Mp 257 le (P2 a b)) : addF lim (5, Wv [2, 1, 1, 1], nd, Pv [0, 2], le) a = some (5, Wv [3, 2, 1, 1], nd, Pv [0, 2], le) := by
  refine add_old (v := 1) (u := 3) ((ML a ha.1 ha.lt).trans (congrArg some (own_P2a ha ne))) (by decide) ?_ (by decide +kernel) hl
  refine step_stay (m := 1) (x := 1) (q := 0) (w' := Wv [2, 2, 1, 1]) (by decide) (by decide +kernel) (Or.inl rfl) (by decide +kernel) (by decide +kernel) (by decide +kernel) ?_
  exact step_end (x := 2) (by decide +kernel) (by decide +kernel)
theorem adds_abb {lim a b : Int32} {nd le : List Int32} (ha : Sy a) (hb : Sy b) (ne : ¬ b = a) (hl : (3 : Int32) < lim) (MN : Mp 513 nd (Q2 a b)) (ML : Mp 257 le (P2 a b)) : ∃ nd' le', addF lim (5, Wv [2, 1, 1, 1], nd, Pv [0, 2], le) b = some (5, Wv [3, 2, 1, 1], nd', Pv [0, 2], le') ∧ Mp 257 le' (pt (pt (P2 a b) a 3) b 1) := by
  obtain ⟨nd1, le1, h1, MN1, ML1⟩ := place_leaf (nc := 5) (w := Wv [2, 1, 1, 1]) (pa := Pv [0, 2]) (i := 3) MN ML (by decide) (by decide) ha.1 ha.lt
  obtain ⟨nd2, le2, h2, MN2, ML2⟩ := place_leaf (nc := 5) (w := Wv [2, 1, 1, 1]) (pa := Pv [0, 2]) (i := 1) MN1 ML1 (by decide) (by decide) hb.1 hb.lt
  refine ⟨nd2, le2, ?_, ML2⟩
  refine add_old (v := 3) (u := 3) ((ML b hb.1 hb.lt).trans (congrArg some (own_P2b hb))) (by decide) ?_ (by decide +kernel) hl
  refine step_swap (m := 1) (x := 1) (q := 0) (u := 2) (w' := Wv [2, 2, 1, 1]) (pa' := Pv [0, 2]) (nd' := nd2) (le' := le2) (by decide) (by decide +kernel) (by decide) (by decide +kernel) (by decide) ?_ (by decide +kernel) (by decide +kernel) (by decide +kernel) ?_
  · dsimp only [swapF]
    rw [MN 3 (by decide) (by decide), MN 1 (by decide) (by decide)]
    show (placeF (5, Wv [2, 1, 1, 1], nd, Pv [0, 2], le) 3 (a ^^^ (-1))).bind (fun s1 => placeF s1 1 (b ^^^ (-1))) = _
    rw [h1]; exact h2
  · exact step_end (x := 2) (by decide +kernel) (by decide +kernel)
theorem own_P2c {a b c : Int32} (hc : Sy c) (n1 : ¬ c = a) (n2 : ¬ c = b) : P2 a b c = -1 := (pt_other _ _ hc.ne).trans ((pt_other _ _ n2).trans (own_P1 hc n1))
theorem adds_abc {lim a b c : Int32} {nd le : List Int32} (ha : Sy a) (hb : Sy b) (hc : Sy c) (ne : ¬ b = a) (n1 : ¬ c = a) (n2 : ¬ c = b) (hl : (3 : Int32) < lim) (MN : Mp 513 nd (Q2 a b)) (ML : Mp 257 le (P2 a b)) : ∃ nd' le', addF lim (5, Wv [2, 1, 1, 1], nd, Pv [0, 2], le) c = some (7, Wv [3, 2, 1, 1, 1, 1], nd', Pv [0, 1, 4], le') ∧ Mp 257 le' (pt (pt (pt (P2 a b) c 5) 256 6) a 2) := by
  obtain ⟨nd1, le1, h, MN1, ML1⟩ := split_ok (nc := 5) (w := Wv [2, 1, 1, 1]) (pa := Pv [0, 2]) (pa' := Pv [0, 2, 4]) (z := 4) MN ML hc.1 hc.lt (pt_same _ _ _) (by decide) (by decide) (by decide) (by decide) (by decide) (by decide) (by decide +kernel)
  obtain ⟨nd2, le2, h2, MN2, ML2⟩ := place_leaf (nc := 7) (w := Wv [2, 1, 1, 1, 1, 1]) (pa := Pv [0, 2, 4]) (i := 2) MN1 ML1 (by decide) (by decide) ha.1 ha.lt
  obtain ⟨nd3, h3, MN3⟩ := place_node (nc := 7) (w := Wv [2, 1, 1, 1, 1, 1]) (pa := Pv [0, 2, 4]) (pa' := Pv [0, 1, 4]) (le := le2) (i := 1) (v := 3) MN2 (by decide) (by decide) (by decide) (by decide +kernel)
  refine ⟨nd3, le2, ?_, ML2⟩
  refine add_new (P := P2 a b) (n := 5) (u := 3) ((ML c hc.1 hc.lt).trans (congrArg some (own_P2c hc n1 n2))) h ?_ (by decide +kernel) hl
  refine step_stay (m := 4) (x := 0) (q := 4) (w' := Wv [2, 1, 1, 1, 0, 1]) (by decide) (by decide +kernel) (Or.inr (by decide +kernel)) (by decide +kernel) (by decide +kernel) (by decide +kernel) ?_
  refine step_stay (m := 4) (x := 0) (q := 2) (w' := Wv [2, 1, 1, 1, 1, 1]) (by decide) (by decide +kernel) (Or.inl rfl) (by decide +kernel) (by decide +kernel) (by decide +kernel) ?_
  refine step_swap (m := 1) (x := 1) (q := 0) (u := 0) (w' := Wv [2, 2, 1, 1, 1, 1]) (pa' := Pv [0, 1, 4]) (nd' := nd3) (le' := le2) (by decide) (by decide +kernel) (by decide) (by decide +kernel) (by decide) ?_ (by decide +kernel) (by decide +kernel) (by decide +kernel) ?_
  · dsimp only [swapF]
    rw [MN1 2 (by decide) (by decide), MN1 1 (by decide) (by decide)]
    show (placeF (7, Wv [2, 1, 1, 1, 1, 1], nd1, Pv [0, 2, 4], le1) 2 (a ^^^ (-1))).bind (fun s1 => placeF s1 1 3) = _
    rw [h2]; exact h3
  · exact step_end (x := 2) (by decide +kernel) (by decide +kernel)
theorem own_mask (x : Int32) (k m : Nat) (z : Int32) (hz : z.toBitVec.toNat = 2 ^ k - 1) (hk : k < 31) : 0 ≤ (x &&& z).toInt ∧ (x &&& z).toInt ≤ 2 ^ k - 1 := by
  have h : (x &&& z).toBitVec.toNat = x.toBitVec.toNat % 2 ^ k := by
    rw [Int32.toBitVec_and, BitVec.toNat_and, hz]
    exact Nat.and_two_pow_sub_one_eq_mod _ k
  have hp : 0 < 2 ^ k := Nat.two_pow_pos k
  have hl : x.toBitVec.toNat % 2 ^ k < 2 ^ k := Nat.mod_lt _ hp
  have hq : 2 ^ k ≤ 2 ^ 30 := Nat.pow_le_pow_right (by decide) (by omega)
  have h2 : (x &&& z).toInt = ((x &&& z).toBitVec.toNat : Int) := by
    show (x &&& z).toBitVec.toInt = _
    rw [BitVec.toInt_eq_toNat_cond, if_pos (by omega)]
  rw [h2, h]
  have e : ((2 ^ k : Nat) : Int) = (2 : Int) ^ k := by simp
  omega
theorem own_sy (x : Int32) : Sy (x &&& 255) := by
  have h := own_mask x 8 0 255 (by decide) (by decide)
  have e0 : (0 : Int32).toInt = 0 := rfl
  have e1 : (256 : Int32).toInt = 256 := rfl
  constructor
  · rw [Int32.lt_iff_toInt_lt]; omega
  · rw [Int32.lt_iff_toInt_lt]; omega
theorem own_lim (x : Int32) : (3 : Int32) < 257 + (x &&& 1048575) := by
  have h := own_mask x 20 0 1048575 (by decide) (by decide)
  have e0 : (3 : Int32).toInt = 3 := rfl
  have e1 : (257 : Int32).toInt = 257 := rfl
  have e2 : ((257 : Int32) + (x &&& 1048575)).toInt = 257 + (x &&& 1048575).toInt := by
    rw [Int32.toInt_add, e1, Int.bmod_eq_of_le] <;> omega
  rw [Int32.lt_iff_toInt_lt]; omega
theorem own_up {k u v : Int32} (q : k < u) (h : u < v) : k < v := Int32.lt_trans q h
theorem own_h1 {x : Int32} (h : ¬ x = -1) : hldF x = 1 := if_neg h
theorem own_h0 {x : Int32} (h : x = -1) : hldF x = 0 := if_pos h
theorem own_pt_iff {P : Int32 → Int32} {i x u : Int32} (hx : ¬ x = -1) : ¬ pt P i x u = -1 ↔ (u = i ∨ ¬ P u = -1) := by
  unfold pt
  by_cases e : u = i
  · rw [if_pos e]; exact ⟨fun _ => Or.inl e, fun _ => hx⟩
  · rw [if_neg e]; exact ⟨Or.inr, fun h => h.elim (fun q => absurd q e) id⟩
theorem own_P0_iff {u : Int32} (hu : Sy u) : ¬ P0 u = -1 ↔ False := by
  have e : P0 u = -1 := pt_other _ _ hu.ne
  exact ⟨fun q => q e, False.elim⟩
theorem own_P1_iff {a u : Int32} (hu : Sy u) : ¬ P1 a u = -1 ↔ u = a := by
  rw [P1, own_pt_iff (by decide), own_pt_iff (by decide), own_P0_iff hu]
  exact ⟨fun h => h.elim (fun q => absurd q hu.ne) (fun q => q.elim id False.elim), fun h => Or.inr (Or.inl h)⟩
theorem own_P2_iff {a b u : Int32} (hu : Sy u) : ¬ P2 a b u = -1 ↔ (u = b ∨ u = a) := by
  rw [P2, own_pt_iff (by decide), own_pt_iff (by decide), own_P1_iff hu]
  exact ⟨fun h => h.elim (fun q => absurd q hu.ne) id, Or.inr⟩
section Last
variable {k a b c q : Int32}
theorem own_f1a (ha : Sy a) : ¬ P1 a a = -1 := (own_P1_iff ha).mpr rfl
theorem own_f2a (ha : Sy a) (e : ¬ b = a) : ¬ P2 a b a = -1 := (own_P2_iff ha).mpr (Or.inr rfl)
theorem own_f1 (hq : Sy q) (h1 : ¬ k < 1) (h2 : ¬ ¬ k < 2) (h3 : ¬ ¬ k < 3) : ¬ P1 a q = -1 ↔ ((¬ k < 1 ∧ q = a) ∨ (¬ k < 2 ∧ q = b) ∨ (¬ k < 3 ∧ q = c)) := by
  rw [own_P1_iff hq]
  exact ⟨fun e => Or.inl ⟨h1, e⟩, fun h => h.elim (·.2) (fun h => h.elim (fun h => absurd h.1 h2) (fun h => absurd h.1 h3))⟩
theorem own_f2s (hq : Sy q) (h1 : ¬ k < 1) (e1 : b = a) (h3 : ¬ ¬ k < 3) : ¬ P1 a q = -1 ↔ ((¬ k < 1 ∧ q = a) ∨ (¬ k < 2 ∧ q = b) ∨ (¬ k < 3 ∧ q = c)) := by
  rw [own_P1_iff hq]
  exact ⟨fun e => Or.inl ⟨h1, e⟩, fun h => h.elim (·.2) (fun h => h.elim (fun h => h.2.trans e1) (fun h => absurd h.1 h3))⟩
theorem own_f3s (hq : Sy q) (h1 : ¬ k < 1) (e1 : b = a) (e2 : c = a) : ¬ P1 a q = -1 ↔ ((¬ k < 1 ∧ q = a) ∨ (¬ k < 2 ∧ q = b) ∨ (¬ k < 3 ∧ q = c)) := by
  rw [own_P1_iff hq]
  exact ⟨fun e => Or.inl ⟨h1, e⟩, fun h => h.elim (·.2) (fun h => h.elim (fun h => h.2.trans e1) (fun h => h.2.trans e2))⟩
theorem own_f3d (hq : Sy q) (h1 : ¬ k < 1) (e1 : b = a) (h3 : ¬ k < 3) : ¬ P2 a c q = -1 ↔ ((¬ k < 1 ∧ q = a) ∨ (¬ k < 2 ∧ q = b) ∨ (¬ k < 3 ∧ q = c)) := by
  rw [own_P2_iff hq]
  exact ⟨fun h => h.elim (fun e => Or.inr (Or.inr ⟨h3, e⟩)) (fun e => Or.inl ⟨h1, e⟩), fun h => h.elim (fun h => Or.inr h.2) (fun h => h.elim (fun h => Or.inr (h.2.trans e1)) (fun h => Or.inl h.2))⟩
theorem own_f2d (hq : Sy q) (h1 : ¬ k < 1) (h2 : ¬ k < 2) (h3 : ¬ ¬ k < 3) : ¬ P2 a b q = -1 ↔ ((¬ k < 1 ∧ q = a) ∨ (¬ k < 2 ∧ q = b) ∨ (¬ k < 3 ∧ q = c)) := by
  rw [own_P2_iff hq]
  exact ⟨fun h => h.elim (fun e => Or.inr (Or.inl ⟨h2, e⟩)) (fun e => Or.inl ⟨h1, e⟩), fun h => h.elim (fun h => Or.inr h.2) (fun h => h.elim (fun h => Or.inl h.2) (fun h => absurd h.1 h3))⟩
theorem own_f3a (hq : Sy q) (h1 : ¬ k < 1) (h2 : ¬ k < 2) (e2 : c = a) : ¬ P2 a b q = -1 ↔ ((¬ k < 1 ∧ q = a) ∨ (¬ k < 2 ∧ q = b) ∨ (¬ k < 3 ∧ q = c)) := by
  rw [own_P2_iff hq]
  exact ⟨fun h => h.elim (fun e => Or.inr (Or.inl ⟨h2, e⟩)) (fun e => Or.inl ⟨h1, e⟩), fun h => h.elim (fun h => Or.inr h.2) (fun h => h.elim (fun h => Or.inl h.2) (fun h => Or.inr (h.2.trans e2)))⟩
theorem own_f3ba (ha : Sy a) (e : ¬ b = a) : ¬ pt (pt (P2 a b) a 3) b 1 a = -1 := by
  rw [own_pt_iff (by decide), own_pt_iff (by decide)]; exact Or.inr (Or.inl rfl)
theorem own_f3b (hq : Sy q) (h1 : ¬ k < 1) (h2 : ¬ k < 2) (e3 : c = b) : ¬ pt (pt (P2 a b) a 3) b 1 q = -1 ↔ ((¬ k < 1 ∧ q = a) ∨ (¬ k < 2 ∧ q = b) ∨ (¬ k < 3 ∧ q = c)) := by
  rw [own_pt_iff (by decide), own_pt_iff (by decide), own_P2_iff hq]
  exact ⟨fun h => h.elim (fun e => Or.inr (Or.inl ⟨h2, e⟩)) (fun h => h.elim (fun e => Or.inl ⟨h1, e⟩) (fun h => h.elim (fun e => Or.inr (Or.inl ⟨h2, e⟩)) (fun e => Or.inl ⟨h1, e⟩))), fun h => h.elim (fun h => Or.inr (Or.inl h.2)) (fun h => h.elim (fun h => Or.inl h.2) (fun h => Or.inl (h.2.trans e3)))⟩
theorem own_f3ca : ¬ pt (pt (pt (P2 a b) c 5) 256 6) a 2 a = -1 := by
  rw [own_pt_iff (by decide)]; exact Or.inl rfl
theorem own_f3c (hq : Sy q) (h1 : ¬ k < 1) (h2 : ¬ k < 2) (h3 : ¬ k < 3) : ¬ pt (pt (pt (P2 a b) c 5) 256 6) a 2 q = -1 ↔ ((¬ k < 1 ∧ q = a) ∨ (¬ k < 2 ∧ q = b) ∨ (¬ k < 3 ∧ q = c)) := by
  rw [own_pt_iff (by decide), own_pt_iff (by decide), own_pt_iff (by decide), own_P2_iff hq]
  exact ⟨fun h => h.elim (fun e => Or.inl ⟨h1, e⟩) (fun h => h.elim (fun e => absurd e hq.ne) (fun h => h.elim (fun e => Or.inr (Or.inr ⟨h3, e⟩)) (fun h => h.elim (fun e => Or.inr (Or.inl ⟨h2, e⟩)) (fun e => Or.inl ⟨h1, e⟩)))), fun h => h.elim (fun h => Or.inl h.2) (fun h => h.elim (fun h => Or.inr (Or.inr (Or.inr (Or.inl h.2)))) (fun h => Or.inr (Or.inr (Or.inl h.2))))⟩
end Last
set_option maxRecDepth 65536 in
set_option maxHeartbeats 40000000 in
theorem rm0 (l : Launch) (Z : State) (n0 : Nat) (w0 : Array Value) (hw : ∀ d ∈ tables_1, d.before w0 Z = true) (p0 : Int32) (p1 : Int32) (p2 : Int32) (p3 : Int32) (p4 : Int32) (p5 : Int32) :
    Meets l Z n0 x code maxLocals ret room_1 tables_1 #[(.int p0), (.int p1), (.int p2), (.int p3), (.int p4), (.int p5)] [] (fun v _ => v = some (.int 1)) := by
  refine Meets.of_go (ls := #[.val (.int p0), .val (.int p1), .val (.int p2), .val (.int p3), .val (.int p4), .val (.int p5), .unset, .unset, .unset, .unset, .unset, .unset, .unset, .unset, .unset]) (plainFor_of_name (by first | (simp [plainName, overriddenIn]; done) | decide +kernel)) (fun m => by first | (simp [entryFrame, mkF, argsToLocals, Value.category, maxLocals]; done) | rfl) (fun D => ?_)
  show Go l Z n0 room_1 code 15 x (some .boolean) D _ 0 0 0 _ _ _
  have ha : Sy (p0 &&& (255 : Int32)) := own_sy p0
  have hb : Sy (p1 &&& (255 : Int32)) := own_sy p1
  have hc : Sy (p2 &&& (255 : Int32)) := own_sy p2
  have hq : Sy (p3 &&& (255 : Int32)) := own_sy p3
  have hl : (3 : Int32) < ((257 : Int32) + (p5 &&& (1048575 : Int32))) := own_lim p5
  refine Go.iloadN (pc' := 1) at_0 rfl rfl ?_
  refine Go.sipush (pc' := 4) (v := (255 : Int32)) at_1 rfl rfl ?_
  refine Go.iand (pc' := 5) at_4 rfl ?_
  refine Go.istore (pc' := 7) (ls' := #[.val (.int p0), .val (.int p1), .val (.int p2), .val (.int p3), .val (.int p4), .val (.int p5), .val (.int (p0 &&& (255 : Int32))), .unset, .unset, .unset, .unset, .unset, .unset, .unset, .unset]) at_5 rfl rfl ?_
  refine Go.iloadN (pc' := 8) at_7 rfl rfl ?_
  refine Go.sipush (pc' := 11) (v := (255 : Int32)) at_8 rfl rfl ?_
  refine Go.iand (pc' := 12) at_11 rfl ?_
  refine Go.istore (pc' := 14) (ls' := #[.val (.int p0), .val (.int p1), .val (.int p2), .val (.int p3), .val (.int p4), .val (.int p5), .val (.int (p0 &&& (255 : Int32))), .val (.int (p1 &&& (255 : Int32))), .unset, .unset, .unset, .unset, .unset, .unset, .unset]) at_12 rfl rfl ?_
  refine Go.iloadN (pc' := 15) at_14 rfl rfl ?_
  refine Go.sipush (pc' := 18) (v := (255 : Int32)) at_15 rfl rfl ?_
  refine Go.iand (pc' := 19) at_18 rfl ?_
  refine Go.istore (pc' := 21) (ls' := #[.val (.int p0), .val (.int p1), .val (.int p2), .val (.int p3), .val (.int p4), .val (.int p5), .val (.int (p0 &&& (255 : Int32))), .val (.int (p1 &&& (255 : Int32))), .val (.int (p2 &&& (255 : Int32))), .unset, .unset, .unset, .unset, .unset, .unset]) at_19 rfl rfl ?_
  refine Go.iloadN (pc' := 22) at_21 rfl rfl ?_
  refine Go.sipush (pc' := 25) (v := (255 : Int32)) at_22 rfl rfl ?_
  refine Go.iand (pc' := 26) at_25 rfl ?_
  refine Go.istore (pc' := 28) (ls' := #[.val (.int p0), .val (.int p1), .val (.int p2), .val (.int p3), .val (.int p4), .val (.int p5), .val (.int (p0 &&& (255 : Int32))), .val (.int (p1 &&& (255 : Int32))), .val (.int (p2 &&& (255 : Int32))), .val (.int (p3 &&& (255 : Int32))), .unset, .unset, .unset, .unset, .unset]) at_26 rfl rfl ?_
  refine Go.iload (pc' := 30) at_28 rfl rfl ?_
  refine Go.iconst (pc' := 31) (v := (3 : Int32)) at_30 rfl rfl ?_
  refine Go.iand (pc' := 32) at_31 rfl ?_
  refine Go.istore (pc' := 34) (ls' := #[.val (.int p0), .val (.int p1), .val (.int p2), .val (.int p3), .val (.int p4), .val (.int p5), .val (.int (p0 &&& (255 : Int32))), .val (.int (p1 &&& (255 : Int32))), .val (.int (p2 &&& (255 : Int32))), .val (.int (p3 &&& (255 : Int32))), .val (.int (p4 &&& (3 : Int32))), .unset, .unset, .unset, .unset]) at_32 rfl rfl ?_
  refine Go.newO (pc' := 37) (cells' := 1) (slots' := 8) (W' := fun o => [(o, .inl ("com/example/kortkod/kortkod/coding/AdaptiveTree", [("weights", "[I", .null), ("nodes", "[I", .null), ("parents", "[I", .null), ("leaves", "[I", .null), ("nodeCount", "I", (.int 0)), ("sortedLeaves", "[J", .null), ("innerWeights", "[I", .null), ("limit", "I", (.int 0))]))]) at_34 (hw _ (List.mem_of_getElem? (i := 0) rfl)) (hw _ (List.mem_of_getElem? (i := 1) rfl)) (hw _ (List.mem_of_getElem? (i := 2) rfl)) (lay_cons (ty := (.array .int)) (Or.inr (hw _ (List.mem_of_getElem? (i := 12) rfl))) (by decide) rfl (lay_cons (ty := (.array .int)) (Or.inr (hw _ (List.mem_of_getElem? (i := 14) rfl))) (by decide) rfl (lay_cons (ty := (.array .int)) (Or.inr (hw _ (List.mem_of_getElem? (i := 16) rfl))) (by decide) rfl (lay_cons (ty := (.array .int)) (Or.inr (hw _ (List.mem_of_getElem? (i := 18) rfl))) (by decide) rfl (lay_cons (ty := .int) (Or.inl (hw _ (List.mem_of_getElem? (i := 20) rfl))) (by decide) rfl (lay_cons (ty := (.array .long)) (Or.inr (hw _ (List.mem_of_getElem? (i := 23) rfl))) (by decide) rfl (lay_cons (ty := (.array .int)) (Or.inr (hw _ (List.mem_of_getElem? (i := 25) rfl))) (by decide) rfl (lay_cons (ty := .int) (Or.inr (hw _ (List.mem_of_getElem? (i := 27) rfl))) (by decide) rfl lay_nil)))))))) (by decide) (by decide) (by decide) rfl rfl (fun _ => rfl) rfl (fun o => ?_)
  refine Go.dup (pc' := 38) at_37 rfl rfl ?_
  refine Go.sipush (pc' := 41) (v := (257 : Int32)) at_38 rfl rfl ?_
  refine Go.iload (pc' := 43) at_41 rfl rfl ?_
  refine Go.ldcI (pc' := 45) (v := (1048575 : Int32)) at_43 (hw _ (List.mem_of_getElem? (i := 3) rfl)) rfl ?_
  refine Go.iand (pc' := 46) at_45 rfl ?_
  refine Go.iadd (pc' := 47) at_46 rfl ?_
  refine Go.callI (pc' := 50) (W1 := 1) (cells' := 7) (slots' := 2060) (argsL := [(.int ((257 : Int32) + (p5 &&& (1048575 : Int32))))]) (rest := [(.ref o)]) (y' := (⟨"com/example/kortkod/kortkod/coding/AdaptiveTree", "<init>", "(I)V"⟩ : MethodName)) (a := o) at_47 rfl (hw _ (List.mem_of_getElem? (i := 4) rfl)) (hw _ (List.mem_of_getElem? (i := 5) rfl)) (hw _ (List.mem_of_getElem? (i := 2) rfl)) (hw _ (List.mem_of_getElem? (i := 6) rfl)) (by decide) (rm1 l Z n0 w0 hw o ((257 : Int32) + (p5 &&& (1048575 : Int32)))) (by decide) (by decide) rfl (lenOf pd__28I_29V rfl) rfl (Nat.le_of_eq rfl) (by decide) (by decide) rfl rfl rfl (fun v W' hF => ?_)
  obtain ⟨rfl, aw, an, ap, al, sl, ai, rfl⟩ := hF
  refine Go.nov ?_
  refine Go.astore (pc' := 52) (ls' := #[.val (.int p0), .val (.int p1), .val (.int p2), .val (.int p3), .val (.int p4), .val (.int p5), .val (.int (p0 &&& (255 : Int32))), .val (.int (p1 &&& (255 : Int32))), .val (.int (p2 &&& (255 : Int32))), .val (.int (p3 &&& (255 : Int32))), .val (.int (p4 &&& (3 : Int32))), .val (.ref o), .unset, .unset, .unset]) at_50 rfl rfl rfl ?_
  refine Go.aload (pc' := 54) at_52 rfl rfl rfl ?_
  refine Go.iload (pc' := 56) at_54 rfl rfl ?_
  have hq0 : rdA s0.2.2.2.2 (p3 &&& (255 : Int32)) = some (-1) := (own_le0 _ hq.1 hq.lt).trans (congrArg some (pt_other _ _ hq.ne))
  refine Go.callV (pc' := 59) (W1 := 0) (cells' := 7) (slots' := 2060) (argsL := [(.int (p3 &&& (255 : Int32)))]) (rest := []) (y' := (⟨"com/example/kortkod/kortkod/coding/AdaptiveTree", "holds", "(I)Z"⟩ : MethodName)) (a := o) (i := 0) at_56 (hw _ (List.mem_of_getElem? (i := 36) rfl)) (hw _ (List.mem_of_getElem? (i := 37) rfl)) (hw _ (List.mem_of_getElem? (i := 39) rfl)) (hw _ (List.mem_of_getElem? (i := 38) rfl)) (hw _ (List.mem_of_getElem? (i := 2) rfl)) (hw _ (List.mem_of_getElem? (i := 40) rfl)) (by decide) rfl (rm5 l Z n0 w0 hw o (p3 &&& (255 : Int32)) aw an ap al sl ai ((257 : Int32) + (p5 &&& (1048575 : Int32))) s0.1 s0.2.1 s0.2.2.1 s0.2.2.2.1 s0.2.2.2.2 (-1) hq0) (by decide) (by decide) rfl (lenOf pd__28I_29Z rfl) rfl (Nat.le_of_eq rfl) (by decide) (by decide) rfl rfl rfl (fun v W' hF => ?_)
  obtain ⟨rfl, rfl⟩ := hF
  refine Go.val ?_
  refine Go.istore (pc' := 61) (ls' := #[.val (.int p0), .val (.int p1), .val (.int p2), .val (.int p3), .val (.int p4), .val (.int p5), .val (.int (p0 &&& (255 : Int32))), .val (.int (p1 &&& (255 : Int32))), .val (.int (p2 &&& (255 : Int32))), .val (.int (p3 &&& (255 : Int32))), .val (.int (p4 &&& (3 : Int32))), .val (.ref o), .val (.int (hldF (-1))), .unset, .unset]) at_59 rfl rfl ?_
  have k100 : ∀ (nc : Int32) (w : List Int32) (nd : List Int32) (pa : List Int32) (le : List Int32), (¬ (p4 &&& (3 : Int32)) < 1 → ∃ x, rdA le (p0 &&& (255 : Int32)) = some x ∧ ¬ x = -1) → (∃ x, rdA le (p3 &&& (255 : Int32)) = some x ∧ (¬ x = -1 ↔ ((¬ (p4 &&& (3 : Int32)) < 1 ∧ (p3 &&& (255 : Int32)) = (p0 &&& (255 : Int32))) ∨ (¬ (p4 &&& (3 : Int32)) < 2 ∧ (p3 &&& (255 : Int32)) = (p1 &&& (255 : Int32))) ∨ (¬ (p4 &&& (3 : Int32)) < 3 ∧ (p3 &&& (255 : Int32)) = (p2 &&& (255 : Int32)))))) → Go l Z n0 room_1 code 15 x (some .boolean) D (TW o aw an ap al sl ai ((257 : Int32) + (p5 &&& (1048575 : Int32))) (nc, w, nd, pa, le)) 7 2060 100 #[.val (.int p0), .val (.int p1), .val (.int p2), .val (.int p3), .val (.int p4), .val (.int p5), .val (.int (p0 &&& (255 : Int32))), .val (.int (p1 &&& (255 : Int32))), .val (.int (p2 &&& (255 : Int32))), .val (.int (p3 &&& (255 : Int32))), .val (.int (p4 &&& (3 : Int32))), .val (.ref o), .val (.int (hldF (-1))), .unset, .unset] [] (fun v _ => v = some (.int 1)) := by
    intro nc w nd pa le hxa hxq
    obtain ⟨xq, hx1, hx2⟩ := hxq
    have k144 : ∀ (ex : Int32), hldF xq = ex → Go l Z n0 room_1 code 15 x (some .boolean) D (TW o aw an ap al sl ai ((257 : Int32) + (p5 &&& (1048575 : Int32))) (nc, w, nd, pa, le)) 7 2060 144 #[.val (.int p0), .val (.int p1), .val (.int p2), .val (.int p3), .val (.int p4), .val (.int p5), .val (.int (p0 &&& (255 : Int32))), .val (.int (p1 &&& (255 : Int32))), .val (.int (p2 &&& (255 : Int32))), .val (.int (p3 &&& (255 : Int32))), .val (.int (p4 &&& (3 : Int32))), .val (.ref o), .val (.int (hldF (-1))), .unset, .unset] [(.int ex)] (fun v _ => v = some (.int 1)) := by
      intro ex hex
      refine Go.istore (pc' := 146) (ls' := #[.val (.int p0), .val (.int p1), .val (.int p2), .val (.int p3), .val (.int p4), .val (.int p5), .val (.int (p0 &&& (255 : Int32))), .val (.int (p1 &&& (255 : Int32))), .val (.int (p2 &&& (255 : Int32))), .val (.int (p3 &&& (255 : Int32))), .val (.int (p4 &&& (3 : Int32))), .val (.ref o), .val (.int (hldF (-1))), .val (.int ex), .unset]) at_144 rfl rfl ?_
      have k167 : Go l Z n0 room_1 code 15 x (some .boolean) D (TW o aw an ap al sl ai ((257 : Int32) + (p5 &&& (1048575 : Int32))) (nc, w, nd, pa, le)) 7 2060 167 #[.val (.int p0), .val (.int p1), .val (.int p2), .val (.int p3), .val (.int p4), .val (.int p5), .val (.int (p0 &&& (255 : Int32))), .val (.int (p1 &&& (255 : Int32))), .val (.int (p2 &&& (255 : Int32))), .val (.int (p3 &&& (255 : Int32))), .val (.int (p4 &&& (3 : Int32))), .val (.ref o), .val (.int (hldF (-1))), .val (.int ex), .unset] [(.int (1 : Int32))] (fun v _ => v = some (.int 1)) := by
        refine Go.istore (pc' := 169) (ls' := #[.val (.int p0), .val (.int p1), .val (.int p2), .val (.int p3), .val (.int p4), .val (.int p5), .val (.int (p0 &&& (255 : Int32))), .val (.int (p1 &&& (255 : Int32))), .val (.int (p2 &&& (255 : Int32))), .val (.int (p3 &&& (255 : Int32))), .val (.int (p4 &&& (3 : Int32))), .val (.ref o), .val (.int (hldF (-1))), .val (.int ex), .val (.int (1 : Int32))]) at_167 rfl rfl ?_
        refine Go.iload (pc' := 171) at_169 rfl rfl ?_
        refine Go.if_ne (pcY := 195) (pcN := 174) at_171 (by decide) (by decide) rfl (fun hc171 => absurd hc171 (Classical.not_not.mpr (by decide))) (fun hc171 => ?_)
        refine Go.aload (pc' := 176) at_174 rfl rfl rfl ?_
        refine Go.iload (pc' := 178) at_176 rfl rfl ?_
        refine Go.callV (pc' := 181) (W1 := 0) (cells' := 7) (slots' := 2060) (argsL := [(.int (p3 &&& (255 : Int32)))]) (rest := []) (y' := (⟨"com/example/kortkod/kortkod/coding/AdaptiveTree", "holds", "(I)Z"⟩ : MethodName)) (a := o) (i := 0) at_178 (hw _ (List.mem_of_getElem? (i := 36) rfl)) (hw _ (List.mem_of_getElem? (i := 37) rfl)) (hw _ (List.mem_of_getElem? (i := 39) rfl)) (hw _ (List.mem_of_getElem? (i := 38) rfl)) (hw _ (List.mem_of_getElem? (i := 2) rfl)) (hw _ (List.mem_of_getElem? (i := 40) rfl)) (by decide) rfl (rm5 l Z n0 w0 hw o (p3 &&& (255 : Int32)) aw an ap al sl ai ((257 : Int32) + (p5 &&& (1048575 : Int32))) nc w nd pa le xq hx1) (by decide) (by decide) rfl (lenOf pd__28I_29Z rfl) rfl (Nat.le_of_eq rfl) (by decide) (by decide) rfl rfl rfl (fun v W' hF => ?_)
        obtain ⟨rfl, rfl⟩ := hF
        refine Go.val ?_
        refine Go.iload (pc' := 183) at_181 rfl rfl ?_
        refine Go.icmp_ne (pcY := 195) (pcN := 186) at_183 (by decide) (by decide) rfl (fun hc183 => absurd hc183 (Classical.not_not.mpr hex)) (fun hc183 => ?_)
        refine Go.iload (pc' := 188) at_186 rfl rfl ?_
        refine Go.if_eq (pcY := 195) (pcN := 191) at_188 (by decide) (by decide) rfl (fun hc188 => absurd hc188 (by decide)) (fun hc188 => ?_)
        refine Go.iconst (pc' := 192) (v := (1 : Int32)) at_191 rfl rfl ?_
        refine Go.goto (pc' := 196) at_192 (by decide) (by decide) ?_
        exact Go.retZ (z' := (1 : Int32)) at_196 rfl (by decide) (by decide) (by decide) rfl
      refine Go.iload (pc' := 148) at_146 rfl rfl ?_
      refine Go.iconst (pc' := 149) (v := (1 : Int32)) at_148 rfl rfl ?_
      refine Go.icmp_lt (pcY := 162) (pcN := 152) at_149 (by decide) (by decide) rfl (fun hc149 => ?_) (fun hc149 => ?_)
      ·
        refine Go.iconst (pc' := 163) (v := (1 : Int32)) at_162 rfl rfl ?_
        refine Go.goto (pc' := 167) at_163 (by decide) (by decide) ?_
        exact k167
      ·
        obtain ⟨xa, hxa1, hxa2⟩ := hxa hc149
        refine Go.aload (pc' := 154) at_152 rfl rfl rfl ?_
        refine Go.iload (pc' := 156) at_154 rfl rfl ?_
        refine Go.callV (pc' := 159) (W1 := 0) (cells' := 7) (slots' := 2060) (argsL := [(.int (p0 &&& (255 : Int32)))]) (rest := []) (y' := (⟨"com/example/kortkod/kortkod/coding/AdaptiveTree", "holds", "(I)Z"⟩ : MethodName)) (a := o) (i := 0) at_156 (hw _ (List.mem_of_getElem? (i := 36) rfl)) (hw _ (List.mem_of_getElem? (i := 37) rfl)) (hw _ (List.mem_of_getElem? (i := 39) rfl)) (hw _ (List.mem_of_getElem? (i := 38) rfl)) (hw _ (List.mem_of_getElem? (i := 2) rfl)) (hw _ (List.mem_of_getElem? (i := 40) rfl)) (by decide) rfl (rm5 l Z n0 w0 hw o (p0 &&& (255 : Int32)) aw an ap al sl ai ((257 : Int32) + (p5 &&& (1048575 : Int32))) nc w nd pa le xa hxa1) (by decide) (by decide) rfl (lenOf pd__28I_29Z rfl) rfl (Nat.le_of_eq rfl) (by decide) (by decide) rfl rfl rfl (fun v W' hF => ?_)
        obtain ⟨rfl, rfl⟩ := hF
        refine Go.val ?_
        refine Go.if_eq (pcY := 166) (pcN := 162) at_159 (by decide) (by decide) rfl (fun hc159 => absurd hc159 (fun q => absurd ((own_h1 hxa2).symm.trans q) (by decide))) (fun hc159 => ?_)
        refine Go.iconst (pc' := 163) (v := (1 : Int32)) at_162 rfl rfl ?_
        refine Go.goto (pc' := 167) at_163 (by decide) (by decide) ?_
        exact k167
    have k139 : ((¬ (p4 &&& (3 : Int32)) < 1 ∧ (p3 &&& (255 : Int32)) = (p0 &&& (255 : Int32))) ∨ (¬ (p4 &&& (3 : Int32)) < 2 ∧ (p3 &&& (255 : Int32)) = (p1 &&& (255 : Int32))) ∨ (¬ (p4 &&& (3 : Int32)) < 3 ∧ (p3 &&& (255 : Int32)) = (p2 &&& (255 : Int32)))) → Go l Z n0 room_1 code 15 x (some .boolean) D (TW o aw an ap al sl ai ((257 : Int32) + (p5 &&& (1048575 : Int32))) (nc, w, nd, pa, le)) 7 2060 139 #[.val (.int p0), .val (.int p1), .val (.int p2), .val (.int p3), .val (.int p4), .val (.int p5), .val (.int (p0 &&& (255 : Int32))), .val (.int (p1 &&& (255 : Int32))), .val (.int (p2 &&& (255 : Int32))), .val (.int (p3 &&& (255 : Int32))), .val (.int (p4 &&& (3 : Int32))), .val (.ref o), .val (.int (hldF (-1))), .unset, .unset] [] (fun v _ => v = some (.int 1)) := by
      intro hy
      refine Go.iconst (pc' := 140) (v := (1 : Int32)) at_139 rfl rfl ?_
      refine Go.goto (pc' := 144) at_140 (by decide) (by decide) ?_
      exact k144 _ (own_h1 (hx2.mpr hy))
    have k143 : ¬ ((¬ (p4 &&& (3 : Int32)) < 1 ∧ (p3 &&& (255 : Int32)) = (p0 &&& (255 : Int32))) ∨ (¬ (p4 &&& (3 : Int32)) < 2 ∧ (p3 &&& (255 : Int32)) = (p1 &&& (255 : Int32))) ∨ (¬ (p4 &&& (3 : Int32)) < 3 ∧ (p3 &&& (255 : Int32)) = (p2 &&& (255 : Int32)))) → Go l Z n0 room_1 code 15 x (some .boolean) D (TW o aw an ap al sl ai ((257 : Int32) + (p5 &&& (1048575 : Int32))) (nc, w, nd, pa, le)) 7 2060 143 #[.val (.int p0), .val (.int p1), .val (.int p2), .val (.int p3), .val (.int p4), .val (.int p5), .val (.int (p0 &&& (255 : Int32))), .val (.int (p1 &&& (255 : Int32))), .val (.int (p2 &&& (255 : Int32))), .val (.int (p3 &&& (255 : Int32))), .val (.int (p4 &&& (3 : Int32))), .val (.ref o), .val (.int (hldF (-1))), .unset, .unset] [] (fun v _ => v = some (.int 1)) := by
      intro hy
      refine Go.iconst (pc' := 144) (v := (0 : Int32)) at_143 rfl rfl ?_
      exact k144 _ (own_h0 (Classical.not_not.mp fun q => hy (hx2.mp q)))
    have k126 : ¬ (¬ (p4 &&& (3 : Int32)) < 1 ∧ (p3 &&& (255 : Int32)) = (p0 &&& (255 : Int32))) → ¬ (¬ (p4 &&& (3 : Int32)) < 2 ∧ (p3 &&& (255 : Int32)) = (p1 &&& (255 : Int32))) → Go l Z n0 room_1 code 15 x (some .boolean) D (TW o aw an ap al sl ai ((257 : Int32) + (p5 &&& (1048575 : Int32))) (nc, w, nd, pa, le)) 7 2060 126 #[.val (.int p0), .val (.int p1), .val (.int p2), .val (.int p3), .val (.int p4), .val (.int p5), .val (.int (p0 &&& (255 : Int32))), .val (.int (p1 &&& (255 : Int32))), .val (.int (p2 &&& (255 : Int32))), .val (.int (p3 &&& (255 : Int32))), .val (.int (p4 &&& (3 : Int32))), .val (.ref o), .val (.int (hldF (-1))), .unset, .unset] [] (fun v _ => v = some (.int 1)) := by
      intro nA nB
      refine Go.iload (pc' := 128) at_126 rfl rfl ?_
      refine Go.iconst (pc' := 129) (v := (3 : Int32)) at_128 rfl rfl ?_
      refine Go.icmp_lt (pcY := 143) (pcN := 132) at_129 (by decide) (by decide) rfl (fun hc129 => ?_) (fun hc129 => ?_)
      ·
        exact k143 (fun q => q.elim nA (fun q => q.elim nB (fun q => q.1 hc129)))
      ·
        refine Go.iload (pc' := 134) at_132 rfl rfl ?_
        refine Go.iload (pc' := 136) at_134 rfl rfl ?_
        refine Go.icmp_ne (pcY := 143) (pcN := 139) at_136 (by decide) (by decide) rfl (fun hc136 => ?_) (fun hc136 => ?_)
        ·
          exact k143 (fun q => q.elim nA (fun q => q.elim nB (fun q => hc136 q.2)))
        ·
          exact k139 (Or.inr (Or.inr ⟨hc129, hc136⟩))
    have k113 : ¬ (¬ (p4 &&& (3 : Int32)) < 1 ∧ (p3 &&& (255 : Int32)) = (p0 &&& (255 : Int32))) → Go l Z n0 room_1 code 15 x (some .boolean) D (TW o aw an ap al sl ai ((257 : Int32) + (p5 &&& (1048575 : Int32))) (nc, w, nd, pa, le)) 7 2060 113 #[.val (.int p0), .val (.int p1), .val (.int p2), .val (.int p3), .val (.int p4), .val (.int p5), .val (.int (p0 &&& (255 : Int32))), .val (.int (p1 &&& (255 : Int32))), .val (.int (p2 &&& (255 : Int32))), .val (.int (p3 &&& (255 : Int32))), .val (.int (p4 &&& (3 : Int32))), .val (.ref o), .val (.int (hldF (-1))), .unset, .unset] [] (fun v _ => v = some (.int 1)) := by
      intro nA
      refine Go.iload (pc' := 115) at_113 rfl rfl ?_
      refine Go.iconst (pc' := 116) (v := (2 : Int32)) at_115 rfl rfl ?_
      refine Go.icmp_lt (pcY := 126) (pcN := 119) at_116 (by decide) (by decide) rfl (fun hc116 => ?_) (fun hc116 => ?_)
      ·
        exact k126 nA (fun q => q.1 hc116)
      ·
        refine Go.iload (pc' := 121) at_119 rfl rfl ?_
        refine Go.iload (pc' := 123) at_121 rfl rfl ?_
        refine Go.icmp_eq (pcY := 139) (pcN := 126) at_123 (by decide) (by decide) rfl (fun hc123 => ?_) (fun hc123 => ?_)
        ·
          exact k139 (Or.inr (Or.inl ⟨hc116, hc123⟩))
        ·
          exact k126 nA (fun q => hc123 q.2)
    refine Go.iload (pc' := 102) at_100 rfl rfl ?_
    refine Go.iconst (pc' := 103) (v := (1 : Int32)) at_102 rfl rfl ?_
    refine Go.icmp_lt (pcY := 113) (pcN := 106) at_103 (by decide) (by decide) rfl (fun hc103 => ?_) (fun hc103 => ?_)
    ·
      exact k113 (fun q => q.1 hc103)
    ·
      refine Go.iload (pc' := 108) at_106 rfl rfl ?_
      refine Go.iload (pc' := 110) at_108 rfl rfl ?_
      refine Go.icmp_eq (pcY := 139) (pcN := 113) at_110 (by decide) (by decide) rfl (fun hc110 => ?_) (fun hc110 => ?_)
      ·
        exact k139 (Or.inl ⟨hc103, hc110⟩)
      ·
        exact k113 (fun q => hc110 q.2)
  refine Go.iload (pc' := 63) at_61 rfl rfl ?_
  refine Go.iconst (pc' := 64) (v := (1 : Int32)) at_63 rfl rfl ?_
  refine Go.icmp_lt (pcY := 74) (pcN := 67) at_64 (by decide) (by decide) rfl (fun hc64 => ?_) (fun hc64 => ?_)
  ·
    refine Go.iload (pc' := 76) at_74 rfl rfl ?_
    refine Go.iconst (pc' := 77) (v := (2 : Int32)) at_76 rfl rfl ?_
    refine Go.icmp_lt (pcY := 87) (pcN := 80) at_77 (by decide) (by decide) rfl (fun hc77 => ?_) (fun hc77 => absurd hc77 (Classical.not_not.mpr (own_up hc64 (by decide))))
    refine Go.iload (pc' := 89) at_87 rfl rfl ?_
    refine Go.iconst (pc' := 90) (v := (3 : Int32)) at_89 rfl rfl ?_
    refine Go.icmp_lt (pcY := 100) (pcN := 93) at_90 (by decide) (by decide) rfl (fun hc90 => ?_) (fun hc90 => absurd hc90 (Classical.not_not.mpr (own_up hc64 (by decide))))
    exact k100 _ _ _ _ _ (fun q => absurd hc64 q) ⟨_, hq0, by
      constructor
      · intro q; exact absurd rfl q
      · rintro (q | q | q)
        · exact absurd hc64 q.1
        · exact absurd (own_up hc64 (by decide)) q.1
        · exact absurd (own_up hc64 (by decide)) q.1⟩
  ·
    obtain ⟨nd1, le1, h1, MN1, ML1⟩ := adds1 ha hl
    refine Go.aload (pc' := 69) at_67 rfl rfl rfl ?_
    refine Go.iload (pc' := 71) at_69 rfl rfl ?_
    refine Go.callV (pc' := 74) (W1 := 0) (cells' := 7) (slots' := 2060) (argsL := [(.int (p0 &&& (255 : Int32)))]) (rest := []) (y' := (⟨"com/example/kortkod/kortkod/coding/AdaptiveTree", "add", "(I)V"⟩ : MethodName)) (a := o) (i := 0) at_71 (hw _ (List.mem_of_getElem? (i := 41) rfl)) (hw _ (List.mem_of_getElem? (i := 42) rfl)) (hw _ (List.mem_of_getElem? (i := 44) rfl)) (hw _ (List.mem_of_getElem? (i := 43) rfl)) (hw _ (List.mem_of_getElem? (i := 2) rfl)) (hw _ (List.mem_of_getElem? (i := 45) rfl)) (by decide) rfl (rm6 l Z n0 w0 hw o (p0 &&& (255 : Int32)) aw an ap al sl ai ((257 : Int32) + (p5 &&& (1048575 : Int32))) s0.1 s0.2.1 s0.2.2.1 s0.2.2.2.1 s0.2.2.2.2 (3, (Wv [1, 1]), nd1, (Pv []), le1) h1) (by decide) (by decide) rfl (lenOf pd__28I_29V rfl) rfl (Nat.le_of_eq rfl) (by decide) (by decide) rfl rfl rfl (fun v W' hF => ?_)
    obtain ⟨rfl, rfl⟩ := hF
    refine Go.nov ?_
    refine Go.iload (pc' := 76) at_74 rfl rfl ?_
    refine Go.iconst (pc' := 77) (v := (2 : Int32)) at_76 rfl rfl ?_
    refine Go.icmp_lt (pcY := 87) (pcN := 80) at_77 (by decide) (by decide) rfl (fun hc77 => ?_) (fun hc77 => ?_)
    ·
      refine Go.iload (pc' := 89) at_87 rfl rfl ?_
      refine Go.iconst (pc' := 90) (v := (3 : Int32)) at_89 rfl rfl ?_
      refine Go.icmp_lt (pcY := 100) (pcN := 93) at_90 (by decide) (by decide) rfl (fun hc90 => ?_) (fun hc90 => absurd hc90 (Classical.not_not.mpr (own_up hc77 (by decide))))
      exact k100 _ _ _ _ _ (fun _ => ⟨_, ML1 _ ha.1 ha.lt, own_f1a ha⟩) ⟨_, ML1 _ hq.1 hq.lt, own_f1 hq hc64 (fun q => q hc77) (fun q => q (own_up hc77 (by decide)))⟩
    ·
      refine Go.aload (pc' := 82) at_80 rfl rfl rfl ?_
      refine Go.iload (pc' := 84) at_82 rfl rfl ?_
      by_cases e1 : (p1 &&& (255 : Int32)) = (p0 &&& (255 : Int32))
      ·
        have h2 : addF ((257 : Int32) + (p5 &&& (1048575 : Int32))) (3, Wv [1, 1], nd1, Pv [], le1) (p1 &&& (255 : Int32)) = some (3, Wv [2, 2], nd1, Pv [], le1) := by rw [e1]; exact adds_aa ha hl ML1
        refine Go.callV (pc' := 87) (W1 := 0) (cells' := 7) (slots' := 2060) (argsL := [(.int (p1 &&& (255 : Int32)))]) (rest := []) (y' := (⟨"com/example/kortkod/kortkod/coding/AdaptiveTree", "add", "(I)V"⟩ : MethodName)) (a := o) (i := 0) at_84 (hw _ (List.mem_of_getElem? (i := 41) rfl)) (hw _ (List.mem_of_getElem? (i := 42) rfl)) (hw _ (List.mem_of_getElem? (i := 44) rfl)) (hw _ (List.mem_of_getElem? (i := 43) rfl)) (hw _ (List.mem_of_getElem? (i := 2) rfl)) (hw _ (List.mem_of_getElem? (i := 45) rfl)) (by decide) rfl (rm6 l Z n0 w0 hw o (p1 &&& (255 : Int32)) aw an ap al sl ai ((257 : Int32) + (p5 &&& (1048575 : Int32))) 3 (Wv [1, 1]) nd1 (Pv []) le1 (3, (Wv [2, 2]), nd1, (Pv []), le1) h2) (by decide) (by decide) rfl (lenOf pd__28I_29V rfl) rfl (Nat.le_of_eq rfl) (by decide) (by decide) rfl rfl rfl (fun v W' hF => ?_)
        obtain ⟨rfl, rfl⟩ := hF
        refine Go.nov ?_
        refine Go.iload (pc' := 89) at_87 rfl rfl ?_
        refine Go.iconst (pc' := 90) (v := (3 : Int32)) at_89 rfl rfl ?_
        refine Go.icmp_lt (pcY := 100) (pcN := 93) at_90 (by decide) (by decide) rfl (fun hc90 => ?_) (fun hc90 => ?_)
        ·
          exact k100 _ _ _ _ _ (fun _ => ⟨_, ML1 _ ha.1 ha.lt, own_f1a ha⟩) ⟨_, ML1 _ hq.1 hq.lt, own_f2s hq hc64 e1 (fun q => q hc90)⟩
        ·
          refine Go.aload (pc' := 95) at_93 rfl rfl rfl ?_
          refine Go.iload (pc' := 97) at_95 rfl rfl ?_
          by_cases e2 : (p2 &&& (255 : Int32)) = (p0 &&& (255 : Int32))
          ·
            have h3 : addF ((257 : Int32) + (p5 &&& (1048575 : Int32))) (3, Wv [2, 2], nd1, Pv [], le1) (p2 &&& (255 : Int32)) = some (3, Wv [3, 3], nd1, Pv [], le1) := by rw [e2]; exact adds_aaa ha hl ML1
            refine Go.callV (pc' := 100) (W1 := 0) (cells' := 7) (slots' := 2060) (argsL := [(.int (p2 &&& (255 : Int32)))]) (rest := []) (y' := (⟨"com/example/kortkod/kortkod/coding/AdaptiveTree", "add", "(I)V"⟩ : MethodName)) (a := o) (i := 0) at_97 (hw _ (List.mem_of_getElem? (i := 41) rfl)) (hw _ (List.mem_of_getElem? (i := 42) rfl)) (hw _ (List.mem_of_getElem? (i := 44) rfl)) (hw _ (List.mem_of_getElem? (i := 43) rfl)) (hw _ (List.mem_of_getElem? (i := 2) rfl)) (hw _ (List.mem_of_getElem? (i := 45) rfl)) (by decide) rfl (rm6 l Z n0 w0 hw o (p2 &&& (255 : Int32)) aw an ap al sl ai ((257 : Int32) + (p5 &&& (1048575 : Int32))) 3 (Wv [2, 2]) nd1 (Pv []) le1 (3, (Wv [3, 3]), nd1, (Pv []), le1) h3) (by decide) (by decide) rfl (lenOf pd__28I_29V rfl) rfl (Nat.le_of_eq rfl) (by decide) (by decide) rfl rfl rfl (fun v W' hF => ?_)
            obtain ⟨rfl, rfl⟩ := hF
            refine Go.nov ?_
            exact k100 _ _ _ _ _ (fun _ => ⟨_, ML1 _ ha.1 ha.lt, own_f1a ha⟩) ⟨_, ML1 _ hq.1 hq.lt, own_f3s hq hc64 e1 e2⟩
          ·
            obtain ⟨nd3, le3, h3, ML3⟩ := adds_aab hc e2 hl MN1 ML1
            refine Go.callV (pc' := 100) (W1 := 0) (cells' := 7) (slots' := 2060) (argsL := [(.int (p2 &&& (255 : Int32)))]) (rest := []) (y' := (⟨"com/example/kortkod/kortkod/coding/AdaptiveTree", "add", "(I)V"⟩ : MethodName)) (a := o) (i := 0) at_97 (hw _ (List.mem_of_getElem? (i := 41) rfl)) (hw _ (List.mem_of_getElem? (i := 42) rfl)) (hw _ (List.mem_of_getElem? (i := 44) rfl)) (hw _ (List.mem_of_getElem? (i := 43) rfl)) (hw _ (List.mem_of_getElem? (i := 2) rfl)) (hw _ (List.mem_of_getElem? (i := 45) rfl)) (by decide) rfl (rm6 l Z n0 w0 hw o (p2 &&& (255 : Int32)) aw an ap al sl ai ((257 : Int32) + (p5 &&& (1048575 : Int32))) 3 (Wv [2, 2]) nd1 (Pv []) le1 (5, (Wv [3, 2, 1, 1]), nd3, (Pv [0, 2]), le3) h3) (by decide) (by decide) rfl (lenOf pd__28I_29V rfl) rfl (Nat.le_of_eq rfl) (by decide) (by decide) rfl rfl rfl (fun v W' hF => ?_)
            obtain ⟨rfl, rfl⟩ := hF
            refine Go.nov ?_
            exact k100 _ _ _ _ _ (fun _ => ⟨_, ML3 _ ha.1 ha.lt, own_f2a ha e2⟩) ⟨_, ML3 _ hq.1 hq.lt, own_f3d hq hc64 e1 hc90⟩
      ·
        obtain ⟨nd2, le2, h2, MN2, ML2⟩ := adds_ab hb e1 hl MN1 ML1
        refine Go.callV (pc' := 87) (W1 := 0) (cells' := 7) (slots' := 2060) (argsL := [(.int (p1 &&& (255 : Int32)))]) (rest := []) (y' := (⟨"com/example/kortkod/kortkod/coding/AdaptiveTree", "add", "(I)V"⟩ : MethodName)) (a := o) (i := 0) at_84 (hw _ (List.mem_of_getElem? (i := 41) rfl)) (hw _ (List.mem_of_getElem? (i := 42) rfl)) (hw _ (List.mem_of_getElem? (i := 44) rfl)) (hw _ (List.mem_of_getElem? (i := 43) rfl)) (hw _ (List.mem_of_getElem? (i := 2) rfl)) (hw _ (List.mem_of_getElem? (i := 45) rfl)) (by decide) rfl (rm6 l Z n0 w0 hw o (p1 &&& (255 : Int32)) aw an ap al sl ai ((257 : Int32) + (p5 &&& (1048575 : Int32))) 3 (Wv [1, 1]) nd1 (Pv []) le1 (5, (Wv [2, 1, 1, 1]), nd2, (Pv [0, 2]), le2) h2) (by decide) (by decide) rfl (lenOf pd__28I_29V rfl) rfl (Nat.le_of_eq rfl) (by decide) (by decide) rfl rfl rfl (fun v W' hF => ?_)
        obtain ⟨rfl, rfl⟩ := hF
        refine Go.nov ?_
        refine Go.iload (pc' := 89) at_87 rfl rfl ?_
        refine Go.iconst (pc' := 90) (v := (3 : Int32)) at_89 rfl rfl ?_
        refine Go.icmp_lt (pcY := 100) (pcN := 93) at_90 (by decide) (by decide) rfl (fun hc90 => ?_) (fun hc90 => ?_)
        ·
          exact k100 _ _ _ _ _ (fun _ => ⟨_, ML2 _ ha.1 ha.lt, own_f2a ha e1⟩) ⟨_, ML2 _ hq.1 hq.lt, own_f2d hq hc64 hc77 (fun q => q hc90)⟩
        ·
          refine Go.aload (pc' := 95) at_93 rfl rfl rfl ?_
          refine Go.iload (pc' := 97) at_95 rfl rfl ?_
          by_cases e2 : (p2 &&& (255 : Int32)) = (p0 &&& (255 : Int32))
          ·
            have h3 : addF ((257 : Int32) + (p5 &&& (1048575 : Int32))) (5, Wv [2, 1, 1, 1], nd2, Pv [0, 2], le2) (p2 &&& (255 : Int32)) = some (5, Wv [3, 2, 1, 1], nd2, Pv [0, 2], le2) := by rw [e2]; exact adds_aba ha e1 hl ML2
            refine Go.callV (pc' := 100) (W1 := 0) (cells' := 7) (slots' := 2060) (argsL := [(.int (p2 &&& (255 : Int32)))]) (rest := []) (y' := (⟨"com/example/kortkod/kortkod/coding/AdaptiveTree", "add", "(I)V"⟩ : MethodName)) (a := o) (i := 0) at_97 (hw _ (List.mem_of_getElem? (i := 41) rfl)) (hw _ (List.mem_of_getElem? (i := 42) rfl)) (hw _ (List.mem_of_getElem? (i := 44) rfl)) (hw _ (List.mem_of_getElem? (i := 43) rfl)) (hw _ (List.mem_of_getElem? (i := 2) rfl)) (hw _ (List.mem_of_getElem? (i := 45) rfl)) (by decide) rfl (rm6 l Z n0 w0 hw o (p2 &&& (255 : Int32)) aw an ap al sl ai ((257 : Int32) + (p5 &&& (1048575 : Int32))) 5 (Wv [2, 1, 1, 1]) nd2 (Pv [0, 2]) le2 (5, (Wv [3, 2, 1, 1]), nd2, (Pv [0, 2]), le2) h3) (by decide) (by decide) rfl (lenOf pd__28I_29V rfl) rfl (Nat.le_of_eq rfl) (by decide) (by decide) rfl rfl rfl (fun v W' hF => ?_)
            obtain ⟨rfl, rfl⟩ := hF
            refine Go.nov ?_
            exact k100 _ _ _ _ _ (fun _ => ⟨_, ML2 _ ha.1 ha.lt, own_f2a ha e1⟩) ⟨_, ML2 _ hq.1 hq.lt, own_f3a hq hc64 hc77 e2⟩
          ·
            by_cases e3 : (p2 &&& (255 : Int32)) = (p1 &&& (255 : Int32))
            ·
              obtain ⟨nd3, le3, h3, ML3⟩ := adds_abb ha hb e1 hl MN2 ML2
              rw [← e3] at h3
              refine Go.callV (pc' := 100) (W1 := 0) (cells' := 7) (slots' := 2060) (argsL := [(.int (p2 &&& (255 : Int32)))]) (rest := []) (y' := (⟨"com/example/kortkod/kortkod/coding/AdaptiveTree", "add", "(I)V"⟩ : MethodName)) (a := o) (i := 0) at_97 (hw _ (List.mem_of_getElem? (i := 41) rfl)) (hw _ (List.mem_of_getElem? (i := 42) rfl)) (hw _ (List.mem_of_getElem? (i := 44) rfl)) (hw _ (List.mem_of_getElem? (i := 43) rfl)) (hw _ (List.mem_of_getElem? (i := 2) rfl)) (hw _ (List.mem_of_getElem? (i := 45) rfl)) (by decide) rfl (rm6 l Z n0 w0 hw o (p2 &&& (255 : Int32)) aw an ap al sl ai ((257 : Int32) + (p5 &&& (1048575 : Int32))) 5 (Wv [2, 1, 1, 1]) nd2 (Pv [0, 2]) le2 (5, (Wv [3, 2, 1, 1]), nd3, (Pv [0, 2]), le3) h3) (by decide) (by decide) rfl (lenOf pd__28I_29V rfl) rfl (Nat.le_of_eq rfl) (by decide) (by decide) rfl rfl rfl (fun v W' hF => ?_)
              obtain ⟨rfl, rfl⟩ := hF
              refine Go.nov ?_
              exact k100 _ _ _ _ _ (fun _ => ⟨_, ML3 _ ha.1 ha.lt, own_f3ba ha e1⟩) ⟨_, ML3 _ hq.1 hq.lt, own_f3b hq hc64 hc77 e3⟩
            ·
              obtain ⟨nd3, le3, h3, ML3⟩ := adds_abc ha hb hc e1 e2 e3 hl MN2 ML2
              refine Go.callV (pc' := 100) (W1 := 0) (cells' := 7) (slots' := 2060) (argsL := [(.int (p2 &&& (255 : Int32)))]) (rest := []) (y' := (⟨"com/example/kortkod/kortkod/coding/AdaptiveTree", "add", "(I)V"⟩ : MethodName)) (a := o) (i := 0) at_97 (hw _ (List.mem_of_getElem? (i := 41) rfl)) (hw _ (List.mem_of_getElem? (i := 42) rfl)) (hw _ (List.mem_of_getElem? (i := 44) rfl)) (hw _ (List.mem_of_getElem? (i := 43) rfl)) (hw _ (List.mem_of_getElem? (i := 2) rfl)) (hw _ (List.mem_of_getElem? (i := 45) rfl)) (by decide) rfl (rm6 l Z n0 w0 hw o (p2 &&& (255 : Int32)) aw an ap al sl ai ((257 : Int32) + (p5 &&& (1048575 : Int32))) 5 (Wv [2, 1, 1, 1]) nd2 (Pv [0, 2]) le2 (7, (Wv [3, 2, 1, 1, 1, 1]), nd3, (Pv [0, 1, 4]), le3) h3) (by decide) (by decide) rfl (lenOf pd__28I_29V rfl) rfl (Nat.le_of_eq rfl) (by decide) (by decide) rfl rfl rfl (fun v W' hF => ?_)
              obtain ⟨rfl, rfl⟩ := hF
              refine Go.nov ?_
              exact k100 _ _ _ _ _ (fun _ => ⟨_, ML3 _ ha.1 ha.lt, own_f3ca⟩) ⟨_, ML3 _ hq.1 hq.lt, own_f3c hq hc64 hc77 hc90⟩
set_option maxRecDepth 65536 in
set_option maxHeartbeats 40000000 in
theorem comes_1 {Post : Tables → Env → Array Value → State → Outcome → State → Prop} (hpost : ∀ tb e args s v u, (limb_1_1.after args s (.returned v) u = true ∧ limb_1_2.after args s (.returned v) u = true ∧ True) → FrameEnd s (.returned v) u (Jvm.fieldLocs frame_1_writes args s ++ Jvm.arrayLocs frame_1_arrays args s ++ Jvm.staticLocs frame_1_statics s) 24 4224 → Post tb e args s (.returned v) u) :
    ArmFor flags0 classFile x code maxLocals ret World_1 tables_1 room_1 Calls_1 rest_1 Pre_1 Post := by
  intro l hfl _ _ p e ha hc hk s m args below hf hA hF happ hP
  obtain ⟨hcalls, hrest, hpre⟩ := hP
  obtain ⟨-, -, -, hnamed, -, -, -, hat⟩ := (Spec.applies_iff hf).mp happ
  obtain ⟨hg, hn⟩ := and_e (Cond.before_iff.mp (show (Jvm.Cond.and given_1 narrow_1).before args s = true from hpre))
  obtain ⟨g0, k0⟩ := and_e hg
  obtain ⟨w0, w1, w2, w3, w4, w5, rfl⟩ : ∃ w0 w1 w2 w3 w4 w5 : Value, args = #[w0, w1, w2, w3, w4, w5] := by
    have hs : args.size = 6 := by simpa [Cond.value, given_1] using g0
    obtain ⟨L⟩ := args
    match L, hs with
    | [w0, w1, w2, w3, w4, w5], _ => exact ⟨w0, w1, w2, w3, w4, w5, rfl⟩
  have hw := fun d (hd : d ∈ tables_1) => atoms_spec (ws := Jvm.Cond.code x code maxLocals ret :: tables_1) hat d (List.mem_cons_of_mem _ hd)
  obtain ⟨g1, k1⟩ := and_e k0
  obtain ⟨i0, e0⟩ := is_v g1
  obtain rfl : w0 = (.int i0) := Option.some.inj e0
  obtain ⟨g2, k2⟩ := and_e k1
  obtain ⟨i1, e1⟩ := is_v g2
  obtain rfl : w1 = (.int i1) := Option.some.inj e1
  obtain ⟨g3, k3⟩ := and_e k2
  obtain ⟨i2, e2⟩ := is_v g3
  obtain rfl : w2 = (.int i2) := Option.some.inj e2
  obtain ⟨g4, k4⟩ := and_e k3
  obtain ⟨i3, e3⟩ := is_v g4
  obtain rfl : w3 = (.int i3) := Option.some.inj e3
  obtain ⟨g5, k5⟩ := and_e k4
  obtain ⟨i4, e4⟩ := is_v g5
  obtain rfl : w4 = (.int i4) := Option.some.inj e4
  obtain ⟨i5, e5⟩ := is_v k5
  obtain rfl : w5 = (.int i5) := Option.some.inj e5
  have hWd : World s s.heap.size s.heap [] := ⟨Nat.le_refl _, List.nodup_nil, fun _ q => nomatch q⟩
  obtain ⟨n, o, h1, h2, h3, v, L, rfl, ⟨N, W', -, rfl⟩, hq⟩ := rm0 l s s.heap.size _ hw i0 i1 i2 i3 i4 i5 s.heap hWd p e ha hc hk s m _ below hf ((Spec.applies_iff_loose hf).mp happ).1 ⟨rfl, State.Warmed39.refl s, rfl⟩ trivial
  refine ⟨n, _, h1, h2, h3, hpost _ _ _ _ _ _ ⟨Cond.after_iff.mpr rfl, Cond.after_iff.mpr (eq_i res_at (Term.int_eval (1)) rfl), trivial⟩ ⟨hq.1, hq.2.1, (hq.2.2.sift fun y hy => Or.inr (N y hy)).mono (by decide) (by decide)⟩⟩
theorem main_1_1 : Claimed_1_1 := comes_1 fun _ _ _ _ _ _ h hF => ⟨h.1, hF⟩
theorem main_1_2 : Claimed_1_2 := comes_1 fun _ _ _ _ _ _ h hF => ⟨h.2.1, hF⟩
end Jvm.Pilot.@@N@@
namespace Jvm.Pilot.@@N@@
open Jvm Jvm.ClassFile Sem Op Lib Jvm.Free Jvm.Stand Jvm.Pilot.@@N@@.Jvm.D
/-! MADE BY PROGRAM (witnessworld.py) out of the Statement's table words and the real class files: 12 classes; the members and pool entries that the words name. The judged class is class 1, her method 1. -/
namespace start1
open Jvm.ClassFile
def u (s : String) : CpInfo := .utf8 (stringToUtf16 s)
/-- a pool by its gaps: so many unusable entries, then the entry; so many at the end -/
def gap : Nat → List CpInfo → List CpInfo
  | 0, r => r
  | n + 1, r => .unusable :: gap n r
def poolList (es : List (Nat × CpInfo)) (last : Nat) : List CpInfo := es.foldr (fun e r => gap e.1 (e.2 :: r)) (gap last [])
def pool (es : List (Nat × CpInfo)) (last : Nat) : Array CpInfo := ⟨poolList es last⟩
def fileOf (pool : Array CpInfo) (this : Nat) (attrs : Array Attribute := #[]) (ms : Array MethodInfo := #[]) (fl : Nat := 33) (sup : Nat := 0) (ifs : Array Nat := #[]) (fds : Array FieldInfo := #[]) : ClassFile where
  minorVersion := 0
  majorVersion := 65
  constantPool := pool
  accessFlags := fl
  thisClass := this
  superClass := sup
  interfaces := ifs
  fields := fds
  methods := ms
  attributes := attrs
def plain (name : String) (sup : Option ClassId) : Class where
  name := name
  kind := .ordinary
  loader := none
  accessFlags := 33
  super := sup
  interfaces := #[]
  cf := none
  fields := #[]
  methods := #[]
  instanceTypes := #[]
  staticTypes := #[]
  resolved := #[]
  callSites := []
  init := .initialized
  statics := none
  mirror := none

def pool0 : Array CpInfo := pool [(5, u "<init>"), (0, u "()V"), (1, .class_ 10), (1, u "java/lang/Object")] 113

def k0c0 : Code := { maxStack := 0, maxLocals := 1, code := object_method_1_code, exceptionTable := #[], attributes := #[] }
def k0m0 : Method := { name := "<init>", desc := "()V", sig := { parameters := [], returnType := none }, accessFlags := 1, code := some k0c0 }
/-- java/lang/Object -/
def k0 : Class := { plain "java/lang/Object" none with
  accessFlags := 33
  interfaces := #[]
  cf := some (fileOf pool0 8 #[] #[{ accessFlags := 1, nameIndex := 5, descriptorIndex := 6, attributes := #[] }] 33 0 #[] #[])
  fields := #[]
  methods := #[k0m0]
  instanceTypes := #[]
  staticTypes := #[]
  resolved := Array.replicate 124 none
  statics := none }

def pool1 : Array CpInfo := pool [(2, .class_ 4), (1, u "java/lang/Object"), (0, u "<init>"), (0, u "()V"), (0, .class_ 8), (0, u "com/example/kortkod/kortkod/coding/AdaptiveTree"), (0, .integer 1048575), (0, .methodref 7 11), (0, .nameAndType 5 12), (0, u "(I)V"), (0, .methodref 7 14), (0, .nameAndType 15 16), (0, u "holds"), (0, u "(I)Z"), (0, .methodref 7 18), (0, .nameAndType 19 12), (0, u "add"), (0, .class_ 21), (0, u "com/example/kortkod/kortkod/coding/AdaptiveTreeHoldsPinLaw"), (2, u "law"), (0, u "(IIIIII)Z")] 3

def k1m0 : Method := { name := "<init>", desc := "()V", sig := { parameters := [], returnType := none }, accessFlags := 1, code := none }
def k1c1 : Code := { maxStack := 5, maxLocals := 15, code := code, exceptionTable := #[], attributes := #[] }
def k1m1 : Method := { name := "law", desc := "(IIIIII)Z", sig := { parameters := [.int, .int, .int, .int, .int, .int], returnType := some .boolean }, accessFlags := 9, code := some k1c1 }
/-- com/example/kortkod/kortkod/coding/AdaptiveTreeHoldsPinLaw -/
def k1 : Class := { plain "com/example/kortkod/kortkod/coding/AdaptiveTreeHoldsPinLaw" (some 0) with
  accessFlags := 49
  interfaces := #[]
  cf := some (fileOf pool1 20 #[] #[{ accessFlags := 1, nameIndex := 5, descriptorIndex := 6, attributes := #[] }, { accessFlags := 9, nameIndex := 24, descriptorIndex := 25, attributes := #[] }] 49 2 #[] #[])
  fields := #[]
  methods := #[k1m0, k1m1]
  instanceTypes := #[]
  staticTypes := #[]
  resolved := Array.replicate 29 none
  statics := none }

def pool2 : Array CpInfo := pool [(3, .methodref 4 5), (0, .class_ 6), (0, .nameAndType 7 8), (0, u "java/lang/Object"), (0, u "<init>"), (0, u "()V"), (0, .class_ 10), (0, u "com/example/kortkod/kortkod/coding/AdaptiveTree"), (0, .fieldref 9 12), (0, .nameAndType 13 14), (0, u "weights"), (0, u "[I"), (0, .fieldref 9 16), (0, .nameAndType 17 14), (0, u "nodes"), (0, .fieldref 9 19), (0, .nameAndType 20 14), (0, u "parents"), (0, .fieldref 9 22), (0, .nameAndType 23 14), (0, u "leaves"), (0, .fieldref 9 25), (0, .nameAndType 26 27), (0, u "nodeCount"), (0, u "I"), (0, .fieldref 9 29), (0, .nameAndType 30 31), (0, u "sortedLeaves"), (0, u "[J"), (0, .fieldref 9 33), (0, .nameAndType 34 14), (0, u "innerWeights"), (0, .fieldref 9 36), (0, .nameAndType 37 27), (0, u "limit"), (0, .methodref 39 40), (0, .class_ 41), (0, .nameAndType 42 43), (0, u "java/util/Arrays"), (0, u "fill"), (0, u "([II)V"), (0, .methodref 9 45), (0, .nameAndType 46 47), (0, u "place"), (0, u "(II)V"), (3, u "(I)I"), (0, .methodref 9 53), (0, .nameAndType 54 51), (0, u "parent"), (15, u "(I)V"), (0, .methodref 9 72), (0, .nameAndType 73 74), (0, u "holds"), (0, u "(I)Z"), (0, .methodref 9 76), (0, .nameAndType 77 51), (0, u "split"), (0, .methodref 9 79), (0, .nameAndType 80 70), (0, u "update"), (3, .methodref 9 85), (0, .nameAndType 86 51), (0, u "leader"), (0, .methodref 9 88), (0, .nameAndType 89 47), (0, u "swap"), (7, u "ESCAPE"), (2, u "MAX_NODES"), (1, u "ROOT"), (1, u "ABSENT"), (12, u "add")] 2

def k2c0 : Code := { maxStack := 3, maxLocals := 2, code := prog_13_method_1_code, exceptionTable := #[], attributes := #[] }
def k2m0 : Method := { name := "<init>", desc := "(I)V", sig := { parameters := [.int], returnType := none }, accessFlags := 0, code := some k2c0 }
def k2c1 : Code := { maxStack := 2, maxLocals := 2, code := prog_13_method_2_code, exceptionTable := #[], attributes := #[] }
def k2m1 : Method := { name := "holds", desc := "(I)Z", sig := { parameters := [.int], returnType := some .boolean }, accessFlags := 0, code := some k2c1 }
def k2c2 : Code := { maxStack := 3, maxLocals := 2, code := prog_13_method_6_code, exceptionTable := #[], attributes := #[] }
def k2m2 : Method := { name := "add", desc := "(I)V", sig := { parameters := [.int], returnType := none }, accessFlags := 0, code := some k2c2 }
def k2c3 : Code := { maxStack := 4, maxLocals := 4, code := prog_13_method_8_code, exceptionTable := #[], attributes := #[] }
def k2m3 : Method := { name := "split", desc := "(I)I", sig := { parameters := [.int], returnType := some .int }, accessFlags := 2, code := some k2c3 }
def k2c4 : Code := { maxStack := 4, maxLocals := 3, code := prog_13_method_9_code, exceptionTable := #[], attributes := #[] }
def k2m4 : Method := { name := "update", desc := "(I)V", sig := { parameters := [.int], returnType := none }, accessFlags := 2, code := some k2c4 }
def k2c5 : Code := { maxStack := 2, maxLocals := 8, code := prog_13_method_10_code, exceptionTable := #[], attributes := #[] }
def k2m5 : Method := { name := "leader", desc := "(I)I", sig := { parameters := [.int], returnType := some .int }, accessFlags := 2, code := some k2c5 }
def k2c6 : Code := { maxStack := 4, maxLocals := 4, code := prog_13_method_13_code, exceptionTable := #[], attributes := #[] }
def k2m6 : Method := { name := "swap", desc := "(II)V", sig := { parameters := [.int, .int], returnType := none }, accessFlags := 2, code := some k2c6 }
def k2c7 : Code := { maxStack := 3, maxLocals := 3, code := prog_13_method_14_code, exceptionTable := #[], attributes := #[] }
def k2m7 : Method := { name := "place", desc := "(II)V", sig := { parameters := [.int, .int], returnType := none }, accessFlags := 2, code := some k2c7 }
def k2c8 : Code := { maxStack := 3, maxLocals := 2, code := prog_13_method_15_code, exceptionTable := #[], attributes := #[] }
def k2m8 : Method := { name := "parent", desc := "(I)I", sig := { parameters := [.int], returnType := some .int }, accessFlags := 2, code := some k2c8 }
/-- com/example/kortkod/kortkod/coding/AdaptiveTree -/
def k2 : Class := { plain "com/example/kortkod/kortkod/coding/AdaptiveTree" (some 0) with
  accessFlags := 48
  interfaces := #[]
  cf := some (fileOf pool2 9 #[] #[{ accessFlags := 0, nameIndex := 7, descriptorIndex := 70, attributes := #[] }, { accessFlags := 0, nameIndex := 73, descriptorIndex := 74, attributes := #[] }, { accessFlags := 0, nameIndex := 117, descriptorIndex := 70, attributes := #[] }, { accessFlags := 2, nameIndex := 77, descriptorIndex := 51, attributes := #[] }, { accessFlags := 2, nameIndex := 80, descriptorIndex := 70, attributes := #[] }, { accessFlags := 2, nameIndex := 86, descriptorIndex := 51, attributes := #[] }, { accessFlags := 2, nameIndex := 89, descriptorIndex := 47, attributes := #[] }, { accessFlags := 2, nameIndex := 46, descriptorIndex := 47, attributes := #[] }, { accessFlags := 2, nameIndex := 54, descriptorIndex := 51, attributes := #[] }] 48 4 #[] #[{ accessFlags := 24, nameIndex := 97, descriptorIndex := 27, attributes := #[] }, { accessFlags := 26, nameIndex := 100, descriptorIndex := 27, attributes := #[] }, { accessFlags := 26, nameIndex := 102, descriptorIndex := 27, attributes := #[] }, { accessFlags := 26, nameIndex := 104, descriptorIndex := 27, attributes := #[] }, { accessFlags := 18, nameIndex := 37, descriptorIndex := 27, attributes := #[] }, { accessFlags := 18, nameIndex := 13, descriptorIndex := 14, attributes := #[] }, { accessFlags := 18, nameIndex := 17, descriptorIndex := 14, attributes := #[] }, { accessFlags := 18, nameIndex := 20, descriptorIndex := 14, attributes := #[] }, { accessFlags := 18, nameIndex := 23, descriptorIndex := 14, attributes := #[] }, { accessFlags := 2, nameIndex := 26, descriptorIndex := 27, attributes := #[] }, { accessFlags := 18, nameIndex := 30, descriptorIndex := 31, attributes := #[] }, { accessFlags := 18, nameIndex := 34, descriptorIndex := 14, attributes := #[] }])
  fields := #[{ name := "ESCAPE", type := .int, accessFlags := 24, slot := 0, constantValue := 0 }, { name := "MAX_NODES", type := .int, accessFlags := 26, slot := 1, constantValue := 0 }, { name := "ROOT", type := .int, accessFlags := 26, slot := 2, constantValue := 0 }, { name := "ABSENT", type := .int, accessFlags := 26, slot := 3, constantValue := 0 }, { name := "limit", type := .int, accessFlags := 18, slot := 0, constantValue := 0 }, { name := "weights", type := (.array .int), accessFlags := 18, slot := 1, constantValue := 0 }, { name := "nodes", type := (.array .int), accessFlags := 18, slot := 2, constantValue := 0 }, { name := "parents", type := (.array .int), accessFlags := 18, slot := 3, constantValue := 0 }, { name := "leaves", type := (.array .int), accessFlags := 18, slot := 4, constantValue := 0 }, { name := "nodeCount", type := .int, accessFlags := 2, slot := 5, constantValue := 0 }, { name := "sortedLeaves", type := (.array .long), accessFlags := 18, slot := 6, constantValue := 0 }, { name := "innerWeights", type := (.array .int), accessFlags := 18, slot := 7, constantValue := 0 }]
  methods := #[k2m0, k2m1, k2m2, k2m3, k2m4, k2m5, k2m6, k2m7, k2m8]
  instanceTypes := #[.int, (.array .int), (.array .int), (.array .int), (.array .int), .int, (.array .long), (.array .int)]
  staticTypes := #[.int, .int, .int, .int]
  resolved := Array.replicate 120 none
  statics := none }

def pool3 : Array CpInfo := pool [(2, .class_ 4), (1, u "java/lang/Object"), (0, u "<init>"), (0, u "()V"), (7, .class_ 16), (1, u "java/util/Arrays"), (57, .class_ 76), (1, u "java/util/Arrays$NaturalOrder"), (36, .class_ 115), (1, u "java/util/Arrays$LegacyMergeSort"), (1, u "Z"), (257, .class_ 376), (0, u "java/util/Arrays$ArrayList"), (68, u "$assertionsDisabled"), (269, u "MIN_ARRAY_SORT_GRAN"), (0, u "I"), (2, u "INSERTIONSORT_THRESHOLD"), (120, u "fill"), (4, u "([II)V"), (129, .class_ 976), (0, u "java/util/Arrays$ArrayItr")] 52

def k3m0 : Method := { name := "<init>", desc := "()V", sig := { parameters := [], returnType := none }, accessFlags := 2, code := none }
def k3c1 : Code := { maxStack := 3, maxLocals := 4, code := jdk_65_method_103_code, exceptionTable := #[], attributes := #[] }
def k3m1 : Method := { name := "fill", desc := "([II)V", sig := { parameters := [(.array .int), .int], returnType := none }, accessFlags := 9, code := some k3c1 }
/-- java/util/Arrays -/
def k3 : Class := { plain "java/util/Arrays" (some 0) with
  accessFlags := 49
  interfaces := #[]
  cf := some (fileOf pool3 14 #[.nestMembers #[975, 375, 113, 74]] #[{ accessFlags := 2, nameIndex := 5, descriptorIndex := 6, attributes := #[] }, { accessFlags := 9, nameIndex := 840, descriptorIndex := 845, attributes := #[] }] 49 2 #[] #[{ accessFlags := 26, nameIndex := 715, descriptorIndex := 716, attributes := #[] }, { accessFlags := 26, nameIndex := 719, descriptorIndex := 716, attributes := #[] }, { accessFlags := 4120, nameIndex := 445, descriptorIndex := 117, attributes := #[] }])
  fields := #[{ name := "MIN_ARRAY_SORT_GRAN", type := .int, accessFlags := 26, slot := 0, constantValue := 0 }, { name := "INSERTIONSORT_THRESHOLD", type := .int, accessFlags := 26, slot := 1, constantValue := 0 }, { name := "$assertionsDisabled", type := .boolean, accessFlags := 4120, slot := 2, constantValue := 0 }]
  methods := #[k3m0, k3m1]
  instanceTypes := #[]
  staticTypes := #[.int, .int, .boolean]
  resolved := Array.replicate 1029 none
  statics := none }

def pool4 : Array CpInfo := pool [(1, u "java/lang/Cloneable"), (0, .class_ 1), (0, u "java/lang/Object"), (0, .class_ 3)] 3

/-- java/lang/Cloneable -/
def k4 : Class := { plain "java/lang/Cloneable" (some 0) with
  accessFlags := 1537
  interfaces := #[]
  cf := some (fileOf pool4 2 #[] #[] 1537 4 #[] #[])
  fields := #[]
  methods := #[]
  instanceTypes := #[]
  staticTypes := #[]
  resolved := Array.replicate 8 none
  statics := none }

def pool5 : Array CpInfo := pool [(1, u "java/io/Serializable"), (0, .class_ 1), (0, u "java/lang/Object"), (0, .class_ 3)] 3

/-- java/io/Serializable -/
def k5 : Class := { plain "java/io/Serializable" (some 0) with
  accessFlags := 1537
  interfaces := #[]
  cf := some (fileOf pool5 2 #[] #[] 1537 4 #[] #[])
  fields := #[]
  methods := #[]
  instanceTypes := #[]
  staticTypes := #[]
  resolved := Array.replicate 8 none
  statics := none }

/-- the primitive byte -/
def k6 : Class := { plain "byte" none with kind := .primitive 'B', accessFlags := 0x411 }
/-- [B -/
def k7 : Class := { plain "[B" (some 0) with kind := .array 6 .byte, interfaces := #[4, 5], accessFlags := 1041 }

/-- the primitive int -/
def k8 : Class := { plain "int" none with kind := .primitive 'I', accessFlags := 0x411 }
/-- [I -/
def k9 : Class := { plain "[I" (some 0) with kind := .array 8 .int, interfaces := #[4, 5], accessFlags := 1041 }

/-- the primitive long -/
def k10 : Class := { plain "long" none with kind := .primitive 'J', accessFlags := 0x411 }
/-- [J -/
def k11 : Class := { plain "[J" (some 0) with kind := .array 10 .long, interfaces := #[4, 5], accessFlags := 1041 }

def heap : Heap := #[]
def classes : Array Class := #[k0, k1, k2, k3, k4, k5, k6, k7, k8, k9, k10, k11]
def interned : List (Array UInt16 × Addr) := []
def slotsUsed : Nat := 0
def theMethod : MethodId := ⟨1, 1⟩
def args0 : Array Value := #[.int 5, .int 7, .int 1, .int 2, .int 3, .int 4]
def aboutOver (below : List Frame) : State where
  vm := { classes := classes, interned := interned.toArray }
  heap := heap
  slotsUsed := slotsUsed
  threads := #[{ frames := .invoking theMethod args0 :: below }]
def below0 : List Frame := [.native { method := ⟨0, 0⟩, args := #[] }]
def about1 : State := aboutOver below0
def p0 : Program := .bare "" "" ""
def e0 : Env := launch0.env 0 0 0
theorem w_frames : about1.frames = Frame.invoking theMethod args0 :: below0 := rfl
set_option maxRecDepth 65536 in
theorem w_args : argsFit about1.vm theMethod args0 = true := by decide +kernel
set_option maxRecDepth 65536 in
theorem w_heap : heapFits about1 = true := by decide +kernel
set_option maxRecDepth 65536 in
theorem w_runnable : about1.curStatus? = some .runnable := by decide +kernel
set_option maxRecDepth 65536 in
theorem w_alone : about1.alone = true := by decide +kernel
set_option maxRecDepth 65536 in
theorem w_named : about1.methodNamed? x = some theMethod := by decide +kernel
set_option maxRecDepth 65536 in
theorem w_hears : about1.hears theMethod below0 = true := by decide +kernel
set_option maxRecDepth 65536 in
theorem w_ripe : about1.ripe theMethod args0 below0 = true := by decide +kernel
theorem w_running : about1.status = .running := rfl
set_option maxRecDepth 65536 in
theorem w_room : about1.hasRoom e0.platform room_1 = true :=
  launch0.hasRoom_least _ room_1 (by decide +kernel) (by decide +kernel) (by decide +kernel) (by decide +kernel) (by decide +kernel) (by decide +kernel)
theorem allAtoms_all (ts : List Jvm.Cond) (a : Array Jvm.Value) (st : Jvm.State) : (allAtoms ts).before a st = ts.all (fun c => c.before a st) := by
  induction ts with
  | nil => rfl
  | cons c t ih =>
    show (Jvm.Cond.and c (allAtoms t)).before a st = _
    rw [Jvm.Cond.before_and, ih, List.all_cons]
def words1 : List Jvm.Cond := Jvm.Cond.code x code maxLocals ret :: tables_1
/-- a 'code' word, met by the world's own term for the bytes: nothing is compared byte by byte -/
theorem code_word {y : MethodName} {bytes : ByteArray} {mx : Nat} {rt : Option FieldType} {a : Array Value} {s : State} {m : MethodId} {meth : Method} {c : Code} (h1 : s.methodNamed? y = some m) (h2 : s.vm.method? m = some meth) (h3 : meth.code = some c) (h4 : c.code = bytes)
    (h5 : (c.maxLocals == mx && c.exceptionTable.isEmpty && decide (c.maxStack ≤ mostOperands) && decide (meth.sig.returnType = rt) && !meth.locks && decide (parseMethodDescriptor y.desc = some meth.sig)) = true) : (Jvm.Cond.code y bytes mx rt).before a s = true := by
  simp only [Bool.and_eq_true, beq_iff_eq, Bool.not_eq_true', decide_eq_true_eq] at h5
  obtain ⟨⟨⟨⟨⟨g1, g2⟩, g3⟩, g4⟩, g5⟩, g6⟩ := h5
  simp [Cond.before, Cond.holds, Cond.value, h1, h2, h3, h4, g1, g2, g3, g4, g5, g6]
def isCode : Jvm.Cond → Bool
  | .code _ _ _ _ => true
  | _ => false
theorem all_split {L : List Jvm.Cond} {P : Jvm.Cond → Bool} (h1 : L.all (fun c => isCode c || P c) = true) (h2 : ∀ c ∈ L.filter isCode, P c = true) : L.all P = true := by
  refine List.all_eq_true.mpr fun c hc => ?_
  have h := List.all_eq_true.mp h1 c hc
  rcases Bool.eq_false_or_eq_true (isCode c) with hi | hi
  · exact h2 c (List.mem_filter.mpr ⟨hc, hi⟩)
  · simpa [hi] using h
set_option maxRecDepth 65536 in
theorem w_c0 : (Jvm.Cond.code x code maxLocals ret).before args0 about1 = true := code_word (m := ⟨1, 1⟩) (meth := k1m1) (c := k1c1) (by decide +kernel) rfl rfl rfl (by decide +kernel)
set_option maxRecDepth 65536 in
theorem w_c1 : (Jvm.Cond.code ({ cls := "com/example/kortkod/kortkod/coding/AdaptiveTree", name := "<init>", desc := "(I)V" } : Jvm.MethodName) prog_13_method_1_code (2 : Nat) (Option.none : Option Jvm.ClassFile.FieldType)).before args0 about1 = true := code_word (m := ⟨2, 0⟩) (meth := k2m0) (c := k2c0) (by decide +kernel) rfl rfl rfl (by decide +kernel)
set_option maxRecDepth 65536 in
theorem w_c2 : (Jvm.Cond.code ({ cls := "java/lang/Object", name := "<init>", desc := "()V" } : Jvm.MethodName) object_method_1_code (1 : Nat) (Option.none : Option Jvm.ClassFile.FieldType)).before args0 about1 = true := code_word (m := ⟨0, 0⟩) (meth := k0m0) (c := k0c0) (by decide +kernel) rfl rfl rfl (by decide +kernel)
set_option maxRecDepth 65536 in
theorem w_c3 : (Jvm.Cond.code ({ cls := "java/util/Arrays", name := "fill", desc := "([II)V" } : Jvm.MethodName) jdk_65_method_103_code (4 : Nat) (Option.none : Option Jvm.ClassFile.FieldType)).before args0 about1 = true := code_word (m := ⟨3, 1⟩) (meth := k3m1) (c := k3c1) (by decide +kernel) rfl rfl rfl (by decide +kernel)
set_option maxRecDepth 65536 in
theorem w_c4 : (Jvm.Cond.code ({ cls := "com/example/kortkod/kortkod/coding/AdaptiveTree", name := "place", desc := "(II)V" } : Jvm.MethodName) prog_13_method_14_code (3 : Nat) (Option.none : Option Jvm.ClassFile.FieldType)).before args0 about1 = true := code_word (m := ⟨2, 7⟩) (meth := k2m7) (c := k2c7) (by decide +kernel) rfl rfl rfl (by decide +kernel)
set_option maxRecDepth 65536 in
theorem w_c5 : (Jvm.Cond.code ({ cls := "com/example/kortkod/kortkod/coding/AdaptiveTree", name := "holds", desc := "(I)Z" } : Jvm.MethodName) prog_13_method_2_code (2 : Nat) (Option.some Jvm.ClassFile.FieldType.boolean)).before args0 about1 = true := code_word (m := ⟨2, 1⟩) (meth := k2m1) (c := k2c1) (by decide +kernel) rfl rfl rfl (by decide +kernel)
set_option maxRecDepth 65536 in
theorem w_c6 : (Jvm.Cond.code ({ cls := "com/example/kortkod/kortkod/coding/AdaptiveTree", name := "add", desc := "(I)V" } : Jvm.MethodName) prog_13_method_6_code (2 : Nat) (Option.none : Option Jvm.ClassFile.FieldType)).before args0 about1 = true := code_word (m := ⟨2, 2⟩) (meth := k2m2) (c := k2c2) (by decide +kernel) rfl rfl rfl (by decide +kernel)
set_option maxRecDepth 65536 in
theorem w_c7 : (Jvm.Cond.code ({ cls := "com/example/kortkod/kortkod/coding/AdaptiveTree", name := "split", desc := "(I)I" } : Jvm.MethodName) prog_13_method_8_code (4 : Nat) (Option.some Jvm.ClassFile.FieldType.int)).before args0 about1 = true := code_word (m := ⟨2, 3⟩) (meth := k2m3) (c := k2c3) (by decide +kernel) rfl rfl rfl (by decide +kernel)
set_option maxRecDepth 65536 in
theorem w_c8 : (Jvm.Cond.code ({ cls := "com/example/kortkod/kortkod/coding/AdaptiveTree", name := "update", desc := "(I)V" } : Jvm.MethodName) prog_13_method_9_code (3 : Nat) (Option.none : Option Jvm.ClassFile.FieldType)).before args0 about1 = true := code_word (m := ⟨2, 4⟩) (meth := k2m4) (c := k2c4) (by decide +kernel) rfl rfl rfl (by decide +kernel)
set_option maxRecDepth 65536 in
theorem w_c9 : (Jvm.Cond.code ({ cls := "com/example/kortkod/kortkod/coding/AdaptiveTree", name := "leader", desc := "(I)I" } : Jvm.MethodName) prog_13_method_10_code (8 : Nat) (Option.some Jvm.ClassFile.FieldType.int)).before args0 about1 = true := code_word (m := ⟨2, 5⟩) (meth := k2m5) (c := k2c5) (by decide +kernel) rfl rfl rfl (by decide +kernel)
set_option maxRecDepth 65536 in
theorem w_c10 : (Jvm.Cond.code ({ cls := "com/example/kortkod/kortkod/coding/AdaptiveTree", name := "parent", desc := "(I)I" } : Jvm.MethodName) prog_13_method_15_code (2 : Nat) (Option.some Jvm.ClassFile.FieldType.int)).before args0 about1 = true := code_word (m := ⟨2, 8⟩) (meth := k2m8) (c := k2c8) (by decide +kernel) rfl rfl rfl (by decide +kernel)
set_option maxRecDepth 65536 in
theorem w_c11 : (Jvm.Cond.code ({ cls := "com/example/kortkod/kortkod/coding/AdaptiveTree", name := "swap", desc := "(II)V" } : Jvm.MethodName) prog_13_method_13_code (4 : Nat) (Option.none : Option Jvm.ClassFile.FieldType)).before args0 about1 = true := code_word (m := ⟨2, 6⟩) (meth := k2m6) (c := k2c6) (by decide +kernel) rfl rfl rfl (by decide +kernel)
def codes1 : List Jvm.Cond := [Jvm.Cond.code x code maxLocals ret, Jvm.Cond.code ({ cls := "com/example/kortkod/kortkod/coding/AdaptiveTree", name := "<init>", desc := "(I)V" } : Jvm.MethodName) prog_13_method_1_code (2 : Nat) (Option.none : Option Jvm.ClassFile.FieldType), Jvm.Cond.code ({ cls := "java/lang/Object", name := "<init>", desc := "()V" } : Jvm.MethodName) object_method_1_code (1 : Nat) (Option.none : Option Jvm.ClassFile.FieldType), Jvm.Cond.code ({ cls := "java/util/Arrays", name := "fill", desc := "([II)V" } : Jvm.MethodName) jdk_65_method_103_code (4 : Nat) (Option.none : Option Jvm.ClassFile.FieldType), Jvm.Cond.code ({ cls := "com/example/kortkod/kortkod/coding/AdaptiveTree", name := "place", desc := "(II)V" } : Jvm.MethodName) prog_13_method_14_code (3 : Nat) (Option.none : Option Jvm.ClassFile.FieldType), Jvm.Cond.code ({ cls := "com/example/kortkod/kortkod/coding/AdaptiveTree", name := "holds", desc := "(I)Z" } : Jvm.MethodName) prog_13_method_2_code (2 : Nat) (Option.some Jvm.ClassFile.FieldType.boolean), Jvm.Cond.code ({ cls := "com/example/kortkod/kortkod/coding/AdaptiveTree", name := "add", desc := "(I)V" } : Jvm.MethodName) prog_13_method_6_code (2 : Nat) (Option.none : Option Jvm.ClassFile.FieldType), Jvm.Cond.code ({ cls := "com/example/kortkod/kortkod/coding/AdaptiveTree", name := "split", desc := "(I)I" } : Jvm.MethodName) prog_13_method_8_code (4 : Nat) (Option.some Jvm.ClassFile.FieldType.int), Jvm.Cond.code ({ cls := "com/example/kortkod/kortkod/coding/AdaptiveTree", name := "update", desc := "(I)V" } : Jvm.MethodName) prog_13_method_9_code (3 : Nat) (Option.none : Option Jvm.ClassFile.FieldType), Jvm.Cond.code ({ cls := "com/example/kortkod/kortkod/coding/AdaptiveTree", name := "leader", desc := "(I)I" } : Jvm.MethodName) prog_13_method_10_code (8 : Nat) (Option.some Jvm.ClassFile.FieldType.int), Jvm.Cond.code ({ cls := "com/example/kortkod/kortkod/coding/AdaptiveTree", name := "parent", desc := "(I)I" } : Jvm.MethodName) prog_13_method_15_code (2 : Nat) (Option.some Jvm.ClassFile.FieldType.int), Jvm.Cond.code ({ cls := "com/example/kortkod/kortkod/coding/AdaptiveTree", name := "swap", desc := "(II)V" } : Jvm.MethodName) prog_13_method_13_code (4 : Nat) (Option.none : Option Jvm.ClassFile.FieldType)]
set_option maxRecDepth 65536 in
theorem codes_eq : words1.filter isCode = codes1 := rfl
theorem w_codes : ∀ c ∈ words1.filter isCode, c.before args0 about1 = true := by
  rw [codes_eq]
  intro c hc
  simp only [codes1, List.mem_cons, List.not_mem_nil, or_false] at hc
  rcases hc with rfl | rfl | rfl | rfl | rfl | rfl | rfl | rfl | rfl | rfl | rfl | rfl
  · exact w_c0
  · exact w_c1
  · exact w_c2
  · exact w_c3
  · exact w_c4
  · exact w_c5
  · exact w_c6
  · exact w_c7
  · exact w_c8
  · exact w_c9
  · exact w_c10
  · exact w_c11
set_option maxRecDepth 65536 in
theorem w_t1 : (words1.take 24).all (fun c => isCode c || c.before args0 about1) = true := by decide +kernel
set_option maxRecDepth 65536 in
theorem w_t2 : ((words1.drop 24).take 24).all (fun c => isCode c || c.before args0 about1) = true := by decide +kernel
set_option maxRecDepth 65536 in
theorem w_t3 : ((words1.drop 24).drop 24).all (fun c => isCode c || c.before args0 about1) = true := by decide +kernel
theorem w_tables : (allAtoms (Jvm.Cond.code x code maxLocals ret :: tables_1)).before args0 about1 = true := by
  rw [allAtoms_all]
  show words1.all (fun c => c.before args0 about1) = true
  refine all_split ?_ w_codes
  rw [← List.take_append_drop 24 words1, List.all_append, w_t1, ← List.take_append_drop 24 (words1.drop 24), List.all_append, w_t2, w_t3]
  rfl
set_option maxRecDepth 65536 in
theorem w_case : (Jvm.Cond.and given_1 narrow_1).before args0 about1 = true := by decide +kernel
theorem w_applies : (headSpec (Jvm.Cond.code x code maxLocals ret :: tables_1) room_1).applies x e0.platform about1 = true :=
  (Spec.applies_iff w_frames).mpr ⟨w_running, w_runnable, w_alone, w_named, w_hears, w_ripe, w_room, w_tables⟩
theorem atStart : AtStart classFile x code maxLocals ret World_1 tables_1 room_1 Calls_1 rest_1 Pre_1 launch0 p0 e0 about1 theMethod args0 below0 :=
  ⟨lists_1, trivial, launch0.admits_env _ _ _, launch0.least_env, fairChoices_fair.cas, fairChoices_fair.clock, w_frames, w_args, w_heap, w_applies, trivial, trivial, w_case⟩
end start1
theorem witness_1 : WitnessClaimed_1 := ⟨start1.p0, start1.e0, start1.about1, start1.theMethod, start1.args0, start1.below0, start1.atStart⟩
end Jvm.Pilot.@@N@@
