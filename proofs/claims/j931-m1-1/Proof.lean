import JvmDerived
import JvmDerived.Pilot.@@N@@Statement
import JvmDerived.Pilot.@@N@@Code
set_option linter.unusedVariables false
set_option linter.unusedSimpArgs false
namespace Jvm.Pilot.@@N@@
open Jvm Jvm.ClassFile Sem Op Lib Jvm.Free Jvm.Stand Jvm.LawKit Jvm.RoadKit Bundle Jvm.Pilot.@@N@@.Jvm.D
/-! ## own layer: a walk goal by goal, over a world of objects that the law made itself -/
abbrev Desc : Type := (String × List (String × String × Value)) ⊕ (List Int32 ⊕ List Int64)
abbrev Wld : Type := List (Addr × Desc)
def Is (Z : State) (h : Heap) (a : Addr) : Desc → Prop
  | .inl o => Exa Z h a o.1 ∧ (∀ f ∈ o.2, Fld Z h a o.1 f.1 f.2.1 f.2.2) ∧ (o.2.map fun f => Jvm.RoadKit.slotOf Z o.1 f.1 f.2.1).Nodup
  | .inr (.inl vs) => ∃ cl : Cell, Arr Z h a cl .int ∧ cl.slots = (vs.map Value.int).toArray ∧ vs.length < 2 ^ 31
  | .inr (.inr vs) => ∃ cl : Cell, Arr Z h a cl .long ∧ cl.slots = (vs.map Value.long).toArray ∧ vs.length < 2 ^ 31
def World (Z : State) (n0 : Nat) (h : Heap) (W : Wld) : Prop := n0 ≤ h.size ∧ (W.map fun q => q.1).Nodup ∧ ∀ q ∈ W, n0 ≤ q.1 ∧ Is Z h q.1 q.2
section OwnFacts
variable {Z : State} {h h' : Heap} {a b : Addr} {d : Desc} {n0 sl i : Nat} {v : Value} {W : Wld}
theorem own_nodup {α : Type} {xs : List α} (N : xs.Nodup) {i j : Nat} {x : α} (h1 : xs[i]? = some x) (h2 : xs[j]? = some x) : i = j := by
  have hi := (List.getElem?_eq_some_iff.mp h1).1
  exact (List.getElem?_inj hi N).mp (h1.trans h2.symm)
theorem own_set_map {α β : Type} (f : α → β) {xs : List α} {i : Nat} {x y : α} (h1 : xs[i]? = some x) (e : f y = f x) : (xs.set i y).map f = xs.map f := by
  apply List.ext_getElem?
  intro k
  rw [List.getElem?_map, List.getElem?_map, List.getElem?_set]
  by_cases q : i = k
  · subst q
    obtain ⟨hlt, hx⟩ := List.getElem?_eq_some_iff.mp h1
    simp [hlt, hx, e]
  · simp [q]
theorem own_mem_set {α : Type} {xs : List α} {i : Nat} {y z : α} (hz : z ∈ xs.set i y) : z = y ∨ ∃ k, k ≠ i ∧ xs[k]? = some z := by
  obtain ⟨k, hk⟩ := List.mem_iff_getElem?.mp hz
  rw [List.getElem?_set] at hk
  by_cases q : i = k
  · subst q
    by_cases l : i < xs.length
    · simp [l] at hk; exact Or.inl hk.symm
    · simp [l] at hk
  · simp only [q, if_false] at hk
    exact Or.inr ⟨k, fun e => q e.symm, hk⟩
theorem Is.lt : ∀ {d : Desc}, Is Z h a d → a < h.size
  | .inl _, I => I.1.lt
  | .inr (.inl _), I => by obtain ⟨_, A, _⟩ := I; exact A.lt
  | .inr (.inr _), I => by obtain ⟨_, A, _⟩ := I; exact A.lt
theorem Is.ext (E : Ext h h') : ∀ {d : Desc}, Is Z h a d → Is Z h' a d
  | .inl _, I => ⟨I.1.ext E, fun f hf => (I.2.1 f hf).ext E, I.2.2⟩
  | .inr (.inl _), I => by obtain ⟨c, A, r⟩ := I; exact ⟨c, A.ext E, r⟩
  | .inr (.inr _), I => by obtain ⟨c, A, r⟩ := I; exact ⟨c, A.ext E, r⟩
theorem Is.other (K : Wr h h' b sl v) (q : a ≠ b) : ∀ {d : Desc}, Is Z h a d → Is Z h' a d
  | .inl _, I => ⟨I.1.wr K, fun f hf => (I.2.1 f hf).other K (Or.inl q), I.2.2⟩
  | .inr (.inl _), I => by obtain ⟨c, A, r⟩ := I; exact ⟨c, A.other K q, r⟩
  | .inr (.inr _), I => by obtain ⟨c, A, r⟩ := I; exact ⟨c, A.other K q, r⟩
theorem Is.put {C n t : String} {fs : List (String × String × Value)} {old : Value} {j : Nat} (K : Wr h h' a (Jvm.RoadKit.slotOf Z C n t) v) (I : Is Z h a (.inl (C, fs))) (hj : fs[j]? = some (n, t, old)) : Is Z h' a (.inl (C, fs.set j (n, t, v))) := by
  obtain ⟨E, Fs, P⟩ := I
  refine ⟨E.wr K, fun f hf => ?_, ?_⟩
  · rcases own_mem_set hf with rfl | ⟨k, q, hk⟩
    · exact (Fs _ (List.mem_of_getElem? hj)).same K
    · refine (Fs f (List.mem_of_getElem? hk)).other K (Or.inr fun e => q ?_)
      have h1 : (fs.map fun f => Jvm.RoadKit.slotOf Z C f.1 f.2.1)[k]? = some (Jvm.RoadKit.slotOf Z C f.1 f.2.1) := by rw [List.getElem?_map, hk]; rfl
      have h2 : (fs.map fun f => Jvm.RoadKit.slotOf Z C f.1 f.2.1)[j]? = some (Jvm.RoadKit.slotOf Z C f.1 f.2.1) := by rw [List.getElem?_map, hj, e]; rfl
      exact own_nodup P h1 h2
  · have := own_set_map (fun f : String × String × Value => Jvm.RoadKit.slotOf Z C f.1 f.2.1) (y := (n, t, v)) hj rfl
    show (List.map (fun f : String × String × Value => Jvm.RoadKit.slotOf Z C f.1 f.2.1) (fs.set j (n, t, v))).Nodup
    rw [this]; exact P
theorem own_size {vs : List Int32} {cl : Cell} (e : cl.slots = (vs.map Value.int).toArray) : cl.slots.size = vs.length := by rw [e]; simp
theorem own_sizeL {vs : List Int64} {cl : Cell} (e : cl.slots = (vs.map Value.long).toArray) : cl.slots.size = vs.length := by rw [e]; simp
theorem Is.setI {vs : List Int32} {k : Nat} {x : Int32} (K : Wr h h' a k (.int x)) (I : Is Z h a (.inr (.inl vs))) : Is Z h' a (.inr (.inl (vs.set k x))) := by
  obtain ⟨c, A, e, hl⟩ := I
  refine ⟨_, A.same K, ?_, by simpa using hl⟩
  show c.slots.setIfInBounds k (.int x) = _
  rw [e]; simp [List.map_set]
theorem Is.setJ {vs : List Int64} {k : Nat} {x : Int64} (K : Wr h h' a k (.long x)) (I : Is Z h a (.inr (.inr vs))) : Is Z h' a (.inr (.inr (vs.set k x))) := by
  obtain ⟨c, A, e, hl⟩ := I
  refine ⟨_, A.same K, ?_, by simpa using hl⟩
  show c.slots.setIfInBounds k (.long x) = _
  rw [e]; simp [List.map_set]
theorem World.get (D : World Z n0 h W) (hi : W[i]? = some (a, d)) : n0 ≤ a ∧ Is Z h a d := D.2.2 _ (List.mem_of_getElem? hi)
theorem World.upd {d' : Desc} (D : World Z n0 h W) (hi : W[i]? = some (a, d)) (K : Wr h h' a sl v) (I : Is Z h' a d') : World Z n0 h' (W.set i (a, d')) := by
  refine ⟨by rw [K.size]; exact D.1, ?_, fun q hq => ?_⟩
  · rw [own_set_map (fun q : Addr × Desc => q.1) (y := (a, d')) hi rfl]; exact D.2.1
  · rcases own_mem_set hq with rfl | ⟨k, ne, hk⟩
    · exact ⟨(D.get hi).1, I⟩
    · have hq' := D.2.2 q (List.mem_of_getElem? hk)
      refine ⟨hq'.1, hq'.2.other K fun e => ne ?_⟩
      have h1 : (W.map fun q => q.1)[k]? = some q.1 := by rw [List.getElem?_map, hk]; rfl
      have h2 : (W.map fun q => q.1)[i]? = some q.1 := by rw [List.getElem?_map, hi, e]; rfl
      exact own_nodup D.2.1 h1 h2
theorem World.add {d : Desc} (D : World Z n0 h W) (E : Ext h h') (I : Is Z h' h.size d) : World Z n0 h' (W ++ [(h.size, d)]) := by
  refine ⟨Nat.le_trans D.1 E.1, ?_, fun q hq => ?_⟩
  · rw [List.map_append, List.nodup_append]
    refine ⟨D.2.1, by simp, fun x hx y hy e => ?_⟩
    obtain ⟨q, hq, rfl⟩ := List.mem_map.mp hx
    simp only [List.map_cons, List.map_nil, List.mem_singleton] at hy
    have hlt := (D.2.2 q hq).2.lt
    subst hy
    exact absurd e (Nat.ne_of_lt hlt)
  · rcases List.mem_append.mp hq with hq | hq
    · exact ⟨(D.2.2 q hq).1, (D.2.2 q hq).2.ext E⟩
    · cases List.mem_singleton.mp hq
      exact ⟨D.1, I⟩
theorem World.ne {i j : Nat} {a b : Addr} {d d' : Desc} (D : World Z n0 h W) (hi : W[i]? = some (a, d)) (hj : W[j]? = some (b, d')) (q : i ≠ j) : a ≠ b := fun e => q (by
  have h1 : (W.map fun q => q.1)[i]? = some a := by rw [List.getElem?_map, hi]; rfl
  have h2 : (W.map fun q => q.1)[j]? = some a := by rw [List.getElem?_map, hj, e]; rfl
  exact own_nodup D.2.1 h1 h2)
end OwnFacts
/-- the fields of a new object, at their first values -/
def Lay (Z : State) (a0 : Array Value) (C : String) (fs : List (String × String × Value)) : Prop := ∀ f ∈ fs, Laid Z a0 C C f.1 f.2.1 ∧ ∃ ty, parseFieldDescriptor f.2.1 = some ty ∧ f.2.2 = defaultValue ty
theorem lay_nil {Z : State} {a0 : Array Value} {C : String} : Lay Z a0 C [] := fun _ q => nomatch q
theorem lay_cons {Z : State} {a0 : Array Value} {C n t : String} {v : Value} {ty : FieldType} {fs : List (String × String × Value)} (L : Laid Z a0 C C n t) (ht : parseFieldDescriptor t = some ty) (hv : v = defaultValue ty) (r : Lay Z a0 C fs) : Lay Z a0 C ((n, t, v) :: fs) := fun f hf => by
  rcases List.mem_cons.mp hf with rfl | hf
  · exact ⟨L, ty, ht, hv⟩
  · exact r f hf
theorem Lay.slots {Z : State} {a0 : Array Value} {C : String} : ∀ {fs : List (String × String × Value)}, Lay Z a0 C fs → (fs.map fun f => f.1).Nodup → (fs.map fun f => Jvm.RoadKit.slotOf Z C f.1 f.2.1).Nodup
  | [], _, _ => by simp
  | f :: fs, L, N => by
    simp only [List.map_cons, List.nodup_cons] at N ⊢
    refine ⟨fun hm => ?_, Lay.slots (fun g hg => L g (List.mem_cons_of_mem _ hg)) N.2⟩
    obtain ⟨g, hg, e⟩ := List.mem_map.mp hm
    obtain ⟨L1, t1, p1, -⟩ := L f (List.mem_cons_self ..)
    obtain ⟨L2, t2, p2, -⟩ := L g (List.mem_cons_of_mem _ hg)
    exact slot_ne L2 L1 (fun q => N.1 (q ▸ List.mem_map.mpr ⟨g, hg, rfl⟩)) p2 p1 e
abbrev Dyn : Type := Program × Env × State × MethodId × Array Value × List Frame × Method × Code
def Done (Z : State) (n0 : Nat) (s : State) (R : Room) (F : Option Value → Wld → Prop) (s₂ : State) (o : Outcome) : Prop := ∃ v L, o = .returned v ∧ (Fr n0 L ∧ ∃ W', World Z n0 s₂.heap W' ∧ F v W') ∧ FrameEnd s o s₂ L R.cells R.slots
def Go (l : Launch) (Z : State) (n0 : Nat) (R : Room) (code : ByteArray) (maxL : Nat) (y : MethodName) (ret : Option FieldType) (D : Dyn) (W : Wld) (cells slots pc : Nat) (ls : Array Slot) (st : List Value) (F : Option Value → Wld → Prop) : Prop :=
  match D with
  | (p, e, s, m, args, below, meth, c) => p.tables.exec = Jvm.exec → Z.Warmed39 s.vm → c.code = code → c.maxLocals = maxL → s.vm.findClass y.cls = some m.cls → meth.name = y.name → meth.sig.returnType = ret → meth.locks = false →
    ∀ T locs, Stand p l e R s m args below meth c T locs cells slots → Fr n0 locs → World Z n0 T.heap W → ∃ s₂ o, Steps p.tables e below (T.setTop (mkF m pc ls st)) s₂ ∧ s₂.status = .running ∧ Ended s₂ below o ∧ Done Z n0 s R F s₂ o
def Meets (l : Launch) (Z : State) (n0 : Nat) (y : MethodName) (bytes : ByteArray) (maxL : Nat) (ret : Option FieldType) (rm : Room) (ws : List Jvm.Cond) (as : Array Value) (W : Wld) (F : Option Value → Wld → Prop) : Prop :=
  ∀ h0 : Heap, World Z n0 h0 W → MetFree l y (head1 (Jvm.Cond.code y bytes maxL ret :: ws) rm) (fun a U => a = as ∧ Z.Warmed39 U.vm ∧ U.heap = h0) (fun _ _ _ _ _ => True) (fun _ U o U' => ∃ v L, o = .returned v ∧ (Fr n0 L ∧ ∃ W', World Z n0 U'.heap W' ∧ F v W') ∧ FrameEnd U o U' L rm.cells rm.slots)
theorem Meets.of_go {l : Launch} {Z : State} {n0 : Nat} {y : MethodName} {bytes : ByteArray} {maxL : Nat} {ret : Option FieldType} {rm : Room} {ws : List Jvm.Cond} {as : Array Value} {W : Wld} {F : Option Value → Wld → Prop} {ls : Array Slot} (hpl : plainFor y = true)
    (ef : ∀ m, entryFrame m as maxL = mkF m 0 ls []) (k : ∀ D, Go l Z n0 rm bytes maxL y ret D W 0 0 0 ls [] F) : Meets l Z n0 y bytes maxL ret rm ws as W F := by
  intro h0 Wd
  refine MetFree.of_bodySF hpl hisR ?_
  intro p e s m args below meth c s₁ Bd hml0 hP hK
  obtain ⟨rfl, hZ, hh⟩ := hP
  have e0 : s₁.heap = h0 := by rw [← hh, Bd.state]; rfl
  obtain ⟨s₂, o, h1, h2, h3, h4⟩ := k (p, e, s, m, _, below, meth, c) Bd.exec hZ Bd.bytes hml0 (findClass_of_methodNamed Bd.named) (name_of_methodNamed Bd.named Bd.method).1 Bd.returns Bd.notSynchronized s₁ [] (Stand.of_body Bd) (Fr.nil n0) (e0 ▸ Wd)
  exact ⟨s₂, o, castTop (ef m) h1, h2, h3, h4⟩
theorem Meets.mono {l : Launch} {Z : State} {n0 : Nat} {y : MethodName} {bytes : ByteArray} {maxL : Nat} {ret : Option FieldType} {rm : Room} {ws : List Jvm.Cond} {as : Array Value} {W : Wld} {F G : Option Value → Wld → Prop} (M : Meets l Z n0 y bytes maxL ret rm ws as W F) (q : ∀ v W', F v W' → G v W') : Meets l Z n0 y bytes maxL ret rm ws as W G := by
  intro h0 Wd p e a1 a2 a3 s m args below b1 b2 b3 b4
  obtain ⟨n, o, c1, c2, c3, v, L, d1, ⟨d2, W', d3, d4⟩, d5⟩ := M h0 Wd p e a1 a2 a3 s m args below b1 b2 b3 b4
  exact ⟨n, o, c1, c2, c3, v, L, d1, ⟨d2, W', d3, q _ _ d4⟩, d5⟩
section OwnSteps
variable {l : Launch} {Z : State} {n0 : Nat} {R : Room} {code : ByteArray} {maxL : Nat} {y : MethodName} {ret : Option FieldType} {D : Dyn} {W : Wld} {cells slots pc pc' : Nat} {ls ls' : Array Slot} {stk stk' : List Value} {F : Option Value → Wld → Prop} {a0 : Array Value}
theorem Go.plain (st : ∀ (p : Program) (e : Env) (s : State) (m : MethodId) (args : Array Value) (below : List Frame) (meth : Method) (c : Code) (T : State) (locs : List Loc), p.tables.exec = Jvm.exec → Z.Warmed39 s.vm → c.code = code → s.vm.findClass y.cls = some m.cls → Stand p l e R s m args below meth c T locs cells slots → World Z n0 T.heap W →
      ∀ target, Steps p.tables e below (T.setTop (mkF m pc' ls' stk')) target → Steps p.tables e below (T.setTop (mkF m pc ls stk)) target)
    (k : Go l Z n0 R code maxL y ret D W cells slots pc' ls' stk' F) : Go l Z n0 R code maxL y ret D W cells slots pc ls stk F := by
  obtain ⟨p, e, s, m, args, below, meth, c⟩ := D
  intro hx hZ hby hml hown hnm hret hlk T locs X N Wd
  obtain ⟨s₂, o, h1, h2⟩ := k hx hZ hby hml hown hnm hret hlk T locs X N Wd
  exact ⟨s₂, o, st p e s m args below meth c T locs hx hZ hby hown X Wd _ h1, h2⟩
theorem Go.val {r : Value} {rest : List Value} (k : Go l Z n0 R code maxL y ret D W cells slots pc ls (r :: rest) F) : Go l Z n0 R code maxL y ret D W cells slots pc ls ((some r).toList ++ rest) F := k
theorem Go.nov {rest : List Value} (k : Go l Z n0 R code maxL y ret D W cells slots pc ls rest F) : Go l Z n0 R code maxL y ret D W cells slots pc ls ((none : Option Value).toList ++ rest) F := k
/-! plain steps -/
theorem Go.iload {k : Nat} {v : Int32} (hd : decode code pc = .ok (.iload k, 2)) (hl : ls[k]? = some (.val (.int v))) (hp : pc + 2 = pc') (k : Go l Z n0 R code maxL y ret D W cells slots pc' ls (.int v :: stk) F) : Go l Z n0 R code maxL y ret D W cells slots pc ls stk F := by
  subst hp; exact Go.plain (fun p e s m args below meth c T locs hx hZ hby hown X Wd target h => XS.iload X.here hx rfl (hb hby hd) hl h) k
theorem Go.iloadN {k : Fin 4} {v : Int32} (hd : decode code pc = .ok (.iload_n k, 1)) (hl : ls[k.val]? = some (.val (.int v))) (hp : pc + 1 = pc') (k : Go l Z n0 R code maxL y ret D W cells slots pc' ls (.int v :: stk) F) : Go l Z n0 R code maxL y ret D W cells slots pc ls stk F := by
  subst hp; exact Go.plain (fun p e s m args below meth c T locs hx hZ hby hown X Wd target h => XS.iloadN X.here hx rfl (hb hby hd) hl h) k
theorem Go.istore {k : Nat} {v : Int32} (hd : decode code pc = .ok (.istore k, 2)) (hl : storeLocals ls k (.int v) = some ls') (hp : pc + 2 = pc') (k : Go l Z n0 R code maxL y ret D W cells slots pc' ls' stk F) : Go l Z n0 R code maxL y ret D W cells slots pc ls (.int v :: stk) F := by
  subst hp; exact Go.plain (fun p e s m args below meth c T locs hx hZ hby hown X Wd target h => XS.istore X.here hx rfl (hb hby hd) rfl hl h) k
theorem Go.istoreN {k : Fin 4} {v : Int32} (hd : decode code pc = .ok (.istore_n k, 1)) (hl : storeLocals ls k.val (.int v) = some ls') (hp : pc + 1 = pc') (k : Go l Z n0 R code maxL y ret D W cells slots pc' ls' stk F) : Go l Z n0 R code maxL y ret D W cells slots pc ls (.int v :: stk) F := by
  subst hp; exact Go.plain (fun p e s m args below meth c T locs hx hZ hby hown X Wd target h => XS.istoreN X.here hx rfl (hb hby hd) rfl hl h) k
theorem Go.lload {k : Nat} {v : Int64} (hd : decode code pc = .ok (.lload k, 2)) (hl : ls[k]? = some (.val (.long v))) (hp : pc + 2 = pc') (k : Go l Z n0 R code maxL y ret D W cells slots pc' ls (.long v :: stk) F) : Go l Z n0 R code maxL y ret D W cells slots pc ls stk F := by
  subst hp; exact Go.plain (fun p e s m args below meth c T locs hx hZ hby hown X Wd target h => XT.lload X.here hx rfl (hb hby hd) hl h) k
theorem Go.lloadN {k : Fin 4} {v : Int64} (hd : decode code pc = .ok (.lload_n k, 1)) (hl : ls[k.val]? = some (.val (.long v))) (hp : pc + 1 = pc') (k : Go l Z n0 R code maxL y ret D W cells slots pc' ls (.long v :: stk) F) : Go l Z n0 R code maxL y ret D W cells slots pc ls stk F := by
  subst hp; exact Go.plain (fun p e s m args below meth c T locs hx hZ hby hown X Wd target h => XT.lloadN X.here hx rfl (hb hby hd) hl h) k
theorem Go.lstore {k : Nat} {v : Int64} (hd : decode code pc = .ok (.lstore k, 2)) (hl : storeLocals ls k (.long v) = some ls') (hp : pc + 2 = pc') (k : Go l Z n0 R code maxL y ret D W cells slots pc' ls' stk F) : Go l Z n0 R code maxL y ret D W cells slots pc ls (.long v :: stk) F := by
  subst hp; exact Go.plain (fun p e s m args below meth c T locs hx hZ hby hown X Wd target h => XT.lstore X.here hx rfl (hb hby hd) rfl hl h) k
theorem Go.lstoreN {k : Fin 4} {v : Int64} (hd : decode code pc = .ok (.lstore_n k, 1)) (hl : storeLocals ls k.val (.long v) = some ls') (hp : pc + 1 = pc') (k : Go l Z n0 R code maxL y ret D W cells slots pc' ls' stk F) : Go l Z n0 R code maxL y ret D W cells slots pc ls (.long v :: stk) F := by
  subst hp; exact Go.plain (fun p e s m args below meth c T locs hx hZ hby hown X Wd target h => XT.lstoreN X.here hx rfl (hb hby hd) rfl hl h) k
theorem Go.aload {k : Nat} {v : Value} (hd : decode code pc = .ok (.aload k, 2)) (hl : ls[k]? = some (.val v)) (hv : v.isRef = true) (hp : pc + 2 = pc') (k : Go l Z n0 R code maxL y ret D W cells slots pc' ls (v :: stk) F) : Go l Z n0 R code maxL y ret D W cells slots pc ls stk F := by
  subst hp; exact Go.plain (fun p e s m args below meth c T locs hx hZ hby hown X Wd target h => XS.aload X.here hx rfl (hb hby hd) hl hv h) k
theorem Go.aloadN {k : Fin 4} {v : Value} (hd : decode code pc = .ok (.aload_n k, 1)) (hl : ls[k.val]? = some (.val v)) (hv : v.isRef = true) (hp : pc + 1 = pc') (k : Go l Z n0 R code maxL y ret D W cells slots pc' ls (v :: stk) F) : Go l Z n0 R code maxL y ret D W cells slots pc ls stk F := by
  subst hp; exact Go.plain (fun p e s m args below meth c T locs hx hZ hby hown X Wd target h => XS.aloadN X.here hx rfl (hb hby hd) hl hv h) k
theorem Go.astore {k : Nat} {v : Value} (hd : decode code pc = .ok (.astore k, 2)) (hv : v.isRef = true) (hl : storeLocals ls k v = some ls') (hp : pc + 2 = pc') (k : Go l Z n0 R code maxL y ret D W cells slots pc' ls' stk F) : Go l Z n0 R code maxL y ret D W cells slots pc ls (v :: stk) F := by
  subst hp; exact Go.plain (fun p e s m args below meth c T locs hx hZ hby hown X Wd target h => XS.astore X.here hx rfl (hb hby hd) rfl hv hl h) k
theorem Go.astoreN {k : Fin 4} {v : Value} (hd : decode code pc = .ok (.astore_n k, 1)) (hv : v.isRef = true) (hl : storeLocals ls k.val v = some ls') (hp : pc + 1 = pc') (k : Go l Z n0 R code maxL y ret D W cells slots pc' ls' stk F) : Go l Z n0 R code maxL y ret D W cells slots pc ls (v :: stk) F := by
  subst hp; exact Go.plain (fun p e s m args below meth c T locs hx hZ hby hown X Wd target h => XS.astoreN X.here hx rfl (hb hby hd) rfl hv hl h) k
theorem Go.iconst {i : Int} {v : Int32} (hd : decode code pc = .ok (.iconst i, 1)) (hv : Int32.ofInt i = v) (hp : pc + 1 = pc') (k : Go l Z n0 R code maxL y ret D W cells slots pc' ls (.int v :: stk) F) : Go l Z n0 R code maxL y ret D W cells slots pc ls stk F := by
  subst hp hv; exact Go.plain (fun p e s m args below meth c T locs hx hZ hby hown X Wd target h => XS.iconst X.here hx rfl (hb hby hd) h) k
theorem Go.bipush {i : Int} {v : Int32} (hd : decode code pc = .ok (.bipush i, 2)) (hv : (Int8.ofInt i).toInt32 = v) (hp : pc + 2 = pc') (k : Go l Z n0 R code maxL y ret D W cells slots pc' ls (.int v :: stk) F) : Go l Z n0 R code maxL y ret D W cells slots pc ls stk F := by
  subst hp hv; exact Go.plain (fun p e s m args below meth c T locs hx hZ hby hown X Wd target h => XS.bipush X.here hx rfl (hb hby hd) h) k
theorem Go.sipush {i : Int} {v : Int32} (hd : decode code pc = .ok (.sipush i, 3)) (hv : (Int16.ofInt i).toInt32 = v) (hp : pc + 3 = pc') (k : Go l Z n0 R code maxL y ret D W cells slots pc' ls (.int v :: stk) F) : Go l Z n0 R code maxL y ret D W cells slots pc ls stk F := by
  subst hp hv; exact Go.plain (fun p e s m args below meth c T locs hx hZ hby hown X Wd target h => XS.sipush X.here hx rfl (hb hby hd) h) k
theorem Go.lconst {i : Fin 2} {v : Int64} (hd : decode code pc = .ok (.lconst i, 1)) (hv : Int64.ofNat i = v) (hp : pc + 1 = pc') (k : Go l Z n0 R code maxL y ret D W cells slots pc' ls (.long v :: stk) F) : Go l Z n0 R code maxL y ret D W cells slots pc ls stk F := by
  subst hp hv; exact Go.plain (fun p e s m args below meth c T locs hx hZ hby hown X Wd target h => XT.lconst X.here hx rfl (hb hby hd) h) k
theorem Go.aconstNull  (hd : decode code pc = .ok (.aconst_null, 1)) (hp : pc + 1 = pc') (k : Go l Z n0 R code maxL y ret D W cells slots pc' ls (.null :: stk) F) : Go l Z n0 R code maxL y ret D W cells slots pc ls stk F := by
  subst hp; exact Go.plain (fun p e s m args below meth c T locs hx hZ hby hown X Wd target h => XS.aconstNull X.here hx rfl (hb hby hd) h) k
theorem Go.iadd {u v : Int32} (hd : decode code pc = .ok (.iadd, 1)) (hp : pc + 1 = pc') (k : Go l Z n0 R code maxL y ret D W cells slots pc' ls (.int (u + v) :: stk) F) : Go l Z n0 R code maxL y ret D W cells slots pc ls (.int v :: .int u :: stk) F := by
  subst hp; exact Go.plain (fun p e s m args below meth c T locs hx hZ hby hown X Wd target h => XS.iadd X.here hx rfl (hb hby hd) rfl h) k
theorem Go.ladd {u v : Int64} (hd : decode code pc = .ok (.ladd, 1)) (hp : pc + 1 = pc') (k : Go l Z n0 R code maxL y ret D W cells slots pc' ls (.long (u + v) :: stk) F) : Go l Z n0 R code maxL y ret D W cells slots pc ls (.long v :: .long u :: stk) F := by
  subst hp; exact Go.plain (fun p e s m args below meth c T locs hx hZ hby hown X Wd target h => XT.ladd X.here hx rfl (hb hby hd) rfl h) k
theorem Go.isub {u v : Int32} (hd : decode code pc = .ok (.isub, 1)) (hp : pc + 1 = pc') (k : Go l Z n0 R code maxL y ret D W cells slots pc' ls (.int (u - v) :: stk) F) : Go l Z n0 R code maxL y ret D W cells slots pc ls (.int v :: .int u :: stk) F := by
  subst hp; exact Go.plain (fun p e s m args below meth c T locs hx hZ hby hown X Wd target h => XS.isub X.here hx rfl (hb hby hd) rfl h) k
theorem Go.lsub {u v : Int64} (hd : decode code pc = .ok (.lsub, 1)) (hp : pc + 1 = pc') (k : Go l Z n0 R code maxL y ret D W cells slots pc' ls (.long (u - v) :: stk) F) : Go l Z n0 R code maxL y ret D W cells slots pc ls (.long v :: .long u :: stk) F := by
  subst hp; exact Go.plain (fun p e s m args below meth c T locs hx hZ hby hown X Wd target h => XT.lsub X.here hx rfl (hb hby hd) rfl h) k
theorem Go.imul {u v : Int32} (hd : decode code pc = .ok (.imul, 1)) (hp : pc + 1 = pc') (k : Go l Z n0 R code maxL y ret D W cells slots pc' ls (.int (u * v) :: stk) F) : Go l Z n0 R code maxL y ret D W cells slots pc ls (.int v :: .int u :: stk) F := by
  subst hp; exact Go.plain (fun p e s m args below meth c T locs hx hZ hby hown X Wd target h => XS.imul X.here hx rfl (hb hby hd) rfl h) k
theorem Go.lmul {u v : Int64} (hd : decode code pc = .ok (.lmul, 1)) (hp : pc + 1 = pc') (k : Go l Z n0 R code maxL y ret D W cells slots pc' ls (.long (u * v) :: stk) F) : Go l Z n0 R code maxL y ret D W cells slots pc ls (.long v :: .long u :: stk) F := by
  subst hp; exact Go.plain (fun p e s m args below meth c T locs hx hZ hby hown X Wd target h => XT.lmul X.here hx rfl (hb hby hd) rfl h) k
theorem Go.iand {u v : Int32} (hd : decode code pc = .ok (.iand, 1)) (hp : pc + 1 = pc') (k : Go l Z n0 R code maxL y ret D W cells slots pc' ls (.int (u &&& v) :: stk) F) : Go l Z n0 R code maxL y ret D W cells slots pc ls (.int v :: .int u :: stk) F := by
  subst hp; exact Go.plain (fun p e s m args below meth c T locs hx hZ hby hown X Wd target h => XS.iand X.here hx rfl (hb hby hd) rfl h) k
theorem Go.land {u v : Int64} (hd : decode code pc = .ok (.land, 1)) (hp : pc + 1 = pc') (k : Go l Z n0 R code maxL y ret D W cells slots pc' ls (.long (u &&& v) :: stk) F) : Go l Z n0 R code maxL y ret D W cells slots pc ls (.long v :: .long u :: stk) F := by
  subst hp; exact Go.plain (fun p e s m args below meth c T locs hx hZ hby hown X Wd target h => XT.land X.here hx rfl (hb hby hd) rfl h) k
theorem Go.ior {u v : Int32} (hd : decode code pc = .ok (.ior, 1)) (hp : pc + 1 = pc') (k : Go l Z n0 R code maxL y ret D W cells slots pc' ls (.int (u ||| v) :: stk) F) : Go l Z n0 R code maxL y ret D W cells slots pc ls (.int v :: .int u :: stk) F := by
  subst hp; exact Go.plain (fun p e s m args below meth c T locs hx hZ hby hown X Wd target h => XT.ior X.here hx rfl (hb hby hd) rfl h) k
theorem Go.lor {u v : Int64} (hd : decode code pc = .ok (.lor, 1)) (hp : pc + 1 = pc') (k : Go l Z n0 R code maxL y ret D W cells slots pc' ls (.long (u ||| v) :: stk) F) : Go l Z n0 R code maxL y ret D W cells slots pc ls (.long v :: .long u :: stk) F := by
  subst hp; exact Go.plain (fun p e s m args below meth c T locs hx hZ hby hown X Wd target h => XT.lor X.here hx rfl (hb hby hd) rfl h) k
theorem Go.ixor {u v : Int32} (hd : decode code pc = .ok (.ixor, 1)) (hp : pc + 1 = pc') (k : Go l Z n0 R code maxL y ret D W cells slots pc' ls (.int (u ^^^ v) :: stk) F) : Go l Z n0 R code maxL y ret D W cells slots pc ls (.int v :: .int u :: stk) F := by
  subst hp; exact Go.plain (fun p e s m args below meth c T locs hx hZ hby hown X Wd target h => XT.ixor X.here hx rfl (hb hby hd) rfl h) k
theorem Go.lxor {u v : Int64} (hd : decode code pc = .ok (.lxor, 1)) (hp : pc + 1 = pc') (k : Go l Z n0 R code maxL y ret D W cells slots pc' ls (.long (u ^^^ v) :: stk) F) : Go l Z n0 R code maxL y ret D W cells slots pc ls (.long v :: .long u :: stk) F := by
  subst hp; exact Go.plain (fun p e s m args below meth c T locs hx hZ hby hown X Wd target h => XT.lxor X.here hx rfl (hb hby hd) rfl h) k
theorem Go.ishl {u v : Int32} (hd : decode code pc = .ok (.ishl, 1)) (hp : pc + 1 = pc') (k : Go l Z n0 R code maxL y ret D W cells slots pc' ls (.int (u <<< (v &&& 31)) :: stk) F) : Go l Z n0 R code maxL y ret D W cells slots pc ls (.int v :: .int u :: stk) F := by
  subst hp; exact Go.plain (fun p e s m args below meth c T locs hx hZ hby hown X Wd target h => XT.ishl X.here hx rfl (hb hby hd) rfl h) k
theorem Go.ishr {u v : Int32} (hd : decode code pc = .ok (.ishr, 1)) (hp : pc + 1 = pc') (k : Go l Z n0 R code maxL y ret D W cells slots pc' ls (.int (u >>> (v &&& 31)) :: stk) F) : Go l Z n0 R code maxL y ret D W cells slots pc ls (.int v :: .int u :: stk) F := by
  subst hp; exact Go.plain (fun p e s m args below meth c T locs hx hZ hby hown X Wd target h => XT.ishr X.here hx rfl (hb hby hd) rfl h) k
theorem Go.iushr {u v : Int32} (hd : decode code pc = .ok (.iushr, 1)) (hp : pc + 1 = pc') (k : Go l Z n0 R code maxL y ret D W cells slots pc' ls (.int (XT.ushr u v) :: stk) F) : Go l Z n0 R code maxL y ret D W cells slots pc ls (.int v :: .int u :: stk) F := by
  subst hp; exact Go.plain (fun p e s m args below meth c T locs hx hZ hby hown X Wd target h => XT.iushr X.here hx rfl (hb hby hd) rfl h) k
theorem Go.lushr {u : Int64} {v : Int32} (hd : decode code pc = .ok (.lushr, 1)) (hp : pc + 1 = pc') (k : Go l Z n0 R code maxL y ret D W cells slots pc' ls (.long (XT.ushrL u v) :: stk) F) : Go l Z n0 R code maxL y ret D W cells slots pc ls (.int v :: .long u :: stk) F := by
  subst hp; exact Go.plain (fun p e s m args below meth c T locs hx hZ hby hown X Wd target h => XT.lushr X.here hx rfl (hb hby hd) rfl h) k
theorem Go.lshl {u : Int64} {v : Int32} (hd : decode code pc = .ok (.lshl, 1)) (hp : pc + 1 = pc') (k : Go l Z n0 R code maxL y ret D W cells slots pc' ls (.long (u <<< (v.toInt64 &&& 63)) :: stk) F) : Go l Z n0 R code maxL y ret D W cells slots pc ls (.int v :: .long u :: stk) F := by
  subst hp; exact Go.plain (fun p e s m args below meth c T locs hx hZ hby hown X Wd target h => XT.lshl X.here hx rfl (hb hby hd) rfl h) k
theorem Go.idiv {u v : Int32} (hd : decode code pc = .ok (.idiv, 1)) (hz : v ≠ 0) (hp : pc + 1 = pc') (k : Go l Z n0 R code maxL y ret D W cells slots pc' ls (.int (u / v) :: stk) F) : Go l Z n0 R code maxL y ret D W cells slots pc ls (.int v :: .int u :: stk) F := by
  subst hp; exact Go.plain (fun p e s m args below meth c T locs hx hZ hby hown X Wd target h => XS.idiv X.here hx rfl (hb hby hd) rfl hz h) k
theorem Go.irem {u v : Int32} (hd : decode code pc = .ok (.irem, 1)) (hz : v ≠ 0) (hp : pc + 1 = pc') (k : Go l Z n0 R code maxL y ret D W cells slots pc' ls (.int (u % v) :: stk) F) : Go l Z n0 R code maxL y ret D W cells slots pc ls (.int v :: .int u :: stk) F := by
  subst hp; exact Go.plain (fun p e s m args below meth c T locs hx hZ hby hown X Wd target h => iremM X hx rfl (hb hby hd) rfl hz h) k
theorem Go.ineg {u : Int32} (hd : decode code pc = .ok (.ineg, 1)) (hp : pc + 1 = pc') (k : Go l Z n0 R code maxL y ret D W cells slots pc' ls (.int (-u) :: stk) F) : Go l Z n0 R code maxL y ret D W cells slots pc ls (.int u :: stk) F := by
  subst hp; exact Go.plain (fun p e s m args below meth c T locs hx hZ hby hown X Wd target h => XS.ineg X.here hx rfl (hb hby hd) rfl h) k
theorem Go.lcmp {u v : Int64} (hd : decode code pc = .ok (.lcmp, 1)) (hp : pc + 1 = pc') (k : Go l Z n0 R code maxL y ret D W cells slots pc' ls (.int (XT.cmpL u v) :: stk) F) : Go l Z n0 R code maxL y ret D W cells slots pc ls (.long v :: .long u :: stk) F := by
  subst hp; exact Go.plain (fun p e s m args below meth c T locs hx hZ hby hown X Wd target h => XT.lcmp X.here hx rfl (hb hby hd) rfl h) k
theorem Go.i2l {u : Int32} (hd : decode code pc = .ok (.i2l, 1)) (hp : pc + 1 = pc') (k : Go l Z n0 R code maxL y ret D W cells slots pc' ls (.long u.toInt64 :: stk) F) : Go l Z n0 R code maxL y ret D W cells slots pc ls (.int u :: stk) F := by
  subst hp; exact Go.plain (fun p e s m args below meth c T locs hx hZ hby hown X Wd target h => XT.i2l X.here hx rfl (hb hby hd) rfl h) k
theorem Go.l2i {u : Int64} (hd : decode code pc = .ok (.l2i, 1)) (hp : pc + 1 = pc') (k : Go l Z n0 R code maxL y ret D W cells slots pc' ls (.int u.toInt32 :: stk) F) : Go l Z n0 R code maxL y ret D W cells slots pc ls (.long u :: stk) F := by
  subst hp; exact Go.plain (fun p e s m args below meth c T locs hx hZ hby hown X Wd target h => XT.l2i X.here hx rfl (hb hby hd) rfl h) k
theorem Go.i2c {u : Int32} (hd : decode code pc = .ok (.i2c, 1)) (hp : pc + 1 = pc') (k : Go l Z n0 R code maxL y ret D W cells slots pc' ls (.int u.toUInt32.toUInt16.toUInt32.toInt32 :: stk) F) : Go l Z n0 R code maxL y ret D W cells slots pc ls (.int u :: stk) F := by
  subst hp; exact Go.plain (fun p e s m args below meth c T locs hx hZ hby hown X Wd target h => XT.i2c X.here hx rfl (hb hby hd) rfl h) k
theorem Go.i2b {u : Int32} (hd : decode code pc = .ok (.i2b, 1)) (hp : pc + 1 = pc') (k : Go l Z n0 R code maxL y ret D W cells slots pc' ls (.int u.toInt8.toInt32 :: stk) F) : Go l Z n0 R code maxL y ret D W cells slots pc ls (.int u :: stk) F := by
  subst hp; exact Go.plain (fun p e s m args below meth c T locs hx hZ hby hown X Wd target h => XT.i2b X.here hx rfl (hb hby hd) rfl h) k
theorem Go.dup {u : Value} (hd : decode code pc = .ok (.dup, 1)) (hc : u.category = 1) (hp : pc + 1 = pc') (k : Go l Z n0 R code maxL y ret D W cells slots pc' ls (u :: u :: stk) F) : Go l Z n0 R code maxL y ret D W cells slots pc ls (u :: stk) F := by
  subst hp; exact Go.plain (fun p e s m args below meth c T locs hx hZ hby hown X Wd target h => XS.dup X.here hx rfl (hb hby hd) rfl hc h) k
theorem Go.pop {u : Value} (hd : decode code pc = .ok (.pop, 1)) (hc : u.category = 1) (hp : pc + 1 = pc') (k : Go l Z n0 R code maxL y ret D W cells slots pc' ls stk F) : Go l Z n0 R code maxL y ret D W cells slots pc ls (u :: stk) F := by
  subst hp; exact Go.plain (fun p e s m args below meth c T locs hx hZ hby hown X Wd target h => XT.pop X.here hx rfl (hb hby hd) rfl hc h) k
theorem Go.dupX1 {u v : Value} (hd : decode code pc = .ok (.dup_x1, 1)) (hc : u.category = 1) (hc' : v.category = 1) (hp : pc + 1 = pc') (k : Go l Z n0 R code maxL y ret D W cells slots pc' ls (u :: v :: u :: stk) F) : Go l Z n0 R code maxL y ret D W cells slots pc ls (u :: v :: stk) F := by
  subst hp; exact Go.plain (fun p e s m args below meth c T locs hx hZ hby hown X Wd target h => XT.dupX1 X.here hx rfl (hb hby hd) rfl hc hc' h) k
theorem Go.dup2 {u v : Value} (hd : decode code pc = .ok (.dup2, 1)) (hc : u.category = 1) (hc' : v.category = 1) (hp : pc + 1 = pc') (k : Go l Z n0 R code maxL y ret D W cells slots pc' ls (u :: v :: u :: v :: stk) F) : Go l Z n0 R code maxL y ret D W cells slots pc ls (u :: v :: stk) F := by
  subst hp; exact Go.plain (fun p e s m args below meth c T locs hx hZ hby hown X Wd target h => XT.dup2 X.here hx rfl (hb hby hd) rfl hc hc' h) k
theorem Go.iinc {k : Nat} {i : Int} {x z : Int32} (hd : decode code pc = .ok (.iinc k i, 3)) (hl : ls[k]? = some (.val (.int x))) (hi : Int32.ofInt i = z) (hl' : storeLocals ls k (.int (x + z)) = some ls') (hp : pc + 3 = pc') (k : Go l Z n0 R code maxL y ret D W cells slots pc' ls' stk F) : Go l Z n0 R code maxL y ret D W cells slots pc ls stk F := by
  subst hp hi; exact Go.plain (fun p e s m args below meth c T locs hx hZ hby hown X Wd target h => XS.iinc X.here hx rfl (hb hby hd) hl hl' h) k
theorem Go.goto {o : Int} (hd : decode code pc = .ok (.goto o, 3)) (ho : 0 ≤ (pc : Int) + o) (hp : ((pc : Int) + o).toNat = pc') (k : Go l Z n0 R code maxL y ret D W cells slots pc' ls stk F) : Go l Z n0 R code maxL y ret D W cells slots pc ls stk F :=
  Go.plain (fun p e s m args below meth c T locs hx hZ hby hown X Wd target h => XS.goto X.here hx rfl rfl (hb hby hd) ho hp h) k
theorem Go.if_lt {o : Int} {u : Int32} {pcY pcN : Nat} (hd : decode code pc = .ok (.ifCond .lt o, 3)) (ho : 0 ≤ (pc : Int) + o) (hp : ((pc : Int) + o).toNat = pcY) (hq : pc + 3 = pcN) (ky : u < (0 : Int32) → Go l Z n0 R code maxL y ret D W cells slots pcY ls stk F) (kn : ¬ u < (0 : Int32) → Go l Z n0 R code maxL y ret D W cells slots pcN ls stk F) : Go l Z n0 R code maxL y ret D W cells slots pc ls (.int u :: stk) F := by
  subst hq
  by_cases q : u < (0 : Int32)
  · exact Go.plain (fun p e s m args below meth c T locs hx hZ hby hown X Wd target h => XS.ifYes X.here hx rfl rfl (hb hby hd) rfl ((if0 _ _).trans (tlt q).1) ho hp h) (ky q)
  · exact Go.plain (fun p e s m args below meth c T locs hx hZ hby hown X Wd target h => XS.ifNo X.here hx rfl (hb hby hd) rfl ((if0 _ _).trans (flt q).1) h) (kn q)
theorem Go.icmp_lt {o : Int} {u v : Int32} {pcY pcN : Nat} (hd : decode code pc = .ok (.if_icmp .lt o, 3)) (ho : 0 ≤ (pc : Int) + o) (hp : ((pc : Int) + o).toNat = pcY) (hq : pc + 3 = pcN) (ky : u < v → Go l Z n0 R code maxL y ret D W cells slots pcY ls stk F) (kn : ¬ u < v → Go l Z n0 R code maxL y ret D W cells slots pcN ls stk F) : Go l Z n0 R code maxL y ret D W cells slots pc ls (.int v :: .int u :: stk) F := by
  subst hq
  by_cases q : u < v
  · exact Go.plain (fun p e s m args below meth c T locs hx hZ hby hown X Wd target h => XS.icmpYes X.here hx rfl rfl (hb hby hd) rfl (tlt q).1 ho hp h) (ky q)
  · exact Go.plain (fun p e s m args below meth c T locs hx hZ hby hown X Wd target h => XS.icmpNo X.here hx rfl (hb hby hd) rfl (flt q).1 h) (kn q)
theorem Go.if_ge {o : Int} {u : Int32} {pcY pcN : Nat} (hd : decode code pc = .ok (.ifCond .ge o, 3)) (ho : 0 ≤ (pc : Int) + o) (hp : ((pc : Int) + o).toNat = pcY) (hq : pc + 3 = pcN) (ky : ¬ u < (0 : Int32) → Go l Z n0 R code maxL y ret D W cells slots pcY ls stk F) (kn : u < (0 : Int32) → Go l Z n0 R code maxL y ret D W cells slots pcN ls stk F) : Go l Z n0 R code maxL y ret D W cells slots pc ls (.int u :: stk) F := by
  subst hq
  by_cases q : u < (0 : Int32)
  · exact Go.plain (fun p e s m args below meth c T locs hx hZ hby hown X Wd target h => XS.ifNo X.here hx rfl (hb hby hd) rfl ((if0 _ _).trans (tlt q).2.1) h) (kn q)
  · exact Go.plain (fun p e s m args below meth c T locs hx hZ hby hown X Wd target h => XS.ifYes X.here hx rfl rfl (hb hby hd) rfl ((if0 _ _).trans (flt q).2.1) ho hp h) (ky q)
theorem Go.icmp_ge {o : Int} {u v : Int32} {pcY pcN : Nat} (hd : decode code pc = .ok (.if_icmp .ge o, 3)) (ho : 0 ≤ (pc : Int) + o) (hp : ((pc : Int) + o).toNat = pcY) (hq : pc + 3 = pcN) (ky : ¬ u < v → Go l Z n0 R code maxL y ret D W cells slots pcY ls stk F) (kn : u < v → Go l Z n0 R code maxL y ret D W cells slots pcN ls stk F) : Go l Z n0 R code maxL y ret D W cells slots pc ls (.int v :: .int u :: stk) F := by
  subst hq
  by_cases q : u < v
  · exact Go.plain (fun p e s m args below meth c T locs hx hZ hby hown X Wd target h => XS.icmpNo X.here hx rfl (hb hby hd) rfl (tlt q).2.1 h) (kn q)
  · exact Go.plain (fun p e s m args below meth c T locs hx hZ hby hown X Wd target h => XS.icmpYes X.here hx rfl rfl (hb hby hd) rfl (flt q).2.1 ho hp h) (ky q)
theorem Go.if_gt {o : Int} {u : Int32} {pcY pcN : Nat} (hd : decode code pc = .ok (.ifCond .gt o, 3)) (ho : 0 ≤ (pc : Int) + o) (hp : ((pc : Int) + o).toNat = pcY) (hq : pc + 3 = pcN) (ky : (0 : Int32) < u → Go l Z n0 R code maxL y ret D W cells slots pcY ls stk F) (kn : ¬ (0 : Int32) < u → Go l Z n0 R code maxL y ret D W cells slots pcN ls stk F) : Go l Z n0 R code maxL y ret D W cells slots pc ls (.int u :: stk) F := by
  subst hq
  by_cases q : (0 : Int32) < u
  · exact Go.plain (fun p e s m args below meth c T locs hx hZ hby hown X Wd target h => XS.ifYes X.here hx rfl rfl (hb hby hd) rfl ((if0 _ _).trans (tlt q).2.2.1) ho hp h) (ky q)
  · exact Go.plain (fun p e s m args below meth c T locs hx hZ hby hown X Wd target h => XS.ifNo X.here hx rfl (hb hby hd) rfl ((if0 _ _).trans (flt q).2.2.1) h) (kn q)
theorem Go.icmp_gt {o : Int} {u v : Int32} {pcY pcN : Nat} (hd : decode code pc = .ok (.if_icmp .gt o, 3)) (ho : 0 ≤ (pc : Int) + o) (hp : ((pc : Int) + o).toNat = pcY) (hq : pc + 3 = pcN) (ky : v < u → Go l Z n0 R code maxL y ret D W cells slots pcY ls stk F) (kn : ¬ v < u → Go l Z n0 R code maxL y ret D W cells slots pcN ls stk F) : Go l Z n0 R code maxL y ret D W cells slots pc ls (.int v :: .int u :: stk) F := by
  subst hq
  by_cases q : v < u
  · exact Go.plain (fun p e s m args below meth c T locs hx hZ hby hown X Wd target h => XS.icmpYes X.here hx rfl rfl (hb hby hd) rfl (tlt q).2.2.1 ho hp h) (ky q)
  · exact Go.plain (fun p e s m args below meth c T locs hx hZ hby hown X Wd target h => XS.icmpNo X.here hx rfl (hb hby hd) rfl (flt q).2.2.1 h) (kn q)
theorem Go.if_le {o : Int} {u : Int32} {pcY pcN : Nat} (hd : decode code pc = .ok (.ifCond .le o, 3)) (ho : 0 ≤ (pc : Int) + o) (hp : ((pc : Int) + o).toNat = pcY) (hq : pc + 3 = pcN) (ky : ¬ (0 : Int32) < u → Go l Z n0 R code maxL y ret D W cells slots pcY ls stk F) (kn : (0 : Int32) < u → Go l Z n0 R code maxL y ret D W cells slots pcN ls stk F) : Go l Z n0 R code maxL y ret D W cells slots pc ls (.int u :: stk) F := by
  subst hq
  by_cases q : (0 : Int32) < u
  · exact Go.plain (fun p e s m args below meth c T locs hx hZ hby hown X Wd target h => XS.ifNo X.here hx rfl (hb hby hd) rfl ((if0 _ _).trans (tlt q).2.2.2) h) (kn q)
  · exact Go.plain (fun p e s m args below meth c T locs hx hZ hby hown X Wd target h => XS.ifYes X.here hx rfl rfl (hb hby hd) rfl ((if0 _ _).trans (flt q).2.2.2) ho hp h) (ky q)
theorem Go.icmp_le {o : Int} {u v : Int32} {pcY pcN : Nat} (hd : decode code pc = .ok (.if_icmp .le o, 3)) (ho : 0 ≤ (pc : Int) + o) (hp : ((pc : Int) + o).toNat = pcY) (hq : pc + 3 = pcN) (ky : ¬ v < u → Go l Z n0 R code maxL y ret D W cells slots pcY ls stk F) (kn : v < u → Go l Z n0 R code maxL y ret D W cells slots pcN ls stk F) : Go l Z n0 R code maxL y ret D W cells slots pc ls (.int v :: .int u :: stk) F := by
  subst hq
  by_cases q : v < u
  · exact Go.plain (fun p e s m args below meth c T locs hx hZ hby hown X Wd target h => XS.icmpNo X.here hx rfl (hb hby hd) rfl (tlt q).2.2.2 h) (kn q)
  · exact Go.plain (fun p e s m args below meth c T locs hx hZ hby hown X Wd target h => XS.icmpYes X.here hx rfl rfl (hb hby hd) rfl (flt q).2.2.2 ho hp h) (ky q)
theorem Go.if_eq {o : Int} {u : Int32} {pcY pcN : Nat} (hd : decode code pc = .ok (.ifCond .eq o, 3)) (ho : 0 ≤ (pc : Int) + o) (hp : ((pc : Int) + o).toNat = pcY) (hq : pc + 3 = pcN) (ky : u = (0 : Int32) → Go l Z n0 R code maxL y ret D W cells slots pcY ls stk F) (kn : ¬ u = (0 : Int32) → Go l Z n0 R code maxL y ret D W cells slots pcN ls stk F) : Go l Z n0 R code maxL y ret D W cells slots pc ls (.int u :: stk) F := by
  subst hq
  by_cases q : u = (0 : Int32)
  · exact Go.plain (fun p e s m args below meth c T locs hx hZ hby hown X Wd target h => XS.ifYes X.here hx rfl rfl (hb hby hd) rfl ((if0 _ _).trans (teq q).1) ho hp h) (ky q)
  · exact Go.plain (fun p e s m args below meth c T locs hx hZ hby hown X Wd target h => XS.ifNo X.here hx rfl (hb hby hd) rfl ((if0 _ _).trans (feq q).1) h) (kn q)
theorem Go.icmp_eq {o : Int} {u v : Int32} {pcY pcN : Nat} (hd : decode code pc = .ok (.if_icmp .eq o, 3)) (ho : 0 ≤ (pc : Int) + o) (hp : ((pc : Int) + o).toNat = pcY) (hq : pc + 3 = pcN) (ky : u = v → Go l Z n0 R code maxL y ret D W cells slots pcY ls stk F) (kn : ¬ u = v → Go l Z n0 R code maxL y ret D W cells slots pcN ls stk F) : Go l Z n0 R code maxL y ret D W cells slots pc ls (.int v :: .int u :: stk) F := by
  subst hq
  by_cases q : u = v
  · exact Go.plain (fun p e s m args below meth c T locs hx hZ hby hown X Wd target h => XS.icmpYes X.here hx rfl rfl (hb hby hd) rfl (teq q).1 ho hp h) (ky q)
  · exact Go.plain (fun p e s m args below meth c T locs hx hZ hby hown X Wd target h => XS.icmpNo X.here hx rfl (hb hby hd) rfl (feq q).1 h) (kn q)
theorem Go.if_ne {o : Int} {u : Int32} {pcY pcN : Nat} (hd : decode code pc = .ok (.ifCond .ne o, 3)) (ho : 0 ≤ (pc : Int) + o) (hp : ((pc : Int) + o).toNat = pcY) (hq : pc + 3 = pcN) (ky : ¬ u = (0 : Int32) → Go l Z n0 R code maxL y ret D W cells slots pcY ls stk F) (kn : u = (0 : Int32) → Go l Z n0 R code maxL y ret D W cells slots pcN ls stk F) : Go l Z n0 R code maxL y ret D W cells slots pc ls (.int u :: stk) F := by
  subst hq
  by_cases q : u = (0 : Int32)
  · exact Go.plain (fun p e s m args below meth c T locs hx hZ hby hown X Wd target h => XS.ifNo X.here hx rfl (hb hby hd) rfl ((if0 _ _).trans (teq q).2) h) (kn q)
  · exact Go.plain (fun p e s m args below meth c T locs hx hZ hby hown X Wd target h => XS.ifYes X.here hx rfl rfl (hb hby hd) rfl ((if0 _ _).trans (feq q).2) ho hp h) (ky q)
theorem Go.icmp_ne {o : Int} {u v : Int32} {pcY pcN : Nat} (hd : decode code pc = .ok (.if_icmp .ne o, 3)) (ho : 0 ≤ (pc : Int) + o) (hp : ((pc : Int) + o).toNat = pcY) (hq : pc + 3 = pcN) (ky : ¬ u = v → Go l Z n0 R code maxL y ret D W cells slots pcY ls stk F) (kn : u = v → Go l Z n0 R code maxL y ret D W cells slots pcN ls stk F) : Go l Z n0 R code maxL y ret D W cells slots pc ls (.int v :: .int u :: stk) F := by
  subst hq
  by_cases q : u = v
  · exact Go.plain (fun p e s m args below meth c T locs hx hZ hby hown X Wd target h => XS.icmpNo X.here hx rfl (hb hby hd) rfl (teq q).2 h) (kn q)
  · exact Go.plain (fun p e s m args below meth c T locs hx hZ hby hown X Wd target h => XS.icmpYes X.here hx rfl rfl (hb hby hd) rfl (feq q).2 ho hp h) (ky q)
theorem Go.ifnullY {o : Int} (hd : decode code pc = .ok (.ifnull o, 3)) (ho : 0 ≤ (pc : Int) + o) (hp : ((pc : Int) + o).toNat = pc') (k : Go l Z n0 R code maxL y ret D W cells slots pc' ls stk F) : Go l Z n0 R code maxL y ret D W cells slots pc ls (.null :: stk) F :=
  Go.plain (fun p e s m args below meth c T locs hx hZ hby hown X Wd target h => XS.ifnullYes X.here hx rfl rfl (hb hby hd) rfl ho hp h) k
theorem Go.ifnullN {o : Int} {a : Addr} (hd : decode code pc = .ok (.ifnull o, 3)) (hp : pc + 3 = pc') (k : Go l Z n0 R code maxL y ret D W cells slots pc' ls stk F) : Go l Z n0 R code maxL y ret D W cells slots pc ls (.ref a :: stk) F := by
  subst hp; exact Go.plain (fun p e s m args below meth c T locs hx hZ hby hown X Wd target h => XS.ifnullNo X.here hx rfl (hb hby hd) rfl h) k
theorem Go.ifnonnullY {o : Int} {a : Addr} (hd : decode code pc = .ok (.ifnonnull o, 3)) (ho : 0 ≤ (pc : Int) + o) (hp : ((pc : Int) + o).toNat = pc') (k : Go l Z n0 R code maxL y ret D W cells slots pc' ls stk F) : Go l Z n0 R code maxL y ret D W cells slots pc ls (.ref a :: stk) F :=
  Go.plain (fun p e s m args below meth c T locs hx hZ hby hown X Wd target h => XT.ifnonnullYes X.here hx rfl rfl (hb hby hd) rfl ho hp h) k
theorem Go.ifnonnullN {o : Int} (hd : decode code pc = .ok (.ifnonnull o, 3)) (hp : pc + 3 = pc') (k : Go l Z n0 R code maxL y ret D W cells slots pc' ls stk F) : Go l Z n0 R code maxL y ret D W cells slots pc ls (.null :: stk) F := by
  subst hp; exact Go.plain (fun p e s m args below meth c T locs hx hZ hby hown X Wd target h => XT.ifnonnullNo X.here hx rfl (hb hby hd) rfl h) k
theorem Go.ldcI {idx : Nat} {v : Int32} (hd : decode code pc = .ok (.ldc idx, 2)) (w : (Jvm.Cond.constant y.cls idx v).before a0 Z = true) (hp : pc + 2 = pc') (k : Go l Z n0 R code maxL y ret D W cells slots pc' ls (.int v :: stk) F) : Go l Z n0 R code maxL y ret D W cells slots pc ls stk F := by
  subst hp; exact Go.plain (fun p e s m args below meth c T locs hx hZ hby hown X Wd target h => X.ldcInt hx hown (mvT hZ w) (g := mkF m pc ls stk) rfl (hb hby hd) target h) k
theorem Go.ldcL {idx : Nat} {v : Int64} (hd : decode code pc = .ok (.ldc2_w idx, 3)) (w : (Jvm.Cond.constantLong y.cls idx v).before a0 Z = true) (hp : pc + 3 = pc') (k : Go l Z n0 R code maxL y ret D W cells slots pc' ls (.long v :: stk) F) : Go l Z n0 R code maxL y ret D W cells slots pc ls stk F := by
  subst hp; exact Go.plain (fun p e s m args below meth c T locs hx hZ hby hown X Wd target h => X.ldc2Long hx hown (mvT hZ w) (g := mkF m pc ls stk) rfl (hb hby hd) target h) k
theorem Go.getF {idx i j : Nat} {C n t host : String} {a : Addr} {fs : List (String × String × Value)} {v : Value} (hd : decode code pc = .ok (.getfield idx, 3)) (w : (Jvm.Cond.fieldLink y.cls idx C n t).before a0 Z = true ∨ (Jvm.Cond.fieldLinkNest y.cls idx C n t host).before a0 Z = true) (hi : W[i]? = some (a, .inl (C, fs))) (hj : fs[j]? = some (n, t, v)) (hp : pc + 3 = pc')
    (k : Go l Z n0 R code maxL y ret D W cells slots pc' ls (v :: stk) F) : Go l Z n0 R code maxL y ret D W cells slots pc ls (.ref a :: stk) F := by
  subst hp
  obtain ⟨p, e, s, m, args, below, meth, c⟩ := D
  intro hx hZ hby hml hown hnm hret hlk T locs X N Wd
  obtain ⟨T', X', e', st⟩ := getF X hx hZ hown w Via.refl rfl ((Wd.get hi).2.2.1 _ (List.mem_of_getElem? hj)) (g := mkF m pc ls (.ref a :: stk)) rfl rfl (hb hby hd)
  obtain ⟨s₂, o, h1, h2⟩ := k hx hZ hby hml hown hnm hret hlk T' locs X' N (e' ▸ Wd)
  exact ⟨s₂, o, st _ h1, h2⟩
theorem own_in {j : Int32} {k n : Nat} (hj : ¬ j < 0) (hk : j.toNatClampNeg < n) (e : k = n) : ¬ (j < 0 ∨ k ≤ j.toNatClampNeg) := by
  rintro (q | q)
  · exact hj q
  · omega
theorem Go.initO {idx W1 : Nat} {a : Addr} (hd : decode code pc = .ok (.invokespecial idx, 3)) (w1 : (Jvm.Cond.methodLink y.cls idx Lib.objectInit).before a0 Z = true) (w2 : (Jvm.Cond.instanceMethod Lib.objectInit).before a0 Z = true) (w3 : (Jvm.Cond.code Lib.objectInit ⟨#[0xb1]⟩ 1 none).before a0 Z = true) (hsz : ls.size = maxL) (hf : 1 ≤ R.frames) (hW1 : (stk.map fun v => v.category).sum ≤ W1) (hl : W1 + 12 ≤ R.locals) (hp : pc + 3 = pc')
    (k : Go l Z n0 R code maxL y ret D W cells slots pc' ls stk F) : Go l Z n0 R code maxL y ret D W cells slots pc ls (.ref a :: stk) F := by
  subst hp
  obtain ⟨p, e, s, m, args, below, meth, c⟩ := D
  intro hx hZ hby hml hown hnm hret hlk T locs X N Wd
  obtain ⟨T', X', e', st⟩ := initO X hx hZ hown w1 w2 w3 rfl (g := mkF m pc ls (.ref a :: stk)) rfl (hsz.trans hml.symm) rfl (hb hby hd) hf (W := W1) (by show 2 * 0 + _ ≤ _; omega) hl
  obtain ⟨s₂, o, h1, h2⟩ := k hx hZ hby hml hown hnm hret hlk T' _ X' N (e' ▸ Wd)
  exact ⟨s₂, o, st _ h1, h2⟩
/-! calls by contract -/
theorem Go.callS {idx W1 cells' slots' maxL' : Nat} {y' : MethodName} {bytes' : ByteArray} {ret' : Option FieldType} {rm : Room} {argsL rest : List Value} {F' : Option Value → Wld → Prop} (hd : decode code pc = .ok (.invokestatic idx, 3)) (w1 : (Jvm.Cond.methodLink y.cls idx y').before a0 Z = true) (w2 : (Jvm.Cond.static y').before a0 Z = true) (w3 : (Jvm.Cond.initialized y'.cls).before a0 Z = true) (w4 : (Jvm.Cond.code y' bytes' maxL' ret').before a0 Z = true)
    (hy : y'.cls ≠ "java/lang/invoke/MethodHandle" ∧ y'.cls ≠ "java/lang/invoke/VarHandle") (M : Meets l Z n0 y' bytes' maxL' ret' rm [] argsL.toArray W F') (hfr : rm.frames + 1 ≤ R.frames) (hlo : W1 + (maxL' + 11) + rm.locals ≤ R.locals) (hsz : ls.size = maxL) (hlen : ∀ sig, parseMethodDescriptor y'.desc = some sig → argsL.length = sig.parameters.length) (hst : stk = argsL.reverse ++ rest) (hW1 : (rest.map fun v => v.category).sum ≤ W1)
    (hcells : cells + rm.cells ≤ R.cells) (hslots : slots + rm.slots ≤ R.slots) (ec : cells + rm.cells = cells') (es : slots + rm.slots = slots') (hp : pc + 3 = pc') (k : ∀ v W', F' v W' → Go l Z n0 R code maxL y ret D W' cells' slots' pc' ls (v.toList ++ rest) F) : Go l Z n0 R code maxL y ret D W cells slots pc ls stk F := by
  subst hp ec es
  obtain ⟨p, e, s, m, args, below, meth, c⟩ := D
  intro hx hZ hby hml hown hnm hret hlk T locs X N Wd
  obtain ⟨v, _, ⟨T', L', k', n'⟩, -, X', ⟨Lc, ⟨hFr, W', hWd, hF⟩, l1, y1, z1⟩, st⟩ := Jvm.LawKit.callS X hx hown (mvT hZ w1) (mvT hZ w2) (mvT hZ w3) (mvT hZ w4) hy (backOf (W := W1) (h := T.heap) (Q := fun v h L => Fr n0 L ∧ ∃ W', World Z n0 h W' ∧ F' v W') (M T.heap Wd) hZ w4 w3 hfr hlo) (g := mkF m pc ls stk) rfl (hsz.trans hml.symm) hlen hst (by show 2 * 0 + _ ≤ _; omega) (hb hby hd) (fun _ _ => ⟨rfl, rfl, hcells, hslots⟩)
  dsimp only [Pt.U, Pt.locs, Pt.cells, Pt.slots] at X' l1 y1 z1 st hWd
  subst l1 y1 z1
  obtain ⟨s₂, o, h1, h2⟩ := k v W' hF hx hZ hby hml hown hnm hret hlk T' _ X' (Fr.app N hFr) hWd
  exact ⟨s₂, o, st _ h1, h2⟩
theorem Go.callI {idx W1 cells' slots' maxL' : Nat} {y' : MethodName} {bytes' : ByteArray} {rm : Room} {a : Addr} {argsL rest : List Value} {F' : Option Value → Wld → Prop} (hd : decode code pc = .ok (.invokespecial idx, 3)) (hy1 : y'.name = "<init>") (w1 : (Jvm.Cond.methodLink y.cls idx y').before a0 Z = true) (w2 : (Jvm.Cond.instanceMethod y').before a0 Z = true) (w3 : (Jvm.Cond.initialized y'.cls).before a0 Z = true) (w4 : (Jvm.Cond.code y' bytes' maxL' none).before a0 Z = true)
    (hy : y'.cls ≠ "java/lang/invoke/MethodHandle" ∧ y'.cls ≠ "java/lang/invoke/VarHandle") (M : Meets l Z n0 y' bytes' maxL' none rm [] (.ref a :: argsL).toArray W F') (hfr : rm.frames + 1 ≤ R.frames) (hlo : W1 + (maxL' + 11) + rm.locals ≤ R.locals) (hsz : ls.size = maxL) (hlen : ∀ sig, parseMethodDescriptor y'.desc = some sig → argsL.length = sig.parameters.length) (hst : stk = argsL.reverse ++ .ref a :: rest) (hW1 : (rest.map fun v => v.category).sum ≤ W1)
    (hcells : cells + rm.cells ≤ R.cells) (hslots : slots + rm.slots ≤ R.slots) (ec : cells + rm.cells = cells') (es : slots + rm.slots = slots') (hp : pc + 3 = pc') (k : ∀ v W', F' v W' → Go l Z n0 R code maxL y ret D W' cells' slots' pc' ls (v.toList ++ rest) F) : Go l Z n0 R code maxL y ret D W cells slots pc ls stk F := by
  subst hp ec es
  obtain ⟨p, e, s, m, args, below, meth, c⟩ := D
  intro hx hZ hby hml hown hnm hret hlk T locs X N Wd
  obtain ⟨v, _, ⟨T', L', k', n'⟩, -, X', ⟨Lc, ⟨hFr, W', hWd, hF⟩, l1, y1, z1⟩, st⟩ := X.specialBack hx hy1 hown (mvT hZ w1) (mvT hZ w2) (mvT hZ w4) hy (backOf (W := W1) (h := T.heap) (Q := fun v h L => Fr n0 L ∧ ∃ W', World Z n0 h W' ∧ F' v W') (M T.heap Wd) hZ w4 w3 hfr hlo) (g := mkF m pc ls stk) rfl (hsz.trans hml.symm) (Steps.refl _) hlen hst (by show 2 * 0 + _ ≤ _; omega) (hb hby hd) (fun _ _ => ⟨rfl, rfl, hcells, hslots⟩)
  dsimp only [Pt.U, Pt.locs, Pt.cells, Pt.slots] at X' l1 y1 z1 st hWd
  subst l1 y1 z1
  obtain ⟨s₂, o, h1, h2⟩ := k v W' hF hx hZ hby hml hown hnm hret hlk T' _ X' (Fr.app N hFr) hWd
  exact ⟨s₂, o, st.trans h1, h2⟩
theorem Go.callV {idx W1 cells' slots' maxL' i : Nat} {C : String} {fs : List (String × String × Value)} {y' : MethodName} {bytes' : ByteArray} {ret' : Option FieldType} {rm : Room} {a : Addr} {argsL rest : List Value} {F' : Option Value → Wld → Prop} (hd : decode code pc = .ok (.invokevirtual idx, 3)) (w1 : (Jvm.Cond.methodLink y.cls idx y').before a0 Z = true) (w2 : (Jvm.Cond.declares y').before a0 Z = true) (w3 : (Jvm.Cond.selects C y' y').before a0 Z = true) (w4 : (Jvm.Cond.instanceMethod y').before a0 Z = true) (w5 : (Jvm.Cond.initialized y'.cls).before a0 Z = true) (w6 : (Jvm.Cond.code y' bytes' maxL' ret').before a0 Z = true)
    (hy : y'.cls ≠ "java/lang/invoke/MethodHandle" ∧ y'.cls ≠ "java/lang/invoke/VarHandle") (hi : W[i]? = some (a, .inl (C, fs))) (M : Meets l Z n0 y' bytes' maxL' ret' rm [] (.ref a :: argsL).toArray W F') (hfr : rm.frames + 1 ≤ R.frames) (hlo : W1 + (maxL' + 11) + rm.locals ≤ R.locals) (hsz : ls.size = maxL) (hlen : ∀ sig, parseMethodDescriptor y'.desc = some sig → argsL.length = sig.parameters.length) (hst : stk = argsL.reverse ++ .ref a :: rest) (hW1 : (rest.map fun v => v.category).sum ≤ W1)
    (hcells : cells + rm.cells ≤ R.cells) (hslots : slots + rm.slots ≤ R.slots) (ec : cells + rm.cells = cells') (es : slots + rm.slots = slots') (hp : pc + 3 = pc') (k : ∀ v W', F' v W' → Go l Z n0 R code maxL y ret D W' cells' slots' pc' ls (v.toList ++ rest) F) : Go l Z n0 R code maxL y ret D W cells slots pc ls stk F := by
  subst hp ec es
  obtain ⟨p, e, s, m, args, below, meth, c⟩ := D
  intro hx hZ hby hml hown hnm hret hlk T locs X N Wd
  obtain ⟨cq, kq, qa, qb, qc⟩ := isOf (T := T) hZ rfl (Wd.get hi).2.1
  obtain ⟨v, _, ⟨T', L', k', n'⟩, -, X', ⟨Lc, ⟨hFr, W', hWd, hF⟩, l1, y1, z1⟩, st⟩ := X.virtualBack hx (y := y') (z := y') hown (mvT hZ w1) (mvT hZ w2) (notFace_of_selects (args := #[]) (mvT hZ w3)) (mvT hZ w3) (mvT hZ w4) hy (backOf (W := W1) (h := T.heap) (Q := fun v h L => Fr n0 L ∧ ∃ W', World Z n0 h W' ∧ F' v W') (M T.heap Wd) hZ w6 w5 hfr hlo) qa qc (g := mkF m pc ls stk) rfl (hsz.trans hml.symm) (Steps.refl _) hlen hst (by show 2 * 0 + _ ≤ _; omega) (hb hby hd) (fun _ _ => ⟨rfl, rfl, hcells, hslots⟩)
  dsimp only [Pt.U, Pt.locs, Pt.cells, Pt.slots] at X' l1 y1 z1 st hWd
  subst l1 y1 z1
  obtain ⟨s₂, o, h1, h2⟩ := k v W' hF hx hZ hby hml hown hnm hret hlk T' _ X' (Fr.app N hFr) hWd
  exact ⟨s₂, o, st.trans h1, h2⟩
theorem Go.callP {idx W1 cells' slots' maxL' i kk : Nat} {fs : List (String × String × Value)} {y' : MethodName} {bytes' : ByteArray} {ret' : Option FieldType} {rm : Room} {a : Addr} {argsL rest : List Value} {F' : Option Value → Wld → Prop} (hd : decode code pc = .ok (.invokevirtual idx, 3)) (w1 : (Jvm.Cond.methodLink y.cls idx y').before a0 Z = true) (w2 : (Jvm.Cond.instanceMethod y').before a0 Z = true) (w3 : (Jvm.Cond.privateMethod y').before a0 Z = true) (w4 : (Jvm.Cond.instantiable y'.cls kk).before a0 Z = true) (w5 : (Jvm.Cond.initialized y'.cls).before a0 Z = true) (w6 : (Jvm.Cond.code y' bytes' maxL' ret').before a0 Z = true)
    (hy : y'.cls ≠ "java/lang/invoke/MethodHandle" ∧ y'.cls ≠ "java/lang/invoke/VarHandle") (hi : W[i]? = some (a, .inl (y'.cls, fs))) (M : Meets l Z n0 y' bytes' maxL' ret' rm [] (.ref a :: argsL).toArray W F') (hfr : rm.frames + 1 ≤ R.frames) (hlo : W1 + (maxL' + 11) + rm.locals ≤ R.locals) (hsz : ls.size = maxL) (hlen : ∀ sig, parseMethodDescriptor y'.desc = some sig → argsL.length = sig.parameters.length) (hst : stk = argsL.reverse ++ .ref a :: rest) (hW1 : (rest.map fun v => v.category).sum ≤ W1)
    (hcells : cells + rm.cells ≤ R.cells) (hslots : slots + rm.slots ≤ R.slots) (ec : cells + rm.cells = cells') (es : slots + rm.slots = slots') (hp : pc + 3 = pc') (k : ∀ v W', F' v W' → Go l Z n0 R code maxL y ret D W' cells' slots' pc' ls (v.toList ++ rest) F) : Go l Z n0 R code maxL y ret D W cells slots pc ls stk F := by
  subst hp ec es
  obtain ⟨p, e, s, m, args, below, meth, c⟩ := D
  intro hx hZ hby hml hown hnm hret hlk T locs X N Wd
  obtain ⟨cl, q1, q2⟩ := (Wd.get hi).2.1.cell
  have hpr : s.PrivateAt y' := Cond.privateMethod_at (mvP hZ w3 (args := #[]))
  obtain ⟨cB, kB, b1, b2, b3, b4⟩ := Cond.instantiable_spec (mv (args := args) hZ w4)
  obtain ⟨v, _, ⟨T', L', k', n'⟩, -, X', ⟨Lc, ⟨hFr, W', hWd, hF⟩, l1, y1, z1⟩, st⟩ := X.privateBack hx (y := y') hown (mvT hZ w1) (mvT hZ w2) (selects_self_of_private b1 b2 (Bool.or_eq_false_iff.mp b4.1).1 hpr (mvT hZ w2) hy) hpr (mvT hZ w6) hy (backOf (W := W1) (h := T.heap) (Q := fun v h L => Fr n0 L ∧ ∃ W', World Z n0 h W' ∧ F' v W') (M T.heap Wd) hZ w6 w5 hfr hlo) (g := mkF m pc ls stk) rfl (hsz.trans hml.symm) (Steps.refl _) (a := a) q1 q2 hlen hst (by show 2 * 0 + _ ≤ _; omega) (hb hby hd) (fun _ _ => ⟨rfl, rfl, hcells, hslots⟩)
  dsimp only [Pt.U, Pt.locs, Pt.cells, Pt.slots] at X' l1 y1 z1 st hWd
  subst l1 y1 z1
  obtain ⟨s₂, o, h1, h2⟩ := k v W' hF hx hZ hby hml hown hnm hret hlk T' _ X' (Fr.app N hFr) hWd
  exact ⟨s₂, o, st.trans h1, h2⟩
theorem Go.more {cells' slots' : Nat} (hc : cells ≤ cells') (hs : slots ≤ slots') (k : Go l Z n0 R code maxL y ret D W cells' slots' pc ls stk F) : Go l Z n0 R code maxL y ret D W cells slots pc ls stk F := by
  obtain ⟨p, e, s, m, args, below, meth, c⟩ := D
  intro hx hZ hby hml hown hnm hret hlk T locs X N Wd
  exact k hx hZ hby hml hown hnm hret hlk T locs (X.more hc hs) N Wd
/-! leaving -/
theorem Go.out {v : Option Value} (hv : ret = none → v = none) (hcells : cells ≤ R.cells) (hslots : slots ≤ R.slots) (st : ∀ (p : Program) (e : Env) (s : State) (m : MethodId) (args : Array Value) (below : List Frame) (meth : Method) (c : Code) (T : State) (locs : List Loc), p.tables.exec = Jvm.exec → c.code = code → meth.sig.returnType = ret → Stand p l e R s m args below meth c T locs cells slots → ∀ fs : List Frame,
      (∀ (f : JFrame) (acts : List Action), f.method = m → f.locked = none → f.entered = [] → (doReturn e (T.setTop f) acts v).1 = T.setFrames fs) → Steps p.tables e below (T.setTop (mkF m pc ls stk)) (T.setFrames fs)) (hF : F v W) : Go l Z n0 R code maxL y ret D W cells slots pc ls stk F := by
  obtain ⟨p, e, s, m, args, below, meth, c⟩ := D
  intro hx hZ hby hml hown hnm hret hlk T locs X N Wd
  obtain ⟨fs, hr, hrun, hended, hW, hsame⟩ := X.leave (v := v) (fun h => hv (hret ▸ h)) hlk
  exact ⟨_, _, st p e s m args below meth c T locs hx hby hret X fs hr, hrun, hended, v, locs, rfl, ⟨N, W, Wd, hF⟩, ⟨_, rfl⟩, hW, hsame.mono hcells hslots⟩
theorem Go.retV (hd : decode code pc = .ok (.return_, 1)) (hret : ret = none) (hcells : cells ≤ R.cells) (hslots : slots ≤ R.slots) (hF : F none W) : Go l Z n0 R code maxL y ret D W cells slots pc ls [] F := by
  subst hret; exact Go.out (fun _ => rfl) hcells hslots (fun p e s m args below meth c T locs hx hby hret X fs hr => X.returnOut hx hret (hb hby hd) hr) hF
theorem Go.retI {z : Int32} (hd : decode code pc = .ok (.ireturn, 1)) (hret : ret = some .int) (hcells : cells ≤ R.cells) (hslots : slots ≤ R.slots) (hF : F (some (.int z)) W) : Go l Z n0 R code maxL y ret D W cells slots pc ls (.int z :: stk) F := by
  subst hret; exact Go.out (fun h => nomatch h) hcells hslots (fun p e s m args below meth c T locs hx hby hret X fs hr => retOut X hx hret rfl (Or.inl ⟨rfl, Or.inl rfl, z, rfl⟩) (hb hby hd) hr) hF
theorem Go.retZ {z z' : Int32} (hd : decode code pc = .ok (.ireturn, 1)) (hret : ret = some .boolean) (hz : z &&& 1 = z') (hcells : cells ≤ R.cells) (hslots : slots ≤ R.slots) (hF : F (some (.int z')) W) : Go l Z n0 R code maxL y ret D W cells slots pc ls (.int z :: stk) F := by
  subst hret hz; exact Go.out (fun h => nomatch h) hcells hslots (fun p e s m args below meth c T locs hx hby hret X fs hr => retN X hx (t := .boolean) hret (Or.inl rfl) (hb hby hd) hr) hF
theorem Go.retJ {z : Int64} (hd : decode code pc = .ok (.lreturn, 1)) (hret : ret = some .long) (hcells : cells ≤ R.cells) (hslots : slots ≤ R.slots) (hF : F (some (.long z)) W) : Go l Z n0 R code maxL y ret D W cells slots pc ls (.long z :: stk) F := by
  subst hret; exact Go.out (fun h => nomatch h) hcells hslots (fun p e s m args below meth c T locs hx hby hret X fs hr => retOut X hx hret rfl (Or.inr (Or.inl ⟨rfl, rfl, z, rfl⟩)) (hb hby hd) hr) hF
theorem Go.retA {v : Value} {t : FieldType} (hd : decode code pc = .ok (.areturn, 1)) (hret : ret = some t) (ht : t.isReference = true) (hv : v.isRef = true) (hn : narrow t v = v) (hcells : cells ≤ R.cells) (hslots : slots ≤ R.slots) (hF : F (some v) W) : Go l Z n0 R code maxL y ret D W cells slots pc ls (v :: stk) F := by
  subst hret; exact Go.out (fun h => nomatch h) hcells hslots (fun p e s m args below meth c T locs hx hby hret X fs hr => retOut X hx hret hn (Or.inr (Or.inr (Or.inr (Or.inr ⟨rfl, ht, hv⟩)))) (hb hby hd) hr) hF
theorem Go.putF {idx i j kk : Nat} {C n t host : String} {a : Addr} {fs : List (String × String × Value)} {v old : Value} {ty : FieldType} {W' : Wld} (hd : decode code pc = .ok (.putfield idx, 3)) (w : (Jvm.Cond.fieldLink y.cls idx C n t).before a0 Z = true ∨ (Jvm.Cond.fieldLinkNest y.cls idx C n t host).before a0 Z = true) (L : (Jvm.Cond.lays C C n t).before a0 Z = true ∨ ((Jvm.Cond.laysFinal C C n t).before a0 Z = true ∧ y.cls = C ∧ y.name = "<init>")) (wi : (Jvm.Cond.instantiable C kk).before a0 Z = true)
    (hi : W[i]? = some (a, .inl (C, fs))) (hj : fs[j]? = some (n, t, old)) (hty : parseFieldDescriptor t = some ty) (hn : narrow ty v = v) (hf : fits ty v = true) (hW : W.set i (a, .inl (C, fs.set j (n, t, v))) = W') (hp : pc + 3 = pc')
    (k : Go l Z n0 R code maxL y ret D W' cells slots pc' ls stk F) : Go l Z n0 R code maxL y ret D W cells slots pc ls (v :: .ref a :: stk) F := by
  subst hp hW
  obtain ⟨p, e, s, m, args, below, meth, c⟩ := D
  intro hx hZ hby hml hown hnm hret hlk T locs X N Wd
  have G := Wd.get hi
  obtain ⟨T', h', X', e', K, st⟩ := putF X hx hZ hown w Via.refl rfl (G.2.2.1 _ (List.mem_of_getElem? hj)) G.2.1 (L.imp id fun q => ⟨q.1, q.2.1, hnm.trans q.2.2⟩) wi hty hn hf (g := mkF m pc ls (v :: .ref a :: stk)) rfl rfl (hb hby hd)
  obtain ⟨s₂, o, h1, h2⟩ := k hx hZ hby hml hown hnm hret hlk T' _ X' (Fr.snoc X' N G.1) (e' ▸ Wd.upd hi K (G.2.put K hj))
  exact ⟨s₂, o, st _ h1, h2⟩
theorem Go.newO {idx n cells' slots' : Nat} {W' : Addr → Wld} {C : String} {fs : List (String × String × Value)} (hd : decode code pc = .ok (.new idx, 3)) (w : (Jvm.Cond.classLink y.cls idx C).before a0 Z = true) (wi : (Jvm.Cond.instantiable C n).before a0 Z = true) (wz : (Jvm.Cond.initialized C).before a0 Z = true) (hL : Lay Z a0 C fs) (hN : (fs.map fun f => f.1).Nodup) (hcells : cells + 1 ≤ R.cells) (hslots : slots + n ≤ R.slots) (ec : cells + 1 = cells') (es : slots + n = slots') (hW : ∀ a, W ++ [(a, .inl (C, fs))] = W' a) (hp : pc + 3 = pc')
    (k : ∀ a, Go l Z n0 R code maxL y ret D (W' a) cells' slots' pc' ls (.ref a :: stk) F) : Go l Z n0 R code maxL y ret D W cells slots pc ls stk F := by
  subst hp ec es
  obtain ⟨p, e, s, m, args, below, meth, c⟩ := D
  intro hx hZ hby hml hown hnm hret hlk T locs X N Wd
  obtain ⟨T', h', X', e', E, A, Ds, -, st⟩ := newO X hx hZ hown w wi wz rfl (g := mkF m pc ls stk) rfl (hb hby hd) hcells hslots
  have I : Is Z h' T.heap.size (.inl (C, fs)) := ⟨A, fun f hf => by
    obtain ⟨L1, ty, t1, t2⟩ := hL f hf
    rw [t2]; exact Ds L1 t1, hL.slots hN⟩
  obtain ⟨s₂, o, h1, h2⟩ := k T.heap.size hx hZ hby hml hown hnm hret hlk T' _ X' N (e' ▸ hW _ ▸ Wd.add E I)
  exact ⟨s₂, o, st _ h1, h2⟩
theorem Go.newI {n : Int32} {len cells' slots' : Nat} {W' : Addr → Wld} (hd : decode code pc = .ok (.newarray .int, 2)) (w : (Jvm.Cond.arrayClass .int).before a0 Z = true) (hn : ¬ n < 0) (hlen : n.toNatClampNeg = len) (hbig : len * 8 ≤ 536870912) (hcells : cells + 1 ≤ R.cells) (hslots : slots + len ≤ R.slots) (ec : cells + 1 = cells') (es : slots + len = slots') (hW : ∀ a, W ++ [(a, .inr (.inl (List.replicate len 0)))] = W' a) (hp : pc + 2 = pc')
    (k : ∀ a, Go l Z n0 R code maxL y ret D (W' a) cells' slots' pc' ls (.ref a :: stk) F) : Go l Z n0 R code maxL y ret D W cells slots pc ls (.int n :: stk) F := by
  subst hp ec es hlen
  obtain ⟨p, e, s, m, args, below, meth, c⟩ := D
  intro hx hZ hby hml hown hnm hret hlk T locs X N Wd
  obtain ⟨T', h', cA, X', e', E, A, st⟩ := newP X hx hZ (aty := .int) w rfl (g := mkF m pc ls (.int n :: stk)) rfl (hb hby hd) rfl hn (Nat.le_refl _) hbig hcells hslots
  have I : Is Z h' T.heap.size (.inr (.inl (List.replicate n.toNatClampNeg 0))) := ⟨_, A, by
    show Array.replicate n.toNatClampNeg (defaultValue .int) = _
    simp [defaultValue], by simpa using (back32 hn).2⟩
  obtain ⟨s₂, o, h1, h2⟩ := k T.heap.size hx hZ hby hml hown hnm hret hlk T' _ X' N (e' ▸ hW _ ▸ Wd.add E I)
  exact ⟨s₂, o, st _ h1, h2⟩
theorem Go.newJ {n : Int32} {len cells' slots' : Nat} {W' : Addr → Wld} (hd : decode code pc = .ok (.newarray .long, 2)) (w : (Jvm.Cond.arrayClass .long).before a0 Z = true) (hn : ¬ n < 0) (hlen : n.toNatClampNeg = len) (hbig : len * 8 ≤ 536870912) (hcells : cells + 1 ≤ R.cells) (hslots : slots + len ≤ R.slots) (ec : cells + 1 = cells') (es : slots + len = slots') (hW : ∀ a, W ++ [(a, .inr (.inr (List.replicate len 0)))] = W' a) (hp : pc + 2 = pc')
    (k : ∀ a, Go l Z n0 R code maxL y ret D (W' a) cells' slots' pc' ls (.ref a :: stk) F) : Go l Z n0 R code maxL y ret D W cells slots pc ls (.int n :: stk) F := by
  subst hp ec es hlen
  obtain ⟨p, e, s, m, args, below, meth, c⟩ := D
  intro hx hZ hby hml hown hnm hret hlk T locs X N Wd
  obtain ⟨T', h', cA, X', e', E, A, st⟩ := newP X hx hZ (aty := .long) w rfl (g := mkF m pc ls (.int n :: stk)) rfl (hb hby hd) rfl hn (Nat.le_refl _) hbig hcells hslots
  have I : Is Z h' T.heap.size (.inr (.inr (List.replicate n.toNatClampNeg 0))) := ⟨_, A, by
    show Array.replicate n.toNatClampNeg (defaultValue .long) = _
    simp [defaultValue], by simpa using (back32 hn).2⟩
  obtain ⟨s₂, o, h1, h2⟩ := k T.heap.size hx hZ hby hml hown hnm hret hlk T' _ X' N (e' ▸ hW _ ▸ Wd.add E I)
  exact ⟨s₂, o, st _ h1, h2⟩
theorem Go.alenI {i : Nat} {a : Addr} {vs : List Int32} {n : Int32} (hd : decode code pc = .ok (.arraylength, 1)) (hi : W[i]? = some (a, .inr (.inl vs))) (hn : vs.length.toInt32 = n) (hp : pc + 1 = pc')
    (k : Go l Z n0 R code maxL y ret D W cells slots pc' ls (.int n :: stk) F) : Go l Z n0 R code maxL y ret D W cells slots pc ls (.ref a :: stk) F := by
  subst hp hn
  refine Go.plain (fun p e s m args below meth c T locs hx hZ hby hown X Wd target h => ?_) k
  obtain ⟨cl, A, e1, -⟩ := (Wd.get hi).2
  exact X.arraylength hx A.1 (State.isArrayOf_alike hZ.alike A.2.1) (g := mkF m pc ls (.ref a :: stk)) rfl rfl (hb hby hd) target (by rw [own_size e1]; exact h)
theorem Go.alenJ {i : Nat} {a : Addr} {vs : List Int64} {n : Int32} (hd : decode code pc = .ok (.arraylength, 1)) (hi : W[i]? = some (a, .inr (.inr vs))) (hn : vs.length.toInt32 = n) (hp : pc + 1 = pc')
    (k : Go l Z n0 R code maxL y ret D W cells slots pc' ls (.int n :: stk) F) : Go l Z n0 R code maxL y ret D W cells slots pc ls (.ref a :: stk) F := by
  subst hp hn
  refine Go.plain (fun p e s m args below meth c T locs hx hZ hby hown X Wd target h => ?_) k
  obtain ⟨cl, A, e1, -⟩ := (Wd.get hi).2
  exact X.arraylength hx A.1 (State.isArrayOf_alike hZ.alike A.2.1) (g := mkF m pc ls (.ref a :: stk)) rfl rfl (hb hby hd) target (by rw [own_sizeL e1]; exact h)
theorem Go.iaload {i : Nat} {a : Addr} {vs : List Int32} {j x : Int32} (hd : decode code pc = .ok (.iaload, 1)) (hi : W[i]? = some (a, .inr (.inl vs))) (hj : ¬ j < 0) (hv : vs[j.toNatClampNeg]? = some x) (hp : pc + 1 = pc')
    (k : Go l Z n0 R code maxL y ret D W cells slots pc' ls (.int x :: stk) F) : Go l Z n0 R code maxL y ret D W cells slots pc ls (.int j :: .ref a :: stk) F := by
  subst hp
  refine Go.plain (fun p e s m args below meth c T locs hx hZ hby hown X Wd target h => ?_) k
  obtain ⟨cl, A, e1, -⟩ := (Wd.get hi).2
  have hlt := (List.getElem?_eq_some_iff.mp hv).1
  exact X.iaload hx A.1 (State.isArrayOf_alike hZ.alike A.2.1) A.2.2 (own_in hj hlt (own_size e1)) (by rw [e1]; simp [hv]) (g := mkF m pc ls (.int j :: .ref a :: stk)) rfl rfl (hb hby hd) target h
theorem Go.laload {i : Nat} {a : Addr} {vs : List Int64} {j : Int32} {x : Int64} (hd : decode code pc = .ok (.laload, 1)) (hi : W[i]? = some (a, .inr (.inr vs))) (hj : ¬ j < 0) (hv : vs[j.toNatClampNeg]? = some x) (hp : pc + 1 = pc')
    (k : Go l Z n0 R code maxL y ret D W cells slots pc' ls (.long x :: stk) F) : Go l Z n0 R code maxL y ret D W cells slots pc ls (.int j :: .ref a :: stk) F := by
  subst hp
  refine Go.plain (fun p e s m args below meth c T locs hx hZ hby hown X Wd target h => ?_) k
  obtain ⟨cl, A, e1, -⟩ := (Wd.get hi).2
  have hlt := (List.getElem?_eq_some_iff.mp hv).1
  exact X.laload hx A.1 (State.isArrayOf_alike hZ.alike A.2.1) A.2.2 (own_in hj hlt (own_sizeL e1)) (by rw [e1]; simp [hv]) (g := mkF m pc ls (.int j :: .ref a :: stk)) rfl rfl (hb hby hd) target h
theorem Go.iastore {i : Nat} {a : Addr} {vs : List Int32} {j x : Int32} {W' : Wld} (hd : decode code pc = .ok (.iastore, 1)) (hi : W[i]? = some (a, .inr (.inl vs))) (hj : ¬ j < 0) (hlt : j.toNatClampNeg < vs.length) (hW : W.set i (a, .inr (.inl (vs.set j.toNatClampNeg x))) = W') (hp : pc + 1 = pc')
    (k : Go l Z n0 R code maxL y ret D W' cells slots pc' ls stk F) : Go l Z n0 R code maxL y ret D W cells slots pc ls (.int x :: .int j :: .ref a :: stk) F := by
  subst hp hW
  obtain ⟨p, e, s, m, args, below, meth, c⟩ := D
  intro hx hZ hby hml hown hnm hret hlk T locs X N Wd
  have G := Wd.get hi
  obtain ⟨cl, A, e1, e2⟩ := id G.2
  obtain ⟨T', h', X', e', K, st⟩ := stI X hx hZ rfl A (own_in hj hlt (own_size e1)) (g := mkF m pc ls (.int x :: .int j :: .ref a :: stk)) rfl rfl (hb hby hd)
  obtain ⟨s₂, o, h1, h2⟩ := k hx hZ hby hml hown hnm hret hlk T' _ X' (Fr.snoc X' N G.1) (e' ▸ Wd.upd hi K (Is.setI K G.2))
  exact ⟨s₂, o, st _ h1, h2⟩
theorem Go.lastore {i : Nat} {a : Addr} {vs : List Int64} {j : Int32} {x : Int64} {W' : Wld} (hd : decode code pc = .ok (.lastore, 1)) (hi : W[i]? = some (a, .inr (.inr vs))) (hj : ¬ j < 0) (hlt : j.toNatClampNeg < vs.length) (hW : W.set i (a, .inr (.inr (vs.set j.toNatClampNeg x))) = W') (hp : pc + 1 = pc')
    (k : Go l Z n0 R code maxL y ret D W' cells slots pc' ls stk F) : Go l Z n0 R code maxL y ret D W cells slots pc ls (.long x :: .int j :: .ref a :: stk) F := by
  subst hp hW
  obtain ⟨p, e, s, m, args, below, meth, c⟩ := D
  intro hx hZ hby hml hown hnm hret hlk T locs X N Wd
  have G := Wd.get hi
  obtain ⟨cl, A, e1, e2⟩ := id G.2
  obtain ⟨T', h', X', e', K, st⟩ := stJ X hx hZ rfl A (own_in hj hlt (own_sizeL e1)) (g := mkF m pc ls (.long x :: .int j :: .ref a :: stk)) rfl rfl (hb hby hd)
  obtain ⟨s₂, o, h1, h2⟩ := k hx hZ hby hml hown hnm hret hlk T' _ X' (Fr.snoc X' N G.1) (e' ▸ Wd.upd hi K (Is.setJ K G.2))
  exact ⟨s₂, o, st _ h1, h2⟩
theorem Go.less {W' : Wld} (q : W'.Sublist W) (k : Go l Z n0 R code maxL y ret D W' cells slots pc ls stk F) : Go l Z n0 R code maxL y ret D W cells slots pc ls stk F := by
  obtain ⟨p, e, s, m, args, below, meth, c⟩ := D
  intro hx hZ hby hml hown hnm hret hlk T locs X N Wd
  exact k hx hZ hby hml hown hnm hret hlk T locs X N ⟨Wd.1, (q.map _).nodup Wd.2.1, fun z hz => Wd.2.2 z (q.subset hz)⟩
end OwnSteps
theorem d1_0 : decode prog_7_method_1_code 0 = .ok (.aload_n 0, 1) := by decide +kernel
theorem d1_1 : decode prog_7_method_1_code 1 = .ok (.invokespecial 1, 3) := by decide +kernel
theorem d1_4 : decode prog_7_method_1_code 4 = .ok (.return_, 1) := by decide +kernel
set_option maxRecDepth 65536 in
set_option maxHeartbeats 40000000 in
theorem rm1 (l : Launch) (Z : State) (n0 : Nat) (w0 : Array Value) (hw : ∀ d ∈ tables_1, d.before w0 Z = true) (a0 : Addr) (e f c g : Int32) :
    Meets l Z n0 (⟨"com/example/abox_query_engine/aboxqueryengine/reasoning/QueryAccount", "<init>", "()V"⟩ : MethodName) prog_7_method_1_code 1 none ({ frames := 1, cells := 0, slots := 0, locals := 12 } : Room) [] #[(.ref a0)] [(a0, .inl ("com/example/abox_query_engine/aboxqueryengine/reasoning/QueryAccount", [("lower", "I", (.int e)), ("upper", "I", (.int f)), ("checks", "I", (.int c)), ("largestFragment", "I", (.int g))]))] (fun r W' => r = none ∧ W' = [(a0, .inl ("com/example/abox_query_engine/aboxqueryengine/reasoning/QueryAccount", [("lower", "I", (.int e)), ("upper", "I", (.int f)), ("checks", "I", (.int c)), ("largestFragment", "I", (.int g))]))]) := by
  refine Meets.of_go (ls := #[.val (.ref a0)]) (plainFor_of_name (by first | (simp [plainName, overriddenIn]; done) | decide +kernel)) (fun m => by first | (simp [entryFrame, mkF, argsToLocals, Value.category, maxLocals]; done) | rfl) (fun D => ?_)
  refine Go.aloadN (pc' := 1) d1_0 rfl rfl rfl ?_
  refine Go.initO (pc' := 4) (W1 := 0) d1_1 (hw _ (List.mem_of_getElem? (i := 7) rfl)) (hw _ (List.mem_of_getElem? (i := 8) rfl)) (hw _ (List.mem_of_getElem? (i := 9) rfl)) rfl (by decide) (Nat.le_of_eq rfl) (by decide) rfl ?_
  exact Go.retV d1_4 rfl (by decide) (by decide) ⟨rfl, rfl⟩
theorem d3_0 : decode prog_7_method_2_code 0 = .ok (.aload_n 0, 1) := by decide +kernel
theorem d3_1 : decode prog_7_method_2_code 1 = .ok (.iload_n 1, 1) := by decide +kernel
theorem d3_2 : decode prog_7_method_2_code 2 = .ok (.putfield 7, 3) := by decide +kernel
theorem d3_5 : decode prog_7_method_2_code 5 = .ok (.return_, 1) := by decide +kernel
set_option maxRecDepth 65536 in
set_option maxHeartbeats 40000000 in
theorem rm3 (l : Launch) (Z : State) (n0 : Nat) (w0 : Array Value) (hw : ∀ d ∈ tables_1, d.before w0 Z = true) (a0 : Addr) (p1 : Int32) (e f c g : Int32) :
    Meets l Z n0 (⟨"com/example/abox_query_engine/aboxqueryengine/reasoning/QueryAccount", "recordLower", "(I)V"⟩ : MethodName) prog_7_method_2_code 2 none ({ frames := 0, cells := 0, slots := 0, locals := 0 } : Room) [] #[(.ref a0), (.int p1)] [(a0, .inl ("com/example/abox_query_engine/aboxqueryengine/reasoning/QueryAccount", [("lower", "I", (.int e)), ("upper", "I", (.int f)), ("checks", "I", (.int c)), ("largestFragment", "I", (.int g))]))] (fun r W' => r = none ∧ W' = [(a0, .inl ("com/example/abox_query_engine/aboxqueryengine/reasoning/QueryAccount", [("lower", "I", (.int p1)), ("upper", "I", (.int f)), ("checks", "I", (.int c)), ("largestFragment", "I", (.int g))]))]) := by
  refine Meets.of_go (ls := #[.val (.ref a0), .val (.int p1)]) (plainFor_of_name (by first | (simp [plainName, overriddenIn]; done) | decide +kernel)) (fun m => by first | (simp [entryFrame, mkF, argsToLocals, Value.category, maxLocals]; done) | rfl) (fun D => ?_)
  refine Go.aloadN (pc' := 1) d3_0 rfl rfl rfl ?_
  refine Go.iloadN (pc' := 2) d3_1 rfl rfl ?_
  refine Go.putF (pc' := 5) (i := 0) (j := 0) (ty := .int) (W' := [(a0, .inl ("com/example/abox_query_engine/aboxqueryengine/reasoning/QueryAccount", [("lower", "I", (.int p1)), ("upper", "I", (.int f)), ("checks", "I", (.int c)), ("largestFragment", "I", (.int g))]))]) (host := "") d3_2 (Or.inl (hw _ (List.mem_of_getElem? (i := 15) rfl))) (Or.inl (hw _ (List.mem_of_getElem? (i := 16) rfl))) (hw _ (List.mem_of_getElem? (i := 2) rfl)) rfl rfl (by decide) rfl rfl rfl rfl ?_
  exact Go.retV d3_5 rfl (by decide) (by decide) ⟨rfl, rfl⟩
theorem d4_0 : decode prog_7_method_3_code 0 = .ok (.aload_n 0, 1) := by decide +kernel
theorem d4_1 : decode prog_7_method_3_code 1 = .ok (.iload_n 1, 1) := by decide +kernel
theorem d4_2 : decode prog_7_method_3_code 2 = .ok (.putfield 13, 3) := by decide +kernel
theorem d4_5 : decode prog_7_method_3_code 5 = .ok (.return_, 1) := by decide +kernel
set_option maxRecDepth 65536 in
set_option maxHeartbeats 40000000 in
theorem rm4 (l : Launch) (Z : State) (n0 : Nat) (w0 : Array Value) (hw : ∀ d ∈ tables_1, d.before w0 Z = true) (a0 : Addr) (p1 : Int32) (e f c g : Int32) :
    Meets l Z n0 (⟨"com/example/abox_query_engine/aboxqueryengine/reasoning/QueryAccount", "recordUpper", "(I)V"⟩ : MethodName) prog_7_method_3_code 2 none ({ frames := 0, cells := 0, slots := 0, locals := 0 } : Room) [] #[(.ref a0), (.int p1)] [(a0, .inl ("com/example/abox_query_engine/aboxqueryengine/reasoning/QueryAccount", [("lower", "I", (.int e)), ("upper", "I", (.int f)), ("checks", "I", (.int c)), ("largestFragment", "I", (.int g))]))] (fun r W' => r = none ∧ W' = [(a0, .inl ("com/example/abox_query_engine/aboxqueryengine/reasoning/QueryAccount", [("lower", "I", (.int e)), ("upper", "I", (.int p1)), ("checks", "I", (.int c)), ("largestFragment", "I", (.int g))]))]) := by
  refine Meets.of_go (ls := #[.val (.ref a0), .val (.int p1)]) (plainFor_of_name (by first | (simp [plainName, overriddenIn]; done) | decide +kernel)) (fun m => by first | (simp [entryFrame, mkF, argsToLocals, Value.category, maxLocals]; done) | rfl) (fun D => ?_)
  refine Go.aloadN (pc' := 1) d4_0 rfl rfl rfl ?_
  refine Go.iloadN (pc' := 2) d4_1 rfl rfl ?_
  refine Go.putF (pc' := 5) (i := 0) (j := 1) (ty := .int) (W' := [(a0, .inl ("com/example/abox_query_engine/aboxqueryengine/reasoning/QueryAccount", [("lower", "I", (.int e)), ("upper", "I", (.int p1)), ("checks", "I", (.int c)), ("largestFragment", "I", (.int g))]))]) (host := "") d4_2 (Or.inl (hw _ (List.mem_of_getElem? (i := 22) rfl))) (Or.inl (hw _ (List.mem_of_getElem? (i := 23) rfl))) (hw _ (List.mem_of_getElem? (i := 2) rfl)) rfl rfl (by decide) rfl rfl rfl rfl ?_
  exact Go.retV d4_5 rfl (by decide) (by decide) ⟨rfl, rfl⟩
theorem d10_0 : decode prog_7_method_5_code 0 = .ok (.aload_n 0, 1) := by decide +kernel
theorem d10_1 : decode prog_7_method_5_code 1 = .ok (.getfield 7, 3) := by decide +kernel
theorem d10_4 : decode prog_7_method_5_code 4 = .ok (.ireturn, 1) := by decide +kernel
set_option maxRecDepth 65536 in
set_option maxHeartbeats 40000000 in
theorem rm10 (l : Launch) (Z : State) (n0 : Nat) (w0 : Array Value) (hw : ∀ d ∈ tables_1, d.before w0 Z = true) (a0 : Addr) (e f c g : Int32) :
    Meets l Z n0 (⟨"com/example/abox_query_engine/aboxqueryengine/reasoning/QueryAccount", "getLower", "()I"⟩ : MethodName) prog_7_method_5_code 1 (some .int) ({ frames := 0, cells := 0, slots := 0, locals := 0 } : Room) [] #[(.ref a0)] [(a0, .inl ("com/example/abox_query_engine/aboxqueryengine/reasoning/QueryAccount", [("lower", "I", (.int e)), ("upper", "I", (.int f)), ("checks", "I", (.int c)), ("largestFragment", "I", (.int g))]))] (fun r W' => r = some (.int e) ∧ W' = [(a0, .inl ("com/example/abox_query_engine/aboxqueryengine/reasoning/QueryAccount", [("lower", "I", (.int e)), ("upper", "I", (.int f)), ("checks", "I", (.int c)), ("largestFragment", "I", (.int g))]))]) := by
  refine Meets.of_go (ls := #[.val (.ref a0)]) (plainFor_of_name (by first | (simp [plainName, overriddenIn]; done) | decide +kernel)) (fun m => by first | (simp [entryFrame, mkF, argsToLocals, Value.category, maxLocals]; done) | rfl) (fun D => ?_)
  refine Go.aloadN (pc' := 1) d10_0 rfl rfl rfl ?_
  refine Go.getF (pc' := 4) (i := 0) (j := 0) (v := (.int e)) (host := "") d10_1 (Or.inl (hw _ (List.mem_of_getElem? (i := 15) rfl))) rfl rfl rfl ?_
  exact Go.retI d10_4 rfl (by decide) (by decide) ⟨rfl, rfl⟩
theorem d11_0 : decode prog_7_method_6_code 0 = .ok (.aload_n 0, 1) := by decide +kernel
theorem d11_1 : decode prog_7_method_6_code 1 = .ok (.getfield 13, 3) := by decide +kernel
theorem d11_4 : decode prog_7_method_6_code 4 = .ok (.ireturn, 1) := by decide +kernel
set_option maxRecDepth 65536 in
set_option maxHeartbeats 40000000 in
theorem rm11 (l : Launch) (Z : State) (n0 : Nat) (w0 : Array Value) (hw : ∀ d ∈ tables_1, d.before w0 Z = true) (a0 : Addr) (e f c g : Int32) :
    Meets l Z n0 (⟨"com/example/abox_query_engine/aboxqueryengine/reasoning/QueryAccount", "getUpper", "()I"⟩ : MethodName) prog_7_method_6_code 1 (some .int) ({ frames := 0, cells := 0, slots := 0, locals := 0 } : Room) [] #[(.ref a0)] [(a0, .inl ("com/example/abox_query_engine/aboxqueryengine/reasoning/QueryAccount", [("lower", "I", (.int e)), ("upper", "I", (.int f)), ("checks", "I", (.int c)), ("largestFragment", "I", (.int g))]))] (fun r W' => r = some (.int f) ∧ W' = [(a0, .inl ("com/example/abox_query_engine/aboxqueryengine/reasoning/QueryAccount", [("lower", "I", (.int e)), ("upper", "I", (.int f)), ("checks", "I", (.int c)), ("largestFragment", "I", (.int g))]))]) := by
  refine Meets.of_go (ls := #[.val (.ref a0)]) (plainFor_of_name (by first | (simp [plainName, overriddenIn]; done) | decide +kernel)) (fun m => by first | (simp [entryFrame, mkF, argsToLocals, Value.category, maxLocals]; done) | rfl) (fun D => ?_)
  refine Go.aloadN (pc' := 1) d11_0 rfl rfl rfl ?_
  refine Go.getF (pc' := 4) (i := 0) (j := 1) (v := (.int f)) (host := "") d11_1 (Or.inl (hw _ (List.mem_of_getElem? (i := 22) rfl))) rfl rfl rfl ?_
  exact Go.retI d11_4 rfl (by decide) (by decide) ⟨rfl, rfl⟩
theorem d8_0 : decode prog_7_method_7_code 0 = .ok (.aload_n 0, 1) := by decide +kernel
theorem d8_1 : decode prog_7_method_7_code 1 = .ok (.getfield 16, 3) := by decide +kernel
theorem d8_4 : decode prog_7_method_7_code 4 = .ok (.ireturn, 1) := by decide +kernel
set_option maxRecDepth 65536 in
set_option maxHeartbeats 40000000 in
theorem rm8 (l : Launch) (Z : State) (n0 : Nat) (w0 : Array Value) (hw : ∀ d ∈ tables_1, d.before w0 Z = true) (a0 : Addr) (e f c g : Int32) :
    Meets l Z n0 (⟨"com/example/abox_query_engine/aboxqueryengine/reasoning/QueryAccount", "getChecks", "()I"⟩ : MethodName) prog_7_method_7_code 1 (some .int) ({ frames := 0, cells := 0, slots := 0, locals := 0 } : Room) [] #[(.ref a0)] [(a0, .inl ("com/example/abox_query_engine/aboxqueryengine/reasoning/QueryAccount", [("lower", "I", (.int e)), ("upper", "I", (.int f)), ("checks", "I", (.int c)), ("largestFragment", "I", (.int g))]))] (fun r W' => r = some (.int c) ∧ W' = [(a0, .inl ("com/example/abox_query_engine/aboxqueryengine/reasoning/QueryAccount", [("lower", "I", (.int e)), ("upper", "I", (.int f)), ("checks", "I", (.int c)), ("largestFragment", "I", (.int g))]))]) := by
  refine Meets.of_go (ls := #[.val (.ref a0)]) (plainFor_of_name (by first | (simp [plainName, overriddenIn]; done) | decide +kernel)) (fun m => by first | (simp [entryFrame, mkF, argsToLocals, Value.category, maxLocals]; done) | rfl) (fun D => ?_)
  refine Go.aloadN (pc' := 1) d8_0 rfl rfl rfl ?_
  refine Go.getF (pc' := 4) (i := 0) (j := 2) (v := (.int c)) (host := "") d8_1 (Or.inl (hw _ (List.mem_of_getElem? (i := 29) rfl))) rfl rfl rfl ?_
  exact Go.retI d8_4 rfl (by decide) (by decide) ⟨rfl, rfl⟩
theorem d9_0 : decode prog_7_method_8_code 0 = .ok (.aload_n 0, 1) := by decide +kernel
theorem d9_1 : decode prog_7_method_8_code 1 = .ok (.getfield 19, 3) := by decide +kernel
theorem d9_4 : decode prog_7_method_8_code 4 = .ok (.ireturn, 1) := by decide +kernel
set_option maxRecDepth 65536 in
set_option maxHeartbeats 40000000 in
theorem rm9 (l : Launch) (Z : State) (n0 : Nat) (w0 : Array Value) (hw : ∀ d ∈ tables_1, d.before w0 Z = true) (a0 : Addr) (e f c g : Int32) :
    Meets l Z n0 (⟨"com/example/abox_query_engine/aboxqueryengine/reasoning/QueryAccount", "getLargestFragment", "()I"⟩ : MethodName) prog_7_method_8_code 1 (some .int) ({ frames := 0, cells := 0, slots := 0, locals := 0 } : Room) [] #[(.ref a0)] [(a0, .inl ("com/example/abox_query_engine/aboxqueryengine/reasoning/QueryAccount", [("lower", "I", (.int e)), ("upper", "I", (.int f)), ("checks", "I", (.int c)), ("largestFragment", "I", (.int g))]))] (fun r W' => r = some (.int g) ∧ W' = [(a0, .inl ("com/example/abox_query_engine/aboxqueryengine/reasoning/QueryAccount", [("lower", "I", (.int e)), ("upper", "I", (.int f)), ("checks", "I", (.int c)), ("largestFragment", "I", (.int g))]))]) := by
  refine Meets.of_go (ls := #[.val (.ref a0)]) (plainFor_of_name (by first | (simp [plainName, overriddenIn]; done) | decide +kernel)) (fun m => by first | (simp [entryFrame, mkF, argsToLocals, Value.category, maxLocals]; done) | rfl) (fun D => ?_)
  refine Go.aloadN (pc' := 1) d9_0 rfl rfl rfl ?_
  refine Go.getF (pc' := 4) (i := 0) (j := 3) (v := (.int g)) (host := "") d9_1 (Or.inl (hw _ (List.mem_of_getElem? (i := 31) rfl))) rfl rfl rfl ?_
  exact Go.retI d9_4 rfl (by decide) (by decide) ⟨rfl, rfl⟩
def big (u v : Int32) : Int32 := if u < v then v else u
theorem d6_0 : decode jdk_29_method_65_code 0 = .ok (.iload_n 0, 1) := by decide +kernel
theorem d6_1 : decode jdk_29_method_65_code 1 = .ok (.iload_n 1, 1) := by decide +kernel
theorem d6_2 : decode jdk_29_method_65_code 2 = .ok (.if_icmp .lt 7, 3) := by decide +kernel
theorem d6_5 : decode jdk_29_method_65_code 5 = .ok (.iload_n 0, 1) := by decide +kernel
theorem d6_6 : decode jdk_29_method_65_code 6 = .ok (.goto 4, 3) := by decide +kernel
theorem d6_9 : decode jdk_29_method_65_code 9 = .ok (.iload_n 1, 1) := by decide +kernel
theorem d6_10 : decode jdk_29_method_65_code 10 = .ok (.ireturn, 1) := by decide +kernel
set_option maxRecDepth 65536 in
set_option maxHeartbeats 40000000 in
theorem rm6 (l : Launch) (Z : State) (n0 : Nat) (w0 : Array Value) (hw : ∀ d ∈ tables_1, d.before w0 Z = true) (p0 : Int32) (p1 : Int32) (W : Wld) :
    Meets l Z n0 (⟨"java/lang/Math", "max", "(II)I"⟩ : MethodName) jdk_29_method_65_code 2 (some .int) ({ frames := 0, cells := 0, slots := 0, locals := 0 } : Room) [] #[(.int p0), (.int p1)] W (fun v W' => v = some (.int (big p0 p1)) ∧ W' = W) := by
  refine Meets.of_go (ls := #[.val (.int p0), .val (.int p1)]) (by decide +kernel) (fun m => by first | (simp [entryFrame, mkF, argsToLocals, Value.category, maxLocals]; done) | rfl) (fun D => ?_)
  refine Go.iloadN (pc' := 1) d6_0 rfl rfl ?_
  refine Go.iloadN (pc' := 2) d6_1 rfl rfl ?_
  refine Go.icmp_lt (pcY := 9) (pcN := 5) d6_2 (by decide) (by decide) rfl (fun hc2 => ?_) (fun hc2 => ?_)
  ·
    refine Go.iloadN (pc' := 10) d6_9 rfl rfl ?_
    exact Go.retI d6_10 rfl (by decide) (by decide) ⟨by rw [big, if_pos hc2], rfl⟩
  ·
    refine Go.iloadN (pc' := 6) d6_5 rfl rfl ?_
    refine Go.goto (pc' := 10) d6_6 (by decide) (by decide) ?_
    exact Go.retI d6_10 rfl (by decide) (by decide) ⟨by rw [big, if_neg hc2], rfl⟩
theorem d7_0 : decode method_2_code 0 = .ok (.iload_n 0, 1) := by decide +kernel
theorem d7_1 : decode method_2_code 1 = .ok (.iload_n 1, 1) := by decide +kernel
theorem d7_2 : decode method_2_code 2 = .ok (.if_icmp .le 5, 3) := by decide +kernel
theorem d7_5 : decode method_2_code 5 = .ok (.iload_n 0, 1) := by decide +kernel
theorem d7_6 : decode method_2_code 6 = .ok (.ireturn, 1) := by decide +kernel
theorem d7_7 : decode method_2_code 7 = .ok (.iload_n 1, 1) := by decide +kernel
theorem d7_8 : decode method_2_code 8 = .ok (.ireturn, 1) := by decide +kernel
set_option maxRecDepth 65536 in
set_option maxHeartbeats 40000000 in
theorem rm7 (l : Launch) (Z : State) (n0 : Nat) (w0 : Array Value) (hw : ∀ d ∈ tables_1, d.before w0 Z = true) (p0 : Int32) (p1 : Int32) (W : Wld) :
    Meets l Z n0 (⟨"com/example/abox_query_engine/aboxqueryengine/reasoning/QueryAccountRecordPinLaw", "bigger", "(II)I"⟩ : MethodName) method_2_code 2 (some .int) ({ frames := 0, cells := 0, slots := 0, locals := 0 } : Room) [] #[(.int p0), (.int p1)] W (fun v W' => v = some (.int (big p1 p0)) ∧ W' = W) := by
  refine Meets.of_go (ls := #[.val (.int p0), .val (.int p1)]) (plainFor_of_name (by first | (simp [plainName, overriddenIn]; done) | decide +kernel)) (fun m => by first | (simp [entryFrame, mkF, argsToLocals, Value.category, maxLocals]; done) | rfl) (fun D => ?_)
  refine Go.iloadN (pc' := 1) d7_0 rfl rfl ?_
  refine Go.iloadN (pc' := 2) d7_1 rfl rfl ?_
  refine Go.icmp_le (pcY := 7) (pcN := 5) d7_2 (by decide) (by decide) rfl (fun hc2 => ?_) (fun hc2 => ?_)
  ·
    refine Go.iloadN (pc' := 8) d7_7 rfl rfl ?_
    exact Go.retI d7_8 rfl (by decide) (by decide) ⟨by rw [big, if_neg hc2], rfl⟩
  ·
    refine Go.iloadN (pc' := 6) d7_5 rfl rfl ?_
    exact Go.retI d7_6 rfl (by decide) (by decide) ⟨by rw [big, if_pos (hc2)], rfl⟩
theorem d5_0 : decode prog_7_method_4_code 0 = .ok (.aload_n 0, 1) := by decide +kernel
theorem d5_1 : decode prog_7_method_4_code 1 = .ok (.dup, 1) := by decide +kernel
theorem d5_2 : decode prog_7_method_4_code 2 = .ok (.getfield 16, 3) := by decide +kernel
theorem d5_5 : decode prog_7_method_4_code 5 = .ok (.iconst 1, 1) := by decide +kernel
theorem d5_6 : decode prog_7_method_4_code 6 = .ok (.iadd, 1) := by decide +kernel
theorem d5_7 : decode prog_7_method_4_code 7 = .ok (.putfield 16, 3) := by decide +kernel
theorem d5_10 : decode prog_7_method_4_code 10 = .ok (.aload_n 0, 1) := by decide +kernel
theorem d5_11 : decode prog_7_method_4_code 11 = .ok (.aload_n 0, 1) := by decide +kernel
theorem d5_12 : decode prog_7_method_4_code 12 = .ok (.getfield 19, 3) := by decide +kernel
theorem d5_15 : decode prog_7_method_4_code 15 = .ok (.iload_n 1, 1) := by decide +kernel
theorem d5_16 : decode prog_7_method_4_code 16 = .ok (.invokestatic 22, 3) := by decide +kernel
theorem d5_19 : decode prog_7_method_4_code 19 = .ok (.putfield 19, 3) := by decide +kernel
theorem d5_22 : decode prog_7_method_4_code 22 = .ok (.return_, 1) := by decide +kernel
theorem pd__28II_29I : parseMethodDescriptor "(II)I" = some ⟨[.int, .int], (some .int)⟩ := by decide +kernel
set_option maxRecDepth 65536 in
set_option maxHeartbeats 40000000 in
theorem rm5 (l : Launch) (Z : State) (n0 : Nat) (w0 : Array Value) (hw : ∀ d ∈ tables_1, d.before w0 Z = true) (a0 : Addr) (p1 : Int32) (e f c g : Int32) :
    Meets l Z n0 (⟨"com/example/abox_query_engine/aboxqueryengine/reasoning/QueryAccount", "record", "(I)V"⟩ : MethodName) prog_7_method_4_code 2 none ({ frames := 1, cells := 0, slots := 0, locals := 14 } : Room) [] #[(.ref a0), (.int p1)] [(a0, .inl ("com/example/abox_query_engine/aboxqueryengine/reasoning/QueryAccount", [("lower", "I", (.int e)), ("upper", "I", (.int f)), ("checks", "I", (.int c)), ("largestFragment", "I", (.int g))]))] (fun r W' => r = none ∧ W' = [(a0, .inl ("com/example/abox_query_engine/aboxqueryengine/reasoning/QueryAccount", [("lower", "I", (.int e)), ("upper", "I", (.int f)), ("checks", "I", (.int (c + (1 : Int32)))), ("largestFragment", "I", (.int (big g p1)))]))]) := by
  refine Meets.of_go (ls := #[.val (.ref a0), .val (.int p1)]) (plainFor_of_name (by first | (simp [plainName, overriddenIn]; done) | decide +kernel)) (fun m => by first | (simp [entryFrame, mkF, argsToLocals, Value.category, maxLocals]; done) | rfl) (fun D => ?_)
  refine Go.aloadN (pc' := 1) d5_0 rfl rfl rfl ?_
  refine Go.dup (pc' := 2) d5_1 rfl rfl ?_
  refine Go.getF (pc' := 5) (i := 0) (j := 2) (v := (.int c)) (host := "") d5_2 (Or.inl (hw _ (List.mem_of_getElem? (i := 29) rfl))) rfl rfl rfl ?_
  refine Go.iconst (pc' := 6) (v := (1 : Int32)) d5_5 rfl rfl ?_
  refine Go.iadd (pc' := 7) d5_6 rfl ?_
  refine Go.putF (pc' := 10) (i := 0) (j := 2) (ty := .int) (W' := [(a0, .inl ("com/example/abox_query_engine/aboxqueryengine/reasoning/QueryAccount", [("lower", "I", (.int e)), ("upper", "I", (.int f)), ("checks", "I", (.int (c + (1 : Int32)))), ("largestFragment", "I", (.int g))]))]) (host := "") d5_7 (Or.inl (hw _ (List.mem_of_getElem? (i := 29) rfl))) (Or.inl (hw _ (List.mem_of_getElem? (i := 30) rfl))) (hw _ (List.mem_of_getElem? (i := 2) rfl)) rfl rfl (by decide) rfl rfl rfl rfl ?_
  refine Go.aloadN (pc' := 11) d5_10 rfl rfl rfl ?_
  refine Go.aloadN (pc' := 12) d5_11 rfl rfl rfl ?_
  refine Go.getF (pc' := 15) (i := 0) (j := 3) (v := (.int g)) (host := "") d5_12 (Or.inl (hw _ (List.mem_of_getElem? (i := 31) rfl))) rfl rfl rfl ?_
  refine Go.iloadN (pc' := 16) d5_15 rfl rfl ?_
  refine Go.callS (pc' := 19) (W1 := 1) (cells' := 0) (slots' := 0) (argsL := [(.int g), (.int p1)]) (rest := [(.ref a0)]) (y' := (⟨"java/lang/Math", "max", "(II)I"⟩ : MethodName)) d5_16 (hw _ (List.mem_of_getElem? (i := 33) rfl)) (hw _ (List.mem_of_getElem? (i := 34) rfl)) (hw _ (List.mem_of_getElem? (i := 35) rfl)) (hw _ (List.mem_of_getElem? (i := 36) rfl)) (by decide) (rm6 l Z n0 w0 hw g p1 [(a0, .inl ("com/example/abox_query_engine/aboxqueryengine/reasoning/QueryAccount", [("lower", "I", (.int e)), ("upper", "I", (.int f)), ("checks", "I", (.int (c + (1 : Int32)))), ("largestFragment", "I", (.int g))]))]) (by decide) (by decide) rfl (lenOf pd__28II_29I rfl) rfl (Nat.le_of_eq rfl) (by decide) (by decide) rfl rfl rfl (fun v W' hF => ?_)
  obtain ⟨rfl, rfl⟩ := hF
  refine Go.val ?_
  refine Go.putF (pc' := 22) (i := 0) (j := 3) (ty := .int) (W' := [(a0, .inl ("com/example/abox_query_engine/aboxqueryengine/reasoning/QueryAccount", [("lower", "I", (.int e)), ("upper", "I", (.int f)), ("checks", "I", (.int (c + (1 : Int32)))), ("largestFragment", "I", (.int (big g p1)))]))]) (host := "") d5_19 (Or.inl (hw _ (List.mem_of_getElem? (i := 31) rfl))) (Or.inl (hw _ (List.mem_of_getElem? (i := 32) rfl))) (hw _ (List.mem_of_getElem? (i := 2) rfl)) rfl rfl (by decide) rfl rfl rfl rfl ?_
  exact Go.retV d5_22 rfl (by decide) (by decide) ⟨rfl, rfl⟩
theorem own_k (x : Int32) : 0 ≤ (x &&& 3).toInt ∧ (x &&& 3).toInt ≤ 3 := by
  have h : (x &&& 3).toBitVec.toNat = x.toBitVec.toNat % 4 := by
    rw [Int32.toBitVec_and, BitVec.toNat_and]
    exact Nat.and_two_pow_sub_one_eq_mod _ 2
  have h2 : (x &&& 3).toInt = ((x &&& 3).toBitVec.toNat : Int) := by
    show (x &&& 3).toBitVec.toInt = _
    rw [BitVec.toInt_eq_toNat_cond, if_pos (by omega)]
  omega
theorem own_lt1 {k : Int32} (h : 0 ≤ k.toInt ∧ k.toInt ≤ 3) (q : k < 1) : (0 : Int32) = k := by
  have h1 : (1 : Int32).toInt = 1 := rfl
  have h0 : (0 : Int32).toInt = 0 := rfl
  rw [Int32.lt_iff_toInt_lt] at q
  apply Int32.toInt_inj.mp; omega
theorem own_lt2 {k : Int32} (h : 0 ≤ k.toInt ∧ k.toInt ≤ 3) (p : ¬ k < 1) (q : k < 2) : (0 + 1 : Int32) = k := by
  have h1 : (1 : Int32).toInt = 1 := rfl
  have h2 : (2 : Int32).toInt = 2 := rfl
  have h3 : (0 + 1 : Int32).toInt = 1 := rfl
  rw [Int32.lt_iff_toInt_lt] at p q
  apply Int32.toInt_inj.mp; omega
theorem own_lt3 {k : Int32} (h : 0 ≤ k.toInt ∧ k.toInt ≤ 3) (p : ¬ k < 2) (q : k < 3) : (0 + 1 + 1 : Int32) = k := by
  have h1 : (3 : Int32).toInt = 3 := rfl
  have h2 : (2 : Int32).toInt = 2 := rfl
  have h3 : (0 + 1 + 1 : Int32).toInt = 2 := rfl
  rw [Int32.lt_iff_toInt_lt] at p q
  apply Int32.toInt_inj.mp; omega
theorem own_ge3 {k : Int32} (h : 0 ≤ k.toInt ∧ k.toInt ≤ 3) (q : ¬ k < 3) : (0 + 1 + 1 + 1 : Int32) = k := by
  have h1 : (3 : Int32).toInt = 3 := rfl
  have h3 : (0 + 1 + 1 + 1 : Int32).toInt = 3 := rfl
  rw [Int32.lt_iff_toInt_lt] at q
  apply Int32.toInt_inj.mp; omega
theorem own_up {k u v : Int32} (q : k < u) (h : u < v) : k < v := by simp only [Int32.lt_iff_toInt_lt] at *; omega
theorem pd__28_29I : parseMethodDescriptor "()I" = some ⟨[], (some .int)⟩ := by decide +kernel
theorem pd__28_29V : parseMethodDescriptor "()V" = some ⟨[], none⟩ := by decide +kernel
theorem pd__28I_29V : parseMethodDescriptor "(I)V" = some ⟨[.int], none⟩ := by decide +kernel
set_option maxRecDepth 65536 in
set_option maxHeartbeats 40000000 in
theorem rm0 (l : Launch) (Z : State) (n0 : Nat) (w0 : Array Value) (hw : ∀ d ∈ tables_1, d.before w0 Z = true) (p0 : Int32) (p1 : Int32) (p2 : Int32) (p3 : Int32) (p4 : Int32) (p5 : Int32) :
    Meets l Z n0 x code maxLocals ret room_1 tables_1 #[(.int p0), (.int p1), (.int p2), (.int p3), (.int p4), (.int p5)] [] (fun v _ => v = some (.int 1)) := by
  refine Meets.of_go (ls := #[.val (.int p0), .val (.int p1), .val (.int p2), .val (.int p3), .val (.int p4), .val (.int p5), .unset, .unset, .unset, .unset, .unset, .unset]) (plainFor_of_name (by first | (simp [plainName, overriddenIn]; done) | decide +kernel)) (fun m => by first | (simp [entryFrame, mkF, argsToLocals, Value.category, maxLocals]; done) | rfl) (fun D => ?_)
  show Go l Z n0 room_1 code 12 x (some .boolean) D _ 0 0 0 _ _ _
  refine Go.iloadN (pc' := 1) at_0 rfl rfl ?_
  refine Go.ldcI (pc' := 3) (v := (2147483647 : Int32)) at_1 (hw _ (List.mem_of_getElem? (i := 0) rfl)) rfl ?_
  refine Go.iand (pc' := 4) at_3 rfl ?_
  refine Go.istore (pc' := 6) (ls' := #[.val (.int p0), .val (.int p1), .val (.int p2), .val (.int p3), .val (.int p4), .val (.int p5), .val (.int (p0 &&& (2147483647 : Int32))), .unset, .unset, .unset, .unset, .unset]) at_4 rfl rfl ?_
  refine Go.iloadN (pc' := 7) at_6 rfl rfl ?_
  refine Go.ldcI (pc' := 9) (v := (2147483647 : Int32)) at_7 (hw _ (List.mem_of_getElem? (i := 0) rfl)) rfl ?_
  refine Go.iand (pc' := 10) at_9 rfl ?_
  refine Go.istore (pc' := 12) (ls' := #[.val (.int p0), .val (.int p1), .val (.int p2), .val (.int p3), .val (.int p4), .val (.int p5), .val (.int (p0 &&& (2147483647 : Int32))), .val (.int (p1 &&& (2147483647 : Int32))), .unset, .unset, .unset, .unset]) at_10 rfl rfl ?_
  refine Go.iloadN (pc' := 13) at_12 rfl rfl ?_
  refine Go.ldcI (pc' := 15) (v := (2147483647 : Int32)) at_13 (hw _ (List.mem_of_getElem? (i := 0) rfl)) rfl ?_
  refine Go.iand (pc' := 16) at_15 rfl ?_
  refine Go.istore (pc' := 18) (ls' := #[.val (.int p0), .val (.int p1), .val (.int p2), .val (.int p3), .val (.int p4), .val (.int p5), .val (.int (p0 &&& (2147483647 : Int32))), .val (.int (p1 &&& (2147483647 : Int32))), .val (.int (p2 &&& (2147483647 : Int32))), .unset, .unset, .unset]) at_16 rfl rfl ?_
  refine Go.iloadN (pc' := 19) at_18 rfl rfl ?_
  refine Go.iconst (pc' := 20) (v := (3 : Int32)) at_19 rfl rfl ?_
  refine Go.iand (pc' := 21) at_20 rfl ?_
  refine Go.istore (pc' := 23) (ls' := #[.val (.int p0), .val (.int p1), .val (.int p2), .val (.int p3), .val (.int p4), .val (.int p5), .val (.int (p0 &&& (2147483647 : Int32))), .val (.int (p1 &&& (2147483647 : Int32))), .val (.int (p2 &&& (2147483647 : Int32))), .val (.int (p3 &&& (3 : Int32))), .unset, .unset]) at_21 rfl rfl ?_
  refine Go.newO (pc' := 26) (cells' := 1) (slots' := 4) (W' := fun o1 => [(o1, .inl ("com/example/abox_query_engine/aboxqueryengine/reasoning/QueryAccount", [("lower", "I", (.int 0)), ("upper", "I", (.int 0)), ("checks", "I", (.int 0)), ("largestFragment", "I", (.int 0))]))]) at_23 (hw _ (List.mem_of_getElem? (i := 1) rfl)) (hw _ (List.mem_of_getElem? (i := 2) rfl)) (hw _ (List.mem_of_getElem? (i := 3) rfl)) (lay_cons (ty := .int) (Or.inl (hw _ (List.mem_of_getElem? (i := 16) rfl))) (by decide) rfl (lay_cons (ty := .int) (Or.inl (hw _ (List.mem_of_getElem? (i := 23) rfl))) (by decide) rfl (lay_cons (ty := .int) (Or.inl (hw _ (List.mem_of_getElem? (i := 30) rfl))) (by decide) rfl (lay_cons (ty := .int) (Or.inl (hw _ (List.mem_of_getElem? (i := 32) rfl))) (by decide) rfl lay_nil)))) (by decide) (by decide) (by decide) rfl rfl (fun _ => rfl) rfl (fun o1 => ?_)
  refine Go.dup (pc' := 27) at_26 rfl rfl ?_
  refine Go.callI (pc' := 30) (W1 := 1) (cells' := 1) (slots' := 4) (argsL := []) (rest := [(.ref o1)]) (y' := (⟨"com/example/abox_query_engine/aboxqueryengine/reasoning/QueryAccount", "<init>", "()V"⟩ : MethodName)) (a := o1) at_27 rfl (hw _ (List.mem_of_getElem? (i := 4) rfl)) (hw _ (List.mem_of_getElem? (i := 5) rfl)) (hw _ (List.mem_of_getElem? (i := 3) rfl)) (hw _ (List.mem_of_getElem? (i := 6) rfl)) (by decide) (rm1 l Z n0 w0 hw o1 0 0 0 0) (by decide) (by decide) rfl (lenOf pd__28_29V rfl) rfl (Nat.le_of_eq rfl) (by decide) (by decide) rfl rfl rfl (fun v W' hF => ?_)
  obtain ⟨rfl, rfl⟩ := hF
  refine Go.nov ?_
  refine Go.astore (pc' := 32) (ls' := #[.val (.int p0), .val (.int p1), .val (.int p2), .val (.int p3), .val (.int p4), .val (.int p5), .val (.int (p0 &&& (2147483647 : Int32))), .val (.int (p1 &&& (2147483647 : Int32))), .val (.int (p2 &&& (2147483647 : Int32))), .val (.int (p3 &&& (3 : Int32))), .val (.ref o1), .unset]) at_30 rfl rfl rfl ?_
  refine Go.aload (pc' := 34) at_32 rfl rfl rfl ?_
  refine Go.iload (pc' := 36) at_34 rfl rfl ?_
  refine Go.callV (pc' := 39) (W1 := 0) (cells' := 1) (slots' := 4) (argsL := [(.int p4)]) (rest := []) (y' := (⟨"com/example/abox_query_engine/aboxqueryengine/reasoning/QueryAccount", "recordLower", "(I)V"⟩ : MethodName)) (a := o1) (i := 0) at_36 (hw _ (List.mem_of_getElem? (i := 10) rfl)) (hw _ (List.mem_of_getElem? (i := 11) rfl)) (hw _ (List.mem_of_getElem? (i := 13) rfl)) (hw _ (List.mem_of_getElem? (i := 12) rfl)) (hw _ (List.mem_of_getElem? (i := 3) rfl)) (hw _ (List.mem_of_getElem? (i := 14) rfl)) (by decide) rfl (rm3 l Z n0 w0 hw o1 p4 0 0 0 0) (by decide) (by decide) rfl (lenOf pd__28I_29V rfl) rfl (Nat.le_of_eq rfl) (by decide) (by decide) rfl rfl rfl (fun v W' hF => ?_)
  obtain ⟨rfl, rfl⟩ := hF
  refine Go.nov ?_
  refine Go.aload (pc' := 41) at_39 rfl rfl rfl ?_
  refine Go.iload (pc' := 43) at_41 rfl rfl ?_
  refine Go.callV (pc' := 46) (W1 := 0) (cells' := 1) (slots' := 4) (argsL := [(.int p5)]) (rest := []) (y' := (⟨"com/example/abox_query_engine/aboxqueryengine/reasoning/QueryAccount", "recordUpper", "(I)V"⟩ : MethodName)) (a := o1) (i := 0) at_43 (hw _ (List.mem_of_getElem? (i := 17) rfl)) (hw _ (List.mem_of_getElem? (i := 18) rfl)) (hw _ (List.mem_of_getElem? (i := 20) rfl)) (hw _ (List.mem_of_getElem? (i := 19) rfl)) (hw _ (List.mem_of_getElem? (i := 3) rfl)) (hw _ (List.mem_of_getElem? (i := 21) rfl)) (by decide) rfl (rm4 l Z n0 w0 hw o1 p5 p4 0 0 0) (by decide) (by decide) rfl (lenOf pd__28I_29V rfl) rfl (Nat.le_of_eq rfl) (by decide) (by decide) rfl rfl rfl (fun v W' hF => ?_)
  obtain ⟨rfl, rfl⟩ := hF
  refine Go.nov ?_
  refine Go.iconst (pc' := 47) (v := (0 : Int32)) at_46 rfl rfl ?_
  refine Go.istore (pc' := 49) (ls' := #[.val (.int p0), .val (.int p1), .val (.int p2), .val (.int p3), .val (.int p4), .val (.int p5), .val (.int (p0 &&& (2147483647 : Int32))), .val (.int (p1 &&& (2147483647 : Int32))), .val (.int (p2 &&& (2147483647 : Int32))), .val (.int (p3 &&& (3 : Int32))), .val (.ref o1), .val (.int (0 : Int32))]) at_47 rfl rfl ?_
  have hk := own_k p3
  have k115 : ∀ (ch : Int32) (mm : Int32), ch = (p3 &&& (3 : Int32)) → Go l Z n0 room_1 code 12 x (some .boolean) D [(o1, .inl ("com/example/abox_query_engine/aboxqueryengine/reasoning/QueryAccount", [("lower", "I", (.int p4)), ("upper", "I", (.int p5)), ("checks", "I", (.int ch)), ("largestFragment", "I", (.int mm))]))] 1 4 115 #[.val (.int p0), .val (.int p1), .val (.int p2), .val (.int p3), .val (.int p4), .val (.int p5), .val (.int (p0 &&& (2147483647 : Int32))), .val (.int (p1 &&& (2147483647 : Int32))), .val (.int (p2 &&& (2147483647 : Int32))), .val (.int (p3 &&& (3 : Int32))), .val (.ref o1), .val (.int mm)] [] (fun v _ => v = some (.int 1)) := by
    intro ch mm hch
    refine Go.aload (pc' := 117) at_115 rfl rfl rfl ?_
    refine Go.callV (pc' := 120) (W1 := 0) (cells' := 1) (slots' := 4) (argsL := []) (rest := []) (y' := (⟨"com/example/abox_query_engine/aboxqueryengine/reasoning/QueryAccount", "getChecks", "()I"⟩ : MethodName)) (a := o1) (i := 0) at_117 (hw _ (List.mem_of_getElem? (i := 41) rfl)) (hw _ (List.mem_of_getElem? (i := 42) rfl)) (hw _ (List.mem_of_getElem? (i := 44) rfl)) (hw _ (List.mem_of_getElem? (i := 43) rfl)) (hw _ (List.mem_of_getElem? (i := 3) rfl)) (hw _ (List.mem_of_getElem? (i := 45) rfl)) (by decide) rfl (rm8 l Z n0 w0 hw o1 p4 p5 ch mm) (by decide) (by decide) rfl (lenOf pd__28_29I rfl) rfl (Nat.le_of_eq rfl) (by decide) (by decide) rfl rfl rfl (fun v W' hF => ?_)
    obtain ⟨rfl, rfl⟩ := hF
    refine Go.val ?_
    refine Go.iload (pc' := 122) at_120 rfl rfl ?_
    refine Go.icmp_ne (pcY := 159) (pcN := 125) at_122 (by decide) (by decide) rfl (fun hc122 => absurd hc122 (Classical.not_not.mpr hch)) (fun hc122 => ?_)
    refine Go.aload (pc' := 127) at_125 rfl rfl rfl ?_
    refine Go.callV (pc' := 130) (W1 := 0) (cells' := 1) (slots' := 4) (argsL := []) (rest := []) (y' := (⟨"com/example/abox_query_engine/aboxqueryengine/reasoning/QueryAccount", "getLargestFragment", "()I"⟩ : MethodName)) (a := o1) (i := 0) at_127 (hw _ (List.mem_of_getElem? (i := 46) rfl)) (hw _ (List.mem_of_getElem? (i := 47) rfl)) (hw _ (List.mem_of_getElem? (i := 49) rfl)) (hw _ (List.mem_of_getElem? (i := 48) rfl)) (hw _ (List.mem_of_getElem? (i := 3) rfl)) (hw _ (List.mem_of_getElem? (i := 50) rfl)) (by decide) rfl (rm9 l Z n0 w0 hw o1 p4 p5 ch mm) (by decide) (by decide) rfl (lenOf pd__28_29I rfl) rfl (Nat.le_of_eq rfl) (by decide) (by decide) rfl rfl rfl (fun v W' hF => ?_)
    obtain ⟨rfl, rfl⟩ := hF
    refine Go.val ?_
    refine Go.iload (pc' := 132) at_130 rfl rfl ?_
    refine Go.icmp_ne (pcY := 159) (pcN := 135) at_132 (by decide) (by decide) rfl (fun hc132 => absurd hc132 (Classical.not_not.mpr rfl)) (fun hc132 => ?_)
    refine Go.aload (pc' := 137) at_135 rfl rfl rfl ?_
    refine Go.callV (pc' := 140) (W1 := 0) (cells' := 1) (slots' := 4) (argsL := []) (rest := []) (y' := (⟨"com/example/abox_query_engine/aboxqueryengine/reasoning/QueryAccount", "getLower", "()I"⟩ : MethodName)) (a := o1) (i := 0) at_137 (hw _ (List.mem_of_getElem? (i := 51) rfl)) (hw _ (List.mem_of_getElem? (i := 52) rfl)) (hw _ (List.mem_of_getElem? (i := 54) rfl)) (hw _ (List.mem_of_getElem? (i := 53) rfl)) (hw _ (List.mem_of_getElem? (i := 3) rfl)) (hw _ (List.mem_of_getElem? (i := 55) rfl)) (by decide) rfl (rm10 l Z n0 w0 hw o1 p4 p5 ch mm) (by decide) (by decide) rfl (lenOf pd__28_29I rfl) rfl (Nat.le_of_eq rfl) (by decide) (by decide) rfl rfl rfl (fun v W' hF => ?_)
    obtain ⟨rfl, rfl⟩ := hF
    refine Go.val ?_
    refine Go.iload (pc' := 142) at_140 rfl rfl ?_
    refine Go.icmp_ne (pcY := 159) (pcN := 145) at_142 (by decide) (by decide) rfl (fun hc142 => absurd hc142 (Classical.not_not.mpr rfl)) (fun hc142 => ?_)
    refine Go.aload (pc' := 147) at_145 rfl rfl rfl ?_
    refine Go.callV (pc' := 150) (W1 := 0) (cells' := 1) (slots' := 4) (argsL := []) (rest := []) (y' := (⟨"com/example/abox_query_engine/aboxqueryengine/reasoning/QueryAccount", "getUpper", "()I"⟩ : MethodName)) (a := o1) (i := 0) at_147 (hw _ (List.mem_of_getElem? (i := 56) rfl)) (hw _ (List.mem_of_getElem? (i := 57) rfl)) (hw _ (List.mem_of_getElem? (i := 59) rfl)) (hw _ (List.mem_of_getElem? (i := 58) rfl)) (hw _ (List.mem_of_getElem? (i := 3) rfl)) (hw _ (List.mem_of_getElem? (i := 60) rfl)) (by decide) rfl (rm11 l Z n0 w0 hw o1 p4 p5 ch mm) (by decide) (by decide) rfl (lenOf pd__28_29I rfl) rfl (Nat.le_of_eq rfl) (by decide) (by decide) rfl rfl rfl (fun v W' hF => ?_)
    obtain ⟨rfl, rfl⟩ := hF
    refine Go.val ?_
    refine Go.iload (pc' := 152) at_150 rfl rfl ?_
    refine Go.icmp_ne (pcY := 159) (pcN := 155) at_152 (by decide) (by decide) rfl (fun hc152 => absurd hc152 (Classical.not_not.mpr rfl)) (fun hc152 => ?_)
    refine Go.iconst (pc' := 156) (v := (1 : Int32)) at_155 rfl rfl ?_
    refine Go.goto (pc' := 160) at_156 (by decide) (by decide) ?_
    exact Go.retZ (z' := (1 : Int32)) at_160 rfl (by decide) (by decide) (by decide) rfl
  have k93 : ∀ (ch : Int32) (mm : Int32), ((p3 &&& (3 : Int32)) < 3 → ch = (p3 &&& (3 : Int32))) → (¬ (p3 &&& (3 : Int32)) < 2 → ch = 0 + 1 + 1) → Go l Z n0 room_1 code 12 x (some .boolean) D [(o1, .inl ("com/example/abox_query_engine/aboxqueryengine/reasoning/QueryAccount", [("lower", "I", (.int p4)), ("upper", "I", (.int p5)), ("checks", "I", (.int ch)), ("largestFragment", "I", (.int mm))]))] 1 4 93 #[.val (.int p0), .val (.int p1), .val (.int p2), .val (.int p3), .val (.int p4), .val (.int p5), .val (.int (p0 &&& (2147483647 : Int32))), .val (.int (p1 &&& (2147483647 : Int32))), .val (.int (p2 &&& (2147483647 : Int32))), .val (.int (p3 &&& (3 : Int32))), .val (.ref o1), .val (.int mm)] [] (fun v _ => v = some (.int 1)) := by
    intro ch mm hl hg
    refine Go.iload (pc' := 95) at_93 rfl rfl ?_
    refine Go.iconst (pc' := 96) (v := (3 : Int32)) at_95 rfl rfl ?_
    refine Go.icmp_lt (pcY := 115) (pcN := 99) at_96 (by decide) (by decide) rfl (fun hc96 => ?_) (fun hc96 => ?_)
    ·
      exact k115 _ _ (hl hc96)
    ·
      refine Go.aload (pc' := 101) at_99 rfl rfl rfl ?_
      refine Go.iload (pc' := 103) at_101 rfl rfl ?_
      refine Go.callV (pc' := 106) (W1 := 0) (cells' := 1) (slots' := 4) (argsL := [(.int (p2 &&& (2147483647 : Int32)))]) (rest := []) (y' := (⟨"com/example/abox_query_engine/aboxqueryengine/reasoning/QueryAccount", "record", "(I)V"⟩ : MethodName)) (a := o1) (i := 0) at_103 (hw _ (List.mem_of_getElem? (i := 24) rfl)) (hw _ (List.mem_of_getElem? (i := 25) rfl)) (hw _ (List.mem_of_getElem? (i := 27) rfl)) (hw _ (List.mem_of_getElem? (i := 26) rfl)) (hw _ (List.mem_of_getElem? (i := 3) rfl)) (hw _ (List.mem_of_getElem? (i := 28) rfl)) (by decide) rfl (rm5 l Z n0 w0 hw o1 (p2 &&& (2147483647 : Int32)) p4 p5 ch mm) (by decide) (by decide) rfl (lenOf pd__28I_29V rfl) rfl (Nat.le_of_eq rfl) (by decide) (by decide) rfl rfl rfl (fun v W' hF => ?_)
      obtain ⟨rfl, rfl⟩ := hF
      refine Go.nov ?_
      refine Go.iload (pc' := 108) at_106 rfl rfl ?_
      refine Go.iload (pc' := 110) at_108 rfl rfl ?_
      refine Go.callS (pc' := 113) (W1 := 0) (cells' := 1) (slots' := 4) (argsL := [(.int (p2 &&& (2147483647 : Int32))), (.int mm)]) (rest := []) (y' := (⟨"com/example/abox_query_engine/aboxqueryengine/reasoning/QueryAccountRecordPinLaw", "bigger", "(II)I"⟩ : MethodName)) at_110 (hw _ (List.mem_of_getElem? (i := 37) rfl)) (hw _ (List.mem_of_getElem? (i := 38) rfl)) (hw _ (List.mem_of_getElem? (i := 39) rfl)) (hw _ (List.mem_of_getElem? (i := 40) rfl)) (by decide) (rm7 l Z n0 w0 hw (p2 &&& (2147483647 : Int32)) mm [(o1, .inl ("com/example/abox_query_engine/aboxqueryengine/reasoning/QueryAccount", [("lower", "I", (.int p4)), ("upper", "I", (.int p5)), ("checks", "I", (.int (ch + (1 : Int32)))), ("largestFragment", "I", (.int (big mm (p2 &&& (2147483647 : Int32)))))]))]) (by decide) (by decide) rfl (lenOf pd__28II_29I rfl) rfl (Nat.le_of_eq rfl) (by decide) (by decide) rfl rfl rfl (fun v W' hF => ?_)
      obtain ⟨rfl, rfl⟩ := hF
      refine Go.val ?_
      refine Go.istore (pc' := 115) (ls' := #[.val (.int p0), .val (.int p1), .val (.int p2), .val (.int p3), .val (.int p4), .val (.int p5), .val (.int (p0 &&& (2147483647 : Int32))), .val (.int (p1 &&& (2147483647 : Int32))), .val (.int (p2 &&& (2147483647 : Int32))), .val (.int (p3 &&& (3 : Int32))), .val (.ref o1), .val (.int (big mm (p2 &&& (2147483647 : Int32))))]) at_113 rfl rfl ?_
      exact k115 _ _ (by rw [hg (fun q => hc96 (own_up q (by decide)))]; exact own_ge3 hk hc96)
  have k71 : ∀ (ch : Int32) (mm : Int32), ((p3 &&& (3 : Int32)) < 2 → ch = (p3 &&& (3 : Int32))) → (¬ (p3 &&& (3 : Int32)) < 1 → ch = 0 + 1) → Go l Z n0 room_1 code 12 x (some .boolean) D [(o1, .inl ("com/example/abox_query_engine/aboxqueryengine/reasoning/QueryAccount", [("lower", "I", (.int p4)), ("upper", "I", (.int p5)), ("checks", "I", (.int ch)), ("largestFragment", "I", (.int mm))]))] 1 4 71 #[.val (.int p0), .val (.int p1), .val (.int p2), .val (.int p3), .val (.int p4), .val (.int p5), .val (.int (p0 &&& (2147483647 : Int32))), .val (.int (p1 &&& (2147483647 : Int32))), .val (.int (p2 &&& (2147483647 : Int32))), .val (.int (p3 &&& (3 : Int32))), .val (.ref o1), .val (.int mm)] [] (fun v _ => v = some (.int 1)) := by
    intro ch mm hl hg
    refine Go.iload (pc' := 73) at_71 rfl rfl ?_
    refine Go.iconst (pc' := 74) (v := (2 : Int32)) at_73 rfl rfl ?_
    refine Go.icmp_lt (pcY := 93) (pcN := 77) at_74 (by decide) (by decide) rfl (fun hc74 => ?_) (fun hc74 => ?_)
    ·
      exact k93 _ _ (fun _ => hl hc74) (fun q => absurd hc74 q)
    ·
      refine Go.aload (pc' := 79) at_77 rfl rfl rfl ?_
      refine Go.iload (pc' := 81) at_79 rfl rfl ?_
      refine Go.callV (pc' := 84) (W1 := 0) (cells' := 1) (slots' := 4) (argsL := [(.int (p1 &&& (2147483647 : Int32)))]) (rest := []) (y' := (⟨"com/example/abox_query_engine/aboxqueryengine/reasoning/QueryAccount", "record", "(I)V"⟩ : MethodName)) (a := o1) (i := 0) at_81 (hw _ (List.mem_of_getElem? (i := 24) rfl)) (hw _ (List.mem_of_getElem? (i := 25) rfl)) (hw _ (List.mem_of_getElem? (i := 27) rfl)) (hw _ (List.mem_of_getElem? (i := 26) rfl)) (hw _ (List.mem_of_getElem? (i := 3) rfl)) (hw _ (List.mem_of_getElem? (i := 28) rfl)) (by decide) rfl (rm5 l Z n0 w0 hw o1 (p1 &&& (2147483647 : Int32)) p4 p5 ch mm) (by decide) (by decide) rfl (lenOf pd__28I_29V rfl) rfl (Nat.le_of_eq rfl) (by decide) (by decide) rfl rfl rfl (fun v W' hF => ?_)
      obtain ⟨rfl, rfl⟩ := hF
      refine Go.nov ?_
      refine Go.iload (pc' := 86) at_84 rfl rfl ?_
      refine Go.iload (pc' := 88) at_86 rfl rfl ?_
      refine Go.callS (pc' := 91) (W1 := 0) (cells' := 1) (slots' := 4) (argsL := [(.int (p1 &&& (2147483647 : Int32))), (.int mm)]) (rest := []) (y' := (⟨"com/example/abox_query_engine/aboxqueryengine/reasoning/QueryAccountRecordPinLaw", "bigger", "(II)I"⟩ : MethodName)) at_88 (hw _ (List.mem_of_getElem? (i := 37) rfl)) (hw _ (List.mem_of_getElem? (i := 38) rfl)) (hw _ (List.mem_of_getElem? (i := 39) rfl)) (hw _ (List.mem_of_getElem? (i := 40) rfl)) (by decide) (rm7 l Z n0 w0 hw (p1 &&& (2147483647 : Int32)) mm [(o1, .inl ("com/example/abox_query_engine/aboxqueryengine/reasoning/QueryAccount", [("lower", "I", (.int p4)), ("upper", "I", (.int p5)), ("checks", "I", (.int (ch + (1 : Int32)))), ("largestFragment", "I", (.int (big mm (p1 &&& (2147483647 : Int32)))))]))]) (by decide) (by decide) rfl (lenOf pd__28II_29I rfl) rfl (Nat.le_of_eq rfl) (by decide) (by decide) rfl rfl rfl (fun v W' hF => ?_)
      obtain ⟨rfl, rfl⟩ := hF
      refine Go.val ?_
      refine Go.istore (pc' := 93) (ls' := #[.val (.int p0), .val (.int p1), .val (.int p2), .val (.int p3), .val (.int p4), .val (.int p5), .val (.int (p0 &&& (2147483647 : Int32))), .val (.int (p1 &&& (2147483647 : Int32))), .val (.int (p2 &&& (2147483647 : Int32))), .val (.int (p3 &&& (3 : Int32))), .val (.ref o1), .val (.int (big mm (p1 &&& (2147483647 : Int32))))]) at_91 rfl rfl ?_
      exact k93 _ _ (fun q => by rw [hg (fun q => hc74 (own_up q (by decide)))]; exact own_lt3 hk hc74 q) (fun q => by rw [hg (fun q => hc74 (own_up q (by decide)))])
  refine Go.iload (pc' := 51) at_49 rfl rfl ?_
  refine Go.iconst (pc' := 52) (v := (1 : Int32)) at_51 rfl rfl ?_
  refine Go.icmp_lt (pcY := 71) (pcN := 55) at_52 (by decide) (by decide) rfl (fun hc52 => ?_) (fun hc52 => ?_)
  ·
    exact k71 _ _ (fun _ => own_lt1 hk hc52) (fun q => absurd hc52 q)
  ·
    refine Go.aload (pc' := 57) at_55 rfl rfl rfl ?_
    refine Go.iload (pc' := 59) at_57 rfl rfl ?_
    refine Go.callV (pc' := 62) (W1 := 0) (cells' := 1) (slots' := 4) (argsL := [(.int (p0 &&& (2147483647 : Int32)))]) (rest := []) (y' := (⟨"com/example/abox_query_engine/aboxqueryengine/reasoning/QueryAccount", "record", "(I)V"⟩ : MethodName)) (a := o1) (i := 0) at_59 (hw _ (List.mem_of_getElem? (i := 24) rfl)) (hw _ (List.mem_of_getElem? (i := 25) rfl)) (hw _ (List.mem_of_getElem? (i := 27) rfl)) (hw _ (List.mem_of_getElem? (i := 26) rfl)) (hw _ (List.mem_of_getElem? (i := 3) rfl)) (hw _ (List.mem_of_getElem? (i := 28) rfl)) (by decide) rfl (rm5 l Z n0 w0 hw o1 (p0 &&& (2147483647 : Int32)) p4 p5 0 0) (by decide) (by decide) rfl (lenOf pd__28I_29V rfl) rfl (Nat.le_of_eq rfl) (by decide) (by decide) rfl rfl rfl (fun v W' hF => ?_)
    obtain ⟨rfl, rfl⟩ := hF
    refine Go.nov ?_
    refine Go.iload (pc' := 64) at_62 rfl rfl ?_
    refine Go.iload (pc' := 66) at_64 rfl rfl ?_
    refine Go.callS (pc' := 69) (W1 := 0) (cells' := 1) (slots' := 4) (argsL := [(.int (p0 &&& (2147483647 : Int32))), (.int (0 : Int32))]) (rest := []) (y' := (⟨"com/example/abox_query_engine/aboxqueryengine/reasoning/QueryAccountRecordPinLaw", "bigger", "(II)I"⟩ : MethodName)) at_66 (hw _ (List.mem_of_getElem? (i := 37) rfl)) (hw _ (List.mem_of_getElem? (i := 38) rfl)) (hw _ (List.mem_of_getElem? (i := 39) rfl)) (hw _ (List.mem_of_getElem? (i := 40) rfl)) (by decide) (rm7 l Z n0 w0 hw (p0 &&& (2147483647 : Int32)) (0 : Int32) [(o1, .inl ("com/example/abox_query_engine/aboxqueryengine/reasoning/QueryAccount", [("lower", "I", (.int p4)), ("upper", "I", (.int p5)), ("checks", "I", (.int (0 + (1 : Int32)))), ("largestFragment", "I", (.int (big 0 (p0 &&& (2147483647 : Int32)))))]))]) (by decide) (by decide) rfl (lenOf pd__28II_29I rfl) rfl (Nat.le_of_eq rfl) (by decide) (by decide) rfl rfl rfl (fun v W' hF => ?_)
    obtain ⟨rfl, rfl⟩ := hF
    refine Go.val ?_
    refine Go.istore (pc' := 71) (ls' := #[.val (.int p0), .val (.int p1), .val (.int p2), .val (.int p3), .val (.int p4), .val (.int p5), .val (.int (p0 &&& (2147483647 : Int32))), .val (.int (p1 &&& (2147483647 : Int32))), .val (.int (p2 &&& (2147483647 : Int32))), .val (.int (p3 &&& (3 : Int32))), .val (.ref o1), .val (.int (big (0 : Int32) (p0 &&& (2147483647 : Int32))))]) at_69 rfl rfl ?_
    exact k71 _ _ (fun q => own_lt2 hk hc52 q) (fun q => rfl)
set_option maxRecDepth 65536 in
set_option maxHeartbeats 40000000 in
theorem comes_1 {Post : Tables → Env → Array Value → State → Outcome → State → Prop} (hpost : ∀ tb e args s v u, (limb_1_1.after args s (.returned v) u = true ∧ limb_1_2.after args s (.returned v) u = true ∧ True) → FrameEnd s (.returned v) u (Jvm.fieldLocs frame_1_writes args s ++ Jvm.arrayLocs frame_1_arrays args s ++ Jvm.staticLocs frame_1_statics s) 16 128 → Post tb e args s (.returned v) u) :
    ArmFor flags0 classFile x code maxLocals ret World_1 tables_1 room_1 Calls_1 rest_1 Pre_1 Post := by
  intro l hfl _ _ p e ha hc hk s m args below hf hA hF happ hP
  obtain ⟨hcalls, hrest, hpre⟩ := hP
  obtain ⟨-, -, -, hnamed, -, -, -, hat⟩ := (Spec.applies_iff hf).mp happ
  obtain ⟨hg, hn⟩ := and_e (Cond.before_iff.mp (show (Jvm.Cond.and given_1 narrow_1).before args s = true from hpre))
  obtain ⟨g0, k0⟩ := and_e hg
  obtain ⟨w0, w1, w2, w3, w4, w5, rfl⟩ : ∃ w0 w1 w2 w3 w4 w5 : Value, args = #[w0, w1, w2, w3, w4, w5] := by
    have hs : args.size = 6 := by simpa [Cond.value, given_1] using g0
    obtain ⟨L⟩ := args
    match L, hs with
    | [w0, w1, w2, w3, w4, w5], _ => exact ⟨w0, w1, w2, w3, w4, w5, rfl⟩
  have hw := fun d (hd : d ∈ tables_1) => atoms_spec (ws := Jvm.Cond.code x code maxLocals ret :: tables_1) hat d (List.mem_cons_of_mem _ hd)
  obtain ⟨g1, k1⟩ := and_e k0
  obtain ⟨i0, e0⟩ := is_v g1
  obtain rfl : w0 = (.int i0) := Option.some.inj e0
  obtain ⟨g2, k2⟩ := and_e k1
  obtain ⟨i1, e1⟩ := is_v g2
  obtain rfl : w1 = (.int i1) := Option.some.inj e1
  obtain ⟨g3, k3⟩ := and_e k2
  obtain ⟨i2, e2⟩ := is_v g3
  obtain rfl : w2 = (.int i2) := Option.some.inj e2
  obtain ⟨g4, k4⟩ := and_e k3
  obtain ⟨i3, e3⟩ := is_v g4
  obtain rfl : w3 = (.int i3) := Option.some.inj e3
  obtain ⟨g5, k5⟩ := and_e k4
  obtain ⟨i4, e4⟩ := is_v g5
  obtain rfl : w4 = (.int i4) := Option.some.inj e4
  obtain ⟨i5, e5⟩ := is_v k5
  obtain rfl : w5 = (.int i5) := Option.some.inj e5
  have hWd : World s s.heap.size s.heap [] := ⟨Nat.le_refl _, List.nodup_nil, fun _ q => nomatch q⟩
  obtain ⟨n, o, h1, h2, h3, v, L, rfl, ⟨N, W', -, rfl⟩, hq⟩ := rm0 l s s.heap.size _ hw i0 i1 i2 i3 i4 i5 s.heap hWd p e ha hc hk s m _ below hf ((Spec.applies_iff_loose hf).mp happ).1 ⟨rfl, State.Warmed39.refl s, rfl⟩ trivial
  refine ⟨n, _, h1, h2, h3, hpost _ _ _ _ _ _ ⟨Cond.after_iff.mpr rfl, Cond.after_iff.mpr (eq_i res_at (Term.int_eval (1)) rfl), trivial⟩ ⟨hq.1, hq.2.1, (hq.2.2.sift fun y hy => Or.inr (N y hy)).mono (by decide) (by decide)⟩⟩
theorem main_1_1 : Claimed_1_1 := comes_1 fun _ _ _ _ _ _ h hF => ⟨h.1, hF⟩
theorem main_1_2 : Claimed_1_2 := comes_1 fun _ _ _ _ _ _ h hF => ⟨h.2.1, hF⟩
end Jvm.Pilot.@@N@@
namespace Jvm.Pilot.@@N@@
open Jvm Jvm.ClassFile Sem Op Lib Jvm.Free Jvm.Stand Jvm.Pilot.@@N@@.Jvm.D
/-! MADE BY PROGRAM (witnessworld.py) out of the Statement's table words and the real class files: 10 classes; the members and pool entries that the words name. The judged class is class 1, her method 2. -/
namespace start1
open Jvm.ClassFile
def u (s : String) : CpInfo := .utf8 (stringToUtf16 s)
/-- a pool by its gaps: so many unusable entries, then the entry; so many at the end -/
def gap : Nat → List CpInfo → List CpInfo
  | 0, r => r
  | n + 1, r => .unusable :: gap n r
def poolList (es : List (Nat × CpInfo)) (last : Nat) : List CpInfo := es.foldr (fun e r => gap e.1 (e.2 :: r)) (gap last [])
def pool (es : List (Nat × CpInfo)) (last : Nat) : Array CpInfo := ⟨poolList es last⟩
def fileOf (pool : Array CpInfo) (this : Nat) (attrs : Array Attribute := #[]) (ms : Array MethodInfo := #[]) (fl : Nat := 33) (sup : Nat := 0) (ifs : Array Nat := #[]) (fds : Array FieldInfo := #[]) : ClassFile where
  minorVersion := 0
  majorVersion := 65
  constantPool := pool
  accessFlags := fl
  thisClass := this
  superClass := sup
  interfaces := ifs
  fields := fds
  methods := ms
  attributes := attrs
def plain (name : String) (sup : Option ClassId) : Class where
  name := name
  kind := .ordinary
  loader := none
  accessFlags := 33
  super := sup
  interfaces := #[]
  cf := none
  fields := #[]
  methods := #[]
  instanceTypes := #[]
  staticTypes := #[]
  resolved := #[]
  callSites := []
  init := .initialized
  statics := none
  mirror := none

def pool0 : Array CpInfo := pool [(5, u "<init>"), (0, u "()V"), (1, .class_ 10), (1, u "java/lang/Object")] 113

def k0c0 : Code := { maxStack := 0, maxLocals := 1, code := object_method_1_code, exceptionTable := #[], attributes := #[] }
def k0m0 : Method := { name := "<init>", desc := "()V", sig := { parameters := [], returnType := none }, accessFlags := 1, code := some k0c0 }
/-- java/lang/Object -/
def k0 : Class := { plain "java/lang/Object" none with
  accessFlags := 33
  interfaces := #[]
  cf := some (fileOf pool0 8 #[] #[{ accessFlags := 1, nameIndex := 5, descriptorIndex := 6, attributes := #[] }] 33 0 #[] #[])
  fields := #[]
  methods := #[k0m0]
  instanceTypes := #[]
  staticTypes := #[]
  resolved := Array.replicate 124 none
  statics := none }

def pool1 : Array CpInfo := pool [(2, .class_ 4), (0, .nameAndType 5 6), (0, u "java/lang/Object"), (0, u "<init>"), (0, u "()V"), (0, .integer 2147483647), (0, .class_ 9), (0, u "com/example/abox_query_engine/aboxqueryengine/reasoning/QueryAccount"), (0, .methodref 8 3), (0, .methodref 8 12), (0, .nameAndType 13 14), (0, u "recordLower"), (0, u "(I)V"), (0, .methodref 8 16), (0, .nameAndType 17 14), (0, u "recordUpper"), (0, .methodref 8 19), (0, .nameAndType 20 14), (0, u "record"), (0, .methodref 22 23), (0, .class_ 24), (0, .nameAndType 25 26), (0, u "com/example/abox_query_engine/aboxqueryengine/reasoning/QueryAccountRecordPinLaw"), (0, u "bigger"), (0, u "(II)I"), (0, .methodref 8 28), (0, .nameAndType 29 30), (0, u "getChecks"), (0, u "()I"), (0, .methodref 8 32), (0, .nameAndType 33 30), (0, u "getLargestFragment"), (0, .methodref 8 35), (0, .nameAndType 36 30), (0, u "getLower"), (0, .methodref 8 38), (0, .nameAndType 39 30), (0, u "getUpper"), (3, u "law"), (0, u "(IIIIII)Z")] 2

def k1m0 : Method := { name := "<init>", desc := "()V", sig := { parameters := [], returnType := none }, accessFlags := 1, code := none }
def k1c1 : Code := { maxStack := 2, maxLocals := 2, code := method_2_code, exceptionTable := #[], attributes := #[] }
def k1m1 : Method := { name := "bigger", desc := "(II)I", sig := { parameters := [.int, .int], returnType := some .int }, accessFlags := 10, code := some k1c1 }
def k1c2 : Code := { maxStack := 2, maxLocals := 12, code := code, exceptionTable := #[], attributes := #[] }
def k1m2 : Method := { name := "law", desc := "(IIIIII)Z", sig := { parameters := [.int, .int, .int, .int, .int, .int], returnType := some .boolean }, accessFlags := 9, code := some k1c2 }
/-- com/example/abox_query_engine/aboxqueryengine/reasoning/QueryAccountRecordPinLaw -/
def k1 : Class := { plain "com/example/abox_query_engine/aboxqueryengine/reasoning/QueryAccountRecordPinLaw" (some 0) with
  accessFlags := 49
  interfaces := #[]
  cf := some (fileOf pool1 22 #[] #[{ accessFlags := 1, nameIndex := 5, descriptorIndex := 6, attributes := #[] }, { accessFlags := 10, nameIndex := 25, descriptorIndex := 26, attributes := #[] }, { accessFlags := 9, nameIndex := 43, descriptorIndex := 44, attributes := #[] }] 49 2 #[] #[])
  fields := #[]
  methods := #[k1m0, k1m1, k1m2]
  instanceTypes := #[]
  staticTypes := #[]
  resolved := Array.replicate 47 none
  statics := none }

def pool2 : Array CpInfo := pool [(1, .methodref 2 3), (0, .class_ 4), (0, .nameAndType 5 6), (0, u "java/lang/Object"), (0, u "<init>"), (0, u "()V"), (0, .fieldref 8 9), (0, .class_ 10), (0, .nameAndType 11 12), (0, u "com/example/abox_query_engine/aboxqueryengine/reasoning/QueryAccount"), (0, u "lower"), (0, u "I"), (0, .fieldref 8 14), (0, .nameAndType 15 12), (0, u "upper"), (0, .fieldref 8 17), (0, .nameAndType 18 12), (0, u "checks"), (0, .fieldref 8 20), (0, .nameAndType 21 12), (0, u "largestFragment"), (0, .methodref 23 24), (0, .class_ 25), (0, .nameAndType 26 27), (0, u "java/lang/Math"), (0, u "max"), (0, u "(II)I"), (2, u "recordLower"), (0, u "(I)V"), (0, u "recordUpper"), (0, u "record"), (0, u "getLower"), (0, u "()I"), (0, u "getUpper"), (0, u "getChecks"), (0, u "getLargestFragment")] 2

def k2c0 : Code := { maxStack := 1, maxLocals := 1, code := prog_7_method_1_code, exceptionTable := #[], attributes := #[] }
def k2m0 : Method := { name := "<init>", desc := "()V", sig := { parameters := [], returnType := none }, accessFlags := 1, code := some k2c0 }
def k2c1 : Code := { maxStack := 2, maxLocals := 2, code := prog_7_method_2_code, exceptionTable := #[], attributes := #[] }
def k2m1 : Method := { name := "recordLower", desc := "(I)V", sig := { parameters := [.int], returnType := none }, accessFlags := 1, code := some k2c1 }
def k2c2 : Code := { maxStack := 2, maxLocals := 2, code := prog_7_method_3_code, exceptionTable := #[], attributes := #[] }
def k2m2 : Method := { name := "recordUpper", desc := "(I)V", sig := { parameters := [.int], returnType := none }, accessFlags := 1, code := some k2c2 }
def k2c3 : Code := { maxStack := 3, maxLocals := 2, code := prog_7_method_4_code, exceptionTable := #[], attributes := #[] }
def k2m3 : Method := { name := "record", desc := "(I)V", sig := { parameters := [.int], returnType := none }, accessFlags := 0, code := some k2c3 }
def k2c4 : Code := { maxStack := 1, maxLocals := 1, code := prog_7_method_5_code, exceptionTable := #[], attributes := #[] }
def k2m4 : Method := { name := "getLower", desc := "()I", sig := { parameters := [], returnType := some .int }, accessFlags := 1, code := some k2c4 }
def k2c5 : Code := { maxStack := 1, maxLocals := 1, code := prog_7_method_6_code, exceptionTable := #[], attributes := #[] }
def k2m5 : Method := { name := "getUpper", desc := "()I", sig := { parameters := [], returnType := some .int }, accessFlags := 1, code := some k2c5 }
def k2c6 : Code := { maxStack := 1, maxLocals := 1, code := prog_7_method_7_code, exceptionTable := #[], attributes := #[] }
def k2m6 : Method := { name := "getChecks", desc := "()I", sig := { parameters := [], returnType := some .int }, accessFlags := 1, code := some k2c6 }
def k2c7 : Code := { maxStack := 1, maxLocals := 1, code := prog_7_method_8_code, exceptionTable := #[], attributes := #[] }
def k2m7 : Method := { name := "getLargestFragment", desc := "()I", sig := { parameters := [], returnType := some .int }, accessFlags := 1, code := some k2c7 }
/-- com/example/abox_query_engine/aboxqueryengine/reasoning/QueryAccount -/
def k2 : Class := { plain "com/example/abox_query_engine/aboxqueryengine/reasoning/QueryAccount" (some 0) with
  accessFlags := 33
  interfaces := #[]
  cf := some (fileOf pool2 8 #[] #[{ accessFlags := 1, nameIndex := 5, descriptorIndex := 6, attributes := #[] }, { accessFlags := 1, nameIndex := 30, descriptorIndex := 31, attributes := #[] }, { accessFlags := 1, nameIndex := 32, descriptorIndex := 31, attributes := #[] }, { accessFlags := 0, nameIndex := 33, descriptorIndex := 31, attributes := #[] }, { accessFlags := 1, nameIndex := 34, descriptorIndex := 35, attributes := #[] }, { accessFlags := 1, nameIndex := 36, descriptorIndex := 35, attributes := #[] }, { accessFlags := 1, nameIndex := 37, descriptorIndex := 35, attributes := #[] }, { accessFlags := 1, nameIndex := 38, descriptorIndex := 35, attributes := #[] }] 33 2 #[] #[{ accessFlags := 2, nameIndex := 11, descriptorIndex := 12, attributes := #[] }, { accessFlags := 2, nameIndex := 15, descriptorIndex := 12, attributes := #[] }, { accessFlags := 2, nameIndex := 18, descriptorIndex := 12, attributes := #[] }, { accessFlags := 2, nameIndex := 21, descriptorIndex := 12, attributes := #[] }])
  fields := #[{ name := "lower", type := .int, accessFlags := 2, slot := 0, constantValue := 0 }, { name := "upper", type := .int, accessFlags := 2, slot := 1, constantValue := 0 }, { name := "checks", type := .int, accessFlags := 2, slot := 2, constantValue := 0 }, { name := "largestFragment", type := .int, accessFlags := 2, slot := 3, constantValue := 0 }]
  methods := #[k2m0, k2m1, k2m2, k2m3, k2m4, k2m5, k2m6, k2m7]
  instanceTypes := #[.int, .int, .int, .int]
  staticTypes := #[]
  resolved := Array.replicate 41 none
  statics := none }

def pool3 : Array CpInfo := pool [(1, .class_ 2), (0, u "java/lang/Math"), (1, .class_ 6), (1, u "java/lang/Object"), (0, u "<init>"), (0, u "()V"), (89, .class_ 100), (1, u "java/lang/Math$RandomNumberGeneratorHolder"), (71, u "negativeZeroFloatBits"), (0, u "J"), (2, u "negativeZeroDoubleBits"), (21, u "max"), (46, u "$assertionsDisabled"), (0, u "Z"), (88, u "(II)I"), (2, u "twoToTheDoubleScaleDown"), (0, u "D"), (4, u "twoToTheDoubleScaleUp"), (9, u "E"), (3, u "PI"), (2, u "TAU"), (2, u "DEGREES_TO_RADIANS"), (0, u "RADIANS_TO_DEGREES")] 94

def k3m0 : Method := { name := "<init>", desc := "()V", sig := { parameters := [], returnType := none }, accessFlags := 2, code := none }
def k3c1 : Code := { maxStack := 2, maxLocals := 2, code := jdk_29_method_65_code, exceptionTable := #[], attributes := #[] }
def k3m1 : Method := { name := "max", desc := "(II)I", sig := { parameters := [.int, .int], returnType := some .int }, accessFlags := 9, code := some k3c1 }
/-- java/lang/Math -/
def k3 : Class := { plain "java/lang/Math" (some 0) with
  accessFlags := 49
  interfaces := #[]
  cf := some (fileOf pool3 1 #[.nestMembers #[98]] #[{ accessFlags := 2, nameIndex := 7, descriptorIndex := 8, attributes := #[] }, { accessFlags := 9, nameIndex := 198, descriptorIndex := 335, attributes := #[] }] 49 4 #[] #[{ accessFlags := 25, nameIndex := 354, descriptorIndex := 339, attributes := #[] }, { accessFlags := 25, nameIndex := 358, descriptorIndex := 339, attributes := #[] }, { accessFlags := 25, nameIndex := 361, descriptorIndex := 339, attributes := #[] }, { accessFlags := 26, nameIndex := 364, descriptorIndex := 339, attributes := #[] }, { accessFlags := 26, nameIndex := 365, descriptorIndex := 339, attributes := #[] }, { accessFlags := 26, nameIndex := 172, descriptorIndex := 173, attributes := #[] }, { accessFlags := 26, nameIndex := 176, descriptorIndex := 173, attributes := #[] }, { accessFlags := 8, nameIndex := 344, descriptorIndex := 339, attributes := #[] }, { accessFlags := 8, nameIndex := 338, descriptorIndex := 339, attributes := #[] }, { accessFlags := 4120, nameIndex := 245, descriptorIndex := 246, attributes := #[] }])
  fields := #[{ name := "E", type := .double, accessFlags := 25, slot := 0, constantValue := 0 }, { name := "PI", type := .double, accessFlags := 25, slot := 1, constantValue := 0 }, { name := "TAU", type := .double, accessFlags := 25, slot := 2, constantValue := 0 }, { name := "DEGREES_TO_RADIANS", type := .double, accessFlags := 26, slot := 3, constantValue := 0 }, { name := "RADIANS_TO_DEGREES", type := .double, accessFlags := 26, slot := 4, constantValue := 0 }, { name := "negativeZeroFloatBits", type := .long, accessFlags := 26, slot := 5, constantValue := 0 }, { name := "negativeZeroDoubleBits", type := .long, accessFlags := 26, slot := 6, constantValue := 0 }, { name := "twoToTheDoubleScaleUp", type := .double, accessFlags := 8, slot := 7, constantValue := 0 }, { name := "twoToTheDoubleScaleDown", type := .double, accessFlags := 8, slot := 8, constantValue := 0 }, { name := "$assertionsDisabled", type := .boolean, accessFlags := 4120, slot := 9, constantValue := 0 }]
  methods := #[k3m0, k3m1]
  instanceTypes := #[]
  staticTypes := #[.double, .double, .double, .double, .double, .long, .long, .double, .double, .boolean]
  resolved := Array.replicate 460 none
  statics := none }

def pool4 : Array CpInfo := pool [(1, u "java/lang/Cloneable"), (0, .class_ 1), (0, u "java/lang/Object"), (0, .class_ 3)] 3

/-- java/lang/Cloneable -/
def k4 : Class := { plain "java/lang/Cloneable" (some 0) with
  accessFlags := 1537
  interfaces := #[]
  cf := some (fileOf pool4 2 #[] #[] 1537 4 #[] #[])
  fields := #[]
  methods := #[]
  instanceTypes := #[]
  staticTypes := #[]
  resolved := Array.replicate 8 none
  statics := none }

def pool5 : Array CpInfo := pool [(1, u "java/io/Serializable"), (0, .class_ 1), (0, u "java/lang/Object"), (0, .class_ 3)] 3

/-- java/io/Serializable -/
def k5 : Class := { plain "java/io/Serializable" (some 0) with
  accessFlags := 1537
  interfaces := #[]
  cf := some (fileOf pool5 2 #[] #[] 1537 4 #[] #[])
  fields := #[]
  methods := #[]
  instanceTypes := #[]
  staticTypes := #[]
  resolved := Array.replicate 8 none
  statics := none }

/-- the primitive byte -/
def k6 : Class := { plain "byte" none with kind := .primitive 'B', accessFlags := 0x411 }
/-- [B -/
def k7 : Class := { plain "[B" (some 0) with kind := .array 6 .byte, interfaces := #[4, 5], accessFlags := 1041 }

/-- the primitive int -/
def k8 : Class := { plain "int" none with kind := .primitive 'I', accessFlags := 0x411 }
/-- [I -/
def k9 : Class := { plain "[I" (some 0) with kind := .array 8 .int, interfaces := #[4, 5], accessFlags := 1041 }

def heap : Heap := #[]
def classes : Array Class := #[k0, k1, k2, k3, k4, k5, k6, k7, k8, k9]
def interned : List (Array UInt16 × Addr) := []
def slotsUsed : Nat := 0
def theMethod : MethodId := ⟨1, 2⟩
def args0 : Array Value := #[.int 5, .int 7, .int 1, .int 2, .int 3, .int 4]
def aboutOver (below : List Frame) : State where
  vm := { classes := classes, interned := interned.toArray }
  heap := heap
  slotsUsed := slotsUsed
  threads := #[{ frames := .invoking theMethod args0 :: below }]
def below0 : List Frame := [.native { method := ⟨0, 0⟩, args := #[] }]
def about1 : State := aboutOver below0
def p0 : Program := .bare "" "" ""
def e0 : Env := launch0.env 0 0 0
theorem w_frames : about1.frames = Frame.invoking theMethod args0 :: below0 := rfl
set_option maxRecDepth 65536 in
theorem w_args : argsFit about1.vm theMethod args0 = true := by decide +kernel
set_option maxRecDepth 65536 in
theorem w_heap : heapFits about1 = true := by decide +kernel
set_option maxRecDepth 65536 in
theorem w_runnable : about1.curStatus? = some .runnable := by decide +kernel
set_option maxRecDepth 65536 in
theorem w_alone : about1.alone = true := by decide +kernel
set_option maxRecDepth 65536 in
theorem w_named : about1.methodNamed? x = some theMethod := by decide +kernel
set_option maxRecDepth 65536 in
theorem w_hears : about1.hears theMethod below0 = true := by decide +kernel
set_option maxRecDepth 65536 in
theorem w_ripe : about1.ripe theMethod args0 below0 = true := by decide +kernel
theorem w_running : about1.status = .running := rfl
set_option maxRecDepth 65536 in
theorem w_room : about1.hasRoom e0.platform room_1 = true :=
  launch0.hasRoom_least _ room_1 (by decide +kernel) (by decide +kernel) (by decide +kernel) (by decide +kernel) (by decide +kernel) (by decide +kernel)
theorem allAtoms_all (ts : List Jvm.Cond) (a : Array Jvm.Value) (st : Jvm.State) : (allAtoms ts).before a st = ts.all (fun c => c.before a st) := by
  induction ts with
  | nil => rfl
  | cons c t ih =>
    show (Jvm.Cond.and c (allAtoms t)).before a st = _
    rw [Jvm.Cond.before_and, ih, List.all_cons]
def words1 : List Jvm.Cond := Jvm.Cond.code x code maxLocals ret :: tables_1
/-- a 'code' word, met by the world's own term for the bytes: nothing is compared byte by byte -/
theorem code_word {y : MethodName} {bytes : ByteArray} {mx : Nat} {rt : Option FieldType} {a : Array Value} {s : State} {m : MethodId} {meth : Method} {c : Code} (h1 : s.methodNamed? y = some m) (h2 : s.vm.method? m = some meth) (h3 : meth.code = some c) (h4 : c.code = bytes)
    (h5 : (c.maxLocals == mx && c.exceptionTable.isEmpty && decide (c.maxStack ≤ mostOperands) && decide (meth.sig.returnType = rt) && !meth.locks && decide (parseMethodDescriptor y.desc = some meth.sig)) = true) : (Jvm.Cond.code y bytes mx rt).before a s = true := by
  simp only [Bool.and_eq_true, beq_iff_eq, Bool.not_eq_true', decide_eq_true_eq] at h5
  obtain ⟨⟨⟨⟨⟨g1, g2⟩, g3⟩, g4⟩, g5⟩, g6⟩ := h5
  simp [Cond.before, Cond.holds, Cond.value, h1, h2, h3, h4, g1, g2, g3, g4, g5, g6]
def isCode : Jvm.Cond → Bool
  | .code _ _ _ _ => true
  | _ => false
theorem all_split {L : List Jvm.Cond} {P : Jvm.Cond → Bool} (h1 : L.all (fun c => isCode c || P c) = true) (h2 : ∀ c ∈ L.filter isCode, P c = true) : L.all P = true := by
  refine List.all_eq_true.mpr fun c hc => ?_
  have h := List.all_eq_true.mp h1 c hc
  rcases Bool.eq_false_or_eq_true (isCode c) with hi | hi
  · exact h2 c (List.mem_filter.mpr ⟨hc, hi⟩)
  · simpa [hi] using h
set_option maxRecDepth 65536 in
theorem w_c0 : (Jvm.Cond.code x code maxLocals ret).before args0 about1 = true := code_word (m := ⟨1, 2⟩) (meth := k1m2) (c := k1c2) (by decide +kernel) rfl rfl rfl (by decide +kernel)
set_option maxRecDepth 65536 in
theorem w_c1 : (Jvm.Cond.code ({ cls := "com/example/abox_query_engine/aboxqueryengine/reasoning/QueryAccount", name := "<init>", desc := "()V" } : Jvm.MethodName) prog_7_method_1_code (1 : Nat) (Option.none : Option Jvm.ClassFile.FieldType)).before args0 about1 = true := code_word (m := ⟨2, 0⟩) (meth := k2m0) (c := k2c0) (by decide +kernel) rfl rfl rfl (by decide +kernel)
set_option maxRecDepth 65536 in
theorem w_c2 : (Jvm.Cond.code ({ cls := "java/lang/Object", name := "<init>", desc := "()V" } : Jvm.MethodName) object_method_1_code (1 : Nat) (Option.none : Option Jvm.ClassFile.FieldType)).before args0 about1 = true := code_word (m := ⟨0, 0⟩) (meth := k0m0) (c := k0c0) (by decide +kernel) rfl rfl rfl (by decide +kernel)
set_option maxRecDepth 65536 in
theorem w_c3 : (Jvm.Cond.code ({ cls := "com/example/abox_query_engine/aboxqueryengine/reasoning/QueryAccount", name := "recordLower", desc := "(I)V" } : Jvm.MethodName) prog_7_method_2_code (2 : Nat) (Option.none : Option Jvm.ClassFile.FieldType)).before args0 about1 = true := code_word (m := ⟨2, 1⟩) (meth := k2m1) (c := k2c1) (by decide +kernel) rfl rfl rfl (by decide +kernel)
set_option maxRecDepth 65536 in
theorem w_c4 : (Jvm.Cond.code ({ cls := "com/example/abox_query_engine/aboxqueryengine/reasoning/QueryAccount", name := "recordUpper", desc := "(I)V" } : Jvm.MethodName) prog_7_method_3_code (2 : Nat) (Option.none : Option Jvm.ClassFile.FieldType)).before args0 about1 = true := code_word (m := ⟨2, 2⟩) (meth := k2m2) (c := k2c2) (by decide +kernel) rfl rfl rfl (by decide +kernel)
set_option maxRecDepth 65536 in
theorem w_c5 : (Jvm.Cond.code ({ cls := "com/example/abox_query_engine/aboxqueryengine/reasoning/QueryAccount", name := "record", desc := "(I)V" } : Jvm.MethodName) prog_7_method_4_code (2 : Nat) (Option.none : Option Jvm.ClassFile.FieldType)).before args0 about1 = true := code_word (m := ⟨2, 3⟩) (meth := k2m3) (c := k2c3) (by decide +kernel) rfl rfl rfl (by decide +kernel)
set_option maxRecDepth 65536 in
theorem w_c6 : (Jvm.Cond.code ({ cls := "java/lang/Math", name := "max", desc := "(II)I" } : Jvm.MethodName) jdk_29_method_65_code (2 : Nat) (Option.some Jvm.ClassFile.FieldType.int)).before args0 about1 = true := code_word (m := ⟨3, 1⟩) (meth := k3m1) (c := k3c1) (by decide +kernel) rfl rfl rfl (by decide +kernel)
set_option maxRecDepth 65536 in
theorem w_c7 : (Jvm.Cond.code ({ cls := "com/example/abox_query_engine/aboxqueryengine/reasoning/QueryAccountRecordPinLaw", name := "bigger", desc := "(II)I" } : Jvm.MethodName) method_2_code (2 : Nat) (Option.some Jvm.ClassFile.FieldType.int)).before args0 about1 = true := code_word (m := ⟨1, 1⟩) (meth := k1m1) (c := k1c1) (by decide +kernel) rfl rfl rfl (by decide +kernel)
set_option maxRecDepth 65536 in
theorem w_c8 : (Jvm.Cond.code ({ cls := "com/example/abox_query_engine/aboxqueryengine/reasoning/QueryAccount", name := "getChecks", desc := "()I" } : Jvm.MethodName) prog_7_method_7_code (1 : Nat) (Option.some Jvm.ClassFile.FieldType.int)).before args0 about1 = true := code_word (m := ⟨2, 6⟩) (meth := k2m6) (c := k2c6) (by decide +kernel) rfl rfl rfl (by decide +kernel)
set_option maxRecDepth 65536 in
theorem w_c9 : (Jvm.Cond.code ({ cls := "com/example/abox_query_engine/aboxqueryengine/reasoning/QueryAccount", name := "getLargestFragment", desc := "()I" } : Jvm.MethodName) prog_7_method_8_code (1 : Nat) (Option.some Jvm.ClassFile.FieldType.int)).before args0 about1 = true := code_word (m := ⟨2, 7⟩) (meth := k2m7) (c := k2c7) (by decide +kernel) rfl rfl rfl (by decide +kernel)
set_option maxRecDepth 65536 in
theorem w_c10 : (Jvm.Cond.code ({ cls := "com/example/abox_query_engine/aboxqueryengine/reasoning/QueryAccount", name := "getLower", desc := "()I" } : Jvm.MethodName) prog_7_method_5_code (1 : Nat) (Option.some Jvm.ClassFile.FieldType.int)).before args0 about1 = true := code_word (m := ⟨2, 4⟩) (meth := k2m4) (c := k2c4) (by decide +kernel) rfl rfl rfl (by decide +kernel)
set_option maxRecDepth 65536 in
theorem w_c11 : (Jvm.Cond.code ({ cls := "com/example/abox_query_engine/aboxqueryengine/reasoning/QueryAccount", name := "getUpper", desc := "()I" } : Jvm.MethodName) prog_7_method_6_code (1 : Nat) (Option.some Jvm.ClassFile.FieldType.int)).before args0 about1 = true := code_word (m := ⟨2, 5⟩) (meth := k2m5) (c := k2c5) (by decide +kernel) rfl rfl rfl (by decide +kernel)
def codes1 : List Jvm.Cond := [Jvm.Cond.code x code maxLocals ret, Jvm.Cond.code ({ cls := "com/example/abox_query_engine/aboxqueryengine/reasoning/QueryAccount", name := "<init>", desc := "()V" } : Jvm.MethodName) prog_7_method_1_code (1 : Nat) (Option.none : Option Jvm.ClassFile.FieldType), Jvm.Cond.code ({ cls := "java/lang/Object", name := "<init>", desc := "()V" } : Jvm.MethodName) object_method_1_code (1 : Nat) (Option.none : Option Jvm.ClassFile.FieldType), Jvm.Cond.code ({ cls := "com/example/abox_query_engine/aboxqueryengine/reasoning/QueryAccount", name := "recordLower", desc := "(I)V" } : Jvm.MethodName) prog_7_method_2_code (2 : Nat) (Option.none : Option Jvm.ClassFile.FieldType), Jvm.Cond.code ({ cls := "com/example/abox_query_engine/aboxqueryengine/reasoning/QueryAccount", name := "recordUpper", desc := "(I)V" } : Jvm.MethodName) prog_7_method_3_code (2 : Nat) (Option.none : Option Jvm.ClassFile.FieldType), Jvm.Cond.code ({ cls := "com/example/abox_query_engine/aboxqueryengine/reasoning/QueryAccount", name := "record", desc := "(I)V" } : Jvm.MethodName) prog_7_method_4_code (2 : Nat) (Option.none : Option Jvm.ClassFile.FieldType), Jvm.Cond.code ({ cls := "java/lang/Math", name := "max", desc := "(II)I" } : Jvm.MethodName) jdk_29_method_65_code (2 : Nat) (Option.some Jvm.ClassFile.FieldType.int), Jvm.Cond.code ({ cls := "com/example/abox_query_engine/aboxqueryengine/reasoning/QueryAccountRecordPinLaw", name := "bigger", desc := "(II)I" } : Jvm.MethodName) method_2_code (2 : Nat) (Option.some Jvm.ClassFile.FieldType.int), Jvm.Cond.code ({ cls := "com/example/abox_query_engine/aboxqueryengine/reasoning/QueryAccount", name := "getChecks", desc := "()I" } : Jvm.MethodName) prog_7_method_7_code (1 : Nat) (Option.some Jvm.ClassFile.FieldType.int), Jvm.Cond.code ({ cls := "com/example/abox_query_engine/aboxqueryengine/reasoning/QueryAccount", name := "getLargestFragment", desc := "()I" } : Jvm.MethodName) prog_7_method_8_code (1 : Nat) (Option.some Jvm.ClassFile.FieldType.int), Jvm.Cond.code ({ cls := "com/example/abox_query_engine/aboxqueryengine/reasoning/QueryAccount", name := "getLower", desc := "()I" } : Jvm.MethodName) prog_7_method_5_code (1 : Nat) (Option.some Jvm.ClassFile.FieldType.int), Jvm.Cond.code ({ cls := "com/example/abox_query_engine/aboxqueryengine/reasoning/QueryAccount", name := "getUpper", desc := "()I" } : Jvm.MethodName) prog_7_method_6_code (1 : Nat) (Option.some Jvm.ClassFile.FieldType.int)]
set_option maxRecDepth 65536 in
theorem codes_eq : words1.filter isCode = codes1 := rfl
theorem w_codes : ∀ c ∈ words1.filter isCode, c.before args0 about1 = true := by
  rw [codes_eq]
  intro c hc
  simp only [codes1, List.mem_cons, List.not_mem_nil, or_false] at hc
  rcases hc with rfl | rfl | rfl | rfl | rfl | rfl | rfl | rfl | rfl | rfl | rfl | rfl
  · exact w_c0
  · exact w_c1
  · exact w_c2
  · exact w_c3
  · exact w_c4
  · exact w_c5
  · exact w_c6
  · exact w_c7
  · exact w_c8
  · exact w_c9
  · exact w_c10
  · exact w_c11
set_option maxRecDepth 65536 in
theorem w_t1 : (words1.take 24).all (fun c => isCode c || c.before args0 about1) = true := by decide +kernel
set_option maxRecDepth 65536 in
theorem w_t2 : ((words1.drop 24).take 24).all (fun c => isCode c || c.before args0 about1) = true := by decide +kernel
set_option maxRecDepth 65536 in
theorem w_t3 : ((words1.drop 24).drop 24).all (fun c => isCode c || c.before args0 about1) = true := by decide +kernel
theorem w_tables : (allAtoms (Jvm.Cond.code x code maxLocals ret :: tables_1)).before args0 about1 = true := by
  rw [allAtoms_all]
  show words1.all (fun c => c.before args0 about1) = true
  refine all_split ?_ w_codes
  rw [← List.take_append_drop 24 words1, List.all_append, w_t1, ← List.take_append_drop 24 (words1.drop 24), List.all_append, w_t2, w_t3]
  rfl
set_option maxRecDepth 65536 in
theorem w_case : (Jvm.Cond.and given_1 narrow_1).before args0 about1 = true := by decide +kernel
theorem w_applies : (headSpec (Jvm.Cond.code x code maxLocals ret :: tables_1) room_1).applies x e0.platform about1 = true :=
  (Spec.applies_iff w_frames).mpr ⟨w_running, w_runnable, w_alone, w_named, w_hears, w_ripe, w_room, w_tables⟩
theorem atStart : AtStart classFile x code maxLocals ret World_1 tables_1 room_1 Calls_1 rest_1 Pre_1 launch0 p0 e0 about1 theMethod args0 below0 :=
  ⟨lists_1, trivial, launch0.admits_env _ _ _, launch0.least_env, fairChoices_fair.cas, fairChoices_fair.clock, w_frames, w_args, w_heap, w_applies, trivial, trivial, w_case⟩
end start1
theorem witness_1 : WitnessClaimed_1 := ⟨start1.p0, start1.e0, start1.about1, start1.theMethod, start1.args0, start1.below0, start1.atStart⟩
end Jvm.Pilot.@@N@@
