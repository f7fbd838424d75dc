import JvmDerived
import JvmDerived.Pilot.@@N@@Statement
import JvmDerived.Pilot.@@N@@Code
set_option linter.unusedVariables false
set_option linter.unusedSimpArgs false
namespace Jvm.Pilot.@@N@@
open Jvm Jvm.ClassFile Sem Op Lib Jvm.Free Jvm.Stand Jvm.LawKit Jvm.RoadKit Bundle Jvm.Pilot.@@N@@.Jvm.D
/-! ## own layer: a walk goal by goal, over Strings and byte arrays that are only read -/
abbrev Desc : Type := (String × List (String × String × Value)) ⊕ List Int32
abbrev Wld : Type := List (Addr × Desc)
def Is (Z : State) (h : Heap) (a : Addr) : Desc → Prop
  | .inl o => Exa Z h a o.1 ∧ (∀ f ∈ o.2, Fld Z h a o.1 f.1 f.2.1 f.2.2) ∧ True
  | .inr vs => ∃ cl : Cell, Arr Z h a cl .byte ∧ cl.slots = (vs.map Value.int).toArray ∧ vs.length < 2 ^ 31
def World (Z : State) (n0 : Nat) (h : Heap) (W : Wld) : Prop := n0 ≤ h.size ∧ (∀ q ∈ W, True ∧ Is Z h q.1 q.2) ∧ (∃ cs : Int32, ¬ cs = 0 ∧ Sta Z h "java/lang/String" "COMPACT_STRINGS" "Z" (.int cs)) ∧ ∃ v : Value, v.isRef = true ∧ Sta Z h "jdk/internal/util/Preconditions" "SIOOBE_FORMATTER" "Ljava/util/function/BiFunction;" v
theorem World.get {Z : State} {n0 i : Nat} {h : Heap} {W : Wld} {a : Addr} {d : Desc} (D : World Z n0 h W) (hi : W[i]? = some (a, d)) : True ∧ Is Z h a d := D.2.1 _ (List.mem_of_getElem? hi)
theorem own_size {vs : List Int32} {cl : Cell} (e : cl.slots = (vs.map Value.int).toArray) : cl.slots.size = vs.length := by rw [e]; simp
abbrev Dyn : Type := Program × Env × State × MethodId × Array Value × List Frame × Method × Code
def Done (Z : State) (n0 : Nat) (s : State) (R : Room) (F : Option Value → Wld → Prop) (s₂ : State) (o : Outcome) : Prop := ∃ v L, o = .returned v ∧ (Fr n0 L ∧ ∃ W', World Z n0 s₂.heap W' ∧ F v W') ∧ FrameEnd s o s₂ L R.cells R.slots
def Go (l : Launch) (Z : State) (n0 : Nat) (R : Room) (code : ByteArray) (maxL : Nat) (y : MethodName) (ret : Option FieldType) (D : Dyn) (W : Wld) (cells slots pc : Nat) (ls : Array Slot) (st : List Value) (F : Option Value → Wld → Prop) : Prop :=
  match D with
  | (p, e, s, m, args, below, meth, c) => p.tables.exec = Jvm.exec → Z.Warmed39 s.vm → c.code = code → c.maxLocals = maxL → s.vm.findClass y.cls = some m.cls → meth.name = y.name → meth.sig.returnType = ret → meth.locks = false →
    ∀ T locs, Stand p l e R s m args below meth c T locs cells slots → Fr n0 locs → World Z n0 T.heap W → ∃ s₂ o, Steps p.tables e below (T.setTop (mkF m pc ls st)) s₂ ∧ s₂.status = .running ∧ Ended s₂ below o ∧ Done Z n0 s R F s₂ o
def Meets (l : Launch) (Z : State) (n0 : Nat) (y : MethodName) (bytes : ByteArray) (maxL : Nat) (ret : Option FieldType) (rm : Room) (ws : List Jvm.Cond) (as : Array Value) (W : Wld) (F : Option Value → Wld → Prop) : Prop :=
  ∀ h0 : Heap, World Z n0 h0 W → MetFree l y (head1 (Jvm.Cond.code y bytes maxL ret :: ws) rm) (fun a U => a = as ∧ Z.Warmed39 U.vm ∧ U.heap = h0) (fun _ _ _ _ _ => True) (fun _ U o U' => ∃ v L, o = .returned v ∧ (Fr n0 L ∧ ∃ W', World Z n0 U'.heap W' ∧ F v W') ∧ FrameEnd U o U' L rm.cells rm.slots)
theorem Meets.of_go {l : Launch} {Z : State} {n0 : Nat} {y : MethodName} {bytes : ByteArray} {maxL : Nat} {ret : Option FieldType} {rm : Room} {ws : List Jvm.Cond} {as : Array Value} {W : Wld} {F : Option Value → Wld → Prop} {ls : Array Slot} (hpl : plainFor y = true)
    (ef : ∀ m, entryFrame m as maxL = mkF m 0 ls []) (k : ∀ D, Go l Z n0 rm bytes maxL y ret D W 0 0 0 ls [] F) : Meets l Z n0 y bytes maxL ret rm ws as W F := by
  intro h0 Wd
  refine MetFree.of_bodySF hpl hisR ?_
  intro p e s m args below meth c s₁ Bd hml0 hP hK
  obtain ⟨rfl, hZ, hh⟩ := hP
  have e0 : s₁.heap = h0 := by rw [← hh, Bd.state]; rfl
  obtain ⟨s₂, o, h1, h2, h3, h4⟩ := k (p, e, s, m, _, below, meth, c) Bd.exec hZ Bd.bytes hml0 (findClass_of_methodNamed Bd.named) (name_of_methodNamed Bd.named Bd.method).1 Bd.returns Bd.notSynchronized s₁ [] (Stand.of_body Bd) (Fr.nil n0) (e0 ▸ Wd)
  exact ⟨s₂, o, castTop (ef m) h1, h2, h3, h4⟩
theorem Meets.mono {l : Launch} {Z : State} {n0 : Nat} {y : MethodName} {bytes : ByteArray} {maxL : Nat} {ret : Option FieldType} {rm : Room} {ws : List Jvm.Cond} {as : Array Value} {W : Wld} {F G : Option Value → Wld → Prop} (M : Meets l Z n0 y bytes maxL ret rm ws as W F) (q : ∀ v W', F v W' → G v W') : Meets l Z n0 y bytes maxL ret rm ws as W G := by
  intro h0 Wd p e a1 a2 a3 s m args below b1 b2 b3 b4
  obtain ⟨n, o, c1, c2, c3, v, L, d1, ⟨d2, W', d3, d4⟩, d5⟩ := M h0 Wd p e a1 a2 a3 s m args below b1 b2 b3 b4
  exact ⟨n, o, c1, c2, c3, v, L, d1, ⟨d2, W', d3, q _ _ d4⟩, d5⟩
section OwnSteps
variable {l : Launch} {Z : State} {n0 : Nat} {R : Room} {code : ByteArray} {maxL : Nat} {y : MethodName} {ret : Option FieldType} {D : Dyn} {W : Wld} {cells slots pc pc' : Nat} {ls ls' : Array Slot} {stk stk' : List Value} {F : Option Value → Wld → Prop} {a0 : Array Value}
theorem Go.plain (st : ∀ (p : Program) (e : Env) (s : State) (m : MethodId) (args : Array Value) (below : List Frame) (meth : Method) (c : Code) (T : State) (locs : List Loc), p.tables.exec = Jvm.exec → Z.Warmed39 s.vm → c.code = code → s.vm.findClass y.cls = some m.cls → Stand p l e R s m args below meth c T locs cells slots → World Z n0 T.heap W →
      ∀ target, Steps p.tables e below (T.setTop (mkF m pc' ls' stk')) target → Steps p.tables e below (T.setTop (mkF m pc ls stk)) target)
    (k : Go l Z n0 R code maxL y ret D W cells slots pc' ls' stk' F) : Go l Z n0 R code maxL y ret D W cells slots pc ls stk F := by
  obtain ⟨p, e, s, m, args, below, meth, c⟩ := D
  intro hx hZ hby hml hown hnm hret hlk T locs X N Wd
  obtain ⟨s₂, o, h1, h2⟩ := k hx hZ hby hml hown hnm hret hlk T locs X N Wd
  exact ⟨s₂, o, st p e s m args below meth c T locs hx hZ hby hown X Wd _ h1, h2⟩
theorem Go.val {r : Value} {rest : List Value} (k : Go l Z n0 R code maxL y ret D W cells slots pc ls (r :: rest) F) : Go l Z n0 R code maxL y ret D W cells slots pc ls ((some r).toList ++ rest) F := k
theorem Go.nov {rest : List Value} (k : Go l Z n0 R code maxL y ret D W cells slots pc ls rest F) : Go l Z n0 R code maxL y ret D W cells slots pc ls ((none : Option Value).toList ++ rest) F := k
/-! plain steps -/
theorem Go.iload {k : Nat} {v : Int32} (hd : decode code pc = .ok (.iload k, 2)) (hl : ls[k]? = some (.val (.int v))) (hp : pc + 2 = pc') (k : Go l Z n0 R code maxL y ret D W cells slots pc' ls (.int v :: stk) F) : Go l Z n0 R code maxL y ret D W cells slots pc ls stk F := by
  subst hp; exact Go.plain (fun p e s m args below meth c T locs hx hZ hby hown X Wd target h => XS.iload X.here hx rfl (hb hby hd) hl h) k
theorem Go.iloadN {k : Fin 4} {v : Int32} (hd : decode code pc = .ok (.iload_n k, 1)) (hl : ls[k.val]? = some (.val (.int v))) (hp : pc + 1 = pc') (k : Go l Z n0 R code maxL y ret D W cells slots pc' ls (.int v :: stk) F) : Go l Z n0 R code maxL y ret D W cells slots pc ls stk F := by
  subst hp; exact Go.plain (fun p e s m args below meth c T locs hx hZ hby hown X Wd target h => XS.iloadN X.here hx rfl (hb hby hd) hl h) k
theorem Go.istore {k : Nat} {v : Int32} (hd : decode code pc = .ok (.istore k, 2)) (hl : storeLocals ls k (.int v) = some ls') (hp : pc + 2 = pc') (k : Go l Z n0 R code maxL y ret D W cells slots pc' ls' stk F) : Go l Z n0 R code maxL y ret D W cells slots pc ls (.int v :: stk) F := by
  subst hp; exact Go.plain (fun p e s m args below meth c T locs hx hZ hby hown X Wd target h => XS.istore X.here hx rfl (hb hby hd) rfl hl h) k
theorem Go.istoreN {k : Fin 4} {v : Int32} (hd : decode code pc = .ok (.istore_n k, 1)) (hl : storeLocals ls k.val (.int v) = some ls') (hp : pc + 1 = pc') (k : Go l Z n0 R code maxL y ret D W cells slots pc' ls' stk F) : Go l Z n0 R code maxL y ret D W cells slots pc ls (.int v :: stk) F := by
  subst hp; exact Go.plain (fun p e s m args below meth c T locs hx hZ hby hown X Wd target h => XS.istoreN X.here hx rfl (hb hby hd) rfl hl h) k
theorem Go.lload {k : Nat} {v : Int64} (hd : decode code pc = .ok (.lload k, 2)) (hl : ls[k]? = some (.val (.long v))) (hp : pc + 2 = pc') (k : Go l Z n0 R code maxL y ret D W cells slots pc' ls (.long v :: stk) F) : Go l Z n0 R code maxL y ret D W cells slots pc ls stk F := by
  subst hp; exact Go.plain (fun p e s m args below meth c T locs hx hZ hby hown X Wd target h => XT.lload X.here hx rfl (hb hby hd) hl h) k
theorem Go.lloadN {k : Fin 4} {v : Int64} (hd : decode code pc = .ok (.lload_n k, 1)) (hl : ls[k.val]? = some (.val (.long v))) (hp : pc + 1 = pc') (k : Go l Z n0 R code maxL y ret D W cells slots pc' ls (.long v :: stk) F) : Go l Z n0 R code maxL y ret D W cells slots pc ls stk F := by
  subst hp; exact Go.plain (fun p e s m args below meth c T locs hx hZ hby hown X Wd target h => XT.lloadN X.here hx rfl (hb hby hd) hl h) k
theorem Go.lstore {k : Nat} {v : Int64} (hd : decode code pc = .ok (.lstore k, 2)) (hl : storeLocals ls k (.long v) = some ls') (hp : pc + 2 = pc') (k : Go l Z n0 R code maxL y ret D W cells slots pc' ls' stk F) : Go l Z n0 R code maxL y ret D W cells slots pc ls (.long v :: stk) F := by
  subst hp; exact Go.plain (fun p e s m args below meth c T locs hx hZ hby hown X Wd target h => XT.lstore X.here hx rfl (hb hby hd) rfl hl h) k
theorem Go.lstoreN {k : Fin 4} {v : Int64} (hd : decode code pc = .ok (.lstore_n k, 1)) (hl : storeLocals ls k.val (.long v) = some ls') (hp : pc + 1 = pc') (k : Go l Z n0 R code maxL y ret D W cells slots pc' ls' stk F) : Go l Z n0 R code maxL y ret D W cells slots pc ls (.long v :: stk) F := by
  subst hp; exact Go.plain (fun p e s m args below meth c T locs hx hZ hby hown X Wd target h => XT.lstoreN X.here hx rfl (hb hby hd) rfl hl h) k
theorem Go.aload {k : Nat} {v : Value} (hd : decode code pc = .ok (.aload k, 2)) (hl : ls[k]? = some (.val v)) (hv : v.isRef = true) (hp : pc + 2 = pc') (k : Go l Z n0 R code maxL y ret D W cells slots pc' ls (v :: stk) F) : Go l Z n0 R code maxL y ret D W cells slots pc ls stk F := by
  subst hp; exact Go.plain (fun p e s m args below meth c T locs hx hZ hby hown X Wd target h => XS.aload X.here hx rfl (hb hby hd) hl hv h) k
theorem Go.aloadN {k : Fin 4} {v : Value} (hd : decode code pc = .ok (.aload_n k, 1)) (hl : ls[k.val]? = some (.val v)) (hv : v.isRef = true) (hp : pc + 1 = pc') (k : Go l Z n0 R code maxL y ret D W cells slots pc' ls (v :: stk) F) : Go l Z n0 R code maxL y ret D W cells slots pc ls stk F := by
  subst hp; exact Go.plain (fun p e s m args below meth c T locs hx hZ hby hown X Wd target h => XS.aloadN X.here hx rfl (hb hby hd) hl hv h) k
theorem Go.astore {k : Nat} {v : Value} (hd : decode code pc = .ok (.astore k, 2)) (hv : v.isRef = true) (hl : storeLocals ls k v = some ls') (hp : pc + 2 = pc') (k : Go l Z n0 R code maxL y ret D W cells slots pc' ls' stk F) : Go l Z n0 R code maxL y ret D W cells slots pc ls (v :: stk) F := by
  subst hp; exact Go.plain (fun p e s m args below meth c T locs hx hZ hby hown X Wd target h => XS.astore X.here hx rfl (hb hby hd) rfl hv hl h) k
theorem Go.astoreN {k : Fin 4} {v : Value} (hd : decode code pc = .ok (.astore_n k, 1)) (hv : v.isRef = true) (hl : storeLocals ls k.val v = some ls') (hp : pc + 1 = pc') (k : Go l Z n0 R code maxL y ret D W cells slots pc' ls' stk F) : Go l Z n0 R code maxL y ret D W cells slots pc ls (v :: stk) F := by
  subst hp; exact Go.plain (fun p e s m args below meth c T locs hx hZ hby hown X Wd target h => XS.astoreN X.here hx rfl (hb hby hd) rfl hv hl h) k
theorem Go.iconst {i : Int} {v : Int32} (hd : decode code pc = .ok (.iconst i, 1)) (hv : Int32.ofInt i = v) (hp : pc + 1 = pc') (k : Go l Z n0 R code maxL y ret D W cells slots pc' ls (.int v :: stk) F) : Go l Z n0 R code maxL y ret D W cells slots pc ls stk F := by
  subst hp hv; exact Go.plain (fun p e s m args below meth c T locs hx hZ hby hown X Wd target h => XS.iconst X.here hx rfl (hb hby hd) h) k
theorem Go.bipush {i : Int} {v : Int32} (hd : decode code pc = .ok (.bipush i, 2)) (hv : (Int8.ofInt i).toInt32 = v) (hp : pc + 2 = pc') (k : Go l Z n0 R code maxL y ret D W cells slots pc' ls (.int v :: stk) F) : Go l Z n0 R code maxL y ret D W cells slots pc ls stk F := by
  subst hp hv; exact Go.plain (fun p e s m args below meth c T locs hx hZ hby hown X Wd target h => XS.bipush X.here hx rfl (hb hby hd) h) k
theorem Go.sipush {i : Int} {v : Int32} (hd : decode code pc = .ok (.sipush i, 3)) (hv : (Int16.ofInt i).toInt32 = v) (hp : pc + 3 = pc') (k : Go l Z n0 R code maxL y ret D W cells slots pc' ls (.int v :: stk) F) : Go l Z n0 R code maxL y ret D W cells slots pc ls stk F := by
  subst hp hv; exact Go.plain (fun p e s m args below meth c T locs hx hZ hby hown X Wd target h => XS.sipush X.here hx rfl (hb hby hd) h) k
theorem Go.lconst {i : Fin 2} {v : Int64} (hd : decode code pc = .ok (.lconst i, 1)) (hv : Int64.ofNat i = v) (hp : pc + 1 = pc') (k : Go l Z n0 R code maxL y ret D W cells slots pc' ls (.long v :: stk) F) : Go l Z n0 R code maxL y ret D W cells slots pc ls stk F := by
  subst hp hv; exact Go.plain (fun p e s m args below meth c T locs hx hZ hby hown X Wd target h => XT.lconst X.here hx rfl (hb hby hd) h) k
theorem Go.aconstNull  (hd : decode code pc = .ok (.aconst_null, 1)) (hp : pc + 1 = pc') (k : Go l Z n0 R code maxL y ret D W cells slots pc' ls (.null :: stk) F) : Go l Z n0 R code maxL y ret D W cells slots pc ls stk F := by
  subst hp; exact Go.plain (fun p e s m args below meth c T locs hx hZ hby hown X Wd target h => XS.aconstNull X.here hx rfl (hb hby hd) h) k
theorem Go.iadd {u v : Int32} (hd : decode code pc = .ok (.iadd, 1)) (hp : pc + 1 = pc') (k : Go l Z n0 R code maxL y ret D W cells slots pc' ls (.int (u + v) :: stk) F) : Go l Z n0 R code maxL y ret D W cells slots pc ls (.int v :: .int u :: stk) F := by
  subst hp; exact Go.plain (fun p e s m args below meth c T locs hx hZ hby hown X Wd target h => XS.iadd X.here hx rfl (hb hby hd) rfl h) k
theorem Go.ladd {u v : Int64} (hd : decode code pc = .ok (.ladd, 1)) (hp : pc + 1 = pc') (k : Go l Z n0 R code maxL y ret D W cells slots pc' ls (.long (u + v) :: stk) F) : Go l Z n0 R code maxL y ret D W cells slots pc ls (.long v :: .long u :: stk) F := by
  subst hp; exact Go.plain (fun p e s m args below meth c T locs hx hZ hby hown X Wd target h => XT.ladd X.here hx rfl (hb hby hd) rfl h) k
theorem Go.isub {u v : Int32} (hd : decode code pc = .ok (.isub, 1)) (hp : pc + 1 = pc') (k : Go l Z n0 R code maxL y ret D W cells slots pc' ls (.int (u - v) :: stk) F) : Go l Z n0 R code maxL y ret D W cells slots pc ls (.int v :: .int u :: stk) F := by
  subst hp; exact Go.plain (fun p e s m args below meth c T locs hx hZ hby hown X Wd target h => XS.isub X.here hx rfl (hb hby hd) rfl h) k
theorem Go.lsub {u v : Int64} (hd : decode code pc = .ok (.lsub, 1)) (hp : pc + 1 = pc') (k : Go l Z n0 R code maxL y ret D W cells slots pc' ls (.long (u - v) :: stk) F) : Go l Z n0 R code maxL y ret D W cells slots pc ls (.long v :: .long u :: stk) F := by
  subst hp; exact Go.plain (fun p e s m args below meth c T locs hx hZ hby hown X Wd target h => XT.lsub X.here hx rfl (hb hby hd) rfl h) k
theorem Go.imul {u v : Int32} (hd : decode code pc = .ok (.imul, 1)) (hp : pc + 1 = pc') (k : Go l Z n0 R code maxL y ret D W cells slots pc' ls (.int (u * v) :: stk) F) : Go l Z n0 R code maxL y ret D W cells slots pc ls (.int v :: .int u :: stk) F := by
  subst hp; exact Go.plain (fun p e s m args below meth c T locs hx hZ hby hown X Wd target h => XS.imul X.here hx rfl (hb hby hd) rfl h) k
theorem Go.lmul {u v : Int64} (hd : decode code pc = .ok (.lmul, 1)) (hp : pc + 1 = pc') (k : Go l Z n0 R code maxL y ret D W cells slots pc' ls (.long (u * v) :: stk) F) : Go l Z n0 R code maxL y ret D W cells slots pc ls (.long v :: .long u :: stk) F := by
  subst hp; exact Go.plain (fun p e s m args below meth c T locs hx hZ hby hown X Wd target h => XT.lmul X.here hx rfl (hb hby hd) rfl h) k
theorem Go.iand {u v : Int32} (hd : decode code pc = .ok (.iand, 1)) (hp : pc + 1 = pc') (k : Go l Z n0 R code maxL y ret D W cells slots pc' ls (.int (u &&& v) :: stk) F) : Go l Z n0 R code maxL y ret D W cells slots pc ls (.int v :: .int u :: stk) F := by
  subst hp; exact Go.plain (fun p e s m args below meth c T locs hx hZ hby hown X Wd target h => XS.iand X.here hx rfl (hb hby hd) rfl h) k
theorem Go.land {u v : Int64} (hd : decode code pc = .ok (.land, 1)) (hp : pc + 1 = pc') (k : Go l Z n0 R code maxL y ret D W cells slots pc' ls (.long (u &&& v) :: stk) F) : Go l Z n0 R code maxL y ret D W cells slots pc ls (.long v :: .long u :: stk) F := by
  subst hp; exact Go.plain (fun p e s m args below meth c T locs hx hZ hby hown X Wd target h => XT.land X.here hx rfl (hb hby hd) rfl h) k
theorem Go.ior {u v : Int32} (hd : decode code pc = .ok (.ior, 1)) (hp : pc + 1 = pc') (k : Go l Z n0 R code maxL y ret D W cells slots pc' ls (.int (u ||| v) :: stk) F) : Go l Z n0 R code maxL y ret D W cells slots pc ls (.int v :: .int u :: stk) F := by
  subst hp; exact Go.plain (fun p e s m args below meth c T locs hx hZ hby hown X Wd target h => XT.ior X.here hx rfl (hb hby hd) rfl h) k
theorem Go.lor {u v : Int64} (hd : decode code pc = .ok (.lor, 1)) (hp : pc + 1 = pc') (k : Go l Z n0 R code maxL y ret D W cells slots pc' ls (.long (u ||| v) :: stk) F) : Go l Z n0 R code maxL y ret D W cells slots pc ls (.long v :: .long u :: stk) F := by
  subst hp; exact Go.plain (fun p e s m args below meth c T locs hx hZ hby hown X Wd target h => XT.lor X.here hx rfl (hb hby hd) rfl h) k
theorem Go.ixor {u v : Int32} (hd : decode code pc = .ok (.ixor, 1)) (hp : pc + 1 = pc') (k : Go l Z n0 R code maxL y ret D W cells slots pc' ls (.int (u ^^^ v) :: stk) F) : Go l Z n0 R code maxL y ret D W cells slots pc ls (.int v :: .int u :: stk) F := by
  subst hp; exact Go.plain (fun p e s m args below meth c T locs hx hZ hby hown X Wd target h => XT.ixor X.here hx rfl (hb hby hd) rfl h) k
theorem Go.lxor {u v : Int64} (hd : decode code pc = .ok (.lxor, 1)) (hp : pc + 1 = pc') (k : Go l Z n0 R code maxL y ret D W cells slots pc' ls (.long (u ^^^ v) :: stk) F) : Go l Z n0 R code maxL y ret D W cells slots pc ls (.long v :: .long u :: stk) F := by
  subst hp; exact Go.plain (fun p e s m args below meth c T locs hx hZ hby hown X Wd target h => XT.lxor X.here hx rfl (hb hby hd) rfl h) k
theorem Go.ishl {u v : Int32} (hd : decode code pc = .ok (.ishl, 1)) (hp : pc + 1 = pc') (k : Go l Z n0 R code maxL y ret D W cells slots pc' ls (.int (u <<< (v &&& 31)) :: stk) F) : Go l Z n0 R code maxL y ret D W cells slots pc ls (.int v :: .int u :: stk) F := by
  subst hp; exact Go.plain (fun p e s m args below meth c T locs hx hZ hby hown X Wd target h => XT.ishl X.here hx rfl (hb hby hd) rfl h) k
theorem Go.ishr {u v : Int32} (hd : decode code pc = .ok (.ishr, 1)) (hp : pc + 1 = pc') (k : Go l Z n0 R code maxL y ret D W cells slots pc' ls (.int (u >>> (v &&& 31)) :: stk) F) : Go l Z n0 R code maxL y ret D W cells slots pc ls (.int v :: .int u :: stk) F := by
  subst hp; exact Go.plain (fun p e s m args below meth c T locs hx hZ hby hown X Wd target h => XT.ishr X.here hx rfl (hb hby hd) rfl h) k
theorem Go.iushr {u v : Int32} (hd : decode code pc = .ok (.iushr, 1)) (hp : pc + 1 = pc') (k : Go l Z n0 R code maxL y ret D W cells slots pc' ls (.int (XT.ushr u v) :: stk) F) : Go l Z n0 R code maxL y ret D W cells slots pc ls (.int v :: .int u :: stk) F := by
  subst hp; exact Go.plain (fun p e s m args below meth c T locs hx hZ hby hown X Wd target h => XT.iushr X.here hx rfl (hb hby hd) rfl h) k
theorem Go.lushr {u : Int64} {v : Int32} (hd : decode code pc = .ok (.lushr, 1)) (hp : pc + 1 = pc') (k : Go l Z n0 R code maxL y ret D W cells slots pc' ls (.long (XT.ushrL u v) :: stk) F) : Go l Z n0 R code maxL y ret D W cells slots pc ls (.int v :: .long u :: stk) F := by
  subst hp; exact Go.plain (fun p e s m args below meth c T locs hx hZ hby hown X Wd target h => XT.lushr X.here hx rfl (hb hby hd) rfl h) k
theorem Go.lshl {u : Int64} {v : Int32} (hd : decode code pc = .ok (.lshl, 1)) (hp : pc + 1 = pc') (k : Go l Z n0 R code maxL y ret D W cells slots pc' ls (.long (u <<< (v.toInt64 &&& 63)) :: stk) F) : Go l Z n0 R code maxL y ret D W cells slots pc ls (.int v :: .long u :: stk) F := by
  subst hp; exact Go.plain (fun p e s m args below meth c T locs hx hZ hby hown X Wd target h => XT.lshl X.here hx rfl (hb hby hd) rfl h) k
theorem Go.idiv {u v : Int32} (hd : decode code pc = .ok (.idiv, 1)) (hz : v ≠ 0) (hp : pc + 1 = pc') (k : Go l Z n0 R code maxL y ret D W cells slots pc' ls (.int (u / v) :: stk) F) : Go l Z n0 R code maxL y ret D W cells slots pc ls (.int v :: .int u :: stk) F := by
  subst hp; exact Go.plain (fun p e s m args below meth c T locs hx hZ hby hown X Wd target h => XS.idiv X.here hx rfl (hb hby hd) rfl hz h) k
theorem Go.irem {u v : Int32} (hd : decode code pc = .ok (.irem, 1)) (hz : v ≠ 0) (hp : pc + 1 = pc') (k : Go l Z n0 R code maxL y ret D W cells slots pc' ls (.int (u % v) :: stk) F) : Go l Z n0 R code maxL y ret D W cells slots pc ls (.int v :: .int u :: stk) F := by
  subst hp; exact Go.plain (fun p e s m args below meth c T locs hx hZ hby hown X Wd target h => iremM X hx rfl (hb hby hd) rfl hz h) k
theorem Go.ineg {u : Int32} (hd : decode code pc = .ok (.ineg, 1)) (hp : pc + 1 = pc') (k : Go l Z n0 R code maxL y ret D W cells slots pc' ls (.int (-u) :: stk) F) : Go l Z n0 R code maxL y ret D W cells slots pc ls (.int u :: stk) F := by
  subst hp; exact Go.plain (fun p e s m args below meth c T locs hx hZ hby hown X Wd target h => XS.ineg X.here hx rfl (hb hby hd) rfl h) k
theorem Go.lcmp {u v : Int64} (hd : decode code pc = .ok (.lcmp, 1)) (hp : pc + 1 = pc') (k : Go l Z n0 R code maxL y ret D W cells slots pc' ls (.int (XT.cmpL u v) :: stk) F) : Go l Z n0 R code maxL y ret D W cells slots pc ls (.long v :: .long u :: stk) F := by
  subst hp; exact Go.plain (fun p e s m args below meth c T locs hx hZ hby hown X Wd target h => XT.lcmp X.here hx rfl (hb hby hd) rfl h) k
theorem Go.i2l {u : Int32} (hd : decode code pc = .ok (.i2l, 1)) (hp : pc + 1 = pc') (k : Go l Z n0 R code maxL y ret D W cells slots pc' ls (.long u.toInt64 :: stk) F) : Go l Z n0 R code maxL y ret D W cells slots pc ls (.int u :: stk) F := by
  subst hp; exact Go.plain (fun p e s m args below meth c T locs hx hZ hby hown X Wd target h => XT.i2l X.here hx rfl (hb hby hd) rfl h) k
theorem Go.l2i {u : Int64} (hd : decode code pc = .ok (.l2i, 1)) (hp : pc + 1 = pc') (k : Go l Z n0 R code maxL y ret D W cells slots pc' ls (.int u.toInt32 :: stk) F) : Go l Z n0 R code maxL y ret D W cells slots pc ls (.long u :: stk) F := by
  subst hp; exact Go.plain (fun p e s m args below meth c T locs hx hZ hby hown X Wd target h => XT.l2i X.here hx rfl (hb hby hd) rfl h) k
theorem Go.i2c {u : Int32} (hd : decode code pc = .ok (.i2c, 1)) (hp : pc + 1 = pc') (k : Go l Z n0 R code maxL y ret D W cells slots pc' ls (.int u.toUInt32.toUInt16.toUInt32.toInt32 :: stk) F) : Go l Z n0 R code maxL y ret D W cells slots pc ls (.int u :: stk) F := by
  subst hp; exact Go.plain (fun p e s m args below meth c T locs hx hZ hby hown X Wd target h => XT.i2c X.here hx rfl (hb hby hd) rfl h) k
theorem Go.i2b {u : Int32} (hd : decode code pc = .ok (.i2b, 1)) (hp : pc + 1 = pc') (k : Go l Z n0 R code maxL y ret D W cells slots pc' ls (.int u.toInt8.toInt32 :: stk) F) : Go l Z n0 R code maxL y ret D W cells slots pc ls (.int u :: stk) F := by
  subst hp; exact Go.plain (fun p e s m args below meth c T locs hx hZ hby hown X Wd target h => XT.i2b X.here hx rfl (hb hby hd) rfl h) k
theorem Go.dup {u : Value} (hd : decode code pc = .ok (.dup, 1)) (hc : u.category = 1) (hp : pc + 1 = pc') (k : Go l Z n0 R code maxL y ret D W cells slots pc' ls (u :: u :: stk) F) : Go l Z n0 R code maxL y ret D W cells slots pc ls (u :: stk) F := by
  subst hp; exact Go.plain (fun p e s m args below meth c T locs hx hZ hby hown X Wd target h => XS.dup X.here hx rfl (hb hby hd) rfl hc h) k
theorem Go.pop {u : Value} (hd : decode code pc = .ok (.pop, 1)) (hc : u.category = 1) (hp : pc + 1 = pc') (k : Go l Z n0 R code maxL y ret D W cells slots pc' ls stk F) : Go l Z n0 R code maxL y ret D W cells slots pc ls (u :: stk) F := by
  subst hp; exact Go.plain (fun p e s m args below meth c T locs hx hZ hby hown X Wd target h => XT.pop X.here hx rfl (hb hby hd) rfl hc h) k
theorem Go.dupX1 {u v : Value} (hd : decode code pc = .ok (.dup_x1, 1)) (hc : u.category = 1) (hc' : v.category = 1) (hp : pc + 1 = pc') (k : Go l Z n0 R code maxL y ret D W cells slots pc' ls (u :: v :: u :: stk) F) : Go l Z n0 R code maxL y ret D W cells slots pc ls (u :: v :: stk) F := by
  subst hp; exact Go.plain (fun p e s m args below meth c T locs hx hZ hby hown X Wd target h => XT.dupX1 X.here hx rfl (hb hby hd) rfl hc hc' h) k
theorem Go.dup2 {u v : Value} (hd : decode code pc = .ok (.dup2, 1)) (hc : u.category = 1) (hc' : v.category = 1) (hp : pc + 1 = pc') (k : Go l Z n0 R code maxL y ret D W cells slots pc' ls (u :: v :: u :: v :: stk) F) : Go l Z n0 R code maxL y ret D W cells slots pc ls (u :: v :: stk) F := by
  subst hp; exact Go.plain (fun p e s m args below meth c T locs hx hZ hby hown X Wd target h => XT.dup2 X.here hx rfl (hb hby hd) rfl hc hc' h) k
theorem Go.iinc {k : Nat} {i : Int} {x z : Int32} (hd : decode code pc = .ok (.iinc k i, 3)) (hl : ls[k]? = some (.val (.int x))) (hi : Int32.ofInt i = z) (hl' : storeLocals ls k (.int (x + z)) = some ls') (hp : pc + 3 = pc') (k : Go l Z n0 R code maxL y ret D W cells slots pc' ls' stk F) : Go l Z n0 R code maxL y ret D W cells slots pc ls stk F := by
  subst hp hi; exact Go.plain (fun p e s m args below meth c T locs hx hZ hby hown X Wd target h => XS.iinc X.here hx rfl (hb hby hd) hl hl' h) k
theorem Go.goto {o : Int} (hd : decode code pc = .ok (.goto o, 3)) (ho : 0 ≤ (pc : Int) + o) (hp : ((pc : Int) + o).toNat = pc') (k : Go l Z n0 R code maxL y ret D W cells slots pc' ls stk F) : Go l Z n0 R code maxL y ret D W cells slots pc ls stk F :=
  Go.plain (fun p e s m args below meth c T locs hx hZ hby hown X Wd target h => XS.goto X.here hx rfl rfl (hb hby hd) ho hp h) k
theorem Go.if_lt {o : Int} {u : Int32} {pcY pcN : Nat} (hd : decode code pc = .ok (.ifCond .lt o, 3)) (ho : 0 ≤ (pc : Int) + o) (hp : ((pc : Int) + o).toNat = pcY) (hq : pc + 3 = pcN) (ky : u < (0 : Int32) → Go l Z n0 R code maxL y ret D W cells slots pcY ls stk F) (kn : ¬ u < (0 : Int32) → Go l Z n0 R code maxL y ret D W cells slots pcN ls stk F) : Go l Z n0 R code maxL y ret D W cells slots pc ls (.int u :: stk) F := by
  subst hq
  by_cases q : u < (0 : Int32)
  · exact Go.plain (fun p e s m args below meth c T locs hx hZ hby hown X Wd target h => XS.ifYes X.here hx rfl rfl (hb hby hd) rfl ((if0 _ _).trans (tlt q).1) ho hp h) (ky q)
  · exact Go.plain (fun p e s m args below meth c T locs hx hZ hby hown X Wd target h => XS.ifNo X.here hx rfl (hb hby hd) rfl ((if0 _ _).trans (flt q).1) h) (kn q)
theorem Go.icmp_lt {o : Int} {u v : Int32} {pcY pcN : Nat} (hd : decode code pc = .ok (.if_icmp .lt o, 3)) (ho : 0 ≤ (pc : Int) + o) (hp : ((pc : Int) + o).toNat = pcY) (hq : pc + 3 = pcN) (ky : u < v → Go l Z n0 R code maxL y ret D W cells slots pcY ls stk F) (kn : ¬ u < v → Go l Z n0 R code maxL y ret D W cells slots pcN ls stk F) : Go l Z n0 R code maxL y ret D W cells slots pc ls (.int v :: .int u :: stk) F := by
  subst hq
  by_cases q : u < v
  · exact Go.plain (fun p e s m args below meth c T locs hx hZ hby hown X Wd target h => XS.icmpYes X.here hx rfl rfl (hb hby hd) rfl (tlt q).1 ho hp h) (ky q)
  · exact Go.plain (fun p e s m args below meth c T locs hx hZ hby hown X Wd target h => XS.icmpNo X.here hx rfl (hb hby hd) rfl (flt q).1 h) (kn q)
theorem Go.if_ge {o : Int} {u : Int32} {pcY pcN : Nat} (hd : decode code pc = .ok (.ifCond .ge o, 3)) (ho : 0 ≤ (pc : Int) + o) (hp : ((pc : Int) + o).toNat = pcY) (hq : pc + 3 = pcN) (ky : ¬ u < (0 : Int32) → Go l Z n0 R code maxL y ret D W cells slots pcY ls stk F) (kn : u < (0 : Int32) → Go l Z n0 R code maxL y ret D W cells slots pcN ls stk F) : Go l Z n0 R code maxL y ret D W cells slots pc ls (.int u :: stk) F := by
  subst hq
  by_cases q : u < (0 : Int32)
  · exact Go.plain (fun p e s m args below meth c T locs hx hZ hby hown X Wd target h => XS.ifNo X.here hx rfl (hb hby hd) rfl ((if0 _ _).trans (tlt q).2.1) h) (kn q)
  · exact Go.plain (fun p e s m args below meth c T locs hx hZ hby hown X Wd target h => XS.ifYes X.here hx rfl rfl (hb hby hd) rfl ((if0 _ _).trans (flt q).2.1) ho hp h) (ky q)
theorem Go.icmp_ge {o : Int} {u v : Int32} {pcY pcN : Nat} (hd : decode code pc = .ok (.if_icmp .ge o, 3)) (ho : 0 ≤ (pc : Int) + o) (hp : ((pc : Int) + o).toNat = pcY) (hq : pc + 3 = pcN) (ky : ¬ u < v → Go l Z n0 R code maxL y ret D W cells slots pcY ls stk F) (kn : u < v → Go l Z n0 R code maxL y ret D W cells slots pcN ls stk F) : Go l Z n0 R code maxL y ret D W cells slots pc ls (.int v :: .int u :: stk) F := by
  subst hq
  by_cases q : u < v
  · exact Go.plain (fun p e s m args below meth c T locs hx hZ hby hown X Wd target h => XS.icmpNo X.here hx rfl (hb hby hd) rfl (tlt q).2.1 h) (kn q)
  · exact Go.plain (fun p e s m args below meth c T locs hx hZ hby hown X Wd target h => XS.icmpYes X.here hx rfl rfl (hb hby hd) rfl (flt q).2.1 ho hp h) (ky q)
theorem Go.if_gt {o : Int} {u : Int32} {pcY pcN : Nat} (hd : decode code pc = .ok (.ifCond .gt o, 3)) (ho : 0 ≤ (pc : Int) + o) (hp : ((pc : Int) + o).toNat = pcY) (hq : pc + 3 = pcN) (ky : (0 : Int32) < u → Go l Z n0 R code maxL y ret D W cells slots pcY ls stk F) (kn : ¬ (0 : Int32) < u → Go l Z n0 R code maxL y ret D W cells slots pcN ls stk F) : Go l Z n0 R code maxL y ret D W cells slots pc ls (.int u :: stk) F := by
  subst hq
  by_cases q : (0 : Int32) < u
  · exact Go.plain (fun p e s m args below meth c T locs hx hZ hby hown X Wd target h => XS.ifYes X.here hx rfl rfl (hb hby hd) rfl ((if0 _ _).trans (tlt q).2.2.1) ho hp h) (ky q)
  · exact Go.plain (fun p e s m args below meth c T locs hx hZ hby hown X Wd target h => XS.ifNo X.here hx rfl (hb hby hd) rfl ((if0 _ _).trans (flt q).2.2.1) h) (kn q)
theorem Go.icmp_gt {o : Int} {u v : Int32} {pcY pcN : Nat} (hd : decode code pc = .ok (.if_icmp .gt o, 3)) (ho : 0 ≤ (pc : Int) + o) (hp : ((pc : Int) + o).toNat = pcY) (hq : pc + 3 = pcN) (ky : v < u → Go l Z n0 R code maxL y ret D W cells slots pcY ls stk F) (kn : ¬ v < u → Go l Z n0 R code maxL y ret D W cells slots pcN ls stk F) : Go l Z n0 R code maxL y ret D W cells slots pc ls (.int v :: .int u :: stk) F := by
  subst hq
  by_cases q : v < u
  · exact Go.plain (fun p e s m args below meth c T locs hx hZ hby hown X Wd target h => XS.icmpYes X.here hx rfl rfl (hb hby hd) rfl (tlt q).2.2.1 ho hp h) (ky q)
  · exact Go.plain (fun p e s m args below meth c T locs hx hZ hby hown X Wd target h => XS.icmpNo X.here hx rfl (hb hby hd) rfl (flt q).2.2.1 h) (kn q)
theorem Go.if_le {o : Int} {u : Int32} {pcY pcN : Nat} (hd : decode code pc = .ok (.ifCond .le o, 3)) (ho : 0 ≤ (pc : Int) + o) (hp : ((pc : Int) + o).toNat = pcY) (hq : pc + 3 = pcN) (ky : ¬ (0 : Int32) < u → Go l Z n0 R code maxL y ret D W cells slots pcY ls stk F) (kn : (0 : Int32) < u → Go l Z n0 R code maxL y ret D W cells slots pcN ls stk F) : Go l Z n0 R code maxL y ret D W cells slots pc ls (.int u :: stk) F := by
  subst hq
  by_cases q : (0 : Int32) < u
  · exact Go.plain (fun p e s m args below meth c T locs hx hZ hby hown X Wd target h => XS.ifNo X.here hx rfl (hb hby hd) rfl ((if0 _ _).trans (tlt q).2.2.2) h) (kn q)
  · exact Go.plain (fun p e s m args below meth c T locs hx hZ hby hown X Wd target h => XS.ifYes X.here hx rfl rfl (hb hby hd) rfl ((if0 _ _).trans (flt q).2.2.2) ho hp h) (ky q)
theorem Go.icmp_le {o : Int} {u v : Int32} {pcY pcN : Nat} (hd : decode code pc = .ok (.if_icmp .le o, 3)) (ho : 0 ≤ (pc : Int) + o) (hp : ((pc : Int) + o).toNat = pcY) (hq : pc + 3 = pcN) (ky : ¬ v < u → Go l Z n0 R code maxL y ret D W cells slots pcY ls stk F) (kn : v < u → Go l Z n0 R code maxL y ret D W cells slots pcN ls stk F) : Go l Z n0 R code maxL y ret D W cells slots pc ls (.int v :: .int u :: stk) F := by
  subst hq
  by_cases q : v < u
  · exact Go.plain (fun p e s m args below meth c T locs hx hZ hby hown X Wd target h => XS.icmpNo X.here hx rfl (hb hby hd) rfl (tlt q).2.2.2 h) (kn q)
  · exact Go.plain (fun p e s m args below meth c T locs hx hZ hby hown X Wd target h => XS.icmpYes X.here hx rfl rfl (hb hby hd) rfl (flt q).2.2.2 ho hp h) (ky q)
theorem Go.if_eq {o : Int} {u : Int32} {pcY pcN : Nat} (hd : decode code pc = .ok (.ifCond .eq o, 3)) (ho : 0 ≤ (pc : Int) + o) (hp : ((pc : Int) + o).toNat = pcY) (hq : pc + 3 = pcN) (ky : u = (0 : Int32) → Go l Z n0 R code maxL y ret D W cells slots pcY ls stk F) (kn : ¬ u = (0 : Int32) → Go l Z n0 R code maxL y ret D W cells slots pcN ls stk F) : Go l Z n0 R code maxL y ret D W cells slots pc ls (.int u :: stk) F := by
  subst hq
  by_cases q : u = (0 : Int32)
  · exact Go.plain (fun p e s m args below meth c T locs hx hZ hby hown X Wd target h => XS.ifYes X.here hx rfl rfl (hb hby hd) rfl ((if0 _ _).trans (teq q).1) ho hp h) (ky q)
  · exact Go.plain (fun p e s m args below meth c T locs hx hZ hby hown X Wd target h => XS.ifNo X.here hx rfl (hb hby hd) rfl ((if0 _ _).trans (feq q).1) h) (kn q)
theorem Go.icmp_eq {o : Int} {u v : Int32} {pcY pcN : Nat} (hd : decode code pc = .ok (.if_icmp .eq o, 3)) (ho : 0 ≤ (pc : Int) + o) (hp : ((pc : Int) + o).toNat = pcY) (hq : pc + 3 = pcN) (ky : u = v → Go l Z n0 R code maxL y ret D W cells slots pcY ls stk F) (kn : ¬ u = v → Go l Z n0 R code maxL y ret D W cells slots pcN ls stk F) : Go l Z n0 R code maxL y ret D W cells slots pc ls (.int v :: .int u :: stk) F := by
  subst hq
  by_cases q : u = v
  · exact Go.plain (fun p e s m args below meth c T locs hx hZ hby hown X Wd target h => XS.icmpYes X.here hx rfl rfl (hb hby hd) rfl (teq q).1 ho hp h) (ky q)
  · exact Go.plain (fun p e s m args below meth c T locs hx hZ hby hown X Wd target h => XS.icmpNo X.here hx rfl (hb hby hd) rfl (feq q).1 h) (kn q)
theorem Go.if_ne {o : Int} {u : Int32} {pcY pcN : Nat} (hd : decode code pc = .ok (.ifCond .ne o, 3)) (ho : 0 ≤ (pc : Int) + o) (hp : ((pc : Int) + o).toNat = pcY) (hq : pc + 3 = pcN) (ky : ¬ u = (0 : Int32) → Go l Z n0 R code maxL y ret D W cells slots pcY ls stk F) (kn : u = (0 : Int32) → Go l Z n0 R code maxL y ret D W cells slots pcN ls stk F) : Go l Z n0 R code maxL y ret D W cells slots pc ls (.int u :: stk) F := by
  subst hq
  by_cases q : u = (0 : Int32)
  · exact Go.plain (fun p e s m args below meth c T locs hx hZ hby hown X Wd target h => XS.ifNo X.here hx rfl (hb hby hd) rfl ((if0 _ _).trans (teq q).2) h) (kn q)
  · exact Go.plain (fun p e s m args below meth c T locs hx hZ hby hown X Wd target h => XS.ifYes X.here hx rfl rfl (hb hby hd) rfl ((if0 _ _).trans (feq q).2) ho hp h) (ky q)
theorem Go.icmp_ne {o : Int} {u v : Int32} {pcY pcN : Nat} (hd : decode code pc = .ok (.if_icmp .ne o, 3)) (ho : 0 ≤ (pc : Int) + o) (hp : ((pc : Int) + o).toNat = pcY) (hq : pc + 3 = pcN) (ky : ¬ u = v → Go l Z n0 R code maxL y ret D W cells slots pcY ls stk F) (kn : u = v → Go l Z n0 R code maxL y ret D W cells slots pcN ls stk F) : Go l Z n0 R code maxL y ret D W cells slots pc ls (.int v :: .int u :: stk) F := by
  subst hq
  by_cases q : u = v
  · exact Go.plain (fun p e s m args below meth c T locs hx hZ hby hown X Wd target h => XS.icmpNo X.here hx rfl (hb hby hd) rfl (teq q).2 h) (kn q)
  · exact Go.plain (fun p e s m args below meth c T locs hx hZ hby hown X Wd target h => XS.icmpYes X.here hx rfl rfl (hb hby hd) rfl (feq q).2 ho hp h) (ky q)
theorem Go.ifnullY {o : Int} (hd : decode code pc = .ok (.ifnull o, 3)) (ho : 0 ≤ (pc : Int) + o) (hp : ((pc : Int) + o).toNat = pc') (k : Go l Z n0 R code maxL y ret D W cells slots pc' ls stk F) : Go l Z n0 R code maxL y ret D W cells slots pc ls (.null :: stk) F :=
  Go.plain (fun p e s m args below meth c T locs hx hZ hby hown X Wd target h => XS.ifnullYes X.here hx rfl rfl (hb hby hd) rfl ho hp h) k
theorem Go.ifnullN {o : Int} {a : Addr} (hd : decode code pc = .ok (.ifnull o, 3)) (hp : pc + 3 = pc') (k : Go l Z n0 R code maxL y ret D W cells slots pc' ls stk F) : Go l Z n0 R code maxL y ret D W cells slots pc ls (.ref a :: stk) F := by
  subst hp; exact Go.plain (fun p e s m args below meth c T locs hx hZ hby hown X Wd target h => XS.ifnullNo X.here hx rfl (hb hby hd) rfl h) k
theorem Go.ifnonnullY {o : Int} {a : Addr} (hd : decode code pc = .ok (.ifnonnull o, 3)) (ho : 0 ≤ (pc : Int) + o) (hp : ((pc : Int) + o).toNat = pc') (k : Go l Z n0 R code maxL y ret D W cells slots pc' ls stk F) : Go l Z n0 R code maxL y ret D W cells slots pc ls (.ref a :: stk) F :=
  Go.plain (fun p e s m args below meth c T locs hx hZ hby hown X Wd target h => XT.ifnonnullYes X.here hx rfl rfl (hb hby hd) rfl ho hp h) k
theorem Go.ifnonnullN {o : Int} (hd : decode code pc = .ok (.ifnonnull o, 3)) (hp : pc + 3 = pc') (k : Go l Z n0 R code maxL y ret D W cells slots pc' ls stk F) : Go l Z n0 R code maxL y ret D W cells slots pc ls (.null :: stk) F := by
  subst hp; exact Go.plain (fun p e s m args below meth c T locs hx hZ hby hown X Wd target h => XT.ifnonnullNo X.here hx rfl (hb hby hd) rfl h) k
theorem Go.ldcI {idx : Nat} {v : Int32} (hd : decode code pc = .ok (.ldc idx, 2)) (w : (Jvm.Cond.constant y.cls idx v).before a0 Z = true) (hp : pc + 2 = pc') (k : Go l Z n0 R code maxL y ret D W cells slots pc' ls (.int v :: stk) F) : Go l Z n0 R code maxL y ret D W cells slots pc ls stk F := by
  subst hp; exact Go.plain (fun p e s m args below meth c T locs hx hZ hby hown X Wd target h => X.ldcInt hx hown (mvT hZ w) (g := mkF m pc ls stk) rfl (hb hby hd) target h) k
theorem Go.ldcL {idx : Nat} {v : Int64} (hd : decode code pc = .ok (.ldc2_w idx, 3)) (w : (Jvm.Cond.constantLong y.cls idx v).before a0 Z = true) (hp : pc + 3 = pc') (k : Go l Z n0 R code maxL y ret D W cells slots pc' ls (.long v :: stk) F) : Go l Z n0 R code maxL y ret D W cells slots pc ls stk F := by
  subst hp; exact Go.plain (fun p e s m args below meth c T locs hx hZ hby hown X Wd target h => X.ldc2Long hx hown (mvT hZ w) (g := mkF m pc ls stk) rfl (hb hby hd) target h) k
theorem Go.getF {idx i j : Nat} {C n t host : String} {a : Addr} {fs : List (String × String × Value)} {v : Value} (hd : decode code pc = .ok (.getfield idx, 3)) (w : (Jvm.Cond.fieldLink y.cls idx C n t).before a0 Z = true ∨ (Jvm.Cond.fieldLinkNest y.cls idx C n t host).before a0 Z = true) (hi : W[i]? = some (a, .inl (C, fs))) (hj : fs[j]? = some (n, t, v)) (hp : pc + 3 = pc')
    (k : Go l Z n0 R code maxL y ret D W cells slots pc' ls (v :: stk) F) : Go l Z n0 R code maxL y ret D W cells slots pc ls (.ref a :: stk) F := by
  subst hp
  obtain ⟨p, e, s, m, args, below, meth, c⟩ := D
  intro hx hZ hby hml hown hnm hret hlk T locs X N Wd
  obtain ⟨T', X', e', st⟩ := getF X hx hZ hown w Via.refl rfl ((Wd.get hi).2.2.1 _ (List.mem_of_getElem? hj)) (g := mkF m pc ls (.ref a :: stk)) rfl rfl (hb hby hd)
  obtain ⟨s₂, o, h1, h2⟩ := k hx hZ hby hml hown hnm hret hlk T' locs X' N (e' ▸ Wd)
  exact ⟨s₂, o, st _ h1, h2⟩
theorem own_in {j : Int32} {k n : Nat} (hj : ¬ j < 0) (hk : j.toNatClampNeg < n) (e : k = n) : ¬ (j < 0 ∨ k ≤ j.toNatClampNeg) := by
  rintro (q | q)
  · exact hj q
  · omega
theorem Go.initO {idx W1 : Nat} {a : Addr} (hd : decode code pc = .ok (.invokespecial idx, 3)) (w1 : (Jvm.Cond.methodLink y.cls idx Lib.objectInit).before a0 Z = true) (w2 : (Jvm.Cond.instanceMethod Lib.objectInit).before a0 Z = true) (w3 : (Jvm.Cond.code Lib.objectInit ⟨#[0xb1]⟩ 1 none).before a0 Z = true) (hsz : ls.size = maxL) (hf : 1 ≤ R.frames) (hW1 : (stk.map fun v => v.category).sum ≤ W1) (hl : W1 + 12 ≤ R.locals) (hp : pc + 3 = pc')
    (k : Go l Z n0 R code maxL y ret D W cells slots pc' ls stk F) : Go l Z n0 R code maxL y ret D W cells slots pc ls (.ref a :: stk) F := by
  subst hp
  obtain ⟨p, e, s, m, args, below, meth, c⟩ := D
  intro hx hZ hby hml hown hnm hret hlk T locs X N Wd
  obtain ⟨T', X', e', st⟩ := initO X hx hZ hown w1 w2 w3 rfl (g := mkF m pc ls (.ref a :: stk)) rfl (hsz.trans hml.symm) rfl (hb hby hd) hf (W := W1) (by show 2 * 0 + _ ≤ _; omega) hl
  obtain ⟨s₂, o, h1, h2⟩ := k hx hZ hby hml hown hnm hret hlk T' _ X' N (e' ▸ Wd)
  exact ⟨s₂, o, st _ h1, h2⟩
/-! calls by contract -/
theorem Go.callS {idx W1 cells' slots' maxL' : Nat} {y' : MethodName} {bytes' : ByteArray} {ret' : Option FieldType} {rm : Room} {argsL rest : List Value} {F' : Option Value → Wld → Prop} (hd : decode code pc = .ok (.invokestatic idx, 3)) (w1 : (Jvm.Cond.methodLink y.cls idx y').before a0 Z = true) (w2 : (Jvm.Cond.static y').before a0 Z = true) (w3 : (Jvm.Cond.initialized y'.cls).before a0 Z = true) (w4 : (Jvm.Cond.code y' bytes' maxL' ret').before a0 Z = true)
    (hy : y'.cls ≠ "java/lang/invoke/MethodHandle" ∧ y'.cls ≠ "java/lang/invoke/VarHandle") (M : Meets l Z n0 y' bytes' maxL' ret' rm [] argsL.toArray W F') (hfr : rm.frames + 1 ≤ R.frames) (hlo : W1 + (maxL' + 11) + rm.locals ≤ R.locals) (hsz : ls.size = maxL) (hlen : ∀ sig, parseMethodDescriptor y'.desc = some sig → argsL.length = sig.parameters.length) (hst : stk = argsL.reverse ++ rest) (hW1 : (rest.map fun v => v.category).sum ≤ W1)
    (hcells : cells + rm.cells ≤ R.cells) (hslots : slots + rm.slots ≤ R.slots) (ec : cells + rm.cells = cells') (es : slots + rm.slots = slots') (hp : pc + 3 = pc') (k : ∀ v W', F' v W' → Go l Z n0 R code maxL y ret D W' cells' slots' pc' ls (v.toList ++ rest) F) : Go l Z n0 R code maxL y ret D W cells slots pc ls stk F := by
  subst hp ec es
  obtain ⟨p, e, s, m, args, below, meth, c⟩ := D
  intro hx hZ hby hml hown hnm hret hlk T locs X N Wd
  obtain ⟨v, _, ⟨T', L', k', n'⟩, -, X', ⟨Lc, ⟨hFr, W', hWd, hF⟩, l1, y1, z1⟩, st⟩ := Jvm.LawKit.callS X hx hown (mvT hZ w1) (mvT hZ w2) (mvT hZ w3) (mvT hZ w4) hy (backOf (W := W1) (h := T.heap) (Q := fun v h L => Fr n0 L ∧ ∃ W', World Z n0 h W' ∧ F' v W') (M T.heap Wd) hZ w4 w3 hfr hlo) (g := mkF m pc ls stk) rfl (hsz.trans hml.symm) hlen hst (by show 2 * 0 + _ ≤ _; omega) (hb hby hd) (fun _ _ => ⟨rfl, rfl, hcells, hslots⟩)
  dsimp only [Pt.U, Pt.locs, Pt.cells, Pt.slots] at X' l1 y1 z1 st hWd
  subst l1 y1 z1
  obtain ⟨s₂, o, h1, h2⟩ := k v W' hF hx hZ hby hml hown hnm hret hlk T' _ X' (Fr.app N hFr) hWd
  exact ⟨s₂, o, st _ h1, h2⟩
theorem Go.callI {idx W1 cells' slots' maxL' : Nat} {y' : MethodName} {bytes' : ByteArray} {rm : Room} {a : Addr} {argsL rest : List Value} {F' : Option Value → Wld → Prop} (hd : decode code pc = .ok (.invokespecial idx, 3)) (hy1 : y'.name = "<init>") (w1 : (Jvm.Cond.methodLink y.cls idx y').before a0 Z = true) (w2 : (Jvm.Cond.instanceMethod y').before a0 Z = true) (w3 : (Jvm.Cond.initialized y'.cls).before a0 Z = true) (w4 : (Jvm.Cond.code y' bytes' maxL' none).before a0 Z = true)
    (hy : y'.cls ≠ "java/lang/invoke/MethodHandle" ∧ y'.cls ≠ "java/lang/invoke/VarHandle") (M : Meets l Z n0 y' bytes' maxL' none rm [] (.ref a :: argsL).toArray W F') (hfr : rm.frames + 1 ≤ R.frames) (hlo : W1 + (maxL' + 11) + rm.locals ≤ R.locals) (hsz : ls.size = maxL) (hlen : ∀ sig, parseMethodDescriptor y'.desc = some sig → argsL.length = sig.parameters.length) (hst : stk = argsL.reverse ++ .ref a :: rest) (hW1 : (rest.map fun v => v.category).sum ≤ W1)
    (hcells : cells + rm.cells ≤ R.cells) (hslots : slots + rm.slots ≤ R.slots) (ec : cells + rm.cells = cells') (es : slots + rm.slots = slots') (hp : pc + 3 = pc') (k : ∀ v W', F' v W' → Go l Z n0 R code maxL y ret D W' cells' slots' pc' ls (v.toList ++ rest) F) : Go l Z n0 R code maxL y ret D W cells slots pc ls stk F := by
  subst hp ec es
  obtain ⟨p, e, s, m, args, below, meth, c⟩ := D
  intro hx hZ hby hml hown hnm hret hlk T locs X N Wd
  obtain ⟨v, _, ⟨T', L', k', n'⟩, -, X', ⟨Lc, ⟨hFr, W', hWd, hF⟩, l1, y1, z1⟩, st⟩ := X.specialBack hx hy1 hown (mvT hZ w1) (mvT hZ w2) (mvT hZ w4) hy (backOf (W := W1) (h := T.heap) (Q := fun v h L => Fr n0 L ∧ ∃ W', World Z n0 h W' ∧ F' v W') (M T.heap Wd) hZ w4 w3 hfr hlo) (g := mkF m pc ls stk) rfl (hsz.trans hml.symm) (Steps.refl _) hlen hst (by show 2 * 0 + _ ≤ _; omega) (hb hby hd) (fun _ _ => ⟨rfl, rfl, hcells, hslots⟩)
  dsimp only [Pt.U, Pt.locs, Pt.cells, Pt.slots] at X' l1 y1 z1 st hWd
  subst l1 y1 z1
  obtain ⟨s₂, o, h1, h2⟩ := k v W' hF hx hZ hby hml hown hnm hret hlk T' _ X' (Fr.app N hFr) hWd
  exact ⟨s₂, o, st.trans h1, h2⟩
theorem Go.callV {idx W1 cells' slots' maxL' i : Nat} {C : String} {fs : List (String × String × Value)} {y' : MethodName} {bytes' : ByteArray} {ret' : Option FieldType} {rm : Room} {a : Addr} {argsL rest : List Value} {F' : Option Value → Wld → Prop} (hd : decode code pc = .ok (.invokevirtual idx, 3)) (w1 : (Jvm.Cond.methodLink y.cls idx y').before a0 Z = true) (w2 : (Jvm.Cond.declares y').before a0 Z = true) (w3 : (Jvm.Cond.selects C y' y').before a0 Z = true) (w4 : (Jvm.Cond.instanceMethod y').before a0 Z = true) (w5 : (Jvm.Cond.initialized y'.cls).before a0 Z = true) (w6 : (Jvm.Cond.code y' bytes' maxL' ret').before a0 Z = true)
    (hy : y'.cls ≠ "java/lang/invoke/MethodHandle" ∧ y'.cls ≠ "java/lang/invoke/VarHandle") (hi : W[i]? = some (a, .inl (C, fs))) (M : Meets l Z n0 y' bytes' maxL' ret' rm [] (.ref a :: argsL).toArray W F') (hfr : rm.frames + 1 ≤ R.frames) (hlo : W1 + (maxL' + 11) + rm.locals ≤ R.locals) (hsz : ls.size = maxL) (hlen : ∀ sig, parseMethodDescriptor y'.desc = some sig → argsL.length = sig.parameters.length) (hst : stk = argsL.reverse ++ .ref a :: rest) (hW1 : (rest.map fun v => v.category).sum ≤ W1)
    (hcells : cells + rm.cells ≤ R.cells) (hslots : slots + rm.slots ≤ R.slots) (ec : cells + rm.cells = cells') (es : slots + rm.slots = slots') (hp : pc + 3 = pc') (k : ∀ v W', F' v W' → Go l Z n0 R code maxL y ret D W' cells' slots' pc' ls (v.toList ++ rest) F) : Go l Z n0 R code maxL y ret D W cells slots pc ls stk F := by
  subst hp ec es
  obtain ⟨p, e, s, m, args, below, meth, c⟩ := D
  intro hx hZ hby hml hown hnm hret hlk T locs X N Wd
  obtain ⟨cq, kq, qa, qb, qc⟩ := isOf (T := T) hZ rfl (Wd.get hi).2.1
  obtain ⟨v, _, ⟨T', L', k', n'⟩, -, X', ⟨Lc, ⟨hFr, W', hWd, hF⟩, l1, y1, z1⟩, st⟩ := X.virtualBack hx (y := y') (z := y') hown (mvT hZ w1) (mvT hZ w2) (notFace_of_selects (args := #[]) (mvT hZ w3)) (mvT hZ w3) (mvT hZ w4) hy (backOf (W := W1) (h := T.heap) (Q := fun v h L => Fr n0 L ∧ ∃ W', World Z n0 h W' ∧ F' v W') (M T.heap Wd) hZ w6 w5 hfr hlo) qa qc (g := mkF m pc ls stk) rfl (hsz.trans hml.symm) (Steps.refl _) hlen hst (by show 2 * 0 + _ ≤ _; omega) (hb hby hd) (fun _ _ => ⟨rfl, rfl, hcells, hslots⟩)
  dsimp only [Pt.U, Pt.locs, Pt.cells, Pt.slots] at X' l1 y1 z1 st hWd
  subst l1 y1 z1
  obtain ⟨s₂, o, h1, h2⟩ := k v W' hF hx hZ hby hml hown hnm hret hlk T' _ X' (Fr.app N hFr) hWd
  exact ⟨s₂, o, st.trans h1, h2⟩
theorem Go.callP {idx W1 cells' slots' maxL' i kk : Nat} {fs : List (String × String × Value)} {y' : MethodName} {bytes' : ByteArray} {ret' : Option FieldType} {rm : Room} {a : Addr} {argsL rest : List Value} {F' : Option Value → Wld → Prop} (hd : decode code pc = .ok (.invokevirtual idx, 3)) (w1 : (Jvm.Cond.methodLink y.cls idx y').before a0 Z = true) (w2 : (Jvm.Cond.instanceMethod y').before a0 Z = true) (w3 : (Jvm.Cond.privateMethod y').before a0 Z = true) (w4 : (Jvm.Cond.instantiable y'.cls kk).before a0 Z = true) (w5 : (Jvm.Cond.initialized y'.cls).before a0 Z = true) (w6 : (Jvm.Cond.code y' bytes' maxL' ret').before a0 Z = true)
    (hy : y'.cls ≠ "java/lang/invoke/MethodHandle" ∧ y'.cls ≠ "java/lang/invoke/VarHandle") (hi : W[i]? = some (a, .inl (y'.cls, fs))) (M : Meets l Z n0 y' bytes' maxL' ret' rm [] (.ref a :: argsL).toArray W F') (hfr : rm.frames + 1 ≤ R.frames) (hlo : W1 + (maxL' + 11) + rm.locals ≤ R.locals) (hsz : ls.size = maxL) (hlen : ∀ sig, parseMethodDescriptor y'.desc = some sig → argsL.length = sig.parameters.length) (hst : stk = argsL.reverse ++ .ref a :: rest) (hW1 : (rest.map fun v => v.category).sum ≤ W1)
    (hcells : cells + rm.cells ≤ R.cells) (hslots : slots + rm.slots ≤ R.slots) (ec : cells + rm.cells = cells') (es : slots + rm.slots = slots') (hp : pc + 3 = pc') (k : ∀ v W', F' v W' → Go l Z n0 R code maxL y ret D W' cells' slots' pc' ls (v.toList ++ rest) F) : Go l Z n0 R code maxL y ret D W cells slots pc ls stk F := by
  subst hp ec es
  obtain ⟨p, e, s, m, args, below, meth, c⟩ := D
  intro hx hZ hby hml hown hnm hret hlk T locs X N Wd
  obtain ⟨cl, q1, q2⟩ := (Wd.get hi).2.1.cell
  have hpr : s.PrivateAt y' := Cond.privateMethod_at (mvP hZ w3 (args := #[]))
  obtain ⟨cB, kB, b1, b2, b3, b4⟩ := Cond.instantiable_spec (mv (args := args) hZ w4)
  obtain ⟨v, _, ⟨T', L', k', n'⟩, -, X', ⟨Lc, ⟨hFr, W', hWd, hF⟩, l1, y1, z1⟩, st⟩ := X.privateBack hx (y := y') hown (mvT hZ w1) (mvT hZ w2) (selects_self_of_private b1 b2 (Bool.or_eq_false_iff.mp b4.1).1 hpr (mvT hZ w2) hy) hpr (mvT hZ w6) hy (backOf (W := W1) (h := T.heap) (Q := fun v h L => Fr n0 L ∧ ∃ W', World Z n0 h W' ∧ F' v W') (M T.heap Wd) hZ w6 w5 hfr hlo) (g := mkF m pc ls stk) rfl (hsz.trans hml.symm) (Steps.refl _) (a := a) q1 q2 hlen hst (by show 2 * 0 + _ ≤ _; omega) (hb hby hd) (fun _ _ => ⟨rfl, rfl, hcells, hslots⟩)
  dsimp only [Pt.U, Pt.locs, Pt.cells, Pt.slots] at X' l1 y1 z1 st hWd
  subst l1 y1 z1
  obtain ⟨s₂, o, h1, h2⟩ := k v W' hF hx hZ hby hml hown hnm hret hlk T' _ X' (Fr.app N hFr) hWd
  exact ⟨s₂, o, st.trans h1, h2⟩
theorem Go.more {cells' slots' : Nat} (hc : cells ≤ cells') (hs : slots ≤ slots') (k : Go l Z n0 R code maxL y ret D W cells' slots' pc ls stk F) : Go l Z n0 R code maxL y ret D W cells slots pc ls stk F := by
  obtain ⟨p, e, s, m, args, below, meth, c⟩ := D
  intro hx hZ hby hml hown hnm hret hlk T locs X N Wd
  exact k hx hZ hby hml hown hnm hret hlk T locs (X.more hc hs) N Wd
/-! leaving -/
theorem Go.out {v : Option Value} (hv : ret = none → v = none) (hcells : cells ≤ R.cells) (hslots : slots ≤ R.slots) (st : ∀ (p : Program) (e : Env) (s : State) (m : MethodId) (args : Array Value) (below : List Frame) (meth : Method) (c : Code) (T : State) (locs : List Loc), p.tables.exec = Jvm.exec → c.code = code → meth.sig.returnType = ret → Stand p l e R s m args below meth c T locs cells slots → ∀ fs : List Frame,
      (∀ (f : JFrame) (acts : List Action), f.method = m → f.locked = none → f.entered = [] → (doReturn e (T.setTop f) acts v).1 = T.setFrames fs) → Steps p.tables e below (T.setTop (mkF m pc ls stk)) (T.setFrames fs)) (hF : F v W) : Go l Z n0 R code maxL y ret D W cells slots pc ls stk F := by
  obtain ⟨p, e, s, m, args, below, meth, c⟩ := D
  intro hx hZ hby hml hown hnm hret hlk T locs X N Wd
  obtain ⟨fs, hr, hrun, hended, hW, hsame⟩ := X.leave (v := v) (fun h => hv (hret ▸ h)) hlk
  exact ⟨_, _, st p e s m args below meth c T locs hx hby hret X fs hr, hrun, hended, v, locs, rfl, ⟨N, W, Wd, hF⟩, ⟨_, rfl⟩, hW, hsame.mono hcells hslots⟩
theorem Go.retV (hd : decode code pc = .ok (.return_, 1)) (hret : ret = none) (hcells : cells ≤ R.cells) (hslots : slots ≤ R.slots) (hF : F none W) : Go l Z n0 R code maxL y ret D W cells slots pc ls [] F := by
  subst hret; exact Go.out (fun _ => rfl) hcells hslots (fun p e s m args below meth c T locs hx hby hret X fs hr => X.returnOut hx hret (hb hby hd) hr) hF
theorem Go.retI {z : Int32} (hd : decode code pc = .ok (.ireturn, 1)) (hret : ret = some .int) (hcells : cells ≤ R.cells) (hslots : slots ≤ R.slots) (hF : F (some (.int z)) W) : Go l Z n0 R code maxL y ret D W cells slots pc ls (.int z :: stk) F := by
  subst hret; exact Go.out (fun h => nomatch h) hcells hslots (fun p e s m args below meth c T locs hx hby hret X fs hr => retOut X hx hret rfl (Or.inl ⟨rfl, Or.inl rfl, z, rfl⟩) (hb hby hd) hr) hF
theorem Go.retZ {z z' : Int32} (hd : decode code pc = .ok (.ireturn, 1)) (hret : ret = some .boolean) (hz : z &&& 1 = z') (hcells : cells ≤ R.cells) (hslots : slots ≤ R.slots) (hF : F (some (.int z')) W) : Go l Z n0 R code maxL y ret D W cells slots pc ls (.int z :: stk) F := by
  subst hret hz; exact Go.out (fun h => nomatch h) hcells hslots (fun p e s m args below meth c T locs hx hby hret X fs hr => retN X hx (t := .boolean) hret (Or.inl rfl) (hb hby hd) hr) hF
theorem Go.retJ {z : Int64} (hd : decode code pc = .ok (.lreturn, 1)) (hret : ret = some .long) (hcells : cells ≤ R.cells) (hslots : slots ≤ R.slots) (hF : F (some (.long z)) W) : Go l Z n0 R code maxL y ret D W cells slots pc ls (.long z :: stk) F := by
  subst hret; exact Go.out (fun h => nomatch h) hcells hslots (fun p e s m args below meth c T locs hx hby hret X fs hr => retOut X hx hret rfl (Or.inr (Or.inl ⟨rfl, rfl, z, rfl⟩)) (hb hby hd) hr) hF
theorem Go.retA {v : Value} {t : FieldType} (hd : decode code pc = .ok (.areturn, 1)) (hret : ret = some t) (ht : t.isReference = true) (hv : v.isRef = true) (hn : narrow t v = v) (hcells : cells ≤ R.cells) (hslots : slots ≤ R.slots) (hF : F (some v) W) : Go l Z n0 R code maxL y ret D W cells slots pc ls (v :: stk) F := by
  subst hret; exact Go.out (fun h => nomatch h) hcells hslots (fun p e s m args below meth c T locs hx hby hret X fs hr => retOut X hx hret hn (Or.inr (Or.inr (Or.inr (Or.inr ⟨rfl, ht, hv⟩)))) (hb hby hd) hr) hF
theorem Go.alenB {i : Nat} {a : Addr} {vs : List Int32} {n : Int32} (hd : decode code pc = .ok (.arraylength, 1)) (hi : W[i]? = some (a, .inr vs)) (hn : vs.length.toInt32 = n) (hp : pc + 1 = pc')
    (k : Go l Z n0 R code maxL y ret D W cells slots pc' ls (.int n :: stk) F) : Go l Z n0 R code maxL y ret D W cells slots pc ls (.ref a :: stk) F := by
  subst hp hn
  refine Go.plain (fun p e s m args below meth c T locs hx hZ hby hown X Wd target h => ?_) k
  obtain ⟨cl, A, e1, -⟩ := (Wd.get hi).2
  exact X.arraylength hx A.1 (State.isArrayOf_alike hZ.alike A.2.1) (g := mkF m pc ls (.ref a :: stk)) rfl rfl (hb hby hd) target (by rw [own_size e1]; exact h)
theorem Go.baload {i : Nat} {a : Addr} {vs : List Int32} {j x : Int32} (hd : decode code pc = .ok (.baload, 1)) (hi : W[i]? = some (a, .inr vs)) (hj : ¬ j < 0) (hv : vs[j.toNatClampNeg]? = some x) (hp : pc + 1 = pc')
    (k : Go l Z n0 R code maxL y ret D W cells slots pc' ls (.int x :: stk) F) : Go l Z n0 R code maxL y ret D W cells slots pc ls (.int j :: .ref a :: stk) F := by
  subst hp
  refine Go.plain (fun p e s m args below meth c T locs hx hZ hby hown X Wd target h => ?_) k
  obtain ⟨cl, A, e1, -⟩ := (Wd.get hi).2
  have hlt := (List.getElem?_eq_some_iff.mp hv).1
  exact X.baloadBytes hx A.1 (State.isArrayOf_alike hZ.alike A.2.1) A.2.2 (own_in hj hlt (own_size e1)) (by rw [e1]; simp [hv]) (g := mkF m pc ls (.int j :: .ref a :: stk)) rfl rfl (hb hby hd) target h
theorem Go.getCompact {idx : Nat} (hd : decode code pc = .ok (.getstatic idx, 3)) (w : (Jvm.Cond.fieldLink y.cls idx "java/lang/String" "COMPACT_STRINGS" "Z").before a0 Z = true) (hp : pc + 3 = pc')
    (k : ∀ cs : Int32, ¬ cs = 0 → Go l Z n0 R code maxL y ret D W cells slots pc' ls (.int cs :: stk) F) : Go l Z n0 R code maxL y ret D W cells slots pc ls stk F := by
  subst hp
  obtain ⟨p, e, s, m, args, below, meth, c⟩ := D
  intro hx hZ hby hml hown hnm hret hlk T locs X N Wd
  obtain ⟨cs, h0, S⟩ := Wd.2.2.1
  obtain ⟨T', X', e', st⟩ := getS (host := "") X hx hZ hown w Via.refl rfl S (g := mkF m pc ls stk) rfl (hb hby hd)
  obtain ⟨s₂, o, h1, h2⟩ := k cs h0 hx hZ hby hml hown hnm hret hlk T' locs X' N (e' ▸ Wd)
  exact ⟨s₂, o, st _ h1, h2⟩
theorem Go.getFormatter {idx : Nat} (hd : decode code pc = .ok (.getstatic idx, 3)) (w : (Jvm.Cond.fieldLink y.cls idx "jdk/internal/util/Preconditions" "SIOOBE_FORMATTER" "Ljava/util/function/BiFunction;").before a0 Z = true) (hp : pc + 3 = pc')
    (k : ∀ v : Value, v.isRef = true → Go l Z n0 R code maxL y ret D W cells slots pc' ls (v :: stk) F) : Go l Z n0 R code maxL y ret D W cells slots pc ls stk F := by
  subst hp
  obtain ⟨p, e, s, m, args, below, meth, c⟩ := D
  intro hx hZ hby hml hown hnm hret hlk T locs X N Wd
  obtain ⟨v, h0, S⟩ := Wd.2.2.2
  obtain ⟨T', X', e', st⟩ := getS (host := "") X hx hZ hown w Via.refl rfl S (g := mkF m pc ls stk) rfl (hb hby hd)
  obtain ⟨s₂, o, h1, h2⟩ := k v h0 hx hZ hby hml hown hnm hret hlk T' locs X' N (e' ▸ Wd)
  exact ⟨s₂, o, st _ h1, h2⟩
theorem Go.retC {z z' : Int32} (hd : decode code pc = .ok (.ireturn, 1)) (hret : ret = some .char) (hz : z.toUInt32.toUInt16.toUInt32.toInt32 = z') (hcells : cells ≤ R.cells) (hslots : slots ≤ R.slots) (hF : F (some (.int z')) W) : Go l Z n0 R code maxL y ret D W cells slots pc ls (.int z :: stk) F := by
  subst hret hz; exact Go.out (fun h => nomatch h) hcells hslots (fun p e s m args below meth c T locs hx hby hret X fs hr => retN X hx (t := .char) hret (Or.inr (Or.inr (Or.inl rfl))) (hb hby hd) hr) hF
end OwnSteps
def hexF (c : Int32) : Int32 :=
  if ¬ c < 48 ∧ ¬ 57 < c then c - 48 else if ¬ c < 65 ∧ ¬ 70 < c then c - 65 + 10 else if ¬ c < 97 ∧ ¬ 102 < c then c - 97 + 10 else -1
theorem d1_0 : decode prog_18_method_2_code 0 = .ok (.iload_n 0, 1) := by decide +kernel
theorem d1_1 : decode prog_18_method_2_code 1 = .ok (.bipush 48, 2) := by decide +kernel
theorem d1_3 : decode prog_18_method_2_code 3 = .ok (.if_icmp .lt 14, 3) := by decide +kernel
theorem d1_6 : decode prog_18_method_2_code 6 = .ok (.iload_n 0, 1) := by decide +kernel
theorem d1_7 : decode prog_18_method_2_code 7 = .ok (.bipush 57, 2) := by decide +kernel
theorem d1_9 : decode prog_18_method_2_code 9 = .ok (.if_icmp .gt 8, 3) := by decide +kernel
theorem d1_12 : decode prog_18_method_2_code 12 = .ok (.iload_n 0, 1) := by decide +kernel
theorem d1_13 : decode prog_18_method_2_code 13 = .ok (.bipush 48, 2) := by decide +kernel
theorem d1_15 : decode prog_18_method_2_code 15 = .ok (.isub, 1) := by decide +kernel
theorem d1_16 : decode prog_18_method_2_code 16 = .ok (.ireturn, 1) := by decide +kernel
theorem d1_17 : decode prog_18_method_2_code 17 = .ok (.iload_n 0, 1) := by decide +kernel
theorem d1_18 : decode prog_18_method_2_code 18 = .ok (.bipush 65, 2) := by decide +kernel
theorem d1_20 : decode prog_18_method_2_code 20 = .ok (.if_icmp .lt 17, 3) := by decide +kernel
theorem d1_23 : decode prog_18_method_2_code 23 = .ok (.iload_n 0, 1) := by decide +kernel
theorem d1_24 : decode prog_18_method_2_code 24 = .ok (.bipush 70, 2) := by decide +kernel
theorem d1_26 : decode prog_18_method_2_code 26 = .ok (.if_icmp .gt 11, 3) := by decide +kernel
theorem d1_29 : decode prog_18_method_2_code 29 = .ok (.iload_n 0, 1) := by decide +kernel
theorem d1_30 : decode prog_18_method_2_code 30 = .ok (.bipush 65, 2) := by decide +kernel
theorem d1_32 : decode prog_18_method_2_code 32 = .ok (.isub, 1) := by decide +kernel
theorem d1_33 : decode prog_18_method_2_code 33 = .ok (.bipush 10, 2) := by decide +kernel
theorem d1_35 : decode prog_18_method_2_code 35 = .ok (.iadd, 1) := by decide +kernel
theorem d1_36 : decode prog_18_method_2_code 36 = .ok (.ireturn, 1) := by decide +kernel
theorem d1_37 : decode prog_18_method_2_code 37 = .ok (.iload_n 0, 1) := by decide +kernel
theorem d1_38 : decode prog_18_method_2_code 38 = .ok (.bipush 97, 2) := by decide +kernel
theorem d1_40 : decode prog_18_method_2_code 40 = .ok (.if_icmp .lt 17, 3) := by decide +kernel
theorem d1_43 : decode prog_18_method_2_code 43 = .ok (.iload_n 0, 1) := by decide +kernel
theorem d1_44 : decode prog_18_method_2_code 44 = .ok (.bipush 102, 2) := by decide +kernel
theorem d1_46 : decode prog_18_method_2_code 46 = .ok (.if_icmp .gt 11, 3) := by decide +kernel
theorem d1_49 : decode prog_18_method_2_code 49 = .ok (.iload_n 0, 1) := by decide +kernel
theorem d1_50 : decode prog_18_method_2_code 50 = .ok (.bipush 97, 2) := by decide +kernel
theorem d1_52 : decode prog_18_method_2_code 52 = .ok (.isub, 1) := by decide +kernel
theorem d1_53 : decode prog_18_method_2_code 53 = .ok (.bipush 10, 2) := by decide +kernel
theorem d1_55 : decode prog_18_method_2_code 55 = .ok (.iadd, 1) := by decide +kernel
theorem d1_56 : decode prog_18_method_2_code 56 = .ok (.ireturn, 1) := by decide +kernel
theorem d1_57 : decode prog_18_method_2_code 57 = .ok (.iconst (-1), 1) := by decide +kernel
theorem d1_58 : decode prog_18_method_2_code 58 = .ok (.ireturn, 1) := by decide +kernel
set_option maxRecDepth 65536 in
set_option maxHeartbeats 40000000 in
theorem rm1 (l : Launch) (Z : State) (n0 : Nat) (w0 : Array Value) (hw : ∀ d ∈ tables_1, d.before w0 Z = true) (p0 : Int32) (W : Wld) :
    Meets l Z n0 (⟨"com/example/meyrin/meyrin/locator/Characters", "hexValue", "(C)I"⟩ : MethodName) prog_18_method_2_code 1 (some .int) ({ frames := 0, cells := 0, slots := 0, locals := 0 } : Room) [] #[(.int p0)] W (fun v W' => v = some (.int (hexF p0)) ∧ W' = W) := by
  refine Meets.of_go (ls := #[.val (.int p0)]) (plainFor_of_name (by first | (simp [plainName, overriddenIn]; done) | decide +kernel)) (fun m => by first | (simp [entryFrame, mkF, argsToLocals, Value.category, maxLocals]; done) | rfl) (fun D => ?_)
  refine Go.iloadN (pc' := 1) d1_0 rfl rfl ?_
  refine Go.bipush (pc' := 3) (v := (48 : Int32)) d1_1 rfl rfl ?_
  refine Go.icmp_lt (pcY := 17) (pcN := 6) d1_3 (by decide) (by decide) rfl (fun hc3 => ?_) (fun hc3 => ?_)
  ·
    refine Go.iloadN (pc' := 18) d1_17 rfl rfl ?_
    refine Go.bipush (pc' := 20) (v := (65 : Int32)) d1_18 rfl rfl ?_
    refine Go.icmp_lt (pcY := 37) (pcN := 23) d1_20 (by decide) (by decide) rfl (fun hc20 => ?_) (fun hc20 => ?_)
    ·
      refine Go.iloadN (pc' := 38) d1_37 rfl rfl ?_
      refine Go.bipush (pc' := 40) (v := (97 : Int32)) d1_38 rfl rfl ?_
      refine Go.icmp_lt (pcY := 57) (pcN := 43) d1_40 (by decide) (by decide) rfl (fun hc40 => ?_) (fun hc40 => ?_)
      ·
        refine Go.iconst (pc' := 58) (v := (-1 : Int32)) d1_57 rfl rfl ?_
        exact Go.retI d1_58 rfl (by decide) (by decide) ⟨by rw [hexF, if_neg (fun q => q.1 hc3), if_neg (fun q => q.1 hc20), if_neg (fun q => q.1 hc40)], rfl⟩
      ·
        refine Go.iloadN (pc' := 44) d1_43 rfl rfl ?_
        refine Go.bipush (pc' := 46) (v := (102 : Int32)) d1_44 rfl rfl ?_
        refine Go.icmp_gt (pcY := 57) (pcN := 49) d1_46 (by decide) (by decide) rfl (fun hc46 => ?_) (fun hc46 => ?_)
        ·
          refine Go.iconst (pc' := 58) (v := (-1 : Int32)) d1_57 rfl rfl ?_
          exact Go.retI d1_58 rfl (by decide) (by decide) ⟨by rw [hexF, if_neg (fun q => q.1 hc3), if_neg (fun q => q.1 hc20), if_neg (fun q => q.2 hc46)], rfl⟩
        ·
          refine Go.iloadN (pc' := 50) d1_49 rfl rfl ?_
          refine Go.bipush (pc' := 52) (v := (97 : Int32)) d1_50 rfl rfl ?_
          refine Go.isub (pc' := 53) d1_52 rfl ?_
          refine Go.bipush (pc' := 55) (v := (10 : Int32)) d1_53 rfl rfl ?_
          refine Go.iadd (pc' := 56) d1_55 rfl ?_
          exact Go.retI d1_56 rfl (by decide) (by decide) ⟨by rw [hexF, if_neg (fun q => q.1 hc3), if_neg (fun q => q.1 hc20), if_pos ⟨hc40, hc46⟩], rfl⟩
    ·
      refine Go.iloadN (pc' := 24) d1_23 rfl rfl ?_
      refine Go.bipush (pc' := 26) (v := (70 : Int32)) d1_24 rfl rfl ?_
      refine Go.icmp_gt (pcY := 37) (pcN := 29) d1_26 (by decide) (by decide) rfl (fun hc26 => ?_) (fun hc26 => ?_)
      ·
        refine Go.iloadN (pc' := 38) d1_37 rfl rfl ?_
        refine Go.bipush (pc' := 40) (v := (97 : Int32)) d1_38 rfl rfl ?_
        refine Go.icmp_lt (pcY := 57) (pcN := 43) d1_40 (by decide) (by decide) rfl (fun hc40 => ?_) (fun hc40 => ?_)
        ·
          refine Go.iconst (pc' := 58) (v := (-1 : Int32)) d1_57 rfl rfl ?_
          exact Go.retI d1_58 rfl (by decide) (by decide) ⟨by rw [hexF, if_neg (fun q => q.1 hc3), if_neg (fun q => q.2 hc26), if_neg (fun q => q.1 hc40)], rfl⟩
        ·
          refine Go.iloadN (pc' := 44) d1_43 rfl rfl ?_
          refine Go.bipush (pc' := 46) (v := (102 : Int32)) d1_44 rfl rfl ?_
          refine Go.icmp_gt (pcY := 57) (pcN := 49) d1_46 (by decide) (by decide) rfl (fun hc46 => ?_) (fun hc46 => ?_)
          ·
            refine Go.iconst (pc' := 58) (v := (-1 : Int32)) d1_57 rfl rfl ?_
            exact Go.retI d1_58 rfl (by decide) (by decide) ⟨by rw [hexF, if_neg (fun q => q.1 hc3), if_neg (fun q => q.2 hc26), if_neg (fun q => q.2 hc46)], rfl⟩
          ·
            refine Go.iloadN (pc' := 50) d1_49 rfl rfl ?_
            refine Go.bipush (pc' := 52) (v := (97 : Int32)) d1_50 rfl rfl ?_
            refine Go.isub (pc' := 53) d1_52 rfl ?_
            refine Go.bipush (pc' := 55) (v := (10 : Int32)) d1_53 rfl rfl ?_
            refine Go.iadd (pc' := 56) d1_55 rfl ?_
            exact Go.retI d1_56 rfl (by decide) (by decide) ⟨by rw [hexF, if_neg (fun q => q.1 hc3), if_neg (fun q => q.2 hc26), if_pos ⟨hc40, hc46⟩], rfl⟩
      ·
        refine Go.iloadN (pc' := 30) d1_29 rfl rfl ?_
        refine Go.bipush (pc' := 32) (v := (65 : Int32)) d1_30 rfl rfl ?_
        refine Go.isub (pc' := 33) d1_32 rfl ?_
        refine Go.bipush (pc' := 35) (v := (10 : Int32)) d1_33 rfl rfl ?_
        refine Go.iadd (pc' := 36) d1_35 rfl ?_
        exact Go.retI d1_36 rfl (by decide) (by decide) ⟨by rw [hexF, if_neg (fun q => q.1 hc3), if_pos ⟨hc20, hc26⟩], rfl⟩
  ·
    refine Go.iloadN (pc' := 7) d1_6 rfl rfl ?_
    refine Go.bipush (pc' := 9) (v := (57 : Int32)) d1_7 rfl rfl ?_
    refine Go.icmp_gt (pcY := 17) (pcN := 12) d1_9 (by decide) (by decide) rfl (fun hc9 => ?_) (fun hc9 => ?_)
    ·
      refine Go.iloadN (pc' := 18) d1_17 rfl rfl ?_
      refine Go.bipush (pc' := 20) (v := (65 : Int32)) d1_18 rfl rfl ?_
      refine Go.icmp_lt (pcY := 37) (pcN := 23) d1_20 (by decide) (by decide) rfl (fun hc20 => ?_) (fun hc20 => ?_)
      ·
        refine Go.iloadN (pc' := 38) d1_37 rfl rfl ?_
        refine Go.bipush (pc' := 40) (v := (97 : Int32)) d1_38 rfl rfl ?_
        refine Go.icmp_lt (pcY := 57) (pcN := 43) d1_40 (by decide) (by decide) rfl (fun hc40 => ?_) (fun hc40 => ?_)
        ·
          refine Go.iconst (pc' := 58) (v := (-1 : Int32)) d1_57 rfl rfl ?_
          exact Go.retI d1_58 rfl (by decide) (by decide) ⟨by rw [hexF, if_neg (fun q => q.2 hc9), if_neg (fun q => q.1 hc20), if_neg (fun q => q.1 hc40)], rfl⟩
        ·
          refine Go.iloadN (pc' := 44) d1_43 rfl rfl ?_
          refine Go.bipush (pc' := 46) (v := (102 : Int32)) d1_44 rfl rfl ?_
          refine Go.icmp_gt (pcY := 57) (pcN := 49) d1_46 (by decide) (by decide) rfl (fun hc46 => ?_) (fun hc46 => ?_)
          ·
            refine Go.iconst (pc' := 58) (v := (-1 : Int32)) d1_57 rfl rfl ?_
            exact Go.retI d1_58 rfl (by decide) (by decide) ⟨by rw [hexF, if_neg (fun q => q.2 hc9), if_neg (fun q => q.1 hc20), if_neg (fun q => q.2 hc46)], rfl⟩
          ·
            refine Go.iloadN (pc' := 50) d1_49 rfl rfl ?_
            refine Go.bipush (pc' := 52) (v := (97 : Int32)) d1_50 rfl rfl ?_
            refine Go.isub (pc' := 53) d1_52 rfl ?_
            refine Go.bipush (pc' := 55) (v := (10 : Int32)) d1_53 rfl rfl ?_
            refine Go.iadd (pc' := 56) d1_55 rfl ?_
            exact Go.retI d1_56 rfl (by decide) (by decide) ⟨by rw [hexF, if_neg (fun q => q.2 hc9), if_neg (fun q => q.1 hc20), if_pos ⟨hc40, hc46⟩], rfl⟩
      ·
        refine Go.iloadN (pc' := 24) d1_23 rfl rfl ?_
        refine Go.bipush (pc' := 26) (v := (70 : Int32)) d1_24 rfl rfl ?_
        refine Go.icmp_gt (pcY := 37) (pcN := 29) d1_26 (by decide) (by decide) rfl (fun hc26 => ?_) (fun hc26 => ?_)
        ·
          refine Go.iloadN (pc' := 38) d1_37 rfl rfl ?_
          refine Go.bipush (pc' := 40) (v := (97 : Int32)) d1_38 rfl rfl ?_
          refine Go.icmp_lt (pcY := 57) (pcN := 43) d1_40 (by decide) (by decide) rfl (fun hc40 => ?_) (fun hc40 => ?_)
          ·
            refine Go.iconst (pc' := 58) (v := (-1 : Int32)) d1_57 rfl rfl ?_
            exact Go.retI d1_58 rfl (by decide) (by decide) ⟨by rw [hexF, if_neg (fun q => q.2 hc9), if_neg (fun q => q.2 hc26), if_neg (fun q => q.1 hc40)], rfl⟩
          ·
            refine Go.iloadN (pc' := 44) d1_43 rfl rfl ?_
            refine Go.bipush (pc' := 46) (v := (102 : Int32)) d1_44 rfl rfl ?_
            refine Go.icmp_gt (pcY := 57) (pcN := 49) d1_46 (by decide) (by decide) rfl (fun hc46 => ?_) (fun hc46 => ?_)
            ·
              refine Go.iconst (pc' := 58) (v := (-1 : Int32)) d1_57 rfl rfl ?_
              exact Go.retI d1_58 rfl (by decide) (by decide) ⟨by rw [hexF, if_neg (fun q => q.2 hc9), if_neg (fun q => q.2 hc26), if_neg (fun q => q.2 hc46)], rfl⟩
            ·
              refine Go.iloadN (pc' := 50) d1_49 rfl rfl ?_
              refine Go.bipush (pc' := 52) (v := (97 : Int32)) d1_50 rfl rfl ?_
              refine Go.isub (pc' := 53) d1_52 rfl ?_
              refine Go.bipush (pc' := 55) (v := (10 : Int32)) d1_53 rfl rfl ?_
              refine Go.iadd (pc' := 56) d1_55 rfl ?_
              exact Go.retI d1_56 rfl (by decide) (by decide) ⟨by rw [hexF, if_neg (fun q => q.2 hc9), if_neg (fun q => q.2 hc26), if_pos ⟨hc40, hc46⟩], rfl⟩
        ·
          refine Go.iloadN (pc' := 30) d1_29 rfl rfl ?_
          refine Go.bipush (pc' := 32) (v := (65 : Int32)) d1_30 rfl rfl ?_
          refine Go.isub (pc' := 33) d1_32 rfl ?_
          refine Go.bipush (pc' := 35) (v := (10 : Int32)) d1_33 rfl rfl ?_
          refine Go.iadd (pc' := 36) d1_35 rfl ?_
          exact Go.retI d1_36 rfl (by decide) (by decide) ⟨by rw [hexF, if_neg (fun q => q.2 hc9), if_pos ⟨hc20, hc26⟩], rfl⟩
    ·
      refine Go.iloadN (pc' := 13) d1_12 rfl rfl ?_
      refine Go.bipush (pc' := 15) (v := (48 : Int32)) d1_13 rfl rfl ?_
      refine Go.isub (pc' := 16) d1_15 rfl ?_
      exact Go.retI d1_16 rfl (by decide) (by decide) ⟨by rw [hexF, if_pos ⟨hc3, hc9⟩], rfl⟩
theorem d3_0 : decode jdk_42_method_154_code 0 = .ok (.getstatic 38, 3) := by decide +kernel
theorem d3_3 : decode jdk_42_method_154_code 3 = .ok (.ifCond .eq 14, 3) := by decide +kernel
theorem d3_6 : decode jdk_42_method_154_code 6 = .ok (.aload_n 0, 1) := by decide +kernel
theorem d3_7 : decode jdk_42_method_154_code 7 = .ok (.getfield 15, 3) := by decide +kernel
theorem d3_10 : decode jdk_42_method_154_code 10 = .ok (.ifCond .ne 7, 3) := by decide +kernel
theorem d3_13 : decode jdk_42_method_154_code 13 = .ok (.iconst 1, 1) := by decide +kernel
theorem d3_14 : decode jdk_42_method_154_code 14 = .ok (.goto 4, 3) := by decide +kernel
theorem d3_18 : decode jdk_42_method_154_code 18 = .ok (.ireturn, 1) := by decide +kernel
set_option maxRecDepth 65536 in
set_option maxHeartbeats 40000000 in
theorem rm3 (l : Launch) (Z : State) (n0 : Nat) (w0 : Array Value) (hw : ∀ d ∈ tables_1, d.before w0 Z = true) (a0 : Addr) (W : Wld) (ia : Nat) (b : Addr) (hia : W[ia]? = some (a0, (.inl ("java/lang/String", [("value", "[B", .ref b), ("coder", "B", .int 0)])))) :
    Meets l Z n0 (⟨"java/lang/String", "isLatin1", "()Z"⟩ : MethodName) jdk_42_method_154_code 1 (some .boolean) ({ frames := 0, cells := 0, slots := 0, locals := 0 } : Room) [] #[(.ref a0)] W (fun v W' => v = some (.int 1) ∧ W' = W) := by
  refine Meets.of_go (ls := #[.val (.ref a0)]) (plainFor_of_name (by first | (simp [plainName, overriddenIn]; done) | decide +kernel)) (fun m => by first | (simp [entryFrame, mkF, argsToLocals, Value.category, maxLocals]; done) | rfl) (fun D => ?_)
  refine Go.getCompact (pc' := 3) d3_0 (hw _ (List.mem_of_getElem? (i := 24) rfl)) rfl (fun cs hcs => ?_)
  refine Go.if_eq (pcY := 17) (pcN := 6) d3_3 (by decide) (by decide) rfl (fun hc3 => absurd hc3 hcs) (fun hc3 => ?_)
  refine Go.aloadN (pc' := 7) d3_6 rfl rfl rfl ?_
  refine Go.getF (pc' := 10) (i := ia) (j := 1) (v := (.int 0)) (host := "") d3_7 (Or.inl (hw _ (List.mem_of_getElem? (i := 25) rfl))) hia rfl rfl ?_
  refine Go.if_ne (pcY := 17) (pcN := 13) d3_10 (by decide) (by decide) rfl (fun hc10 => absurd hc10 (Classical.not_not.mpr rfl)) (fun hc10 => ?_)
  refine Go.iconst (pc' := 14) (v := (1 : Int32)) d3_13 rfl rfl ?_
  refine Go.goto (pc' := 18) d3_14 (by decide) (by decide) ?_
  exact Go.retZ (z' := (1 : Int32)) d3_18 rfl (by decide) (by decide) (by decide) ⟨rfl, rfl⟩
theorem d6_0 : decode jdk_41_method_11_code 0 = .ok (.iload_n 0, 1) := by decide +kernel
theorem d6_1 : decode jdk_41_method_11_code 1 = .ok (.ifCond .lt 8, 3) := by decide +kernel
theorem d6_4 : decode jdk_41_method_11_code 4 = .ok (.iload_n 0, 1) := by decide +kernel
theorem d6_5 : decode jdk_41_method_11_code 5 = .ok (.iload_n 1, 1) := by decide +kernel
theorem d6_6 : decode jdk_41_method_11_code 6 = .ok (.if_icmp .lt 10, 3) := by decide +kernel
theorem d6_16 : decode jdk_41_method_11_code 16 = .ok (.iload_n 0, 1) := by decide +kernel
theorem d6_17 : decode jdk_41_method_11_code 17 = .ok (.ireturn, 1) := by decide +kernel
set_option maxRecDepth 65536 in
set_option maxHeartbeats 40000000 in
theorem rm6 (l : Launch) (Z : State) (n0 : Nat) (w0 : Array Value) (hw : ∀ d ∈ tables_1, d.before w0 Z = true) (p0 p1 : Int32) (v2 : Value) (W : Wld) (hj : ¬ p0 < 0) (hn : p0 < p1) (hv2 : v2.isRef = true) :
    Meets l Z n0 (⟨"jdk/internal/util/Preconditions", "checkIndex", "(IILjava/util/function/BiFunction;)I"⟩ : MethodName) jdk_41_method_11_code 3 (some .int) ({ frames := 0, cells := 0, slots := 0, locals := 0 } : Room) [] #[(.int p0), (.int p1), v2] W (fun v W' => v = some (.int p0) ∧ W' = W) := by
  refine Meets.of_go (ls := #[.val (.int p0), .val (.int p1), .val v2]) (plainFor_of_name (by first | (simp [plainName, overriddenIn]; done) | decide +kernel)) (fun m => by cases v2 <;> first | rfl | (simp [Value.isRef] at hv2)) (fun D => ?_)
  refine Go.iloadN (pc' := 1) d6_0 rfl rfl ?_
  refine Go.if_lt (pcY := 9) (pcN := 4) d6_1 (by decide) (by decide) rfl (fun hc1 => absurd hc1 hj) (fun hc1 => ?_)
  refine Go.iloadN (pc' := 5) d6_4 rfl rfl ?_
  refine Go.iloadN (pc' := 6) d6_5 rfl rfl ?_
  refine Go.icmp_lt (pcY := 16) (pcN := 9) d6_6 (by decide) (by decide) rfl (fun hc6 => ?_) (fun hc6 => absurd hc6 (Classical.not_not.mpr hn))
  refine Go.iloadN (pc' := 17) d6_16 rfl rfl ?_
  exact Go.retI d6_17 rfl (by decide) (by decide) ⟨rfl, rfl⟩
theorem d5_0 : decode jdk_42_method_155_code 0 = .ok (.iload_n 0, 1) := by decide +kernel
theorem d5_1 : decode jdk_42_method_155_code 1 = .ok (.iload_n 1, 1) := by decide +kernel
theorem d5_2 : decode jdk_42_method_155_code 2 = .ok (.getstatic 1053, 3) := by decide +kernel
theorem d5_5 : decode jdk_42_method_155_code 5 = .ok (.invokestatic 1059, 3) := by decide +kernel
theorem d5_8 : decode jdk_42_method_155_code 8 = .ok (.pop, 1) := by decide +kernel
theorem d5_9 : decode jdk_42_method_155_code 9 = .ok (.return_, 1) := by decide +kernel
theorem pd__28IILjava_2futil_2ffunction_2fBiFunction_3b_29I : parseMethodDescriptor "(IILjava/util/function/BiFunction;)I" = some ⟨[.int, .int, (.object "java/util/function/BiFunction")], (some .int)⟩ := by decide +kernel
set_option maxRecDepth 65536 in
set_option maxHeartbeats 40000000 in
theorem rm5 (l : Launch) (Z : State) (n0 : Nat) (w0 : Array Value) (hw : ∀ d ∈ tables_1, d.before w0 Z = true) (p0 : Int32) (p1 : Int32) (W : Wld) (hj : ¬ p0 < 0) (hn : p0 < p1) :
    Meets l Z n0 (⟨"java/lang/String", "checkIndex", "(II)V"⟩ : MethodName) jdk_42_method_155_code 2 none ({ frames := 1, cells := 0, slots := 0, locals := 14 } : Room) [] #[(.int p0), (.int p1)] W (fun v W' => v = none ∧ W' = W) := by
  refine Meets.of_go (ls := #[.val (.int p0), .val (.int p1)]) (plainFor_of_name (by first | (simp [plainName, overriddenIn]; done) | decide +kernel)) (fun m => by first | (simp [entryFrame, mkF, argsToLocals, Value.category, maxLocals]; done) | rfl) (fun D => ?_)
  refine Go.iloadN (pc' := 1) d5_0 rfl rfl ?_
  refine Go.iloadN (pc' := 2) d5_1 rfl rfl ?_
  refine Go.getFormatter (pc' := 5) d5_2 (hw _ (List.mem_of_getElem? (i := 34) rfl)) rfl (fun v2 hv2 => ?_)
  refine Go.callS (pc' := 8) (W1 := 0) (cells' := 0) (slots' := 0) (argsL := [(.int p0), (.int p1), v2]) (rest := []) (y' := (⟨"jdk/internal/util/Preconditions", "checkIndex", "(IILjava/util/function/BiFunction;)I"⟩ : MethodName)) d5_5 (hw _ (List.mem_of_getElem? (i := 36) rfl)) (hw _ (List.mem_of_getElem? (i := 37) rfl)) (hw _ (List.mem_of_getElem? (i := 35) rfl)) (hw _ (List.mem_of_getElem? (i := 38) rfl)) (by decide) (rm6 l Z n0 w0 hw p0 p1 v2 W hj hn hv2) (by decide) (by decide) rfl (lenOf pd__28IILjava_2futil_2ffunction_2fBiFunction_3b_29I rfl) rfl (Nat.le_of_eq rfl) (by decide) (by decide) rfl rfl rfl (fun v W' hF => ?_)
  obtain ⟨rfl, hWW⟩ := hF
  rw [hWW]
  refine Go.val ?_
  refine Go.pop (pc' := 9) d5_8 rfl rfl ?_
  exact Go.retV d5_9 rfl (by decide) (by decide) ⟨rfl, rfl⟩
def chF (x : Int32) : Int32 := (x &&& 255).toUInt32.toUInt16.toUInt32.toInt32.toUInt32.toUInt16.toUInt32.toInt32
def chG (x : Int32) : Int32 := (chF x).toUInt32.toUInt16.toUInt32.toInt32
theorem d4_0 : decode jdk_43_method_2_code 0 = .ok (.iload_n 1, 1) := by decide +kernel
theorem d4_1 : decode jdk_43_method_2_code 1 = .ok (.aload_n 0, 1) := by decide +kernel
theorem d4_2 : decode jdk_43_method_2_code 2 = .ok (.arraylength, 1) := by decide +kernel
theorem d4_3 : decode jdk_43_method_2_code 3 = .ok (.invokestatic 9, 3) := by decide +kernel
theorem d4_6 : decode jdk_43_method_2_code 6 = .ok (.aload_n 0, 1) := by decide +kernel
theorem d4_7 : decode jdk_43_method_2_code 7 = .ok (.iload_n 1, 1) := by decide +kernel
theorem d4_8 : decode jdk_43_method_2_code 8 = .ok (.baload, 1) := by decide +kernel
theorem d4_9 : decode jdk_43_method_2_code 9 = .ok (.sipush 255, 3) := by decide +kernel
theorem d4_12 : decode jdk_43_method_2_code 12 = .ok (.iand, 1) := by decide +kernel
theorem d4_13 : decode jdk_43_method_2_code 13 = .ok (.i2c, 1) := by decide +kernel
theorem d4_14 : decode jdk_43_method_2_code 14 = .ok (.ireturn, 1) := by decide +kernel
theorem pd__28II_29V : parseMethodDescriptor "(II)V" = some ⟨[.int, .int], none⟩ := by decide +kernel
set_option maxRecDepth 65536 in
set_option maxHeartbeats 40000000 in
theorem rm4 (l : Launch) (Z : State) (n0 : Nat) (w0 : Array Value) (hw : ∀ d ∈ tables_1, d.before w0 Z = true) (a0 : Addr) (p1 : Int32) (W : Wld) (ib : Nat) (vs : List Int32) (xx : Int32) (hib : W[ib]? = some (a0, .inr vs)) (hj : ¬ p1 < 0) (hn : p1 < vs.length.toInt32) (hx : vs[p1.toNatClampNeg]? = some xx) :
    Meets l Z n0 (⟨"java/lang/StringLatin1", "charAt", "([BI)C"⟩ : MethodName) jdk_43_method_2_code 2 (some .char) ({ frames := 2, cells := 0, slots := 0, locals := 27 } : Room) [] #[(.ref a0), (.int p1)] W (fun v W' => v = some (.int (chF xx)) ∧ W' = W) := by
  refine Meets.of_go (ls := #[.val (.ref a0), .val (.int p1)]) (plainFor_of_name (by first | (simp [plainName, overriddenIn]; done) | decide +kernel)) (fun m => by first | (simp [entryFrame, mkF, argsToLocals, Value.category, maxLocals]; done) | rfl) (fun D => ?_)
  refine Go.iloadN (pc' := 1) d4_0 rfl rfl ?_
  refine Go.aloadN (pc' := 2) d4_1 rfl rfl rfl ?_
  refine Go.alenB (pc' := 3) (i := ib) (n := vs.length.toInt32) d4_2 hib rfl rfl ?_
  refine Go.callS (pc' := 6) (W1 := 0) (cells' := 0) (slots' := 0) (argsL := [(.int p1), (.int vs.length.toInt32)]) (rest := []) (y' := (⟨"java/lang/String", "checkIndex", "(II)V"⟩ : MethodName)) d4_3 (hw _ (List.mem_of_getElem? (i := 31) rfl)) (hw _ (List.mem_of_getElem? (i := 32) rfl)) (hw _ (List.mem_of_getElem? (i := 1) rfl)) (hw _ (List.mem_of_getElem? (i := 33) rfl)) (by decide) (rm5 l Z n0 w0 hw p1 vs.length.toInt32 W hj hn) (by decide) (by decide) rfl (lenOf pd__28II_29V rfl) rfl (Nat.le_of_eq rfl) (by decide) (by decide) rfl rfl rfl (fun v W' hF => ?_)
  obtain ⟨rfl, hWW⟩ := hF
  rw [hWW]
  refine Go.nov ?_
  refine Go.aloadN (pc' := 7) d4_6 rfl rfl rfl ?_
  refine Go.iloadN (pc' := 8) d4_7 rfl rfl ?_
  refine Go.baload (pc' := 9) (i := ib) (x := xx) d4_8 hib hj hx rfl ?_
  refine Go.sipush (pc' := 12) (v := (255 : Int32)) d4_9 rfl rfl ?_
  refine Go.iand (pc' := 13) d4_12 rfl ?_
  refine Go.i2c (pc' := 14) d4_13 rfl ?_
  exact Go.retC d4_14 rfl rfl (by decide) (by decide) ⟨rfl, rfl⟩
theorem d2_0 : decode jdk_42_method_56_code 0 = .ok (.aload_n 0, 1) := by decide +kernel
theorem d2_1 : decode jdk_42_method_56_code 1 = .ok (.invokevirtual 492, 3) := by decide +kernel
theorem d2_4 : decode jdk_42_method_56_code 4 = .ok (.ifCond .eq 12, 3) := by decide +kernel
theorem d2_7 : decode jdk_42_method_56_code 7 = .ok (.aload_n 0, 1) := by decide +kernel
theorem d2_8 : decode jdk_42_method_56_code 8 = .ok (.getfield 9, 3) := by decide +kernel
theorem d2_11 : decode jdk_42_method_56_code 11 = .ok (.iload_n 1, 1) := by decide +kernel
theorem d2_12 : decode jdk_42_method_56_code 12 = .ok (.invokestatic 495, 3) := by decide +kernel
theorem d2_15 : decode jdk_42_method_56_code 15 = .ok (.ireturn, 1) := by decide +kernel
theorem pd__28_29Z : parseMethodDescriptor "()Z" = some ⟨[], (some .boolean)⟩ := by decide +kernel
theorem pd__28_5bBI_29C : parseMethodDescriptor "([BI)C" = some ⟨[(.array .byte), .int], (some .char)⟩ := by decide +kernel
set_option maxRecDepth 65536 in
set_option maxHeartbeats 40000000 in
theorem rm2 (l : Launch) (Z : State) (n0 : Nat) (w0 : Array Value) (hw : ∀ d ∈ tables_1, d.before w0 Z = true) (a0 : Addr) (p1 : Int32) (W : Wld) (ia ib : Nat) (b : Addr) (vs : List Int32) (xx : Int32) (hia : W[ia]? = some (a0, (.inl ("java/lang/String", [("value", "[B", .ref b), ("coder", "B", .int 0)])))) (hib : W[ib]? = some (b, .inr vs)) (hj : ¬ p1 < 0) (hn : p1 < vs.length.toInt32) (hx : vs[p1.toNatClampNeg]? = some xx) :
    Meets l Z n0 (⟨"java/lang/String", "charAt", "(I)C"⟩ : MethodName) jdk_42_method_56_code 2 (some .char) ({ frames := 3, cells := 0, slots := 0, locals := 40 } : Room) [] #[(.ref a0), (.int p1)] W (fun v W' => v = some (.int (chG xx)) ∧ W' = W) := by
  refine Meets.of_go (ls := #[.val (.ref a0), .val (.int p1)]) (plainFor_of_name (by first | (simp [plainName, overriddenIn]; done) | decide +kernel)) (fun m => by first | (simp [entryFrame, mkF, argsToLocals, Value.category, maxLocals]; done) | rfl) (fun D => ?_)
  refine Go.aloadN (pc' := 1) d2_0 rfl rfl rfl ?_
  refine Go.callV (pc' := 4) (W1 := 0) (cells' := 0) (slots' := 0) (argsL := []) (rest := []) (y' := (⟨"java/lang/String", "isLatin1", "()Z"⟩ : MethodName)) (a := a0) (i := ia) d2_1 (hw _ (List.mem_of_getElem? (i := 19) rfl)) (hw _ (List.mem_of_getElem? (i := 20) rfl)) (hw _ (List.mem_of_getElem? (i := 22) rfl)) (hw _ (List.mem_of_getElem? (i := 21) rfl)) (hw _ (List.mem_of_getElem? (i := 1) rfl)) (hw _ (List.mem_of_getElem? (i := 23) rfl)) (by decide) hia (rm3 l Z n0 w0 hw a0 W ia b hia) (by decide) (by decide) rfl (lenOf pd__28_29Z rfl) rfl (Nat.le_of_eq rfl) (by decide) (by decide) rfl rfl rfl (fun v W' hF => ?_)
  obtain ⟨rfl, hWW⟩ := hF
  rw [hWW]
  refine Go.val ?_
  refine Go.if_eq (pcY := 16) (pcN := 7) d2_4 (by decide) (by decide) rfl (fun hc4 => absurd hc4 (by decide)) (fun hc4 => ?_)
  refine Go.aloadN (pc' := 8) d2_7 rfl rfl rfl ?_
  refine Go.getF (pc' := 11) (i := ia) (j := 0) (v := (.ref b)) (host := "") d2_8 (Or.inl (hw _ (List.mem_of_getElem? (i := 26) rfl))) hia rfl rfl ?_
  refine Go.iloadN (pc' := 12) d2_11 rfl rfl ?_
  refine Go.callS (pc' := 15) (W1 := 0) (cells' := 0) (slots' := 0) (argsL := [(.ref b), (.int p1)]) (rest := []) (y' := (⟨"java/lang/StringLatin1", "charAt", "([BI)C"⟩ : MethodName)) d2_12 (hw _ (List.mem_of_getElem? (i := 27) rfl)) (hw _ (List.mem_of_getElem? (i := 28) rfl)) (hw _ (List.mem_of_getElem? (i := 29) rfl)) (hw _ (List.mem_of_getElem? (i := 30) rfl)) (by decide) (rm4 l Z n0 w0 hw b p1 W ib vs xx hib hj hn hx) (by decide) (by decide) rfl (lenOf pd__28_5bBI_29C rfl) rfl (Nat.le_of_eq rfl) (by decide) (by decide) rfl rfl rfl (fun v W' hF => ?_)
  obtain ⟨rfl, hWW⟩ := hF
  rw [hWW]
  refine Go.val ?_
  exact Go.retC d2_15 rfl rfl (by decide) (by decide) ⟨rfl, rfl⟩
def LO : List Int32 := [48, 49, 50, 51, 52, 53, 54, 55, 56, 57, 97, 98, 99, 100, 101, 102]
def UP : List Int32 := [48, 49, 50, 51, 52, 53, 54, 55, 56, 57, 65, 66, 67, 68, 69, 70]
theorem own_eq {c : Int32} {k : Int32} (h : c.toInt = k.toInt) : c = k := Int32.toInt_inj.mp h
theorem own_hex (c : Int32) : hexF c = -1 ∨ (c = 48 ∨ c = 49 ∨ c = 50 ∨ c = 51 ∨ c = 52 ∨ c = 53 ∨ c = 54 ∨ c = 55 ∨ c = 56 ∨ c = 57 ∨ c = 65 ∨ c = 66 ∨ c = 67 ∨ c = 68 ∨ c = 69 ∨ c = 70 ∨ c = 97 ∨ c = 98 ∨ c = 99 ∨ c = 100 ∨ c = 101 ∨ c = 102) := by
  have hlo : (48 : Int32).toInt = 48 ∧ (57 : Int32).toInt = 57 ∧ (65 : Int32).toInt = 65 ∧ (70 : Int32).toInt = 70 ∧ (97 : Int32).toInt = 97 ∧ (102 : Int32).toInt = 102 := by decide
  by_cases h : (48 ≤ c.toInt ∧ c.toInt ≤ 57) ∨ (65 ≤ c.toInt ∧ c.toInt ≤ 70) ∨ (97 ≤ c.toInt ∧ c.toInt ≤ 102)
  · right
    have q : c.toInt = 48 ∨ c.toInt = 49 ∨ c.toInt = 50 ∨ c.toInt = 51 ∨ c.toInt = 52 ∨ c.toInt = 53 ∨ c.toInt = 54 ∨ c.toInt = 55 ∨ c.toInt = 56 ∨ c.toInt = 57 ∨ c.toInt = 65 ∨ c.toInt = 66 ∨ c.toInt = 67 ∨ c.toInt = 68 ∨ c.toInt = 69 ∨ c.toInt = 70 ∨ c.toInt = 97 ∨ c.toInt = 98 ∨ c.toInt = 99 ∨ c.toInt = 100 ∨ c.toInt = 101 ∨ c.toInt = 102 := by omega
    rcases q with q | q | q | q | q | q | q | q | q | q | q | q | q | q | q | q | q | q | q | q | q | q
    · exact Or.inl (own_eq q)
    · exact Or.inr (Or.inl (own_eq q))
    · exact Or.inr (Or.inr (Or.inl (own_eq q)))
    · exact Or.inr (Or.inr (Or.inr (Or.inl (own_eq q))))
    · exact Or.inr (Or.inr (Or.inr (Or.inr (Or.inl (own_eq q)))))
    · exact Or.inr (Or.inr (Or.inr (Or.inr (Or.inr (Or.inl (own_eq q))))))
    · exact Or.inr (Or.inr (Or.inr (Or.inr (Or.inr (Or.inr (Or.inl (own_eq q)))))))
    · exact Or.inr (Or.inr (Or.inr (Or.inr (Or.inr (Or.inr (Or.inr (Or.inl (own_eq q))))))))
    · exact Or.inr (Or.inr (Or.inr (Or.inr (Or.inr (Or.inr (Or.inr (Or.inr (Or.inl (own_eq q)))))))))
    · exact Or.inr (Or.inr (Or.inr (Or.inr (Or.inr (Or.inr (Or.inr (Or.inr (Or.inr (Or.inl (own_eq q))))))))))
    · exact Or.inr (Or.inr (Or.inr (Or.inr (Or.inr (Or.inr (Or.inr (Or.inr (Or.inr (Or.inr (Or.inl (own_eq q)))))))))))
    · exact Or.inr (Or.inr (Or.inr (Or.inr (Or.inr (Or.inr (Or.inr (Or.inr (Or.inr (Or.inr (Or.inr (Or.inl (own_eq q))))))))))))
    · exact Or.inr (Or.inr (Or.inr (Or.inr (Or.inr (Or.inr (Or.inr (Or.inr (Or.inr (Or.inr (Or.inr (Or.inr (Or.inl (own_eq q)))))))))))))
    · exact Or.inr (Or.inr (Or.inr (Or.inr (Or.inr (Or.inr (Or.inr (Or.inr (Or.inr (Or.inr (Or.inr (Or.inr (Or.inr (Or.inl (own_eq q))))))))))))))
    · exact Or.inr (Or.inr (Or.inr (Or.inr (Or.inr (Or.inr (Or.inr (Or.inr (Or.inr (Or.inr (Or.inr (Or.inr (Or.inr (Or.inr (Or.inl (own_eq q)))))))))))))))
    · exact Or.inr (Or.inr (Or.inr (Or.inr (Or.inr (Or.inr (Or.inr (Or.inr (Or.inr (Or.inr (Or.inr (Or.inr (Or.inr (Or.inr (Or.inr (Or.inl (own_eq q))))))))))))))))
    · exact Or.inr (Or.inr (Or.inr (Or.inr (Or.inr (Or.inr (Or.inr (Or.inr (Or.inr (Or.inr (Or.inr (Or.inr (Or.inr (Or.inr (Or.inr (Or.inr (Or.inl (own_eq q)))))))))))))))))
    · exact Or.inr (Or.inr (Or.inr (Or.inr (Or.inr (Or.inr (Or.inr (Or.inr (Or.inr (Or.inr (Or.inr (Or.inr (Or.inr (Or.inr (Or.inr (Or.inr (Or.inr (Or.inl (own_eq q))))))))))))))))))
    · exact Or.inr (Or.inr (Or.inr (Or.inr (Or.inr (Or.inr (Or.inr (Or.inr (Or.inr (Or.inr (Or.inr (Or.inr (Or.inr (Or.inr (Or.inr (Or.inr (Or.inr (Or.inr (Or.inl (own_eq q)))))))))))))))))))
    · exact Or.inr (Or.inr (Or.inr (Or.inr (Or.inr (Or.inr (Or.inr (Or.inr (Or.inr (Or.inr (Or.inr (Or.inr (Or.inr (Or.inr (Or.inr (Or.inr (Or.inr (Or.inr (Or.inr (Or.inl (own_eq q))))))))))))))))))))
    · exact Or.inr (Or.inr (Or.inr (Or.inr (Or.inr (Or.inr (Or.inr (Or.inr (Or.inr (Or.inr (Or.inr (Or.inr (Or.inr (Or.inr (Or.inr (Or.inr (Or.inr (Or.inr (Or.inr (Or.inr (Or.inl (own_eq q)))))))))))))))))))))
    · exact Or.inr (Or.inr (Or.inr (Or.inr (Or.inr (Or.inr (Or.inr (Or.inr (Or.inr (Or.inr (Or.inr (Or.inr (Or.inr (Or.inr (Or.inr (Or.inr (Or.inr (Or.inr (Or.inr (Or.inr (Or.inr ((own_eq q))))))))))))))))))))))
  · left
    unfold hexF
    simp only [Int32.lt_iff_toInt_lt]
    rw [if_neg (by omega), if_neg (by omega), if_neg (by omega)]
theorem own_at (c : Int32) (h : ¬ hexF c = -1) : ¬ hexF c < 0 ∧ ¬ 15 < hexF c ∧ hexF c < LO.length.toInt32 ∧ hexF c < UP.length.toInt32 ∧ ∃ x y, LO[(hexF c).toNatClampNeg]? = some x ∧ UP[(hexF c).toNatClampNeg]? = some y ∧ (chG x = c ∨ chG y = c) := by
  rcases own_hex c with q | q
  · exact absurd q h
  · rcases q with rfl | rfl | rfl | rfl | rfl | rfl | rfl | rfl | rfl | rfl | rfl | rfl | rfl | rfl | rfl | rfl | rfl | rfl | rfl | rfl | rfl | rfl
    · exact ⟨by decide, by decide, by decide, by decide, 48, 48, by decide, by decide, Or.inl (by decide)⟩
    · exact ⟨by decide, by decide, by decide, by decide, 49, 49, by decide, by decide, Or.inl (by decide)⟩
    · exact ⟨by decide, by decide, by decide, by decide, 50, 50, by decide, by decide, Or.inl (by decide)⟩
    · exact ⟨by decide, by decide, by decide, by decide, 51, 51, by decide, by decide, Or.inl (by decide)⟩
    · exact ⟨by decide, by decide, by decide, by decide, 52, 52, by decide, by decide, Or.inl (by decide)⟩
    · exact ⟨by decide, by decide, by decide, by decide, 53, 53, by decide, by decide, Or.inl (by decide)⟩
    · exact ⟨by decide, by decide, by decide, by decide, 54, 54, by decide, by decide, Or.inl (by decide)⟩
    · exact ⟨by decide, by decide, by decide, by decide, 55, 55, by decide, by decide, Or.inl (by decide)⟩
    · exact ⟨by decide, by decide, by decide, by decide, 56, 56, by decide, by decide, Or.inl (by decide)⟩
    · exact ⟨by decide, by decide, by decide, by decide, 57, 57, by decide, by decide, Or.inl (by decide)⟩
    · exact ⟨by decide, by decide, by decide, by decide, 97, 65, by decide, by decide, Or.inr (by decide)⟩
    · exact ⟨by decide, by decide, by decide, by decide, 98, 66, by decide, by decide, Or.inr (by decide)⟩
    · exact ⟨by decide, by decide, by decide, by decide, 99, 67, by decide, by decide, Or.inr (by decide)⟩
    · exact ⟨by decide, by decide, by decide, by decide, 100, 68, by decide, by decide, Or.inr (by decide)⟩
    · exact ⟨by decide, by decide, by decide, by decide, 101, 69, by decide, by decide, Or.inr (by decide)⟩
    · exact ⟨by decide, by decide, by decide, by decide, 102, 70, by decide, by decide, Or.inr (by decide)⟩
    · exact ⟨by decide, by decide, by decide, by decide, 97, 65, by decide, by decide, Or.inl (by decide)⟩
    · exact ⟨by decide, by decide, by decide, by decide, 98, 66, by decide, by decide, Or.inl (by decide)⟩
    · exact ⟨by decide, by decide, by decide, by decide, 99, 67, by decide, by decide, Or.inl (by decide)⟩
    · exact ⟨by decide, by decide, by decide, by decide, 100, 68, by decide, by decide, Or.inl (by decide)⟩
    · exact ⟨by decide, by decide, by decide, by decide, 101, 69, by decide, by decide, Or.inl (by decide)⟩
    · exact ⟨by decide, by decide, by decide, by decide, 102, 70, by decide, by decide, Or.inl (by decide)⟩
theorem own_mask (x : Int32) : 0 ≤ (x &&& 15).toInt ∧ (x &&& 15).toInt ≤ 15 := by
  have h : (x &&& 15).toBitVec.toNat = x.toBitVec.toNat % 16 := by
    rw [Int32.toBitVec_and, BitVec.toNat_and]
    exact Nat.and_two_pow_sub_one_eq_mod _ 4
  have h2 : (x &&& 15).toInt = ((x &&& 15).toBitVec.toNat : Int) := by
    show (x &&& 15).toBitVec.toInt = _
    rw [BitVec.toInt_eq_toNat_cond, if_pos (by omega)]
  omega
theorem own_dig (d : Int32) (h : 0 ≤ d.toInt ∧ d.toInt ≤ 15) : ¬ d < 0 ∧ d < LO.length.toInt32 ∧ d < UP.length.toInt32 ∧ ∃ x y, LO[d.toNatClampNeg]? = some x ∧ UP[d.toNatClampNeg]? = some y ∧ hexF (chG x) = d ∧ hexF (chG y) = d := by
  have q : d.toInt = 0 ∨ d.toInt = 1 ∨ d.toInt = 2 ∨ d.toInt = 3 ∨ d.toInt = 4 ∨ d.toInt = 5 ∨ d.toInt = 6 ∨ d.toInt = 7 ∨ d.toInt = 8 ∨ d.toInt = 9 ∨ d.toInt = 10 ∨ d.toInt = 11 ∨ d.toInt = 12 ∨ d.toInt = 13 ∨ d.toInt = 14 ∨ d.toInt = 15 := by omega
  rcases q with q | q | q | q | q | q | q | q | q | q | q | q | q | q | q | q
  · obtain rfl : d = 0 := own_eq q
    exact ⟨by decide, by decide, by decide, 48, 48, by decide, by decide, by decide, by decide⟩
  · obtain rfl : d = 1 := own_eq q
    exact ⟨by decide, by decide, by decide, 49, 49, by decide, by decide, by decide, by decide⟩
  · obtain rfl : d = 2 := own_eq q
    exact ⟨by decide, by decide, by decide, 50, 50, by decide, by decide, by decide, by decide⟩
  · obtain rfl : d = 3 := own_eq q
    exact ⟨by decide, by decide, by decide, 51, 51, by decide, by decide, by decide, by decide⟩
  · obtain rfl : d = 4 := own_eq q
    exact ⟨by decide, by decide, by decide, 52, 52, by decide, by decide, by decide, by decide⟩
  · obtain rfl : d = 5 := own_eq q
    exact ⟨by decide, by decide, by decide, 53, 53, by decide, by decide, by decide, by decide⟩
  · obtain rfl : d = 6 := own_eq q
    exact ⟨by decide, by decide, by decide, 54, 54, by decide, by decide, by decide, by decide⟩
  · obtain rfl : d = 7 := own_eq q
    exact ⟨by decide, by decide, by decide, 55, 55, by decide, by decide, by decide, by decide⟩
  · obtain rfl : d = 8 := own_eq q
    exact ⟨by decide, by decide, by decide, 56, 56, by decide, by decide, by decide, by decide⟩
  · obtain rfl : d = 9 := own_eq q
    exact ⟨by decide, by decide, by decide, 57, 57, by decide, by decide, by decide, by decide⟩
  · obtain rfl : d = 10 := own_eq q
    exact ⟨by decide, by decide, by decide, 97, 65, by decide, by decide, by decide, by decide⟩
  · obtain rfl : d = 11 := own_eq q
    exact ⟨by decide, by decide, by decide, 98, 66, by decide, by decide, by decide, by decide⟩
  · obtain rfl : d = 12 := own_eq q
    exact ⟨by decide, by decide, by decide, 99, 67, by decide, by decide, by decide, by decide⟩
  · obtain rfl : d = 13 := own_eq q
    exact ⟨by decide, by decide, by decide, 100, 68, by decide, by decide, by decide, by decide⟩
  · obtain rfl : d = 14 := own_eq q
    exact ⟨by decide, by decide, by decide, 101, 69, by decide, by decide, by decide, by decide⟩
  · obtain rfl : d = 15 := own_eq q
    exact ⟨by decide, by decide, by decide, 102, 70, by decide, by decide, by decide, by decide⟩
theorem pd__28C_29I : parseMethodDescriptor "(C)I" = some ⟨[.char], (some .int)⟩ := by decide +kernel
theorem pd__28I_29C : parseMethodDescriptor "(I)C" = some ⟨[.int], (some .char)⟩ := by decide +kernel
set_option maxRecDepth 65536 in
set_option maxHeartbeats 40000000 in
theorem from6 (l : Launch) (Z : State) (n0 : Nat) (w0 : Array Value) (hw : ∀ d ∈ tables_1, d.before w0 Z = true) (p0 p1 : Int32) (lo b1 up b2 : Addr) (D : Dyn) :
    Go l Z n0 room_1 code 9 x (some .boolean) D [(lo, .inl ("java/lang/String", [("value", "[B", (.ref b1)), ("coder", "B", (.int 0))])), (b1, .inr LO), (up, .inl ("java/lang/String", [("value", "[B", (.ref b2)), ("coder", "B", (.int 0))])), (b2, .inr UP)] 4 136 6 #[.val (.int p0), .val (.int p1), .val (.ref lo), .val (.ref up), .unset, .unset, .unset, .unset, .unset] [] (fun v _ => v = some (.int 1)) := by
  obtain ⟨hd1, hd2, hd3, x0, y0, hx0, hy0, hd4, hd5⟩ := own_dig (p1 &&& (15 : Int32)) (own_mask p1)
  refine Go.iloadN (pc' := 7) at_6 rfl rfl ?_
  refine Go.ldcI (pc' := 9) (v := (65535 : Int32)) at_7 (hw _ (List.mem_of_getElem? (i := 9) rfl)) rfl ?_
  refine Go.iand (pc' := 10) at_9 rfl ?_
  refine Go.i2c (pc' := 11) at_10 rfl ?_
  generalize hcc : (p0 &&& (65535 : Int32)).toUInt32.toUInt16.toUInt32.toInt32 = cc
  refine Go.istore (pc' := 13) (ls' := #[.val (.int p0), .val (.int p1), .val (.ref lo), .val (.ref up), .val (.int cc), .unset, .unset, .unset, .unset]) at_11 rfl rfl ?_
  refine Go.iload (pc' := 15) at_13 rfl rfl ?_
  refine Go.callS (pc' := 18) (W1 := 0) (cells' := 4) (slots' := 136) (argsL := [(.int cc)]) (rest := []) (y' := (⟨"com/example/meyrin/meyrin/locator/Characters", "hexValue", "(C)I"⟩ : MethodName)) at_15 (hw _ (List.mem_of_getElem? (i := 10) rfl)) (hw _ (List.mem_of_getElem? (i := 11) rfl)) (hw _ (List.mem_of_getElem? (i := 12) rfl)) (hw _ (List.mem_of_getElem? (i := 13) rfl)) (by decide) (rm1 l Z n0 w0 hw cc [(lo, .inl ("java/lang/String", [("value", "[B", (.ref b1)), ("coder", "B", (.int 0))])), (b1, .inr LO), (up, .inl ("java/lang/String", [("value", "[B", (.ref b2)), ("coder", "B", (.int 0))])), (b2, .inr UP)]) (by decide) (by decide) rfl (lenOf pd__28C_29I rfl) rfl (Nat.le_of_eq rfl) (by decide) (by decide) rfl rfl rfl (fun v W' hF => ?_)
  obtain ⟨rfl, rfl⟩ := hF
  refine Go.val ?_
  refine Go.istore (pc' := 20) (ls' := #[.val (.int p0), .val (.int p1), .val (.ref lo), .val (.ref up), .val (.int cc), .val (.int (hexF cc)), .unset, .unset, .unset]) at_18 rfl rfl ?_
  have k79 : Go l Z n0 room_1 code 9 x (some .boolean) D [(lo, .inl ("java/lang/String", [("value", "[B", (.ref b1)), ("coder", "B", (.int 0))])), (b1, .inr LO), (up, .inl ("java/lang/String", [("value", "[B", (.ref b2)), ("coder", "B", (.int 0))])), (b2, .inr UP)] 4 136 79 #[.val (.int p0), .val (.int p1), .val (.ref lo), .val (.ref up), .val (.int cc), .val (.int (hexF cc)), .val (.int (1 : Int32)), .unset, .unset] [] (fun v _ => v = some (.int 1)) := by
    refine Go.iloadN (pc' := 80) at_79 rfl rfl ?_
    refine Go.bipush (pc' := 82) (v := (15 : Int32)) at_80 rfl rfl ?_
    refine Go.iand (pc' := 83) at_82 rfl ?_
    refine Go.istore (pc' := 85) (ls' := #[.val (.int p0), .val (.int p1), .val (.ref lo), .val (.ref up), .val (.int cc), .val (.int (hexF cc)), .val (.int (1 : Int32)), .val (.int (p1 &&& (15 : Int32))), .unset]) at_83 rfl rfl ?_
    refine Go.aloadN (pc' := 86) at_85 rfl rfl rfl ?_
    refine Go.iload (pc' := 88) at_86 rfl rfl ?_
    refine Go.callV (pc' := 91) (W1 := 0) (cells' := 4) (slots' := 136) (argsL := [(.int (p1 &&& (15 : Int32)))]) (rest := []) (y' := (⟨"java/lang/String", "charAt", "(I)C"⟩ : MethodName)) (a := lo) (i := 0) at_88 (hw _ (List.mem_of_getElem? (i := 14) rfl)) (hw _ (List.mem_of_getElem? (i := 15) rfl)) (hw _ (List.mem_of_getElem? (i := 17) rfl)) (hw _ (List.mem_of_getElem? (i := 16) rfl)) (hw _ (List.mem_of_getElem? (i := 1) rfl)) (hw _ (List.mem_of_getElem? (i := 18) rfl)) (by decide) rfl (rm2 l Z n0 w0 hw lo (p1 &&& (15 : Int32)) [(lo, .inl ("java/lang/String", [("value", "[B", (.ref b1)), ("coder", "B", (.int 0))])), (b1, .inr LO), (up, .inl ("java/lang/String", [("value", "[B", (.ref b2)), ("coder", "B", (.int 0))])), (b2, .inr UP)] 0 1 b1 LO x0 rfl rfl hd1 hd2 hx0) (by decide) (by decide) rfl (lenOf pd__28I_29C rfl) rfl (Nat.le_of_eq rfl) (by decide) (by decide) rfl rfl rfl (fun v W' hF => ?_)
    obtain ⟨rfl, rfl⟩ := hF
    refine Go.val ?_
    refine Go.callS (pc' := 94) (W1 := 0) (cells' := 4) (slots' := 136) (argsL := [(.int (chG x0))]) (rest := []) (y' := (⟨"com/example/meyrin/meyrin/locator/Characters", "hexValue", "(C)I"⟩ : MethodName)) at_91 (hw _ (List.mem_of_getElem? (i := 10) rfl)) (hw _ (List.mem_of_getElem? (i := 11) rfl)) (hw _ (List.mem_of_getElem? (i := 12) rfl)) (hw _ (List.mem_of_getElem? (i := 13) rfl)) (by decide) (rm1 l Z n0 w0 hw (chG x0) [(lo, .inl ("java/lang/String", [("value", "[B", (.ref b1)), ("coder", "B", (.int 0))])), (b1, .inr LO), (up, .inl ("java/lang/String", [("value", "[B", (.ref b2)), ("coder", "B", (.int 0))])), (b2, .inr UP)]) (by decide) (by decide) rfl (lenOf pd__28C_29I rfl) rfl (Nat.le_of_eq rfl) (by decide) (by decide) rfl rfl rfl (fun v W' hF => ?_)
    obtain ⟨rfl, rfl⟩ := hF
    refine Go.val ?_
    refine Go.iload (pc' := 96) at_94 rfl rfl ?_
    refine Go.icmp_ne (pcY := 117) (pcN := 99) at_96 (by decide) (by decide) rfl (fun hc96 => absurd hc96 (Classical.not_not.mpr hd4)) (fun hc96 => ?_)
    refine Go.aloadN (pc' := 100) at_99 rfl rfl rfl ?_
    refine Go.iload (pc' := 102) at_100 rfl rfl ?_
    refine Go.callV (pc' := 105) (W1 := 0) (cells' := 4) (slots' := 136) (argsL := [(.int (p1 &&& (15 : Int32)))]) (rest := []) (y' := (⟨"java/lang/String", "charAt", "(I)C"⟩ : MethodName)) (a := up) (i := 2) at_102 (hw _ (List.mem_of_getElem? (i := 14) rfl)) (hw _ (List.mem_of_getElem? (i := 15) rfl)) (hw _ (List.mem_of_getElem? (i := 17) rfl)) (hw _ (List.mem_of_getElem? (i := 16) rfl)) (hw _ (List.mem_of_getElem? (i := 1) rfl)) (hw _ (List.mem_of_getElem? (i := 18) rfl)) (by decide) rfl (rm2 l Z n0 w0 hw up (p1 &&& (15 : Int32)) [(lo, .inl ("java/lang/String", [("value", "[B", (.ref b1)), ("coder", "B", (.int 0))])), (b1, .inr LO), (up, .inl ("java/lang/String", [("value", "[B", (.ref b2)), ("coder", "B", (.int 0))])), (b2, .inr UP)] 2 3 b2 UP y0 rfl rfl hd1 hd3 hy0) (by decide) (by decide) rfl (lenOf pd__28I_29C rfl) rfl (Nat.le_of_eq rfl) (by decide) (by decide) rfl rfl rfl (fun v W' hF => ?_)
    obtain ⟨rfl, rfl⟩ := hF
    refine Go.val ?_
    refine Go.callS (pc' := 108) (W1 := 0) (cells' := 4) (slots' := 136) (argsL := [(.int (chG y0))]) (rest := []) (y' := (⟨"com/example/meyrin/meyrin/locator/Characters", "hexValue", "(C)I"⟩ : MethodName)) at_105 (hw _ (List.mem_of_getElem? (i := 10) rfl)) (hw _ (List.mem_of_getElem? (i := 11) rfl)) (hw _ (List.mem_of_getElem? (i := 12) rfl)) (hw _ (List.mem_of_getElem? (i := 13) rfl)) (by decide) (rm1 l Z n0 w0 hw (chG y0) [(lo, .inl ("java/lang/String", [("value", "[B", (.ref b1)), ("coder", "B", (.int 0))])), (b1, .inr LO), (up, .inl ("java/lang/String", [("value", "[B", (.ref b2)), ("coder", "B", (.int 0))])), (b2, .inr UP)]) (by decide) (by decide) rfl (lenOf pd__28C_29I rfl) rfl (Nat.le_of_eq rfl) (by decide) (by decide) rfl rfl rfl (fun v W' hF => ?_)
    obtain ⟨rfl, rfl⟩ := hF
    refine Go.val ?_
    refine Go.iload (pc' := 110) at_108 rfl rfl ?_
    refine Go.icmp_ne (pcY := 117) (pcN := 113) at_110 (by decide) (by decide) rfl (fun hc110 => absurd hc110 (Classical.not_not.mpr hd5)) (fun hc110 => ?_)
    refine Go.iconst (pc' := 114) (v := (1 : Int32)) at_113 rfl rfl ?_
    refine Go.goto (pc' := 118) at_114 (by decide) (by decide) ?_
    refine Go.istore (pc' := 120) (ls' := #[.val (.int p0), .val (.int p1), .val (.ref lo), .val (.ref up), .val (.int cc), .val (.int (hexF cc)), .val (.int (1 : Int32)), .val (.int (p1 &&& (15 : Int32))), .val (.int (1 : Int32))]) at_118 rfl rfl ?_
    refine Go.iload (pc' := 122) at_120 rfl rfl ?_
    refine Go.if_eq (pcY := 134) (pcN := 125) at_122 (by decide) (by decide) rfl (fun hc122 => absurd hc122 (by decide)) (fun hc122 => ?_)
    refine Go.iload (pc' := 127) at_125 rfl rfl ?_
    refine Go.if_eq (pcY := 134) (pcN := 130) at_127 (by decide) (by decide) rfl (fun hc127 => absurd hc127 (by decide)) (fun hc127 => ?_)
    refine Go.iconst (pc' := 131) (v := (1 : Int32)) at_130 rfl rfl ?_
    refine Go.goto (pc' := 135) at_131 (by decide) (by decide) ?_
    exact Go.retZ (z' := (1 : Int32)) at_135 rfl (by decide) (by decide) (by decide) rfl
  refine Go.iload (pc' := 22) at_20 rfl rfl ?_
  refine Go.iconst (pc' := 23) (v := (-1 : Int32)) at_22 rfl rfl ?_
  refine Go.icmp_ne (pcY := 32) (pcN := 26) at_23 (by decide) (by decide) rfl (fun hc23 => ?_) (fun hc23 => ?_)
  ·
    obtain ⟨ha1, ha2, ha3, ha4, x, y, hx, hy, hxy⟩ := own_at cc hc23
    refine Go.iload (pc' := 34) at_32 rfl rfl ?_
    refine Go.if_lt (pcY := 76) (pcN := 37) at_34 (by decide) (by decide) rfl (fun hc34 => absurd hc34 ha1) (fun hc34 => ?_)
    refine Go.iload (pc' := 39) at_37 rfl rfl ?_
    refine Go.bipush (pc' := 41) (v := (15 : Int32)) at_39 rfl rfl ?_
    refine Go.icmp_gt (pcY := 76) (pcN := 44) at_41 (by decide) (by decide) rfl (fun hc41 => absurd hc41 ha2) (fun hc41 => ?_)
    refine Go.aloadN (pc' := 45) at_44 rfl rfl rfl ?_
    refine Go.iload (pc' := 47) at_45 rfl rfl ?_
    refine Go.callV (pc' := 50) (W1 := 0) (cells' := 4) (slots' := 136) (argsL := [(.int (hexF cc))]) (rest := []) (y' := (⟨"java/lang/String", "charAt", "(I)C"⟩ : MethodName)) (a := lo) (i := 0) at_47 (hw _ (List.mem_of_getElem? (i := 14) rfl)) (hw _ (List.mem_of_getElem? (i := 15) rfl)) (hw _ (List.mem_of_getElem? (i := 17) rfl)) (hw _ (List.mem_of_getElem? (i := 16) rfl)) (hw _ (List.mem_of_getElem? (i := 1) rfl)) (hw _ (List.mem_of_getElem? (i := 18) rfl)) (by decide) rfl (rm2 l Z n0 w0 hw lo (hexF cc) [(lo, .inl ("java/lang/String", [("value", "[B", (.ref b1)), ("coder", "B", (.int 0))])), (b1, .inr LO), (up, .inl ("java/lang/String", [("value", "[B", (.ref b2)), ("coder", "B", (.int 0))])), (b2, .inr UP)] 0 1 b1 LO x rfl rfl ha1 ha3 hx) (by decide) (by decide) rfl (lenOf pd__28I_29C rfl) rfl (Nat.le_of_eq rfl) (by decide) (by decide) rfl rfl rfl (fun v W' hF => ?_)
    obtain ⟨rfl, rfl⟩ := hF
    refine Go.val ?_
    refine Go.iload (pc' := 52) at_50 rfl rfl ?_
    refine Go.icmp_eq (pcY := 66) (pcN := 55) at_52 (by decide) (by decide) rfl (fun hc52 => ?_) (fun hc52 => ?_)
    ·
      refine Go.iconst (pc' := 67) (v := (1 : Int32)) at_66 rfl rfl ?_
      refine Go.goto (pc' := 71) at_67 (by decide) (by decide) ?_
      refine Go.istore (pc' := 73) (ls' := #[.val (.int p0), .val (.int p1), .val (.ref lo), .val (.ref up), .val (.int cc), .val (.int (hexF cc)), .val (.int (1 : Int32)), .unset, .unset]) at_71 rfl rfl ?_
      refine Go.goto (pc' := 79) at_73 (by decide) (by decide) ?_
      exact k79
    ·
      refine Go.aloadN (pc' := 56) at_55 rfl rfl rfl ?_
      refine Go.iload (pc' := 58) at_56 rfl rfl ?_
      refine Go.callV (pc' := 61) (W1 := 0) (cells' := 4) (slots' := 136) (argsL := [(.int (hexF cc))]) (rest := []) (y' := (⟨"java/lang/String", "charAt", "(I)C"⟩ : MethodName)) (a := up) (i := 2) at_58 (hw _ (List.mem_of_getElem? (i := 14) rfl)) (hw _ (List.mem_of_getElem? (i := 15) rfl)) (hw _ (List.mem_of_getElem? (i := 17) rfl)) (hw _ (List.mem_of_getElem? (i := 16) rfl)) (hw _ (List.mem_of_getElem? (i := 1) rfl)) (hw _ (List.mem_of_getElem? (i := 18) rfl)) (by decide) rfl (rm2 l Z n0 w0 hw up (hexF cc) [(lo, .inl ("java/lang/String", [("value", "[B", (.ref b1)), ("coder", "B", (.int 0))])), (b1, .inr LO), (up, .inl ("java/lang/String", [("value", "[B", (.ref b2)), ("coder", "B", (.int 0))])), (b2, .inr UP)] 2 3 b2 UP y rfl rfl ha1 ha4 hy) (by decide) (by decide) rfl (lenOf pd__28I_29C rfl) rfl (Nat.le_of_eq rfl) (by decide) (by decide) rfl rfl rfl (fun v W' hF => ?_)
      obtain ⟨rfl, rfl⟩ := hF
      refine Go.val ?_
      refine Go.iload (pc' := 63) at_61 rfl rfl ?_
      refine Go.icmp_ne (pcY := 70) (pcN := 66) at_63 (by decide) (by decide) rfl (fun hc63 => absurd hc63 (Classical.not_not.mpr (hxy.elim (fun q => absurd q hc52) id))) (fun hc63 => ?_)
      refine Go.iconst (pc' := 67) (v := (1 : Int32)) at_66 rfl rfl ?_
      refine Go.goto (pc' := 71) at_67 (by decide) (by decide) ?_
      refine Go.istore (pc' := 73) (ls' := #[.val (.int p0), .val (.int p1), .val (.ref lo), .val (.ref up), .val (.int cc), .val (.int (hexF cc)), .val (.int (1 : Int32)), .unset, .unset]) at_71 rfl rfl ?_
      refine Go.goto (pc' := 79) at_73 (by decide) (by decide) ?_
      exact k79
  ·
    refine Go.iconst (pc' := 27) (v := (1 : Int32)) at_26 rfl rfl ?_
    refine Go.istore (pc' := 29) (ls' := #[.val (.int p0), .val (.int p1), .val (.ref lo), .val (.ref up), .val (.int cc), .val (.int (hexF cc)), .val (.int (1 : Int32)), .unset, .unset]) at_27 rfl rfl ?_
    refine Go.goto (pc' := 79) at_29 (by decide) (by decide) ?_
    exact k79
theorem own_bytes {Z : State} {h : Heap} {b : Addr} {k : ClassId} {z : Int32} {vs : List Int32} (hz : z.toNatClampNeg = vs.length) (hl : vs.length < 2 ^ 31) (A : Arv Z h b k .byte z (vs.map Value.int) (.int 0)) : Is Z h b (.inr vs) := by
  obtain ⟨c, A1, -, S, -, H, -⟩ := A
  refine ⟨c, A1, ?_, hl⟩
  apply Array.ext_getElem?
  intro i
  by_cases q : i < c.slots.size
  · rw [H i q]
    have q2 : i < vs.length := by omega
    simp [q2]
  · rw [Array.getElem?_eq_none (by omega), Array.getElem?_eq_none (by simp; omega)]
theorem own_str {Z : State} {h : Heap} {a b : Addr} (E : Exa Z h a "java/lang/String") (C : Fld Z h a "java/lang/String" "coder" "B" (.int 0)) (V : Fld Z h a "java/lang/String" "value" "[B" (.ref b)) : Is Z h a (.inl ("java/lang/String", [("value", "[B", .ref b), ("coder", "B", .int 0)])) := ⟨E, fun f hf => by
  simp only [List.mem_cons, List.not_mem_nil, or_false] at hf
  rcases hf with rfl | rfl
  · exact V
  · exact C, trivial⟩
theorem Is.ext {Z : State} {h h' : Heap} {a : Addr} (E : Ext h h') : ∀ {d : Desc}, Is Z h a d → Is Z h' a d
  | .inl _, I => ⟨I.1.ext E, fun f hf => (I.2.1 f hf).ext E, trivial⟩
  | .inr _, I => by obtain ⟨c, A, r⟩ := I; exact ⟨c, A.ext E, r⟩
set_option maxRecDepth 65536 in
set_option maxHeartbeats 40000000 in
theorem runs (l : Launch) (Z : State) (w0 : Array Value) (hw : ∀ d ∈ tables_1, d.before w0 Z = true) (p0 p1 : Int32) (hh : ∀ q ∈ consts_1, Jvm.Lit.constHeld Z q.1 q.2) (hcw : Jvm.Lit.compactW.before w0 Z = true)
    (hcs : ∃ cs : Int32, ¬ cs = 0 ∧ Sta Z Z.heap "java/lang/String" "COMPACT_STRINGS" "Z" (.int cs)) (hfm : ∃ v : Value, v.isRef = true ∧ Sta Z Z.heap "jdk/internal/util/Preconditions" "SIOOBE_FORMATTER" "Ljava/util/function/BiFunction;" v) :
    MetFree l x (head1 (Jvm.Cond.code x code maxLocals ret :: tables_1) room_1) (fun a U => a = #[(.int p0), (.int p1)] ∧ U.vm = Z.vm ∧ U.heap = Z.heap) (fun _ _ _ _ _ => True) (fun _ U o U' => o = .returned (some (.int 1)) ∧ ∃ L, Fr Z.heap.size L ∧ Jvm.ReturnedEndW U o U' L 8 2112) := by
  refine MetFree.of_bodySF (plainFor_of_name (by first | (simp [plainName, overriddenIn]; done) | decide +kernel)) hisR ?_
  intro p e s m args below meth c s₁ Bd hml0 hP hK
  obtain ⟨rfl, hv, hh0⟩ := hP
  have hx := Bd.exec
  have hby := Bd.bytes
  have hown : s.vm.findClass "com/example/meyrin/meyrin/locator/CharactersHexValuePinLaw" = some m.cls := findClass_of_methodNamed Bd.named
  have X0 : Stand p l e room_1 (s.setVm s.vm) m #[(.int p0), (.int p1)] below meth c s₁ [] 0 0 := Stand.of_body Bd
  have hZ : Z.Warmed39 s.vm := by rw [hv]; exact State.Warmed39.refl Z
  have e0 : s₁.heap = s.heap := by rw [Bd.state]; rfl
  have wS : ∀ a ∈ Bundle.stringAtoms, a.before w0 Z = true := fun a ha => hw a (by
    simp only [Bundle.stringAtoms, List.mem_cons, List.not_mem_nil, or_false] at ha
    rcases ha with rfl | rfl | rfl | rfl | rfl | rfl | rfl
    · exact List.mem_of_getElem? (i := 1) rfl
    · exact List.mem_of_getElem? (i := 2) rfl
    · exact List.mem_of_getElem? (i := 3) rfl
    · exact List.mem_of_getElem? (i := 4) rfl
    · exact List.mem_of_getElem? (i := 5) rfl
    · exact List.mem_of_getElem? (i := 6) rfl
    · exact List.mem_of_getElem? (i := 7) rfl)
  have hkeep : ∀ (b : Addr) (cl : Cell), Z.heap[b]? = some cl → s.heap[b]? = some cl := fun b cl h => by rw [hh0]; exact h
  have I0 : IB Z s.vm [] := by rw [hv]; exact IB.start
  obtain ⟨a1, T1, h1, k1, b1, kk1, X1, e1, E1, S1, S1', hZ1, hown1, A1, C1, V1, R1, -, -, I1, st1⟩ := ldcSV X0 hx hZ hown (hw _ (List.mem_of_getElem? (i := 0) rfl)) wS e0 ⟨State.Warmed39.refl s, fun j p hj hp => absurd (Array.getElem?_eq_some_iff.mp hp).1 (Nat.not_lt.mpr hj)⟩ (Nat.le_refl _) (Fr.nil _) hkeep I0 (List.not_mem_nil) (hh _ (List.mem_cons_self ..)) hcw (vs := LO.map Value.int) (z := 16) (by decide) (by decide) (by decide) (g := mkF m 0 #[.val (.int p0), .val (.int p1), .unset, .unset, .unset, .unset, .unset, .unset, .unset] []) rfl (hb hby at_0) (n := 64) (by decide) (by decide) (by decide) (by decide)
  obtain ⟨a2, T2, h2, k2, b2, kk2, X2, e2, E2, S2, S2', hZ2, hown2, A2, C2, V2, R2, -, -, I2, st2⟩ := ldcSV X1 hx hZ1 hown1 (hw _ (List.mem_of_getElem? (i := 8) rfl)) wS e1 S1 S1' (Fr.nil _) hkeep I1 (by decide) (hh _ (List.mem_cons_of_mem _ (List.mem_cons_self ..))) hcw (vs := UP.map Value.int) (z := 16) (by decide) (by decide) (by decide) (g := mkF m 3 #[.val (.int p0), .val (.int p1), .val (.ref a1), .unset, .unset, .unset, .unset, .unset, .unset] []) rfl (hb hby at_3) (n := 64) (by decide) (by decide) (by decide) (by decide)
  have E0 : Ext Z.heap h2 := by rw [← hh0]; exact ⟨Nat.le_trans E1.1 E2.1, fun a c q => E2.2 a c (E1.2 a c q)⟩
  have Wd : World Z T2.heap.size T2.heap [(a1, .inl ("java/lang/String", [("value", "[B", (.ref b1)), ("coder", "B", (.int 0))])), (b1, .inr LO), (a2, .inl ("java/lang/String", [("value", "[B", (.ref b2)), ("coder", "B", (.int 0))])), (b2, .inr UP)] := by
    refine ⟨Nat.le_refl _, ?_⟩
    rw [e2]
    refine ⟨fun q hq => ⟨trivial, ?_⟩, ?_, ?_⟩
    · simp only [List.mem_cons, List.not_mem_nil, or_false] at hq
      rcases hq with rfl | rfl | rfl | rfl
      · exact (own_str A1 C1 V1).ext E2
      · exact (own_bytes (by decide) (by decide) R1).ext E2
      · exact own_str A2 C2 V2
      · exact own_bytes (by decide) (by decide) R2
    · obtain ⟨cs, q1, q2⟩ := hcs; exact ⟨cs, q1, q2.ext E0⟩
    · obtain ⟨v, q1, q2⟩ := hfm; exact ⟨v, q1, q2.ext E0⟩
  obtain ⟨s₂, o, r1, r2, r3, v, L, rfl, ⟨N, W', hWd, rfl⟩, r4⟩ := from6 l Z T2.heap.size w0 hw p0 p1 a1 b1 a2 b2 (p, e, s.setVm T2.vm, m, _, below, meth, c) hx hZ2 hby hml0 hown2 (name_of_methodNamed Bd.named Bd.method).1 Bd.returns Bd.notSynchronized T2 [] X2 (Fr.nil _) Wd
  refine ⟨s₂, _, castTop (g' := mkF m 0 #[.val (.int p0), .val (.int p1), .unset, .unset, .unset, .unset, .unset, .unset, .unset] []) (by first | (simp [entryFrame, mkF, argsToLocals, Value.category, maxLocals]; done) | rfl) ?_, r2, r3, rfl, L, fun y hy => Nat.le_trans (by rw [e2]; exact E0.1) (N y hy), ?_⟩
  · refine st1 _ ?_
    show Steps p.tables e below (T1.setTop (mkF m 2 #[.val (.int p0), .val (.int p1), .unset, .unset, .unset, .unset, .unset, .unset, .unset] [.ref a1])) _
    refine XS.astoreN X1.here hx rfl (hb hby at_2) rfl rfl (l' := #[.val (.int p0), .val (.int p1), .val (.ref a1), .unset, .unset, .unset, .unset, .unset, .unset]) rfl ?_
    show Steps p.tables e below (T1.setTop (mkF m 3 #[.val (.int p0), .val (.int p1), .val (.ref a1), .unset, .unset, .unset, .unset, .unset, .unset] [])) _
    refine st2 _ ?_
    show Steps p.tables e below (T2.setTop (mkF m 5 #[.val (.int p0), .val (.int p1), .val (.ref a1), .unset, .unset, .unset, .unset, .unset, .unset] [.ref a2])) _
    exact XS.astoreN X2.here hx rfl (hb hby at_5) rfl rfl (l' := #[.val (.int p0), .val (.int p1), .val (.ref a1), .val (.ref a2), .unset, .unset, .unset, .unset, .unset]) rfl r1
  · obtain ⟨q0, q1, q2⟩ := r4
    have hk2 : k2 ≤ s₂.heap.size := Nat.le_trans S2' (by rw [← e2]; exact hWd.1)
    obtain ⟨a, b, c'⟩ := S2.ended (U := s₂) q1 hk2 q2
    exact ⟨q0, a, b, c'⟩
set_option maxRecDepth 65536 in
set_option maxHeartbeats 40000000 in
theorem comes_1 {Post : Tables → Env → Array Value → State → Outcome → State → Prop} (hpost : ∀ tb e args s v u, (limb_1_1.after args s (.returned v) u = true ∧ limb_1_2.after args s (.returned v) u = true ∧ True) → Jvm.ReturnedEndW s (.returned v) u (Jvm.fieldLocs frame_1_writes args s ++ Jvm.arrayLocs frame_1_arrays args s ++ Jvm.staticLocs frame_1_statics s) 8 2112 → Post tb e args s (.returned v) u) :
    ArmFor flags0 classFile x code maxLocals ret World_1 tables_1 room_1 Calls_1 rest_1 Pre_1 Post := by
  intro l hfl _ _ p e ha hc hk s m args below hf hA hF happ hP
  obtain ⟨hcalls, hrest, hpre⟩ := hP
  obtain ⟨-, -, -, hnamed, -, -, -, hat⟩ := (Spec.applies_iff hf).mp happ
  obtain ⟨hg, hn⟩ := and_e (Cond.before_iff.mp (show (Jvm.Cond.and given_1 narrow_1).before args s = true from hpre))
  obtain ⟨g0, k0⟩ := and_e hg
  obtain ⟨w0, w1, rfl⟩ : ∃ w0 w1 : Value, args = #[w0, w1] := by
    have hs : args.size = 2 := by simpa [Cond.value, given_1] using g0
    obtain ⟨L⟩ := args
    match L, hs with
    | [w0, w1], _ => exact ⟨w0, w1, rfl⟩
  have hw := fun d (hd : d ∈ tables_1) => atoms_spec (ws := Jvm.Cond.code x code maxLocals ret :: tables_1) hat d (List.mem_cons_of_mem _ hd)
  obtain ⟨g1, k1⟩ := and_e k0
  obtain ⟨i0, e0⟩ := is_v g1
  obtain rfl : w0 = (.int i0) := Option.some.inj e0
  obtain ⟨i1, e1⟩ := is_v k1
  obtain rfl : w1 = (.int i1) := Option.some.inj e1
  have hrest' : (jdkStatics_1.foldr Jvm.Cond.and restOwn_1).before #[.int i0, .int i1] s = true := by rw [← rest_1_c_eq]; exact hrest
  have hsets := (atoms_of jdkStatics_1 hrest').1
  have hcw : Jvm.Lit.compactW.before #[.int i0, .int i1] s = true := hsets _ (List.mem_of_getElem? (i := 2) rfl)
  have hcs : ∃ cs : Int32, ¬ cs = 0 ∧ Sta s s.heap "java/lang/String" "COMPACT_STRINGS" "Z" (.int cs) := by
    obtain ⟨cs, ec⟩ := is_v (Cond.before_iff.mp (hsets _ (List.mem_of_getElem? (i := 1) rfl)))
    refine ⟨cs, fun q => ?_, Sta.start ec (Or.inl (hsets _ (List.mem_of_getElem? (i := 0) rfl)))⟩
    have h := not_v (Cond.before_iff.mp hcw)
    exact absurd (h.symm.trans (eq_i ec (Term.int_eval (0)) (by rw [q]))) (by decide)
  have hfm : ∃ v : Value, v.isRef = true ∧ Sta s s.heap "jdk/internal/util/Preconditions" "SIOOBE_FORMATTER" "Ljava/util/function/BiFunction;" v := by
    obtain ⟨v, ev, hv⟩ := isR_v (Cond.before_iff.mp (hsets _ (List.mem_of_getElem? (i := 8) rfl)))
    exact ⟨v, hv, Sta.start ev (Or.inl (hsets _ (List.mem_of_getElem? (i := 7) rfl)))⟩
  have hheld : ∀ q ∈ consts_1, Jvm.Lit.constHeld s q.1 q.2 := hcalls.1
  obtain ⟨n, o, h1, h2, h3, rfl, L, N, hq⟩ := runs l s _ hw i0 i1 hheld hcw hcs hfm p e ha hc hk s m _ below hf ((Spec.applies_iff_loose hf).mp happ).1 ⟨rfl, rfl, rfl⟩ trivial
  refine ⟨n, _, h1, h2, h3, hpost _ _ _ _ _ _ ⟨Cond.after_iff.mpr rfl, Cond.after_iff.mpr (eq_i res_at (Term.int_eval (1)) rfl), trivial⟩ ⟨hq.1, hq.2.1, hq.2.2.1, (hq.2.2.2.sift fun y hy => Or.inr (N y hy)).mono (by decide) (by decide)⟩⟩
theorem main_1_1 : Claimed_1_1 := comes_1 fun _ _ _ _ _ _ h hF => ⟨h.1, hF⟩
theorem main_1_2 : Claimed_1_2 := comes_1 fun _ _ _ _ _ _ h hF => ⟨h.2.1, hF⟩
end Jvm.Pilot.@@N@@
namespace Jvm.Pilot.@@N@@
open Jvm Jvm.ClassFile Sem Op Lib Jvm.Free Jvm.Stand Jvm.Pilot.@@N@@.Jvm.D
/-! MADE BY PROGRAM (witnessworld.py) out of the Statement's table words and the real class files: 17 classes; the members and pool entries that the words name. The judged class is class 1, her method 1. -/
namespace start1
open Jvm.ClassFile
def u (s : String) : CpInfo := .utf8 (stringToUtf16 s)
/-- a pool by its gaps: so many unusable entries, then the entry; so many at the end -/
def gap : Nat → List CpInfo → List CpInfo
  | 0, r => r
  | n + 1, r => .unusable :: gap n r
def poolList (es : List (Nat × CpInfo)) (last : Nat) : List CpInfo := es.foldr (fun e r => gap e.1 (e.2 :: r)) (gap last [])
def pool (es : List (Nat × CpInfo)) (last : Nat) : Array CpInfo := ⟨poolList es last⟩
def fileOf (pool : Array CpInfo) (this : Nat) (attrs : Array Attribute := #[]) (ms : Array MethodInfo := #[]) (fl : Nat := 33) (sup : Nat := 0) (ifs : Array Nat := #[]) (fds : Array FieldInfo := #[]) : ClassFile where
  minorVersion := 0
  majorVersion := 65
  constantPool := pool
  accessFlags := fl
  thisClass := this
  superClass := sup
  interfaces := ifs
  fields := fds
  methods := ms
  attributes := attrs
def plain (name : String) (sup : Option ClassId) : Class where
  name := name
  kind := .ordinary
  loader := none
  accessFlags := 33
  super := sup
  interfaces := #[]
  cf := none
  fields := #[]
  methods := #[]
  instanceTypes := #[]
  staticTypes := #[]
  resolved := #[]
  callSites := []
  init := .initialized
  statics := none
  mirror := none

def pool0 : Array CpInfo := pool [(5, u "<init>"), (0, u "()V"), (1, .class_ 10), (1, u "java/lang/Object")] 113

def k0m0 : Method := { name := "<init>", desc := "()V", sig := { parameters := [], returnType := none }, accessFlags := 1, code := none }
/-- java/lang/Object -/
def k0 : Class := { plain "java/lang/Object" none with
  accessFlags := 33
  interfaces := #[]
  cf := some (fileOf pool0 8 #[] #[{ accessFlags := 1, nameIndex := 5, descriptorIndex := 6, attributes := #[] }] 33 0 #[] #[])
  fields := #[]
  methods := #[k0m0]
  instanceTypes := #[]
  staticTypes := #[]
  resolved := Array.replicate 124 none
  statics := none }

def pool1 : Array CpInfo := pool [(2, .class_ 4), (1, u "java/lang/Object"), (0, u "<init>"), (0, u "()V"), (0, .string 8), (0, u "0123456789abcdef"), (0, .string 10), (0, u "0123456789ABCDEF"), (0, .integer 65535), (0, .methodref 13 14), (0, .class_ 15), (0, .nameAndType 16 17), (0, u "com/example/meyrin/meyrin/locator/Characters"), (0, u "hexValue"), (0, u "(C)I"), (0, .methodref 19 20), (0, .class_ 21), (0, .nameAndType 22 23), (0, u "java/lang/String"), (0, u "charAt"), (0, u "(I)C"), (0, .class_ 25), (0, u "com/example/meyrin/meyrin/locator/CharactersHexValuePinLaw"), (2, u "law"), (0, u "(II)Z")] 3

def k1m0 : Method := { name := "<init>", desc := "()V", sig := { parameters := [], returnType := none }, accessFlags := 2, code := none }
def k1c1 : Code := { maxStack := 2, maxLocals := 9, code := code, exceptionTable := #[], attributes := #[] }
def k1m1 : Method := { name := "law", desc := "(II)Z", sig := { parameters := [.int, .int], returnType := some .boolean }, accessFlags := 9, code := some k1c1 }
/-- com/example/meyrin/meyrin/locator/CharactersHexValuePinLaw -/
def k1 : Class := { plain "com/example/meyrin/meyrin/locator/CharactersHexValuePinLaw" (some 0) with
  accessFlags := 49
  interfaces := #[]
  cf := some (fileOf pool1 24 #[] #[{ accessFlags := 2, nameIndex := 5, descriptorIndex := 6, attributes := #[] }, { accessFlags := 9, nameIndex := 28, descriptorIndex := 29, attributes := #[] }] 49 2 #[] #[])
  fields := #[]
  methods := #[k1m0, k1m1]
  instanceTypes := #[]
  staticTypes := #[]
  resolved := Array.replicate 33 none
  statics := none }

def pool2 : Array CpInfo := pool [(1, .class_ 2), (0, u "java/io/Serializable"), (0, .class_ 4), (0, u "java/lang/Object")] 2

/-- java/io/Serializable -/
def k2 : Class := { plain "java/io/Serializable" (some 0) with
  accessFlags := 1537
  interfaces := #[]
  cf := some (fileOf pool2 1 #[] #[] 1537 3 #[] #[])
  fields := #[]
  methods := #[]
  instanceTypes := #[]
  staticTypes := #[]
  resolved := Array.replicate 7 none
  statics := none }

def pool3 : Array CpInfo := pool [(1, .class_ 2), (0, u "java/lang/Comparable"), (0, .class_ 4), (0, u "java/lang/Object")] 7

/-- java/lang/Comparable -/
def k3 : Class := { plain "java/lang/Comparable" (some 0) with
  accessFlags := 1537
  interfaces := #[]
  cf := some (fileOf pool3 1 #[] #[] 1537 3 #[] #[])
  fields := #[]
  methods := #[]
  instanceTypes := #[]
  staticTypes := #[]
  resolved := Array.replicate 12 none
  statics := none }

def pool4 : Array CpInfo := pool [(2, .class_ 4), (1, u "java/lang/CharSequence"), (42, .class_ 48), (0, u "java/lang/CharSequence$1CodePointIterator"), (10, .class_ 60), (0, u "java/lang/CharSequence$1CharIterator"), (5, .class_ 67), (0, u "java/lang/Object")] 63

/-- java/lang/CharSequence -/
def k4 : Class := { plain "java/lang/CharSequence" (some 0) with
  accessFlags := 1537
  interfaces := #[]
  cf := some (fileOf pool4 2 #[.nestMembers #[47, 59]] #[] 1537 66 #[] #[])
  fields := #[]
  methods := #[]
  instanceTypes := #[]
  staticTypes := #[]
  resolved := Array.replicate 131 none
  statics := none }

def pool5 : Array CpInfo := pool [(1, .class_ 2), (0, u "java/lang/constant/Constable"), (0, .class_ 4), (0, u "java/lang/Object")] 6

/-- java/lang/constant/Constable -/
def k5 : Class := { plain "java/lang/constant/Constable" (some 0) with
  accessFlags := 1537
  interfaces := #[]
  cf := some (fileOf pool5 1 #[] #[] 1537 3 #[] #[])
  fields := #[]
  methods := #[]
  instanceTypes := #[]
  staticTypes := #[]
  resolved := Array.replicate 11 none
  statics := none }

def pool6 : Array CpInfo := pool [(1, .class_ 2), (0, u "java/lang/constant/ConstantDesc"), (0, .class_ 4), (0, u "java/lang/Object")] 32

/-- java/lang/constant/ConstantDesc -/
def k6 : Class := { plain "java/lang/constant/ConstantDesc" (some 0) with
  accessFlags := 1537
  interfaces := #[]
  cf := some (fileOf pool6 1 #[] #[] 1537 3 #[] #[])
  fields := #[]
  methods := #[]
  instanceTypes := #[]
  staticTypes := #[]
  resolved := Array.replicate 37 none
  statics := none }

def pool7 : Array CpInfo := pool [(2, .class_ 4), (1, u "java/lang/Object"), (0, u "<init>"), (0, u "()V"), (2, .fieldref 10 11), (0, .class_ 12), (0, .nameAndType 13 14), (0, u "java/lang/String"), (0, u "value"), (0, u "[B"), (0, .fieldref 10 16), (0, .nameAndType 17 18), (0, u "coder"), (0, u "B"), (2, u "hash"), (0, u "I"), (2, u "hashIsZero"), (0, u "Z"), (11, .fieldref 10 39), (0, .nameAndType 40 26), (0, u "COMPACT_STRINGS"), (66, .class_ 109), (1, u "java/lang/StringLatin1"), (32, u "()Z"), (220, u "([BI)C"), (27, u "(II)V"), (35, u "(I)C"), (64, .methodref 10 493), (0, .nameAndType 494 142), (0, u "isLatin1"), (0, .methodref 107 496), (0, .nameAndType 497 363), (0, u "charAt"), (3, u "checkIndex"), (73, .class_ 576), (0, u "java/lang/CharSequence"), (22, u "CASE_INSENSITIVE_ORDER"), (0, u "Ljava/util/Comparator;"), (452, .fieldref 1054 1055), (0, .class_ 1056), (0, .nameAndType 1057 1058), (0, u "jdk/internal/util/Preconditions"), (0, u "SIOOBE_FORMATTER"), (0, u "Ljava/util/function/BiFunction;"), (0, .methodref 1054 1060), (0, .nameAndType 501 1061), (0, u "(IILjava/util/function/BiFunction;)I"), (39, u "serialPersistentFields"), (0, u "[Ljava/io/ObjectStreamField;"), (0, .class_ 1104), (0, u "java/lang/String$CaseInsensitiveComparator"), (1, .class_ 1107), (0, u "java/io/Serializable"), (0, .class_ 1109), (0, u "java/lang/Comparable"), (0, .class_ 1111), (0, u "java/lang/constant/Constable"), (0, .class_ 1113), (0, u "java/lang/constant/ConstantDesc"), (2, u "serialVersionUID"), (0, u "J"), (3, u "REPL"), (0, u "C"), (2, u "LATIN1"), (1, u "UTF16")] 323

def k7m0 : Method := { name := "<init>", desc := "()V", sig := { parameters := [], returnType := none }, accessFlags := 1, code := none }
def k7c1 : Code := { maxStack := 2, maxLocals := 2, code := jdk_42_method_56_code, exceptionTable := #[], attributes := #[] }
def k7m1 : Method := { name := "charAt", desc := "(I)C", sig := { parameters := [.int], returnType := some .char }, accessFlags := 1, code := some k7c1 }
def k7c2 : Code := { maxStack := 1, maxLocals := 1, code := jdk_42_method_154_code, exceptionTable := #[], attributes := #[] }
def k7m2 : Method := { name := "isLatin1", desc := "()Z", sig := { parameters := [], returnType := some .boolean }, accessFlags := 0, code := some k7c2 }
def k7c3 : Code := { maxStack := 3, maxLocals := 2, code := jdk_42_method_155_code, exceptionTable := #[], attributes := #[] }
def k7m3 : Method := { name := "checkIndex", desc := "(II)V", sig := { parameters := [.int, .int], returnType := none }, accessFlags := 8, code := some k7c3 }
/-- java/lang/String -/
def k7 : Class := { plain "java/lang/String" (some 0) with
  accessFlags := 49
  interfaces := #[2, 3, 4, 5, 6]
  cf := some (fileOf pool7 10 #[.nestMembers #[1103]] #[{ accessFlags := 1, nameIndex := 5, descriptorIndex := 6, attributes := #[] }, { accessFlags := 1, nameIndex := 497, descriptorIndex := 427, attributes := #[] }, { accessFlags := 0, nameIndex := 494, descriptorIndex := 142, attributes := #[] }, { accessFlags := 8, nameIndex := 501, descriptorIndex := 391, attributes := #[] }] 49 2 #[1106, 1108, 575, 1110, 1112] #[{ accessFlags := 18, nameIndex := 13, descriptorIndex := 14, attributes := #[] }, { accessFlags := 18, nameIndex := 17, descriptorIndex := 18, attributes := #[] }, { accessFlags := 2, nameIndex := 21, descriptorIndex := 22, attributes := #[] }, { accessFlags := 2, nameIndex := 25, descriptorIndex := 26, attributes := #[] }, { accessFlags := 26, nameIndex := 1116, descriptorIndex := 1117, attributes := #[] }, { accessFlags := 24, nameIndex := 40, descriptorIndex := 26, attributes := #[] }, { accessFlags := 26, nameIndex := 1101, descriptorIndex := 1102, attributes := #[] }, { accessFlags := 26, nameIndex := 1121, descriptorIndex := 1122, attributes := #[] }, { accessFlags := 25, nameIndex := 599, descriptorIndex := 600, attributes := #[] }, { accessFlags := 24, nameIndex := 1125, descriptorIndex := 18, attributes := #[] }, { accessFlags := 24, nameIndex := 1127, descriptorIndex := 18, attributes := #[] }])
  fields := #[{ name := "value", type := (.array .byte), accessFlags := 18, slot := 0, constantValue := 0 }, { name := "coder", type := .byte, accessFlags := 18, slot := 1, constantValue := 0 }, { name := "hash", type := .int, accessFlags := 2, slot := 2, constantValue := 0 }, { name := "hashIsZero", type := .boolean, accessFlags := 2, slot := 3, constantValue := 0 }, { name := "serialVersionUID", type := .long, accessFlags := 26, slot := 0, constantValue := 0 }, { name := "COMPACT_STRINGS", type := .boolean, accessFlags := 24, slot := 1, constantValue := 0 }, { name := "serialPersistentFields", type := (.array (.object "java/io/ObjectStreamField")), accessFlags := 26, slot := 2, constantValue := 0 }, { name := "REPL", type := .char, accessFlags := 26, slot := 3, constantValue := 0 }, { name := "CASE_INSENSITIVE_ORDER", type := (.object "java/util/Comparator"), accessFlags := 25, slot := 4, constantValue := 0 }, { name := "LATIN1", type := .byte, accessFlags := 24, slot := 5, constantValue := 0 }, { name := "UTF16", type := .byte, accessFlags := 24, slot := 6, constantValue := 0 }]
  methods := #[k7m0, k7m1, k7m2, k7m3]
  instanceTypes := #[(.array .byte), .byte, .int, .boolean]
  staticTypes := #[.long, .boolean, (.array (.object "java/io/ObjectStreamField")), .char, (.object "java/util/Comparator"), .byte, .byte]
  resolved := Array.replicate 1451 none
  statics := some 0 }

def pool8 : Array CpInfo := pool [(2, .class_ 4), (1, u "java/lang/Object"), (0, u "<init>"), (0, u "()V"), (20, .class_ 28), (0, u "com/example/meyrin/meyrin/locator/Characters"), (2, u "hexValue"), (0, u "(C)I")] 19

def k8m0 : Method := { name := "<init>", desc := "()V", sig := { parameters := [], returnType := none }, accessFlags := 2, code := none }
def k8c1 : Code := { maxStack := 2, maxLocals := 1, code := prog_18_method_2_code, exceptionTable := #[], attributes := #[] }
def k8m1 : Method := { name := "hexValue", desc := "(C)I", sig := { parameters := [.char], returnType := some .int }, accessFlags := 8, code := some k8c1 }
/-- com/example/meyrin/meyrin/locator/Characters -/
def k8 : Class := { plain "com/example/meyrin/meyrin/locator/Characters" (some 0) with
  accessFlags := 32
  interfaces := #[]
  cf := some (fileOf pool8 27 #[] #[{ accessFlags := 2, nameIndex := 5, descriptorIndex := 6, attributes := #[] }, { accessFlags := 8, nameIndex := 31, descriptorIndex := 32, attributes := #[] }] 32 2 #[] #[])
  fields := #[]
  methods := #[k8m0, k8m1]
  instanceTypes := #[]
  staticTypes := #[]
  resolved := Array.replicate 52 none
  statics := none }

def pool9 : Array CpInfo := pool [(1, .class_ 2), (0, u "java/lang/String"), (1, .class_ 6), (1, u "java/lang/Object"), (0, u "<init>"), (0, u "()V"), (0, .methodref 1 10), (0, .nameAndType 11 12), (0, u "checkIndex"), (0, u "(II)V"), (1, .class_ 16), (1, u "java/lang/StringLatin1"), (36, u "([BI)C"), (67, u "$assertionsDisabled"), (0, u "Z"), (98, .class_ 223), (1, u "java/lang/StringLatin1$LinesSpliterator"), (28, u "charAt"), (137, .class_ 391), (0, u "java/lang/StringLatin1$CharsSpliterator")] 3

def k9m0 : Method := { name := "<init>", desc := "()V", sig := { parameters := [], returnType := none }, accessFlags := 0, code := none }
def k9c1 : Code := { maxStack := 2, maxLocals := 2, code := jdk_43_method_2_code, exceptionTable := #[], attributes := #[] }
def k9m1 : Method := { name := "charAt", desc := "([BI)C", sig := { parameters := [(.array .byte), .int], returnType := some .char }, accessFlags := 9, code := some k9c1 }
/-- java/lang/StringLatin1 -/
def k9 : Class := { plain "java/lang/StringLatin1" (some 0) with
  accessFlags := 48
  interfaces := #[]
  cf := some (fileOf pool9 14 #[.nestMembers #[390, 221]] #[{ accessFlags := 0, nameIndex := 7, descriptorIndex := 8, attributes := #[] }, { accessFlags := 9, nameIndex := 252, descriptorIndex := 53, attributes := #[] }] 48 4 #[] #[{ accessFlags := 4120, nameIndex := 121, descriptorIndex := 122, attributes := #[] }])
  fields := #[{ name := "$assertionsDisabled", type := .boolean, accessFlags := 4120, slot := 0, constantValue := 0 }]
  methods := #[k9m0, k9m1]
  instanceTypes := #[]
  staticTypes := #[.boolean]
  resolved := Array.replicate 395 none
  statics := none }

def pool10 : Array CpInfo := pool [(2, .class_ 4), (1, u "java/lang/Object"), (0, u "<init>"), (0, u "()V"), (17, .class_ 26), (1, u "jdk/internal/util/Preconditions"), (6, u "checkIndex"), (21, .class_ 56), (0, u "jdk/internal/util/Preconditions$4"), (57, .class_ 115), (0, u "jdk/internal/util/Preconditions$1"), (7, u "SIOOBE_FORMATTER"), (0, u "Ljava/util/function/BiFunction;"), (0, .class_ 126), (0, u "jdk/internal/util/Preconditions$2"), (3, u "AIOOBE_FORMATTER"), (0, .class_ 132), (0, u "jdk/internal/util/Preconditions$3"), (3, u "IOOBE_FORMATTER"), (41, u "(IILjava/util/function/BiFunction;)I")] 15

def k10m0 : Method := { name := "<init>", desc := "()V", sig := { parameters := [], returnType := none }, accessFlags := 1, code := none }
def k10c1 : Code := { maxStack := 3, maxLocals := 3, code := jdk_41_method_11_code, exceptionTable := #[], attributes := #[] }
def k10m1 : Method := { name := "checkIndex", desc := "(IILjava/util/function/BiFunction;)I", sig := { parameters := [.int, .int, (.object "java/util/function/BiFunction")], returnType := some .int }, accessFlags := 9, code := some k10c1 }
/-- jdk/internal/util/Preconditions -/
def k10 : Class := { plain "jdk/internal/util/Preconditions" (some 0) with
  accessFlags := 33
  interfaces := #[]
  cf := some (fileOf pool10 24 #[.nestMembers #[55, 131, 125, 114]] #[{ accessFlags := 1, nameIndex := 5, descriptorIndex := 6, attributes := #[] }, { accessFlags := 9, nameIndex := 33, descriptorIndex := 178, attributes := #[] }] 33 2 #[] #[{ accessFlags := 25, nameIndex := 123, descriptorIndex := 124, attributes := #[] }, { accessFlags := 25, nameIndex := 130, descriptorIndex := 124, attributes := #[] }, { accessFlags := 25, nameIndex := 136, descriptorIndex := 124, attributes := #[] }])
  fields := #[{ name := "SIOOBE_FORMATTER", type := (.object "java/util/function/BiFunction"), accessFlags := 25, slot := 0, constantValue := 0 }, { name := "AIOOBE_FORMATTER", type := (.object "java/util/function/BiFunction"), accessFlags := 25, slot := 1, constantValue := 0 }, { name := "IOOBE_FORMATTER", type := (.object "java/util/function/BiFunction"), accessFlags := 25, slot := 2, constantValue := 0 }]
  methods := #[k10m0, k10m1]
  instanceTypes := #[]
  staticTypes := #[(.object "java/util/function/BiFunction"), (.object "java/util/function/BiFunction"), (.object "java/util/function/BiFunction")]
  resolved := Array.replicate 194 none
  statics := some 1 }

def pool11 : Array CpInfo := pool [(9, u "<init>"), (6, .class_ 18), (1, u "java/lang/Object"), (0, u "()V"), (1, .class_ 23), (1, u "jdk/internal/util/ArraysSupport"), (0, u "LOG2_ARRAY_LONG_INDEX_SCALE"), (0, u "I"), (2, u "U"), (0, u "Ljdk/internal/misc/Unsafe;"), (8, u "BIG_ENDIAN"), (0, u "Z"), (8, u "LOG2_BYTE_BIT_SIZE"), (4, u "LOG2_ARRAY_INT_INDEX_SCALE"), (54, u "JLA"), (0, u "Ljdk/internal/access/JavaLangAccess;"), (11, u "LOG2_ARRAY_BOOLEAN_INDEX_SCALE"), (9, u "LOG2_ARRAY_BYTE_INDEX_SCALE"), (5, u "LOG2_ARRAY_CHAR_INDEX_SCALE"), (5, u "LOG2_ARRAY_SHORT_INDEX_SCALE"), (18, u "LOG2_ARRAY_FLOAT_INDEX_SCALE"), (24, u "LOG2_ARRAY_DOUBLE_INDEX_SCALE"), (89, u "T_BOOLEAN"), (2, u "T_CHAR"), (1, u "T_FLOAT"), (1, u "T_DOUBLE"), (1, u "T_BYTE"), (1, u "T_SHORT"), (1, u "T_INT"), (1, u "T_LONG"), (1, u "SOFT_MAX_ARRAY_LENGTH")] 83

def k11m0 : Method := { name := "<init>", desc := "()V", sig := { parameters := [], returnType := none }, accessFlags := 2, code := none }
/-- jdk/internal/util/ArraysSupport -/
def k11 : Class := { plain "jdk/internal/util/ArraysSupport" (some 0) with
  accessFlags := 33
  interfaces := #[]
  cf := some (fileOf pool11 21 #[] #[{ accessFlags := 2, nameIndex := 9, descriptorIndex := 19, attributes := #[] }] 33 16 #[] #[{ accessFlags := 24, nameIndex := 28, descriptorIndex := 29, attributes := #[] }, { accessFlags := 26, nameIndex := 38, descriptorIndex := 39, attributes := #[] }, { accessFlags := 25, nameIndex := 121, descriptorIndex := 25, attributes := #[] }, { accessFlags := 25, nameIndex := 131, descriptorIndex := 25, attributes := #[] }, { accessFlags := 25, nameIndex := 137, descriptorIndex := 25, attributes := #[] }, { accessFlags := 25, nameIndex := 143, descriptorIndex := 25, attributes := #[] }, { accessFlags := 25, nameIndex := 53, descriptorIndex := 25, attributes := #[] }, { accessFlags := 25, nameIndex := 24, descriptorIndex := 25, attributes := #[] }, { accessFlags := 25, nameIndex := 162, descriptorIndex := 25, attributes := #[] }, { accessFlags := 25, nameIndex := 187, descriptorIndex := 25, attributes := #[] }, { accessFlags := 26, nameIndex := 48, descriptorIndex := 25, attributes := #[] }, { accessFlags := 25, nameIndex := 277, descriptorIndex := 25, attributes := #[] }, { accessFlags := 25, nameIndex := 280, descriptorIndex := 25, attributes := #[] }, { accessFlags := 25, nameIndex := 282, descriptorIndex := 25, attributes := #[] }, { accessFlags := 25, nameIndex := 284, descriptorIndex := 25, attributes := #[] }, { accessFlags := 25, nameIndex := 286, descriptorIndex := 25, attributes := #[] }, { accessFlags := 25, nameIndex := 288, descriptorIndex := 25, attributes := #[] }, { accessFlags := 25, nameIndex := 290, descriptorIndex := 25, attributes := #[] }, { accessFlags := 25, nameIndex := 292, descriptorIndex := 25, attributes := #[] }, { accessFlags := 26, nameIndex := 108, descriptorIndex := 109, attributes := #[] }, { accessFlags := 25, nameIndex := 294, descriptorIndex := 25, attributes := #[] }])
  fields := #[{ name := "U", type := (.object "jdk/internal/misc/Unsafe"), accessFlags := 24, slot := 0, constantValue := 0 }, { name := "BIG_ENDIAN", type := .boolean, accessFlags := 26, slot := 1, constantValue := 0 }, { name := "LOG2_ARRAY_BOOLEAN_INDEX_SCALE", type := .int, accessFlags := 25, slot := 2, constantValue := 0 }, { name := "LOG2_ARRAY_BYTE_INDEX_SCALE", type := .int, accessFlags := 25, slot := 3, constantValue := 0 }, { name := "LOG2_ARRAY_CHAR_INDEX_SCALE", type := .int, accessFlags := 25, slot := 4, constantValue := 0 }, { name := "LOG2_ARRAY_SHORT_INDEX_SCALE", type := .int, accessFlags := 25, slot := 5, constantValue := 0 }, { name := "LOG2_ARRAY_INT_INDEX_SCALE", type := .int, accessFlags := 25, slot := 6, constantValue := 0 }, { name := "LOG2_ARRAY_LONG_INDEX_SCALE", type := .int, accessFlags := 25, slot := 7, constantValue := 0 }, { name := "LOG2_ARRAY_FLOAT_INDEX_SCALE", type := .int, accessFlags := 25, slot := 8, constantValue := 0 }, { name := "LOG2_ARRAY_DOUBLE_INDEX_SCALE", type := .int, accessFlags := 25, slot := 9, constantValue := 0 }, { name := "LOG2_BYTE_BIT_SIZE", type := .int, accessFlags := 26, slot := 10, constantValue := 0 }, { name := "T_BOOLEAN", type := .int, accessFlags := 25, slot := 11, constantValue := 0 }, { name := "T_CHAR", type := .int, accessFlags := 25, slot := 12, constantValue := 0 }, { name := "T_FLOAT", type := .int, accessFlags := 25, slot := 13, constantValue := 0 }, { name := "T_DOUBLE", type := .int, accessFlags := 25, slot := 14, constantValue := 0 }, { name := "T_BYTE", type := .int, accessFlags := 25, slot := 15, constantValue := 0 }, { name := "T_SHORT", type := .int, accessFlags := 25, slot := 16, constantValue := 0 }, { name := "T_INT", type := .int, accessFlags := 25, slot := 17, constantValue := 0 }, { name := "T_LONG", type := .int, accessFlags := 25, slot := 18, constantValue := 0 }, { name := "JLA", type := (.object "jdk/internal/access/JavaLangAccess"), accessFlags := 26, slot := 19, constantValue := 0 }, { name := "SOFT_MAX_ARRAY_LENGTH", type := .int, accessFlags := 25, slot := 20, constantValue := 0 }]
  methods := #[k11m0]
  instanceTypes := #[]
  staticTypes := #[(.object "jdk/internal/misc/Unsafe"), .boolean, .int, .int, .int, .int, .int, .int, .int, .int, .int, .int, .int, .int, .int, .int, .int, .int, .int, (.object "jdk/internal/access/JavaLangAccess"), .int]
  resolved := Array.replicate 378 none
  statics := none }

def pool12 : Array CpInfo := pool [(1, u "java/lang/Cloneable"), (0, .class_ 1), (0, u "java/lang/Object"), (0, .class_ 3)] 3

/-- java/lang/Cloneable -/
def k12 : Class := { plain "java/lang/Cloneable" (some 0) with
  accessFlags := 1537
  interfaces := #[]
  cf := some (fileOf pool12 2 #[] #[] 1537 4 #[] #[])
  fields := #[]
  methods := #[]
  instanceTypes := #[]
  staticTypes := #[]
  resolved := Array.replicate 8 none
  statics := none }

/-- the primitive byte -/
def k13 : Class := { plain "byte" none with kind := .primitive 'B', accessFlags := 0x411 }
/-- [B -/
def k14 : Class := { plain "[B" (some 0) with kind := .array 13 .byte, interfaces := #[12, 2], accessFlags := 1041 }

/-- the primitive int -/
def k15 : Class := { plain "int" none with kind := .primitive 'I', accessFlags := 0x411 }
/-- [I -/
def k16 : Class := { plain "[I" (some 0) with kind := .array 15 .int, interfaces := #[12, 2], accessFlags := 1041 }

def heap : Heap := #[{ cls := 7, slots := #[.long 0, .int 1, .null, .int 0, .null, .int 0, .int 0], vm := .statics 7 },
  { cls := 10, slots := #[.null, .null, .null], vm := .statics 10 }]
def classes : Array Class := #[k0, k1, k2, k3, k4, k5, k6, k7, k8, k9, k10, k11, k12, k13, k14, k15, k16]
def interned : List (Array UInt16 × Addr) := []
def slotsUsed : Nat := 10
def theMethod : MethodId := ⟨1, 1⟩
def args0 : Array Value := #[.int 5, .int 7]
def aboutOver (below : List Frame) : State where
  vm := { classes := classes, interned := interned.toArray }
  heap := heap
  slotsUsed := slotsUsed
  threads := #[{ frames := .invoking theMethod args0 :: below }]
def below0 : List Frame := [.native { method := ⟨0, 0⟩, args := #[] }]
def about1 : State := aboutOver below0
def p0 : Program := .bare "" "" ""
def e0 : Env := launch0.env 0 0 0
theorem w_frames : about1.frames = Frame.invoking theMethod args0 :: below0 := rfl
set_option maxRecDepth 65536 in
theorem w_args : argsFit about1.vm theMethod args0 = true := by decide +kernel
set_option maxRecDepth 65536 in
theorem w_heap : heapFits about1 = true := by decide +kernel
set_option maxRecDepth 65536 in
theorem w_runnable : about1.curStatus? = some .runnable := by decide +kernel
set_option maxRecDepth 65536 in
theorem w_alone : about1.alone = true := by decide +kernel
set_option maxRecDepth 65536 in
theorem w_named : about1.methodNamed? x = some theMethod := by decide +kernel
set_option maxRecDepth 65536 in
theorem w_hears : about1.hears theMethod below0 = true := by decide +kernel
set_option maxRecDepth 65536 in
theorem w_ripe : about1.ripe theMethod args0 below0 = true := by decide +kernel
theorem w_running : about1.status = .running := rfl
set_option maxRecDepth 65536 in
theorem w_room : about1.hasRoom e0.platform room_1 = true :=
  launch0.hasRoom_least _ room_1 (by decide +kernel) (by decide +kernel) (by decide +kernel) (by decide +kernel) (by decide +kernel) (by decide +kernel)
theorem allAtoms_all (ts : List Jvm.Cond) (a : Array Jvm.Value) (st : Jvm.State) : (allAtoms ts).before a st = ts.all (fun c => c.before a st) := by
  induction ts with
  | nil => rfl
  | cons c t ih =>
    show (Jvm.Cond.and c (allAtoms t)).before a st = _
    rw [Jvm.Cond.before_and, ih, List.all_cons]
def words1 : List Jvm.Cond := Jvm.Cond.code x code maxLocals ret :: tables_1
/-- a 'code' word, met by the world's own term for the bytes: nothing is compared byte by byte -/
theorem code_word {y : MethodName} {bytes : ByteArray} {mx : Nat} {rt : Option FieldType} {a : Array Value} {s : State} {m : MethodId} {meth : Method} {c : Code} (h1 : s.methodNamed? y = some m) (h2 : s.vm.method? m = some meth) (h3 : meth.code = some c) (h4 : c.code = bytes)
    (h5 : (c.maxLocals == mx && c.exceptionTable.isEmpty && decide (c.maxStack ≤ mostOperands) && decide (meth.sig.returnType = rt) && !meth.locks && decide (parseMethodDescriptor y.desc = some meth.sig)) = true) : (Jvm.Cond.code y bytes mx rt).before a s = true := by
  simp only [Bool.and_eq_true, beq_iff_eq, Bool.not_eq_true', decide_eq_true_eq] at h5
  obtain ⟨⟨⟨⟨⟨g1, g2⟩, g3⟩, g4⟩, g5⟩, g6⟩ := h5
  simp [Cond.before, Cond.holds, Cond.value, h1, h2, h3, h4, g1, g2, g3, g4, g5, g6]
def isCode : Jvm.Cond → Bool
  | .code _ _ _ _ => true
  | _ => false
theorem all_split {L : List Jvm.Cond} {P : Jvm.Cond → Bool} (h1 : L.all (fun c => isCode c || P c) = true) (h2 : ∀ c ∈ L.filter isCode, P c = true) : L.all P = true := by
  refine List.all_eq_true.mpr fun c hc => ?_
  have h := List.all_eq_true.mp h1 c hc
  rcases Bool.eq_false_or_eq_true (isCode c) with hi | hi
  · exact h2 c (List.mem_filter.mpr ⟨hc, hi⟩)
  · simpa [hi] using h
set_option maxRecDepth 65536 in
theorem w_c0 : (Jvm.Cond.code x code maxLocals ret).before args0 about1 = true := code_word (m := ⟨1, 1⟩) (meth := k1m1) (c := k1c1) (by decide +kernel) rfl rfl rfl (by decide +kernel)
set_option maxRecDepth 65536 in
theorem w_c1 : (Jvm.Cond.code ({ cls := "com/example/meyrin/meyrin/locator/Characters", name := "hexValue", desc := "(C)I" } : Jvm.MethodName) prog_18_method_2_code (1 : Nat) (Option.some Jvm.ClassFile.FieldType.int)).before args0 about1 = true := code_word (m := ⟨8, 1⟩) (meth := k8m1) (c := k8c1) (by decide +kernel) rfl rfl rfl (by decide +kernel)
set_option maxRecDepth 65536 in
theorem w_c2 : (Jvm.Cond.code ({ cls := "java/lang/String", name := "charAt", desc := "(I)C" } : Jvm.MethodName) jdk_42_method_56_code (2 : Nat) (Option.some Jvm.ClassFile.FieldType.char)).before args0 about1 = true := code_word (m := ⟨7, 1⟩) (meth := k7m1) (c := k7c1) (by decide +kernel) rfl rfl rfl (by decide +kernel)
set_option maxRecDepth 65536 in
theorem w_c3 : (Jvm.Cond.code ({ cls := "java/lang/String", name := "isLatin1", desc := "()Z" } : Jvm.MethodName) jdk_42_method_154_code (1 : Nat) (Option.some Jvm.ClassFile.FieldType.boolean)).before args0 about1 = true := code_word (m := ⟨7, 2⟩) (meth := k7m2) (c := k7c2) (by decide +kernel) rfl rfl rfl (by decide +kernel)
set_option maxRecDepth 65536 in
theorem w_c4 : (Jvm.Cond.code ({ cls := "java/lang/StringLatin1", name := "charAt", desc := "([BI)C" } : Jvm.MethodName) jdk_43_method_2_code (2 : Nat) (Option.some Jvm.ClassFile.FieldType.char)).before args0 about1 = true := code_word (m := ⟨9, 1⟩) (meth := k9m1) (c := k9c1) (by decide +kernel) rfl rfl rfl (by decide +kernel)
set_option maxRecDepth 65536 in
theorem w_c5 : (Jvm.Cond.code ({ cls := "java/lang/String", name := "checkIndex", desc := "(II)V" } : Jvm.MethodName) jdk_42_method_155_code (2 : Nat) (Option.none : Option Jvm.ClassFile.FieldType)).before args0 about1 = true := code_word (m := ⟨7, 3⟩) (meth := k7m3) (c := k7c3) (by decide +kernel) rfl rfl rfl (by decide +kernel)
set_option maxRecDepth 65536 in
theorem w_c6 : (Jvm.Cond.code ({ cls := "jdk/internal/util/Preconditions", name := "checkIndex", desc := "(IILjava/util/function/BiFunction;)I" } : Jvm.MethodName) jdk_41_method_11_code (3 : Nat) (Option.some Jvm.ClassFile.FieldType.int)).before args0 about1 = true := code_word (m := ⟨10, 1⟩) (meth := k10m1) (c := k10c1) (by decide +kernel) rfl rfl rfl (by decide +kernel)
def codes1 : List Jvm.Cond := [Jvm.Cond.code x code maxLocals ret, Jvm.Cond.code ({ cls := "com/example/meyrin/meyrin/locator/Characters", name := "hexValue", desc := "(C)I" } : Jvm.MethodName) prog_18_method_2_code (1 : Nat) (Option.some Jvm.ClassFile.FieldType.int), Jvm.Cond.code ({ cls := "java/lang/String", name := "charAt", desc := "(I)C" } : Jvm.MethodName) jdk_42_method_56_code (2 : Nat) (Option.some Jvm.ClassFile.FieldType.char), Jvm.Cond.code ({ cls := "java/lang/String", name := "isLatin1", desc := "()Z" } : Jvm.MethodName) jdk_42_method_154_code (1 : Nat) (Option.some Jvm.ClassFile.FieldType.boolean), Jvm.Cond.code ({ cls := "java/lang/StringLatin1", name := "charAt", desc := "([BI)C" } : Jvm.MethodName) jdk_43_method_2_code (2 : Nat) (Option.some Jvm.ClassFile.FieldType.char), Jvm.Cond.code ({ cls := "java/lang/String", name := "checkIndex", desc := "(II)V" } : Jvm.MethodName) jdk_42_method_155_code (2 : Nat) (Option.none : Option Jvm.ClassFile.FieldType), Jvm.Cond.code ({ cls := "jdk/internal/util/Preconditions", name := "checkIndex", desc := "(IILjava/util/function/BiFunction;)I" } : Jvm.MethodName) jdk_41_method_11_code (3 : Nat) (Option.some Jvm.ClassFile.FieldType.int)]
set_option maxRecDepth 65536 in
theorem codes_eq : words1.filter isCode = codes1 := rfl
theorem w_codes : ∀ c ∈ words1.filter isCode, c.before args0 about1 = true := by
  rw [codes_eq]
  intro c hc
  simp only [codes1, List.mem_cons, List.not_mem_nil, or_false] at hc
  rcases hc with rfl | rfl | rfl | rfl | rfl | rfl | rfl
  · exact w_c0
  · exact w_c1
  · exact w_c2
  · exact w_c3
  · exact w_c4
  · exact w_c5
  · exact w_c6
set_option maxRecDepth 65536 in
theorem w_t1 : (words1.take 24).all (fun c => isCode c || c.before args0 about1) = true := by decide +kernel
set_option maxRecDepth 65536 in
theorem w_t2 : (words1.drop 24).all (fun c => isCode c || c.before args0 about1) = true := by decide +kernel
theorem w_tables : (allAtoms (Jvm.Cond.code x code maxLocals ret :: tables_1)).before args0 about1 = true := by
  rw [allAtoms_all]
  show words1.all (fun c => c.before args0 about1) = true
  refine all_split ?_ w_codes
  rw [← List.take_append_drop 24 words1, List.all_append, w_t1, w_t2]
  rfl
set_option maxRecDepth 65536 in
theorem w_rest : rest_1_c.before args0 about1 = true := by decide +kernel
set_option maxRecDepth 65536 in
theorem w_case : (Jvm.Cond.and given_1 narrow_1).before args0 about1 = true := by decide +kernel
set_option maxRecDepth 65536 in
theorem w_consts : constsHeld consts_1 about1 := Jvm.Lit.constsHeldB_iff.mp (by decide +kernel)
theorem w_applies : (headSpec (Jvm.Cond.code x code maxLocals ret :: tables_1) room_1).applies x e0.platform about1 = true :=
  (Spec.applies_iff w_frames).mpr ⟨w_running, w_runnable, w_alone, w_named, w_hears, w_ripe, w_room, w_tables⟩
theorem atStart : AtStart classFile x code maxLocals ret World_1 tables_1 room_1 Calls_1 rest_1 Pre_1 launch0 p0 e0 about1 theMethod args0 below0 :=
  ⟨lists_1, trivial, launch0.admits_env _ _ _, launch0.least_env, fairChoices_fair.cas, fairChoices_fair.clock, w_frames, w_args, w_heap, w_applies, ⟨w_consts, trivial⟩, w_rest, w_case⟩
end start1
theorem witness_1 : WitnessClaimed_1 := ⟨start1.p0, start1.e0, start1.about1, start1.theMethod, start1.args0, start1.below0, start1.atStart⟩
end Jvm.Pilot.@@N@@
