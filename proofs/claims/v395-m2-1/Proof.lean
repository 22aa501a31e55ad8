import JvmDerived
import JvmDerived.Pilot.@@N@@Statement
import JvmDerived.Pilot.@@N@@Code
set_option linter.unusedVariables false
set_option linter.unusedSimpArgs false
namespace Jvm.RoadKit
open Sem ClassFile Op Lib Jvm.Stand Jvm.Free Jvm.LawKit
section New
variable {p : Program} {l : Launch} {e : Env} {R : Room} {s : State} {m : MethodId} {args : Array Value} {below : List Frame} {meth : Method} {c : Code} {T : State} {locs : List Loc} {cells slots : Nat}
theorem retI (X : Stand p l e R s m args below meth c T locs cells slots) (hx : p.tables.exec = Jvm.exec) {pc : Nat} {Ls : Array Slot} {z : Int32} {rest : List Value} (hret : meth.sig.returnType = some .int) (hd : decode c.code pc = .ok (.ireturn, 1)) {fs : List Frame}
    (hl : ∀ (f : JFrame) (acts : List Action), f.method = m → f.locked = none → f.entered = [] → (doReturn e (T.setTop f) acts (some (.int z))).1 = T.setFrames fs) : Steps p.tables e below (T.setTop (mkF m pc Ls (.int z :: rest))) (T.setFrames fs) := by
  have hm' : T.vm.method? m = some meth := X.method'
  have hn : narrow .int (.int z) = .int z := rfl
  show Steps p.tables e below (T.setTop { method := m, pc := pc, locals := Ls, stack := _ :: rest, locked := none }) _
  jvm_step X.here [X.here.top, hx, hd, hm', hret, hn]
  first | (intro acts; rw [hl _ acts rfl rfl rfl]) | rw [hl _ _ rfl rfl rfl]
  exact Steps.refl _
end New
end Jvm.RoadKit
namespace Jvm.Own
open Jvm Jvm.ClassFile Sem Op Lib Jvm.Free Jvm.Stand Jvm.LawKit Jvm.RoadKit Bundle
/-! ## A walk by continuations: `Goes` says that the run from here comes to a state with K; each rule takes one instruction off. -/
def Goes (p : Program) (e : Env) (below : List Frame) (K : State → Prop) (T : State) (m : MethodId) (pc : Nat) (L : Array Slot) (S : List Value) : Prop :=
  ∃ u, Steps p.tables e below (T.setTop (mkF m pc L S)) u ∧ K u
/-- where one body's walk stands: the standing facts, the state T with the heap h, what was written lies in new cells -/
def Wk (p : Program) (l : Launch) (e : Env) (R : Room) (s : State) (m : MethodId) (args : Array Value) (below : List Frame) (meth : Method) (c : Code) (Z : State) (n0 : Nat) (y : MethodName) (code : ByteArray) (ml : Nat) (ret : Option FieldType)
    (T : State) (cells slots : Nat) (h : Heap) : Prop :=
  p.tables.exec = Jvm.exec ∧ Z.Warmed39 s.vm ∧ c.code = code ∧ c.maxLocals = ml ∧ s.vm.findClass y.cls = some m.cls ∧ meth.name = y.name ∧ meth.sig.returnType = ret ∧ meth.locks = false ∧ n0 ≤ h.size ∧
  ∃ locs, Stand p l e R s m args below meth c T locs cells slots ∧ T.heap = h ∧ Fr n0 locs
def Qc (n0 : Nat) (w : Option Value) (Q : Heap → Prop) (v : Option Value) (h : Heap) (L : List Loc) : Prop := v = w ∧ Q h ∧ Fr n0 L ∧ n0 ≤ h.size
/-- what a body's end says: it returned w, the heap satisfies Q -/
def Done (below : List Frame) (s : State) (n0 : Nat) (R : Room) (w : Option Value) (Q : Heap → Prop) (u : State) : Prop :=
  ∃ o, u.status = .running ∧ Ended u below o ∧ ∃ v L, o = .returned v ∧ Qc n0 w Q v u.heap L ∧ FrameEnd s o u L R.cells R.slots
/-- a body's contract -/
def Con (l : Launch) (Z : State) (y : MethodName) (code : ByteArray) (ml : Nat) (ret : Option FieldType) (R : Room) (as : Array Value) (h0 : Heap) (n0 : Nat) (w : Option Value) (Q : Heap → Prop) : Prop :=
  ∀ ws, MetFree l y (head1 (Jvm.Cond.code y code ml ret :: ws) R) (fun a U => a = as ∧ Z.Warmed39 U.vm ∧ U.heap = h0) (fun _ _ _ _ _ => True)
    (fun _ U o U' => ∃ v L, o = .returned v ∧ Qc n0 w Q v U'.heap L ∧ FrameEnd U o U' L R.cells R.slots)
theorem con_of {l : Launch} {Z : State} {y : MethodName} {code : ByteArray} {ml : Nat} {ret : Option FieldType} {R : Room} {as : Array Value} {h0 : Heap} {n0 : Nat} {w : Option Value} {Q : Heap → Prop}
    (hpl : plainFor y = true) (hn0 : n0 ≤ h0.size) {L0 : Array Slot} (hL : ∀ m, entryFrame m as ml = mkF m 0 L0 [])
    (body : ∀ (p : Program) (e : Env) (s : State) (m : MethodId) (below : List Frame) (meth : Method) (c : Code) (T : State), Wk p l e R s m as below meth c Z n0 y code ml ret T 0 0 h0 → Goes p e below (Done below s n0 R w Q) T m 0 L0 []) :
    Con l Z y code ml ret R as h0 n0 w Q := by
  intro ws
  refine MetFree.of_bodySF hpl hisR ?_
  intro p e s m args below meth c s₁ Bd hml0 hP hK
  obtain ⟨rfl, hZ, hh⟩ := hP
  have X0 : Stand p l e R s m args below meth c s₁ [] 0 0 := Stand.of_body Bd
  have e0 : s₁.heap = h0 := by rw [← hh, Bd.state]; rfl
  obtain ⟨u, st, o, h1, h2, h3⟩ := body p e s m below meth c s₁ ⟨Bd.exec, hZ, Bd.bytes, hml0, findClass_of_methodNamed Bd.named, (name_of_methodNamed Bd.named Bd.method).1, Bd.returns, Bd.notSynchronized, hn0, [], X0, e0, Fr.nil n0⟩
  exact ⟨u, o, castTop (hL m) st, h1, h2, h3⟩
/-- Java's >>> -/
def ush (a b : Int32) : Int32 := (a.toUInt32 >>> (b &&& 31).toUInt32).toInt32
def ushL (a : Int64) (b : Int32) : Int64 := (a.toUInt64 >>> (b &&& 0x3f).toInt64.toUInt64).toInt64
/-- a local that holds nothing, or one word -/
def OneS (s : Slot) : Prop := s = .unset ∨ ∃ w : Value, s = .val w ∧ w.category = 1
theorem OneS.u : OneS .unset := Or.inl rfl
theorem OneS.i (z : Int32) : OneS (.val (.int z)) := Or.inr ⟨_, rfl, rfl⟩
theorem OneS.r (z : Addr) : OneS (.val (.ref z)) := Or.inr ⟨_, rfl, rfl⟩
section Rules
variable {p : Program} {l : Launch} {e : Env} {R : Room} {s : State} {m : MethodId} {args : Array Value} {below : List Frame} {meth : Method} {c : Code} {Z : State} {n0 : Nat} {y : MethodName} {code : ByteArray} {ml : Nat} {ret : Option FieldType}
  {T : State} {cells slots : Nat} {h : Heap} {K : State → Prop} {L : Array Slot} {S : List Value} {pc pc' : Nat} {a0 : Array Value}
theorem Goes.via {T' : State} {L' : Array Slot} {S' : List Value} (st : ∀ target, Steps p.tables e below (T'.setTop (mkF m pc' L' S')) target → Steps p.tables e below (T.setTop (mkF m pc L S)) target) (g : Goes p e below K T' m pc' L' S') : Goes p e below K T m pc L S := by
  obtain ⟨u, a, b⟩ := g
  exact ⟨u, st _ a, b⟩
theorem Wk.size (X : Wk p l e R s m args below meth c Z n0 y code ml ret T cells slots h) : n0 ≤ h.size := X.2.2.2.2.2.2.2.2.1
-- plain steps
theorem w_iloadN (X : Wk p l e R s m args below meth c Z n0 y code ml ret T cells slots h) {k : Fin 4} {v : Int32} (hd : decode code pc = .ok (.iload_n k, 1)) (hp : pc + 1 = pc') (hl : L[k.val]? = some (.val (.int v))) (g : Goes p e below K T m pc' L (.int v :: S)) : Goes p e below K T m pc L S := by
  obtain ⟨hx, -, hby, -, -, -, -, -, -, locs, X, -, -⟩ := X
  subst hp
  obtain ⟨u1, a1, b1⟩ := g
  exact ⟨u1, XS.iloadN (g := mkF m pc L S) X.here hx rfl (hb hby hd) hl a1, b1⟩
theorem w_iload (X : Wk p l e R s m args below meth c Z n0 y code ml ret T cells slots h) {k : Nat} {v : Int32} (hd : decode code pc = .ok (.iload k, 2)) (hp : pc + 2 = pc') (hl : L[k]? = some (.val (.int v))) (g : Goes p e below K T m pc' L (.int v :: S)) : Goes p e below K T m pc L S := by
  obtain ⟨hx, -, hby, -, -, -, -, -, -, locs, X, -, -⟩ := X
  subst hp
  obtain ⟨u1, a1, b1⟩ := g
  exact ⟨u1, XS.iload (g := mkF m pc L S) X.here hx rfl (hb hby hd) hl a1, b1⟩
theorem w_lloadN (X : Wk p l e R s m args below meth c Z n0 y code ml ret T cells slots h) {k : Fin 4} {v : Int64} (hd : decode code pc = .ok (.lload_n k, 1)) (hp : pc + 1 = pc') (hl : L[k.val]? = some (.val (.long v))) (g : Goes p e below K T m pc' L (.long v :: S)) : Goes p e below K T m pc L S := by
  obtain ⟨hx, -, hby, -, -, -, -, -, -, locs, X, -, -⟩ := X
  subst hp
  obtain ⟨u1, a1, b1⟩ := g
  exact ⟨u1, XS.lloadN (g := mkF m pc L S) X.here hx rfl (hb hby hd) hl a1, b1⟩
theorem w_lload (X : Wk p l e R s m args below meth c Z n0 y code ml ret T cells slots h) {k : Nat} {v : Int64} (hd : decode code pc = .ok (.lload k, 2)) (hp : pc + 2 = pc') (hl : L[k]? = some (.val (.long v))) (g : Goes p e below K T m pc' L (.long v :: S)) : Goes p e below K T m pc L S := by
  obtain ⟨hx, -, hby, -, -, -, -, -, -, locs, X, -, -⟩ := X
  subst hp
  obtain ⟨u1, a1, b1⟩ := g
  exact ⟨u1, XS.lload (g := mkF m pc L S) X.here hx rfl (hb hby hd) hl a1, b1⟩
theorem w_aloadN (X : Wk p l e R s m args below meth c Z n0 y code ml ret T cells slots h) {k : Fin 4} {v : Value} (hd : decode code pc = .ok (.aload_n k, 1)) (hp : pc + 1 = pc') (hl : L[k.val]? = some (.val v)) (hv : v.isRef = true) (g : Goes p e below K T m pc' L (v :: S)) : Goes p e below K T m pc L S := by
  obtain ⟨hx, -, hby, -, -, -, -, -, -, locs, X, -, -⟩ := X
  subst hp
  obtain ⟨u1, a1, b1⟩ := g
  exact ⟨u1, XS.aloadN (g := mkF m pc L S) X.here hx rfl (hb hby hd) hl hv a1, b1⟩
theorem w_aload (X : Wk p l e R s m args below meth c Z n0 y code ml ret T cells slots h) {k : Nat} {v : Value} (hd : decode code pc = .ok (.aload k, 2)) (hp : pc + 2 = pc') (hl : L[k]? = some (.val v)) (hv : v.isRef = true) (g : Goes p e below K T m pc' L (v :: S)) : Goes p e below K T m pc L S := by
  obtain ⟨hx, -, hby, -, -, -, -, -, -, locs, X, -, -⟩ := X
  subst hp
  obtain ⟨u1, a1, b1⟩ := g
  exact ⟨u1, XS.aload (g := mkF m pc L S) X.here hx rfl (hb hby hd) hl hv a1, b1⟩
theorem w_istoreN (X : Wk p l e R s m args below meth c Z n0 y code ml ret T cells slots h) {k : Fin 4} {v : Int32} {L' : Array Slot} (hd : decode code pc = .ok (.istore_n k, 1)) (hp : pc + 1 = pc') (hl : storeLocals L k.val (.int v) = some L') (g : Goes p e below K T m pc' L' S) : Goes p e below K T m pc L (.int v :: S) := by
  obtain ⟨hx, -, hby, -, -, -, -, -, -, locs, X, -, -⟩ := X
  subst hp
  obtain ⟨u1, a1, b1⟩ := g
  exact ⟨u1, XS.istoreN (g := mkF m pc L (.int v :: S)) X.here hx rfl (hb hby hd) rfl hl a1, b1⟩
theorem w_istore (X : Wk p l e R s m args below meth c Z n0 y code ml ret T cells slots h) {k : Nat} {v : Int32} {L' : Array Slot} (hd : decode code pc = .ok (.istore k, 2)) (hp : pc + 2 = pc') (hl : storeLocals L k (.int v) = some L') (g : Goes p e below K T m pc' L' S) : Goes p e below K T m pc L (.int v :: S) := by
  obtain ⟨hx, -, hby, -, -, -, -, -, -, locs, X, -, -⟩ := X
  subst hp
  obtain ⟨u1, a1, b1⟩ := g
  exact ⟨u1, XS.istore (g := mkF m pc L (.int v :: S)) X.here hx rfl (hb hby hd) rfl hl a1, b1⟩
theorem w_lstoreN (X : Wk p l e R s m args below meth c Z n0 y code ml ret T cells slots h) {k : Fin 4} {v : Int64} {L' : Array Slot} (hd : decode code pc = .ok (.lstore_n k, 1)) (hp : pc + 1 = pc') (hl : storeLocals L k.val (.long v) = some L') (g : Goes p e below K T m pc' L' S) : Goes p e below K T m pc L (.long v :: S) := by
  obtain ⟨hx, -, hby, -, -, -, -, -, -, locs, X, -, -⟩ := X
  subst hp
  obtain ⟨u1, a1, b1⟩ := g
  exact ⟨u1, XS.lstoreN (g := mkF m pc L (.long v :: S)) X.here hx rfl (hb hby hd) rfl hl a1, b1⟩
theorem w_lstore (X : Wk p l e R s m args below meth c Z n0 y code ml ret T cells slots h) {k : Nat} {v : Int64} {L' : Array Slot} (hd : decode code pc = .ok (.lstore k, 2)) (hp : pc + 2 = pc') (hl : storeLocals L k (.long v) = some L') (g : Goes p e below K T m pc' L' S) : Goes p e below K T m pc L (.long v :: S) := by
  obtain ⟨hx, -, hby, -, -, -, -, -, -, locs, X, -, -⟩ := X
  subst hp
  obtain ⟨u1, a1, b1⟩ := g
  exact ⟨u1, XS.lstore (g := mkF m pc L (.long v :: S)) X.here hx rfl (hb hby hd) rfl hl a1, b1⟩
theorem w_astoreN (X : Wk p l e R s m args below meth c Z n0 y code ml ret T cells slots h) {k : Fin 4} {v : Value} {L' : Array Slot} (hd : decode code pc = .ok (.astore_n k, 1)) (hp : pc + 1 = pc') (hv : v.isRef = true) (hl : storeLocals L k.val v = some L') (g : Goes p e below K T m pc' L' S) : Goes p e below K T m pc L (v :: S) := by
  obtain ⟨hx, -, hby, -, -, -, -, -, -, locs, X, -, -⟩ := X
  subst hp
  obtain ⟨u1, a1, b1⟩ := g
  exact ⟨u1, XS.astoreN (g := mkF m pc L (v :: S)) X.here hx rfl (hb hby hd) rfl hv hl a1, b1⟩
theorem w_astore (X : Wk p l e R s m args below meth c Z n0 y code ml ret T cells slots h) {k : Nat} {v : Value} {L' : Array Slot} (hd : decode code pc = .ok (.astore k, 2)) (hp : pc + 2 = pc') (hv : v.isRef = true) (hl : storeLocals L k v = some L') (g : Goes p e below K T m pc' L' S) : Goes p e below K T m pc L (v :: S) := by
  obtain ⟨hx, -, hby, -, -, -, -, -, -, locs, X, -, -⟩ := X
  subst hp
  obtain ⟨u1, a1, b1⟩ := g
  exact ⟨u1, XS.astore (g := mkF m pc L (v :: S)) X.here hx rfl (hb hby hd) rfl hv hl a1, b1⟩
theorem w_iconst (X : Wk p l e R s m args below meth c Z n0 y code ml ret T cells slots h) {i : Int} {v : Int32} (hd : decode code pc = .ok (.iconst i, 1)) (hp : pc + 1 = pc') (hv : Int32.ofInt i = v) (g : Goes p e below K T m pc' L (.int v :: S)) : Goes p e below K T m pc L S := by
  obtain ⟨hx, -, hby, -, -, -, -, -, -, locs, X, -, -⟩ := X
  subst hp hv
  obtain ⟨u1, a1, b1⟩ := g
  exact ⟨u1, XS.iconst (g := mkF m pc L S) X.here hx rfl (hb hby hd) a1, b1⟩
theorem w_bipush (X : Wk p l e R s m args below meth c Z n0 y code ml ret T cells slots h) {i : Int} {v : Int32} (hd : decode code pc = .ok (.bipush i, 2)) (hp : pc + 2 = pc') (hv : (Int8.ofInt i).toInt32 = v) (g : Goes p e below K T m pc' L (.int v :: S)) : Goes p e below K T m pc L S := by
  obtain ⟨hx, -, hby, -, -, -, -, -, -, locs, X, -, -⟩ := X
  subst hp hv
  obtain ⟨u1, a1, b1⟩ := g
  exact ⟨u1, XS.bipush (g := mkF m pc L S) X.here hx rfl (hb hby hd) a1, b1⟩
theorem w_sipush (X : Wk p l e R s m args below meth c Z n0 y code ml ret T cells slots h) {i : Int} {v : Int32} (hd : decode code pc = .ok (.sipush i, 3)) (hp : pc + 3 = pc') (hv : (Int16.ofInt i).toInt32 = v) (g : Goes p e below K T m pc' L (.int v :: S)) : Goes p e below K T m pc L S := by
  obtain ⟨hx, -, hby, -, -, -, -, -, -, locs, X, -, -⟩ := X
  subst hp hv
  obtain ⟨u1, a1, b1⟩ := g
  exact ⟨u1, XS.sipush (g := mkF m pc L S) X.here hx rfl (hb hby hd) a1, b1⟩
theorem w_lconst (X : Wk p l e R s m args below meth c Z n0 y code ml ret T cells slots h) {i : Fin 2} {v : Int64} (hd : decode code pc = .ok (.lconst i, 1)) (hp : pc + 1 = pc') (hv : Int64.ofNat i = v) (g : Goes p e below K T m pc' L (.long v :: S)) : Goes p e below K T m pc L S := by
  obtain ⟨hx, -, hby, -, -, -, -, -, -, locs, X, -, -⟩ := X
  subst hp hv
  obtain ⟨u1, a1, b1⟩ := g
  exact ⟨u1, XS.lconst (g := mkF m pc L S) X.here hx rfl (hb hby hd) a1, b1⟩
theorem w_ldcInt (X : Wk p l e R s m args below meth c Z n0 y code ml ret T cells slots h) {i : Nat} {v : Int32} (hc : (Jvm.Cond.constant y.cls i v).before a0 Z = true) (hd : decode code pc = .ok (.ldc i, 2)) (hp : pc + 2 = pc') (g : Goes p e below K T m pc' L (.int v :: S)) : Goes p e below K T m pc L S := by
  obtain ⟨hx, hZ, hby, -, hown, -, -, -, -, locs, X, -, -⟩ := X
  subst hp
  obtain ⟨u1, a1, b1⟩ := g
  exact ⟨u1, X.ldcInt hx hown (mvT hZ hc) (g := mkF m pc L S) rfl (hb hby hd) _ a1, b1⟩
theorem w_ldcWInt (X : Wk p l e R s m args below meth c Z n0 y code ml ret T cells slots h) {i : Nat} {v : Int32} (hc : (Jvm.Cond.constant y.cls i v).before a0 Z = true) (hd : decode code pc = .ok (.ldc_w i, 3)) (hp : pc + 3 = pc') (g : Goes p e below K T m pc' L (.int v :: S)) : Goes p e below K T m pc L S := by
  obtain ⟨hx, hZ, hby, -, hown, -, -, -, -, locs, X, -, -⟩ := X
  subst hp
  obtain ⟨u1, a1, b1⟩ := g
  exact ⟨u1, X.ldcWInt hx hown (mvT hZ hc) (g := mkF m pc L S) rfl (hb hby hd) _ a1, b1⟩
theorem w_ldc2Long (X : Wk p l e R s m args below meth c Z n0 y code ml ret T cells slots h) {i : Nat} {v : Int64} (hc : (Jvm.Cond.constantLong y.cls i v).before a0 Z = true) (hd : decode code pc = .ok (.ldc2_w i, 3)) (hp : pc + 3 = pc') (g : Goes p e below K T m pc' L (.long v :: S)) : Goes p e below K T m pc L S := by
  obtain ⟨hx, hZ, hby, -, hown, -, -, -, -, locs, X, -, -⟩ := X
  subst hp
  obtain ⟨u1, a1, b1⟩ := g
  exact ⟨u1, X.ldc2Long hx hown (mvT hZ hc) (g := mkF m pc L S) rfl (hb hby hd) _ a1, b1⟩
theorem w_iinc (X : Wk p l e R s m args below meth c Z n0 y code ml ret T cells slots h) {k : Nat} {d : Int} {v v' : Int32} {L' : Array Slot} (hd : decode code pc = .ok (.iinc k d, 3)) (hp : pc + 3 = pc') (hl : L[k]? = some (.val (.int v))) (hv : v + Int32.ofInt d = v') (hl' : storeLocals L k (.int v') = some L') (g : Goes p e below K T m pc' L' S) : Goes p e below K T m pc L S := by
  obtain ⟨hx, -, hby, -, -, -, -, -, -, locs, X, -, -⟩ := X
  subst hp hv
  obtain ⟨u1, a1, b1⟩ := g
  exact ⟨u1, XS.iinc (g := mkF m pc L S) X.here hx rfl (hb hby hd) hl hl' a1, b1⟩
theorem w_goto (X : Wk p l e R s m args below meth c Z n0 y code ml ret T cells slots h) {o : Int} (hd : decode code pc = .ok (.goto o, 3)) (ho : 0 ≤ (pc : Int) + o) (hp : ((pc : Int) + o).toNat = pc') (g : Goes p e below K T m pc' L S) : Goes p e below K T m pc L S := by
  obtain ⟨hx, -, hby, -, -, -, -, -, -, locs, X, -, -⟩ := X
  obtain ⟨u1, a1, b1⟩ := g
  exact ⟨u1, XS.goto (g := mkF m pc L S) X.here hx rfl (pc0 := pc) rfl (hb hby hd) ho hp a1, b1⟩
theorem w_dup (X : Wk p l e R s m args below meth c Z n0 y code ml ret T cells slots h) {v : Value} (hd : decode code pc = .ok (.dup, 1)) (hp : pc + 1 = pc') (hv : v.category = 1) (g : Goes p e below K T m pc' L (v :: v :: S)) : Goes p e below K T m pc L (v :: S) := by
  obtain ⟨hx, -, hby, -, -, -, -, -, -, locs, X, -, -⟩ := X
  subst hp
  obtain ⟨u1, a1, b1⟩ := g
  exact ⟨u1, XS.dup (g := mkF m pc L (v :: S)) X.here hx rfl (hb hby hd) rfl hv a1, b1⟩
theorem w_dup2 (X : Wk p l e R s m args below meth c Z n0 y code ml ret T cells slots h) {v w : Value} (hd : decode code pc = .ok (.dup2, 1)) (hp : pc + 1 = pc') (hv : v.category = 1) (hw : w.category = 1) (g : Goes p e below K T m pc' L (v :: w :: v :: w :: S)) : Goes p e below K T m pc L (v :: w :: S) := by
  obtain ⟨hx, -, hby, -, -, -, -, -, -, locs, X, -, -⟩ := X
  subst hp
  obtain ⟨u1, a1, b1⟩ := g
  exact ⟨u1, Jvm.Free.XT.dup2 (g := mkF m pc L (v :: w :: S)) X.here hx rfl (hb hby hd) rfl hv hw a1, b1⟩
theorem w_pop (X : Wk p l e R s m args below meth c Z n0 y code ml ret T cells slots h) {v : Value} (hd : decode code pc = .ok (.pop, 1)) (hp : pc + 1 = pc') (hv : v.category = 1) (g : Goes p e below K T m pc' L S) : Goes p e below K T m pc L (v :: S) := by
  obtain ⟨hx, -, hby, -, -, -, -, -, -, locs, X, -, -⟩ := X
  subst hp
  obtain ⟨u1, a1, b1⟩ := g
  exact ⟨u1, XS.pop (g := mkF m pc L (v :: S)) X.here hx rfl (hb hby hd) rfl hv a1, b1⟩
theorem w_dupX1 (X : Wk p l e R s m args below meth c Z n0 y code ml ret T cells slots h) {v w : Value} (hd : decode code pc = .ok (.dup_x1, 1)) (hp : pc + 1 = pc') (hv : v.category = 1) (hw : w.category = 1) (g : Goes p e below K T m pc' L (v :: w :: v :: S)) : Goes p e below K T m pc L (v :: w :: S) := by
  obtain ⟨hx, -, hby, -, -, -, -, -, -, locs, X, -, -⟩ := X
  subst hp
  obtain ⟨u1, a1, b1⟩ := g
  exact ⟨u1, XS.dupX1 (g := mkF m pc L (v :: w :: S)) X.here hx rfl (hb hby hd) rfl hv hw a1, b1⟩
theorem w_null (X : Wk p l e R s m args below meth c Z n0 y code ml ret T cells slots h) (hd : decode code pc = .ok (.aconst_null, 1)) (hp : pc + 1 = pc') (g : Goes p e below K T m pc' L (.null :: S)) : Goes p e below K T m pc L S := by
  obtain ⟨hx, -, hby, -, -, -, -, -, -, locs, X, -, -⟩ := X
  subst hp
  obtain ⟨u1, a1, b1⟩ := g
  exact ⟨u1, XS.aconstNull (g := mkF m pc L S) X.here hx rfl (hb hby hd) a1, b1⟩
theorem w_ifnullYes (X : Wk p l e R s m args below meth c Z n0 y code ml ret T cells slots h) {o : Int} (hd : decode code pc = .ok (.ifnull o, 3)) (ho : 0 ≤ (pc : Int) + o) (hp : ((pc : Int) + o).toNat = pc') (g : Goes p e below K T m pc' L S) : Goes p e below K T m pc L (.null :: S) := by
  obtain ⟨hx, -, hby, -, -, -, -, -, -, locs, X, -, -⟩ := X
  obtain ⟨u1, a1, b1⟩ := g
  exact ⟨u1, XS.ifnullYes (g := mkF m pc L (.null :: S)) X.here hx rfl (pc0 := pc) rfl (hb hby hd) rfl ho hp a1, b1⟩
theorem w_ifnullNo (X : Wk p l e R s m args below meth c Z n0 y code ml ret T cells slots h) {o : Int} {a : Addr} (hd : decode code pc = .ok (.ifnull o, 3)) (hp : pc + 3 = pc') (g : Goes p e below K T m pc' L S) : Goes p e below K T m pc L (.ref a :: S) := by
  obtain ⟨hx, -, hby, -, -, -, -, -, -, locs, X, -, -⟩ := X
  subst hp
  obtain ⟨u1, a1, b1⟩ := g
  exact ⟨u1, XS.ifnullNo (g := mkF m pc L (.ref a :: S)) X.here hx rfl (hb hby hd) rfl a1, b1⟩
theorem w_ifnonnullYes (X : Wk p l e R s m args below meth c Z n0 y code ml ret T cells slots h) {o : Int} {a : Addr} (hd : decode code pc = .ok (.ifnonnull o, 3)) (ho : 0 ≤ (pc : Int) + o) (hp : ((pc : Int) + o).toNat = pc') (g : Goes p e below K T m pc' L S) : Goes p e below K T m pc L (.ref a :: S) := by
  obtain ⟨hx, -, hby, -, -, -, -, -, -, locs, X, -, -⟩ := X
  obtain ⟨u1, a1, b1⟩ := g
  exact ⟨u1, XS.ifnonnullYes (g := mkF m pc L (.ref a :: S)) X.here hx rfl (pc0 := pc) rfl (hb hby hd) rfl ho hp a1, b1⟩
theorem w_ifnonnullNo (X : Wk p l e R s m args below meth c Z n0 y code ml ret T cells slots h) {o : Int} (hd : decode code pc = .ok (.ifnonnull o, 3)) (hp : pc + 3 = pc') (g : Goes p e below K T m pc' L S) : Goes p e below K T m pc L (.null :: S) := by
  obtain ⟨hx, -, hby, -, -, -, -, -, -, locs, X, -, -⟩ := X
  subst hp
  obtain ⟨u1, a1, b1⟩ := g
  exact ⟨u1, XS.ifnonnullNo (g := mkF m pc L (.null :: S)) X.here hx rfl (hb hby hd) rfl a1, b1⟩
theorem w_iadd (X : Wk p l e R s m args below meth c Z n0 y code ml ret T cells slots h) {a b : Int32} (hd : decode code pc = .ok (.iadd, 1)) (hp : pc + 1 = pc') (g : Goes p e below K T m pc' L (.int (a + b) :: S)) : Goes p e below K T m pc L (.int b :: .int a :: S) := by
  obtain ⟨hx, -, hby, -, -, -, -, -, -, locs, X, -, -⟩ := X
  subst hp
  obtain ⟨u1, a1, b1⟩ := g
  exact ⟨u1, XS.iadd (g := mkF m pc L (.int b :: .int a :: S)) X.here hx rfl (hb hby hd) rfl a1, b1⟩
theorem w_ladd (X : Wk p l e R s m args below meth c Z n0 y code ml ret T cells slots h) {a b : Int64} (hd : decode code pc = .ok (.ladd, 1)) (hp : pc + 1 = pc') (g : Goes p e below K T m pc' L (.long (a + b) :: S)) : Goes p e below K T m pc L (.long b :: .long a :: S) := by
  obtain ⟨hx, -, hby, -, -, -, -, -, -, locs, X, -, -⟩ := X
  subst hp
  obtain ⟨u1, a1, b1⟩ := g
  exact ⟨u1, XS.ladd (g := mkF m pc L (.long b :: .long a :: S)) X.here hx rfl (hb hby hd) rfl a1, b1⟩
theorem w_isub (X : Wk p l e R s m args below meth c Z n0 y code ml ret T cells slots h) {a b : Int32} (hd : decode code pc = .ok (.isub, 1)) (hp : pc + 1 = pc') (g : Goes p e below K T m pc' L (.int (a - b) :: S)) : Goes p e below K T m pc L (.int b :: .int a :: S) := by
  obtain ⟨hx, -, hby, -, -, -, -, -, -, locs, X, -, -⟩ := X
  subst hp
  obtain ⟨u1, a1, b1⟩ := g
  exact ⟨u1, XS.isub (g := mkF m pc L (.int b :: .int a :: S)) X.here hx rfl (hb hby hd) rfl a1, b1⟩
theorem w_lsub (X : Wk p l e R s m args below meth c Z n0 y code ml ret T cells slots h) {a b : Int64} (hd : decode code pc = .ok (.lsub, 1)) (hp : pc + 1 = pc') (g : Goes p e below K T m pc' L (.long (a - b) :: S)) : Goes p e below K T m pc L (.long b :: .long a :: S) := by
  obtain ⟨hx, -, hby, -, -, -, -, -, -, locs, X, -, -⟩ := X
  subst hp
  obtain ⟨u1, a1, b1⟩ := g
  exact ⟨u1, XS.lsub (g := mkF m pc L (.long b :: .long a :: S)) X.here hx rfl (hb hby hd) rfl a1, b1⟩
theorem w_imul (X : Wk p l e R s m args below meth c Z n0 y code ml ret T cells slots h) {a b : Int32} (hd : decode code pc = .ok (.imul, 1)) (hp : pc + 1 = pc') (g : Goes p e below K T m pc' L (.int (a * b) :: S)) : Goes p e below K T m pc L (.int b :: .int a :: S) := by
  obtain ⟨hx, -, hby, -, -, -, -, -, -, locs, X, -, -⟩ := X
  subst hp
  obtain ⟨u1, a1, b1⟩ := g
  exact ⟨u1, XS.imul (g := mkF m pc L (.int b :: .int a :: S)) X.here hx rfl (hb hby hd) rfl a1, b1⟩
theorem w_lmul (X : Wk p l e R s m args below meth c Z n0 y code ml ret T cells slots h) {a b : Int64} (hd : decode code pc = .ok (.lmul, 1)) (hp : pc + 1 = pc') (g : Goes p e below K T m pc' L (.long (a * b) :: S)) : Goes p e below K T m pc L (.long b :: .long a :: S) := by
  obtain ⟨hx, -, hby, -, -, -, -, -, -, locs, X, -, -⟩ := X
  subst hp
  obtain ⟨u1, a1, b1⟩ := g
  exact ⟨u1, XS.lmul (g := mkF m pc L (.long b :: .long a :: S)) X.here hx rfl (hb hby hd) rfl a1, b1⟩
theorem w_iand (X : Wk p l e R s m args below meth c Z n0 y code ml ret T cells slots h) {a b : Int32} (hd : decode code pc = .ok (.iand, 1)) (hp : pc + 1 = pc') (g : Goes p e below K T m pc' L (.int (a &&& b) :: S)) : Goes p e below K T m pc L (.int b :: .int a :: S) := by
  obtain ⟨hx, -, hby, -, -, -, -, -, -, locs, X, -, -⟩ := X
  subst hp
  obtain ⟨u1, a1, b1⟩ := g
  exact ⟨u1, XS.iand (g := mkF m pc L (.int b :: .int a :: S)) X.here hx rfl (hb hby hd) rfl a1, b1⟩
theorem w_land (X : Wk p l e R s m args below meth c Z n0 y code ml ret T cells slots h) {a b : Int64} (hd : decode code pc = .ok (.land, 1)) (hp : pc + 1 = pc') (g : Goes p e below K T m pc' L (.long (a &&& b) :: S)) : Goes p e below K T m pc L (.long b :: .long a :: S) := by
  obtain ⟨hx, -, hby, -, -, -, -, -, -, locs, X, -, -⟩ := X
  subst hp
  obtain ⟨u1, a1, b1⟩ := g
  exact ⟨u1, XS.land (g := mkF m pc L (.long b :: .long a :: S)) X.here hx rfl (hb hby hd) rfl a1, b1⟩
theorem w_ior (X : Wk p l e R s m args below meth c Z n0 y code ml ret T cells slots h) {a b : Int32} (hd : decode code pc = .ok (.ior, 1)) (hp : pc + 1 = pc') (g : Goes p e below K T m pc' L (.int (a ||| b) :: S)) : Goes p e below K T m pc L (.int b :: .int a :: S) := by
  obtain ⟨hx, -, hby, -, -, -, -, -, -, locs, X, -, -⟩ := X
  subst hp
  obtain ⟨u1, a1, b1⟩ := g
  exact ⟨u1, XS.ior (g := mkF m pc L (.int b :: .int a :: S)) X.here hx rfl (hb hby hd) rfl a1, b1⟩
theorem w_lor (X : Wk p l e R s m args below meth c Z n0 y code ml ret T cells slots h) {a b : Int64} (hd : decode code pc = .ok (.lor, 1)) (hp : pc + 1 = pc') (g : Goes p e below K T m pc' L (.long (a ||| b) :: S)) : Goes p e below K T m pc L (.long b :: .long a :: S) := by
  obtain ⟨hx, -, hby, -, -, -, -, -, -, locs, X, -, -⟩ := X
  subst hp
  obtain ⟨u1, a1, b1⟩ := g
  exact ⟨u1, XS.lor (g := mkF m pc L (.long b :: .long a :: S)) X.here hx rfl (hb hby hd) rfl a1, b1⟩
theorem w_ixor (X : Wk p l e R s m args below meth c Z n0 y code ml ret T cells slots h) {a b : Int32} (hd : decode code pc = .ok (.ixor, 1)) (hp : pc + 1 = pc') (g : Goes p e below K T m pc' L (.int (a ^^^ b) :: S)) : Goes p e below K T m pc L (.int b :: .int a :: S) := by
  obtain ⟨hx, -, hby, -, -, -, -, -, -, locs, X, -, -⟩ := X
  subst hp
  obtain ⟨u1, a1, b1⟩ := g
  exact ⟨u1, XS.ixor (g := mkF m pc L (.int b :: .int a :: S)) X.here hx rfl (hb hby hd) rfl a1, b1⟩
theorem w_lxor (X : Wk p l e R s m args below meth c Z n0 y code ml ret T cells slots h) {a b : Int64} (hd : decode code pc = .ok (.lxor, 1)) (hp : pc + 1 = pc') (g : Goes p e below K T m pc' L (.long (a ^^^ b) :: S)) : Goes p e below K T m pc L (.long b :: .long a :: S) := by
  obtain ⟨hx, -, hby, -, -, -, -, -, -, locs, X, -, -⟩ := X
  subst hp
  obtain ⟨u1, a1, b1⟩ := g
  exact ⟨u1, XS.lxor (g := mkF m pc L (.long b :: .long a :: S)) X.here hx rfl (hb hby hd) rfl a1, b1⟩
theorem w_ishl (X : Wk p l e R s m args below meth c Z n0 y code ml ret T cells slots h) {a b : Int32} (hd : decode code pc = .ok (.ishl, 1)) (hp : pc + 1 = pc') (g : Goes p e below K T m pc' L (.int (a <<< (b &&& 31)) :: S)) : Goes p e below K T m pc L (.int b :: .int a :: S) := by
  obtain ⟨hx, -, hby, -, -, -, -, -, -, locs, X, -, -⟩ := X
  subst hp
  obtain ⟨u1, a1, b1⟩ := g
  exact ⟨u1, XS.ishl (g := mkF m pc L (.int b :: .int a :: S)) X.here hx rfl (hb hby hd) rfl a1, b1⟩
theorem w_ishr (X : Wk p l e R s m args below meth c Z n0 y code ml ret T cells slots h) {a b : Int32} (hd : decode code pc = .ok (.ishr, 1)) (hp : pc + 1 = pc') (g : Goes p e below K T m pc' L (.int (a >>> (b &&& 31)) :: S)) : Goes p e below K T m pc L (.int b :: .int a :: S) := by
  obtain ⟨hx, -, hby, -, -, -, -, -, -, locs, X, -, -⟩ := X
  subst hp
  obtain ⟨u1, a1, b1⟩ := g
  exact ⟨u1, XS.ishr (g := mkF m pc L (.int b :: .int a :: S)) X.here hx rfl (hb hby hd) rfl a1, b1⟩
theorem w_iushr (X : Wk p l e R s m args below meth c Z n0 y code ml ret T cells slots h) {a b : Int32} (hd : decode code pc = .ok (.iushr, 1)) (hp : pc + 1 = pc') (g : Goes p e below K T m pc' L (.int (ush a b) :: S)) : Goes p e below K T m pc L (.int b :: .int a :: S) := by
  obtain ⟨hx, -, hby, -, -, -, -, -, -, locs, X, -, -⟩ := X
  subst hp
  obtain ⟨u1, a1, b1⟩ := g
  exact ⟨u1, XS.iushr (g := mkF m pc L (.int b :: .int a :: S)) X.here hx rfl (hb hby hd) rfl a1, b1⟩
theorem w_lshl (X : Wk p l e R s m args below meth c Z n0 y code ml ret T cells slots h) {a : Int64} {b : Int32} (hd : decode code pc = .ok (.lshl, 1)) (hp : pc + 1 = pc') (g : Goes p e below K T m pc' L (.long (a <<< (b &&& 0x3f).toInt64) :: S)) : Goes p e below K T m pc L (.int b :: .long a :: S) := by
  obtain ⟨hx, -, hby, -, -, -, -, -, -, locs, X, -, -⟩ := X
  subst hp
  obtain ⟨u1, a1, b1⟩ := g
  exact ⟨u1, XS.lshl (g := mkF m pc L (.int b :: .long a :: S)) X.here hx rfl (hb hby hd) rfl a1, b1⟩
theorem w_lshr (X : Wk p l e R s m args below meth c Z n0 y code ml ret T cells slots h) {a : Int64} {b : Int32} (hd : decode code pc = .ok (.lshr, 1)) (hp : pc + 1 = pc') (g : Goes p e below K T m pc' L (.long (a >>> (b &&& 0x3f).toInt64) :: S)) : Goes p e below K T m pc L (.int b :: .long a :: S) := by
  obtain ⟨hx, -, hby, -, -, -, -, -, -, locs, X, -, -⟩ := X
  subst hp
  obtain ⟨u1, a1, b1⟩ := g
  exact ⟨u1, XS.lshr (g := mkF m pc L (.int b :: .long a :: S)) X.here hx rfl (hb hby hd) rfl a1, b1⟩
theorem w_lushr (X : Wk p l e R s m args below meth c Z n0 y code ml ret T cells slots h) {a : Int64} {b : Int32} (hd : decode code pc = .ok (.lushr, 1)) (hp : pc + 1 = pc') (g : Goes p e below K T m pc' L (.long (ushL a b) :: S)) : Goes p e below K T m pc L (.int b :: .long a :: S) := by
  obtain ⟨hx, -, hby, -, -, -, -, -, -, locs, X, -, -⟩ := X
  subst hp
  obtain ⟨u1, a1, b1⟩ := g
  exact ⟨u1, XS.lushr (g := mkF m pc L (.int b :: .long a :: S)) X.here hx rfl (hb hby hd) rfl a1, b1⟩
theorem w_ineg (X : Wk p l e R s m args below meth c Z n0 y code ml ret T cells slots h) {a : Int32} (hd : decode code pc = .ok (.ineg, 1)) (hp : pc + 1 = pc') (g : Goes p e below K T m pc' L (.int (-a) :: S)) : Goes p e below K T m pc L (.int a :: S) := by
  obtain ⟨hx, -, hby, -, -, -, -, -, -, locs, X, -, -⟩ := X
  subst hp
  obtain ⟨u1, a1, b1⟩ := g
  exact ⟨u1, XS.ineg (g := mkF m pc L (.int a :: S)) X.here hx rfl (hb hby hd) rfl a1, b1⟩
theorem w_lneg (X : Wk p l e R s m args below meth c Z n0 y code ml ret T cells slots h) {a : Int64} (hd : decode code pc = .ok (.lneg, 1)) (hp : pc + 1 = pc') (g : Goes p e below K T m pc' L (.long (-a) :: S)) : Goes p e below K T m pc L (.long a :: S) := by
  obtain ⟨hx, -, hby, -, -, -, -, -, -, locs, X, -, -⟩ := X
  subst hp
  obtain ⟨u1, a1, b1⟩ := g
  exact ⟨u1, XS.lneg (g := mkF m pc L (.long a :: S)) X.here hx rfl (hb hby hd) rfl a1, b1⟩
theorem w_i2l (X : Wk p l e R s m args below meth c Z n0 y code ml ret T cells slots h) {a : Int32} (hd : decode code pc = .ok (.i2l, 1)) (hp : pc + 1 = pc') (g : Goes p e below K T m pc' L (.long a.toInt64 :: S)) : Goes p e below K T m pc L (.int a :: S) := by
  obtain ⟨hx, -, hby, -, -, -, -, -, -, locs, X, -, -⟩ := X
  subst hp
  obtain ⟨u1, a1, b1⟩ := g
  exact ⟨u1, XS.i2l (g := mkF m pc L (.int a :: S)) X.here hx rfl (hb hby hd) rfl a1, b1⟩
theorem w_l2i (X : Wk p l e R s m args below meth c Z n0 y code ml ret T cells slots h) {a : Int64} (hd : decode code pc = .ok (.l2i, 1)) (hp : pc + 1 = pc') (g : Goes p e below K T m pc' L (.int a.toInt32 :: S)) : Goes p e below K T m pc L (.long a :: S) := by
  obtain ⟨hx, -, hby, -, -, -, -, -, -, locs, X, -, -⟩ := X
  subst hp
  obtain ⟨u1, a1, b1⟩ := g
  exact ⟨u1, XS.l2i (g := mkF m pc L (.long a :: S)) X.here hx rfl (hb hby hd) rfl a1, b1⟩
theorem w_i2b (X : Wk p l e R s m args below meth c Z n0 y code ml ret T cells slots h) {a : Int32} (hd : decode code pc = .ok (.i2b, 1)) (hp : pc + 1 = pc') (g : Goes p e below K T m pc' L (.int a.toInt8.toInt32 :: S)) : Goes p e below K T m pc L (.int a :: S) := by
  obtain ⟨hx, -, hby, -, -, -, -, -, -, locs, X, -, -⟩ := X
  subst hp
  obtain ⟨u1, a1, b1⟩ := g
  exact ⟨u1, XS.i2b (g := mkF m pc L (.int a :: S)) X.here hx rfl (hb hby hd) rfl a1, b1⟩
theorem w_i2s (X : Wk p l e R s m args below meth c Z n0 y code ml ret T cells slots h) {a : Int32} (hd : decode code pc = .ok (.i2s, 1)) (hp : pc + 1 = pc') (g : Goes p e below K T m pc' L (.int a.toInt16.toInt32 :: S)) : Goes p e below K T m pc L (.int a :: S) := by
  obtain ⟨hx, -, hby, -, -, -, -, -, -, locs, X, -, -⟩ := X
  subst hp
  obtain ⟨u1, a1, b1⟩ := g
  exact ⟨u1, XS.i2s (g := mkF m pc L (.int a :: S)) X.here hx rfl (hb hby hd) rfl a1, b1⟩
theorem w_i2c (X : Wk p l e R s m args below meth c Z n0 y code ml ret T cells slots h) {a : Int32} (hd : decode code pc = .ok (.i2c, 1)) (hp : pc + 1 = pc') (g : Goes p e below K T m pc' L (.int a.toUInt32.toUInt16.toUInt32.toInt32 :: S)) : Goes p e below K T m pc L (.int a :: S) := by
  obtain ⟨hx, -, hby, -, -, -, -, -, -, locs, X, -, -⟩ := X
  subst hp
  obtain ⟨u1, a1, b1⟩ := g
  exact ⟨u1, XS.i2c (g := mkF m pc L (.int a :: S)) X.here hx rfl (hb hby hd) rfl a1, b1⟩
theorem w_idiv (X : Wk p l e R s m args below meth c Z n0 y code ml ret T cells slots h) {a b : Int32} (hd : decode code pc = .ok (.idiv, 1)) (hp : pc + 1 = pc') (hb0 : b ≠ 0) (g : Goes p e below K T m pc' L (.int (a / b) :: S)) : Goes p e below K T m pc L (.int b :: .int a :: S) := by
  obtain ⟨hx, -, hby, -, -, -, -, -, -, locs, X, -, -⟩ := X
  subst hp
  obtain ⟨u1, a1, b1⟩ := g
  exact ⟨u1, XS.idiv (g := mkF m pc L (.int b :: .int a :: S)) X.here hx rfl (hb hby hd) rfl hb0 a1, b1⟩
theorem w_irem (X : Wk p l e R s m args below meth c Z n0 y code ml ret T cells slots h) {a b : Int32} (hd : decode code pc = .ok (.irem, 1)) (hp : pc + 1 = pc') (hb0 : b ≠ 0) (g : Goes p e below K T m pc' L (.int (a % b) :: S)) : Goes p e below K T m pc L (.int b :: .int a :: S) := by
  obtain ⟨hx, -, hby, -, -, -, -, -, -, locs, X, -, -⟩ := X
  subst hp
  obtain ⟨u1, a1, b1⟩ := g
  exact ⟨u1, Jvm.RoadKit.iremM (g := mkF m pc L (.int b :: .int a :: S)) X hx rfl (hb hby hd) rfl hb0 a1, b1⟩
theorem w_ldiv (X : Wk p l e R s m args below meth c Z n0 y code ml ret T cells slots h) {a b : Int64} (hd : decode code pc = .ok (.ldiv, 1)) (hp : pc + 1 = pc') (hb0 : b ≠ 0) (g : Goes p e below K T m pc' L (.long (a / b) :: S)) : Goes p e below K T m pc L (.long b :: .long a :: S) := by
  obtain ⟨hx, -, hby, -, -, -, -, -, -, locs, X, -, -⟩ := X
  subst hp
  obtain ⟨u1, a1, b1⟩ := g
  exact ⟨u1, XS.ldiv (g := mkF m pc L (.long b :: .long a :: S)) X.here hx rfl (hb hby hd) rfl hb0 a1, b1⟩
theorem w_lrem (X : Wk p l e R s m args below meth c Z n0 y code ml ret T cells slots h) {a b : Int64} (hd : decode code pc = .ok (.lrem, 1)) (hp : pc + 1 = pc') (hb0 : b ≠ 0) (g : Goes p e below K T m pc' L (.long (a % b) :: S)) : Goes p e below K T m pc L (.long b :: .long a :: S) := by
  obtain ⟨hx, -, hby, -, -, -, -, -, -, locs, X, -, -⟩ := X
  subst hp
  rw [← lrem_mod] at g
  obtain ⟨u1, a1, b1⟩ := g
  exact ⟨u1, XS.lrem (g := mkF m pc L (.long b :: .long a :: S)) X.here hx rfl (hb hby hd) rfl hb0 a1, b1⟩
theorem w_lcmp (X : Wk p l e R s m args below meth c Z n0 y code ml ret T cells slots h) {a b : Int64} (hd : decode code pc = .ok (.lcmp, 1)) (hp : pc + 1 = pc') (g : Goes p e below K T m pc' L (.int (lcmpW a b) :: S)) : Goes p e below K T m pc L (.long b :: .long a :: S) := by
  obtain ⟨hx, -, hby, -, -, -, -, -, -, locs, X, -, -⟩ := X
  subst hp
  obtain ⟨u1, a1, b1⟩ := g
  exact ⟨u1, XS.lcmp (g := mkF m pc L (.long b :: .long a :: S)) X.here hx rfl (hb hby hd) rfl a1, b1⟩
theorem w_icmp_lt (X : Wk p l e R s m args below meth c Z n0 y code ml ret T cells slots h) {a b : Int32} {o : Int} {pcT pcF : Nat} (hd : decode code pc = .ok (.if_icmp .lt o, 3)) (ho : 0 ≤ (pc : Int) + o) (hT : ((pc : Int) + o).toNat = pcT) (hF : pc + 3 = pcF) (gT : a < b → Goes p e below K T m pcT L S) (gF : ¬ a < b → Goes p e below K T m pcF L S) : Goes p e below K T m pc L (.int b :: .int a :: S) := by
  obtain ⟨hx, -, hby, -, -, -, -, -, -, locs, X, -, -⟩ := X
  subst hF
  by_cases q : a < b
  · obtain ⟨u1, a1, b1⟩ := (gT q)
    exact ⟨u1, XS.icmpYes (g := mkF m pc L (.int b :: .int a :: S)) X.here hx rfl (pc0 := pc) rfl (hb hby hd) rfl (tlt q).1 ho hT a1, b1⟩
  · obtain ⟨u1, a1, b1⟩ := (gF q)
    exact ⟨u1, XS.icmpNo (g := mkF m pc L (.int b :: .int a :: S)) X.here hx rfl (hb hby hd) rfl (flt q).1 a1, b1⟩
theorem w_if_lt (X : Wk p l e R s m args below meth c Z n0 y code ml ret T cells slots h) {a : Int32} {o : Int} {pcT pcF : Nat} (hd : decode code pc = .ok (.ifCond .lt o, 3)) (ho : 0 ≤ (pc : Int) + o) (hT : ((pc : Int) + o).toNat = pcT) (hF : pc + 3 = pcF) (gT : a < 0 → Goes p e below K T m pcT L S) (gF : ¬ a < 0 → Goes p e below K T m pcF L S) : Goes p e below K T m pc L (.int a :: S) := by
  obtain ⟨hx, -, hby, -, -, -, -, -, -, locs, X, -, -⟩ := X
  subst hF
  by_cases q : a < 0
  · obtain ⟨u1, a1, b1⟩ := (gT q)
    exact ⟨u1, XS.ifYes (g := mkF m pc L (.int a :: S)) X.here hx rfl (pc0 := pc) rfl (hb hby hd) rfl ((if0 _ _).trans (tlt q).1) ho hT a1, b1⟩
  · obtain ⟨u1, a1, b1⟩ := (gF q)
    exact ⟨u1, XS.ifNo (g := mkF m pc L (.int a :: S)) X.here hx rfl (hb hby hd) rfl ((if0 _ _).trans (flt q).1) a1, b1⟩
theorem w_lcmp_lt (X : Wk p l e R s m args below meth c Z n0 y code ml ret T cells slots h) {a b : Int64} {o : Int} {pcI pcT pcF : Nat} (hd0 : decode code pc = .ok (.lcmp, 1)) (hp : pc + 1 = pcI) (hd : decode code pcI = .ok (.ifCond .lt o, 3)) (ho : 0 ≤ (pcI : Int) + o) (hT : ((pcI : Int) + o).toNat = pcT) (hF : pcI + 3 = pcF) (gT : a < b → Goes p e below K T m pcT L S) (gF : ¬ a < b → Goes p e below K T m pcF L S) : Goes p e below K T m pc L (.long b :: .long a :: S) :=
  w_lcmp X hd0 hp (w_if_lt X hd ho hT hF (fun q => gT ((lw_lt a b).mp q)) (fun q => gF (fun r => q ((lw_lt a b).mpr r))))
theorem w_icmp_ge (X : Wk p l e R s m args below meth c Z n0 y code ml ret T cells slots h) {a b : Int32} {o : Int} {pcT pcF : Nat} (hd : decode code pc = .ok (.if_icmp .ge o, 3)) (ho : 0 ≤ (pc : Int) + o) (hT : ((pc : Int) + o).toNat = pcT) (hF : pc + 3 = pcF) (gT : ¬ a < b → Goes p e below K T m pcT L S) (gF : a < b → Goes p e below K T m pcF L S) : Goes p e below K T m pc L (.int b :: .int a :: S) := by
  obtain ⟨hx, -, hby, -, -, -, -, -, -, locs, X, -, -⟩ := X
  subst hF
  by_cases q : ¬ a < b
  · obtain ⟨u1, a1, b1⟩ := (gT q)
    exact ⟨u1, XS.icmpYes (g := mkF m pc L (.int b :: .int a :: S)) X.here hx rfl (pc0 := pc) rfl (hb hby hd) rfl (flt q).2.1 ho hT a1, b1⟩
  · obtain ⟨u1, a1, b1⟩ := (gF (Classical.not_not.mp q))
    exact ⟨u1, XS.icmpNo (g := mkF m pc L (.int b :: .int a :: S)) X.here hx rfl (hb hby hd) rfl (tlt (Classical.not_not.mp q)).2.1 a1, b1⟩
theorem w_if_ge (X : Wk p l e R s m args below meth c Z n0 y code ml ret T cells slots h) {a : Int32} {o : Int} {pcT pcF : Nat} (hd : decode code pc = .ok (.ifCond .ge o, 3)) (ho : 0 ≤ (pc : Int) + o) (hT : ((pc : Int) + o).toNat = pcT) (hF : pc + 3 = pcF) (gT : ¬ a < 0 → Goes p e below K T m pcT L S) (gF : a < 0 → Goes p e below K T m pcF L S) : Goes p e below K T m pc L (.int a :: S) := by
  obtain ⟨hx, -, hby, -, -, -, -, -, -, locs, X, -, -⟩ := X
  subst hF
  by_cases q : ¬ a < 0
  · obtain ⟨u1, a1, b1⟩ := (gT q)
    exact ⟨u1, XS.ifYes (g := mkF m pc L (.int a :: S)) X.here hx rfl (pc0 := pc) rfl (hb hby hd) rfl ((if0 _ _).trans (flt q).2.1) ho hT a1, b1⟩
  · obtain ⟨u1, a1, b1⟩ := (gF (Classical.not_not.mp q))
    exact ⟨u1, XS.ifNo (g := mkF m pc L (.int a :: S)) X.here hx rfl (hb hby hd) rfl ((if0 _ _).trans (tlt (Classical.not_not.mp q)).2.1) a1, b1⟩
theorem w_lcmp_ge (X : Wk p l e R s m args below meth c Z n0 y code ml ret T cells slots h) {a b : Int64} {o : Int} {pcI pcT pcF : Nat} (hd0 : decode code pc = .ok (.lcmp, 1)) (hp : pc + 1 = pcI) (hd : decode code pcI = .ok (.ifCond .ge o, 3)) (ho : 0 ≤ (pcI : Int) + o) (hT : ((pcI : Int) + o).toNat = pcT) (hF : pcI + 3 = pcF) (gT : ¬ a < b → Goes p e below K T m pcT L S) (gF : a < b → Goes p e below K T m pcF L S) : Goes p e below K T m pc L (.long b :: .long a :: S) :=
  w_lcmp X hd0 hp (w_if_ge X hd ho hT hF (fun q => gT (fun r => q ((lw_lt a b).mpr r))) (fun q => gF ((lw_lt a b).mp q)))
theorem w_icmp_gt (X : Wk p l e R s m args below meth c Z n0 y code ml ret T cells slots h) {a b : Int32} {o : Int} {pcT pcF : Nat} (hd : decode code pc = .ok (.if_icmp .gt o, 3)) (ho : 0 ≤ (pc : Int) + o) (hT : ((pc : Int) + o).toNat = pcT) (hF : pc + 3 = pcF) (gT : b < a → Goes p e below K T m pcT L S) (gF : ¬ b < a → Goes p e below K T m pcF L S) : Goes p e below K T m pc L (.int b :: .int a :: S) := by
  obtain ⟨hx, -, hby, -, -, -, -, -, -, locs, X, -, -⟩ := X
  subst hF
  by_cases q : b < a
  · obtain ⟨u1, a1, b1⟩ := (gT q)
    exact ⟨u1, XS.icmpYes (g := mkF m pc L (.int b :: .int a :: S)) X.here hx rfl (pc0 := pc) rfl (hb hby hd) rfl (tlt q).2.2.1 ho hT a1, b1⟩
  · obtain ⟨u1, a1, b1⟩ := (gF q)
    exact ⟨u1, XS.icmpNo (g := mkF m pc L (.int b :: .int a :: S)) X.here hx rfl (hb hby hd) rfl (flt q).2.2.1 a1, b1⟩
theorem w_if_gt (X : Wk p l e R s m args below meth c Z n0 y code ml ret T cells slots h) {a : Int32} {o : Int} {pcT pcF : Nat} (hd : decode code pc = .ok (.ifCond .gt o, 3)) (ho : 0 ≤ (pc : Int) + o) (hT : ((pc : Int) + o).toNat = pcT) (hF : pc + 3 = pcF) (gT : 0 < a → Goes p e below K T m pcT L S) (gF : ¬ 0 < a → Goes p e below K T m pcF L S) : Goes p e below K T m pc L (.int a :: S) := by
  obtain ⟨hx, -, hby, -, -, -, -, -, -, locs, X, -, -⟩ := X
  subst hF
  by_cases q : 0 < a
  · obtain ⟨u1, a1, b1⟩ := (gT q)
    exact ⟨u1, XS.ifYes (g := mkF m pc L (.int a :: S)) X.here hx rfl (pc0 := pc) rfl (hb hby hd) rfl ((if0 _ _).trans (tlt q).2.2.1) ho hT a1, b1⟩
  · obtain ⟨u1, a1, b1⟩ := (gF q)
    exact ⟨u1, XS.ifNo (g := mkF m pc L (.int a :: S)) X.here hx rfl (hb hby hd) rfl ((if0 _ _).trans (flt q).2.2.1) a1, b1⟩
theorem w_lcmp_gt (X : Wk p l e R s m args below meth c Z n0 y code ml ret T cells slots h) {a b : Int64} {o : Int} {pcI pcT pcF : Nat} (hd0 : decode code pc = .ok (.lcmp, 1)) (hp : pc + 1 = pcI) (hd : decode code pcI = .ok (.ifCond .gt o, 3)) (ho : 0 ≤ (pcI : Int) + o) (hT : ((pcI : Int) + o).toNat = pcT) (hF : pcI + 3 = pcF) (gT : b < a → Goes p e below K T m pcT L S) (gF : ¬ b < a → Goes p e below K T m pcF L S) : Goes p e below K T m pc L (.long b :: .long a :: S) :=
  w_lcmp X hd0 hp (w_if_gt X hd ho hT hF (fun q => gT ((lw_gt a b).mp q)) (fun q => gF (fun r => q ((lw_gt a b).mpr r))))
theorem w_icmp_le (X : Wk p l e R s m args below meth c Z n0 y code ml ret T cells slots h) {a b : Int32} {o : Int} {pcT pcF : Nat} (hd : decode code pc = .ok (.if_icmp .le o, 3)) (ho : 0 ≤ (pc : Int) + o) (hT : ((pc : Int) + o).toNat = pcT) (hF : pc + 3 = pcF) (gT : ¬ b < a → Goes p e below K T m pcT L S) (gF : b < a → Goes p e below K T m pcF L S) : Goes p e below K T m pc L (.int b :: .int a :: S) := by
  obtain ⟨hx, -, hby, -, -, -, -, -, -, locs, X, -, -⟩ := X
  subst hF
  by_cases q : ¬ b < a
  · obtain ⟨u1, a1, b1⟩ := (gT q)
    exact ⟨u1, XS.icmpYes (g := mkF m pc L (.int b :: .int a :: S)) X.here hx rfl (pc0 := pc) rfl (hb hby hd) rfl (flt q).2.2.2 ho hT a1, b1⟩
  · obtain ⟨u1, a1, b1⟩ := (gF (Classical.not_not.mp q))
    exact ⟨u1, XS.icmpNo (g := mkF m pc L (.int b :: .int a :: S)) X.here hx rfl (hb hby hd) rfl (tlt (Classical.not_not.mp q)).2.2.2 a1, b1⟩
theorem w_if_le (X : Wk p l e R s m args below meth c Z n0 y code ml ret T cells slots h) {a : Int32} {o : Int} {pcT pcF : Nat} (hd : decode code pc = .ok (.ifCond .le o, 3)) (ho : 0 ≤ (pc : Int) + o) (hT : ((pc : Int) + o).toNat = pcT) (hF : pc + 3 = pcF) (gT : ¬ 0 < a → Goes p e below K T m pcT L S) (gF : 0 < a → Goes p e below K T m pcF L S) : Goes p e below K T m pc L (.int a :: S) := by
  obtain ⟨hx, -, hby, -, -, -, -, -, -, locs, X, -, -⟩ := X
  subst hF
  by_cases q : ¬ 0 < a
  · obtain ⟨u1, a1, b1⟩ := (gT q)
    exact ⟨u1, XS.ifYes (g := mkF m pc L (.int a :: S)) X.here hx rfl (pc0 := pc) rfl (hb hby hd) rfl ((if0 _ _).trans (flt q).2.2.2) ho hT a1, b1⟩
  · obtain ⟨u1, a1, b1⟩ := (gF (Classical.not_not.mp q))
    exact ⟨u1, XS.ifNo (g := mkF m pc L (.int a :: S)) X.here hx rfl (hb hby hd) rfl ((if0 _ _).trans (tlt (Classical.not_not.mp q)).2.2.2) a1, b1⟩
theorem w_lcmp_le (X : Wk p l e R s m args below meth c Z n0 y code ml ret T cells slots h) {a b : Int64} {o : Int} {pcI pcT pcF : Nat} (hd0 : decode code pc = .ok (.lcmp, 1)) (hp : pc + 1 = pcI) (hd : decode code pcI = .ok (.ifCond .le o, 3)) (ho : 0 ≤ (pcI : Int) + o) (hT : ((pcI : Int) + o).toNat = pcT) (hF : pcI + 3 = pcF) (gT : ¬ b < a → Goes p e below K T m pcT L S) (gF : b < a → Goes p e below K T m pcF L S) : Goes p e below K T m pc L (.long b :: .long a :: S) :=
  w_lcmp X hd0 hp (w_if_le X hd ho hT hF (fun q => gT (fun r => q ((lw_gt a b).mpr r))) (fun q => gF ((lw_gt a b).mp q)))
theorem w_icmp_eq (X : Wk p l e R s m args below meth c Z n0 y code ml ret T cells slots h) {a b : Int32} {o : Int} {pcT pcF : Nat} (hd : decode code pc = .ok (.if_icmp .eq o, 3)) (ho : 0 ≤ (pc : Int) + o) (hT : ((pc : Int) + o).toNat = pcT) (hF : pc + 3 = pcF) (gT : a = b → Goes p e below K T m pcT L S) (gF : ¬ a = b → Goes p e below K T m pcF L S) : Goes p e below K T m pc L (.int b :: .int a :: S) := by
  obtain ⟨hx, -, hby, -, -, -, -, -, -, locs, X, -, -⟩ := X
  subst hF
  by_cases q : a = b
  · obtain ⟨u1, a1, b1⟩ := (gT q)
    exact ⟨u1, XS.icmpYes (g := mkF m pc L (.int b :: .int a :: S)) X.here hx rfl (pc0 := pc) rfl (hb hby hd) rfl (teq q).1 ho hT a1, b1⟩
  · obtain ⟨u1, a1, b1⟩ := (gF q)
    exact ⟨u1, XS.icmpNo (g := mkF m pc L (.int b :: .int a :: S)) X.here hx rfl (hb hby hd) rfl (feq q).1 a1, b1⟩
theorem w_if_eq (X : Wk p l e R s m args below meth c Z n0 y code ml ret T cells slots h) {a : Int32} {o : Int} {pcT pcF : Nat} (hd : decode code pc = .ok (.ifCond .eq o, 3)) (ho : 0 ≤ (pc : Int) + o) (hT : ((pc : Int) + o).toNat = pcT) (hF : pc + 3 = pcF) (gT : a = 0 → Goes p e below K T m pcT L S) (gF : ¬ a = 0 → Goes p e below K T m pcF L S) : Goes p e below K T m pc L (.int a :: S) := by
  obtain ⟨hx, -, hby, -, -, -, -, -, -, locs, X, -, -⟩ := X
  subst hF
  by_cases q : a = 0
  · obtain ⟨u1, a1, b1⟩ := (gT q)
    exact ⟨u1, XS.ifYes (g := mkF m pc L (.int a :: S)) X.here hx rfl (pc0 := pc) rfl (hb hby hd) rfl ((if0 _ _).trans (teq q).1) ho hT a1, b1⟩
  · obtain ⟨u1, a1, b1⟩ := (gF q)
    exact ⟨u1, XS.ifNo (g := mkF m pc L (.int a :: S)) X.here hx rfl (hb hby hd) rfl ((if0 _ _).trans (feq q).1) a1, b1⟩
theorem w_lcmp_eq (X : Wk p l e R s m args below meth c Z n0 y code ml ret T cells slots h) {a b : Int64} {o : Int} {pcI pcT pcF : Nat} (hd0 : decode code pc = .ok (.lcmp, 1)) (hp : pc + 1 = pcI) (hd : decode code pcI = .ok (.ifCond .eq o, 3)) (ho : 0 ≤ (pcI : Int) + o) (hT : ((pcI : Int) + o).toNat = pcT) (hF : pcI + 3 = pcF) (gT : a = b → Goes p e below K T m pcT L S) (gF : ¬ a = b → Goes p e below K T m pcF L S) : Goes p e below K T m pc L (.long b :: .long a :: S) :=
  w_lcmp X hd0 hp (w_if_eq X hd ho hT hF (fun q => gT ((lw_eq a b).mp q)) (fun q => gF (fun r => q ((lw_eq a b).mpr r))))
theorem w_icmp_ne (X : Wk p l e R s m args below meth c Z n0 y code ml ret T cells slots h) {a b : Int32} {o : Int} {pcT pcF : Nat} (hd : decode code pc = .ok (.if_icmp .ne o, 3)) (ho : 0 ≤ (pc : Int) + o) (hT : ((pc : Int) + o).toNat = pcT) (hF : pc + 3 = pcF) (gT : ¬ a = b → Goes p e below K T m pcT L S) (gF : a = b → Goes p e below K T m pcF L S) : Goes p e below K T m pc L (.int b :: .int a :: S) := by
  obtain ⟨hx, -, hby, -, -, -, -, -, -, locs, X, -, -⟩ := X
  subst hF
  by_cases q : ¬ a = b
  · obtain ⟨u1, a1, b1⟩ := (gT q)
    exact ⟨u1, XS.icmpYes (g := mkF m pc L (.int b :: .int a :: S)) X.here hx rfl (pc0 := pc) rfl (hb hby hd) rfl (feq q).2 ho hT a1, b1⟩
  · obtain ⟨u1, a1, b1⟩ := (gF (Classical.not_not.mp q))
    exact ⟨u1, XS.icmpNo (g := mkF m pc L (.int b :: .int a :: S)) X.here hx rfl (hb hby hd) rfl (teq (Classical.not_not.mp q)).2 a1, b1⟩
theorem w_if_ne (X : Wk p l e R s m args below meth c Z n0 y code ml ret T cells slots h) {a : Int32} {o : Int} {pcT pcF : Nat} (hd : decode code pc = .ok (.ifCond .ne o, 3)) (ho : 0 ≤ (pc : Int) + o) (hT : ((pc : Int) + o).toNat = pcT) (hF : pc + 3 = pcF) (gT : ¬ a = 0 → Goes p e below K T m pcT L S) (gF : a = 0 → Goes p e below K T m pcF L S) : Goes p e below K T m pc L (.int a :: S) := by
  obtain ⟨hx, -, hby, -, -, -, -, -, -, locs, X, -, -⟩ := X
  subst hF
  by_cases q : ¬ a = 0
  · obtain ⟨u1, a1, b1⟩ := (gT q)
    exact ⟨u1, XS.ifYes (g := mkF m pc L (.int a :: S)) X.here hx rfl (pc0 := pc) rfl (hb hby hd) rfl ((if0 _ _).trans (feq q).2) ho hT a1, b1⟩
  · obtain ⟨u1, a1, b1⟩ := (gF (Classical.not_not.mp q))
    exact ⟨u1, XS.ifNo (g := mkF m pc L (.int a :: S)) X.here hx rfl (hb hby hd) rfl ((if0 _ _).trans (teq (Classical.not_not.mp q)).2) a1, b1⟩
theorem w_lcmp_ne (X : Wk p l e R s m args below meth c Z n0 y code ml ret T cells slots h) {a b : Int64} {o : Int} {pcI pcT pcF : Nat} (hd0 : decode code pc = .ok (.lcmp, 1)) (hp : pc + 1 = pcI) (hd : decode code pcI = .ok (.ifCond .ne o, 3)) (ho : 0 ≤ (pcI : Int) + o) (hT : ((pcI : Int) + o).toNat = pcT) (hF : pcI + 3 = pcF) (gT : ¬ a = b → Goes p e below K T m pcT L S) (gF : a = b → Goes p e below K T m pcF L S) : Goes p e below K T m pc L (.long b :: .long a :: S) :=
  w_lcmp X hd0 hp (w_if_ne X hd ho hT hF (fun q => gT (fun r => q ((lw_eq a b).mpr r))) (fun q => gF ((lw_eq a b).mp q)))
-- returns
theorem w_ireturn (X : Wk p l e R s m args below meth c Z n0 y code ml (some .int) T cells slots h) {w : Option Value} {Q : Heap → Prop} {z : Int32} (hd : decode code pc = .ok (.ireturn, 1)) (hw : w = some (.int z)) (hq : Q h) (hc : cells ≤ R.cells) (hs : slots ≤ R.slots) : Goes p e below (Done below s n0 R w Q) T m pc L (.int z :: S) := by
  obtain ⟨hx, hZ, hby, hml, hown, hnm, hret, hlk, hn, locs, X, eT, N⟩ := X
  obtain ⟨fs, hr, hrun, hended, hW, hsame⟩ := X.leave (v := some (.int z)) (fun h => by rw [hret] at h; cases h) hlk
  exact ⟨_, Jvm.RoadKit.retI X hx hret (hb hby hd) hr, _, hrun, hended, _, locs, rfl, ⟨hw.symm, (by show Q T.heap; rw [eT]; exact hq), N, (by show n0 ≤ T.heap.size; rw [eT]; exact hn)⟩, ⟨_, rfl⟩, hW, hsame.mono hc hs⟩
theorem w_nreturn {t : FieldType} (X : Wk p l e R s m args below meth c Z n0 y code ml (some t) T cells slots h) {w : Option Value} {Q : Heap → Prop} {z : Int32} (ht : t = .boolean ∨ t = .byte ∨ t = .char ∨ t = .short) (hd : decode code pc = .ok (.ireturn, 1)) (hw : w = some (.int (nar t z))) (hq : Q h) (hc : cells ≤ R.cells) (hs : slots ≤ R.slots) : Goes p e below (Done below s n0 R w Q) T m pc L (.int z :: S) := by
  obtain ⟨hx, hZ, hby, hml, hown, hnm, hret, hlk, hn, locs, X, eT, N⟩ := X
  obtain ⟨fs, hr, hrun, hended, hW, hsame⟩ := X.leave (v := some (.int (nar t z))) (fun h => by rw [hret] at h; cases h) hlk
  exact ⟨_, retN X hx hret ht (hb hby hd) hr, _, hrun, hended, _, locs, rfl, ⟨hw.symm, (by show Q T.heap; rw [eT]; exact hq), N, (by show n0 ≤ T.heap.size; rw [eT]; exact hn)⟩, ⟨_, rfl⟩, hW, hsame.mono hc hs⟩
theorem w_lreturn (X : Wk p l e R s m args below meth c Z n0 y code ml (some .long) T cells slots h) {w : Option Value} {Q : Heap → Prop} {z : Int64} (hd : decode code pc = .ok (.lreturn, 1)) (hw : w = some (.long z)) (hq : Q h) (hc : cells ≤ R.cells) (hs : slots ≤ R.slots) : Goes p e below (Done below s n0 R w Q) T m pc L [.long z] := by
  obtain ⟨hx, hZ, hby, hml, hown, hnm, hret, hlk, hn, locs, X, eT, N⟩ := X
  obtain ⟨fs, hr, hrun, hended, hW, hsame⟩ := X.leave (v := some (.long z)) (fun h => by rw [hret] at h; cases h) hlk
  exact ⟨_, X.lreturnOut hx hret (hb hby hd) hr, _, hrun, hended, _, locs, rfl, ⟨hw.symm, (by show Q T.heap; rw [eT]; exact hq), N, (by show n0 ≤ T.heap.size; rw [eT]; exact hn)⟩, ⟨_, rfl⟩, hW, hsame.mono hc hs⟩
theorem w_return (X : Wk p l e R s m args below meth c Z n0 y code ml none T cells slots h) {w : Option Value} {Q : Heap → Prop} (hd : decode code pc = .ok (.return_, 1)) (hw : w = none) (hq : Q h) (hc : cells ≤ R.cells) (hs : slots ≤ R.slots) : Goes p e below (Done below s n0 R w Q) T m pc L [] := by
  obtain ⟨hx, hZ, hby, hml, hown, hnm, hret, hlk, hn, locs, X, eT, N⟩ := X
  obtain ⟨fs, hr, hrun, hended, hW, hsame⟩ := X.leave (v := none) (fun _ => rfl) hlk
  exact ⟨_, X.returnOut hx hret (hb hby hd) hr, _, hrun, hended, _, locs, rfl, ⟨hw.symm, (by show Q T.heap; rw [eT]; exact hq), N, (by show n0 ≤ T.heap.size; rw [eT]; exact hn)⟩, ⟨_, rfl⟩, hW, hsame.mono hc hs⟩
-- calls
theorem w_static (X : Wk p l e R s m args below meth c Z n0 y code ml ret T cells slots h) {idx : Nat} {y' : MethodName} {bytes : ByteArray} {maxL : Nat} {ret' : Option FieldType} {R' : Room} {w' : Option Value} {Q' : Heap → Prop} {argsL rest : List Value} {W : Nat}
    (hM : Con l Z y' bytes maxL ret' R' argsL.toArray h n0 w' Q') (w1 : (Jvm.Cond.methodLink y.cls idx y').before a0 Z = true) (w2 : (Jvm.Cond.static y').before a0 Z = true) (w3 : (Jvm.Cond.initialized y'.cls).before a0 Z = true) (w4 : (Jvm.Cond.code y' bytes maxL ret').before a0 Z = true)
    (hy : y'.cls ≠ "java/lang/invoke/MethodHandle" ∧ y'.cls ≠ "java/lang/invoke/VarHandle") (hst : S = argsL.reverse ++ rest) (hlen : ∀ sig, parseMethodDescriptor y'.desc = some sig → argsL.length = sig.parameters.length) (hsz : L.size = ml) (hW : (rest.map fun v => v.category).sum = W) (hf : R'.frames + 1 ≤ R.frames) (hl : W + (maxL + 11) + R'.locals ≤ R.locals)
    (hc : cells + R'.cells ≤ R.cells) (hs : slots + R'.slots ≤ R.slots) (hd : decode code pc = .ok (.invokestatic idx, 3)) (hp : pc + 3 = pc')
    (g : ∀ T' h', Wk p l e R s m args below meth c Z n0 y code ml ret T' (cells + R'.cells) (slots + R'.slots) h' → Q' h' → Goes p e below K T' m pc' L (w'.toList ++ rest)) : Goes p e below K T m pc L S := by
  obtain ⟨hx, hZ, hby, hml, hown, hnm, hret, hlk, hn, locs, X, eT, N⟩ := X
  subst hp hW
  obtain ⟨_, _, ⟨T1, L1, k1, n1⟩, -, X1, ⟨Lc, hQ, l1, y1, z1⟩, st⟩ := Jvm.LawKit.callS X hx (y := y') hown (mvT hZ w1) (mvT hZ w2) (mvT hZ w3) (mvT hZ w4) hy (backOf (W := (rest.map fun v => v.category).sum) (hM []) hZ w4 w3 hf hl) (g := mkF m pc L S) rfl (by rw [hml]; exact hsz) (argsL := argsL) (rest := rest) hlen hst (by show 2 * 0 + _ ≤ _; omega) (hb hby hd) (fun _ _ => ⟨rfl, eT, hc, hs⟩)
  dsimp only [Pt.U, Pt.locs, Pt.cells, Pt.slots] at X1 l1 y1 z1 st hQ
  subst l1 y1 z1
  obtain ⟨rfl, hQ', N', hn'⟩ := hQ
  obtain ⟨u1, a1, b1⟩ := g _ _ ⟨hx, hZ, hby, hml, hown, hnm, hret, hlk, hn', _, X1, rfl, N.app N'⟩ hQ'
  exact ⟨u1, st _ a1, b1⟩
theorem w_staticV (X : Wk p l e R s m args below meth c Z n0 y code ml ret T cells slots h) {idx : Nat} {y' : MethodName} {bytes : ByteArray} {maxL : Nat} {ret' : Option FieldType} {R' : Room} {v' : Value} {Q' : Heap → Prop} {argsL rest : List Value} {W : Nat}
    (hM : Con l Z y' bytes maxL ret' R' argsL.toArray h n0 (some v') Q') (w1 : (Jvm.Cond.methodLink y.cls idx y').before a0 Z = true) (w2 : (Jvm.Cond.static y').before a0 Z = true) (w3 : (Jvm.Cond.initialized y'.cls).before a0 Z = true) (w4 : (Jvm.Cond.code y' bytes maxL ret').before a0 Z = true)
    (hy : y'.cls ≠ "java/lang/invoke/MethodHandle" ∧ y'.cls ≠ "java/lang/invoke/VarHandle") (hst : S = argsL.reverse ++ rest) (hlen : ∀ sig, parseMethodDescriptor y'.desc = some sig → argsL.length = sig.parameters.length) (hsz : L.size = ml) (hW : (rest.map fun v => v.category).sum = W) (hf : R'.frames + 1 ≤ R.frames) (hl : W + (maxL + 11) + R'.locals ≤ R.locals)
    (hc : cells + R'.cells ≤ R.cells) (hs : slots + R'.slots ≤ R.slots) (hd : decode code pc = .ok (.invokestatic idx, 3)) (hp : pc + 3 = pc')
    (g : ∀ T' h', Wk p l e R s m args below meth c Z n0 y code ml ret T' (cells + R'.cells) (slots + R'.slots) h' → Q' h' → Goes p e below K T' m pc' L (v' :: rest)) : Goes p e below K T m pc L S := w_static X hM w1 w2 w3 w4 hy hst hlen hsz hW hf hl hc hs hd hp g
theorem w_staticVP (X : Wk p l e R s m args below meth c Z n0 y code ml ret T cells slots h) {idx : Nat} {y' : MethodName} {bytes : ByteArray} {maxL : Nat} {ret' : Option FieldType} {R' : Room} {v' : Value} {argsL rest : List Value} {W : Nat}
    (hM : Con l Z y' bytes maxL ret' R' argsL.toArray h n0 (some v') (fun h' => h' = h)) (w1 : (Jvm.Cond.methodLink y.cls idx y').before a0 Z = true) (w2 : (Jvm.Cond.static y').before a0 Z = true) (w3 : (Jvm.Cond.initialized y'.cls).before a0 Z = true) (w4 : (Jvm.Cond.code y' bytes maxL ret').before a0 Z = true)
    (hy : y'.cls ≠ "java/lang/invoke/MethodHandle" ∧ y'.cls ≠ "java/lang/invoke/VarHandle") (hst : S = argsL.reverse ++ rest) (hlen : ∀ sig, parseMethodDescriptor y'.desc = some sig → argsL.length = sig.parameters.length) (hsz : L.size = ml) (hW : (rest.map fun v => v.category).sum = W) (hf : R'.frames + 1 ≤ R.frames) (hl : W + (maxL + 11) + R'.locals ≤ R.locals)
    (hc : cells + R'.cells ≤ R.cells) (hs : slots + R'.slots ≤ R.slots) (hd : decode code pc = .ok (.invokestatic idx, 3)) (hp : pc + 3 = pc')
    (g : ∀ T', Wk p l e R s m args below meth c Z n0 y code ml ret T' (cells + R'.cells) (slots + R'.slots) h → Goes p e below K T' m pc' L (v' :: rest)) : Goes p e below K T m pc L S := w_staticV X hM w1 w2 w3 w4 hy hst hlen hsz hW hf hl hc hs hd hp (fun T' h' X' q => by subst q; exact g T' X')
theorem w_static0 (X : Wk p l e R s m args below meth c Z n0 y code ml ret T cells slots h) {idx : Nat} {y' : MethodName} {bytes : ByteArray} {maxL : Nat} {ret' : Option FieldType} {R' : Room} {Q' : Heap → Prop} {argsL rest : List Value} {W : Nat}
    (hM : Con l Z y' bytes maxL ret' R' argsL.toArray h n0 none Q') (w1 : (Jvm.Cond.methodLink y.cls idx y').before a0 Z = true) (w2 : (Jvm.Cond.static y').before a0 Z = true) (w3 : (Jvm.Cond.initialized y'.cls).before a0 Z = true) (w4 : (Jvm.Cond.code y' bytes maxL ret').before a0 Z = true)
    (hy : y'.cls ≠ "java/lang/invoke/MethodHandle" ∧ y'.cls ≠ "java/lang/invoke/VarHandle") (hst : S = argsL.reverse ++ rest) (hlen : ∀ sig, parseMethodDescriptor y'.desc = some sig → argsL.length = sig.parameters.length) (hsz : L.size = ml) (hW : (rest.map fun v => v.category).sum = W) (hf : R'.frames + 1 ≤ R.frames) (hl : W + (maxL + 11) + R'.locals ≤ R.locals)
    (hc : cells + R'.cells ≤ R.cells) (hs : slots + R'.slots ≤ R.slots) (hd : decode code pc = .ok (.invokestatic idx, 3)) (hp : pc + 3 = pc')
    (g : ∀ T' h', Wk p l e R s m args below meth c Z n0 y code ml ret T' (cells + R'.cells) (slots + R'.slots) h' → Q' h' → Goes p e below K T' m pc' L rest) : Goes p e below K T m pc L S := w_static X hM w1 w2 w3 w4 hy hst hlen hsz hW hf hl hc hs hd hp g
theorem w_static0P (X : Wk p l e R s m args below meth c Z n0 y code ml ret T cells slots h) {idx : Nat} {y' : MethodName} {bytes : ByteArray} {maxL : Nat} {ret' : Option FieldType} {R' : Room} {argsL rest : List Value} {W : Nat}
    (hM : Con l Z y' bytes maxL ret' R' argsL.toArray h n0 none (fun h' => h' = h)) (w1 : (Jvm.Cond.methodLink y.cls idx y').before a0 Z = true) (w2 : (Jvm.Cond.static y').before a0 Z = true) (w3 : (Jvm.Cond.initialized y'.cls).before a0 Z = true) (w4 : (Jvm.Cond.code y' bytes maxL ret').before a0 Z = true)
    (hy : y'.cls ≠ "java/lang/invoke/MethodHandle" ∧ y'.cls ≠ "java/lang/invoke/VarHandle") (hst : S = argsL.reverse ++ rest) (hlen : ∀ sig, parseMethodDescriptor y'.desc = some sig → argsL.length = sig.parameters.length) (hsz : L.size = ml) (hW : (rest.map fun v => v.category).sum = W) (hf : R'.frames + 1 ≤ R.frames) (hl : W + (maxL + 11) + R'.locals ≤ R.locals)
    (hc : cells + R'.cells ≤ R.cells) (hs : slots + R'.slots ≤ R.slots) (hd : decode code pc = .ok (.invokestatic idx, 3)) (hp : pc + 3 = pc')
    (g : ∀ T', Wk p l e R s m args below meth c Z n0 y code ml ret T' (cells + R'.cells) (slots + R'.slots) h → Goes p e below K T' m pc' L rest) : Goes p e below K T m pc L S := w_static0 X hM w1 w2 w3 w4 hy hst hlen hsz hW hf hl hc hs hd hp (fun T' h' X' q => by subst q; exact g T' X')
theorem w_special (X : Wk p l e R s m args below meth c Z n0 y code ml ret T cells slots h) {idx : Nat} {y' : MethodName} {bytes : ByteArray} {maxL : Nat} {R' : Room} {w' : Option Value} {Q' : Heap → Prop} {a : Addr} {argsL rest : List Value} {W : Nat}
    (hM : Con l Z y' bytes maxL none R' (.ref a :: argsL).toArray h n0 w' Q') (hi : y'.name = "<init>") (w1 : (Jvm.Cond.methodLink y.cls idx y').before a0 Z = true) (w2 : (Jvm.Cond.instanceMethod y').before a0 Z = true) (w3 : (Jvm.Cond.initialized y'.cls).before a0 Z = true) (w4 : (Jvm.Cond.code y' bytes maxL none).before a0 Z = true)
    (hy : y'.cls ≠ "java/lang/invoke/MethodHandle" ∧ y'.cls ≠ "java/lang/invoke/VarHandle") (hst : S = argsL.reverse ++ .ref a :: rest) (hlen : ∀ sig, parseMethodDescriptor y'.desc = some sig → argsL.length = sig.parameters.length) (hsz : L.size = ml) (hW : (rest.map fun v => v.category).sum = W) (hf : R'.frames + 1 ≤ R.frames) (hl : W + (maxL + 11) + R'.locals ≤ R.locals)
    (hc : cells + R'.cells ≤ R.cells) (hs : slots + R'.slots ≤ R.slots) (hd : decode code pc = .ok (.invokespecial idx, 3)) (hp : pc + 3 = pc')
    (g : ∀ T' h', Wk p l e R s m args below meth c Z n0 y code ml ret T' (cells + R'.cells) (slots + R'.slots) h' → Q' h' → Goes p e below K T' m pc' L (w'.toList ++ rest)) : Goes p e below K T m pc L S := by
  obtain ⟨hx, hZ, hby, hml, hown, hnm, hret, hlk, hn, locs, X, eT, N⟩ := X
  subst hp hW
  obtain ⟨_, _, ⟨T1, L1, k1, n1⟩, -, X1, ⟨Lc, hQ, l1, y1, z1⟩, st⟩ := X.specialBack hx (y := y') hi hown (mvT hZ w1) (mvT hZ w2) (mvT hZ w4) hy (backOf (W := (rest.map fun v => v.category).sum) (hM []) hZ w4 w3 hf hl) (g := mkF m pc L S) rfl (by rw [hml]; exact hsz) (Steps.refl _) (a := a) (argsL := argsL) (rest := rest) hlen hst (by show 2 * 0 + _ ≤ _; omega) (hb hby hd) (fun _ _ => ⟨rfl, eT, hc, hs⟩)
  dsimp only [Pt.U, Pt.locs, Pt.cells, Pt.slots] at X1 l1 y1 z1 st hQ
  subst l1 y1 z1
  obtain ⟨rfl, hQ', N', hn'⟩ := hQ
  obtain ⟨u1, a1, b1⟩ := g _ _ ⟨hx, hZ, hby, hml, hown, hnm, hret, hlk, hn', _, X1, rfl, N.app N'⟩ hQ'
  exact ⟨u1, st.trans a1, b1⟩
theorem w_special0 (X : Wk p l e R s m args below meth c Z n0 y code ml ret T cells slots h) {idx : Nat} {y' : MethodName} {bytes : ByteArray} {maxL : Nat} {R' : Room} {Q' : Heap → Prop} {a : Addr} {argsL rest : List Value} {W : Nat}
    (hM : Con l Z y' bytes maxL none R' (.ref a :: argsL).toArray h n0 none Q') (hi : y'.name = "<init>") (w1 : (Jvm.Cond.methodLink y.cls idx y').before a0 Z = true) (w2 : (Jvm.Cond.instanceMethod y').before a0 Z = true) (w3 : (Jvm.Cond.initialized y'.cls).before a0 Z = true) (w4 : (Jvm.Cond.code y' bytes maxL none).before a0 Z = true)
    (hy : y'.cls ≠ "java/lang/invoke/MethodHandle" ∧ y'.cls ≠ "java/lang/invoke/VarHandle") (hst : S = argsL.reverse ++ .ref a :: rest) (hlen : ∀ sig, parseMethodDescriptor y'.desc = some sig → argsL.length = sig.parameters.length) (hsz : L.size = ml) (hW : (rest.map fun v => v.category).sum = W) (hf : R'.frames + 1 ≤ R.frames) (hl : W + (maxL + 11) + R'.locals ≤ R.locals)
    (hc : cells + R'.cells ≤ R.cells) (hs : slots + R'.slots ≤ R.slots) (hd : decode code pc = .ok (.invokespecial idx, 3)) (hp : pc + 3 = pc')
    (g : ∀ T' h', Wk p l e R s m args below meth c Z n0 y code ml ret T' (cells + R'.cells) (slots + R'.slots) h' → Q' h' → Goes p e below K T' m pc' L rest) : Goes p e below K T m pc L S := w_special X hM hi w1 w2 w3 w4 hy hst hlen hsz hW hf hl hc hs hd hp g
theorem w_special0P (X : Wk p l e R s m args below meth c Z n0 y code ml ret T cells slots h) {idx : Nat} {y' : MethodName} {bytes : ByteArray} {maxL : Nat} {R' : Room} {a : Addr} {argsL rest : List Value} {W : Nat}
    (hM : Con l Z y' bytes maxL none R' (.ref a :: argsL).toArray h n0 none (fun h' => h' = h)) (hi : y'.name = "<init>") (w1 : (Jvm.Cond.methodLink y.cls idx y').before a0 Z = true) (w2 : (Jvm.Cond.instanceMethod y').before a0 Z = true) (w3 : (Jvm.Cond.initialized y'.cls).before a0 Z = true) (w4 : (Jvm.Cond.code y' bytes maxL none).before a0 Z = true)
    (hy : y'.cls ≠ "java/lang/invoke/MethodHandle" ∧ y'.cls ≠ "java/lang/invoke/VarHandle") (hst : S = argsL.reverse ++ .ref a :: rest) (hlen : ∀ sig, parseMethodDescriptor y'.desc = some sig → argsL.length = sig.parameters.length) (hsz : L.size = ml) (hW : (rest.map fun v => v.category).sum = W) (hf : R'.frames + 1 ≤ R.frames) (hl : W + (maxL + 11) + R'.locals ≤ R.locals)
    (hc : cells + R'.cells ≤ R.cells) (hs : slots + R'.slots ≤ R.slots) (hd : decode code pc = .ok (.invokespecial idx, 3)) (hp : pc + 3 = pc')
    (g : ∀ T', Wk p l e R s m args below meth c Z n0 y code ml ret T' (cells + R'.cells) (slots + R'.slots) h → Goes p e below K T' m pc' L rest) : Goes p e below K T m pc L S := w_special0 X hM hi w1 w2 w3 w4 hy hst hlen hsz hW hf hl hc hs hd hp (fun T' h' X' q => by subst q; exact g T' X')
theorem w_virtual (X : Wk p l e R s m args below meth c Z n0 y code ml ret T cells slots h) {idx : Nat} {C : String} {y' : MethodName} {bytes : ByteArray} {maxL : Nat} {ret' : Option FieldType} {R' : Room} {w' : Option Value} {Q' : Heap → Prop} {a : Addr} {argsL rest : List Value} {W : Nat}
    (hM : Con l Z y' bytes maxL ret' R' (.ref a :: argsL).toArray h n0 w' Q') (E : Exa Z h a C) (w1 : (Jvm.Cond.methodLink y.cls idx y').before a0 Z = true) (w2 : (Jvm.Cond.declares y').before a0 Z = true) (w5 : (Jvm.Cond.selects C y' y').before a0 Z = true) (w6 : (Jvm.Cond.instanceMethod y').before a0 Z = true) (w3 : (Jvm.Cond.initialized y'.cls).before a0 Z = true) (w4 : (Jvm.Cond.code y' bytes maxL ret').before a0 Z = true)
    (hy : y'.cls ≠ "java/lang/invoke/MethodHandle" ∧ y'.cls ≠ "java/lang/invoke/VarHandle") (hst : S = argsL.reverse ++ .ref a :: rest) (hlen : ∀ sig, parseMethodDescriptor y'.desc = some sig → argsL.length = sig.parameters.length) (hsz : L.size = ml) (hW : (rest.map fun v => v.category).sum = W) (hf : R'.frames + 1 ≤ R.frames) (hl : W + (maxL + 11) + R'.locals ≤ R.locals)
    (hc : cells + R'.cells ≤ R.cells) (hs : slots + R'.slots ≤ R.slots) (hd : decode code pc = .ok (.invokevirtual idx, 3)) (hp : pc + 3 = pc')
    (g : ∀ T' h', Wk p l e R s m args below meth c Z n0 y code ml ret T' (cells + R'.cells) (slots + R'.slots) h' → Q' h' → Goes p e below K T' m pc' L (w'.toList ++ rest)) : Goes p e below K T m pc L S := by
  obtain ⟨hx, hZ, hby, hml, hown, hnm, hret, hlk, hn, locs, X, eT, N⟩ := X
  subst hp hW
  obtain ⟨cq, kq, qa, qb, qc⟩ := isOf hZ eT E
  obtain ⟨_, _, ⟨T1, L1, k1, n1⟩, -, X1, ⟨Lc, hQ, l1, y1, z1⟩, st⟩ := X.virtualBack hx (y := y') (z := y') hown (mvT hZ w1) (mvT hZ w2) (notFace_of_selects (args := #[]) (mvT hZ w5)) (mvT hZ w5) (mvT hZ w6) hy (backOf (W := (rest.map fun v => v.category).sum) (hM []) hZ w4 w3 hf hl) qa qc (g := mkF m pc L S) rfl (by rw [hml]; exact hsz) (Steps.refl _) (argsL := argsL) (rest := rest) hlen hst (by show 2 * 0 + _ ≤ _; omega) (hb hby hd) (fun _ _ => ⟨rfl, eT, hc, hs⟩)
  dsimp only [Pt.U, Pt.locs, Pt.cells, Pt.slots] at X1 l1 y1 z1 st hQ
  subst l1 y1 z1
  obtain ⟨rfl, hQ', N', hn'⟩ := hQ
  obtain ⟨u1, a1, b1⟩ := g _ _ ⟨hx, hZ, hby, hml, hown, hnm, hret, hlk, hn', _, X1, rfl, N.app N'⟩ hQ'
  exact ⟨u1, st.trans a1, b1⟩
theorem w_virtualV (X : Wk p l e R s m args below meth c Z n0 y code ml ret T cells slots h) {idx : Nat} {C : String} {y' : MethodName} {bytes : ByteArray} {maxL : Nat} {ret' : Option FieldType} {R' : Room} {v' : Value} {Q' : Heap → Prop} {a : Addr} {argsL rest : List Value} {W : Nat}
    (hM : Con l Z y' bytes maxL ret' R' (.ref a :: argsL).toArray h n0 (some v') Q') (E : Exa Z h a C) (w1 : (Jvm.Cond.methodLink y.cls idx y').before a0 Z = true) (w2 : (Jvm.Cond.declares y').before a0 Z = true) (w5 : (Jvm.Cond.selects C y' y').before a0 Z = true) (w6 : (Jvm.Cond.instanceMethod y').before a0 Z = true) (w3 : (Jvm.Cond.initialized y'.cls).before a0 Z = true) (w4 : (Jvm.Cond.code y' bytes maxL ret').before a0 Z = true)
    (hy : y'.cls ≠ "java/lang/invoke/MethodHandle" ∧ y'.cls ≠ "java/lang/invoke/VarHandle") (hst : S = argsL.reverse ++ .ref a :: rest) (hlen : ∀ sig, parseMethodDescriptor y'.desc = some sig → argsL.length = sig.parameters.length) (hsz : L.size = ml) (hW : (rest.map fun v => v.category).sum = W) (hf : R'.frames + 1 ≤ R.frames) (hl : W + (maxL + 11) + R'.locals ≤ R.locals)
    (hc : cells + R'.cells ≤ R.cells) (hs : slots + R'.slots ≤ R.slots) (hd : decode code pc = .ok (.invokevirtual idx, 3)) (hp : pc + 3 = pc')
    (g : ∀ T' h', Wk p l e R s m args below meth c Z n0 y code ml ret T' (cells + R'.cells) (slots + R'.slots) h' → Q' h' → Goes p e below K T' m pc' L (v' :: rest)) : Goes p e below K T m pc L S := w_virtual X hM E w1 w2 w5 w6 w3 w4 hy hst hlen hsz hW hf hl hc hs hd hp g
theorem w_virtualVP (X : Wk p l e R s m args below meth c Z n0 y code ml ret T cells slots h) {idx : Nat} {C : String} {y' : MethodName} {bytes : ByteArray} {maxL : Nat} {ret' : Option FieldType} {R' : Room} {v' : Value} {a : Addr} {argsL rest : List Value} {W : Nat}
    (hM : Con l Z y' bytes maxL ret' R' (.ref a :: argsL).toArray h n0 (some v') (fun h' => h' = h)) (E : Exa Z h a C) (w1 : (Jvm.Cond.methodLink y.cls idx y').before a0 Z = true) (w2 : (Jvm.Cond.declares y').before a0 Z = true) (w5 : (Jvm.Cond.selects C y' y').before a0 Z = true) (w6 : (Jvm.Cond.instanceMethod y').before a0 Z = true) (w3 : (Jvm.Cond.initialized y'.cls).before a0 Z = true) (w4 : (Jvm.Cond.code y' bytes maxL ret').before a0 Z = true)
    (hy : y'.cls ≠ "java/lang/invoke/MethodHandle" ∧ y'.cls ≠ "java/lang/invoke/VarHandle") (hst : S = argsL.reverse ++ .ref a :: rest) (hlen : ∀ sig, parseMethodDescriptor y'.desc = some sig → argsL.length = sig.parameters.length) (hsz : L.size = ml) (hW : (rest.map fun v => v.category).sum = W) (hf : R'.frames + 1 ≤ R.frames) (hl : W + (maxL + 11) + R'.locals ≤ R.locals)
    (hc : cells + R'.cells ≤ R.cells) (hs : slots + R'.slots ≤ R.slots) (hd : decode code pc = .ok (.invokevirtual idx, 3)) (hp : pc + 3 = pc')
    (g : ∀ T', Wk p l e R s m args below meth c Z n0 y code ml ret T' (cells + R'.cells) (slots + R'.slots) h → Goes p e below K T' m pc' L (v' :: rest)) : Goes p e below K T m pc L S := w_virtualV X hM E w1 w2 w5 w6 w3 w4 hy hst hlen hsz hW hf hl hc hs hd hp (fun T' h' X' q => by subst q; exact g T' X')
theorem w_virtual0 (X : Wk p l e R s m args below meth c Z n0 y code ml ret T cells slots h) {idx : Nat} {C : String} {y' : MethodName} {bytes : ByteArray} {maxL : Nat} {ret' : Option FieldType} {R' : Room} {Q' : Heap → Prop} {a : Addr} {argsL rest : List Value} {W : Nat}
    (hM : Con l Z y' bytes maxL ret' R' (.ref a :: argsL).toArray h n0 none Q') (E : Exa Z h a C) (w1 : (Jvm.Cond.methodLink y.cls idx y').before a0 Z = true) (w2 : (Jvm.Cond.declares y').before a0 Z = true) (w5 : (Jvm.Cond.selects C y' y').before a0 Z = true) (w6 : (Jvm.Cond.instanceMethod y').before a0 Z = true) (w3 : (Jvm.Cond.initialized y'.cls).before a0 Z = true) (w4 : (Jvm.Cond.code y' bytes maxL ret').before a0 Z = true)
    (hy : y'.cls ≠ "java/lang/invoke/MethodHandle" ∧ y'.cls ≠ "java/lang/invoke/VarHandle") (hst : S = argsL.reverse ++ .ref a :: rest) (hlen : ∀ sig, parseMethodDescriptor y'.desc = some sig → argsL.length = sig.parameters.length) (hsz : L.size = ml) (hW : (rest.map fun v => v.category).sum = W) (hf : R'.frames + 1 ≤ R.frames) (hl : W + (maxL + 11) + R'.locals ≤ R.locals)
    (hc : cells + R'.cells ≤ R.cells) (hs : slots + R'.slots ≤ R.slots) (hd : decode code pc = .ok (.invokevirtual idx, 3)) (hp : pc + 3 = pc')
    (g : ∀ T' h', Wk p l e R s m args below meth c Z n0 y code ml ret T' (cells + R'.cells) (slots + R'.slots) h' → Q' h' → Goes p e below K T' m pc' L rest) : Goes p e below K T m pc L S := w_virtual X hM E w1 w2 w5 w6 w3 w4 hy hst hlen hsz hW hf hl hc hs hd hp g
theorem w_virtual0P (X : Wk p l e R s m args below meth c Z n0 y code ml ret T cells slots h) {idx : Nat} {C : String} {y' : MethodName} {bytes : ByteArray} {maxL : Nat} {ret' : Option FieldType} {R' : Room} {a : Addr} {argsL rest : List Value} {W : Nat}
    (hM : Con l Z y' bytes maxL ret' R' (.ref a :: argsL).toArray h n0 none (fun h' => h' = h)) (E : Exa Z h a C) (w1 : (Jvm.Cond.methodLink y.cls idx y').before a0 Z = true) (w2 : (Jvm.Cond.declares y').before a0 Z = true) (w5 : (Jvm.Cond.selects C y' y').before a0 Z = true) (w6 : (Jvm.Cond.instanceMethod y').before a0 Z = true) (w3 : (Jvm.Cond.initialized y'.cls).before a0 Z = true) (w4 : (Jvm.Cond.code y' bytes maxL ret').before a0 Z = true)
    (hy : y'.cls ≠ "java/lang/invoke/MethodHandle" ∧ y'.cls ≠ "java/lang/invoke/VarHandle") (hst : S = argsL.reverse ++ .ref a :: rest) (hlen : ∀ sig, parseMethodDescriptor y'.desc = some sig → argsL.length = sig.parameters.length) (hsz : L.size = ml) (hW : (rest.map fun v => v.category).sum = W) (hf : R'.frames + 1 ≤ R.frames) (hl : W + (maxL + 11) + R'.locals ≤ R.locals)
    (hc : cells + R'.cells ≤ R.cells) (hs : slots + R'.slots ≤ R.slots) (hd : decode code pc = .ok (.invokevirtual idx, 3)) (hp : pc + 3 = pc')
    (g : ∀ T', Wk p l e R s m args below meth c Z n0 y code ml ret T' (cells + R'.cells) (slots + R'.slots) h → Goes p e below K T' m pc' L rest) : Goes p e below K T m pc L S := w_virtual0 X hM E w1 w2 w5 w6 w3 w4 hy hst hlen hsz hW hf hl hc hs hd hp (fun T' h' X' q => by subst q; exact g T' X')
theorem w_private (X : Wk p l e R s m args below meth c Z n0 y code ml ret T cells slots h) {idx : Nat} {C : String} {y' : MethodName} {bytes : ByteArray} {maxL : Nat} {ret' : Option FieldType} {R' : Room} {w' : Option Value} {Q' : Heap → Prop} {a : Addr} {argsL rest : List Value} {W : Nat}
    (hM : Con l Z y' bytes maxL ret' R' (.ref a :: argsL).toArray h n0 w' Q') (E : Exa Z h a C) (w1 : (Jvm.Cond.methodLink y.cls idx y').before a0 Z = true) (w6 : (Jvm.Cond.instanceMethod y').before a0 Z = true) {kk : Nat} (w5 : (Jvm.Cond.instantiable y'.cls kk).before a0 Z = true) (w7 : (Jvm.Cond.privateMethod y').before a0 Z = true) (w3 : (Jvm.Cond.initialized y'.cls).before a0 Z = true) (w4 : (Jvm.Cond.code y' bytes maxL ret').before a0 Z = true)
    (hy : y'.cls ≠ "java/lang/invoke/MethodHandle" ∧ y'.cls ≠ "java/lang/invoke/VarHandle") (hst : S = argsL.reverse ++ .ref a :: rest) (hlen : ∀ sig, parseMethodDescriptor y'.desc = some sig → argsL.length = sig.parameters.length) (hsz : L.size = ml) (hW : (rest.map fun v => v.category).sum = W) (hf : R'.frames + 1 ≤ R.frames) (hl : W + (maxL + 11) + R'.locals ≤ R.locals)
    (hc : cells + R'.cells ≤ R.cells) (hs : slots + R'.slots ≤ R.slots) (hd : decode code pc = .ok (.invokevirtual idx, 3)) (hp : pc + 3 = pc')
    (g : ∀ T' h', Wk p l e R s m args below meth c Z n0 y code ml ret T' (cells + R'.cells) (slots + R'.slots) h' → Q' h' → Goes p e below K T' m pc' L (w'.toList ++ rest)) : Goes p e below K T m pc L S := by
  obtain ⟨hx, hZ, hby, hml, hown, hnm, hret, hlk, hn, locs, X, eT, N⟩ := X
  subst hp hW
  have hin : (Jvm.Cond.instanceMethod y').before args s = true := mvT hZ w6
  have hpr : s.PrivateAt y' := Cond.privateMethod_at (mvP hZ w7 (args := #[]))
  obtain ⟨cc, kc, r1, r2, -, r4, -⟩ := Cond.instantiable_spec (show (Jvm.Cond.instantiable y'.cls kk).before args s = true from mvT hZ w5)
  have sel : (Jvm.Cond.selects y'.cls y' y').before args s = true := Jvm.Stand.selects_self_of_private r1 r2 (by simp only [Bool.or_eq_false_iff] at r4; exact r4.1) hpr hin hy
  obtain ⟨cq, q, q'⟩ := E.cell
  obtain ⟨_, _, ⟨T1, L1, k1, n1⟩, -, X1, ⟨Lc, hQ, l1, y1, z1⟩, st⟩ := X.privateBack hx (y := y') hown (mvT hZ w1) hin sel hpr (mvT hZ w4) hy (backOf (W := (rest.map fun v => v.category).sum) (hM []) hZ w4 w3 hf hl) (g := mkF m pc L S) rfl (by rw [hml]; exact hsz) (Steps.refl _) (a := a) (by rw [eT]; exact q) q' (argsL := argsL) (rest := rest) hlen hst (by show 2 * 0 + _ ≤ _; omega) (hb hby hd) (fun _ _ => ⟨rfl, eT, hc, hs⟩)
  dsimp only [Pt.U, Pt.locs, Pt.cells, Pt.slots] at X1 l1 y1 z1 st hQ
  subst l1 y1 z1
  obtain ⟨rfl, hQ', N', hn'⟩ := hQ
  obtain ⟨u1, a1, b1⟩ := g _ _ ⟨hx, hZ, hby, hml, hown, hnm, hret, hlk, hn', _, X1, rfl, N.app N'⟩ hQ'
  exact ⟨u1, st.trans a1, b1⟩
theorem w_privateV (X : Wk p l e R s m args below meth c Z n0 y code ml ret T cells slots h) {idx : Nat} {C : String} {y' : MethodName} {bytes : ByteArray} {maxL : Nat} {ret' : Option FieldType} {R' : Room} {v' : Value} {Q' : Heap → Prop} {a : Addr} {argsL rest : List Value} {W : Nat}
    (hM : Con l Z y' bytes maxL ret' R' (.ref a :: argsL).toArray h n0 (some v') Q') (E : Exa Z h a C) (w1 : (Jvm.Cond.methodLink y.cls idx y').before a0 Z = true) (w6 : (Jvm.Cond.instanceMethod y').before a0 Z = true) {kk : Nat} (w5 : (Jvm.Cond.instantiable y'.cls kk).before a0 Z = true) (w7 : (Jvm.Cond.privateMethod y').before a0 Z = true) (w3 : (Jvm.Cond.initialized y'.cls).before a0 Z = true) (w4 : (Jvm.Cond.code y' bytes maxL ret').before a0 Z = true)
    (hy : y'.cls ≠ "java/lang/invoke/MethodHandle" ∧ y'.cls ≠ "java/lang/invoke/VarHandle") (hst : S = argsL.reverse ++ .ref a :: rest) (hlen : ∀ sig, parseMethodDescriptor y'.desc = some sig → argsL.length = sig.parameters.length) (hsz : L.size = ml) (hW : (rest.map fun v => v.category).sum = W) (hf : R'.frames + 1 ≤ R.frames) (hl : W + (maxL + 11) + R'.locals ≤ R.locals)
    (hc : cells + R'.cells ≤ R.cells) (hs : slots + R'.slots ≤ R.slots) (hd : decode code pc = .ok (.invokevirtual idx, 3)) (hp : pc + 3 = pc')
    (g : ∀ T' h', Wk p l e R s m args below meth c Z n0 y code ml ret T' (cells + R'.cells) (slots + R'.slots) h' → Q' h' → Goes p e below K T' m pc' L (v' :: rest)) : Goes p e below K T m pc L S := w_private X hM E w1 w6 w5 w7 w3 w4 hy hst hlen hsz hW hf hl hc hs hd hp g
theorem w_privateVP (X : Wk p l e R s m args below meth c Z n0 y code ml ret T cells slots h) {idx : Nat} {C : String} {y' : MethodName} {bytes : ByteArray} {maxL : Nat} {ret' : Option FieldType} {R' : Room} {v' : Value} {a : Addr} {argsL rest : List Value} {W : Nat}
    (hM : Con l Z y' bytes maxL ret' R' (.ref a :: argsL).toArray h n0 (some v') (fun h' => h' = h)) (E : Exa Z h a C) (w1 : (Jvm.Cond.methodLink y.cls idx y').before a0 Z = true) (w6 : (Jvm.Cond.instanceMethod y').before a0 Z = true) {kk : Nat} (w5 : (Jvm.Cond.instantiable y'.cls kk).before a0 Z = true) (w7 : (Jvm.Cond.privateMethod y').before a0 Z = true) (w3 : (Jvm.Cond.initialized y'.cls).before a0 Z = true) (w4 : (Jvm.Cond.code y' bytes maxL ret').before a0 Z = true)
    (hy : y'.cls ≠ "java/lang/invoke/MethodHandle" ∧ y'.cls ≠ "java/lang/invoke/VarHandle") (hst : S = argsL.reverse ++ .ref a :: rest) (hlen : ∀ sig, parseMethodDescriptor y'.desc = some sig → argsL.length = sig.parameters.length) (hsz : L.size = ml) (hW : (rest.map fun v => v.category).sum = W) (hf : R'.frames + 1 ≤ R.frames) (hl : W + (maxL + 11) + R'.locals ≤ R.locals)
    (hc : cells + R'.cells ≤ R.cells) (hs : slots + R'.slots ≤ R.slots) (hd : decode code pc = .ok (.invokevirtual idx, 3)) (hp : pc + 3 = pc')
    (g : ∀ T', Wk p l e R s m args below meth c Z n0 y code ml ret T' (cells + R'.cells) (slots + R'.slots) h → Goes p e below K T' m pc' L (v' :: rest)) : Goes p e below K T m pc L S := w_privateV X hM E w1 w6 w5 w7 w3 w4 hy hst hlen hsz hW hf hl hc hs hd hp (fun T' h' X' q => by subst q; exact g T' X')
theorem w_private0 (X : Wk p l e R s m args below meth c Z n0 y code ml ret T cells slots h) {idx : Nat} {C : String} {y' : MethodName} {bytes : ByteArray} {maxL : Nat} {ret' : Option FieldType} {R' : Room} {Q' : Heap → Prop} {a : Addr} {argsL rest : List Value} {W : Nat}
    (hM : Con l Z y' bytes maxL ret' R' (.ref a :: argsL).toArray h n0 none Q') (E : Exa Z h a C) (w1 : (Jvm.Cond.methodLink y.cls idx y').before a0 Z = true) (w6 : (Jvm.Cond.instanceMethod y').before a0 Z = true) {kk : Nat} (w5 : (Jvm.Cond.instantiable y'.cls kk).before a0 Z = true) (w7 : (Jvm.Cond.privateMethod y').before a0 Z = true) (w3 : (Jvm.Cond.initialized y'.cls).before a0 Z = true) (w4 : (Jvm.Cond.code y' bytes maxL ret').before a0 Z = true)
    (hy : y'.cls ≠ "java/lang/invoke/MethodHandle" ∧ y'.cls ≠ "java/lang/invoke/VarHandle") (hst : S = argsL.reverse ++ .ref a :: rest) (hlen : ∀ sig, parseMethodDescriptor y'.desc = some sig → argsL.length = sig.parameters.length) (hsz : L.size = ml) (hW : (rest.map fun v => v.category).sum = W) (hf : R'.frames + 1 ≤ R.frames) (hl : W + (maxL + 11) + R'.locals ≤ R.locals)
    (hc : cells + R'.cells ≤ R.cells) (hs : slots + R'.slots ≤ R.slots) (hd : decode code pc = .ok (.invokevirtual idx, 3)) (hp : pc + 3 = pc')
    (g : ∀ T' h', Wk p l e R s m args below meth c Z n0 y code ml ret T' (cells + R'.cells) (slots + R'.slots) h' → Q' h' → Goes p e below K T' m pc' L rest) : Goes p e below K T m pc L S := w_private X hM E w1 w6 w5 w7 w3 w4 hy hst hlen hsz hW hf hl hc hs hd hp g
theorem w_private0P (X : Wk p l e R s m args below meth c Z n0 y code ml ret T cells slots h) {idx : Nat} {C : String} {y' : MethodName} {bytes : ByteArray} {maxL : Nat} {ret' : Option FieldType} {R' : Room} {a : Addr} {argsL rest : List Value} {W : Nat}
    (hM : Con l Z y' bytes maxL ret' R' (.ref a :: argsL).toArray h n0 none (fun h' => h' = h)) (E : Exa Z h a C) (w1 : (Jvm.Cond.methodLink y.cls idx y').before a0 Z = true) (w6 : (Jvm.Cond.instanceMethod y').before a0 Z = true) {kk : Nat} (w5 : (Jvm.Cond.instantiable y'.cls kk).before a0 Z = true) (w7 : (Jvm.Cond.privateMethod y').before a0 Z = true) (w3 : (Jvm.Cond.initialized y'.cls).before a0 Z = true) (w4 : (Jvm.Cond.code y' bytes maxL ret').before a0 Z = true)
    (hy : y'.cls ≠ "java/lang/invoke/MethodHandle" ∧ y'.cls ≠ "java/lang/invoke/VarHandle") (hst : S = argsL.reverse ++ .ref a :: rest) (hlen : ∀ sig, parseMethodDescriptor y'.desc = some sig → argsL.length = sig.parameters.length) (hsz : L.size = ml) (hW : (rest.map fun v => v.category).sum = W) (hf : R'.frames + 1 ≤ R.frames) (hl : W + (maxL + 11) + R'.locals ≤ R.locals)
    (hc : cells + R'.cells ≤ R.cells) (hs : slots + R'.slots ≤ R.slots) (hd : decode code pc = .ok (.invokevirtual idx, 3)) (hp : pc + 3 = pc')
    (g : ∀ T', Wk p l e R s m args below meth c Z n0 y code ml ret T' (cells + R'.cells) (slots + R'.slots) h → Goes p e below K T' m pc' L rest) : Goes p e below K T m pc L S := w_private0 X hM E w1 w6 w5 w7 w3 w4 hy hst hlen hsz hW hf hl hc hs hd hp (fun T' h' X' q => by subst q; exact g T' X')
theorem w_initO (X : Wk p l e R s m args below meth c Z n0 y code ml ret T cells slots h) {idx : Nat} {a : Addr} {W : Nat} (w1 : (Jvm.Cond.methodLink y.cls idx Lib.objectInit).before a0 Z = true) (w2 : (Jvm.Cond.instanceMethod Lib.objectInit).before a0 Z = true) (w3 : (Jvm.Cond.code Lib.objectInit ⟨#[0xb1]⟩ 1 none).before a0 Z = true)
    (hsz : L.size = ml) (hW : (S.map fun v => v.category).sum = W) (hf : 1 ≤ R.frames) (hl : W + 12 ≤ R.locals) (hd : decode code pc = .ok (.invokespecial idx, 3)) (hp : pc + 3 = pc')
    (g : ∀ T', Wk p l e R s m args below meth c Z n0 y code ml ret T' cells slots h → Goes p e below K T' m pc' L S) : Goes p e below K T m pc L (.ref a :: S) := by
  obtain ⟨hx, hZ, hby, hml, hown, hnm, hret, hlk, hn, locs, X, eT, N⟩ := X
  subst hp hW
  obtain ⟨T1, X1, e1, st⟩ := initO X hx hZ hown w1 w2 w3 eT (g := mkF m pc L (.ref a :: S)) rfl (by rw [hml]; exact hsz) rfl (hb hby hd) hf (W := (S.map fun v => v.category).sum) (by show 2 * 0 + _ ≤ _; omega) hl
  obtain ⟨u1, a1, b1⟩ := g _ ⟨hx, hZ, hby, hml, hown, hnm, hret, hlk, hn, _, X1, e1, N⟩
  exact ⟨u1, st _ a1, b1⟩
-- fields and objects
theorem w_getF (X : Wk p l e R s m args below meth c Z n0 y code ml ret T cells slots h) {R0 O n d host : String} {idx : Nat} {a : Addr} {v : Value} (w : (Jvm.Cond.fieldLink y.cls idx R0 n d).before a0 Z = true ∨ (Jvm.Cond.fieldLinkNest y.cls idx R0 n d host).before a0 Z = true) (via : Via Z R0 O n d)
    (F : Fld Z h a O n d v) (hd : decode code pc = .ok (.getfield idx, 3)) (hp : pc + 3 = pc') (g : ∀ T', Wk p l e R s m args below meth c Z n0 y code ml ret T' cells slots h → Goes p e below K T' m pc' L (v :: S)) : Goes p e below K T m pc L (.ref a :: S) := by
  obtain ⟨hx, hZ, hby, hml, hown, hnm, hret, hlk, hn, locs, X, eT, N⟩ := X
  subst hp
  obtain ⟨T1, X1, e1, st⟩ := getF X hx hZ hown w via eT F (g := mkF m pc L (.ref a :: S)) rfl rfl (hb hby hd)
  obtain ⟨u1, a1, b1⟩ := g _ ⟨hx, hZ, hby, hml, hown, hnm, hret, hlk, hn, _, X1, e1, N⟩
  exact ⟨u1, st _ a1, b1⟩
theorem w_putF (X : Wk p l e R s m args below meth c Z n0 y code ml ret T cells slots h) {R0 O n d host C : String} {idx kk : Nat} {ty : FieldType} {a : Addr} {v old : Value} (w : (Jvm.Cond.fieldLink y.cls idx R0 n d).before a0 Z = true ∨ (Jvm.Cond.fieldLinkNest y.cls idx R0 n d host).before a0 Z = true) (via : Via Z R0 O n d)
    (F : Fld Z h a O n d old) (E : Exa Z h a C) (Lw : (Jvm.Cond.lays C O n d).before a0 Z = true ∨ ((Jvm.Cond.laysFinal C O n d).before a0 Z = true ∧ y.cls = O ∧ y.name = "<init>")) (wi : (Jvm.Cond.instantiable C kk).before a0 Z = true) (hty : parseFieldDescriptor d = some ty) (hnv : narrow ty v = v) (hfv : fits ty v = true) (ha : n0 ≤ a)
    (hd : decode code pc = .ok (.putfield idx, 3)) (hp : pc + 3 = pc') (g : ∀ T' h', Wk p l e R s m args below meth c Z n0 y code ml ret T' cells slots h' → Wr h h' a (Jvm.RoadKit.slotOf Z O n d) v → Goes p e below K T' m pc' L S) : Goes p e below K T m pc L (v :: .ref a :: S) := by
  obtain ⟨hx, hZ, hby, hml, hown, hnm, hret, hlk, hn, locs, X, eT, N⟩ := X
  subst hp
  obtain ⟨T1, h1, X1, e1, W1, st⟩ := putF X hx hZ hown w via eT F E (Lw.imp id fun q => ⟨q.1, q.2.1, hnm.trans q.2.2⟩) wi hty hnv hfv (g := mkF m pc L (v :: .ref a :: S)) rfl rfl (hb hby hd)
  obtain ⟨u1, a1, b1⟩ := g _ _ ⟨hx, hZ, hby, hml, hown, hnm, hret, hlk, W1.size.symm ▸ hn, _, X1, e1, Fr.snoc X1 N ha⟩ W1
  exact ⟨u1, st _ a1, b1⟩
theorem w_putFN (X : Wk p l e R s m args below meth c Z n0 y code ml ret T cells slots h) {R0 O n d C : String} {idx kk : Nat} {ty : FieldType} {a : Addr} {v v' old : Value} (w : (Jvm.Cond.fieldLink y.cls idx R0 n d).before a0 Z = true) (via : Via Z R0 O n d)
    (F : Fld Z h a O n d old) (E : Exa Z h a C) (Lw : (Jvm.Cond.lays C O n d).before a0 Z = true ∨ ((Jvm.Cond.laysFinal C O n d).before a0 Z = true ∧ y.cls = O ∧ y.name = "<init>")) (wi : (Jvm.Cond.instantiable C kk).before a0 Z = true) (hty : parseFieldDescriptor d = some ty) (hnv : narrow ty v = v') (hfv : fits ty v' = true) (ha : n0 ≤ a)
    (hd : decode code pc = .ok (.putfield idx, 3)) (hp : pc + 3 = pc') (g : ∀ T' h', Wk p l e R s m args below meth c Z n0 y code ml ret T' cells slots h' → Wr h h' a (Jvm.RoadKit.slotOf Z O n d) v' → Goes p e below K T' m pc' L S) : Goes p e below K T m pc L (v :: .ref a :: S) := by
  obtain ⟨hx, hZ, hby, hml, hown, hnm, hret, hlk, hn, locs, X, eT, N⟩ := X
  subst hp
  obtain ⟨T1, h1, X1, e1, W1, st⟩ := putFN X hx hZ hown w via eT F E (Lw.imp id fun q => ⟨q.1, q.2.1, hnm.trans q.2.2⟩) wi hty hnv hfv (g := mkF m pc L (v :: .ref a :: S)) rfl rfl (hb hby hd)
  obtain ⟨u1, a1, b1⟩ := g _ _ ⟨hx, hZ, hby, hml, hown, hnm, hret, hlk, W1.size.symm ▸ hn, _, X1, e1, Fr.snoc X1 N ha⟩ W1
  exact ⟨u1, st _ a1, b1⟩
theorem w_new (X : Wk p l e R s m args below meth c Z n0 y code ml ret T cells slots h) {C : String} {idx n : Nat} (w : (Jvm.Cond.classLink y.cls idx C).before a0 Z = true) (wi : (Jvm.Cond.instantiable C n).before a0 Z = true) (wz : (Jvm.Cond.initialized C).before a0 Z = true) (hc : cells + 1 ≤ R.cells) (hl : slots + n ≤ R.slots) (hd : decode code pc = .ok (.new idx, 3)) (hp : pc + 3 = pc')
    (g : ∀ T' h' a, Wk p l e R s m args below meth c Z n0 y code ml ret T' (cells + 1) (slots + n) h' → a = h.size → n0 ≤ a → Ext h h' → Exa Z h' a C → (∀ {O nm d : String} {ty : FieldType}, Laid Z a0 C O nm d → parseFieldDescriptor d = some ty → Fld Z h' a O nm d (defaultValue ty)) → Goes p e below K T' m pc' L (.ref a :: S)) : Goes p e below K T m pc L S := by
  obtain ⟨hx, hZ, hby, hml, hown, hnm, hret, hlk, hn, locs, X, eT, N⟩ := X
  subst hp
  obtain ⟨T1, h1, X1, e1, E1, A1, D1, -, st⟩ := newO X hx hZ hown w wi wz eT (g := mkF m pc L S) rfl (hb hby hd) hc hl
  obtain ⟨u1, a1, b1⟩ := g _ _ _ ⟨hx, hZ, hby, hml, hown, hnm, hret, hlk, Nat.le_trans hn E1.1, _, X1, e1, N⟩ rfl hn E1 A1 D1
  exact ⟨u1, st _ a1, b1⟩
-- arrays
/-- the array at a holds vs -/
def AV (Z : State) (h : Heap) (a : Addr) (ty : FieldType) (vs : List Value) : Prop := ∃ c : Cell, Arr Z h a c ty ∧ c.slots.toList = vs ∧ vs.length < 2 ^ 31
theorem AV.lt {a : Addr} {ty : FieldType} {vs : List Value} (A : AV Z h a ty vs) : a < h.size := by obtain ⟨c, A, -⟩ := A; exact A.lt
theorem AV.ext {a : Addr} {ty : FieldType} {vs : List Value} {h' : Heap} (A : AV Z h a ty vs) (E : Ext h h') : AV Z h' a ty vs := by obtain ⟨c, A, r⟩ := A; exact ⟨c, A.ext E, r⟩
theorem AV.other {a b : Addr} {ty : FieldType} {vs : List Value} {h' : Heap} {sl : Nat} {v : Value} (A : AV Z h b ty vs) (W : Wr h h' a sl v) (q : b ≠ a) : AV Z h' b ty vs := by obtain ⟨c, A, r⟩ := A; exact ⟨c, A.other W q, r⟩
theorem AV.keep {a : Addr} {ty : FieldType} {vs : List Value} {h' : Heap} {ws : List Addr} (A : AV Z h a ty vs) (Kp : Keep h h' ws) (q : a ∉ ws) : AV Z h' a ty vs := by obtain ⟨c, A, r⟩ := A; exact ⟨c, ⟨Kp.2.1 _ _ A.1 q, A.2⟩, r⟩
theorem AV.set {a : Addr} {ty : FieldType} {vs : List Value} {h' : Heap} {i : Nat} {v : Value} (A : AV Z h a ty vs) (W : Wr h h' a i v) : AV Z h' a ty (vs.set i v) := by
  obtain ⟨c, A, r1, r2⟩ := A
  refine ⟨_, A.same W, ?_, by simpa using r2⟩
  subst r1
  simp [Cell.setSlot]
theorem AV.ne_exa {a b : Addr} {ty : FieldType} {vs : List Value} {C : String} {k : Nat} (A : AV Z h a ty vs) (E : Exa Z h b C) (wi : (Jvm.Cond.instantiable C k).before a0 Z = true) : b ≠ a := by obtain ⟨c, A, -⟩ := A; exact ne_arr E wi A
theorem AV.len {a : Addr} {ty : FieldType} {vs : List Value} (A : AV Z h a ty vs) : vs.length < 2 ^ 31 := by obtain ⟨c, -, -, r⟩ := A; exact r
theorem av_in {c : Cell} {vs : List Value} (r : c.slots.toList = vs) {j : Int32} {i : Nat} (h0 : ¬ j < 0) (hi : j.toNatClampNeg = i) (hlt : i < vs.length) : ¬ (j < 0 ∨ c.slots.size ≤ j.toNatClampNeg) := by
  subst r hi
  rintro (q | q)
  · exact h0 q
  · simp at hlt; omega
theorem av_at {c : Cell} {vs : List Value} (r : c.slots.toList = vs) {i : Nat} {v : Value} (hv : vs[i]? = some v) : c.slots[i]? = some v := by
  subst r
  simpa using hv
theorem w_newP (X : Wk p l e R s m args below meth c Z n0 y code ml ret T cells slots h) {aty : ArrayType} {n : Int32} {k : Nat} (w : (Jvm.Cond.arrayClass (newarray.typeOf aty)).before a0 Z = true) (hn : ¬ n < 0) (hk : n.toNatClampNeg = k) {cap : Nat} (hcap : k ≤ cap) (hb0 : cap * 8 ≤ 536870912) (hc : cells + 1 ≤ R.cells) (hl : slots + cap ≤ R.slots) (hd : decode code pc = .ok (.newarray aty, 2)) (hp : pc + 2 = pc')
    (g : ∀ T' h' a, Wk p l e R s m args below meth c Z n0 y code ml ret T' (cells + 1) (slots + cap) h' → a = h.size → n0 ≤ a → Ext h h' → AV Z h' a (newarray.typeOf aty) (List.replicate k (defaultValue (newarray.typeOf aty))) → Goes p e below K T' m pc' L (.ref a :: S)) : Goes p e below K T m pc L (.int n :: S) := by
  obtain ⟨hx, hZ, hby, hml, hown, hnm, hret, hlk, hn', locs, X, eT, N⟩ := X
  subst hp hk
  obtain ⟨T1, h1, cA, X1, e1, E1, A1, st⟩ := newP X hx hZ w eT (g := mkF m pc L (.int n :: S)) rfl (hb hby hd) rfl hn hcap hb0 hc hl
  obtain ⟨u1, a1, b1⟩ := g _ _ _ ⟨hx, hZ, hby, hml, hown, hnm, hret, hlk, Nat.le_trans hn' E1.1, _, X1, e1, N⟩ rfl hn' E1 ⟨_, A1, (by simp [newA]), (by simp only [List.length_replicate]; exact (back32 hn).2)⟩
  exact ⟨u1, st _ a1, b1⟩
theorem w_iaload (X : Wk p l e R s m args below meth c Z n0 y code ml ret T cells slots h) {a : Addr} {vs : List Value} {j : Int32} {i : Nat} {v : Value} (A : AV Z h a .int vs) (h0 : ¬ j < 0) (hi : j.toNatClampNeg = i) (hv : vs[i]? = some v) (hd : decode code pc = .ok (.iaload, 1)) (hp : pc + 1 = pc') (g : Goes p e below K T m pc' L (v :: S)) : Goes p e below K T m pc L (.int j :: .ref a :: S) := by
  obtain ⟨hx, hZ, hby, hml, hown, hnm, hret, hlk, hn, locs, X, eT, N⟩ := X
  obtain ⟨cl, A, r, -⟩ := A
  subst hp
  obtain ⟨u1, a1, b1⟩ := g
  exact ⟨u1, X.iaload hx (by rw [eT]; exact A.1) (State.isArrayOf_alike hZ.alike A.2.1) A.2.2 (av_in r h0 hi (List.getElem?_eq_some_iff.mp hv).1) (by rw [hi]; exact av_at r hv) (g := mkF m pc L (.int j :: .ref a :: S)) rfl rfl (hb hby hd) _ a1, b1⟩
theorem w_laload (X : Wk p l e R s m args below meth c Z n0 y code ml ret T cells slots h) {a : Addr} {vs : List Value} {j : Int32} {i : Nat} {v : Value} (A : AV Z h a .long vs) (h0 : ¬ j < 0) (hi : j.toNatClampNeg = i) (hv : vs[i]? = some v) (hd : decode code pc = .ok (.laload, 1)) (hp : pc + 1 = pc') (g : Goes p e below K T m pc' L (v :: S)) : Goes p e below K T m pc L (.int j :: .ref a :: S) := by
  obtain ⟨hx, hZ, hby, hml, hown, hnm, hret, hlk, hn, locs, X, eT, N⟩ := X
  obtain ⟨cl, A, r, -⟩ := A
  subst hp
  obtain ⟨u1, a1, b1⟩ := g
  exact ⟨u1, X.laload hx (by rw [eT]; exact A.1) (State.isArrayOf_alike hZ.alike A.2.1) A.2.2 (av_in r h0 hi (List.getElem?_eq_some_iff.mp hv).1) (by rw [hi]; exact av_at r hv) (g := mkF m pc L (.int j :: .ref a :: S)) rfl rfl (hb hby hd) _ a1, b1⟩
theorem w_caload (X : Wk p l e R s m args below meth c Z n0 y code ml ret T cells slots h) {a : Addr} {vs : List Value} {j : Int32} {i : Nat} {v : Value} (A : AV Z h a .char vs) (h0 : ¬ j < 0) (hi : j.toNatClampNeg = i) (hv : vs[i]? = some v) (hd : decode code pc = .ok (.caload, 1)) (hp : pc + 1 = pc') (g : Goes p e below K T m pc' L (v :: S)) : Goes p e below K T m pc L (.int j :: .ref a :: S) := by
  obtain ⟨hx, hZ, hby, hml, hown, hnm, hret, hlk, hn, locs, X, eT, N⟩ := X
  obtain ⟨cl, A, r, -⟩ := A
  subst hp
  obtain ⟨u1, a1, b1⟩ := g
  exact ⟨u1, X.caload hx (by rw [eT]; exact A.1) (State.isArrayOf_alike hZ.alike A.2.1) A.2.2 (av_in r h0 hi (List.getElem?_eq_some_iff.mp hv).1) (by rw [hi]; exact av_at r hv) (g := mkF m pc L (.int j :: .ref a :: S)) rfl rfl (hb hby hd) _ a1, b1⟩
theorem w_baloadB (X : Wk p l e R s m args below meth c Z n0 y code ml ret T cells slots h) {a : Addr} {vs : List Value} {j : Int32} {i : Nat} {v : Value} (A : AV Z h a .byte vs) (h0 : ¬ j < 0) (hi : j.toNatClampNeg = i) (hv : vs[i]? = some v) (hd : decode code pc = .ok (.baload, 1)) (hp : pc + 1 = pc') (g : Goes p e below K T m pc' L (v :: S)) : Goes p e below K T m pc L (.int j :: .ref a :: S) := by
  obtain ⟨hx, hZ, hby, hml, hown, hnm, hret, hlk, hn, locs, X, eT, N⟩ := X
  obtain ⟨cl, A, r, -⟩ := A
  subst hp
  obtain ⟨u1, a1, b1⟩ := g
  exact ⟨u1, X.baloadBytes hx (by rw [eT]; exact A.1) (State.isArrayOf_alike hZ.alike A.2.1) A.2.2 (av_in r h0 hi (List.getElem?_eq_some_iff.mp hv).1) (by rw [hi]; exact av_at r hv) (g := mkF m pc L (.int j :: .ref a :: S)) rfl rfl (hb hby hd) _ a1, b1⟩
theorem w_baloadZ (X : Wk p l e R s m args below meth c Z n0 y code ml ret T cells slots h) {a : Addr} {vs : List Value} {j : Int32} {i : Nat} {v : Value} (A : AV Z h a .boolean vs) (h0 : ¬ j < 0) (hi : j.toNatClampNeg = i) (hv : vs[i]? = some v) (hd : decode code pc = .ok (.baload, 1)) (hp : pc + 1 = pc') (g : Goes p e below K T m pc' L (v :: S)) : Goes p e below K T m pc L (.int j :: .ref a :: S) := by
  obtain ⟨hx, hZ, hby, hml, hown, hnm, hret, hlk, hn, locs, X, eT, N⟩ := X
  obtain ⟨cl, A, r, -⟩ := A
  subst hp
  obtain ⟨u1, a1, b1⟩ := g
  exact ⟨u1, X.baloadBooleans hx (by rw [eT]; exact A.1) (State.isArrayOf_alike hZ.alike A.2.1) A.2.2 (av_in r h0 hi (List.getElem?_eq_some_iff.mp hv).1) (by rw [hi]; exact av_at r hv) (g := mkF m pc L (.int j :: .ref a :: S)) rfl rfl (hb hby hd) _ a1, b1⟩
theorem w_arraylength (X : Wk p l e R s m args below meth c Z n0 y code ml ret T cells slots h) {a : Addr} {ty : FieldType} {vs : List Value} {n : Int32} (A : AV Z h a ty vs) (hn : vs.length.toInt32 = n) (hd : decode code pc = .ok (.arraylength, 1)) (hp : pc + 1 = pc') (g : Goes p e below K T m pc' L (.int n :: S)) : Goes p e below K T m pc L (.ref a :: S) := by
  obtain ⟨hx, hZ, hby, hml, hown, hnm, hret, hlk, hn', locs, X, eT, N⟩ := X
  obtain ⟨cl, A, r, -⟩ := A
  have q : cl.slots.size.toInt32 = n := by rw [← hn, ← r]; simp
  subst hp q
  obtain ⟨u1, a1, b1⟩ := g
  exact ⟨u1, X.arraylength hx (by rw [eT]; exact A.1) (State.isArrayOf_alike hZ.alike A.2.1) (g := mkF m pc L (.ref a :: S)) rfl rfl (hb hby hd) _ a1, b1⟩
theorem w_iastore (X : Wk p l e R s m args below meth c Z n0 y code ml ret T cells slots h) {a : Addr} {vs : List Value} {j : Int32} {i : Nat} {x : Int32} (A : AV Z h a .int vs) (h0 : ¬ j < 0) (hi : j.toNatClampNeg = i) (hlt : i < vs.length) (ha : n0 ≤ a) (hd : decode code pc = .ok (.iastore, 1)) (hp : pc + 1 = pc') (g : ∀ T' h', Wk p l e R s m args below meth c Z n0 y code ml ret T' cells slots h' → Wr h h' a i (.int x) → AV Z h' a .int (vs.set i (.int x)) → Goes p e below K T' m pc' L S) : Goes p e below K T m pc L (.int x :: .int j :: .ref a :: S) := by
  obtain ⟨hx, hZ, hby, hml, hown, hnm, hret, hlk, hn, locs, X, eT, N⟩ := X
  have A0 := A
  obtain ⟨cl, A, r, -⟩ := A
  subst hp hi
  obtain ⟨T1, h1, X1, e1, W1, st⟩ := stI X hx hZ eT A (j := j) (av_in r h0 rfl hlt) (g := mkF m pc L (.int x :: .int j :: .ref a :: S)) rfl rfl (hb hby hd)
  obtain ⟨u1, a1, b1⟩ := g _ _ ⟨hx, hZ, hby, hml, hown, hnm, hret, hlk, W1.size.symm ▸ hn, _, X1, e1, Fr.snoc X1 N ha⟩ W1 (A0.set W1)
  exact ⟨u1, st _ a1, b1⟩
theorem w_lastore (X : Wk p l e R s m args below meth c Z n0 y code ml ret T cells slots h) {a : Addr} {vs : List Value} {j : Int32} {i : Nat} {x : Int64} (A : AV Z h a .long vs) (h0 : ¬ j < 0) (hi : j.toNatClampNeg = i) (hlt : i < vs.length) (ha : n0 ≤ a) (hd : decode code pc = .ok (.lastore, 1)) (hp : pc + 1 = pc') (g : ∀ T' h', Wk p l e R s m args below meth c Z n0 y code ml ret T' cells slots h' → Wr h h' a i (.long x) → AV Z h' a .long (vs.set i (.long x)) → Goes p e below K T' m pc' L S) : Goes p e below K T m pc L (.long x :: .int j :: .ref a :: S) := by
  obtain ⟨hx, hZ, hby, hml, hown, hnm, hret, hlk, hn, locs, X, eT, N⟩ := X
  have A0 := A
  obtain ⟨cl, A, r, -⟩ := A
  subst hp hi
  obtain ⟨T1, h1, X1, e1, W1, st⟩ := stJ X hx hZ eT A (j := j) (av_in r h0 rfl hlt) (g := mkF m pc L (.long x :: .int j :: .ref a :: S)) rfl rfl (hb hby hd)
  obtain ⟨u1, a1, b1⟩ := g _ _ ⟨hx, hZ, hby, hml, hown, hnm, hret, hlk, W1.size.symm ▸ hn, _, X1, e1, Fr.snoc X1 N ha⟩ W1 (A0.set W1)
  exact ⟨u1, st _ a1, b1⟩
theorem w_castore (X : Wk p l e R s m args below meth c Z n0 y code ml ret T cells slots h) {a : Addr} {vs : List Value} {j : Int32} {i : Nat} {x : Int32} (A : AV Z h a .char vs) (h0 : ¬ j < 0) (hi : j.toNatClampNeg = i) (hlt : i < vs.length) (ha : n0 ≤ a) (hd : decode code pc = .ok (.castore, 1)) (hp : pc + 1 = pc') (g : ∀ T' h', Wk p l e R s m args below meth c Z n0 y code ml ret T' cells slots h' → Wr h h' a i (.int (nar .char x)) → AV Z h' a .char (vs.set i (.int (nar .char x))) → Goes p e below K T' m pc' L S) : Goes p e below K T m pc L (.int x :: .int j :: .ref a :: S) := by
  obtain ⟨hx, hZ, hby, hml, hown, hnm, hret, hlk, hn, locs, X, eT, N⟩ := X
  have A0 := A
  obtain ⟨cl, A, r, -⟩ := A
  subst hp hi
  obtain ⟨T1, h1, X1, e1, W1, st⟩ := stC X hx hZ eT A (j := j) (av_in r h0 rfl hlt) (g := mkF m pc L (.int x :: .int j :: .ref a :: S)) rfl rfl (hb hby hd)
  obtain ⟨u1, a1, b1⟩ := g _ _ ⟨hx, hZ, hby, hml, hown, hnm, hret, hlk, W1.size.symm ▸ hn, _, X1, e1, Fr.snoc X1 N ha⟩ W1 (A0.set W1)
  exact ⟨u1, st _ a1, b1⟩
theorem w_bastoreB (X : Wk p l e R s m args below meth c Z n0 y code ml ret T cells slots h) {a : Addr} {vs : List Value} {j : Int32} {i : Nat} {x : Int32} (A : AV Z h a .byte vs) (h0 : ¬ j < 0) (hi : j.toNatClampNeg = i) (hlt : i < vs.length) (ha : n0 ≤ a) (hd : decode code pc = .ok (.bastore, 1)) (hp : pc + 1 = pc') (g : ∀ T' h', Wk p l e R s m args below meth c Z n0 y code ml ret T' cells slots h' → Wr h h' a i (.int (nar .byte x)) → AV Z h' a .byte (vs.set i (.int (nar .byte x))) → Goes p e below K T' m pc' L S) : Goes p e below K T m pc L (.int x :: .int j :: .ref a :: S) := by
  obtain ⟨hx, hZ, hby, hml, hown, hnm, hret, hlk, hn, locs, X, eT, N⟩ := X
  have A0 := A
  obtain ⟨cl, A, r, -⟩ := A
  subst hp hi
  obtain ⟨T1, h1, X1, e1, W1, st⟩ := stB X hx hZ eT A (j := j) (av_in r h0 rfl hlt) (g := mkF m pc L (.int x :: .int j :: .ref a :: S)) rfl rfl (hb hby hd)
  obtain ⟨u1, a1, b1⟩ := g _ _ ⟨hx, hZ, hby, hml, hown, hnm, hret, hlk, W1.size.symm ▸ hn, _, X1, e1, Fr.snoc X1 N ha⟩ W1 (A0.set W1)
  exact ⟨u1, st _ a1, b1⟩
theorem w_bastoreZ (X : Wk p l e R s m args below meth c Z n0 y code ml ret T cells slots h) {a : Addr} {vs : List Value} {j : Int32} {i : Nat} {x : Int32} (A : AV Z h a .boolean vs) (h0 : ¬ j < 0) (hi : j.toNatClampNeg = i) (hlt : i < vs.length) (ha : n0 ≤ a) (hd : decode code pc = .ok (.bastore, 1)) (hp : pc + 1 = pc') (g : ∀ T' h', Wk p l e R s m args below meth c Z n0 y code ml ret T' cells slots h' → Wr h h' a i (.int (nar .boolean x)) → AV Z h' a .boolean (vs.set i (.int (nar .boolean x))) → Goes p e below K T' m pc' L S) : Goes p e below K T m pc L (.int x :: .int j :: .ref a :: S) := by
  obtain ⟨hx, hZ, hby, hml, hown, hnm, hret, hlk, hn, locs, X, eT, N⟩ := X
  have A0 := A
  obtain ⟨cl, A, r, -⟩ := A
  subst hp hi
  obtain ⟨T1, h1, X1, e1, W1, st⟩ := stZ X hx hZ eT A (j := j) (av_in r h0 rfl hlt) (g := mkF m pc L (.int x :: .int j :: .ref a :: S)) rfl rfl (hb hby hd)
  obtain ⟨u1, a1, b1⟩ := g _ _ ⟨hx, hZ, hby, hml, hown, hnm, hret, hlk, W1.size.symm ▸ hn, _, X1, e1, Fr.snoc X1 N ha⟩ W1 (A0.set W1)
  exact ⟨u1, st _ a1, b1⟩
theorem getI {xs : List Int32} {i : Nat} (q : i < xs.length) : (xs.map Value.int)[i]? = some (.int (xs.getD i 0)) := by
  simp [List.getD_eq_getElem?_getD, List.getElem?_eq_getElem q]
theorem getL {xs : List Int64} {i : Nat} (q : i < xs.length) : (xs.map Value.long)[i]? = some (.long (xs.getD i 0)) := by
  simp [List.getD_eq_getElem?_getD, List.getElem?_eq_getElem q]
/-- a new name for a value -/
theorem nameI {K' : Prop} (v : Int32) (g : ∀ z, z = v → K') : K' := g v rfl
theorem nameL {K' : Prop} (v : Int64) (g : ∀ z, z = v → K') : K' := g v rfl
end Rules
end Jvm.Own
namespace Jvm.Pilot.@@N@@
open Jvm Jvm.ClassFile Sem Op Lib Jvm.Free Jvm.Stand Jvm.LawKit Jvm.RoadKit Bundle Jvm.Own Jvm.Pilot.@@N@@.Jvm.D
theorem own_fin (z : Int32) (n : Nat) (h0 : 0 ≤ z.toInt) (h1 : z.toInt < n) : ∃ k : Fin n, z = Int32.ofNat k.val := by
  refine ⟨⟨z.toInt.toNat, by omega⟩, ?_⟩
  apply Int32.toInt_inj.mp
  have := z.toInt_lt
  rw [Int32.toInt_ofNat_of_lt (by show z.toInt.toNat < 2 ^ 31; omega)]
  show z.toInt = ((z.toInt.toNat : Nat) : Int)
  omega
theorem own_nn (i : Int32) (h : 0 ≤ i.toInt) : ¬ i < 0 := by rw [Int32.lt_iff_toInt_lt]; have e : (0 : Int32).toInt = 0 := by decide
                                                             omega
theorem own_tn (i : Int32) (h : 0 ≤ i.toInt) : (i.toNatClampNeg : Int) = i.toInt := by rw [Int32.toNatClampNeg]; omega
theorem own_inc (i t : Int32) (h : i < t) : (i + 1).toInt = i.toInt + 1 := by
  rw [Int32.lt_iff_toInt_lt] at h
  have h1 := t.toInt_lt; have h2 := i.le_toInt
  have e1 : (1 : Int32).toInt = 1 := by decide
  rw [Int32.toInt_add, e1]
  exact Int.bmod_eq_of_le (by show -(2:Int)^32/2 ≤ _; omega) (by show _ < ((2:Int)^32+1)/2; omega)
/-- the number of values other than 0 -/
def bz (v : Int32) : Nat := if v = 0 then 0 else 1
def cntN : List Int32 → Nat
  | [] => 0
  | x :: xs => bz x + cntN xs
theorem cnt_set (xs : List Int32) (i : Nat) (v : Int32) (h : i < xs.length) : cntN (xs.set i v) + bz (xs.getD i 0) = cntN xs + bz v := by
  induction xs generalizing i with
  | nil => exact absurd h (Nat.not_lt_zero _)
  | cons x xs ih =>
    cases i with
    | zero => show (bz v + cntN xs) + bz x = (bz x + cntN xs) + bz v; omega
    | succ i => have := ih i (Nat.lt_of_succ_lt_succ h); show (bz x + cntN (xs.set i v)) + bz (xs.getD i 0) = (bz x + cntN xs) + bz v; omega
theorem cnt_rep (n : Nat) : cntN (List.replicate n 0) = 0 := by
  induction n with
  | zero => rfl
  | succ n ih => show bz 0 + cntN (List.replicate n 0) = 0; rw [ih]; rfl
theorem getD_set (xs : List Int32) (i j : Nat) (v : Int32) (h : i < xs.length) : (xs.set i v).getD j 0 = if i = j then v else xs.getD j 0 := by
  simp only [List.getD_eq_getElem?_getD, List.getElem?_set]
  by_cases c : i = j
  · subst c; simp [h]
  · simp [c]
theorem getD_rep (n j : Nat) : (List.replicate n (0 : Int32)).getD j 0 = 0 := by
  simp only [List.getD_eq_getElem?_getD, List.getElem?_replicate]; split <;> rfl
theorem bz0 : bz 0 = 0 := rfl
theorem sm1 (b i1 : Nat) (v1 : Int32) (h1 : i1 < b) : cntN ((List.replicate b 0).set i1 v1) = bz v1 := by
  have := cnt_set (List.replicate b 0) i1 v1 (by rw [List.length_replicate]; exact h1)
  rw [getD_rep, cnt_rep, bz0] at this; omega
theorem sm2 (b i1 i2 : Nat) (v1 v2 : Int32) (h1 : i1 < b) (h2 : i2 < b) : cntN (((List.replicate b 0).set i1 v1).set i2 v2) = bz v2 + (if i1 = i2 then 0 else bz v1) := by
  have e := cnt_set ((List.replicate b 0).set i1 v1) i2 v2 (by rw [List.length_set, List.length_replicate]; exact h2)
  rw [getD_set _ _ _ _ (by rw [List.length_replicate]; exact h1), getD_rep, sm1 b i1 v1 h1] at e
  split at e <;> rename_i c
  · rw [if_pos c]; omega
  · rw [if_neg c]; rw [bz0] at e; omega
theorem sm3 (b i1 i2 i3 : Nat) (v1 v2 v3 : Int32) (h1 : i1 < b) (h2 : i2 < b) (h3 : i3 < b) : cntN ((((List.replicate b 0).set i1 v1).set i2 v2).set i3 v3) = bz v3 + (if i2 = i3 then 0 else bz v2) + (if i1 = i2 then 0 else if i1 = i3 then 0 else bz v1) := by
  have e := cnt_set (((List.replicate b 0).set i1 v1).set i2 v2) i3 v3 (by rw [List.length_set, List.length_set, List.length_replicate]; exact h3)
  rw [getD_set _ _ _ _ (by rw [List.length_set, List.length_replicate]; exact h2), getD_set _ _ _ _ (by rw [List.length_replicate]; exact h1), getD_rep, sm2 b i1 i2 v1 v2 h1 h2] at e
  by_cases c1 : i2 = i3
  · rw [if_pos c1] at e ⊢
    by_cases c2 : i1 = i2
    · rw [if_pos c2] at e ⊢; omega
    · rw [if_neg c2] at e ⊢; rw [if_neg (by omega)]; omega
  · rw [if_neg c1] at e ⊢
    by_cases c2 : i1 = i2
    · rw [if_pos c2] at e ⊢; rw [if_neg (by omega), bz0] at e; omega
    · rw [if_neg c2] at e ⊢
      by_cases c3 : i1 = i3
      · rw [if_pos c3] at e ⊢; omega
      · rw [if_neg c3] at e ⊢; rw [bz0] at e; omega
theorem own_drop (xs : List Int32) (i : Nat) (h : i < xs.length) : cntN (xs.drop i) = bz (xs.getD i 0) + cntN (xs.drop (i + 1)) := by
  rw [List.drop_eq_getElem_cons h, List.getD_eq_getElem?_getD, List.getElem?_eq_getElem h]; rfl
-- the slots
def nd (e : Int64) : Int32 := (ushL e (32 : Int32)).toInt32
def sixteen : List Int32 := [0, 1, 2, 3, 4, 5, 6, 7, 8, 9, 10, 11, 12, 13, 14, 15]
def ga (xs : List Int64) (s : Int32) : Int64 := xs.getD (s).toNatClampNeg 0
def nx (s : Int32) : Int32 := (s + (1 : Int32)) &&& (15 : Int32)
def fnd (xs : List Int64) (n : Int32) : Nat → Int32 → Option Int32
  | 0, _ => none
  | k + 1, s => if ga xs s = -1 then some s else if nd (ga xs s) = n then some s else fnd xs n k (nx s)
theorem S0 : ∀ s ∈ sixteen, ¬ s < 0 ∧ s.toNatClampNeg < 16 ∧ nx s ∈ sixteen := by decide
theorem S1 : ∀ s ∈ sixteen, ∀ q ∈ sixteen, s.toNatClampNeg = q.toNatClampNeg → s = q := by decide
def nxk : Nat → Int32 → Int32
  | 0, s => s
  | k + 1, s => nxk k (nx s)
theorem S2 : ∀ s ∈ sixteen, ∀ q ∈ sixteen, ∃ k : Fin 16, nxk k.val s = q := by decide
theorem S16 (x z : Int32) (h : x = (28 : Int32)) : ush z x ∈ sixteen := by
  subst h
  have h1 : (ush z (28 : Int32)).toBitVec = z.toBitVec >>> 28 := by
    unfold ush
    rw [UInt32.toBitVec_toInt32, UInt32.toBitVec_shiftRight, Int32.toBitVec_toUInt32, Int32.toBitVec_toUInt32, BitVec.ushiftRight_eq']
    rfl
  have h2 : (ush z (28 : Int32)).toBitVec.toNat < 16 := by
    rw [h1, BitVec.toNat_ushiftRight, Nat.shiftRight_eq_div_pow]
    have := z.toBitVec.isLt; omega
  have h3 : (ush z (28 : Int32)).toInt = (ush z (28 : Int32)).toBitVec.toNat := by
    show (ush z (28 : Int32)).toBitVec.toInt = _
    rw [BitVec.toInt_eq_toNat_of_lt (by omega)]
  obtain ⟨k, hk⟩ := own_fin (ush z 28) 16 (by omega) (by omega)
  rw [hk]; clear h1 h2 h3 hk; revert k; decide
theorem fnd_in (xs : List Int64) (n : Int32) (k : Nat) (s r : Int32) (hs : s ∈ sixteen) (h : fnd xs n k s = some r) : r ∈ sixteen ∧ (ga xs r = -1 ∨ ga xs r ≠ -1 ∧ nd (ga xs r) = n) := by
  induction k generalizing s with
  | zero => cases h
  | succ k ih =>
    unfold fnd at h
    split at h
    · rename_i c; cases h; exact ⟨hs, Or.inl c⟩
    · rename_i c
      split at h
      · rename_i c2; cases h; exact ⟨hs, Or.inr ⟨c, c2⟩⟩
      · exact ih _ (S0 _ hs).2.2 h
theorem fnd_some (xs : List Int64) (n : Int32) (j k : Nat) (s : Int32) (hj : j < k) (h : ga xs (nxk j s) = -1) : ∃ r, fnd xs n k s = some r := by
  induction j generalizing k s with
  | zero => obtain ⟨k, rfl⟩ : ∃ q, k = q + 1 := ⟨k - 1, by omega⟩; exact ⟨s, by unfold fnd; rw [if_pos (show ga xs s = -1 from h)]⟩
  | succ j ih =>
    obtain ⟨k, rfl⟩ : ∃ q, k = q + 1 := ⟨k - 1, by omega⟩
    unfold fnd
    split
    · exact ⟨_, rfl⟩
    · split
      · exact ⟨_, rfl⟩
      · exact ih k (nx s) (by omega) h
theorem ga_set (xs : List Int64) (r s : Int32) (e : Int64) (hl : xs.length = 16) (hr : r ∈ sixteen) (hs : s ∈ sixteen) : ga (xs.set (r).toNatClampNeg e) s = if s = r then e else ga xs s := by
  unfold ga
  simp only [List.getD_eq_getElem?_getD, List.getElem?_set]
  have := (S0 r hr).2.1
  by_cases c : s = r
  · subst c; simp [hl, this]
  · have c2 : ¬ r.toNatClampNeg = s.toNatClampNeg := fun q => c (S1 r hr s hs q).symm
    simp [c, c2]
theorem fnd_take (xs : List Int64) (r : Int32) (e : Int64) (m : Int32) (hl : xs.length = 16) (hr : r ∈ sixteen) (hf : ga xs r = -1) (he : e ≠ -1) (k : Nat) (s q : Int32) (hs : s ∈ sixteen) (h : fnd xs m k s = some q) (hq : q ≠ r ∨ nd e = m) : fnd (xs.set (r).toNatClampNeg e) m k s = some q := by
  induction k generalizing s with
  | zero => cases h
  | succ k ih =>
    unfold fnd at h ⊢
    rw [ga_set xs r s e hl hr hs]
    by_cases c : s = r
    · subst c
      rw [if_pos hf] at h; cases h
      rw [if_pos rfl, if_neg he, if_pos (hq.resolve_left (fun z => z rfl))]
    · rw [if_neg c]
      split at h
      · rename_i c1; rw [if_pos c1]; exact h
      · rename_i c1
        rw [if_neg c1]
        split at h
        · rename_i c2; rw [if_pos c2]; exact h
        · rename_i c2; rw [if_neg c2]; exact ih _ (S0 _ hs).2.2 h
theorem fnd_upd (xs : List Int64) (r : Int32) (e : Int64) (m : Int32) (hl : xs.length = 16) (hr : r ∈ sixteen) (hf : ga xs r ≠ -1) (he : e ≠ -1) (hn : nd e = nd (ga xs r)) (k : Nat) (s : Int32) (hs : s ∈ sixteen) : fnd (xs.set (r).toNatClampNeg e) m k s = fnd xs m k s := by
  induction k generalizing s with
  | zero => rfl
  | succ k ih =>
    unfold fnd
    rw [ga_set xs r s e hl hr hs, ih _ (S0 _ hs).2.2]
    by_cases c : s = r
    · subst c; rw [if_pos rfl, if_neg he, if_neg hf, hn]
    · rw [if_neg c]
def Inv (hm : Int32 → Int32) (xs : List Int64) (ns : List Int32) : Prop :=
  xs.length = 16 ∧ (∃ F : List Int32, F.Nodup ∧ 16 ≤ F.length + ns.length ∧ (∀ f ∈ F, f ∈ sixteen ∧ ga xs f = -1)) ∧ (∀ q ∈ sixteen, ga xs q ≠ -1 → nd (ga xs q) ∈ ns ∧ fnd xs (nd (ga xs q)) 17 (hm (nd (ga xs q))) = some q) ∧ (∀ m ∈ ns, ∃ q ∈ sixteen, ga xs q ≠ -1 ∧ nd (ga xs q) = m)
theorem Inv.len {hm : Int32 → Int32} {xs : List Int64} {ns : List Int32} (I : Inv hm xs ns) : xs.length = 16 := I.1
theorem Inv.free {hm : Int32 → Int32} {xs : List Int64} {ns : List Int32} (I : Inv hm xs ns) : ∃ F : List Int32, F.Nodup ∧ 16 ≤ F.length + ns.length ∧ (∀ f ∈ F, f ∈ sixteen ∧ ga xs f = -1) := I.2.1
theorem Inv.held {hm : Int32 → Int32} {xs : List Int64} {ns : List Int32} (I : Inv hm xs ns) : ∀ q ∈ sixteen, ga xs q ≠ -1 → nd (ga xs q) ∈ ns ∧ fnd xs (nd (ga xs q)) 17 (hm (nd (ga xs q))) = some q := I.2.2.1
theorem Inv.has {hm : Int32 → Int32} {xs : List Int64} {ns : List Int32} (I : Inv hm xs ns) : ∀ m ∈ ns, ∃ q ∈ sixteen, ga xs q ≠ -1 ∧ nd (ga xs q) = m := I.2.2.2
theorem inv_find {hm : Int32 → Int32} (hh : ∀ n, hm n ∈ sixteen) {xs : List Int64} {ns : List Int32} (I : Inv hm xs ns) (hc : ns.length < 16) (n : Int32) : ∃ r ∈ sixteen, fnd xs n 17 (hm n) = some r ∧ (ga xs r = -1 ∧ n ∉ ns ∨ ga xs r ≠ -1 ∧ nd (ga xs r) = n ∧ n ∈ ns) := by
  obtain ⟨F, -, hF, hF2⟩ := I.free
  obtain ⟨f, hf⟩ : ∃ f, f ∈ F := by
    cases F with
    | nil => simp at hF; omega
    | cons f F => exact ⟨f, List.mem_cons_self ..⟩
  obtain ⟨f1, f2⟩ := hF2 f hf
  obtain ⟨j, hj⟩ := S2 _ (hh n) _ f1
  obtain ⟨r, hr⟩ := fnd_some xs n j.val 17 (hm n) (by omega) (by rw [hj]; exact f2)
  obtain ⟨r1, r2⟩ := fnd_in xs n 17 _ r (hh n) hr
  refine ⟨r, r1, hr, ?_⟩
  rcases r2 with c | ⟨c, d⟩
  · refine Or.inl ⟨c, fun hn => ?_⟩
    obtain ⟨q, q1, q2, q3⟩ := I.has n hn
    have := (I.held q q1 q2).2
    rw [q3, hr] at this
    cases this; exact q2 c
  · exact Or.inr ⟨c, d, by rw [← d]; exact (I.held r r1 c).1⟩
theorem inv_take {hm : Int32 → Int32} (hh : ∀ n, hm n ∈ sixteen) {xs : List Int64} {ns : List Int32} (I : Inv hm xs ns) (n r : Int32) (e : Int64) (hr : r ∈ sixteen) (hf : fnd xs n 17 (hm n) = some r) (hv : ga xs r = -1) (hn : n ∉ ns) (he : e ≠ -1) (hd : nd e = n) : Inv hm (xs.set (r).toNatClampNeg e) (n :: ns) := by
  refine ⟨by rw [List.length_set]; exact I.len, ?_, ?_, ?_⟩
  · obtain ⟨F, h1, h2, h3⟩ := I.free
    refine ⟨F.erase r, h1.erase r, ?_, ?_⟩
    · rw [List.length_erase, List.length_cons]; split <;> omega
    · intro f hf
      obtain ⟨a, b⟩ := h1.mem_erase_iff.mp hf
      refine ⟨(h3 f b).1, ?_⟩
      rw [ga_set xs r f e I.len hr (h3 f b).1, if_neg a]; exact (h3 f b).2
  · intro q hq hv2
    rw [ga_set xs r q e I.len hr hq] at hv2 ⊢
    by_cases c : q = r
    · subst c
      rw [if_pos rfl, hd]
      exact ⟨List.mem_cons_self .., fnd_take xs q e n I.len hr hv he 17 _ q (hh _) hf (Or.inr hd)⟩
    · rw [if_neg c] at hv2 ⊢
      obtain ⟨a, b⟩ := I.held q hq hv2
      exact ⟨List.mem_cons_of_mem _ a, fnd_take xs r e _ I.len hr hv he 17 _ q (hh _) b (Or.inl c)⟩
  · intro m hm'
    rcases List.mem_cons.mp hm' with c | c
    · subst c; exact ⟨r, hr, by rw [ga_set xs r r e I.len hr hr, if_pos rfl]; exact ⟨he, hd⟩⟩
    · obtain ⟨q, q1, q2, q3⟩ := I.has m c
      have c2 : q ≠ r := fun z => q2 (by rw [z]; exact hv)
      exact ⟨q, q1, by rw [ga_set xs r q e I.len hr q1, if_neg c2]; exact ⟨q2, q3⟩⟩
theorem inv_upd {hm : Int32 → Int32} (hh : ∀ n, hm n ∈ sixteen) {xs : List Int64} {ns : List Int32} (I : Inv hm xs ns) (r : Int32) (e : Int64) (hr : r ∈ sixteen) (hv : ga xs r ≠ -1) (he : e ≠ -1) (hd : nd e = nd (ga xs r)) : Inv hm (xs.set (r).toNatClampNeg e) ns := by
  refine ⟨by rw [List.length_set]; exact I.len, ?_, ?_, ?_⟩
  · obtain ⟨F, h1, h2, h3⟩ := I.free
    refine ⟨F, h1, h2, fun f hf => ⟨(h3 f hf).1, ?_⟩⟩
    have c : f ≠ r := fun z => hv (by rw [← z]; exact (h3 f hf).2)
    rw [ga_set xs r f e I.len hr (h3 f hf).1, if_neg c]; exact (h3 f hf).2
  · intro q hq hv2
    rw [fnd_upd xs r e _ I.len hr hv he hd 17 _ (hh _)]
    rw [ga_set xs r q e I.len hr hq] at hv2 ⊢
    by_cases c : q = r
    · subst c; rw [if_pos rfl, hd]; exact I.held q hq hv
    · rw [if_neg c] at hv2 ⊢; exact I.held q hq hv2
  · intro m hm'
    obtain ⟨q, q1, q2, q3⟩ := I.has m hm'
    refine ⟨q, q1, ?_⟩
    rw [ga_set xs r q e I.len hr q1]
    by_cases c : q = r
    · subst c; rw [if_pos rfl]; exact ⟨he, hd.trans q3⟩
    · rw [if_neg c]; exact ⟨q2, q3⟩
def x16 : List Int64 := [-1, -1, -1, -1, -1, -1, -1, -1, -1, -1, -1, -1, -1, -1, -1, -1]
theorem S3 : ∀ s ∈ sixteen, ga x16 s = -1 := by decide
theorem inv_0 (hm : Int32 → Int32) : Inv hm x16 [] := by
  refine ⟨rfl, ⟨sixteen, by decide, by decide, fun f hf => ⟨hf, S3 f hf⟩⟩, fun q hq h => absurd (S3 q hq) h, fun m h => absurd h (List.not_mem_nil)⟩
theorem nd_bv (e : Int64) : (nd e).toBitVec = (e.toBitVec >>> 32).setWidth 32 := by
  unfold nd
  have : (ushL e (32 : Int32)).toBitVec = e.toBitVec >>> 32 := by
    unfold ushL
    rw [UInt64.toBitVec_toInt64, UInt64.toBitVec_shiftRight, Int64.toBitVec_toUInt64, Int64.toBitVec_toUInt64, BitVec.ushiftRight_eq']
    rfl
  rw [← this, Int64.toBitVec_toInt32, BitVec.signExtend_eq_setWidth_of_le _ (by decide)]
theorem nd_bit (e : Int64) (i : Nat) (hi : i < 32) : (nd e).toBitVec.getLsbD i = e.toBitVec.getLsbD (32 + i) := by
  rw [nd_bv, BitVec.getLsbD_setWidth, BitVec.getLsbD_ushiftRight]; simp [hi]
def mkE (n v : Int32) : Int64 := (n.toInt64 <<< ((32 : Int32) &&& 0x3f).toInt64) ||| (v.toInt64 &&& (4294967295 : Int64))
def upE (e : Int64) (v : Int32) : Int64 := (e &&& (-4294967296 : Int64)) ||| (v.toInt64 &&& (4294967295 : Int64))
theorem lo_bit : ∀ i : Fin 32, (4294967295 : Int64).toBitVec.getLsbD (32 + i.val) = false ∧ (-4294967296 : Int64).toBitVec.getLsbD (32 + i.val) = true := by decide
theorem nd_mk (n v : Int32) : nd (mkE n v) = n := by
  apply Int32.toBitVec_inj.mp
  apply BitVec.eq_of_getLsbD_eq
  intro i hi
  rw [nd_bit _ _ hi]
  unfold mkE
  rw [Int64.toBitVec_or, BitVec.getLsbD_or, Int64.toBitVec_and, BitVec.getLsbD_and, (lo_bit ⟨i, hi⟩).1, Bool.and_false, Bool.or_false]
  have : (n.toInt64 <<< ((32 : Int32) &&& 0x3f).toInt64).toBitVec = n.toInt64.toBitVec <<< 32 := by
    rw [Int64.toBitVec_shiftLeft]; rfl
  rw [this, BitVec.getLsbD_shiftLeft]
  have e1 : n.toInt64.toBitVec = n.toBitVec.signExtend 64 := rfl
  rw [e1, show 32 + i - 32 = i by omega, BitVec.getLsbD_signExtend]
  have a1 : 32 + i < 64 := by omega
  have a2 : ¬ 32 + i < 32 := by omega
  have a3 : i < 64 := by omega
  simp [hi, a1, a2, a3]
theorem nd_up (e : Int64) (v : Int32) : nd (upE e v) = nd e := by
  apply Int32.toBitVec_inj.mp
  apply BitVec.eq_of_getLsbD_eq
  intro i hi
  rw [nd_bit _ _ hi, nd_bit _ _ hi]
  unfold upE
  rw [Int64.toBitVec_or, BitVec.getLsbD_or, Int64.toBitVec_and, BitVec.getLsbD_and, Int64.toBitVec_and, BitVec.getLsbD_and, (lo_bit ⟨i, hi⟩).1, (lo_bit ⟨i, hi⟩).2, Bool.and_false, Bool.or_false, Bool.and_true]
theorem nd_m1 : nd (-1) = -1 := by decide
theorem nd_ne (e : Int64) (n : Int32) (h : nd e = n) (hn : 0 ≤ n.toInt) : e ≠ -1 := by
  intro q; rw [q, nd_m1] at h; rw [← h] at hn; revert hn; decide
def nsP (ns : List Int32) (n v : Int32) : List Int32 := if n ∈ ns then ns else if v = 0 then ns else n :: ns
theorem nsP_le (ns : List Int32) (n v : Int32) : (nsP ns n v).length ≤ ns.length + 1 := by
  unfold nsP; split
  · omega
  · split
    · omega
    · simp
theorem fnd_1 {xs : List Int64} {n : Int32} {k : Nat} {s r : Int32} (h : fnd xs n (k + 1) s = some r) (c : xs.getD (s).toNatClampNeg 0 = (-1 : Int64)) : s = r := by
  unfold fnd at h; rw [if_pos (show ga xs s = -1 from c)] at h; exact Option.some.inj h
theorem fnd_2 {xs : List Int64} {n : Int32} {k : Nat} {s r : Int32} (h : fnd xs n (k + 1) s = some r) (c : ¬ xs.getD (s).toNatClampNeg 0 = (-1 : Int64)) (d : ((ushL (xs.getD (s).toNatClampNeg 0) (32 : Int32)).toInt32) = n) : s = r := by
  unfold fnd at h; rw [if_neg (show ¬ ga xs s = -1 from c), if_pos (show nd (ga xs s) = n from d)] at h; exact Option.some.inj h
theorem fnd_3 {xs : List Int64} {n : Int32} {k : Nat} {s r : Int32} (h : fnd xs n (k + 1) s = some r) (c : ¬ xs.getD (s).toNatClampNeg 0 = (-1 : Int64)) (d : ¬ ((ushL (xs.getD (s).toNatClampNeg 0) (32 : Int32)).toInt32) = n) : fnd xs n k ((s + (1 : Int32)) &&& (15 : Int32)) = some r := by
  unfold fnd at h; rw [if_neg (show ¬ ga xs s = -1 from c), if_neg (show ¬ nd (ga xs s) = n from d)] at h; exact h
def nsI (ns : List Int32) (n : Int32) : List Int32 := if n ∈ ns then ns else n :: ns
theorem own_suc (k : Nat) : Int32.ofNat k + (1 : Int32) = Int32.ofNat (k + 1) := by rw [Int32.ofNat_add]; rfl
theorem own_c3 (ns : List Int32) (c : Int32) (hc : c = Int32.ofNat ns.length) (h : ns.length ≤ 2) : c = (0 : Int32) ∨ c = (1 : Int32) ∨ c = (2 : Int32) := by
  subst hc
  have : ns.length = 0 ∨ ns.length = 1 ∨ ns.length = 2 := by omega
  rcases this with q | q | q <;> rw [q] <;> decide
def f_vi (xs : List Int64) (s : Int32) : Int32 := if xs.getD (s).toNatClampNeg 0 = (-1 : Int64) then (0 : Int32) else ((xs.getD (s).toNatClampNeg 0).toInt32)
def f_max (p1 : Int32) (p2 : Int32) : Int32 :=
  (if p1 < p2 then p2 else p1)
theorem d10_0 : decode jdk_29_method_65_code 0 = .ok (.iload_n 0, 1) := by decide +kernel
theorem d10_1 : decode jdk_29_method_65_code 1 = .ok (.iload_n 1, 1) := by decide +kernel
theorem d10_2 : decode jdk_29_method_65_code 2 = .ok (.if_icmp .lt 7, 3) := by decide +kernel
theorem d10_5 : decode jdk_29_method_65_code 5 = .ok (.iload_n 0, 1) := by decide +kernel
theorem d10_6 : decode jdk_29_method_65_code 6 = .ok (.goto 4, 3) := by decide +kernel
theorem d10_9 : decode jdk_29_method_65_code 9 = .ok (.iload_n 1, 1) := by decide +kernel
theorem d10_10 : decode jdk_29_method_65_code 10 = .ok (.ireturn, 1) := by decide +kernel
theorem ef_10 (m : MethodId) (p1 : Int32) (p2 : Int32) : entryFrame m #[(.int p1), (.int p2)] 2 = mkF m 0 #[.val (.int p1), .val (.int p2)] [] := by first | (simp [entryFrame, mkF, argsToLocals, Value.category]; done) | rfl
set_option maxRecDepth 65536 in
set_option maxHeartbeats 4000000 in
theorem rm10 (l : Launch) (Z : State) (a0 : Array Value) (hw : ∀ d ∈ tables_1, d.before a0 Z = true) (p1 : Int32) (p2 : Int32) (h0 : Heap) (n0 : Nat) (Z0 : n0 ≤ h0.size) :
    Con l Z (⟨"java/lang/Math", "max", "(II)I"⟩ : MethodName) jdk_29_method_65_code 2 (some .int) ({ frames := 0, cells := 0, slots := 0, locals := 0 } : Room) #[(.int p1), (.int p2)] h0 n0 (some (.int (f_max p1 p2))) (fun h => h = h0) := by
  refine con_of (Jvm.Free.JP.mathPlain rfl (by decide +kernel)) Z0 (fun m => ef_10 m p1 p2) ?_
  intro p e s m below meth c T0 X0
  refine w_iloadN X0 d10_0 rfl rfl ?_
  refine w_iloadN X0 d10_1 rfl rfl ?_
  suffices j4 : ∀ (T2 : State) (z1 : Int32), (Wk p l e ({ frames := 0, cells := 0, slots := 0, locals := 0 } : Room) s m #[(.int p1), (.int p2)] below meth c Z n0 (⟨"java/lang/Math", "max", "(II)I"⟩ : MethodName) jdk_29_method_65_code 2 (some .int) T2 0 0 h0) → (z1 = (if p1 < p2 then p2 else p1)) → Goes p e below (Done below s n0 ({ frames := 0, cells := 0, slots := 0, locals := 0 } : Room) (some (.int (f_max p1 p2))) (fun h => h = h0)) T2 m 10 #[.val (.int p1), .val (.int p2)] [(.int z1)] by
    refine w_icmp_lt X0 d10_2 (by decide) (pcT := 9) (pcF := 5) (by decide) rfl (fun c5 => ?_) (fun c5 => ?_)
    · refine w_iloadN X0 d10_9 rfl rfl ?_
      exact j4 _ _ X0 (by rw [if_pos c5])
    · refine w_iloadN X0 d10_5 rfl rfl ?_
      refine w_goto X0 d10_6 (by decide) (pc' := 10) (by decide) ?_
      exact j4 _ _ X0 (by rw [if_neg c5])
  intro T2 z1 X3 hz1
  exact w_ireturn X3 d10_10 (by subst hz1; unfold f_max; rfl) rfl (by decide) (by decide)
def f_min (p1 : Int32) (p2 : Int32) : Int32 :=
  (if p2 < p1 then p2 else p1)
theorem d20_0 : decode jdk_29_method_69_code 0 = .ok (.iload_n 0, 1) := by decide +kernel
theorem d20_1 : decode jdk_29_method_69_code 1 = .ok (.iload_n 1, 1) := by decide +kernel
theorem d20_2 : decode jdk_29_method_69_code 2 = .ok (.if_icmp .gt 7, 3) := by decide +kernel
theorem d20_5 : decode jdk_29_method_69_code 5 = .ok (.iload_n 0, 1) := by decide +kernel
theorem d20_6 : decode jdk_29_method_69_code 6 = .ok (.goto 4, 3) := by decide +kernel
theorem d20_9 : decode jdk_29_method_69_code 9 = .ok (.iload_n 1, 1) := by decide +kernel
theorem d20_10 : decode jdk_29_method_69_code 10 = .ok (.ireturn, 1) := by decide +kernel
theorem ef_20 (m : MethodId) (p1 : Int32) (p2 : Int32) : entryFrame m #[(.int p1), (.int p2)] 2 = mkF m 0 #[.val (.int p1), .val (.int p2)] [] := by first | (simp [entryFrame, mkF, argsToLocals, Value.category]; done) | rfl
set_option maxRecDepth 65536 in
set_option maxHeartbeats 4000000 in
theorem rm20 (l : Launch) (Z : State) (a0 : Array Value) (hw : ∀ d ∈ tables_1, d.before a0 Z = true) (p1 : Int32) (p2 : Int32) (h0 : Heap) (n0 : Nat) (Z0 : n0 ≤ h0.size) :
    Con l Z (⟨"java/lang/Math", "min", "(II)I"⟩ : MethodName) jdk_29_method_69_code 2 (some .int) ({ frames := 0, cells := 0, slots := 0, locals := 0 } : Room) #[(.int p1), (.int p2)] h0 n0 (some (.int (f_min p1 p2))) (fun h => h = h0) := by
  refine con_of (Jvm.Free.JP.mathPlain rfl (by decide +kernel)) Z0 (fun m => ef_20 m p1 p2) ?_
  intro p e s m below meth c T0 X0
  refine w_iloadN X0 d20_0 rfl rfl ?_
  refine w_iloadN X0 d20_1 rfl rfl ?_
  suffices j4 : ∀ (T2 : State) (z1 : Int32), (Wk p l e ({ frames := 0, cells := 0, slots := 0, locals := 0 } : Room) s m #[(.int p1), (.int p2)] below meth c Z n0 (⟨"java/lang/Math", "min", "(II)I"⟩ : MethodName) jdk_29_method_69_code 2 (some .int) T2 0 0 h0) → (z1 = (if p2 < p1 then p2 else p1)) → Goes p e below (Done below s n0 ({ frames := 0, cells := 0, slots := 0, locals := 0 } : Room) (some (.int (f_min p1 p2))) (fun h => h = h0)) T2 m 10 #[.val (.int p1), .val (.int p2)] [(.int z1)] by
    refine w_icmp_gt X0 d20_2 (by decide) (pcT := 9) (pcF := 5) (by decide) rfl (fun c5 => ?_) (fun c5 => ?_)
    · refine w_iloadN X0 d20_9 rfl rfl ?_
      exact j4 _ _ X0 (by rw [if_pos c5])
    · refine w_iloadN X0 d20_5 rfl rfl ?_
      refine w_goto X0 d20_6 (by decide) (pc' := 10) (by decide) ?_
      exact j4 _ _ X0 (by rw [if_neg c5])
  intro T2 z1 X3 hz1
  exact w_ireturn X3 d20_10 (by subst hz1; unfold f_min; rfl) rfl (by decide) (by decide)
def f_nlz (p1 : Int32) : Int32 :=
  if 0 < p1 then ((if (if (if (if p1 < (65536 : Int32) then p1 else (ush p1 (16 : Int32))) < (256 : Int32) then (if p1 < (65536 : Int32) then p1 else (ush p1 (16 : Int32))) else (ush (if p1 < (65536 : Int32) then p1 else (ush p1 (16 : Int32))) (8 : Int32))) < (16 : Int32) then (if (if p1 < (65536 : Int32) then p1 else (ush p1 (16 : Int32))) < (256 : Int32) then (if p1 < (65536 : Int32) then p1 else (ush p1 (16 : Int32))) else (ush (if p1 < (65536 : Int32) then p1 else (ush p1 (16 : Int32))) (8 : Int32))) else (ush (if (if p1 < (65536 : Int32) then p1 else (ush p1 (16 : Int32))) < (256 : Int32) then (if p1 < (65536 : Int32) then p1 else (ush p1 (16 : Int32))) else (ush (if p1 < (65536 : Int32) then p1 else (ush p1 (16 : Int32))) (8 : Int32))) (4 : Int32))) < (4 : Int32) then (if (if (if p1 < (65536 : Int32) then p1 else (ush p1 (16 : Int32))) < (256 : Int32) then (if p1 < (65536 : Int32) then p1 else (ush p1 (16 : Int32))) else (ush (if p1 < (65536 : Int32) then p1 else (ush p1 (16 : Int32))) (8 : Int32))) < (16 : Int32) then (if (if p1 < (65536 : Int32) then p1 else (ush p1 (16 : Int32))) < (256 : Int32) then (if p1 < (65536 : Int32) then (31 : Int32) else (15 : Int32)) else ((if p1 < (65536 : Int32) then (31 : Int32) else (15 : Int32)) + (-8 : Int32))) else ((if (if p1 < (65536 : Int32) then p1 else (ush p1 (16 : Int32))) < (256 : Int32) then (if p1 < (65536 : Int32) then (31 : Int32) else (15 : Int32)) else ((if p1 < (65536 : Int32) then (31 : Int32) else (15 : Int32)) + (-8 : Int32))) + (-4 : Int32))) else ((if (if (if p1 < (65536 : Int32) then p1 else (ush p1 (16 : Int32))) < (256 : Int32) then (if p1 < (65536 : Int32) then p1 else (ush p1 (16 : Int32))) else (ush (if p1 < (65536 : Int32) then p1 else (ush p1 (16 : Int32))) (8 : Int32))) < (16 : Int32) then (if (if p1 < (65536 : Int32) then p1 else (ush p1 (16 : Int32))) < (256 : Int32) then (if p1 < (65536 : Int32) then (31 : Int32) else (15 : Int32)) else ((if p1 < (65536 : Int32) then (31 : Int32) else (15 : Int32)) + (-8 : Int32))) else ((if (if p1 < (65536 : Int32) then p1 else (ush p1 (16 : Int32))) < (256 : Int32) then (if p1 < (65536 : Int32) then (31 : Int32) else (15 : Int32)) else ((if p1 < (65536 : Int32) then (31 : Int32) else (15 : Int32)) + (-8 : Int32))) + (-4 : Int32))) + (-2 : Int32))) - (ush (if (if (if (if p1 < (65536 : Int32) then p1 else (ush p1 (16 : Int32))) < (256 : Int32) then (if p1 < (65536 : Int32) then p1 else (ush p1 (16 : Int32))) else (ush (if p1 < (65536 : Int32) then p1 else (ush p1 (16 : Int32))) (8 : Int32))) < (16 : Int32) then (if (if p1 < (65536 : Int32) then p1 else (ush p1 (16 : Int32))) < (256 : Int32) then (if p1 < (65536 : Int32) then p1 else (ush p1 (16 : Int32))) else (ush (if p1 < (65536 : Int32) then p1 else (ush p1 (16 : Int32))) (8 : Int32))) else (ush (if (if p1 < (65536 : Int32) then p1 else (ush p1 (16 : Int32))) < (256 : Int32) then (if p1 < (65536 : Int32) then p1 else (ush p1 (16 : Int32))) else (ush (if p1 < (65536 : Int32) then p1 else (ush p1 (16 : Int32))) (8 : Int32))) (4 : Int32))) < (4 : Int32) then (if (if (if p1 < (65536 : Int32) then p1 else (ush p1 (16 : Int32))) < (256 : Int32) then (if p1 < (65536 : Int32) then p1 else (ush p1 (16 : Int32))) else (ush (if p1 < (65536 : Int32) then p1 else (ush p1 (16 : Int32))) (8 : Int32))) < (16 : Int32) then (if (if p1 < (65536 : Int32) then p1 else (ush p1 (16 : Int32))) < (256 : Int32) then (if p1 < (65536 : Int32) then p1 else (ush p1 (16 : Int32))) else (ush (if p1 < (65536 : Int32) then p1 else (ush p1 (16 : Int32))) (8 : Int32))) else (ush (if (if p1 < (65536 : Int32) then p1 else (ush p1 (16 : Int32))) < (256 : Int32) then (if p1 < (65536 : Int32) then p1 else (ush p1 (16 : Int32))) else (ush (if p1 < (65536 : Int32) then p1 else (ush p1 (16 : Int32))) (8 : Int32))) (4 : Int32))) else (ush (if (if (if p1 < (65536 : Int32) then p1 else (ush p1 (16 : Int32))) < (256 : Int32) then (if p1 < (65536 : Int32) then p1 else (ush p1 (16 : Int32))) else (ush (if p1 < (65536 : Int32) then p1 else (ush p1 (16 : Int32))) (8 : Int32))) < (16 : Int32) then (if (if p1 < (65536 : Int32) then p1 else (ush p1 (16 : Int32))) < (256 : Int32) then (if p1 < (65536 : Int32) then p1 else (ush p1 (16 : Int32))) else (ush (if p1 < (65536 : Int32) then p1 else (ush p1 (16 : Int32))) (8 : Int32))) else (ush (if (if p1 < (65536 : Int32) then p1 else (ush p1 (16 : Int32))) < (256 : Int32) then (if p1 < (65536 : Int32) then p1 else (ush p1 (16 : Int32))) else (ush (if p1 < (65536 : Int32) then p1 else (ush p1 (16 : Int32))) (8 : Int32))) (4 : Int32))) (2 : Int32))) (1 : Int32))) else (if p1 = 0 then (32 : Int32) else (0 : Int32))
theorem d12_0 : decode jdk_33_method_47_code 0 = .ok (.iload_n 0, 1) := by decide +kernel
theorem d12_1 : decode jdk_33_method_47_code 1 = .ok (.ifCond .gt 14, 3) := by decide +kernel
theorem d12_4 : decode jdk_33_method_47_code 4 = .ok (.iload_n 0, 1) := by decide +kernel
theorem d12_5 : decode jdk_33_method_47_code 5 = .ok (.ifCond .ne 8, 3) := by decide +kernel
theorem d12_8 : decode jdk_33_method_47_code 8 = .ok (.bipush 32, 2) := by decide +kernel
theorem d12_10 : decode jdk_33_method_47_code 10 = .ok (.goto 4, 3) := by decide +kernel
theorem d12_13 : decode jdk_33_method_47_code 13 = .ok (.iconst 0, 1) := by decide +kernel
theorem d12_14 : decode jdk_33_method_47_code 14 = .ok (.ireturn, 1) := by decide +kernel
theorem d12_15 : decode jdk_33_method_47_code 15 = .ok (.bipush 31, 2) := by decide +kernel
theorem d12_17 : decode jdk_33_method_47_code 17 = .ok (.istore_n 1, 1) := by decide +kernel
theorem d12_18 : decode jdk_33_method_47_code 18 = .ok (.iload_n 0, 1) := by decide +kernel
theorem d12_19 : decode jdk_33_method_47_code 19 = .ok (.ldc_w 264, 3) := by decide +kernel
theorem d12_22 : decode jdk_33_method_47_code 22 = .ok (.if_icmp .lt 11, 3) := by decide +kernel
theorem d12_25 : decode jdk_33_method_47_code 25 = .ok (.iinc 1 (-16), 3) := by decide +kernel
theorem d12_28 : decode jdk_33_method_47_code 28 = .ok (.iload_n 0, 1) := by decide +kernel
theorem d12_29 : decode jdk_33_method_47_code 29 = .ok (.bipush 16, 2) := by decide +kernel
theorem d12_31 : decode jdk_33_method_47_code 31 = .ok (.iushr, 1) := by decide +kernel
theorem d12_32 : decode jdk_33_method_47_code 32 = .ok (.istore_n 0, 1) := by decide +kernel
theorem d12_33 : decode jdk_33_method_47_code 33 = .ok (.iload_n 0, 1) := by decide +kernel
theorem d12_34 : decode jdk_33_method_47_code 34 = .ok (.sipush 256, 3) := by decide +kernel
theorem d12_37 : decode jdk_33_method_47_code 37 = .ok (.if_icmp .lt 11, 3) := by decide +kernel
theorem d12_40 : decode jdk_33_method_47_code 40 = .ok (.iinc 1 (-8), 3) := by decide +kernel
theorem d12_43 : decode jdk_33_method_47_code 43 = .ok (.iload_n 0, 1) := by decide +kernel
theorem d12_44 : decode jdk_33_method_47_code 44 = .ok (.bipush 8, 2) := by decide +kernel
theorem d12_46 : decode jdk_33_method_47_code 46 = .ok (.iushr, 1) := by decide +kernel
theorem d12_47 : decode jdk_33_method_47_code 47 = .ok (.istore_n 0, 1) := by decide +kernel
theorem d12_48 : decode jdk_33_method_47_code 48 = .ok (.iload_n 0, 1) := by decide +kernel
theorem d12_49 : decode jdk_33_method_47_code 49 = .ok (.bipush 16, 2) := by decide +kernel
theorem d12_51 : decode jdk_33_method_47_code 51 = .ok (.if_icmp .lt 10, 3) := by decide +kernel
theorem d12_54 : decode jdk_33_method_47_code 54 = .ok (.iinc 1 (-4), 3) := by decide +kernel
theorem d12_57 : decode jdk_33_method_47_code 57 = .ok (.iload_n 0, 1) := by decide +kernel
theorem d12_58 : decode jdk_33_method_47_code 58 = .ok (.iconst 4, 1) := by decide +kernel
theorem d12_59 : decode jdk_33_method_47_code 59 = .ok (.iushr, 1) := by decide +kernel
theorem d12_60 : decode jdk_33_method_47_code 60 = .ok (.istore_n 0, 1) := by decide +kernel
theorem d12_61 : decode jdk_33_method_47_code 61 = .ok (.iload_n 0, 1) := by decide +kernel
theorem d12_62 : decode jdk_33_method_47_code 62 = .ok (.iconst 4, 1) := by decide +kernel
theorem d12_63 : decode jdk_33_method_47_code 63 = .ok (.if_icmp .lt 10, 3) := by decide +kernel
theorem d12_66 : decode jdk_33_method_47_code 66 = .ok (.iinc 1 (-2), 3) := by decide +kernel
theorem d12_69 : decode jdk_33_method_47_code 69 = .ok (.iload_n 0, 1) := by decide +kernel
theorem d12_70 : decode jdk_33_method_47_code 70 = .ok (.iconst 2, 1) := by decide +kernel
theorem d12_71 : decode jdk_33_method_47_code 71 = .ok (.iushr, 1) := by decide +kernel
theorem d12_72 : decode jdk_33_method_47_code 72 = .ok (.istore_n 0, 1) := by decide +kernel
theorem d12_73 : decode jdk_33_method_47_code 73 = .ok (.iload_n 1, 1) := by decide +kernel
theorem d12_74 : decode jdk_33_method_47_code 74 = .ok (.iload_n 0, 1) := by decide +kernel
theorem d12_75 : decode jdk_33_method_47_code 75 = .ok (.iconst 1, 1) := by decide +kernel
theorem d12_76 : decode jdk_33_method_47_code 76 = .ok (.iushr, 1) := by decide +kernel
theorem d12_77 : decode jdk_33_method_47_code 77 = .ok (.isub, 1) := by decide +kernel
theorem d12_78 : decode jdk_33_method_47_code 78 = .ok (.ireturn, 1) := by decide +kernel
theorem pn_12 : plainName "java/lang/Integer" = true := by first | (simp [plainName, overriddenIn]; done) | decide +kernel
theorem ef_12 (m : MethodId) (p1 : Int32) : entryFrame m #[(.int p1)] 2 = mkF m 0 #[.val (.int p1), .unset] [] := by first | (simp [entryFrame, mkF, argsToLocals, Value.category]; done) | rfl
set_option maxRecDepth 65536 in
set_option maxHeartbeats 4000000 in
theorem rm12 (l : Launch) (Z : State) (a0 : Array Value) (hw : ∀ d ∈ tables_1, d.before a0 Z = true) (p1 : Int32) (h0 : Heap) (n0 : Nat) (Z0 : n0 ≤ h0.size) :
    Con l Z (⟨"java/lang/Integer", "numberOfLeadingZeros", "(I)I"⟩ : MethodName) jdk_33_method_47_code 2 (some .int) ({ frames := 0, cells := 0, slots := 0, locals := 0 } : Room) #[(.int p1)] h0 n0 (some (.int (f_nlz p1))) (fun h => h = h0) := by
  refine con_of (plainFor_of_name pn_12) Z0 (fun m => ef_12 m p1) ?_
  intro p e s m below meth c T0 X0
  refine w_iloadN X0 d12_0 rfl rfl ?_
  refine w_if_gt X0 d12_1 (by decide) (pcT := 15) (pcF := 4) (by decide) rfl (fun c1 => ?_) (fun c1 => ?_)
  · refine w_bipush X0 d12_15 (v := (31 : Int32)) rfl rfl ?_
    refine w_istoreN X0 d12_17 rfl (L' := #[.val (.int p1), .val (.int (31 : Int32))]) rfl ?_
    refine w_iloadN X0 d12_18 rfl rfl ?_
    refine w_ldcWInt X0 (hw _ (List.mem_of_getElem? (i := 65) rfl)) d12_19 rfl ?_
    suffices j6 : ∀ (T4 : State) (z2 : Int32) (z3 : Int32), (Wk p l e ({ frames := 0, cells := 0, slots := 0, locals := 0 } : Room) s m #[(.int p1)] below meth c Z n0 (⟨"java/lang/Integer", "numberOfLeadingZeros", "(I)I"⟩ : MethodName) jdk_33_method_47_code 2 (some .int) T4 0 0 h0) → (z2 = (if p1 < (65536 : Int32) then p1 else (ush p1 (16 : Int32)))) → (z3 = (if p1 < (65536 : Int32) then (31 : Int32) else (15 : Int32))) → Goes p e below (Done below s n0 ({ frames := 0, cells := 0, slots := 0, locals := 0 } : Room) (some (.int (f_nlz p1))) (fun h => h = h0)) T4 m 33 #[.val (.int z2), .val (.int z3)] [] by
      refine w_icmp_lt X0 d12_22 (by decide) (pcT := 33) (pcF := 25) (by decide) rfl (fun c7 => ?_) (fun c7 => ?_)
      · exact j6 _ _ _ X0 (by rw [if_pos c7]) (by rw [if_pos c7])
      · refine w_iinc X0 d12_25 rfl rfl (v' := (15 : Int32)) rfl (L' := #[.val (.int p1), .val (.int (15 : Int32))]) rfl ?_
        refine w_iloadN X0 d12_28 rfl rfl ?_
        refine w_bipush X0 d12_29 (v := (16 : Int32)) rfl rfl ?_
        refine w_iushr X0 d12_31 rfl ?_
        refine w_istoreN X0 d12_32 rfl (L' := #[.val (.int (ush p1 (16 : Int32))), .val (.int (15 : Int32))]) rfl ?_
        exact j6 _ _ _ X0 (by rw [if_neg c7]) (by rw [if_neg c7])
    intro T4 z2 z3 X5 hz2 hz3
    refine w_iloadN X5 d12_33 rfl rfl ?_
    refine w_sipush X5 d12_34 (v := (256 : Int32)) rfl rfl ?_
    suffices j12 : ∀ (T10 : State) (z8 : Int32) (z9 : Int32), (Wk p l e ({ frames := 0, cells := 0, slots := 0, locals := 0 } : Room) s m #[(.int p1)] below meth c Z n0 (⟨"java/lang/Integer", "numberOfLeadingZeros", "(I)I"⟩ : MethodName) jdk_33_method_47_code 2 (some .int) T10 0 0 h0) → (z8 = (if z2 < (256 : Int32) then z2 else (ush z2 (8 : Int32)))) → (z9 = (if z2 < (256 : Int32) then z3 else (z3 + (-8 : Int32)))) → Goes p e below (Done below s n0 ({ frames := 0, cells := 0, slots := 0, locals := 0 } : Room) (some (.int (f_nlz p1))) (fun h => h = h0)) T10 m 48 #[.val (.int z8), .val (.int z9)] [] by
      refine w_icmp_lt X5 d12_37 (by decide) (pcT := 48) (pcF := 40) (by decide) rfl (fun c13 => ?_) (fun c13 => ?_)
      · exact j12 _ _ _ X5 (by rw [if_pos c13]) (by rw [if_pos c13])
      · refine w_iinc X5 d12_40 rfl rfl (v' := (z3 + (-8 : Int32))) rfl (L' := #[.val (.int z2), .val (.int (z3 + (-8 : Int32)))]) rfl ?_
        refine w_iloadN X5 d12_43 rfl rfl ?_
        refine w_bipush X5 d12_44 (v := (8 : Int32)) rfl rfl ?_
        refine w_iushr X5 d12_46 rfl ?_
        refine w_istoreN X5 d12_47 rfl (L' := #[.val (.int (ush z2 (8 : Int32))), .val (.int (z3 + (-8 : Int32)))]) rfl ?_
        exact j12 _ _ _ X5 (by rw [if_neg c13]) (by rw [if_neg c13])
    intro T10 z8 z9 X11 hz8 hz9
    refine w_iloadN X11 d12_48 rfl rfl ?_
    refine w_bipush X11 d12_49 (v := (16 : Int32)) rfl rfl ?_
    suffices j18 : ∀ (T16 : State) (z14 : Int32) (z15 : Int32), (Wk p l e ({ frames := 0, cells := 0, slots := 0, locals := 0 } : Room) s m #[(.int p1)] below meth c Z n0 (⟨"java/lang/Integer", "numberOfLeadingZeros", "(I)I"⟩ : MethodName) jdk_33_method_47_code 2 (some .int) T16 0 0 h0) → (z14 = (if z8 < (16 : Int32) then z8 else (ush z8 (4 : Int32)))) → (z15 = (if z8 < (16 : Int32) then z9 else (z9 + (-4 : Int32)))) → Goes p e below (Done below s n0 ({ frames := 0, cells := 0, slots := 0, locals := 0 } : Room) (some (.int (f_nlz p1))) (fun h => h = h0)) T16 m 61 #[.val (.int z14), .val (.int z15)] [] by
      refine w_icmp_lt X11 d12_51 (by decide) (pcT := 61) (pcF := 54) (by decide) rfl (fun c19 => ?_) (fun c19 => ?_)
      · exact j18 _ _ _ X11 (by rw [if_pos c19]) (by rw [if_pos c19])
      · refine w_iinc X11 d12_54 rfl rfl (v' := (z9 + (-4 : Int32))) rfl (L' := #[.val (.int z8), .val (.int (z9 + (-4 : Int32)))]) rfl ?_
        refine w_iloadN X11 d12_57 rfl rfl ?_
        refine w_iconst X11 d12_58 (v := (4 : Int32)) rfl rfl ?_
        refine w_iushr X11 d12_59 rfl ?_
        refine w_istoreN X11 d12_60 rfl (L' := #[.val (.int (ush z8 (4 : Int32))), .val (.int (z9 + (-4 : Int32)))]) rfl ?_
        exact j18 _ _ _ X11 (by rw [if_neg c19]) (by rw [if_neg c19])
    intro T16 z14 z15 X17 hz14 hz15
    refine w_iloadN X17 d12_61 rfl rfl ?_
    refine w_iconst X17 d12_62 (v := (4 : Int32)) rfl rfl ?_
    suffices j24 : ∀ (T22 : State) (z20 : Int32) (z21 : Int32), (Wk p l e ({ frames := 0, cells := 0, slots := 0, locals := 0 } : Room) s m #[(.int p1)] below meth c Z n0 (⟨"java/lang/Integer", "numberOfLeadingZeros", "(I)I"⟩ : MethodName) jdk_33_method_47_code 2 (some .int) T22 0 0 h0) → (z20 = (if z14 < (4 : Int32) then z14 else (ush z14 (2 : Int32)))) → (z21 = (if z14 < (4 : Int32) then z15 else (z15 + (-2 : Int32)))) → Goes p e below (Done below s n0 ({ frames := 0, cells := 0, slots := 0, locals := 0 } : Room) (some (.int (f_nlz p1))) (fun h => h = h0)) T22 m 73 #[.val (.int z20), .val (.int z21)] [] by
      refine w_icmp_lt X17 d12_63 (by decide) (pcT := 73) (pcF := 66) (by decide) rfl (fun c25 => ?_) (fun c25 => ?_)
      · exact j24 _ _ _ X17 (by rw [if_pos c25]) (by rw [if_pos c25])
      · refine w_iinc X17 d12_66 rfl rfl (v' := (z15 + (-2 : Int32))) rfl (L' := #[.val (.int z14), .val (.int (z15 + (-2 : Int32)))]) rfl ?_
        refine w_iloadN X17 d12_69 rfl rfl ?_
        refine w_iconst X17 d12_70 (v := (2 : Int32)) rfl rfl ?_
        refine w_iushr X17 d12_71 rfl ?_
        refine w_istoreN X17 d12_72 rfl (L' := #[.val (.int (ush z14 (2 : Int32))), .val (.int (z15 + (-2 : Int32)))]) rfl ?_
        exact j24 _ _ _ X17 (by rw [if_neg c25]) (by rw [if_neg c25])
    intro T22 z20 z21 X23 hz20 hz21
    refine w_iloadN X23 d12_73 rfl rfl ?_
    refine w_iloadN X23 d12_74 rfl rfl ?_
    refine w_iconst X23 d12_75 (v := (1 : Int32)) rfl rfl ?_
    refine w_iushr X23 d12_76 rfl ?_
    refine w_isub X23 d12_77 rfl ?_
    exact w_ireturn X23 d12_78 (by subst hz21 hz20 hz15 hz14 hz9 hz8 hz3 hz2; unfold f_nlz; rw [if_pos c1]) rfl (by decide) (by decide)
  · refine w_iloadN X0 d12_4 rfl rfl ?_
    suffices j29 : ∀ (T27 : State) (z26 : Int32), (Wk p l e ({ frames := 0, cells := 0, slots := 0, locals := 0 } : Room) s m #[(.int p1)] below meth c Z n0 (⟨"java/lang/Integer", "numberOfLeadingZeros", "(I)I"⟩ : MethodName) jdk_33_method_47_code 2 (some .int) T27 0 0 h0) → (z26 = (if p1 = 0 then (32 : Int32) else (0 : Int32))) → Goes p e below (Done below s n0 ({ frames := 0, cells := 0, slots := 0, locals := 0 } : Room) (some (.int (f_nlz p1))) (fun h => h = h0)) T27 m 14 #[.val (.int p1), .unset] [(.int z26)] by
      refine w_if_ne X0 d12_5 (by decide) (pcT := 13) (pcF := 8) (by decide) rfl (fun c30 => ?_) (fun c30 => ?_)
      · refine w_iconst X0 d12_13 (v := (0 : Int32)) rfl rfl ?_
        exact j29 _ _ X0 (by rw [if_neg c30])
      · refine w_bipush X0 d12_8 (v := (32 : Int32)) rfl rfl ?_
        refine w_goto X0 d12_10 (by decide) (pc' := 14) (by decide) ?_
        exact j29 _ _ X0 (by rw [if_pos c30])
    intro T27 z26 X28 hz26
    exact w_ireturn X28 d12_14 (by subst hz26; unfold f_nlz; rw [if_neg c1]) rfl (by decide) (by decide)
def f_hob (p1 : Int32) : Int32 :=
  (p1 &&& (ush (-2147483648 : Int32) (f_nlz p1)))
theorem d11_0 : decode jdk_33_method_45_code 0 = .ok (.iload_n 0, 1) := by decide +kernel
theorem d11_1 : decode jdk_33_method_45_code 1 = .ok (.ldc 127, 2) := by decide +kernel
theorem d11_3 : decode jdk_33_method_45_code 3 = .ok (.iload_n 0, 1) := by decide +kernel
theorem d11_4 : decode jdk_33_method_45_code 4 = .ok (.invokestatic 51, 3) := by decide +kernel
theorem d11_7 : decode jdk_33_method_45_code 7 = .ok (.iushr, 1) := by decide +kernel
theorem d11_8 : decode jdk_33_method_45_code 8 = .ok (.iand, 1) := by decide +kernel
theorem d11_9 : decode jdk_33_method_45_code 9 = .ok (.ireturn, 1) := by decide +kernel
theorem pd_0 : parseMethodDescriptor "(I)I" = some ⟨[.int], some .int⟩ := by decide +kernel
theorem pn_11 : plainName "java/lang/Integer" = true := by first | (simp [plainName, overriddenIn]; done) | decide +kernel
theorem ef_11 (m : MethodId) (p1 : Int32) : entryFrame m #[(.int p1)] 1 = mkF m 0 #[.val (.int p1)] [] := by first | (simp [entryFrame, mkF, argsToLocals, Value.category]; done) | rfl
set_option maxRecDepth 65536 in
set_option maxHeartbeats 4000000 in
theorem rm11 (l : Launch) (Z : State) (a0 : Array Value) (hw : ∀ d ∈ tables_1, d.before a0 Z = true) (p1 : Int32) (h0 : Heap) (n0 : Nat) (Z0 : n0 ≤ h0.size) :
    Con l Z (⟨"java/lang/Integer", "highestOneBit", "(I)I"⟩ : MethodName) jdk_33_method_45_code 1 (some .int) ({ frames := 1, cells := 0, slots := 0, locals := 15 } : Room) #[(.int p1)] h0 n0 (some (.int (f_hob p1))) (fun h => h = h0) := by
  refine con_of (plainFor_of_name pn_11) Z0 (fun m => ef_11 m p1) ?_
  intro p e s m below meth c T0 X0
  refine w_iloadN X0 d11_0 rfl rfl ?_
  refine w_ldcInt X0 (hw _ (List.mem_of_getElem? (i := 61) rfl)) d11_1 rfl ?_
  refine w_iloadN X0 d11_3 rfl rfl ?_
  refine w_staticVP X0 (rm12 l Z a0 hw p1 h0 n0 X0.size ) (hw _ (List.mem_of_getElem? (i := 62) rfl)) (hw _ (List.mem_of_getElem? (i := 63) rfl)) (hw _ (List.mem_of_getElem? (i := 59) rfl)) (hw _ (List.mem_of_getElem? (i := 64) rfl)) (by decide) (argsL := [(.int p1)]) (rest := [(.int (-2147483648 : Int32)), (.int p1)]) rfl (lenOf pd_0 rfl) rfl (W := 2) rfl (by decide) (by decide) (by decide) (by decide) d11_4 rfl fun T1 X2 => ?_
  refine w_iushr X2 d11_7 rfl ?_
  refine w_iand X2 d11_8 rfl ?_
  exact w_ireturn X2 d11_9 (by unfold f_hob; rfl) rfl (by decide) (by decide)
def f_small (p1 : Int32) : Int32 :=
  if (65536 : Int64) < ((4 : Int64) * (p1.toInt64)) then (0 : Int32) else (1 : Int32)
theorem d3_0 : decode prog_79_method_27_code 0 = .ok (.ldc2_w 148, 3) := by decide +kernel
theorem d3_3 : decode prog_79_method_27_code 3 = .ok (.iload_n 0, 1) := by decide +kernel
theorem d3_4 : decode prog_79_method_27_code 4 = .ok (.i2l, 1) := by decide +kernel
theorem d3_5 : decode prog_79_method_27_code 5 = .ok (.lmul, 1) := by decide +kernel
theorem d3_6 : decode prog_79_method_27_code 6 = .ok (.ldc2_w 150, 3) := by decide +kernel
theorem d3_9 : decode prog_79_method_27_code 9 = .ok (.lcmp, 1) := by decide +kernel
theorem d3_10 : decode prog_79_method_27_code 10 = .ok (.ifCond .gt 7, 3) := by decide +kernel
theorem d3_13 : decode prog_79_method_27_code 13 = .ok (.iconst 1, 1) := by decide +kernel
theorem d3_14 : decode prog_79_method_27_code 14 = .ok (.goto 4, 3) := by decide +kernel
theorem d3_17 : decode prog_79_method_27_code 17 = .ok (.iconst 0, 1) := by decide +kernel
theorem d3_18 : decode prog_79_method_27_code 18 = .ok (.ireturn, 1) := by decide +kernel
theorem pn_3 : plainName "com/example/driftwalk/driftwalk/graph/NodeTable" = true := by first | (simp [plainName, overriddenIn]; done) | decide +kernel
theorem ef_3 (m : MethodId) (p1 : Int32) : entryFrame m #[(.int p1)] 1 = mkF m 0 #[.val (.int p1)] [] := by first | (simp [entryFrame, mkF, argsToLocals, Value.category]; done) | rfl
set_option maxRecDepth 65536 in
set_option maxHeartbeats 4000000 in
theorem rm3 (l : Launch) (Z : State) (a0 : Array Value) (hw : ∀ d ∈ tables_1, d.before a0 Z = true) (p1 : Int32) (h0 : Heap) (n0 : Nat) (Z0 : n0 ≤ h0.size) :
    Con l Z (⟨"com/example/driftwalk/driftwalk/graph/NodeTable", "isSmall", "(I)Z"⟩ : MethodName) prog_79_method_27_code 1 (some .boolean) ({ frames := 0, cells := 0, slots := 0, locals := 0 } : Room) #[(.int p1)] h0 n0 (some (.int (f_small p1))) (fun h => h = h0) := by
  refine con_of (plainFor_of_name pn_3) Z0 (fun m => ef_3 m p1) ?_
  intro p e s m below meth c T0 X0
  refine w_ldc2Long X0 (hw _ (List.mem_of_getElem? (i := 17) rfl)) d3_0 rfl ?_
  refine w_iloadN X0 d3_3 rfl rfl ?_
  refine w_i2l X0 d3_4 rfl ?_
  refine w_lmul X0 d3_5 rfl ?_
  refine w_ldc2Long X0 (hw _ (List.mem_of_getElem? (i := 18) rfl)) d3_6 rfl ?_
  refine w_lcmp_gt X0 d3_9 rfl d3_10 (by decide) (pcT := 17) (pcF := 13) (by decide) rfl (fun c1 => ?_) (fun c1 => ?_)
  · refine w_iconst X0 d3_17 (v := (0 : Int32)) rfl rfl ?_
    exact w_nreturn X0 (t := .boolean) (by simp) d3_18 (by unfold f_small; rw [if_pos c1]; rfl) rfl (by decide) (by decide)
  · refine w_iconst X0 d3_13 (v := (1 : Int32)) rfl rfl ?_
    refine w_goto X0 d3_14 (by decide) (pc' := 18) (by decide) ?_
    exact w_nreturn X0 (t := .boolean) (by simp) d3_18 (by unfold f_small; rw [if_neg c1]; rfl) rfl (by decide) (by decide)
def f_home (p1 : Int32) (p2 : Int32) : Int32 :=
  (ush (p1 * (-1640531527 : Int32)) (f_nlz p2))
theorem d17_0 : decode prog_79_method_33_code 0 = .ok (.iload_n 0, 1) := by decide +kernel
theorem d17_1 : decode prog_79_method_33_code 1 = .ok (.ldc 177, 2) := by decide +kernel
theorem d17_3 : decode prog_79_method_33_code 3 = .ok (.imul, 1) := by decide +kernel
theorem d17_4 : decode prog_79_method_33_code 4 = .ok (.iload_n 1, 1) := by decide +kernel
theorem d17_5 : decode prog_79_method_33_code 5 = .ok (.invokestatic 178, 3) := by decide +kernel
theorem d17_8 : decode prog_79_method_33_code 8 = .ok (.iushr, 1) := by decide +kernel
theorem d17_9 : decode prog_79_method_33_code 9 = .ok (.ireturn, 1) := by decide +kernel
theorem pn_17 : plainName "com/example/driftwalk/driftwalk/graph/NodeTable" = true := by first | (simp [plainName, overriddenIn]; done) | decide +kernel
theorem ef_17 (m : MethodId) (p1 : Int32) (p2 : Int32) : entryFrame m #[(.int p1), (.int p2)] 2 = mkF m 0 #[.val (.int p1), .val (.int p2)] [] := by first | (simp [entryFrame, mkF, argsToLocals, Value.category]; done) | rfl
set_option maxRecDepth 65536 in
set_option maxHeartbeats 4000000 in
theorem rm17 (l : Launch) (Z : State) (a0 : Array Value) (hw : ∀ d ∈ tables_1, d.before a0 Z = true) (p1 : Int32) (p2 : Int32) (h0 : Heap) (n0 : Nat) (Z0 : n0 ≤ h0.size) :
    Con l Z (⟨"com/example/driftwalk/driftwalk/graph/NodeTable", "home", "(II)I"⟩ : MethodName) prog_79_method_33_code 2 (some .int) ({ frames := 1, cells := 0, slots := 0, locals := 14 } : Room) #[(.int p1), (.int p2)] h0 n0 (some (.int (f_home p1 p2))) (fun h => h = h0) := by
  refine con_of (plainFor_of_name pn_17) Z0 (fun m => ef_17 m p1 p2) ?_
  intro p e s m below meth c T0 X0
  refine w_iloadN X0 d17_0 rfl rfl ?_
  refine w_ldcInt X0 (hw _ (List.mem_of_getElem? (i := 92) rfl)) d17_1 rfl ?_
  refine w_imul X0 d17_3 rfl ?_
  refine w_iloadN X0 d17_4 rfl rfl ?_
  refine w_staticVP X0 (rm12 l Z a0 hw p2 h0 n0 X0.size ) (hw _ (List.mem_of_getElem? (i := 93) rfl)) (hw _ (List.mem_of_getElem? (i := 63) rfl)) (hw _ (List.mem_of_getElem? (i := 59) rfl)) (hw _ (List.mem_of_getElem? (i := 64) rfl)) (by decide) (argsL := [(.int p2)]) (rest := [(.int (p1 * (-1640531527 : Int32)))]) rfl (lenOf pd_0 rfl) rfl (W := 1) rfl (by decide) (by decide) (by decide) (by decide) d17_5 rfl fun T1 X2 => ?_
  refine w_iushr X2 d17_8 rfl ?_
  exact w_ireturn X2 d17_9 (by unfold f_home; rfl) rfl (by decide) (by decide)
def f_one (p1 : Int32) : Int32 :=
  (if p1 = 0 then (0 : Int32) else (1 : Int32))
theorem d7_0 : decode method_2_code 0 = .ok (.iload_n 0, 1) := by decide +kernel
theorem d7_1 : decode method_2_code 1 = .ok (.ifCond .eq 7, 3) := by decide +kernel
theorem d7_4 : decode method_2_code 4 = .ok (.iconst 1, 1) := by decide +kernel
theorem d7_5 : decode method_2_code 5 = .ok (.goto 4, 3) := by decide +kernel
theorem d7_8 : decode method_2_code 8 = .ok (.iconst 0, 1) := by decide +kernel
theorem d7_9 : decode method_2_code 9 = .ok (.ireturn, 1) := by decide +kernel
theorem pn_7 : plainName "com/example/driftwalk/driftwalk/graph/NodeTableSizePinLaw" = true := by first | (simp [plainName, overriddenIn]; done) | decide +kernel
theorem ef_7 (m : MethodId) (p1 : Int32) : entryFrame m #[(.int p1)] 1 = mkF m 0 #[.val (.int p1)] [] := by first | (simp [entryFrame, mkF, argsToLocals, Value.category]; done) | rfl
set_option maxRecDepth 65536 in
set_option maxHeartbeats 4000000 in
theorem rm7 (l : Launch) (Z : State) (a0 : Array Value) (hw : ∀ d ∈ tables_1, d.before a0 Z = true) (p1 : Int32) (h0 : Heap) (n0 : Nat) (Z0 : n0 ≤ h0.size) :
    Con l Z (⟨"com/example/driftwalk/driftwalk/graph/NodeTableSizePinLaw", "one", "(Z)I"⟩ : MethodName) method_2_code 1 (some .int) ({ frames := 0, cells := 0, slots := 0, locals := 0 } : Room) #[(.int p1)] h0 n0 (some (.int (f_one p1))) (fun h => h = h0) := by
  refine con_of (plainFor_of_name pn_7) Z0 (fun m => ef_7 m p1) ?_
  intro p e s m below meth c T0 X0
  refine w_iloadN X0 d7_0 rfl rfl ?_
  suffices j4 : ∀ (T2 : State) (z1 : Int32), (Wk p l e ({ frames := 0, cells := 0, slots := 0, locals := 0 } : Room) s m #[(.int p1)] below meth c Z n0 (⟨"com/example/driftwalk/driftwalk/graph/NodeTableSizePinLaw", "one", "(Z)I"⟩ : MethodName) method_2_code 1 (some .int) T2 0 0 h0) → (z1 = (if p1 = 0 then (0 : Int32) else (1 : Int32))) → Goes p e below (Done below s n0 ({ frames := 0, cells := 0, slots := 0, locals := 0 } : Room) (some (.int (f_one p1))) (fun h => h = h0)) T2 m 9 #[.val (.int p1)] [(.int z1)] by
    refine w_if_eq X0 d7_1 (by decide) (pcT := 8) (pcF := 4) (by decide) rfl (fun c5 => ?_) (fun c5 => ?_)
    · refine w_iconst X0 d7_8 (v := (0 : Int32)) rfl rfl ?_
      exact j4 _ _ X0 (by rw [if_pos c5])
    · refine w_iconst X0 d7_4 (v := (1 : Int32)) rfl rfl ?_
      refine w_goto X0 d7_5 (by decide) (pc' := 9) (by decide) ?_
      exact j4 _ _ X0 (by rw [if_neg c5])
  intro T2 z1 X3 hz1
  exact w_ireturn X3 d7_9 (by subst hz1; unfold f_one; rfl) rfl (by decide) (by decide)
theorem nlz15 : f_nlz (15 : Int32) = (28 : Int32) := by decide +kernel
def hmn (n : Int32) : Int32 := f_home n (15 : Int32)
theorem hh (n : Int32) : hmn n ∈ sixteen := by unfold hmn f_home; exact S16 _ _ nlz15
theorem d9_0 : decode prog_79_method_32_code 0 = .ok (.ldc2_w 118, 3) := by decide +kernel
theorem d9_3 : decode prog_79_method_32_code 3 = .ok (.iload_n 0, 1) := by decide +kernel
theorem d9_4 : decode prog_79_method_32_code 4 = .ok (.i2l, 1) := by decide +kernel
theorem d9_5 : decode prog_79_method_32_code 5 = .ok (.lmul, 1) := by decide +kernel
theorem d9_6 : decode prog_79_method_32_code 6 = .ok (.ldc2_w 165, 3) := by decide +kernel
theorem d9_9 : decode prog_79_method_32_code 9 = .ok (.lcmp, 1) := by decide +kernel
theorem d9_10 : decode prog_79_method_32_code 10 = .ok (.ifCond .le 13, 3) := by decide +kernel
theorem d9_23 : decode prog_79_method_32_code 23 = .ok (.bipush 16, 2) := by decide +kernel
theorem d9_25 : decode prog_79_method_32_code 25 = .ok (.iconst 1, 1) := by decide +kernel
theorem d9_26 : decode prog_79_method_32_code 26 = .ok (.iconst 2, 1) := by decide +kernel
theorem d9_27 : decode prog_79_method_32_code 27 = .ok (.iload_n 0, 1) := by decide +kernel
theorem d9_28 : decode prog_79_method_32_code 28 = .ok (.imul, 1) := by decide +kernel
theorem d9_29 : decode prog_79_method_32_code 29 = .ok (.iconst 1, 1) := by decide +kernel
theorem d9_30 : decode prog_79_method_32_code 30 = .ok (.isub, 1) := by decide +kernel
theorem d9_31 : decode prog_79_method_32_code 31 = .ok (.invokestatic 115, 3) := by decide +kernel
theorem d9_34 : decode prog_79_method_32_code 34 = .ok (.invokestatic 174, 3) := by decide +kernel
theorem d9_37 : decode prog_79_method_32_code 37 = .ok (.iconst 1, 1) := by decide +kernel
theorem d9_38 : decode prog_79_method_32_code 38 = .ok (.ishl, 1) := by decide +kernel
theorem d9_39 : decode prog_79_method_32_code 39 = .ok (.invokestatic 115, 3) := by decide +kernel
theorem d9_42 : decode prog_79_method_32_code 42 = .ok (.ireturn, 1) := by decide +kernel
theorem pd_1 : parseMethodDescriptor "(II)I" = some ⟨[.int, .int], some .int⟩ := by decide +kernel
theorem pn_9 : plainName "com/example/driftwalk/driftwalk/graph/NodeTable" = true := by first | (simp [plainName, overriddenIn]; done) | decide +kernel
theorem ef_9 (m : MethodId) (p1 : Int32) : entryFrame m #[(.int p1)] 1 = mkF m 0 #[.val (.int p1)] [] := by first | (simp [entryFrame, mkF, argsToLocals, Value.category]; done) | rfl
set_option maxRecDepth 65536 in
set_option maxHeartbeats 4000000 in
theorem rm_slotsFor (l : Launch) (Z : State) (a0 : Array Value) (hw : ∀ d ∈ tables_1, d.before a0 Z = true)  (h0 : Heap) (n0 : Nat) (Z0 : n0 ≤ h0.size) :
    Con l Z (⟨"com/example/driftwalk/driftwalk/graph/NodeTable", "slotsFor", "(I)I"⟩ : MethodName) prog_79_method_32_code 1 (some .int) ({ frames := 2, cells := 0, slots := 0, locals := 28 } : Room) #[(.int (0 : Int32))] h0 n0 (some (.int 16)) (fun h => h = h0) := by
  refine con_of (plainFor_of_name pn_9) Z0 (fun m => ef_9 m (0 : Int32)) ?_
  intro p e s m below meth c T0 X0
  refine w_ldc2Long X0 (hw _ (List.mem_of_getElem? (i := 51) rfl)) d9_0 rfl ?_
  refine w_iloadN X0 d9_3 rfl rfl ?_
  refine w_i2l X0 d9_4 rfl ?_
  refine w_lmul X0 d9_5 rfl ?_
  refine w_ldc2Long X0 (hw _ (List.mem_of_getElem? (i := 52) rfl)) d9_6 rfl ?_
  refine w_lcmp_le X0 d9_9 rfl d9_10 (by decide) (pcT := 23) (pcF := 13) (by decide) rfl (fun c1 => ?_) (fun c1 => ?_)
  · refine w_bipush X0 d9_23 (v := (16 : Int32)) rfl rfl ?_
    refine w_iconst X0 d9_25 (v := (1 : Int32)) rfl rfl ?_
    refine w_iconst X0 d9_26 (v := (2 : Int32)) rfl rfl ?_
    refine w_iloadN X0 d9_27 rfl rfl ?_
    refine w_imul X0 d9_28 rfl ?_
    refine w_iconst X0 d9_29 (v := (1 : Int32)) rfl rfl ?_
    refine w_isub X0 d9_30 rfl ?_
    refine w_staticVP X0 (rm10 l Z a0 hw (1 : Int32) (((2 : Int32) * (0 : Int32)) - (1 : Int32)) h0 n0 X0.size ) (hw _ (List.mem_of_getElem? (i := 53) rfl)) (hw _ (List.mem_of_getElem? (i := 54) rfl)) (hw _ (List.mem_of_getElem? (i := 55) rfl)) (hw _ (List.mem_of_getElem? (i := 56) rfl)) (by decide) (argsL := [(.int (1 : Int32)), (.int (((2 : Int32) * (0 : Int32)) - (1 : Int32)))]) (rest := [(.int (16 : Int32))]) rfl (lenOf pd_1 rfl) rfl (W := 1) rfl (by decide) (by decide) (by decide) (by decide) d9_31 rfl fun T2 X3 => ?_
    refine w_staticVP X3 (rm11 l Z a0 hw (f_max (1 : Int32) (((2 : Int32) * (0 : Int32)) - (1 : Int32))) h0 n0 X3.size ) (hw _ (List.mem_of_getElem? (i := 57) rfl)) (hw _ (List.mem_of_getElem? (i := 58) rfl)) (hw _ (List.mem_of_getElem? (i := 59) rfl)) (hw _ (List.mem_of_getElem? (i := 60) rfl)) (by decide) (argsL := [(.int (f_max (1 : Int32) (((2 : Int32) * (0 : Int32)) - (1 : Int32))))]) (rest := [(.int (16 : Int32))]) rfl (lenOf pd_0 rfl) rfl (W := 1) rfl (by decide) (by decide) (by decide) (by decide) d9_34 rfl fun T4 X5 => ?_
    refine w_iconst X5 d9_37 (v := (1 : Int32)) rfl rfl ?_
    refine w_ishl X5 d9_38 rfl ?_
    refine w_staticVP X5 (rm10 l Z a0 hw (16 : Int32) ((f_hob (f_max (1 : Int32) (((2 : Int32) * (0 : Int32)) - (1 : Int32)))) <<< ((1 : Int32) &&& 31)) h0 n0 X5.size ) (hw _ (List.mem_of_getElem? (i := 53) rfl)) (hw _ (List.mem_of_getElem? (i := 54) rfl)) (hw _ (List.mem_of_getElem? (i := 55) rfl)) (hw _ (List.mem_of_getElem? (i := 56) rfl)) (by decide) (argsL := [(.int (16 : Int32)), (.int ((f_hob (f_max (1 : Int32) (((2 : Int32) * (0 : Int32)) - (1 : Int32)))) <<< ((1 : Int32) &&& 31)))]) (rest := []) rfl (lenOf pd_1 rfl) rfl (W := 0) rfl (by decide) (by decide) (by decide) (by decide) d9_39 rfl fun T6 X7 => ?_
    exact w_ireturn X7 d9_42 (congrArg (fun z => some (Value.int z)) (show (f_max (16 : Int32) ((f_hob (f_max (1 : Int32) (((2 : Int32) * (0 : Int32)) - (1 : Int32)))) <<< ((1 : Int32) &&& 31))) = (16 : Int32) from by decide +kernel)) rfl (by decide) (by decide)
  · exact False.elim (absurd c1 (by decide))
theorem d14_0 : decode jdk_65_method_30_code 0 = .ok (.iload_n 1, 1) := by decide +kernel
theorem d14_1 : decode jdk_65_method_30_code 1 = .ok (.iload_n 2, 1) := by decide +kernel
theorem d14_2 : decode jdk_65_method_30_code 2 = .ok (.if_icmp .le 44, 3) := by decide +kernel
theorem d14_46 : decode jdk_65_method_30_code 46 = .ok (.iload_n 1, 1) := by decide +kernel
theorem d14_47 : decode jdk_65_method_30_code 47 = .ok (.ifCond .ge 12, 3) := by decide +kernel
theorem d14_59 : decode jdk_65_method_30_code 59 = .ok (.iload_n 2, 1) := by decide +kernel
theorem d14_60 : decode jdk_65_method_30_code 60 = .ok (.iload_n 0, 1) := by decide +kernel
theorem d14_61 : decode jdk_65_method_30_code 61 = .ok (.if_icmp .le 12, 3) := by decide +kernel
theorem d14_73 : decode jdk_65_method_30_code 73 = .ok (.return_, 1) := by decide +kernel
theorem pn_14 : plainName "java/util/Arrays" = true := by first | (simp [plainName, overriddenIn]; done) | decide +kernel
theorem ef_14 (m : MethodId) (p1 : Int32) (p2 : Int32) (p3 : Int32) : entryFrame m #[(.int p1), (.int p2), (.int p3)] 3 = mkF m 0 #[.val (.int p1), .val (.int p2), .val (.int p3)] [] := by first | (simp [entryFrame, mkF, argsToLocals, Value.category]; done) | rfl
set_option maxRecDepth 65536 in
set_option maxHeartbeats 4000000 in
theorem rm_range (l : Launch) (Z : State) (a0 : Array Value) (hw : ∀ d ∈ tables_1, d.before a0 Z = true)  (h0 : Heap) (n0 : Nat) (Z0 : n0 ≤ h0.size) :
    Con l Z (⟨"java/util/Arrays", "rangeCheck", "(III)V"⟩ : MethodName) jdk_65_method_30_code 3 none ({ frames := 0, cells := 0, slots := 0, locals := 0 } : Room) #[(.int (16 : Int32)), (.int (0 : Int32)), (.int (16 : Int32))] h0 n0 none (fun h => h = h0) := by
  refine con_of (plainFor_of_name pn_14) Z0 (fun m => ef_14 m (16 : Int32) (0 : Int32) (16 : Int32)) ?_
  intro p e s m below meth c T0 X0
  refine w_iloadN X0 d14_0 rfl rfl ?_
  refine w_iloadN X0 d14_1 rfl rfl ?_
  refine w_icmp_le X0 d14_2 (by decide) (pcT := 46) (pcF := 5) (by decide) rfl (fun c1 => ?_) (fun c1 => absurd c1 (by decide))
  refine w_iloadN X0 d14_46 rfl rfl ?_
  refine w_if_ge X0 d14_47 (by decide) (pcT := 59) (pcF := 50) (by decide) rfl (fun c2 => ?_) (fun c2 => absurd c2 (by decide))
  refine w_iloadN X0 d14_59 rfl rfl ?_
  refine w_iloadN X0 d14_60 rfl rfl ?_
  refine w_icmp_le X0 d14_61 (by decide) (pcT := 73) (pcF := 64) (by decide) rfl (fun c3 => ?_) (fun c3 => absurd c3 (by decide))
  exact w_return X0 d14_73 rfl rfl (by decide) (by decide)
theorem d13_0 : decode jdk_65_method_102_code 0 = .ok (.aload_n 0, 1) := by decide +kernel
theorem d13_1 : decode jdk_65_method_102_code 1 = .ok (.arraylength, 1) := by decide +kernel
theorem d13_2 : decode jdk_65_method_102_code 2 = .ok (.iload_n 1, 1) := by decide +kernel
theorem d13_3 : decode jdk_65_method_102_code 3 = .ok (.iload_n 2, 1) := by decide +kernel
theorem d13_4 : decode jdk_65_method_102_code 4 = .ok (.invokestatic 13, 3) := by decide +kernel
theorem d13_7 : decode jdk_65_method_102_code 7 = .ok (.iload_n 1, 1) := by decide +kernel
theorem d13_8 : decode jdk_65_method_102_code 8 = .ok (.istore 5, 2) := by decide +kernel
theorem d13_10 : decode jdk_65_method_102_code 10 = .ok (.iload 5, 2) := by decide +kernel
theorem d13_12 : decode jdk_65_method_102_code 12 = .ok (.iload_n 2, 1) := by decide +kernel
theorem d13_13 : decode jdk_65_method_102_code 13 = .ok (.if_icmp .ge 14, 3) := by decide +kernel
theorem d13_16 : decode jdk_65_method_102_code 16 = .ok (.aload_n 0, 1) := by decide +kernel
theorem d13_17 : decode jdk_65_method_102_code 17 = .ok (.iload 5, 2) := by decide +kernel
theorem d13_19 : decode jdk_65_method_102_code 19 = .ok (.lload_n 3, 1) := by decide +kernel
theorem d13_20 : decode jdk_65_method_102_code 20 = .ok (.lastore, 1) := by decide +kernel
theorem d13_21 : decode jdk_65_method_102_code 21 = .ok (.iinc 5 1, 3) := by decide +kernel
theorem d13_24 : decode jdk_65_method_102_code 24 = .ok (.goto (-14), 3) := by decide +kernel
theorem d13_27 : decode jdk_65_method_102_code 27 = .ok (.return_, 1) := by decide +kernel
theorem pd_2 : parseMethodDescriptor "(III)V" = some ⟨[.int, .int, .int], none⟩ := by decide +kernel
theorem pn_13 : plainName "java/util/Arrays" = true := by first | (simp [plainName, overriddenIn]; done) | decide +kernel
theorem ef_13 (m : MethodId) (o1 : Addr) (p2 : Int32) (p3 : Int32) (q4 : Int64) : entryFrame m #[(.ref o1), (.int p2), (.int p3), (.long q4)] 6 = mkF m 0 #[.val (.ref o1), .val (.int p2), .val (.int p3), .val (.long q4), .second, .unset] [] := by first | (simp [entryFrame, mkF, argsToLocals, Value.category]; done) | rfl
set_option maxRecDepth 65536 in
set_option maxHeartbeats 4000000 in
theorem rm_fill (l : Launch) (Z : State) (a0 : Array Value) (hw : ∀ d ∈ tables_1, d.before a0 Z = true) (o1 : Addr) (h0 : Heap) (n0 : Nat) (Z0 : n0 ≤ h0.size) (A_o1 : AV Z h0 o1 .long [(.long (0 : Int64)), (.long (0 : Int64)), (.long (0 : Int64)), (.long (0 : Int64)), (.long (0 : Int64)), (.long (0 : Int64)), (.long (0 : Int64)), (.long (0 : Int64)), (.long (0 : Int64)), (.long (0 : Int64)), (.long (0 : Int64)), (.long (0 : Int64)), (.long (0 : Int64)), (.long (0 : Int64)), (.long (0 : Int64)), (.long (0 : Int64))]) (g_o1 : n0 ≤ o1) :
    Con l Z (⟨"java/util/Arrays", "fill", "([JIIJ)V"⟩ : MethodName) jdk_65_method_102_code 6 none ({ frames := 1, cells := 0, slots := 0, locals := 14 } : Room) #[(.ref o1), (.int (0 : Int32)), (.int (16 : Int32)), (.long (-1 : Int64))] h0 n0 none (fun h => Keep h0 h [o1] ∧ AV Z h o1 .long (x16.map Value.long)) := by
  refine con_of (plainFor_of_name pn_13) Z0 (fun m => ef_13 m o1 (0 : Int32) (16 : Int32) (-1 : Int64)) ?_
  intro p e s m below meth c T0 X0
  refine w_aloadN X0 d13_0 rfl rfl rfl ?_
  refine w_arraylength X0 A_o1 (n := (16 : Int32)) rfl d13_1 rfl ?_
  refine w_iloadN X0 d13_2 rfl rfl ?_
  refine w_iloadN X0 d13_3 rfl rfl ?_
  refine w_static0P X0 (rm_range l Z a0 hw h0 n0 X0.size) (hw _ (List.mem_of_getElem? (i := 78) rfl)) (hw _ (List.mem_of_getElem? (i := 79) rfl)) (hw _ (List.mem_of_getElem? (i := 76) rfl)) (hw _ (List.mem_of_getElem? (i := 80) rfl)) (by decide) (argsL := [(.int (16 : Int32)), (.int (0 : Int32)), (.int (16 : Int32))]) (rest := []) rfl (lenOf pd_2 rfl) rfl (W := 0) rfl (by decide) (by decide) (by decide) (by decide) d13_4 rfl fun T1 X2 => ?_
  refine w_iloadN X2 d13_7 rfl rfl ?_
  refine w_istore X2 d13_8 rfl (L' := #[.val (.ref o1), .val (.int (0 : Int32)), .val (.int (16 : Int32)), .val (.long (-1 : Int64)), .second, .val (.int (0 : Int32))]) rfl ?_
  refine w_iload X2 d13_10 rfl rfl ?_
  refine w_iloadN X2 d13_12 rfl rfl ?_
  refine w_icmp_ge X2 d13_13 (by decide) (pcT := 27) (pcF := 16) (by decide) rfl (fun c3 => absurd c3 (by decide)) (fun c3 => ?_)
  refine w_aloadN X2 d13_16 rfl rfl rfl ?_
  refine w_iload X2 d13_17 rfl rfl ?_
  refine w_lloadN X2 d13_19 rfl rfl ?_
  refine w_lastore X2 A_o1 (by decide) (i := 0) (by decide) (Nat.le_of_ble_eq_true rfl) g_o1 d13_20 rfl fun T4 h7 X5 W6 A8 => ?_
  have f9 : AV Z h7 o1 .long [(.long (-1 : Int64)), (.long (0 : Int64)), (.long (0 : Int64)), (.long (0 : Int64)), (.long (0 : Int64)), (.long (0 : Int64)), (.long (0 : Int64)), (.long (0 : Int64)), (.long (0 : Int64)), (.long (0 : Int64)), (.long (0 : Int64)), (.long (0 : Int64)), (.long (0 : Int64)), (.long (0 : Int64)), (.long (0 : Int64)), (.long (0 : Int64))] := A8
  have k10 : Keep h0 h7 [o1] := (Keep.refl h0 [o1]).wr W6 (Or.inl (List.mem_of_getElem? (i := 0) rfl))
  refine w_iinc X5 d13_21 rfl rfl (v' := (1 : Int32)) rfl (L' := #[.val (.ref o1), .val (.int (0 : Int32)), .val (.int (16 : Int32)), .val (.long (-1 : Int64)), .second, .val (.int (1 : Int32))]) rfl ?_
  refine w_goto X5 d13_24 (by decide) (pc' := 10) (by decide) ?_
  refine w_iload X5 d13_10 rfl rfl ?_
  refine w_iloadN X5 d13_12 rfl rfl ?_
  refine w_icmp_ge X5 d13_13 (by decide) (pcT := 27) (pcF := 16) (by decide) rfl (fun c11 => absurd c11 (by decide)) (fun c11 => ?_)
  refine w_aloadN X5 d13_16 rfl rfl rfl ?_
  refine w_iload X5 d13_17 rfl rfl ?_
  refine w_lloadN X5 d13_19 rfl rfl ?_
  refine w_lastore X5 f9 (by decide) (i := 1) (by decide) (Nat.le_of_ble_eq_true rfl) g_o1 d13_20 rfl fun T12 h15 X13 W14 A16 => ?_
  have f17 : AV Z h15 o1 .long [(.long (-1 : Int64)), (.long (-1 : Int64)), (.long (0 : Int64)), (.long (0 : Int64)), (.long (0 : Int64)), (.long (0 : Int64)), (.long (0 : Int64)), (.long (0 : Int64)), (.long (0 : Int64)), (.long (0 : Int64)), (.long (0 : Int64)), (.long (0 : Int64)), (.long (0 : Int64)), (.long (0 : Int64)), (.long (0 : Int64)), (.long (0 : Int64))] := A16
  have k18 : Keep h0 h15 [o1] := k10.wr W14 (Or.inl (List.mem_of_getElem? (i := 0) rfl))
  refine w_iinc X13 d13_21 rfl rfl (v' := (2 : Int32)) rfl (L' := #[.val (.ref o1), .val (.int (0 : Int32)), .val (.int (16 : Int32)), .val (.long (-1 : Int64)), .second, .val (.int (2 : Int32))]) rfl ?_
  refine w_goto X13 d13_24 (by decide) (pc' := 10) (by decide) ?_
  refine w_iload X13 d13_10 rfl rfl ?_
  refine w_iloadN X13 d13_12 rfl rfl ?_
  refine w_icmp_ge X13 d13_13 (by decide) (pcT := 27) (pcF := 16) (by decide) rfl (fun c19 => absurd c19 (by decide)) (fun c19 => ?_)
  refine w_aloadN X13 d13_16 rfl rfl rfl ?_
  refine w_iload X13 d13_17 rfl rfl ?_
  refine w_lloadN X13 d13_19 rfl rfl ?_
  refine w_lastore X13 f17 (by decide) (i := 2) (by decide) (Nat.le_of_ble_eq_true rfl) g_o1 d13_20 rfl fun T20 h23 X21 W22 A24 => ?_
  have f25 : AV Z h23 o1 .long [(.long (-1 : Int64)), (.long (-1 : Int64)), (.long (-1 : Int64)), (.long (0 : Int64)), (.long (0 : Int64)), (.long (0 : Int64)), (.long (0 : Int64)), (.long (0 : Int64)), (.long (0 : Int64)), (.long (0 : Int64)), (.long (0 : Int64)), (.long (0 : Int64)), (.long (0 : Int64)), (.long (0 : Int64)), (.long (0 : Int64)), (.long (0 : Int64))] := A24
  have k26 : Keep h0 h23 [o1] := k18.wr W22 (Or.inl (List.mem_of_getElem? (i := 0) rfl))
  refine w_iinc X21 d13_21 rfl rfl (v' := (3 : Int32)) rfl (L' := #[.val (.ref o1), .val (.int (0 : Int32)), .val (.int (16 : Int32)), .val (.long (-1 : Int64)), .second, .val (.int (3 : Int32))]) rfl ?_
  refine w_goto X21 d13_24 (by decide) (pc' := 10) (by decide) ?_
  refine w_iload X21 d13_10 rfl rfl ?_
  refine w_iloadN X21 d13_12 rfl rfl ?_
  refine w_icmp_ge X21 d13_13 (by decide) (pcT := 27) (pcF := 16) (by decide) rfl (fun c27 => absurd c27 (by decide)) (fun c27 => ?_)
  refine w_aloadN X21 d13_16 rfl rfl rfl ?_
  refine w_iload X21 d13_17 rfl rfl ?_
  refine w_lloadN X21 d13_19 rfl rfl ?_
  refine w_lastore X21 f25 (by decide) (i := 3) (by decide) (Nat.le_of_ble_eq_true rfl) g_o1 d13_20 rfl fun T28 h31 X29 W30 A32 => ?_
  have f33 : AV Z h31 o1 .long [(.long (-1 : Int64)), (.long (-1 : Int64)), (.long (-1 : Int64)), (.long (-1 : Int64)), (.long (0 : Int64)), (.long (0 : Int64)), (.long (0 : Int64)), (.long (0 : Int64)), (.long (0 : Int64)), (.long (0 : Int64)), (.long (0 : Int64)), (.long (0 : Int64)), (.long (0 : Int64)), (.long (0 : Int64)), (.long (0 : Int64)), (.long (0 : Int64))] := A32
  have k34 : Keep h0 h31 [o1] := k26.wr W30 (Or.inl (List.mem_of_getElem? (i := 0) rfl))
  refine w_iinc X29 d13_21 rfl rfl (v' := (4 : Int32)) rfl (L' := #[.val (.ref o1), .val (.int (0 : Int32)), .val (.int (16 : Int32)), .val (.long (-1 : Int64)), .second, .val (.int (4 : Int32))]) rfl ?_
  refine w_goto X29 d13_24 (by decide) (pc' := 10) (by decide) ?_
  refine w_iload X29 d13_10 rfl rfl ?_
  refine w_iloadN X29 d13_12 rfl rfl ?_
  refine w_icmp_ge X29 d13_13 (by decide) (pcT := 27) (pcF := 16) (by decide) rfl (fun c35 => absurd c35 (by decide)) (fun c35 => ?_)
  refine w_aloadN X29 d13_16 rfl rfl rfl ?_
  refine w_iload X29 d13_17 rfl rfl ?_
  refine w_lloadN X29 d13_19 rfl rfl ?_
  refine w_lastore X29 f33 (by decide) (i := 4) (by decide) (Nat.le_of_ble_eq_true rfl) g_o1 d13_20 rfl fun T36 h39 X37 W38 A40 => ?_
  have f41 : AV Z h39 o1 .long [(.long (-1 : Int64)), (.long (-1 : Int64)), (.long (-1 : Int64)), (.long (-1 : Int64)), (.long (-1 : Int64)), (.long (0 : Int64)), (.long (0 : Int64)), (.long (0 : Int64)), (.long (0 : Int64)), (.long (0 : Int64)), (.long (0 : Int64)), (.long (0 : Int64)), (.long (0 : Int64)), (.long (0 : Int64)), (.long (0 : Int64)), (.long (0 : Int64))] := A40
  have k42 : Keep h0 h39 [o1] := k34.wr W38 (Or.inl (List.mem_of_getElem? (i := 0) rfl))
  refine w_iinc X37 d13_21 rfl rfl (v' := (5 : Int32)) rfl (L' := #[.val (.ref o1), .val (.int (0 : Int32)), .val (.int (16 : Int32)), .val (.long (-1 : Int64)), .second, .val (.int (5 : Int32))]) rfl ?_
  refine w_goto X37 d13_24 (by decide) (pc' := 10) (by decide) ?_
  refine w_iload X37 d13_10 rfl rfl ?_
  refine w_iloadN X37 d13_12 rfl rfl ?_
  refine w_icmp_ge X37 d13_13 (by decide) (pcT := 27) (pcF := 16) (by decide) rfl (fun c43 => absurd c43 (by decide)) (fun c43 => ?_)
  refine w_aloadN X37 d13_16 rfl rfl rfl ?_
  refine w_iload X37 d13_17 rfl rfl ?_
  refine w_lloadN X37 d13_19 rfl rfl ?_
  refine w_lastore X37 f41 (by decide) (i := 5) (by decide) (Nat.le_of_ble_eq_true rfl) g_o1 d13_20 rfl fun T44 h47 X45 W46 A48 => ?_
  have f49 : AV Z h47 o1 .long [(.long (-1 : Int64)), (.long (-1 : Int64)), (.long (-1 : Int64)), (.long (-1 : Int64)), (.long (-1 : Int64)), (.long (-1 : Int64)), (.long (0 : Int64)), (.long (0 : Int64)), (.long (0 : Int64)), (.long (0 : Int64)), (.long (0 : Int64)), (.long (0 : Int64)), (.long (0 : Int64)), (.long (0 : Int64)), (.long (0 : Int64)), (.long (0 : Int64))] := A48
  have k50 : Keep h0 h47 [o1] := k42.wr W46 (Or.inl (List.mem_of_getElem? (i := 0) rfl))
  refine w_iinc X45 d13_21 rfl rfl (v' := (6 : Int32)) rfl (L' := #[.val (.ref o1), .val (.int (0 : Int32)), .val (.int (16 : Int32)), .val (.long (-1 : Int64)), .second, .val (.int (6 : Int32))]) rfl ?_
  refine w_goto X45 d13_24 (by decide) (pc' := 10) (by decide) ?_
  refine w_iload X45 d13_10 rfl rfl ?_
  refine w_iloadN X45 d13_12 rfl rfl ?_
  refine w_icmp_ge X45 d13_13 (by decide) (pcT := 27) (pcF := 16) (by decide) rfl (fun c51 => absurd c51 (by decide)) (fun c51 => ?_)
  refine w_aloadN X45 d13_16 rfl rfl rfl ?_
  refine w_iload X45 d13_17 rfl rfl ?_
  refine w_lloadN X45 d13_19 rfl rfl ?_
  refine w_lastore X45 f49 (by decide) (i := 6) (by decide) (Nat.le_of_ble_eq_true rfl) g_o1 d13_20 rfl fun T52 h55 X53 W54 A56 => ?_
  have f57 : AV Z h55 o1 .long [(.long (-1 : Int64)), (.long (-1 : Int64)), (.long (-1 : Int64)), (.long (-1 : Int64)), (.long (-1 : Int64)), (.long (-1 : Int64)), (.long (-1 : Int64)), (.long (0 : Int64)), (.long (0 : Int64)), (.long (0 : Int64)), (.long (0 : Int64)), (.long (0 : Int64)), (.long (0 : Int64)), (.long (0 : Int64)), (.long (0 : Int64)), (.long (0 : Int64))] := A56
  have k58 : Keep h0 h55 [o1] := k50.wr W54 (Or.inl (List.mem_of_getElem? (i := 0) rfl))
  refine w_iinc X53 d13_21 rfl rfl (v' := (7 : Int32)) rfl (L' := #[.val (.ref o1), .val (.int (0 : Int32)), .val (.int (16 : Int32)), .val (.long (-1 : Int64)), .second, .val (.int (7 : Int32))]) rfl ?_
  refine w_goto X53 d13_24 (by decide) (pc' := 10) (by decide) ?_
  refine w_iload X53 d13_10 rfl rfl ?_
  refine w_iloadN X53 d13_12 rfl rfl ?_
  refine w_icmp_ge X53 d13_13 (by decide) (pcT := 27) (pcF := 16) (by decide) rfl (fun c59 => absurd c59 (by decide)) (fun c59 => ?_)
  refine w_aloadN X53 d13_16 rfl rfl rfl ?_
  refine w_iload X53 d13_17 rfl rfl ?_
  refine w_lloadN X53 d13_19 rfl rfl ?_
  refine w_lastore X53 f57 (by decide) (i := 7) (by decide) (Nat.le_of_ble_eq_true rfl) g_o1 d13_20 rfl fun T60 h63 X61 W62 A64 => ?_
  have f65 : AV Z h63 o1 .long [(.long (-1 : Int64)), (.long (-1 : Int64)), (.long (-1 : Int64)), (.long (-1 : Int64)), (.long (-1 : Int64)), (.long (-1 : Int64)), (.long (-1 : Int64)), (.long (-1 : Int64)), (.long (0 : Int64)), (.long (0 : Int64)), (.long (0 : Int64)), (.long (0 : Int64)), (.long (0 : Int64)), (.long (0 : Int64)), (.long (0 : Int64)), (.long (0 : Int64))] := A64
  have k66 : Keep h0 h63 [o1] := k58.wr W62 (Or.inl (List.mem_of_getElem? (i := 0) rfl))
  refine w_iinc X61 d13_21 rfl rfl (v' := (8 : Int32)) rfl (L' := #[.val (.ref o1), .val (.int (0 : Int32)), .val (.int (16 : Int32)), .val (.long (-1 : Int64)), .second, .val (.int (8 : Int32))]) rfl ?_
  refine w_goto X61 d13_24 (by decide) (pc' := 10) (by decide) ?_
  refine w_iload X61 d13_10 rfl rfl ?_
  refine w_iloadN X61 d13_12 rfl rfl ?_
  refine w_icmp_ge X61 d13_13 (by decide) (pcT := 27) (pcF := 16) (by decide) rfl (fun c67 => absurd c67 (by decide)) (fun c67 => ?_)
  refine w_aloadN X61 d13_16 rfl rfl rfl ?_
  refine w_iload X61 d13_17 rfl rfl ?_
  refine w_lloadN X61 d13_19 rfl rfl ?_
  refine w_lastore X61 f65 (by decide) (i := 8) (by decide) (Nat.le_of_ble_eq_true rfl) g_o1 d13_20 rfl fun T68 h71 X69 W70 A72 => ?_
  have f73 : AV Z h71 o1 .long [(.long (-1 : Int64)), (.long (-1 : Int64)), (.long (-1 : Int64)), (.long (-1 : Int64)), (.long (-1 : Int64)), (.long (-1 : Int64)), (.long (-1 : Int64)), (.long (-1 : Int64)), (.long (-1 : Int64)), (.long (0 : Int64)), (.long (0 : Int64)), (.long (0 : Int64)), (.long (0 : Int64)), (.long (0 : Int64)), (.long (0 : Int64)), (.long (0 : Int64))] := A72
  have k74 : Keep h0 h71 [o1] := k66.wr W70 (Or.inl (List.mem_of_getElem? (i := 0) rfl))
  refine w_iinc X69 d13_21 rfl rfl (v' := (9 : Int32)) rfl (L' := #[.val (.ref o1), .val (.int (0 : Int32)), .val (.int (16 : Int32)), .val (.long (-1 : Int64)), .second, .val (.int (9 : Int32))]) rfl ?_
  refine w_goto X69 d13_24 (by decide) (pc' := 10) (by decide) ?_
  refine w_iload X69 d13_10 rfl rfl ?_
  refine w_iloadN X69 d13_12 rfl rfl ?_
  refine w_icmp_ge X69 d13_13 (by decide) (pcT := 27) (pcF := 16) (by decide) rfl (fun c75 => absurd c75 (by decide)) (fun c75 => ?_)
  refine w_aloadN X69 d13_16 rfl rfl rfl ?_
  refine w_iload X69 d13_17 rfl rfl ?_
  refine w_lloadN X69 d13_19 rfl rfl ?_
  refine w_lastore X69 f73 (by decide) (i := 9) (by decide) (Nat.le_of_ble_eq_true rfl) g_o1 d13_20 rfl fun T76 h79 X77 W78 A80 => ?_
  have f81 : AV Z h79 o1 .long [(.long (-1 : Int64)), (.long (-1 : Int64)), (.long (-1 : Int64)), (.long (-1 : Int64)), (.long (-1 : Int64)), (.long (-1 : Int64)), (.long (-1 : Int64)), (.long (-1 : Int64)), (.long (-1 : Int64)), (.long (-1 : Int64)), (.long (0 : Int64)), (.long (0 : Int64)), (.long (0 : Int64)), (.long (0 : Int64)), (.long (0 : Int64)), (.long (0 : Int64))] := A80
  have k82 : Keep h0 h79 [o1] := k74.wr W78 (Or.inl (List.mem_of_getElem? (i := 0) rfl))
  refine w_iinc X77 d13_21 rfl rfl (v' := (10 : Int32)) rfl (L' := #[.val (.ref o1), .val (.int (0 : Int32)), .val (.int (16 : Int32)), .val (.long (-1 : Int64)), .second, .val (.int (10 : Int32))]) rfl ?_
  refine w_goto X77 d13_24 (by decide) (pc' := 10) (by decide) ?_
  refine w_iload X77 d13_10 rfl rfl ?_
  refine w_iloadN X77 d13_12 rfl rfl ?_
  refine w_icmp_ge X77 d13_13 (by decide) (pcT := 27) (pcF := 16) (by decide) rfl (fun c83 => absurd c83 (by decide)) (fun c83 => ?_)
  refine w_aloadN X77 d13_16 rfl rfl rfl ?_
  refine w_iload X77 d13_17 rfl rfl ?_
  refine w_lloadN X77 d13_19 rfl rfl ?_
  refine w_lastore X77 f81 (by decide) (i := 10) (by decide) (Nat.le_of_ble_eq_true rfl) g_o1 d13_20 rfl fun T84 h87 X85 W86 A88 => ?_
  have f89 : AV Z h87 o1 .long [(.long (-1 : Int64)), (.long (-1 : Int64)), (.long (-1 : Int64)), (.long (-1 : Int64)), (.long (-1 : Int64)), (.long (-1 : Int64)), (.long (-1 : Int64)), (.long (-1 : Int64)), (.long (-1 : Int64)), (.long (-1 : Int64)), (.long (-1 : Int64)), (.long (0 : Int64)), (.long (0 : Int64)), (.long (0 : Int64)), (.long (0 : Int64)), (.long (0 : Int64))] := A88
  have k90 : Keep h0 h87 [o1] := k82.wr W86 (Or.inl (List.mem_of_getElem? (i := 0) rfl))
  refine w_iinc X85 d13_21 rfl rfl (v' := (11 : Int32)) rfl (L' := #[.val (.ref o1), .val (.int (0 : Int32)), .val (.int (16 : Int32)), .val (.long (-1 : Int64)), .second, .val (.int (11 : Int32))]) rfl ?_
  refine w_goto X85 d13_24 (by decide) (pc' := 10) (by decide) ?_
  refine w_iload X85 d13_10 rfl rfl ?_
  refine w_iloadN X85 d13_12 rfl rfl ?_
  refine w_icmp_ge X85 d13_13 (by decide) (pcT := 27) (pcF := 16) (by decide) rfl (fun c91 => absurd c91 (by decide)) (fun c91 => ?_)
  refine w_aloadN X85 d13_16 rfl rfl rfl ?_
  refine w_iload X85 d13_17 rfl rfl ?_
  refine w_lloadN X85 d13_19 rfl rfl ?_
  refine w_lastore X85 f89 (by decide) (i := 11) (by decide) (Nat.le_of_ble_eq_true rfl) g_o1 d13_20 rfl fun T92 h95 X93 W94 A96 => ?_
  have f97 : AV Z h95 o1 .long [(.long (-1 : Int64)), (.long (-1 : Int64)), (.long (-1 : Int64)), (.long (-1 : Int64)), (.long (-1 : Int64)), (.long (-1 : Int64)), (.long (-1 : Int64)), (.long (-1 : Int64)), (.long (-1 : Int64)), (.long (-1 : Int64)), (.long (-1 : Int64)), (.long (-1 : Int64)), (.long (0 : Int64)), (.long (0 : Int64)), (.long (0 : Int64)), (.long (0 : Int64))] := A96
  have k98 : Keep h0 h95 [o1] := k90.wr W94 (Or.inl (List.mem_of_getElem? (i := 0) rfl))
  refine w_iinc X93 d13_21 rfl rfl (v' := (12 : Int32)) rfl (L' := #[.val (.ref o1), .val (.int (0 : Int32)), .val (.int (16 : Int32)), .val (.long (-1 : Int64)), .second, .val (.int (12 : Int32))]) rfl ?_
  refine w_goto X93 d13_24 (by decide) (pc' := 10) (by decide) ?_
  refine w_iload X93 d13_10 rfl rfl ?_
  refine w_iloadN X93 d13_12 rfl rfl ?_
  refine w_icmp_ge X93 d13_13 (by decide) (pcT := 27) (pcF := 16) (by decide) rfl (fun c99 => absurd c99 (by decide)) (fun c99 => ?_)
  refine w_aloadN X93 d13_16 rfl rfl rfl ?_
  refine w_iload X93 d13_17 rfl rfl ?_
  refine w_lloadN X93 d13_19 rfl rfl ?_
  refine w_lastore X93 f97 (by decide) (i := 12) (by decide) (Nat.le_of_ble_eq_true rfl) g_o1 d13_20 rfl fun T100 h103 X101 W102 A104 => ?_
  have f105 : AV Z h103 o1 .long [(.long (-1 : Int64)), (.long (-1 : Int64)), (.long (-1 : Int64)), (.long (-1 : Int64)), (.long (-1 : Int64)), (.long (-1 : Int64)), (.long (-1 : Int64)), (.long (-1 : Int64)), (.long (-1 : Int64)), (.long (-1 : Int64)), (.long (-1 : Int64)), (.long (-1 : Int64)), (.long (-1 : Int64)), (.long (0 : Int64)), (.long (0 : Int64)), (.long (0 : Int64))] := A104
  have k106 : Keep h0 h103 [o1] := k98.wr W102 (Or.inl (List.mem_of_getElem? (i := 0) rfl))
  refine w_iinc X101 d13_21 rfl rfl (v' := (13 : Int32)) rfl (L' := #[.val (.ref o1), .val (.int (0 : Int32)), .val (.int (16 : Int32)), .val (.long (-1 : Int64)), .second, .val (.int (13 : Int32))]) rfl ?_
  refine w_goto X101 d13_24 (by decide) (pc' := 10) (by decide) ?_
  refine w_iload X101 d13_10 rfl rfl ?_
  refine w_iloadN X101 d13_12 rfl rfl ?_
  refine w_icmp_ge X101 d13_13 (by decide) (pcT := 27) (pcF := 16) (by decide) rfl (fun c107 => absurd c107 (by decide)) (fun c107 => ?_)
  refine w_aloadN X101 d13_16 rfl rfl rfl ?_
  refine w_iload X101 d13_17 rfl rfl ?_
  refine w_lloadN X101 d13_19 rfl rfl ?_
  refine w_lastore X101 f105 (by decide) (i := 13) (by decide) (Nat.le_of_ble_eq_true rfl) g_o1 d13_20 rfl fun T108 h111 X109 W110 A112 => ?_
  have f113 : AV Z h111 o1 .long [(.long (-1 : Int64)), (.long (-1 : Int64)), (.long (-1 : Int64)), (.long (-1 : Int64)), (.long (-1 : Int64)), (.long (-1 : Int64)), (.long (-1 : Int64)), (.long (-1 : Int64)), (.long (-1 : Int64)), (.long (-1 : Int64)), (.long (-1 : Int64)), (.long (-1 : Int64)), (.long (-1 : Int64)), (.long (-1 : Int64)), (.long (0 : Int64)), (.long (0 : Int64))] := A112
  have k114 : Keep h0 h111 [o1] := k106.wr W110 (Or.inl (List.mem_of_getElem? (i := 0) rfl))
  refine w_iinc X109 d13_21 rfl rfl (v' := (14 : Int32)) rfl (L' := #[.val (.ref o1), .val (.int (0 : Int32)), .val (.int (16 : Int32)), .val (.long (-1 : Int64)), .second, .val (.int (14 : Int32))]) rfl ?_
  refine w_goto X109 d13_24 (by decide) (pc' := 10) (by decide) ?_
  refine w_iload X109 d13_10 rfl rfl ?_
  refine w_iloadN X109 d13_12 rfl rfl ?_
  refine w_icmp_ge X109 d13_13 (by decide) (pcT := 27) (pcF := 16) (by decide) rfl (fun c115 => absurd c115 (by decide)) (fun c115 => ?_)
  refine w_aloadN X109 d13_16 rfl rfl rfl ?_
  refine w_iload X109 d13_17 rfl rfl ?_
  refine w_lloadN X109 d13_19 rfl rfl ?_
  refine w_lastore X109 f113 (by decide) (i := 14) (by decide) (Nat.le_of_ble_eq_true rfl) g_o1 d13_20 rfl fun T116 h119 X117 W118 A120 => ?_
  have f121 : AV Z h119 o1 .long [(.long (-1 : Int64)), (.long (-1 : Int64)), (.long (-1 : Int64)), (.long (-1 : Int64)), (.long (-1 : Int64)), (.long (-1 : Int64)), (.long (-1 : Int64)), (.long (-1 : Int64)), (.long (-1 : Int64)), (.long (-1 : Int64)), (.long (-1 : Int64)), (.long (-1 : Int64)), (.long (-1 : Int64)), (.long (-1 : Int64)), (.long (-1 : Int64)), (.long (0 : Int64))] := A120
  have k122 : Keep h0 h119 [o1] := k114.wr W118 (Or.inl (List.mem_of_getElem? (i := 0) rfl))
  refine w_iinc X117 d13_21 rfl rfl (v' := (15 : Int32)) rfl (L' := #[.val (.ref o1), .val (.int (0 : Int32)), .val (.int (16 : Int32)), .val (.long (-1 : Int64)), .second, .val (.int (15 : Int32))]) rfl ?_
  refine w_goto X117 d13_24 (by decide) (pc' := 10) (by decide) ?_
  refine w_iload X117 d13_10 rfl rfl ?_
  refine w_iloadN X117 d13_12 rfl rfl ?_
  refine w_icmp_ge X117 d13_13 (by decide) (pcT := 27) (pcF := 16) (by decide) rfl (fun c123 => absurd c123 (by decide)) (fun c123 => ?_)
  refine w_aloadN X117 d13_16 rfl rfl rfl ?_
  refine w_iload X117 d13_17 rfl rfl ?_
  refine w_lloadN X117 d13_19 rfl rfl ?_
  refine w_lastore X117 f121 (by decide) (i := 15) (by decide) (Nat.le_of_ble_eq_true rfl) g_o1 d13_20 rfl fun T124 h127 X125 W126 A128 => ?_
  have f129 : AV Z h127 o1 .long [(.long (-1 : Int64)), (.long (-1 : Int64)), (.long (-1 : Int64)), (.long (-1 : Int64)), (.long (-1 : Int64)), (.long (-1 : Int64)), (.long (-1 : Int64)), (.long (-1 : Int64)), (.long (-1 : Int64)), (.long (-1 : Int64)), (.long (-1 : Int64)), (.long (-1 : Int64)), (.long (-1 : Int64)), (.long (-1 : Int64)), (.long (-1 : Int64)), (.long (-1 : Int64))] := A128
  have k130 : Keep h0 h127 [o1] := k122.wr W126 (Or.inl (List.mem_of_getElem? (i := 0) rfl))
  refine w_iinc X125 d13_21 rfl rfl (v' := (16 : Int32)) rfl (L' := #[.val (.ref o1), .val (.int (0 : Int32)), .val (.int (16 : Int32)), .val (.long (-1 : Int64)), .second, .val (.int (16 : Int32))]) rfl ?_
  refine w_goto X125 d13_24 (by decide) (pc' := 10) (by decide) ?_
  refine w_iload X125 d13_10 rfl rfl ?_
  refine w_iloadN X125 d13_12 rfl rfl ?_
  refine w_icmp_ge X125 d13_13 (by decide) (pcT := 27) (pcF := 16) (by decide) rfl (fun c131 => ?_) (fun c131 => absurd c131 (by decide))
  exact w_return X125 d13_27 rfl ⟨k130, f129⟩ (by decide) (by decide)
def NTs (Z : State) (h : Heap) (o1 sl : Addr) (xs : List Int64) (c0 sm lg bd : Int32) : Prop :=
  Exa Z h o1 "com/example/driftwalk/driftwalk/graph/NodeTable" ∧ Fld Z h o1 "com/example/driftwalk/driftwalk/graph/NodeTable" "largest" "I" (.int lg) ∧ Fld Z h o1 "com/example/driftwalk/driftwalk/graph/NodeTable" "bound" "I" (.int bd) ∧ Fld Z h o1 "com/example/driftwalk/driftwalk/graph/NodeTable" "values" "[I" .null ∧ Fld Z h o1 "com/example/driftwalk/driftwalk/graph/NodeTable" "base" "I" (.int 0) ∧ Fld Z h o1 "com/example/driftwalk/driftwalk/graph/NodeTable" "slots" "[J" (.ref sl) ∧ Fld Z h o1 "com/example/driftwalk/driftwalk/graph/NodeTable" "mask" "I" (.int 15) ∧ Fld Z h o1 "com/example/driftwalk/driftwalk/graph/NodeTable" "size" "I" (.int c0) ∧ Fld Z h o1 "com/example/driftwalk/driftwalk/graph/NodeTable" "smallest" "I" (.int sm) ∧ AV Z h sl .long (xs.map Value.long)
theorem d8_0 : decode prog_79_method_20_code 0 = .ok (.aload_n 0, 1) := by decide +kernel
theorem d8_1 : decode prog_79_method_20_code 1 = .ok (.getfield 19, 3) := by decide +kernel
theorem d8_4 : decode prog_79_method_20_code 4 = .ok (.invokestatic 22, 3) := by decide +kernel
theorem d8_7 : decode prog_79_method_20_code 7 = .ok (.ifCond .eq 19, 3) := by decide +kernel
theorem d8_26 : decode prog_79_method_20_code 26 = .ok (.iload_n 1, 1) := by decide +kernel
theorem d8_27 : decode prog_79_method_20_code 27 = .ok (.invokestatic 98, 3) := by decide +kernel
theorem d8_30 : decode prog_79_method_20_code 30 = .ok (.istore_n 2, 1) := by decide +kernel
theorem d8_31 : decode prog_79_method_20_code 31 = .ok (.aload_n 0, 1) := by decide +kernel
theorem d8_32 : decode prog_79_method_20_code 32 = .ok (.getfield 61, 3) := by decide +kernel
theorem d8_35 : decode prog_79_method_20_code 35 = .ok (.ifnull 12, 3) := by decide +kernel
theorem d8_47 : decode prog_79_method_20_code 47 = .ok (.aload_n 0, 1) := by decide +kernel
theorem d8_48 : decode prog_79_method_20_code 48 = .ok (.iload_n 2, 1) := by decide +kernel
theorem d8_49 : decode prog_79_method_20_code 49 = .ok (.newarray .long, 2) := by decide +kernel
theorem d8_51 : decode prog_79_method_20_code 51 = .ok (.putfield 61, 3) := by decide +kernel
theorem d8_54 : decode prog_79_method_20_code 54 = .ok (.aload_n 0, 1) := by decide +kernel
theorem d8_55 : decode prog_79_method_20_code 55 = .ok (.aconst_null, 1) := by decide +kernel
theorem d8_56 : decode prog_79_method_20_code 56 = .ok (.putfield 26, 3) := by decide +kernel
theorem d8_59 : decode prog_79_method_20_code 59 = .ok (.aload_n 0, 1) := by decide +kernel
theorem d8_60 : decode prog_79_method_20_code 60 = .ok (.iload_n 2, 1) := by decide +kernel
theorem d8_61 : decode prog_79_method_20_code 61 = .ok (.iconst 1, 1) := by decide +kernel
theorem d8_62 : decode prog_79_method_20_code 62 = .ok (.isub, 1) := by decide +kernel
theorem d8_63 : decode prog_79_method_20_code 63 = .ok (.putfield 86, 3) := by decide +kernel
theorem d8_66 : decode prog_79_method_20_code 66 = .ok (.aload_n 0, 1) := by decide +kernel
theorem d8_67 : decode prog_79_method_20_code 67 = .ok (.iconst 0, 1) := by decide +kernel
theorem d8_68 : decode prog_79_method_20_code 68 = .ok (.putfield 83, 3) := by decide +kernel
theorem d8_71 : decode prog_79_method_20_code 71 = .ok (.aload_n 0, 1) := by decide +kernel
theorem d8_72 : decode prog_79_method_20_code 72 = .ok (.iconst (-1), 1) := by decide +kernel
theorem d8_73 : decode prog_79_method_20_code 73 = .ok (.putfield 15, 3) := by decide +kernel
theorem d8_76 : decode prog_79_method_20_code 76 = .ok (.aload_n 0, 1) := by decide +kernel
theorem d8_77 : decode prog_79_method_20_code 77 = .ok (.getfield 61, 3) := by decide +kernel
theorem d8_80 : decode prog_79_method_20_code 80 = .ok (.iconst 0, 1) := by decide +kernel
theorem d8_81 : decode prog_79_method_20_code 81 = .ok (.iload_n 2, 1) := by decide +kernel
theorem d8_82 : decode prog_79_method_20_code 82 = .ok (.ldc2_w 65, 3) := by decide +kernel
theorem d8_85 : decode prog_79_method_20_code 85 = .ok (.invokestatic 95, 3) := by decide +kernel
theorem d8_88 : decode prog_79_method_20_code 88 = .ok (.return_, 1) := by decide +kernel
theorem pd_3 : parseMethodDescriptor "(I)Z" = some ⟨[.int], some .boolean⟩ := by decide +kernel
theorem pd_4 : parseMethodDescriptor "([JIIJ)V" = some ⟨[(.array .long), .int, .int, .long], none⟩ := by decide +kernel
theorem pn_8 : plainName "com/example/driftwalk/driftwalk/graph/NodeTable" = true := by first | (simp [plainName, overriddenIn]; done) | decide +kernel
theorem ef_8 (m : MethodId) (o1 : Addr) (p2 : Int32) : entryFrame m #[(.ref o1), (.int p2)] 3 = mkF m 0 #[.val (.ref o1), .val (.int p2), .unset] [] := by first | (simp [entryFrame, mkF, argsToLocals, Value.category]; done) | rfl
set_option maxRecDepth 65536 in
set_option maxHeartbeats 4000000 in
theorem rm_clear (l : Launch) (Z : State) (a0 : Array Value) (hw : ∀ d ∈ tables_1, d.before a0 Z = true) (o1 : Addr) (bd : Int32) (h0 : Heap) (n0 : Nat) (Z0 : n0 ≤ h0.size) (E_o : Exa Z h0 o1 "com/example/driftwalk/driftwalk/graph/NodeTable") (F_largest : Fld Z h0 o1 "com/example/driftwalk/driftwalk/graph/NodeTable" "largest" "I" (.int (-1 : Int32))) (F_bound : Fld Z h0 o1 "com/example/driftwalk/driftwalk/graph/NodeTable" "bound" "I" (.int bd)) (F_values : Fld Z h0 o1 "com/example/driftwalk/driftwalk/graph/NodeTable" "values" "[I" .null) (F_base : Fld Z h0 o1 "com/example/driftwalk/driftwalk/graph/NodeTable" "base" "I" (.int (0 : Int32))) (F_slots : Fld Z h0 o1 "com/example/driftwalk/driftwalk/graph/NodeTable" "slots" "[J" .null) (F_mask : Fld Z h0 o1 "com/example/driftwalk/driftwalk/graph/NodeTable" "mask" "I" (.int (0 : Int32))) (F_size : Fld Z h0 o1 "com/example/driftwalk/driftwalk/graph/NodeTable" "size" "I" (.int (0 : Int32))) (F_smallest : Fld Z h0 o1 "com/example/driftwalk/driftwalk/graph/NodeTable" "smallest" "I" (.int (0 : Int32))) (g_o : n0 ≤ o1) (hsm : f_small bd = 0) :
    Con l Z (⟨"com/example/driftwalk/driftwalk/graph/NodeTable", "clear", "(I)V"⟩ : MethodName) prog_79_method_20_code 3 none ({ frames := 3, cells := 1, slots := 16, locals := 40 } : Room) #[(.ref o1), (.int (0 : Int32))] h0 n0 none (fun h => ∃ sl, n0 ≤ sl ∧ h0.size ≤ sl ∧ Keep h0 h [o1] ∧ NTs Z h o1 sl x16 0 0 (-1) bd) := by
  refine con_of (plainFor_of_name pn_8) Z0 (fun m => ef_8 m o1 (0 : Int32)) ?_
  intro p e s m below meth c T0 X0
  refine w_aloadN X0 d8_0 rfl rfl rfl ?_
  refine w_getF X0 (host := "") (Or.inl (hw _ (List.mem_of_getElem? (i := 12) rfl))) Via.refl F_bound d8_1 rfl fun T1 X2 => ?_
  refine w_staticVP X2 (rm3 l Z a0 hw bd h0 n0 X2.size ) (hw _ (List.mem_of_getElem? (i := 14) rfl)) (hw _ (List.mem_of_getElem? (i := 15) rfl)) (hw _ (List.mem_of_getElem? (i := 3) rfl)) (hw _ (List.mem_of_getElem? (i := 16) rfl)) (by decide) (argsL := [(.int bd)]) (rest := []) rfl (lenOf pd_3 rfl) rfl (W := 0) rfl (by decide) (by decide) (by decide) (by decide) d8_4 rfl fun T3 X4 => ?_
  refine w_if_eq X4 d8_7 (by decide) (pcT := 26) (pcF := 10) (by decide) rfl (fun c5 => ?_) (fun c5 => ?_)
  · refine w_iloadN X4 d8_26 rfl rfl ?_
    refine w_staticVP X4 (rm_slotsFor l Z a0 hw h0 n0 X4.size) (hw _ (List.mem_of_getElem? (i := 48) rfl)) (hw _ (List.mem_of_getElem? (i := 49) rfl)) (hw _ (List.mem_of_getElem? (i := 3) rfl)) (hw _ (List.mem_of_getElem? (i := 50) rfl)) (by decide) (argsL := [(.int (0 : Int32))]) (rest := []) rfl (lenOf pd_0 rfl) rfl (W := 0) rfl (by decide) (by decide) (by decide) (by decide) d8_27 rfl fun T6 X7 => ?_
    refine w_istoreN X7 d8_30 rfl (L' := #[.val (.ref o1), .val (.int (0 : Int32)), .val (.int (16 : Int32))]) rfl ?_
    refine w_aloadN X7 d8_31 rfl rfl rfl ?_
    refine w_getF X7 (host := "") (Or.inl (hw _ (List.mem_of_getElem? (i := 66) rfl))) Via.refl F_slots d8_32 rfl fun T8 X9 => ?_
    refine w_ifnullYes X9 d8_35 (by decide) (pc' := 47) (by decide) ?_
    refine w_aloadN X9 d8_47 rfl rfl rfl ?_
    refine w_iloadN X9 d8_48 rfl rfl ?_
    refine w_newP X9 (hw _ (List.mem_of_getElem? (i := 68) rfl)) (by decide) (k := 16) (by decide) (cap := 16) (by decide) (by decide) (by decide) (by decide) d8_49 rfl fun T10 h12 a13 X11 ga14 gn15 E16 A17 => ?_
    have ne18 : o1 ≠ a13 := by rw [ga14]; exact Nat.ne_of_lt E_o.lt
    have g019 : h0.size ≤ a13 := by rw [ga14]; exact (Keep.refl h0 [o1]).1
    have f20 : Exa Z h12 o1 "com/example/driftwalk/driftwalk/graph/NodeTable" := Exa.ext E16 E_o
    have f21 : Fld Z h12 o1 "com/example/driftwalk/driftwalk/graph/NodeTable" "largest" "I" (.int (-1 : Int32)) := Fld.ext E16 F_largest
    have f22 : Fld Z h12 o1 "com/example/driftwalk/driftwalk/graph/NodeTable" "bound" "I" (.int bd) := Fld.ext E16 F_bound
    have f23 : Fld Z h12 o1 "com/example/driftwalk/driftwalk/graph/NodeTable" "values" "[I" .null := Fld.ext E16 F_values
    have f24 : Fld Z h12 o1 "com/example/driftwalk/driftwalk/graph/NodeTable" "base" "I" (.int (0 : Int32)) := Fld.ext E16 F_base
    have f25 : Fld Z h12 o1 "com/example/driftwalk/driftwalk/graph/NodeTable" "slots" "[J" .null := Fld.ext E16 F_slots
    have f26 : Fld Z h12 o1 "com/example/driftwalk/driftwalk/graph/NodeTable" "mask" "I" (.int (0 : Int32)) := Fld.ext E16 F_mask
    have f27 : Fld Z h12 o1 "com/example/driftwalk/driftwalk/graph/NodeTable" "size" "I" (.int (0 : Int32)) := Fld.ext E16 F_size
    have f28 : Fld Z h12 o1 "com/example/driftwalk/driftwalk/graph/NodeTable" "smallest" "I" (.int (0 : Int32)) := Fld.ext E16 F_smallest
    have k29 : Keep h0 h12 [o1] := (Keep.refl h0 [o1]).ext E16
    have f30 : AV Z h12 a13 .long [(.long (0 : Int64)), (.long (0 : Int64)), (.long (0 : Int64)), (.long (0 : Int64)), (.long (0 : Int64)), (.long (0 : Int64)), (.long (0 : Int64)), (.long (0 : Int64)), (.long (0 : Int64)), (.long (0 : Int64)), (.long (0 : Int64)), (.long (0 : Int64)), (.long (0 : Int64)), (.long (0 : Int64)), (.long (0 : Int64)), (.long (0 : Int64))] := A17
    refine w_putF X11 (host := "") (Or.inl (hw _ (List.mem_of_getElem? (i := 66) rfl))) Via.refl f25 f20 (Or.inl (hw _ (List.mem_of_getElem? (i := 67) rfl))) (hw _ (List.mem_of_getElem? (i := 2) rfl)) (ty := (.array .long)) (by decide) rfl rfl g_o d8_51 rfl fun T31 h34 X32 W33 => ?_
    have f35 : Exa Z h34 o1 "com/example/driftwalk/driftwalk/graph/NodeTable" := Exa.wr W33 f20
    have f36 : Fld Z h34 o1 "com/example/driftwalk/driftwalk/graph/NodeTable" "largest" "I" (.int (-1 : Int32)) := Fld.other W33 f21 (Or.inr (slot_ne (Or.inl (hw _ (List.mem_of_getElem? (i := 11) rfl))) (Or.inl (hw _ (List.mem_of_getElem? (i := 67) rfl))) (by decide) (t := .int) (t' := (.array .long)) (by decide) (by decide)))
    have f37 : Fld Z h34 o1 "com/example/driftwalk/driftwalk/graph/NodeTable" "bound" "I" (.int bd) := Fld.other W33 f22 (Or.inr (slot_ne (Or.inr (hw _ (List.mem_of_getElem? (i := 13) rfl))) (Or.inl (hw _ (List.mem_of_getElem? (i := 67) rfl))) (by decide) (t := .int) (t' := (.array .long)) (by decide) (by decide)))
    have f38 : Fld Z h34 o1 "com/example/driftwalk/driftwalk/graph/NodeTable" "values" "[I" .null := Fld.other W33 f23 (Or.inr (slot_ne (Or.inl (hw _ (List.mem_of_getElem? (i := 21) rfl))) (Or.inl (hw _ (List.mem_of_getElem? (i := 67) rfl))) (by decide) (t := (.array .int)) (t' := (.array .long)) (by decide) (by decide)))
    have f39 : Fld Z h34 o1 "com/example/driftwalk/driftwalk/graph/NodeTable" "base" "I" (.int (0 : Int32)) := Fld.other W33 f24 (Or.inr (slot_ne (Or.inl (hw _ (List.mem_of_getElem? (i := 37) rfl))) (Or.inl (hw _ (List.mem_of_getElem? (i := 67) rfl))) (by decide) (t := .int) (t' := (.array .long)) (by decide) (by decide)))
    have f40 : Fld Z h34 o1 "com/example/driftwalk/driftwalk/graph/NodeTable" "slots" "[J" (.ref a13) := Fld.same W33 f25
    have f41 : Fld Z h34 o1 "com/example/driftwalk/driftwalk/graph/NodeTable" "mask" "I" (.int (0 : Int32)) := Fld.other W33 f26 (Or.inr (slot_ne (Or.inl (hw _ (List.mem_of_getElem? (i := 70) rfl))) (Or.inl (hw _ (List.mem_of_getElem? (i := 67) rfl))) (by decide) (t := .int) (t' := (.array .long)) (by decide) (by decide)))
    have f42 : Fld Z h34 o1 "com/example/driftwalk/driftwalk/graph/NodeTable" "size" "I" (.int (0 : Int32)) := Fld.other W33 f27 (Or.inr (slot_ne (Or.inl (hw _ (List.mem_of_getElem? (i := 72) rfl))) (Or.inl (hw _ (List.mem_of_getElem? (i := 67) rfl))) (by decide) (t := .int) (t' := (.array .long)) (by decide) (by decide)))
    have f43 : Fld Z h34 o1 "com/example/driftwalk/driftwalk/graph/NodeTable" "smallest" "I" (.int (0 : Int32)) := Fld.other W33 f28 (Or.inr (slot_ne (Or.inl (hw _ (List.mem_of_getElem? (i := 104) rfl))) (Or.inl (hw _ (List.mem_of_getElem? (i := 67) rfl))) (by decide) (t := .int) (t' := (.array .long)) (by decide) (by decide)))
    have f44 : AV Z h34 a13 .long [(.long (0 : Int64)), (.long (0 : Int64)), (.long (0 : Int64)), (.long (0 : Int64)), (.long (0 : Int64)), (.long (0 : Int64)), (.long (0 : Int64)), (.long (0 : Int64)), (.long (0 : Int64)), (.long (0 : Int64)), (.long (0 : Int64)), (.long (0 : Int64)), (.long (0 : Int64)), (.long (0 : Int64)), (.long (0 : Int64)), (.long (0 : Int64))] := f30.other W33 (Ne.symm ne18)
    have k45 : Keep h0 h34 [o1] := k29.wr W33 (Or.inl (List.mem_of_getElem? (i := 0) rfl))
    refine w_aloadN X32 d8_54 rfl rfl rfl ?_
    refine w_null X32 d8_55 rfl ?_
    refine w_putF X32 (host := "") (Or.inl (hw _ (List.mem_of_getElem? (i := 20) rfl))) Via.refl f38 f35 (Or.inl (hw _ (List.mem_of_getElem? (i := 21) rfl))) (hw _ (List.mem_of_getElem? (i := 2) rfl)) (ty := (.array .int)) (by decide) rfl rfl g_o d8_56 rfl fun T46 h49 X47 W48 => ?_
    have f50 : Exa Z h49 o1 "com/example/driftwalk/driftwalk/graph/NodeTable" := Exa.wr W48 f35
    have f51 : Fld Z h49 o1 "com/example/driftwalk/driftwalk/graph/NodeTable" "largest" "I" (.int (-1 : Int32)) := Fld.other W48 f36 (Or.inr (slot_ne (Or.inl (hw _ (List.mem_of_getElem? (i := 11) rfl))) (Or.inl (hw _ (List.mem_of_getElem? (i := 21) rfl))) (by decide) (t := .int) (t' := (.array .int)) (by decide) (by decide)))
    have f52 : Fld Z h49 o1 "com/example/driftwalk/driftwalk/graph/NodeTable" "bound" "I" (.int bd) := Fld.other W48 f37 (Or.inr (slot_ne (Or.inr (hw _ (List.mem_of_getElem? (i := 13) rfl))) (Or.inl (hw _ (List.mem_of_getElem? (i := 21) rfl))) (by decide) (t := .int) (t' := (.array .int)) (by decide) (by decide)))
    have f53 : Fld Z h49 o1 "com/example/driftwalk/driftwalk/graph/NodeTable" "values" "[I" .null := Fld.same W48 f38
    have f54 : Fld Z h49 o1 "com/example/driftwalk/driftwalk/graph/NodeTable" "base" "I" (.int (0 : Int32)) := Fld.other W48 f39 (Or.inr (slot_ne (Or.inl (hw _ (List.mem_of_getElem? (i := 37) rfl))) (Or.inl (hw _ (List.mem_of_getElem? (i := 21) rfl))) (by decide) (t := .int) (t' := (.array .int)) (by decide) (by decide)))
    have f55 : Fld Z h49 o1 "com/example/driftwalk/driftwalk/graph/NodeTable" "slots" "[J" (.ref a13) := Fld.other W48 f40 (Or.inr (slot_ne (Or.inl (hw _ (List.mem_of_getElem? (i := 67) rfl))) (Or.inl (hw _ (List.mem_of_getElem? (i := 21) rfl))) (by decide) (t := (.array .long)) (t' := (.array .int)) (by decide) (by decide)))
    have f56 : Fld Z h49 o1 "com/example/driftwalk/driftwalk/graph/NodeTable" "mask" "I" (.int (0 : Int32)) := Fld.other W48 f41 (Or.inr (slot_ne (Or.inl (hw _ (List.mem_of_getElem? (i := 70) rfl))) (Or.inl (hw _ (List.mem_of_getElem? (i := 21) rfl))) (by decide) (t := .int) (t' := (.array .int)) (by decide) (by decide)))
    have f57 : Fld Z h49 o1 "com/example/driftwalk/driftwalk/graph/NodeTable" "size" "I" (.int (0 : Int32)) := Fld.other W48 f42 (Or.inr (slot_ne (Or.inl (hw _ (List.mem_of_getElem? (i := 72) rfl))) (Or.inl (hw _ (List.mem_of_getElem? (i := 21) rfl))) (by decide) (t := .int) (t' := (.array .int)) (by decide) (by decide)))
    have f58 : Fld Z h49 o1 "com/example/driftwalk/driftwalk/graph/NodeTable" "smallest" "I" (.int (0 : Int32)) := Fld.other W48 f43 (Or.inr (slot_ne (Or.inl (hw _ (List.mem_of_getElem? (i := 104) rfl))) (Or.inl (hw _ (List.mem_of_getElem? (i := 21) rfl))) (by decide) (t := .int) (t' := (.array .int)) (by decide) (by decide)))
    have f59 : AV Z h49 a13 .long [(.long (0 : Int64)), (.long (0 : Int64)), (.long (0 : Int64)), (.long (0 : Int64)), (.long (0 : Int64)), (.long (0 : Int64)), (.long (0 : Int64)), (.long (0 : Int64)), (.long (0 : Int64)), (.long (0 : Int64)), (.long (0 : Int64)), (.long (0 : Int64)), (.long (0 : Int64)), (.long (0 : Int64)), (.long (0 : Int64)), (.long (0 : Int64))] := f44.other W48 (Ne.symm ne18)
    have k60 : Keep h0 h49 [o1] := k45.wr W48 (Or.inl (List.mem_of_getElem? (i := 0) rfl))
    refine w_aloadN X47 d8_59 rfl rfl rfl ?_
    refine w_iloadN X47 d8_60 rfl rfl ?_
    refine w_iconst X47 d8_61 (v := (1 : Int32)) rfl rfl ?_
    refine w_isub X47 d8_62 rfl ?_
    refine w_putF X47 (host := "") (Or.inl (hw _ (List.mem_of_getElem? (i := 69) rfl))) Via.refl f56 f50 (Or.inl (hw _ (List.mem_of_getElem? (i := 70) rfl))) (hw _ (List.mem_of_getElem? (i := 2) rfl)) (ty := .int) (by decide) rfl rfl g_o d8_63 rfl fun T61 h64 X62 W63 => ?_
    have f65 : Exa Z h64 o1 "com/example/driftwalk/driftwalk/graph/NodeTable" := Exa.wr W63 f50
    have f66 : Fld Z h64 o1 "com/example/driftwalk/driftwalk/graph/NodeTable" "largest" "I" (.int (-1 : Int32)) := Fld.other W63 f51 (Or.inr (slot_ne (Or.inl (hw _ (List.mem_of_getElem? (i := 11) rfl))) (Or.inl (hw _ (List.mem_of_getElem? (i := 70) rfl))) (by decide) (t := .int) (t' := .int) (by decide) (by decide)))
    have f67 : Fld Z h64 o1 "com/example/driftwalk/driftwalk/graph/NodeTable" "bound" "I" (.int bd) := Fld.other W63 f52 (Or.inr (slot_ne (Or.inr (hw _ (List.mem_of_getElem? (i := 13) rfl))) (Or.inl (hw _ (List.mem_of_getElem? (i := 70) rfl))) (by decide) (t := .int) (t' := .int) (by decide) (by decide)))
    have f68 : Fld Z h64 o1 "com/example/driftwalk/driftwalk/graph/NodeTable" "values" "[I" .null := Fld.other W63 f53 (Or.inr (slot_ne (Or.inl (hw _ (List.mem_of_getElem? (i := 21) rfl))) (Or.inl (hw _ (List.mem_of_getElem? (i := 70) rfl))) (by decide) (t := (.array .int)) (t' := .int) (by decide) (by decide)))
    have f69 : Fld Z h64 o1 "com/example/driftwalk/driftwalk/graph/NodeTable" "base" "I" (.int (0 : Int32)) := Fld.other W63 f54 (Or.inr (slot_ne (Or.inl (hw _ (List.mem_of_getElem? (i := 37) rfl))) (Or.inl (hw _ (List.mem_of_getElem? (i := 70) rfl))) (by decide) (t := .int) (t' := .int) (by decide) (by decide)))
    have f70 : Fld Z h64 o1 "com/example/driftwalk/driftwalk/graph/NodeTable" "slots" "[J" (.ref a13) := Fld.other W63 f55 (Or.inr (slot_ne (Or.inl (hw _ (List.mem_of_getElem? (i := 67) rfl))) (Or.inl (hw _ (List.mem_of_getElem? (i := 70) rfl))) (by decide) (t := (.array .long)) (t' := .int) (by decide) (by decide)))
    have f71 : Fld Z h64 o1 "com/example/driftwalk/driftwalk/graph/NodeTable" "mask" "I" (.int ((16 : Int32) - (1 : Int32))) := Fld.same W63 f56
    have f72 : Fld Z h64 o1 "com/example/driftwalk/driftwalk/graph/NodeTable" "size" "I" (.int (0 : Int32)) := Fld.other W63 f57 (Or.inr (slot_ne (Or.inl (hw _ (List.mem_of_getElem? (i := 72) rfl))) (Or.inl (hw _ (List.mem_of_getElem? (i := 70) rfl))) (by decide) (t := .int) (t' := .int) (by decide) (by decide)))
    have f73 : Fld Z h64 o1 "com/example/driftwalk/driftwalk/graph/NodeTable" "smallest" "I" (.int (0 : Int32)) := Fld.other W63 f58 (Or.inr (slot_ne (Or.inl (hw _ (List.mem_of_getElem? (i := 104) rfl))) (Or.inl (hw _ (List.mem_of_getElem? (i := 70) rfl))) (by decide) (t := .int) (t' := .int) (by decide) (by decide)))
    have f74 : AV Z h64 a13 .long [(.long (0 : Int64)), (.long (0 : Int64)), (.long (0 : Int64)), (.long (0 : Int64)), (.long (0 : Int64)), (.long (0 : Int64)), (.long (0 : Int64)), (.long (0 : Int64)), (.long (0 : Int64)), (.long (0 : Int64)), (.long (0 : Int64)), (.long (0 : Int64)), (.long (0 : Int64)), (.long (0 : Int64)), (.long (0 : Int64)), (.long (0 : Int64))] := f59.other W63 (Ne.symm ne18)
    have k75 : Keep h0 h64 [o1] := k60.wr W63 (Or.inl (List.mem_of_getElem? (i := 0) rfl))
    refine w_aloadN X62 d8_66 rfl rfl rfl ?_
    refine w_iconst X62 d8_67 (v := (0 : Int32)) rfl rfl ?_
    refine w_putF X62 (host := "") (Or.inl (hw _ (List.mem_of_getElem? (i := 71) rfl))) Via.refl f72 f65 (Or.inl (hw _ (List.mem_of_getElem? (i := 72) rfl))) (hw _ (List.mem_of_getElem? (i := 2) rfl)) (ty := .int) (by decide) rfl rfl g_o d8_68 rfl fun T76 h79 X77 W78 => ?_
    have f80 : Exa Z h79 o1 "com/example/driftwalk/driftwalk/graph/NodeTable" := Exa.wr W78 f65
    have f81 : Fld Z h79 o1 "com/example/driftwalk/driftwalk/graph/NodeTable" "largest" "I" (.int (-1 : Int32)) := Fld.other W78 f66 (Or.inr (slot_ne (Or.inl (hw _ (List.mem_of_getElem? (i := 11) rfl))) (Or.inl (hw _ (List.mem_of_getElem? (i := 72) rfl))) (by decide) (t := .int) (t' := .int) (by decide) (by decide)))
    have f82 : Fld Z h79 o1 "com/example/driftwalk/driftwalk/graph/NodeTable" "bound" "I" (.int bd) := Fld.other W78 f67 (Or.inr (slot_ne (Or.inr (hw _ (List.mem_of_getElem? (i := 13) rfl))) (Or.inl (hw _ (List.mem_of_getElem? (i := 72) rfl))) (by decide) (t := .int) (t' := .int) (by decide) (by decide)))
    have f83 : Fld Z h79 o1 "com/example/driftwalk/driftwalk/graph/NodeTable" "values" "[I" .null := Fld.other W78 f68 (Or.inr (slot_ne (Or.inl (hw _ (List.mem_of_getElem? (i := 21) rfl))) (Or.inl (hw _ (List.mem_of_getElem? (i := 72) rfl))) (by decide) (t := (.array .int)) (t' := .int) (by decide) (by decide)))
    have f84 : Fld Z h79 o1 "com/example/driftwalk/driftwalk/graph/NodeTable" "base" "I" (.int (0 : Int32)) := Fld.other W78 f69 (Or.inr (slot_ne (Or.inl (hw _ (List.mem_of_getElem? (i := 37) rfl))) (Or.inl (hw _ (List.mem_of_getElem? (i := 72) rfl))) (by decide) (t := .int) (t' := .int) (by decide) (by decide)))
    have f85 : Fld Z h79 o1 "com/example/driftwalk/driftwalk/graph/NodeTable" "slots" "[J" (.ref a13) := Fld.other W78 f70 (Or.inr (slot_ne (Or.inl (hw _ (List.mem_of_getElem? (i := 67) rfl))) (Or.inl (hw _ (List.mem_of_getElem? (i := 72) rfl))) (by decide) (t := (.array .long)) (t' := .int) (by decide) (by decide)))
    have f86 : Fld Z h79 o1 "com/example/driftwalk/driftwalk/graph/NodeTable" "mask" "I" (.int ((16 : Int32) - (1 : Int32))) := Fld.other W78 f71 (Or.inr (slot_ne (Or.inl (hw _ (List.mem_of_getElem? (i := 70) rfl))) (Or.inl (hw _ (List.mem_of_getElem? (i := 72) rfl))) (by decide) (t := .int) (t' := .int) (by decide) (by decide)))
    have f87 : Fld Z h79 o1 "com/example/driftwalk/driftwalk/graph/NodeTable" "size" "I" (.int (0 : Int32)) := Fld.same W78 f72
    have f88 : Fld Z h79 o1 "com/example/driftwalk/driftwalk/graph/NodeTable" "smallest" "I" (.int (0 : Int32)) := Fld.other W78 f73 (Or.inr (slot_ne (Or.inl (hw _ (List.mem_of_getElem? (i := 104) rfl))) (Or.inl (hw _ (List.mem_of_getElem? (i := 72) rfl))) (by decide) (t := .int) (t' := .int) (by decide) (by decide)))
    have f89 : AV Z h79 a13 .long [(.long (0 : Int64)), (.long (0 : Int64)), (.long (0 : Int64)), (.long (0 : Int64)), (.long (0 : Int64)), (.long (0 : Int64)), (.long (0 : Int64)), (.long (0 : Int64)), (.long (0 : Int64)), (.long (0 : Int64)), (.long (0 : Int64)), (.long (0 : Int64)), (.long (0 : Int64)), (.long (0 : Int64)), (.long (0 : Int64)), (.long (0 : Int64))] := f74.other W78 (Ne.symm ne18)
    have k90 : Keep h0 h79 [o1] := k75.wr W78 (Or.inl (List.mem_of_getElem? (i := 0) rfl))
    refine w_aloadN X77 d8_71 rfl rfl rfl ?_
    refine w_iconst X77 d8_72 (v := (-1 : Int32)) rfl rfl ?_
    refine w_putF X77 (host := "") (Or.inl (hw _ (List.mem_of_getElem? (i := 10) rfl))) Via.refl f81 f80 (Or.inl (hw _ (List.mem_of_getElem? (i := 11) rfl))) (hw _ (List.mem_of_getElem? (i := 2) rfl)) (ty := .int) (by decide) rfl rfl g_o d8_73 rfl fun T91 h94 X92 W93 => ?_
    have f95 : Exa Z h94 o1 "com/example/driftwalk/driftwalk/graph/NodeTable" := Exa.wr W93 f80
    have f96 : Fld Z h94 o1 "com/example/driftwalk/driftwalk/graph/NodeTable" "largest" "I" (.int (-1 : Int32)) := Fld.same W93 f81
    have f97 : Fld Z h94 o1 "com/example/driftwalk/driftwalk/graph/NodeTable" "bound" "I" (.int bd) := Fld.other W93 f82 (Or.inr (slot_ne (Or.inr (hw _ (List.mem_of_getElem? (i := 13) rfl))) (Or.inl (hw _ (List.mem_of_getElem? (i := 11) rfl))) (by decide) (t := .int) (t' := .int) (by decide) (by decide)))
    have f98 : Fld Z h94 o1 "com/example/driftwalk/driftwalk/graph/NodeTable" "values" "[I" .null := Fld.other W93 f83 (Or.inr (slot_ne (Or.inl (hw _ (List.mem_of_getElem? (i := 21) rfl))) (Or.inl (hw _ (List.mem_of_getElem? (i := 11) rfl))) (by decide) (t := (.array .int)) (t' := .int) (by decide) (by decide)))
    have f99 : Fld Z h94 o1 "com/example/driftwalk/driftwalk/graph/NodeTable" "base" "I" (.int (0 : Int32)) := Fld.other W93 f84 (Or.inr (slot_ne (Or.inl (hw _ (List.mem_of_getElem? (i := 37) rfl))) (Or.inl (hw _ (List.mem_of_getElem? (i := 11) rfl))) (by decide) (t := .int) (t' := .int) (by decide) (by decide)))
    have f100 : Fld Z h94 o1 "com/example/driftwalk/driftwalk/graph/NodeTable" "slots" "[J" (.ref a13) := Fld.other W93 f85 (Or.inr (slot_ne (Or.inl (hw _ (List.mem_of_getElem? (i := 67) rfl))) (Or.inl (hw _ (List.mem_of_getElem? (i := 11) rfl))) (by decide) (t := (.array .long)) (t' := .int) (by decide) (by decide)))
    have f101 : Fld Z h94 o1 "com/example/driftwalk/driftwalk/graph/NodeTable" "mask" "I" (.int ((16 : Int32) - (1 : Int32))) := Fld.other W93 f86 (Or.inr (slot_ne (Or.inl (hw _ (List.mem_of_getElem? (i := 70) rfl))) (Or.inl (hw _ (List.mem_of_getElem? (i := 11) rfl))) (by decide) (t := .int) (t' := .int) (by decide) (by decide)))
    have f102 : Fld Z h94 o1 "com/example/driftwalk/driftwalk/graph/NodeTable" "size" "I" (.int (0 : Int32)) := Fld.other W93 f87 (Or.inr (slot_ne (Or.inl (hw _ (List.mem_of_getElem? (i := 72) rfl))) (Or.inl (hw _ (List.mem_of_getElem? (i := 11) rfl))) (by decide) (t := .int) (t' := .int) (by decide) (by decide)))
    have f103 : Fld Z h94 o1 "com/example/driftwalk/driftwalk/graph/NodeTable" "smallest" "I" (.int (0 : Int32)) := Fld.other W93 f88 (Or.inr (slot_ne (Or.inl (hw _ (List.mem_of_getElem? (i := 104) rfl))) (Or.inl (hw _ (List.mem_of_getElem? (i := 11) rfl))) (by decide) (t := .int) (t' := .int) (by decide) (by decide)))
    have f104 : AV Z h94 a13 .long [(.long (0 : Int64)), (.long (0 : Int64)), (.long (0 : Int64)), (.long (0 : Int64)), (.long (0 : Int64)), (.long (0 : Int64)), (.long (0 : Int64)), (.long (0 : Int64)), (.long (0 : Int64)), (.long (0 : Int64)), (.long (0 : Int64)), (.long (0 : Int64)), (.long (0 : Int64)), (.long (0 : Int64)), (.long (0 : Int64)), (.long (0 : Int64))] := f89.other W93 (Ne.symm ne18)
    have k105 : Keep h0 h94 [o1] := k90.wr W93 (Or.inl (List.mem_of_getElem? (i := 0) rfl))
    refine w_aloadN X92 d8_76 rfl rfl rfl ?_
    refine w_getF X92 (host := "") (Or.inl (hw _ (List.mem_of_getElem? (i := 66) rfl))) Via.refl f100 d8_77 rfl fun T106 X107 => ?_
    refine w_iconst X107 d8_80 (v := (0 : Int32)) rfl rfl ?_
    refine w_iloadN X107 d8_81 rfl rfl ?_
    refine w_ldc2Long X107 (hw _ (List.mem_of_getElem? (i := 73) rfl)) d8_82 rfl ?_
    refine w_static0 X107 (rm_fill l Z a0 hw a13 h94 n0 X107.size f104 gn15) (hw _ (List.mem_of_getElem? (i := 74) rfl)) (hw _ (List.mem_of_getElem? (i := 75) rfl)) (hw _ (List.mem_of_getElem? (i := 76) rfl)) (hw _ (List.mem_of_getElem? (i := 77) rfl)) (by decide) (argsL := [(.ref a13), (.int (0 : Int32)), (.int (16 : Int32)), (.long (-1 : Int64))]) (rest := []) rfl (lenOf pd_4 rfl) rfl (W := 0) rfl (by decide) (by decide) (by decide) (by decide) d8_85 rfl fun T108 h109 X110 q111 => ?_
    obtain ⟨K112, A113⟩ := q111
    have f114 : Exa Z h109 o1 "com/example/driftwalk/driftwalk/graph/NodeTable" := f95.keep K112
    have f115 : Fld Z h109 o1 "com/example/driftwalk/driftwalk/graph/NodeTable" "largest" "I" (.int (-1 : Int32)) := f96.keep K112 (ninS ne18 nin0)
    have f116 : Fld Z h109 o1 "com/example/driftwalk/driftwalk/graph/NodeTable" "bound" "I" (.int bd) := f97.keep K112 (ninS ne18 nin0)
    have f117 : Fld Z h109 o1 "com/example/driftwalk/driftwalk/graph/NodeTable" "values" "[I" .null := f98.keep K112 (ninS ne18 nin0)
    have f118 : Fld Z h109 o1 "com/example/driftwalk/driftwalk/graph/NodeTable" "base" "I" (.int (0 : Int32)) := f99.keep K112 (ninS ne18 nin0)
    have f119 : Fld Z h109 o1 "com/example/driftwalk/driftwalk/graph/NodeTable" "slots" "[J" (.ref a13) := f100.keep K112 (ninS ne18 nin0)
    have f120 : Fld Z h109 o1 "com/example/driftwalk/driftwalk/graph/NodeTable" "mask" "I" (.int ((16 : Int32) - (1 : Int32))) := f101.keep K112 (ninS ne18 nin0)
    have f121 : Fld Z h109 o1 "com/example/driftwalk/driftwalk/graph/NodeTable" "size" "I" (.int (0 : Int32)) := f102.keep K112 (ninS ne18 nin0)
    have f122 : Fld Z h109 o1 "com/example/driftwalk/driftwalk/graph/NodeTable" "smallest" "I" (.int (0 : Int32)) := f103.keep K112 (ninS ne18 nin0)
    have k123 : Keep h0 h109 [o1] := k105.trans K112 (allS (Or.inr g019) all0)
    exact w_return X110 d8_88 rfl ⟨a13, gn15, g019, k123, ⟨f114, f115, f116, f117, f118, f119, f120, f121, f122, A113⟩⟩ (by decide) (by decide)
  · exact False.elim (c5 hsm)
theorem d1_0 : decode prog_79_method_2_code 0 = .ok (.aload_n 0, 1) := by decide +kernel
theorem d1_1 : decode prog_79_method_2_code 1 = .ok (.invokespecial 10, 3) := by decide +kernel
theorem d1_4 : decode prog_79_method_2_code 4 = .ok (.aload_n 0, 1) := by decide +kernel
theorem d1_5 : decode prog_79_method_2_code 5 = .ok (.iconst (-1), 1) := by decide +kernel
theorem d1_6 : decode prog_79_method_2_code 6 = .ok (.putfield 15, 3) := by decide +kernel
theorem d1_9 : decode prog_79_method_2_code 9 = .ok (.aload_n 0, 1) := by decide +kernel
theorem d1_10 : decode prog_79_method_2_code 10 = .ok (.iload_n 1, 1) := by decide +kernel
theorem d1_11 : decode prog_79_method_2_code 11 = .ok (.putfield 19, 3) := by decide +kernel
theorem d1_14 : decode prog_79_method_2_code 14 = .ok (.iload_n 1, 1) := by decide +kernel
theorem d1_15 : decode prog_79_method_2_code 15 = .ok (.invokestatic 22, 3) := by decide +kernel
theorem d1_18 : decode prog_79_method_2_code 18 = .ok (.ifCond .eq 13, 3) := by decide +kernel
theorem d1_31 : decode prog_79_method_2_code 31 = .ok (.aload_n 0, 1) := by decide +kernel
theorem d1_32 : decode prog_79_method_2_code 32 = .ok (.iconst 0, 1) := by decide +kernel
theorem d1_33 : decode prog_79_method_2_code 33 = .ok (.invokevirtual 30, 3) := by decide +kernel
theorem d1_36 : decode prog_79_method_2_code 36 = .ok (.return_, 1) := by decide +kernel
theorem pd_5 : parseMethodDescriptor "(I)V" = some ⟨[.int], none⟩ := by decide +kernel
theorem pn_1 : plainName "com/example/driftwalk/driftwalk/graph/NodeTable" = true := by first | (simp [plainName, overriddenIn]; done) | decide +kernel
theorem ef_1 (m : MethodId) (o1 : Addr) (p2 : Int32) : entryFrame m #[(.ref o1), (.int p2)] 2 = mkF m 0 #[.val (.ref o1), .val (.int p2)] [] := by first | (simp [entryFrame, mkF, argsToLocals, Value.category]; done) | rfl
set_option maxRecDepth 65536 in
set_option maxHeartbeats 4000000 in
theorem rm_initL (l : Launch) (Z : State) (a0 : Array Value) (hw : ∀ d ∈ tables_1, d.before a0 Z = true) (o1 : Addr) (p2 : Int32) (h0 : Heap) (n0 : Nat) (Z0 : n0 ≤ h0.size) (E_o : Exa Z h0 o1 "com/example/driftwalk/driftwalk/graph/NodeTable") (F_largest : Fld Z h0 o1 "com/example/driftwalk/driftwalk/graph/NodeTable" "largest" "I" (.int (0 : Int32))) (F_bound : Fld Z h0 o1 "com/example/driftwalk/driftwalk/graph/NodeTable" "bound" "I" (.int (0 : Int32))) (F_values : Fld Z h0 o1 "com/example/driftwalk/driftwalk/graph/NodeTable" "values" "[I" .null) (F_base : Fld Z h0 o1 "com/example/driftwalk/driftwalk/graph/NodeTable" "base" "I" (.int (0 : Int32))) (F_slots : Fld Z h0 o1 "com/example/driftwalk/driftwalk/graph/NodeTable" "slots" "[J" .null) (F_mask : Fld Z h0 o1 "com/example/driftwalk/driftwalk/graph/NodeTable" "mask" "I" (.int (0 : Int32))) (F_size : Fld Z h0 o1 "com/example/driftwalk/driftwalk/graph/NodeTable" "size" "I" (.int (0 : Int32))) (F_smallest : Fld Z h0 o1 "com/example/driftwalk/driftwalk/graph/NodeTable" "smallest" "I" (.int (0 : Int32))) (g_o : n0 ≤ o1) (hsm : f_small p2 = 0) :
    Con l Z (⟨"com/example/driftwalk/driftwalk/graph/NodeTable", "<init>", "(I)V"⟩ : MethodName) prog_79_method_2_code 2 none ({ frames := 4, cells := 1, slots := 16, locals := 54 } : Room) #[(.ref o1), (.int p2)] h0 n0 none (fun h => ∃ sl, n0 ≤ sl ∧ h0.size ≤ sl ∧ Keep h0 h [o1] ∧ NTs Z h o1 sl x16 0 0 (-1) p2) := by
  refine con_of (plainFor_of_name pn_1) Z0 (fun m => ef_1 m o1 p2) ?_
  intro p e s m below meth c T0 X0
  refine w_aloadN X0 d1_0 rfl rfl rfl ?_
  refine w_initO X0 (W := 0) (hw _ (List.mem_of_getElem? (i := 7) rfl)) (hw _ (List.mem_of_getElem? (i := 8) rfl)) (hw _ (List.mem_of_getElem? (i := 9) rfl)) rfl rfl (by decide) (by decide) d1_1 rfl fun T1 X2 => ?_
  refine w_aloadN X2 d1_4 rfl rfl rfl ?_
  refine w_iconst X2 d1_5 (v := (-1 : Int32)) rfl rfl ?_
  refine w_putF X2 (host := "") (Or.inl (hw _ (List.mem_of_getElem? (i := 10) rfl))) Via.refl F_largest E_o (Or.inl (hw _ (List.mem_of_getElem? (i := 11) rfl))) (hw _ (List.mem_of_getElem? (i := 2) rfl)) (ty := .int) (by decide) rfl rfl g_o d1_6 rfl fun T3 h6 X4 W5 => ?_
  have f7 : Exa Z h6 o1 "com/example/driftwalk/driftwalk/graph/NodeTable" := Exa.wr W5 E_o
  have f8 : Fld Z h6 o1 "com/example/driftwalk/driftwalk/graph/NodeTable" "largest" "I" (.int (-1 : Int32)) := Fld.same W5 F_largest
  have f9 : Fld Z h6 o1 "com/example/driftwalk/driftwalk/graph/NodeTable" "bound" "I" (.int (0 : Int32)) := Fld.other W5 F_bound (Or.inr (slot_ne (Or.inr (hw _ (List.mem_of_getElem? (i := 13) rfl))) (Or.inl (hw _ (List.mem_of_getElem? (i := 11) rfl))) (by decide) (t := .int) (t' := .int) (by decide) (by decide)))
  have f10 : Fld Z h6 o1 "com/example/driftwalk/driftwalk/graph/NodeTable" "values" "[I" .null := Fld.other W5 F_values (Or.inr (slot_ne (Or.inl (hw _ (List.mem_of_getElem? (i := 21) rfl))) (Or.inl (hw _ (List.mem_of_getElem? (i := 11) rfl))) (by decide) (t := (.array .int)) (t' := .int) (by decide) (by decide)))
  have f11 : Fld Z h6 o1 "com/example/driftwalk/driftwalk/graph/NodeTable" "base" "I" (.int (0 : Int32)) := Fld.other W5 F_base (Or.inr (slot_ne (Or.inl (hw _ (List.mem_of_getElem? (i := 37) rfl))) (Or.inl (hw _ (List.mem_of_getElem? (i := 11) rfl))) (by decide) (t := .int) (t' := .int) (by decide) (by decide)))
  have f12 : Fld Z h6 o1 "com/example/driftwalk/driftwalk/graph/NodeTable" "slots" "[J" .null := Fld.other W5 F_slots (Or.inr (slot_ne (Or.inl (hw _ (List.mem_of_getElem? (i := 67) rfl))) (Or.inl (hw _ (List.mem_of_getElem? (i := 11) rfl))) (by decide) (t := (.array .long)) (t' := .int) (by decide) (by decide)))
  have f13 : Fld Z h6 o1 "com/example/driftwalk/driftwalk/graph/NodeTable" "mask" "I" (.int (0 : Int32)) := Fld.other W5 F_mask (Or.inr (slot_ne (Or.inl (hw _ (List.mem_of_getElem? (i := 70) rfl))) (Or.inl (hw _ (List.mem_of_getElem? (i := 11) rfl))) (by decide) (t := .int) (t' := .int) (by decide) (by decide)))
  have f14 : Fld Z h6 o1 "com/example/driftwalk/driftwalk/graph/NodeTable" "size" "I" (.int (0 : Int32)) := Fld.other W5 F_size (Or.inr (slot_ne (Or.inl (hw _ (List.mem_of_getElem? (i := 72) rfl))) (Or.inl (hw _ (List.mem_of_getElem? (i := 11) rfl))) (by decide) (t := .int) (t' := .int) (by decide) (by decide)))
  have f15 : Fld Z h6 o1 "com/example/driftwalk/driftwalk/graph/NodeTable" "smallest" "I" (.int (0 : Int32)) := Fld.other W5 F_smallest (Or.inr (slot_ne (Or.inl (hw _ (List.mem_of_getElem? (i := 104) rfl))) (Or.inl (hw _ (List.mem_of_getElem? (i := 11) rfl))) (by decide) (t := .int) (t' := .int) (by decide) (by decide)))
  have k16 : Keep h0 h6 [o1] := (Keep.refl h0 [o1]).wr W5 (Or.inl (List.mem_of_getElem? (i := 0) rfl))
  refine w_aloadN X4 d1_9 rfl rfl rfl ?_
  refine w_iloadN X4 d1_10 rfl rfl ?_
  refine w_putF X4 (host := "") (Or.inl (hw _ (List.mem_of_getElem? (i := 12) rfl))) Via.refl f9 f7 (Or.inr ⟨(hw _ (List.mem_of_getElem? (i := 13) rfl)), rfl, rfl⟩) (hw _ (List.mem_of_getElem? (i := 2) rfl)) (ty := .int) (by decide) rfl rfl g_o d1_11 rfl fun T17 h20 X18 W19 => ?_
  have f21 : Exa Z h20 o1 "com/example/driftwalk/driftwalk/graph/NodeTable" := Exa.wr W19 f7
  have f22 : Fld Z h20 o1 "com/example/driftwalk/driftwalk/graph/NodeTable" "largest" "I" (.int (-1 : Int32)) := Fld.other W19 f8 (Or.inr (slot_ne (Or.inl (hw _ (List.mem_of_getElem? (i := 11) rfl))) (Or.inr (hw _ (List.mem_of_getElem? (i := 13) rfl))) (by decide) (t := .int) (t' := .int) (by decide) (by decide)))
  have f23 : Fld Z h20 o1 "com/example/driftwalk/driftwalk/graph/NodeTable" "bound" "I" (.int p2) := Fld.same W19 f9
  have f24 : Fld Z h20 o1 "com/example/driftwalk/driftwalk/graph/NodeTable" "values" "[I" .null := Fld.other W19 f10 (Or.inr (slot_ne (Or.inl (hw _ (List.mem_of_getElem? (i := 21) rfl))) (Or.inr (hw _ (List.mem_of_getElem? (i := 13) rfl))) (by decide) (t := (.array .int)) (t' := .int) (by decide) (by decide)))
  have f25 : Fld Z h20 o1 "com/example/driftwalk/driftwalk/graph/NodeTable" "base" "I" (.int (0 : Int32)) := Fld.other W19 f11 (Or.inr (slot_ne (Or.inl (hw _ (List.mem_of_getElem? (i := 37) rfl))) (Or.inr (hw _ (List.mem_of_getElem? (i := 13) rfl))) (by decide) (t := .int) (t' := .int) (by decide) (by decide)))
  have f26 : Fld Z h20 o1 "com/example/driftwalk/driftwalk/graph/NodeTable" "slots" "[J" .null := Fld.other W19 f12 (Or.inr (slot_ne (Or.inl (hw _ (List.mem_of_getElem? (i := 67) rfl))) (Or.inr (hw _ (List.mem_of_getElem? (i := 13) rfl))) (by decide) (t := (.array .long)) (t' := .int) (by decide) (by decide)))
  have f27 : Fld Z h20 o1 "com/example/driftwalk/driftwalk/graph/NodeTable" "mask" "I" (.int (0 : Int32)) := Fld.other W19 f13 (Or.inr (slot_ne (Or.inl (hw _ (List.mem_of_getElem? (i := 70) rfl))) (Or.inr (hw _ (List.mem_of_getElem? (i := 13) rfl))) (by decide) (t := .int) (t' := .int) (by decide) (by decide)))
  have f28 : Fld Z h20 o1 "com/example/driftwalk/driftwalk/graph/NodeTable" "size" "I" (.int (0 : Int32)) := Fld.other W19 f14 (Or.inr (slot_ne (Or.inl (hw _ (List.mem_of_getElem? (i := 72) rfl))) (Or.inr (hw _ (List.mem_of_getElem? (i := 13) rfl))) (by decide) (t := .int) (t' := .int) (by decide) (by decide)))
  have f29 : Fld Z h20 o1 "com/example/driftwalk/driftwalk/graph/NodeTable" "smallest" "I" (.int (0 : Int32)) := Fld.other W19 f15 (Or.inr (slot_ne (Or.inl (hw _ (List.mem_of_getElem? (i := 104) rfl))) (Or.inr (hw _ (List.mem_of_getElem? (i := 13) rfl))) (by decide) (t := .int) (t' := .int) (by decide) (by decide)))
  have k30 : Keep h0 h20 [o1] := k16.wr W19 (Or.inl (List.mem_of_getElem? (i := 0) rfl))
  refine w_iloadN X18 d1_14 rfl rfl ?_
  refine w_staticVP X18 (rm3 l Z a0 hw p2 h20 n0 X18.size ) (hw _ (List.mem_of_getElem? (i := 14) rfl)) (hw _ (List.mem_of_getElem? (i := 15) rfl)) (hw _ (List.mem_of_getElem? (i := 3) rfl)) (hw _ (List.mem_of_getElem? (i := 16) rfl)) (by decide) (argsL := [(.int p2)]) (rest := []) rfl (lenOf pd_3 rfl) rfl (W := 0) rfl (by decide) (by decide) (by decide) (by decide) d1_15 rfl fun T31 X32 => ?_
  refine w_if_eq X32 d1_18 (by decide) (pcT := 31) (pcF := 21) (by decide) rfl (fun c33 => ?_) (fun c33 => ?_)
  · refine w_aloadN X32 d1_31 rfl rfl rfl ?_
    refine w_iconst X32 d1_32 (v := (0 : Int32)) rfl rfl ?_
    refine w_virtual0 X32 (rm_clear l Z a0 hw o1 p2 h20 n0 X32.size f21 f22 f23 f24 f25 f26 f27 f28 f29 g_o hsm) f21 (hw _ (List.mem_of_getElem? (i := 43) rfl)) (hw _ (List.mem_of_getElem? (i := 44) rfl)) (hw _ (List.mem_of_getElem? (i := 46) rfl)) (hw _ (List.mem_of_getElem? (i := 45) rfl)) (hw _ (List.mem_of_getElem? (i := 3) rfl)) (hw _ (List.mem_of_getElem? (i := 47) rfl)) (by decide) (argsL := [(.int (0 : Int32))]) (rest := []) rfl (lenOf pd_5 rfl) rfl (W := 0) rfl (by decide) (by decide) (by decide) (by decide) d1_33 rfl fun T34 h35 X36 q37 => ?_
    obtain ⟨sl38, g39, g40, K41, n42, n43, n44, n45, n46, n47, n48, n49, n50, n51⟩ := q37
    have ne52 : o1 ≠ sl38 := Nat.ne_of_lt (Nat.lt_of_lt_of_le f21.lt g40)
    have g053 : h0.size ≤ sl38 := Nat.le_trans k30.1 g40
    have f54 : Exa Z h35 o1 "com/example/driftwalk/driftwalk/graph/NodeTable" := f21.keep K41
    have k55 : Keep h0 h35 [o1] := k30.trans K41 (allS (Or.inl (List.mem_of_getElem? (i := 0) rfl)) all0)
    exact w_return X36 d1_36 rfl ⟨sl38, g39, g053, k55, ⟨n42, n43, n44, n45, n46, n47, n48, n49, n50, n51⟩⟩ (by decide) (by decide)
  · exact False.elim (c33 hsm)
theorem d4_0 : decode prog_79_method_15_code 0 = .ok (.aload_n 0, 1) := by decide +kernel
theorem d4_1 : decode prog_79_method_15_code 1 = .ok (.getfield 26, 3) := by decide +kernel
theorem d4_4 : decode prog_79_method_15_code 4 = .ok (.ifnonnull 8, 3) := by decide +kernel
theorem d4_7 : decode prog_79_method_15_code 7 = .ok (.aload_n 0, 1) := by decide +kernel
theorem d4_8 : decode prog_79_method_15_code 8 = .ok (.getfield 83, 3) := by decide +kernel
theorem d4_11 : decode prog_79_method_15_code 11 = .ok (.ireturn, 1) := by decide +kernel
theorem pn_4 : plainName "com/example/driftwalk/driftwalk/graph/NodeTable" = true := by first | (simp [plainName, overriddenIn]; done) | decide +kernel
theorem ef_4 (m : MethodId) (o1 : Addr) : entryFrame m #[(.ref o1)] 6 = mkF m 0 #[.val (.ref o1), .unset, .unset, .unset, .unset, .unset] [] := by first | (simp [entryFrame, mkF, argsToLocals, Value.category]; done) | rfl
set_option maxRecDepth 65536 in
set_option maxHeartbeats 4000000 in
theorem rm_sizeL (l : Launch) (Z : State) (a0 : Array Value) (hw : ∀ d ∈ tables_1, d.before a0 Z = true) (o1 : Addr) (sl : Addr) (xs : List Int64) (c0 : Int32) (sm : Int32) (lg : Int32) (bd : Int32) (h0 : Heap) (n0 : Nat) (Z0 : n0 ≤ h0.size) (O : NTs Z h0 o1 sl xs c0 sm lg bd) (ne_s : o1 ≠ sl) (g_o : n0 ≤ o1) (g_s : n0 ≤ sl) :
    Con l Z (⟨"com/example/driftwalk/driftwalk/graph/NodeTable", "size", "()I"⟩ : MethodName) prog_79_method_15_code 6 (some .int) ({ frames := 0, cells := 0, slots := 0, locals := 0 } : Room) #[(.ref o1)] h0 n0 (some (.int c0)) (fun h => h = h0) := by
  refine con_of (plainFor_of_name pn_4) Z0 (fun m => ef_4 m o1) ?_
  intro p e s m below meth c T0 X0
  have O0 := O
  obtain ⟨E_o, F_largest, F_bound, F_values, F_base, F_slots, F_mask, F_size, F_smallest, A_s⟩ := O
  refine w_aloadN X0 d4_0 rfl rfl rfl ?_
  refine w_getF X0 (host := "") (Or.inl (hw _ (List.mem_of_getElem? (i := 20) rfl))) Via.refl F_values d4_1 rfl fun T1 X2 => ?_
  refine w_ifnonnullNo X2 d4_4 rfl ?_
  refine w_aloadN X2 d4_7 rfl rfl rfl ?_
  refine w_getF X2 (host := "") (Or.inl (hw _ (List.mem_of_getElem? (i := 71) rfl))) Via.refl F_size d4_8 rfl fun T3 X4 => ?_
  exact w_ireturn X4 d4_11 rfl rfl (by decide) (by decide)
theorem d6_0 : decode prog_79_method_12_code 0 = .ok (.aload_n 0, 1) := by decide +kernel
theorem d6_1 : decode prog_79_method_12_code 1 = .ok (.getfield 26, 3) := by decide +kernel
theorem d6_4 : decode prog_79_method_12_code 4 = .ok (.astore_n 2, 1) := by decide +kernel
theorem d6_5 : decode prog_79_method_12_code 5 = .ok (.iload_n 1, 1) := by decide +kernel
theorem d6_6 : decode prog_79_method_12_code 6 = .ok (.aload_n 0, 1) := by decide +kernel
theorem d6_7 : decode prog_79_method_12_code 7 = .ok (.getfield 73, 3) := by decide +kernel
theorem d6_10 : decode prog_79_method_12_code 10 = .ok (.isub, 1) := by decide +kernel
theorem d6_11 : decode prog_79_method_12_code 11 = .ok (.istore_n 3, 1) := by decide +kernel
theorem d6_12 : decode prog_79_method_12_code 12 = .ok (.aload_n 2, 1) := by decide +kernel
theorem d6_13 : decode prog_79_method_12_code 13 = .ok (.ifnull 17, 3) := by decide +kernel
theorem d6_30 : decode prog_79_method_12_code 30 = .ok (.iconst (-1), 1) := by decide +kernel
theorem d6_31 : decode prog_79_method_12_code 31 = .ok (.ireturn, 1) := by decide +kernel
theorem pn_6 : plainName "com/example/driftwalk/driftwalk/graph/NodeTable" = true := by first | (simp [plainName, overriddenIn]; done) | decide +kernel
theorem ef_6 (m : MethodId) (o1 : Addr) (p2 : Int32) : entryFrame m #[(.ref o1), (.int p2)] 4 = mkF m 0 #[.val (.ref o1), .val (.int p2), .unset, .unset] [] := by first | (simp [entryFrame, mkF, argsToLocals, Value.category]; done) | rfl
set_option maxRecDepth 65536 in
set_option maxHeartbeats 4000000 in
theorem rm_atL (l : Launch) (Z : State) (a0 : Array Value) (hw : ∀ d ∈ tables_1, d.before a0 Z = true) (o1 : Addr) (p2 : Int32) (sl : Addr) (xs : List Int64) (c0 : Int32) (sm : Int32) (lg : Int32) (bd : Int32) (h0 : Heap) (n0 : Nat) (Z0 : n0 ≤ h0.size) (O : NTs Z h0 o1 sl xs c0 sm lg bd) (ne_s : o1 ≠ sl) (g_o : n0 ≤ o1) (g_s : n0 ≤ sl) :
    Con l Z (⟨"com/example/driftwalk/driftwalk/graph/NodeTable", "at", "(I)I"⟩ : MethodName) prog_79_method_12_code 4 (some .int) ({ frames := 0, cells := 0, slots := 0, locals := 0 } : Room) #[(.ref o1), (.int p2)] h0 n0 (some (.int (-1))) (fun h => h = h0) := by
  refine con_of (plainFor_of_name pn_6) Z0 (fun m => ef_6 m o1 p2) ?_
  intro p e s m below meth c T0 X0
  have O0 := O
  obtain ⟨E_o, F_largest, F_bound, F_values, F_base, F_slots, F_mask, F_size, F_smallest, A_s⟩ := O
  refine w_aloadN X0 d6_0 rfl rfl rfl ?_
  refine w_getF X0 (host := "") (Or.inl (hw _ (List.mem_of_getElem? (i := 20) rfl))) Via.refl F_values d6_1 rfl fun T1 X2 => ?_
  refine w_astoreN X2 d6_4 rfl rfl (L' := #[.val (.ref o1), .val (.int p2), .val .null, .unset]) rfl ?_
  refine w_iloadN X2 d6_5 rfl rfl ?_
  refine w_aloadN X2 d6_6 rfl rfl rfl ?_
  refine w_getF X2 (host := "") (Or.inl (hw _ (List.mem_of_getElem? (i := 36) rfl))) Via.refl F_base d6_7 rfl fun T3 X4 => ?_
  refine w_isub X4 d6_10 rfl ?_
  refine w_istoreN X4 d6_11 rfl (L' := #[.val (.ref o1), .val (.int p2), .val .null, .val (.int (p2 - (0 : Int32)))]) rfl ?_
  refine w_aloadN X4 d6_12 rfl rfl rfl ?_
  refine w_ifnullYes X4 d6_13 (by decide) (pc' := 30) (by decide) ?_
  refine w_iconst X4 d6_30 (v := (-1 : Int32)) rfl rfl ?_
  exact w_ireturn X4 d6_31 rfl rfl (by decide) (by decide)
theorem d21_0 : decode prog_79_method_13_code 0 = .ok (.aload_n 0, 1) := by decide +kernel
theorem d21_1 : decode prog_79_method_13_code 1 = .ok (.getfield 61, 3) := by decide +kernel
theorem d21_4 : decode prog_79_method_13_code 4 = .ok (.iload_n 1, 1) := by decide +kernel
theorem d21_5 : decode prog_79_method_13_code 5 = .ok (.laload, 1) := by decide +kernel
theorem d21_6 : decode prog_79_method_13_code 6 = .ok (.lstore_n 2, 1) := by decide +kernel
theorem d21_7 : decode prog_79_method_13_code 7 = .ok (.lload_n 2, 1) := by decide +kernel
theorem d21_8 : decode prog_79_method_13_code 8 = .ok (.ldc2_w 65, 3) := by decide +kernel
theorem d21_11 : decode prog_79_method_13_code 11 = .ok (.lcmp, 1) := by decide +kernel
theorem d21_12 : decode prog_79_method_13_code 12 = .ok (.ifCond .ne 7, 3) := by decide +kernel
theorem d21_15 : decode prog_79_method_13_code 15 = .ok (.iconst 0, 1) := by decide +kernel
theorem d21_16 : decode prog_79_method_13_code 16 = .ok (.goto 5, 3) := by decide +kernel
theorem d21_19 : decode prog_79_method_13_code 19 = .ok (.lload_n 2, 1) := by decide +kernel
theorem d21_20 : decode prog_79_method_13_code 20 = .ok (.l2i, 1) := by decide +kernel
theorem d21_21 : decode prog_79_method_13_code 21 = .ok (.ireturn, 1) := by decide +kernel
theorem pn_21 : plainName "com/example/driftwalk/driftwalk/graph/NodeTable" = true := by first | (simp [plainName, overriddenIn]; done) | decide +kernel
theorem ef_21 (m : MethodId) (o1 : Addr) (p2 : Int32) : entryFrame m #[(.ref o1), (.int p2)] 4 = mkF m 0 #[.val (.ref o1), .val (.int p2), .unset, .unset] [] := by first | (simp [entryFrame, mkF, argsToLocals, Value.category]; done) | rfl
set_option maxRecDepth 65536 in
set_option maxHeartbeats 4000000 in
theorem rm_valueIn (l : Launch) (Z : State) (a0 : Array Value) (hw : ∀ d ∈ tables_1, d.before a0 Z = true) (o1 : Addr) (p2 : Int32) (sl : Addr) (xs : List Int64) (c0 : Int32) (sm : Int32) (lg : Int32) (bd : Int32) (h0 : Heap) (n0 : Nat) (Z0 : n0 ≤ h0.size) (O : NTs Z h0 o1 sl xs c0 sm lg bd) (ne_s : o1 ≠ sl) (g_o : n0 ≤ o1) (g_s : n0 ≤ sl) (h16 : p2 ∈ sixteen) (hl : xs.length = 16) :
    Con l Z (⟨"com/example/driftwalk/driftwalk/graph/NodeTable", "valueIn", "(I)I"⟩ : MethodName) prog_79_method_13_code 4 (some .int) ({ frames := 0, cells := 0, slots := 0, locals := 0 } : Room) #[(.ref o1), (.int p2)] h0 n0 (some (.int (f_vi xs p2))) (fun h => h = h0) := by
  refine con_of (plainFor_of_name pn_21) Z0 (fun m => ef_21 m o1 p2) ?_
  intro p e s m below meth c T0 X0
  have O0 := O
  obtain ⟨E_o, F_largest, F_bound, F_values, F_base, F_slots, F_mask, F_size, F_smallest, A_s⟩ := O
  refine w_aloadN X0 d21_0 rfl rfl rfl ?_
  refine w_getF X0 (host := "") (Or.inl (hw _ (List.mem_of_getElem? (i := 66) rfl))) Via.refl F_slots d21_1 rfl fun T1 X2 => ?_
  refine w_iloadN X2 d21_4 rfl rfl ?_
  refine w_laload X2 A_s (S0 _ h16).1 rfl (getL (by rw [hl]; exact (S0 _ h16).2.1)) d21_5 rfl ?_
  refine w_lstoreN X2 d21_6 rfl (L' := #[.val (.ref o1), .val (.int p2), .val (.long (xs.getD (p2).toNatClampNeg 0)), .second]) rfl ?_
  refine w_lloadN X2 d21_7 rfl rfl ?_
  refine w_ldc2Long X2 (hw _ (List.mem_of_getElem? (i := 73) rfl)) d21_8 rfl ?_
  refine w_lcmp_ne X2 d21_11 rfl d21_12 (by decide) (pcT := 19) (pcF := 15) (by decide) rfl (fun c3 => ?_) (fun c3 => ?_)
  · refine w_lloadN X2 d21_19 rfl rfl ?_
    refine w_l2i X2 d21_20 rfl ?_
    exact w_ireturn X2 d21_21 (by unfold f_vi; rw [if_neg c3]) rfl (by decide) (by decide)
  · refine w_iconst X2 d21_15 (v := (0 : Int32)) rfl rfl ?_
    refine w_goto X2 d21_16 (by decide) (pc' := 21) (by decide) ?_
    exact w_ireturn X2 d21_21 (by unfold f_vi; rw [if_pos c3]) rfl (by decide) (by decide)
theorem d16_0 : decode prog_79_method_22_code 0 = .ok (.iload_n 1, 1) := by decide +kernel
theorem d16_1 : decode prog_79_method_22_code 1 = .ok (.aload_n 0, 1) := by decide +kernel
theorem d16_2 : decode prog_79_method_22_code 2 = .ok (.getfield 86, 3) := by decide +kernel
theorem d16_5 : decode prog_79_method_22_code 5 = .ok (.invokestatic 104, 3) := by decide +kernel
theorem d16_8 : decode prog_79_method_22_code 8 = .ok (.istore_n 2, 1) := by decide +kernel
theorem d16_9 : decode prog_79_method_22_code 9 = .ok (.aload_n 0, 1) := by decide +kernel
theorem d16_10 : decode prog_79_method_22_code 10 = .ok (.getfield 61, 3) := by decide +kernel
theorem d16_13 : decode prog_79_method_22_code 13 = .ok (.iload_n 2, 1) := by decide +kernel
theorem d16_14 : decode prog_79_method_22_code 14 = .ok (.laload, 1) := by decide +kernel
theorem d16_15 : decode prog_79_method_22_code 15 = .ok (.lstore_n 3, 1) := by decide +kernel
theorem d16_16 : decode prog_79_method_22_code 16 = .ok (.lload_n 3, 1) := by decide +kernel
theorem d16_17 : decode prog_79_method_22_code 17 = .ok (.ldc2_w 65, 3) := by decide +kernel
theorem d16_20 : decode prog_79_method_22_code 20 = .ok (.lcmp, 1) := by decide +kernel
theorem d16_21 : decode prog_79_method_22_code 21 = .ok (.ifCond .eq 33, 3) := by decide +kernel
theorem d16_24 : decode prog_79_method_22_code 24 = .ok (.lload_n 3, 1) := by decide +kernel
theorem d16_25 : decode prog_79_method_22_code 25 = .ok (.bipush 32, 2) := by decide +kernel
theorem d16_27 : decode prog_79_method_22_code 27 = .ok (.lushr, 1) := by decide +kernel
theorem d16_28 : decode prog_79_method_22_code 28 = .ok (.l2i, 1) := by decide +kernel
theorem d16_29 : decode prog_79_method_22_code 29 = .ok (.iload_n 1, 1) := by decide +kernel
theorem d16_30 : decode prog_79_method_22_code 30 = .ok (.if_icmp .ne 5, 3) := by decide +kernel
theorem d16_33 : decode prog_79_method_22_code 33 = .ok (.iload_n 2, 1) := by decide +kernel
theorem d16_34 : decode prog_79_method_22_code 34 = .ok (.ireturn, 1) := by decide +kernel
theorem d16_35 : decode prog_79_method_22_code 35 = .ok (.iload_n 2, 1) := by decide +kernel
theorem d16_36 : decode prog_79_method_22_code 36 = .ok (.iconst 1, 1) := by decide +kernel
theorem d16_37 : decode prog_79_method_22_code 37 = .ok (.iadd, 1) := by decide +kernel
theorem d16_38 : decode prog_79_method_22_code 38 = .ok (.aload_n 0, 1) := by decide +kernel
theorem d16_39 : decode prog_79_method_22_code 39 = .ok (.getfield 86, 3) := by decide +kernel
theorem d16_42 : decode prog_79_method_22_code 42 = .ok (.iand, 1) := by decide +kernel
theorem d16_43 : decode prog_79_method_22_code 43 = .ok (.istore_n 2, 1) := by decide +kernel
theorem d16_44 : decode prog_79_method_22_code 44 = .ok (.aload_n 0, 1) := by decide +kernel
theorem d16_45 : decode prog_79_method_22_code 45 = .ok (.getfield 61, 3) := by decide +kernel
theorem d16_48 : decode prog_79_method_22_code 48 = .ok (.iload_n 2, 1) := by decide +kernel
theorem d16_49 : decode prog_79_method_22_code 49 = .ok (.laload, 1) := by decide +kernel
theorem d16_50 : decode prog_79_method_22_code 50 = .ok (.lstore_n 3, 1) := by decide +kernel
theorem d16_51 : decode prog_79_method_22_code 51 = .ok (.goto (-35), 3) := by decide +kernel
theorem d16_54 : decode prog_79_method_22_code 54 = .ok (.iload_n 2, 1) := by decide +kernel
theorem d16_55 : decode prog_79_method_22_code 55 = .ok (.ireturn, 1) := by decide +kernel
theorem pn_16 : plainName "com/example/driftwalk/driftwalk/graph/NodeTable" = true := by first | (simp [plainName, overriddenIn]; done) | decide +kernel
theorem ef_16 (m : MethodId) (o1 : Addr) (p2 : Int32) : entryFrame m #[(.ref o1), (.int p2)] 5 = mkF m 0 #[.val (.ref o1), .val (.int p2), .unset, .unset, .unset] [] := by first | (simp [entryFrame, mkF, argsToLocals, Value.category]; done) | rfl
set_option maxRecDepth 65536 in
set_option maxHeartbeats 1000000 in
theorem rm_find (l : Launch) (Z : State) (a0 : Array Value) (hw : ∀ d ∈ tables_1, d.before a0 Z = true) (o1 : Addr) (p2 : Int32) (sl : Addr) (xs : List Int64) (c0 : Int32) (sm : Int32) (lg : Int32) (bd : Int32) (r : Int32) (h0 : Heap) (n0 : Nat) (Z0 : n0 ≤ h0.size) (O : NTs Z h0 o1 sl xs c0 sm lg bd) (ne_s : o1 ≠ sl) (g_o : n0 ≤ o1) (g_s : n0 ≤ sl) (hl : xs.length = 16) (hm16 : f_home p2 (15 : Int32) ∈ sixteen) (hr : fnd xs p2 17 (f_home p2 (15 : Int32)) = some r) :
    Con l Z (⟨"com/example/driftwalk/driftwalk/graph/NodeTable", "find", "(I)I"⟩ : MethodName) prog_79_method_22_code 5 (some .int) ({ frames := 2, cells := 0, slots := 0, locals := 27 } : Room) #[(.ref o1), (.int p2)] h0 n0 (some (.int r)) (fun h => h = h0) := by
  refine con_of (plainFor_of_name pn_16) Z0 (fun m => ef_16 m o1 p2) ?_
  intro p e s m below meth c T0 X0
  have O0 := O
  obtain ⟨E_o, F_largest, F_bound, F_values, F_base, F_slots, F_mask, F_size, F_smallest, A_s⟩ := O
  refine w_iloadN X0 d16_0 rfl rfl ?_
  refine w_aloadN X0 d16_1 rfl rfl rfl ?_
  refine w_getF X0 (host := "") (Or.inl (hw _ (List.mem_of_getElem? (i := 69) rfl))) Via.refl F_mask d16_2 rfl fun T1 X2 => ?_
  refine w_staticVP X2 (rm17 l Z a0 hw p2 (15 : Int32) h0 n0 X2.size ) (hw _ (List.mem_of_getElem? (i := 89) rfl)) (hw _ (List.mem_of_getElem? (i := 90) rfl)) (hw _ (List.mem_of_getElem? (i := 3) rfl)) (hw _ (List.mem_of_getElem? (i := 91) rfl)) (by decide) (argsL := [(.int p2), (.int (15 : Int32))]) (rest := []) rfl (lenOf pd_1 rfl) rfl (W := 0) rfl (by decide) (by decide) (by decide) (by decide) d16_5 rfl fun T3 X4 => ?_
  refine w_istoreN X4 d16_8 rfl (L' := #[.val (.ref o1), .val (.int p2), .val (.int (f_home p2 (15 : Int32))), .unset, .unset]) rfl ?_
  refine w_aloadN X4 d16_9 rfl rfl rfl ?_
  refine w_getF X4 (host := "") (Or.inl (hw _ (List.mem_of_getElem? (i := 66) rfl))) Via.refl F_slots d16_10 rfl fun T5 X6 => ?_
  refine w_iloadN X6 d16_13 rfl rfl ?_
  refine w_laload X6 A_s (S0 _ hm16).1 rfl (getL (by rw [hl]; exact (S0 _ hm16).2.1)) d16_14 rfl ?_
  refine w_lstoreN X6 d16_15 rfl (L' := #[.val (.ref o1), .val (.int p2), .val (.int (f_home p2 (15 : Int32))), .val (.long (xs.getD ((f_home p2 (15 : Int32))).toNatClampNeg 0)), .second]) rfl ?_
  have loop : ∀ (k : Nat) (sl2 : Int32) (T1 : State), Wk p l e ({ frames := 2, cells := 0, slots := 0, locals := 27 } : Room) s m #[(.ref o1), (.int p2)] below meth c Z n0 (⟨"com/example/driftwalk/driftwalk/graph/NodeTable", "find", "(I)I"⟩ : MethodName) prog_79_method_22_code 5 (some .int) T1 0 0 h0 → sl2 ∈ sixteen → fnd xs p2 k sl2 = some r → Goes p e below (Done below s n0 ({ frames := 2, cells := 0, slots := 0, locals := 27 } : Room) (some (.int r)) (fun h => h = h0)) T1 m 16 #[.val (.ref o1), .val (.int p2), .val (.int sl2), .val (.long (xs.getD (sl2).toNatClampNeg 0)), .second] [] := by
    intro k
    induction k with
    | zero => intro sl2 T1 X1 m1 e1; cases e1
    | succ k ih =>
      intro sl2 T1 X1 m1 e1
      refine w_lloadN X1 d16_16 rfl rfl ?_
      refine w_ldc2Long X1 (hw _ (List.mem_of_getElem? (i := 73) rfl)) d16_17 rfl ?_
      refine w_lcmp_eq X1 d16_20 rfl d16_21 (by decide) (pcT := 54) (pcF := 24) (by decide) rfl (fun c7 => ?_) (fun c7 => ?_)
      · refine w_iloadN X1 d16_54 rfl rfl ?_
        exact w_ireturn X1 d16_55 (congrArg (fun z => some (Value.int z)) ((fnd_1 e1 c7).symm)) rfl (by decide) (by decide)
      · refine w_lloadN X1 d16_24 rfl rfl ?_
        refine w_bipush X1 d16_25 (v := (32 : Int32)) rfl rfl ?_
        refine w_lushr X1 d16_27 rfl ?_
        refine w_l2i X1 d16_28 rfl ?_
        refine w_iloadN X1 d16_29 rfl rfl ?_
        refine w_icmp_ne X1 d16_30 (by decide) (pcT := 35) (pcF := 33) (by decide) rfl (fun c8 => ?_) (fun c8 => ?_)
        · refine w_iloadN X1 d16_35 rfl rfl ?_
          refine w_iconst X1 d16_36 (v := (1 : Int32)) rfl rfl ?_
          refine w_iadd X1 d16_37 rfl ?_
          refine w_aloadN X1 d16_38 rfl rfl rfl ?_
          refine w_getF X1 (host := "") (Or.inl (hw _ (List.mem_of_getElem? (i := 69) rfl))) Via.refl F_mask d16_39 rfl fun T9 X10 => ?_
          refine w_iand X10 d16_42 rfl ?_
          refine w_istoreN X10 d16_43 rfl (L' := #[.val (.ref o1), .val (.int p2), .val (.int ((sl2 + (1 : Int32)) &&& (15 : Int32))), .val (.long (xs.getD (sl2).toNatClampNeg 0)), .second]) rfl ?_
          refine w_aloadN X10 d16_44 rfl rfl rfl ?_
          refine w_getF X10 (host := "") (Or.inl (hw _ (List.mem_of_getElem? (i := 66) rfl))) Via.refl F_slots d16_45 rfl fun T11 X12 => ?_
          refine w_iloadN X12 d16_48 rfl rfl ?_
          refine w_laload X12 A_s (S0 _ (S0 _ m1).2.2).1 rfl (getL (by rw [hl]; exact (S0 _ (S0 _ m1).2.2).2.1)) d16_49 rfl ?_
          refine w_lstoreN X12 d16_50 rfl (L' := #[.val (.ref o1), .val (.int p2), .val (.int ((sl2 + (1 : Int32)) &&& (15 : Int32))), .val (.long (xs.getD (((sl2 + (1 : Int32)) &&& (15 : Int32))).toNatClampNeg 0)), .second]) rfl ?_
          refine w_goto X12 d16_51 (by decide) (pc' := 16) (by decide) ?_
          exact ih _ _ X12 (S0 _ m1).2.2 (fnd_3 e1 c7 c8)
        · refine w_iloadN X1 d16_33 rfl rfl ?_
          exact w_ireturn X1 d16_34 (congrArg (fun z => some (Value.int z)) ((fnd_2 e1 c7 c8).symm)) rfl (by decide) (by decide)
  exact loop 17 (f_home p2 (15 : Int32)) _ X6 hm16 hr
theorem d19_0 : decode prog_79_method_23_code 0 = .ok (.aload_n 0, 1) := by decide +kernel
theorem d19_1 : decode prog_79_method_23_code 1 = .ok (.getfield 61, 3) := by decide +kernel
theorem d19_4 : decode prog_79_method_23_code 4 = .ok (.iload_n 1, 1) := by decide +kernel
theorem d19_5 : decode prog_79_method_23_code 5 = .ok (.iload_n 2, 1) := by decide +kernel
theorem d19_6 : decode prog_79_method_23_code 6 = .ok (.i2l, 1) := by decide +kernel
theorem d19_7 : decode prog_79_method_23_code 7 = .ok (.bipush 32, 2) := by decide +kernel
theorem d19_9 : decode prog_79_method_23_code 9 = .ok (.lshl, 1) := by decide +kernel
theorem d19_10 : decode prog_79_method_23_code 10 = .ok (.iload_n 3, 1) := by decide +kernel
theorem d19_11 : decode prog_79_method_23_code 11 = .ok (.i2l, 1) := by decide +kernel
theorem d19_12 : decode prog_79_method_23_code 12 = .ok (.ldc2_w 81, 3) := by decide +kernel
theorem d19_15 : decode prog_79_method_23_code 15 = .ok (.land, 1) := by decide +kernel
theorem d19_16 : decode prog_79_method_23_code 16 = .ok (.lor, 1) := by decide +kernel
theorem d19_17 : decode prog_79_method_23_code 17 = .ok (.lastore, 1) := by decide +kernel
theorem d19_18 : decode prog_79_method_23_code 18 = .ok (.aload_n 0, 1) := by decide +kernel
theorem d19_19 : decode prog_79_method_23_code 19 = .ok (.aload_n 0, 1) := by decide +kernel
theorem d19_20 : decode prog_79_method_23_code 20 = .ok (.getfield 83, 3) := by decide +kernel
theorem d19_23 : decode prog_79_method_23_code 23 = .ok (.ifCond .ne 7, 3) := by decide +kernel
theorem d19_26 : decode prog_79_method_23_code 26 = .ok (.iload_n 2, 1) := by decide +kernel
theorem d19_27 : decode prog_79_method_23_code 27 = .ok (.goto 11, 3) := by decide +kernel
theorem d19_30 : decode prog_79_method_23_code 30 = .ok (.aload_n 0, 1) := by decide +kernel
theorem d19_31 : decode prog_79_method_23_code 31 = .ok (.getfield 107, 3) := by decide +kernel
theorem d19_34 : decode prog_79_method_23_code 34 = .ok (.iload_n 2, 1) := by decide +kernel
theorem d19_35 : decode prog_79_method_23_code 35 = .ok (.invokestatic 110, 3) := by decide +kernel
theorem d19_38 : decode prog_79_method_23_code 38 = .ok (.putfield 107, 3) := by decide +kernel
theorem d19_41 : decode prog_79_method_23_code 41 = .ok (.aload_n 0, 1) := by decide +kernel
theorem d19_42 : decode prog_79_method_23_code 42 = .ok (.aload_n 0, 1) := by decide +kernel
theorem d19_43 : decode prog_79_method_23_code 43 = .ok (.getfield 15, 3) := by decide +kernel
theorem d19_46 : decode prog_79_method_23_code 46 = .ok (.iload_n 2, 1) := by decide +kernel
theorem d19_47 : decode prog_79_method_23_code 47 = .ok (.invokestatic 115, 3) := by decide +kernel
theorem d19_50 : decode prog_79_method_23_code 50 = .ok (.putfield 15, 3) := by decide +kernel
theorem d19_53 : decode prog_79_method_23_code 53 = .ok (.aload_n 0, 1) := by decide +kernel
theorem d19_54 : decode prog_79_method_23_code 54 = .ok (.dup, 1) := by decide +kernel
theorem d19_55 : decode prog_79_method_23_code 55 = .ok (.getfield 83, 3) := by decide +kernel
theorem d19_58 : decode prog_79_method_23_code 58 = .ok (.iconst 1, 1) := by decide +kernel
theorem d19_59 : decode prog_79_method_23_code 59 = .ok (.iadd, 1) := by decide +kernel
theorem d19_60 : decode prog_79_method_23_code 60 = .ok (.putfield 83, 3) := by decide +kernel
theorem d19_63 : decode prog_79_method_23_code 63 = .ok (.ldc2_w 118, 3) := by decide +kernel
theorem d19_66 : decode prog_79_method_23_code 66 = .ok (.aload_n 0, 1) := by decide +kernel
theorem d19_67 : decode prog_79_method_23_code 67 = .ok (.getfield 83, 3) := by decide +kernel
theorem d19_70 : decode prog_79_method_23_code 70 = .ok (.i2l, 1) := by decide +kernel
theorem d19_71 : decode prog_79_method_23_code 71 = .ok (.lmul, 1) := by decide +kernel
theorem d19_72 : decode prog_79_method_23_code 72 = .ok (.aload_n 0, 1) := by decide +kernel
theorem d19_73 : decode prog_79_method_23_code 73 = .ok (.getfield 86, 3) := by decide +kernel
theorem d19_76 : decode prog_79_method_23_code 76 = .ok (.i2l, 1) := by decide +kernel
theorem d19_77 : decode prog_79_method_23_code 77 = .ok (.lconst 1, 1) := by decide +kernel
theorem d19_78 : decode prog_79_method_23_code 78 = .ok (.ladd, 1) := by decide +kernel
theorem d19_79 : decode prog_79_method_23_code 79 = .ok (.lcmp, 1) := by decide +kernel
theorem d19_80 : decode prog_79_method_23_code 80 = .ok (.ifCond .le 60, 3) := by decide +kernel
theorem d19_140 : decode prog_79_method_23_code 140 = .ok (.return_, 1) := by decide +kernel
theorem pn_19 : plainName "com/example/driftwalk/driftwalk/graph/NodeTable" = true := by first | (simp [plainName, overriddenIn]; done) | decide +kernel
theorem ef_19 (m : MethodId) (o1 : Addr) (p2 : Int32) (p3 : Int32) (p4 : Int32) : entryFrame m #[(.ref o1), (.int p2), (.int p3), (.int p4)] 5 = mkF m 0 #[.val (.ref o1), .val (.int p2), .val (.int p3), .val (.int p4), .unset] [] := by first | (simp [entryFrame, mkF, argsToLocals, Value.category]; done) | rfl
set_option maxRecDepth 65536 in
set_option maxHeartbeats 4000000 in
theorem rm_take (l : Launch) (Z : State) (a0 : Array Value) (hw : ∀ d ∈ tables_1, d.before a0 Z = true) (o1 : Addr) (p2 : Int32) (p3 : Int32) (p4 : Int32) (sl : Addr) (xs : List Int64) (c0 : Int32) (sm : Int32) (lg : Int32) (bd : Int32) (h0 : Heap) (n0 : Nat) (Z0 : n0 ≤ h0.size) (O : NTs Z h0 o1 sl xs c0 sm lg bd) (ne_s : o1 ≠ sl) (g_o : n0 ≤ o1) (g_s : n0 ≤ sl) (h16 : p2 ∈ sixteen) (hl : xs.length = 16) (h3 : c0 = (0 : Int32) ∨ c0 = (1 : Int32) ∨ c0 = (2 : Int32)) :
    Con l Z (⟨"com/example/driftwalk/driftwalk/graph/NodeTable", "take", "(III)V"⟩ : MethodName) prog_79_method_23_code 5 none ({ frames := 1, cells := 0, slots := 0, locals := 14 } : Room) #[(.ref o1), (.int p2), (.int p3), (.int p4)] h0 n0 none (fun h => ∃ sm' lg', Keep h0 h [o1, sl] ∧ NTs Z h o1 sl (xs.set (p2).toNatClampNeg (mkE p3 p4)) (c0 + 1) sm' lg' bd) := by
  refine con_of (plainFor_of_name pn_19) Z0 (fun m => ef_19 m o1 p2 p3 p4) ?_
  intro p e s m below meth c T0 X0
  have O0 := O
  obtain ⟨E_o, F_largest, F_bound, F_values, F_base, F_slots, F_mask, F_size, F_smallest, A_s⟩ := O
  rcases h3 with q1 | q1 | q1
  · subst q1
    refine w_aloadN X0 d19_0 rfl rfl rfl ?_
    refine w_getF X0 (host := "") (Or.inl (hw _ (List.mem_of_getElem? (i := 66) rfl))) Via.refl F_slots d19_1 rfl fun T2 X3 => ?_
    refine w_iloadN X3 d19_4 rfl rfl ?_
    refine w_iloadN X3 d19_5 rfl rfl ?_
    refine w_i2l X3 d19_6 rfl ?_
    refine w_bipush X3 d19_7 (v := (32 : Int32)) rfl rfl ?_
    refine w_lshl X3 d19_9 rfl ?_
    refine w_iloadN X3 d19_10 rfl rfl ?_
    refine w_i2l X3 d19_11 rfl ?_
    refine w_ldc2Long X3 (hw _ (List.mem_of_getElem? (i := 102) rfl)) d19_12 rfl ?_
    refine w_land X3 d19_15 rfl ?_
    refine w_lor X3 d19_16 rfl ?_
    refine w_lastore X3 A_s (S0 _ h16).1 rfl (by rw [List.length_map]; exact (by rw [hl]; exact (S0 _ h16).2.1)) g_s d19_17 rfl fun T4 h7 X5 W6 A8 => ?_
    rw [← List.map_set] at A8
    obtain ⟨xs9, hxs9⟩ : ∃ z, z = (xs.set (p2).toNatClampNeg (((p3.toInt64) <<< ((32 : Int32) &&& 0x3f).toInt64) ||| ((p4.toInt64) &&& (4294967295 : Int64)))) := ⟨_, rfl⟩
    rw [← hxs9] at A8
    have f10 : Exa Z h7 o1 "com/example/driftwalk/driftwalk/graph/NodeTable" := Exa.wr W6 E_o
    have f11 : Fld Z h7 o1 "com/example/driftwalk/driftwalk/graph/NodeTable" "largest" "I" (.int lg) := Fld.other W6 F_largest (Or.inl ne_s)
    have f12 : Fld Z h7 o1 "com/example/driftwalk/driftwalk/graph/NodeTable" "bound" "I" (.int bd) := Fld.other W6 F_bound (Or.inl ne_s)
    have f13 : Fld Z h7 o1 "com/example/driftwalk/driftwalk/graph/NodeTable" "values" "[I" .null := Fld.other W6 F_values (Or.inl ne_s)
    have f14 : Fld Z h7 o1 "com/example/driftwalk/driftwalk/graph/NodeTable" "base" "I" (.int (0 : Int32)) := Fld.other W6 F_base (Or.inl ne_s)
    have f15 : Fld Z h7 o1 "com/example/driftwalk/driftwalk/graph/NodeTable" "slots" "[J" (.ref sl) := Fld.other W6 F_slots (Or.inl ne_s)
    have f16 : Fld Z h7 o1 "com/example/driftwalk/driftwalk/graph/NodeTable" "mask" "I" (.int (15 : Int32)) := Fld.other W6 F_mask (Or.inl ne_s)
    have f17 : Fld Z h7 o1 "com/example/driftwalk/driftwalk/graph/NodeTable" "size" "I" (.int (0 : Int32)) := Fld.other W6 F_size (Or.inl ne_s)
    have f18 : Fld Z h7 o1 "com/example/driftwalk/driftwalk/graph/NodeTable" "smallest" "I" (.int sm) := Fld.other W6 F_smallest (Or.inl ne_s)
    have f19 : AV Z h7 sl .long (xs9.map Value.long) := A8
    have k20 : Keep h0 h7 [o1, sl] := (Keep.refl h0 [o1, sl]).wr W6 (Or.inl (List.mem_of_getElem? (i := 1) rfl))
    refine w_aloadN X5 d19_18 rfl rfl rfl ?_
    refine w_aloadN X5 d19_19 rfl rfl rfl ?_
    refine w_getF X5 (host := "") (Or.inl (hw _ (List.mem_of_getElem? (i := 71) rfl))) Via.refl f17 d19_20 rfl fun T21 X22 => ?_
    refine w_if_ne X22 d19_23 (by decide) (pcT := 30) (pcF := 26) (by decide) rfl (fun c23 => absurd c23 (by decide)) (fun c23 => ?_)
    refine w_iloadN X22 d19_26 rfl rfl ?_
    refine w_goto X22 d19_27 (by decide) (pc' := 38) (by decide) ?_
    refine w_putF X22 (host := "") (Or.inl (hw _ (List.mem_of_getElem? (i := 103) rfl))) Via.refl f18 f10 (Or.inl (hw _ (List.mem_of_getElem? (i := 104) rfl))) (hw _ (List.mem_of_getElem? (i := 2) rfl)) (ty := .int) (by decide) rfl rfl g_o d19_38 rfl fun T24 h27 X25 W26 => ?_
    have f28 : Exa Z h27 o1 "com/example/driftwalk/driftwalk/graph/NodeTable" := Exa.wr W26 f10
    have f29 : Fld Z h27 o1 "com/example/driftwalk/driftwalk/graph/NodeTable" "largest" "I" (.int lg) := Fld.other W26 f11 (Or.inr (slot_ne (Or.inl (hw _ (List.mem_of_getElem? (i := 11) rfl))) (Or.inl (hw _ (List.mem_of_getElem? (i := 104) rfl))) (by decide) (t := .int) (t' := .int) (by decide) (by decide)))
    have f30 : Fld Z h27 o1 "com/example/driftwalk/driftwalk/graph/NodeTable" "bound" "I" (.int bd) := Fld.other W26 f12 (Or.inr (slot_ne (Or.inr (hw _ (List.mem_of_getElem? (i := 13) rfl))) (Or.inl (hw _ (List.mem_of_getElem? (i := 104) rfl))) (by decide) (t := .int) (t' := .int) (by decide) (by decide)))
    have f31 : Fld Z h27 o1 "com/example/driftwalk/driftwalk/graph/NodeTable" "values" "[I" .null := Fld.other W26 f13 (Or.inr (slot_ne (Or.inl (hw _ (List.mem_of_getElem? (i := 21) rfl))) (Or.inl (hw _ (List.mem_of_getElem? (i := 104) rfl))) (by decide) (t := (.array .int)) (t' := .int) (by decide) (by decide)))
    have f32 : Fld Z h27 o1 "com/example/driftwalk/driftwalk/graph/NodeTable" "base" "I" (.int (0 : Int32)) := Fld.other W26 f14 (Or.inr (slot_ne (Or.inl (hw _ (List.mem_of_getElem? (i := 37) rfl))) (Or.inl (hw _ (List.mem_of_getElem? (i := 104) rfl))) (by decide) (t := .int) (t' := .int) (by decide) (by decide)))
    have f33 : Fld Z h27 o1 "com/example/driftwalk/driftwalk/graph/NodeTable" "slots" "[J" (.ref sl) := Fld.other W26 f15 (Or.inr (slot_ne (Or.inl (hw _ (List.mem_of_getElem? (i := 67) rfl))) (Or.inl (hw _ (List.mem_of_getElem? (i := 104) rfl))) (by decide) (t := (.array .long)) (t' := .int) (by decide) (by decide)))
    have f34 : Fld Z h27 o1 "com/example/driftwalk/driftwalk/graph/NodeTable" "mask" "I" (.int (15 : Int32)) := Fld.other W26 f16 (Or.inr (slot_ne (Or.inl (hw _ (List.mem_of_getElem? (i := 70) rfl))) (Or.inl (hw _ (List.mem_of_getElem? (i := 104) rfl))) (by decide) (t := .int) (t' := .int) (by decide) (by decide)))
    have f35 : Fld Z h27 o1 "com/example/driftwalk/driftwalk/graph/NodeTable" "size" "I" (.int (0 : Int32)) := Fld.other W26 f17 (Or.inr (slot_ne (Or.inl (hw _ (List.mem_of_getElem? (i := 72) rfl))) (Or.inl (hw _ (List.mem_of_getElem? (i := 104) rfl))) (by decide) (t := .int) (t' := .int) (by decide) (by decide)))
    have f36 : Fld Z h27 o1 "com/example/driftwalk/driftwalk/graph/NodeTable" "smallest" "I" (.int p3) := Fld.same W26 f18
    have f37 : AV Z h27 sl .long (xs9.map Value.long) := f19.other W26 (Ne.symm ne_s)
    have k38 : Keep h0 h27 [o1, sl] := k20.wr W26 (Or.inl (List.mem_of_getElem? (i := 0) rfl))
    refine w_aloadN X25 d19_41 rfl rfl rfl ?_
    refine w_aloadN X25 d19_42 rfl rfl rfl ?_
    refine w_getF X25 (host := "") (Or.inl (hw _ (List.mem_of_getElem? (i := 10) rfl))) Via.refl f29 d19_43 rfl fun T39 X40 => ?_
    refine w_iloadN X40 d19_46 rfl rfl ?_
    refine w_staticVP X40 (rm10 l Z a0 hw lg p3 h27 n0 X40.size ) (hw _ (List.mem_of_getElem? (i := 53) rfl)) (hw _ (List.mem_of_getElem? (i := 54) rfl)) (hw _ (List.mem_of_getElem? (i := 55) rfl)) (hw _ (List.mem_of_getElem? (i := 56) rfl)) (by decide) (argsL := [(.int lg), (.int p3)]) (rest := [(.ref o1)]) rfl (lenOf pd_1 rfl) rfl (W := 1) rfl (by decide) (by decide) (by decide) (by decide) d19_47 rfl fun T41 X42 => ?_
    refine w_putF X42 (host := "") (Or.inl (hw _ (List.mem_of_getElem? (i := 10) rfl))) Via.refl f29 f28 (Or.inl (hw _ (List.mem_of_getElem? (i := 11) rfl))) (hw _ (List.mem_of_getElem? (i := 2) rfl)) (ty := .int) (by decide) rfl rfl g_o d19_50 rfl fun T43 h46 X44 W45 => ?_
    have f47 : Exa Z h46 o1 "com/example/driftwalk/driftwalk/graph/NodeTable" := Exa.wr W45 f28
    have f48 : Fld Z h46 o1 "com/example/driftwalk/driftwalk/graph/NodeTable" "largest" "I" (.int (f_max lg p3)) := Fld.same W45 f29
    have f49 : Fld Z h46 o1 "com/example/driftwalk/driftwalk/graph/NodeTable" "bound" "I" (.int bd) := Fld.other W45 f30 (Or.inr (slot_ne (Or.inr (hw _ (List.mem_of_getElem? (i := 13) rfl))) (Or.inl (hw _ (List.mem_of_getElem? (i := 11) rfl))) (by decide) (t := .int) (t' := .int) (by decide) (by decide)))
    have f50 : Fld Z h46 o1 "com/example/driftwalk/driftwalk/graph/NodeTable" "values" "[I" .null := Fld.other W45 f31 (Or.inr (slot_ne (Or.inl (hw _ (List.mem_of_getElem? (i := 21) rfl))) (Or.inl (hw _ (List.mem_of_getElem? (i := 11) rfl))) (by decide) (t := (.array .int)) (t' := .int) (by decide) (by decide)))
    have f51 : Fld Z h46 o1 "com/example/driftwalk/driftwalk/graph/NodeTable" "base" "I" (.int (0 : Int32)) := Fld.other W45 f32 (Or.inr (slot_ne (Or.inl (hw _ (List.mem_of_getElem? (i := 37) rfl))) (Or.inl (hw _ (List.mem_of_getElem? (i := 11) rfl))) (by decide) (t := .int) (t' := .int) (by decide) (by decide)))
    have f52 : Fld Z h46 o1 "com/example/driftwalk/driftwalk/graph/NodeTable" "slots" "[J" (.ref sl) := Fld.other W45 f33 (Or.inr (slot_ne (Or.inl (hw _ (List.mem_of_getElem? (i := 67) rfl))) (Or.inl (hw _ (List.mem_of_getElem? (i := 11) rfl))) (by decide) (t := (.array .long)) (t' := .int) (by decide) (by decide)))
    have f53 : Fld Z h46 o1 "com/example/driftwalk/driftwalk/graph/NodeTable" "mask" "I" (.int (15 : Int32)) := Fld.other W45 f34 (Or.inr (slot_ne (Or.inl (hw _ (List.mem_of_getElem? (i := 70) rfl))) (Or.inl (hw _ (List.mem_of_getElem? (i := 11) rfl))) (by decide) (t := .int) (t' := .int) (by decide) (by decide)))
    have f54 : Fld Z h46 o1 "com/example/driftwalk/driftwalk/graph/NodeTable" "size" "I" (.int (0 : Int32)) := Fld.other W45 f35 (Or.inr (slot_ne (Or.inl (hw _ (List.mem_of_getElem? (i := 72) rfl))) (Or.inl (hw _ (List.mem_of_getElem? (i := 11) rfl))) (by decide) (t := .int) (t' := .int) (by decide) (by decide)))
    have f55 : Fld Z h46 o1 "com/example/driftwalk/driftwalk/graph/NodeTable" "smallest" "I" (.int p3) := Fld.other W45 f36 (Or.inr (slot_ne (Or.inl (hw _ (List.mem_of_getElem? (i := 104) rfl))) (Or.inl (hw _ (List.mem_of_getElem? (i := 11) rfl))) (by decide) (t := .int) (t' := .int) (by decide) (by decide)))
    have f56 : AV Z h46 sl .long (xs9.map Value.long) := f37.other W45 (Ne.symm ne_s)
    have k57 : Keep h0 h46 [o1, sl] := k38.wr W45 (Or.inl (List.mem_of_getElem? (i := 0) rfl))
    refine w_aloadN X44 d19_53 rfl rfl rfl ?_
    refine w_dup X44 d19_54 rfl rfl ?_
    refine w_getF X44 (host := "") (Or.inl (hw _ (List.mem_of_getElem? (i := 71) rfl))) Via.refl f54 d19_55 rfl fun T58 X59 => ?_
    refine w_iconst X59 d19_58 (v := (1 : Int32)) rfl rfl ?_
    refine w_iadd X59 d19_59 rfl ?_
    refine w_putF X59 (host := "") (Or.inl (hw _ (List.mem_of_getElem? (i := 71) rfl))) Via.refl f54 f47 (Or.inl (hw _ (List.mem_of_getElem? (i := 72) rfl))) (hw _ (List.mem_of_getElem? (i := 2) rfl)) (ty := .int) (by decide) rfl rfl g_o d19_60 rfl fun T60 h63 X61 W62 => ?_
    have f64 : Exa Z h63 o1 "com/example/driftwalk/driftwalk/graph/NodeTable" := Exa.wr W62 f47
    have f65 : Fld Z h63 o1 "com/example/driftwalk/driftwalk/graph/NodeTable" "largest" "I" (.int (f_max lg p3)) := Fld.other W62 f48 (Or.inr (slot_ne (Or.inl (hw _ (List.mem_of_getElem? (i := 11) rfl))) (Or.inl (hw _ (List.mem_of_getElem? (i := 72) rfl))) (by decide) (t := .int) (t' := .int) (by decide) (by decide)))
    have f66 : Fld Z h63 o1 "com/example/driftwalk/driftwalk/graph/NodeTable" "bound" "I" (.int bd) := Fld.other W62 f49 (Or.inr (slot_ne (Or.inr (hw _ (List.mem_of_getElem? (i := 13) rfl))) (Or.inl (hw _ (List.mem_of_getElem? (i := 72) rfl))) (by decide) (t := .int) (t' := .int) (by decide) (by decide)))
    have f67 : Fld Z h63 o1 "com/example/driftwalk/driftwalk/graph/NodeTable" "values" "[I" .null := Fld.other W62 f50 (Or.inr (slot_ne (Or.inl (hw _ (List.mem_of_getElem? (i := 21) rfl))) (Or.inl (hw _ (List.mem_of_getElem? (i := 72) rfl))) (by decide) (t := (.array .int)) (t' := .int) (by decide) (by decide)))
    have f68 : Fld Z h63 o1 "com/example/driftwalk/driftwalk/graph/NodeTable" "base" "I" (.int (0 : Int32)) := Fld.other W62 f51 (Or.inr (slot_ne (Or.inl (hw _ (List.mem_of_getElem? (i := 37) rfl))) (Or.inl (hw _ (List.mem_of_getElem? (i := 72) rfl))) (by decide) (t := .int) (t' := .int) (by decide) (by decide)))
    have f69 : Fld Z h63 o1 "com/example/driftwalk/driftwalk/graph/NodeTable" "slots" "[J" (.ref sl) := Fld.other W62 f52 (Or.inr (slot_ne (Or.inl (hw _ (List.mem_of_getElem? (i := 67) rfl))) (Or.inl (hw _ (List.mem_of_getElem? (i := 72) rfl))) (by decide) (t := (.array .long)) (t' := .int) (by decide) (by decide)))
    have f70 : Fld Z h63 o1 "com/example/driftwalk/driftwalk/graph/NodeTable" "mask" "I" (.int (15 : Int32)) := Fld.other W62 f53 (Or.inr (slot_ne (Or.inl (hw _ (List.mem_of_getElem? (i := 70) rfl))) (Or.inl (hw _ (List.mem_of_getElem? (i := 72) rfl))) (by decide) (t := .int) (t' := .int) (by decide) (by decide)))
    have f71 : Fld Z h63 o1 "com/example/driftwalk/driftwalk/graph/NodeTable" "size" "I" (.int ((0 : Int32) + (1 : Int32))) := Fld.same W62 f54
    have f72 : Fld Z h63 o1 "com/example/driftwalk/driftwalk/graph/NodeTable" "smallest" "I" (.int p3) := Fld.other W62 f55 (Or.inr (slot_ne (Or.inl (hw _ (List.mem_of_getElem? (i := 104) rfl))) (Or.inl (hw _ (List.mem_of_getElem? (i := 72) rfl))) (by decide) (t := .int) (t' := .int) (by decide) (by decide)))
    have f73 : AV Z h63 sl .long (xs9.map Value.long) := f56.other W62 (Ne.symm ne_s)
    have k74 : Keep h0 h63 [o1, sl] := k57.wr W62 (Or.inl (List.mem_of_getElem? (i := 0) rfl))
    refine w_ldc2Long X61 (hw _ (List.mem_of_getElem? (i := 51) rfl)) d19_63 rfl ?_
    refine w_aloadN X61 d19_66 rfl rfl rfl ?_
    refine w_getF X61 (host := "") (Or.inl (hw _ (List.mem_of_getElem? (i := 71) rfl))) Via.refl f71 d19_67 rfl fun T75 X76 => ?_
    refine w_i2l X76 d19_70 rfl ?_
    refine w_lmul X76 d19_71 rfl ?_
    refine w_aloadN X76 d19_72 rfl rfl rfl ?_
    refine w_getF X76 (host := "") (Or.inl (hw _ (List.mem_of_getElem? (i := 69) rfl))) Via.refl f70 d19_73 rfl fun T77 X78 => ?_
    refine w_i2l X78 d19_76 rfl ?_
    refine w_lconst X78 d19_77 (v := (1 : Int64)) rfl rfl ?_
    refine w_ladd X78 d19_78 rfl ?_
    refine w_lcmp_le X78 d19_79 rfl d19_80 (by decide) (pcT := 140) (pcF := 83) (by decide) rfl (fun c79 => ?_) (fun c79 => ?_)
    · exact w_return X78 d19_140 rfl ⟨_, _, k74, (by have q := (show NTs Z h63 o1 sl xs9 ((0 : Int32) + (1 : Int32)) p3 (f_max lg p3) bd from ⟨f64, f65, f66, f67, f68, f69, f70, f71, f72, f73⟩); rw [hxs9] at q; exact q)⟩ (by decide) (by decide)
    · exact False.elim (absurd c79 (by decide))
  · subst q1
    refine w_aloadN X0 d19_0 rfl rfl rfl ?_
    refine w_getF X0 (host := "") (Or.inl (hw _ (List.mem_of_getElem? (i := 66) rfl))) Via.refl F_slots d19_1 rfl fun T80 X81 => ?_
    refine w_iloadN X81 d19_4 rfl rfl ?_
    refine w_iloadN X81 d19_5 rfl rfl ?_
    refine w_i2l X81 d19_6 rfl ?_
    refine w_bipush X81 d19_7 (v := (32 : Int32)) rfl rfl ?_
    refine w_lshl X81 d19_9 rfl ?_
    refine w_iloadN X81 d19_10 rfl rfl ?_
    refine w_i2l X81 d19_11 rfl ?_
    refine w_ldc2Long X81 (hw _ (List.mem_of_getElem? (i := 102) rfl)) d19_12 rfl ?_
    refine w_land X81 d19_15 rfl ?_
    refine w_lor X81 d19_16 rfl ?_
    refine w_lastore X81 A_s (S0 _ h16).1 rfl (by rw [List.length_map]; exact (by rw [hl]; exact (S0 _ h16).2.1)) g_s d19_17 rfl fun T82 h85 X83 W84 A86 => ?_
    rw [← List.map_set] at A86
    obtain ⟨xs87, hxs87⟩ : ∃ z, z = (xs.set (p2).toNatClampNeg (((p3.toInt64) <<< ((32 : Int32) &&& 0x3f).toInt64) ||| ((p4.toInt64) &&& (4294967295 : Int64)))) := ⟨_, rfl⟩
    rw [← hxs87] at A86
    have f88 : Exa Z h85 o1 "com/example/driftwalk/driftwalk/graph/NodeTable" := Exa.wr W84 E_o
    have f89 : Fld Z h85 o1 "com/example/driftwalk/driftwalk/graph/NodeTable" "largest" "I" (.int lg) := Fld.other W84 F_largest (Or.inl ne_s)
    have f90 : Fld Z h85 o1 "com/example/driftwalk/driftwalk/graph/NodeTable" "bound" "I" (.int bd) := Fld.other W84 F_bound (Or.inl ne_s)
    have f91 : Fld Z h85 o1 "com/example/driftwalk/driftwalk/graph/NodeTable" "values" "[I" .null := Fld.other W84 F_values (Or.inl ne_s)
    have f92 : Fld Z h85 o1 "com/example/driftwalk/driftwalk/graph/NodeTable" "base" "I" (.int (0 : Int32)) := Fld.other W84 F_base (Or.inl ne_s)
    have f93 : Fld Z h85 o1 "com/example/driftwalk/driftwalk/graph/NodeTable" "slots" "[J" (.ref sl) := Fld.other W84 F_slots (Or.inl ne_s)
    have f94 : Fld Z h85 o1 "com/example/driftwalk/driftwalk/graph/NodeTable" "mask" "I" (.int (15 : Int32)) := Fld.other W84 F_mask (Or.inl ne_s)
    have f95 : Fld Z h85 o1 "com/example/driftwalk/driftwalk/graph/NodeTable" "size" "I" (.int (1 : Int32)) := Fld.other W84 F_size (Or.inl ne_s)
    have f96 : Fld Z h85 o1 "com/example/driftwalk/driftwalk/graph/NodeTable" "smallest" "I" (.int sm) := Fld.other W84 F_smallest (Or.inl ne_s)
    have f97 : AV Z h85 sl .long (xs87.map Value.long) := A86
    have k98 : Keep h0 h85 [o1, sl] := (Keep.refl h0 [o1, sl]).wr W84 (Or.inl (List.mem_of_getElem? (i := 1) rfl))
    refine w_aloadN X83 d19_18 rfl rfl rfl ?_
    refine w_aloadN X83 d19_19 rfl rfl rfl ?_
    refine w_getF X83 (host := "") (Or.inl (hw _ (List.mem_of_getElem? (i := 71) rfl))) Via.refl f95 d19_20 rfl fun T99 X100 => ?_
    refine w_if_ne X100 d19_23 (by decide) (pcT := 30) (pcF := 26) (by decide) rfl (fun c101 => ?_) (fun c101 => absurd c101 (by decide))
    refine w_aloadN X100 d19_30 rfl rfl rfl ?_
    refine w_getF X100 (host := "") (Or.inl (hw _ (List.mem_of_getElem? (i := 103) rfl))) Via.refl f96 d19_31 rfl fun T102 X103 => ?_
    refine w_iloadN X103 d19_34 rfl rfl ?_
    refine w_staticVP X103 (rm20 l Z a0 hw sm p3 h85 n0 X103.size ) (hw _ (List.mem_of_getElem? (i := 105) rfl)) (hw _ (List.mem_of_getElem? (i := 106) rfl)) (hw _ (List.mem_of_getElem? (i := 55) rfl)) (hw _ (List.mem_of_getElem? (i := 107) rfl)) (by decide) (argsL := [(.int sm), (.int p3)]) (rest := [(.ref o1)]) rfl (lenOf pd_1 rfl) rfl (W := 1) rfl (by decide) (by decide) (by decide) (by decide) d19_35 rfl fun T104 X105 => ?_
    refine w_putF X105 (host := "") (Or.inl (hw _ (List.mem_of_getElem? (i := 103) rfl))) Via.refl f96 f88 (Or.inl (hw _ (List.mem_of_getElem? (i := 104) rfl))) (hw _ (List.mem_of_getElem? (i := 2) rfl)) (ty := .int) (by decide) rfl rfl g_o d19_38 rfl fun T106 h109 X107 W108 => ?_
    have f110 : Exa Z h109 o1 "com/example/driftwalk/driftwalk/graph/NodeTable" := Exa.wr W108 f88
    have f111 : Fld Z h109 o1 "com/example/driftwalk/driftwalk/graph/NodeTable" "largest" "I" (.int lg) := Fld.other W108 f89 (Or.inr (slot_ne (Or.inl (hw _ (List.mem_of_getElem? (i := 11) rfl))) (Or.inl (hw _ (List.mem_of_getElem? (i := 104) rfl))) (by decide) (t := .int) (t' := .int) (by decide) (by decide)))
    have f112 : Fld Z h109 o1 "com/example/driftwalk/driftwalk/graph/NodeTable" "bound" "I" (.int bd) := Fld.other W108 f90 (Or.inr (slot_ne (Or.inr (hw _ (List.mem_of_getElem? (i := 13) rfl))) (Or.inl (hw _ (List.mem_of_getElem? (i := 104) rfl))) (by decide) (t := .int) (t' := .int) (by decide) (by decide)))
    have f113 : Fld Z h109 o1 "com/example/driftwalk/driftwalk/graph/NodeTable" "values" "[I" .null := Fld.other W108 f91 (Or.inr (slot_ne (Or.inl (hw _ (List.mem_of_getElem? (i := 21) rfl))) (Or.inl (hw _ (List.mem_of_getElem? (i := 104) rfl))) (by decide) (t := (.array .int)) (t' := .int) (by decide) (by decide)))
    have f114 : Fld Z h109 o1 "com/example/driftwalk/driftwalk/graph/NodeTable" "base" "I" (.int (0 : Int32)) := Fld.other W108 f92 (Or.inr (slot_ne (Or.inl (hw _ (List.mem_of_getElem? (i := 37) rfl))) (Or.inl (hw _ (List.mem_of_getElem? (i := 104) rfl))) (by decide) (t := .int) (t' := .int) (by decide) (by decide)))
    have f115 : Fld Z h109 o1 "com/example/driftwalk/driftwalk/graph/NodeTable" "slots" "[J" (.ref sl) := Fld.other W108 f93 (Or.inr (slot_ne (Or.inl (hw _ (List.mem_of_getElem? (i := 67) rfl))) (Or.inl (hw _ (List.mem_of_getElem? (i := 104) rfl))) (by decide) (t := (.array .long)) (t' := .int) (by decide) (by decide)))
    have f116 : Fld Z h109 o1 "com/example/driftwalk/driftwalk/graph/NodeTable" "mask" "I" (.int (15 : Int32)) := Fld.other W108 f94 (Or.inr (slot_ne (Or.inl (hw _ (List.mem_of_getElem? (i := 70) rfl))) (Or.inl (hw _ (List.mem_of_getElem? (i := 104) rfl))) (by decide) (t := .int) (t' := .int) (by decide) (by decide)))
    have f117 : Fld Z h109 o1 "com/example/driftwalk/driftwalk/graph/NodeTable" "size" "I" (.int (1 : Int32)) := Fld.other W108 f95 (Or.inr (slot_ne (Or.inl (hw _ (List.mem_of_getElem? (i := 72) rfl))) (Or.inl (hw _ (List.mem_of_getElem? (i := 104) rfl))) (by decide) (t := .int) (t' := .int) (by decide) (by decide)))
    have f118 : Fld Z h109 o1 "com/example/driftwalk/driftwalk/graph/NodeTable" "smallest" "I" (.int (f_min sm p3)) := Fld.same W108 f96
    have f119 : AV Z h109 sl .long (xs87.map Value.long) := f97.other W108 (Ne.symm ne_s)
    have k120 : Keep h0 h109 [o1, sl] := k98.wr W108 (Or.inl (List.mem_of_getElem? (i := 0) rfl))
    refine w_aloadN X107 d19_41 rfl rfl rfl ?_
    refine w_aloadN X107 d19_42 rfl rfl rfl ?_
    refine w_getF X107 (host := "") (Or.inl (hw _ (List.mem_of_getElem? (i := 10) rfl))) Via.refl f111 d19_43 rfl fun T121 X122 => ?_
    refine w_iloadN X122 d19_46 rfl rfl ?_
    refine w_staticVP X122 (rm10 l Z a0 hw lg p3 h109 n0 X122.size ) (hw _ (List.mem_of_getElem? (i := 53) rfl)) (hw _ (List.mem_of_getElem? (i := 54) rfl)) (hw _ (List.mem_of_getElem? (i := 55) rfl)) (hw _ (List.mem_of_getElem? (i := 56) rfl)) (by decide) (argsL := [(.int lg), (.int p3)]) (rest := [(.ref o1)]) rfl (lenOf pd_1 rfl) rfl (W := 1) rfl (by decide) (by decide) (by decide) (by decide) d19_47 rfl fun T123 X124 => ?_
    refine w_putF X124 (host := "") (Or.inl (hw _ (List.mem_of_getElem? (i := 10) rfl))) Via.refl f111 f110 (Or.inl (hw _ (List.mem_of_getElem? (i := 11) rfl))) (hw _ (List.mem_of_getElem? (i := 2) rfl)) (ty := .int) (by decide) rfl rfl g_o d19_50 rfl fun T125 h128 X126 W127 => ?_
    have f129 : Exa Z h128 o1 "com/example/driftwalk/driftwalk/graph/NodeTable" := Exa.wr W127 f110
    have f130 : Fld Z h128 o1 "com/example/driftwalk/driftwalk/graph/NodeTable" "largest" "I" (.int (f_max lg p3)) := Fld.same W127 f111
    have f131 : Fld Z h128 o1 "com/example/driftwalk/driftwalk/graph/NodeTable" "bound" "I" (.int bd) := Fld.other W127 f112 (Or.inr (slot_ne (Or.inr (hw _ (List.mem_of_getElem? (i := 13) rfl))) (Or.inl (hw _ (List.mem_of_getElem? (i := 11) rfl))) (by decide) (t := .int) (t' := .int) (by decide) (by decide)))
    have f132 : Fld Z h128 o1 "com/example/driftwalk/driftwalk/graph/NodeTable" "values" "[I" .null := Fld.other W127 f113 (Or.inr (slot_ne (Or.inl (hw _ (List.mem_of_getElem? (i := 21) rfl))) (Or.inl (hw _ (List.mem_of_getElem? (i := 11) rfl))) (by decide) (t := (.array .int)) (t' := .int) (by decide) (by decide)))
    have f133 : Fld Z h128 o1 "com/example/driftwalk/driftwalk/graph/NodeTable" "base" "I" (.int (0 : Int32)) := Fld.other W127 f114 (Or.inr (slot_ne (Or.inl (hw _ (List.mem_of_getElem? (i := 37) rfl))) (Or.inl (hw _ (List.mem_of_getElem? (i := 11) rfl))) (by decide) (t := .int) (t' := .int) (by decide) (by decide)))
    have f134 : Fld Z h128 o1 "com/example/driftwalk/driftwalk/graph/NodeTable" "slots" "[J" (.ref sl) := Fld.other W127 f115 (Or.inr (slot_ne (Or.inl (hw _ (List.mem_of_getElem? (i := 67) rfl))) (Or.inl (hw _ (List.mem_of_getElem? (i := 11) rfl))) (by decide) (t := (.array .long)) (t' := .int) (by decide) (by decide)))
    have f135 : Fld Z h128 o1 "com/example/driftwalk/driftwalk/graph/NodeTable" "mask" "I" (.int (15 : Int32)) := Fld.other W127 f116 (Or.inr (slot_ne (Or.inl (hw _ (List.mem_of_getElem? (i := 70) rfl))) (Or.inl (hw _ (List.mem_of_getElem? (i := 11) rfl))) (by decide) (t := .int) (t' := .int) (by decide) (by decide)))
    have f136 : Fld Z h128 o1 "com/example/driftwalk/driftwalk/graph/NodeTable" "size" "I" (.int (1 : Int32)) := Fld.other W127 f117 (Or.inr (slot_ne (Or.inl (hw _ (List.mem_of_getElem? (i := 72) rfl))) (Or.inl (hw _ (List.mem_of_getElem? (i := 11) rfl))) (by decide) (t := .int) (t' := .int) (by decide) (by decide)))
    have f137 : Fld Z h128 o1 "com/example/driftwalk/driftwalk/graph/NodeTable" "smallest" "I" (.int (f_min sm p3)) := Fld.other W127 f118 (Or.inr (slot_ne (Or.inl (hw _ (List.mem_of_getElem? (i := 104) rfl))) (Or.inl (hw _ (List.mem_of_getElem? (i := 11) rfl))) (by decide) (t := .int) (t' := .int) (by decide) (by decide)))
    have f138 : AV Z h128 sl .long (xs87.map Value.long) := f119.other W127 (Ne.symm ne_s)
    have k139 : Keep h0 h128 [o1, sl] := k120.wr W127 (Or.inl (List.mem_of_getElem? (i := 0) rfl))
    refine w_aloadN X126 d19_53 rfl rfl rfl ?_
    refine w_dup X126 d19_54 rfl rfl ?_
    refine w_getF X126 (host := "") (Or.inl (hw _ (List.mem_of_getElem? (i := 71) rfl))) Via.refl f136 d19_55 rfl fun T140 X141 => ?_
    refine w_iconst X141 d19_58 (v := (1 : Int32)) rfl rfl ?_
    refine w_iadd X141 d19_59 rfl ?_
    refine w_putF X141 (host := "") (Or.inl (hw _ (List.mem_of_getElem? (i := 71) rfl))) Via.refl f136 f129 (Or.inl (hw _ (List.mem_of_getElem? (i := 72) rfl))) (hw _ (List.mem_of_getElem? (i := 2) rfl)) (ty := .int) (by decide) rfl rfl g_o d19_60 rfl fun T142 h145 X143 W144 => ?_
    have f146 : Exa Z h145 o1 "com/example/driftwalk/driftwalk/graph/NodeTable" := Exa.wr W144 f129
    have f147 : Fld Z h145 o1 "com/example/driftwalk/driftwalk/graph/NodeTable" "largest" "I" (.int (f_max lg p3)) := Fld.other W144 f130 (Or.inr (slot_ne (Or.inl (hw _ (List.mem_of_getElem? (i := 11) rfl))) (Or.inl (hw _ (List.mem_of_getElem? (i := 72) rfl))) (by decide) (t := .int) (t' := .int) (by decide) (by decide)))
    have f148 : Fld Z h145 o1 "com/example/driftwalk/driftwalk/graph/NodeTable" "bound" "I" (.int bd) := Fld.other W144 f131 (Or.inr (slot_ne (Or.inr (hw _ (List.mem_of_getElem? (i := 13) rfl))) (Or.inl (hw _ (List.mem_of_getElem? (i := 72) rfl))) (by decide) (t := .int) (t' := .int) (by decide) (by decide)))
    have f149 : Fld Z h145 o1 "com/example/driftwalk/driftwalk/graph/NodeTable" "values" "[I" .null := Fld.other W144 f132 (Or.inr (slot_ne (Or.inl (hw _ (List.mem_of_getElem? (i := 21) rfl))) (Or.inl (hw _ (List.mem_of_getElem? (i := 72) rfl))) (by decide) (t := (.array .int)) (t' := .int) (by decide) (by decide)))
    have f150 : Fld Z h145 o1 "com/example/driftwalk/driftwalk/graph/NodeTable" "base" "I" (.int (0 : Int32)) := Fld.other W144 f133 (Or.inr (slot_ne (Or.inl (hw _ (List.mem_of_getElem? (i := 37) rfl))) (Or.inl (hw _ (List.mem_of_getElem? (i := 72) rfl))) (by decide) (t := .int) (t' := .int) (by decide) (by decide)))
    have f151 : Fld Z h145 o1 "com/example/driftwalk/driftwalk/graph/NodeTable" "slots" "[J" (.ref sl) := Fld.other W144 f134 (Or.inr (slot_ne (Or.inl (hw _ (List.mem_of_getElem? (i := 67) rfl))) (Or.inl (hw _ (List.mem_of_getElem? (i := 72) rfl))) (by decide) (t := (.array .long)) (t' := .int) (by decide) (by decide)))
    have f152 : Fld Z h145 o1 "com/example/driftwalk/driftwalk/graph/NodeTable" "mask" "I" (.int (15 : Int32)) := Fld.other W144 f135 (Or.inr (slot_ne (Or.inl (hw _ (List.mem_of_getElem? (i := 70) rfl))) (Or.inl (hw _ (List.mem_of_getElem? (i := 72) rfl))) (by decide) (t := .int) (t' := .int) (by decide) (by decide)))
    have f153 : Fld Z h145 o1 "com/example/driftwalk/driftwalk/graph/NodeTable" "size" "I" (.int ((1 : Int32) + (1 : Int32))) := Fld.same W144 f136
    have f154 : Fld Z h145 o1 "com/example/driftwalk/driftwalk/graph/NodeTable" "smallest" "I" (.int (f_min sm p3)) := Fld.other W144 f137 (Or.inr (slot_ne (Or.inl (hw _ (List.mem_of_getElem? (i := 104) rfl))) (Or.inl (hw _ (List.mem_of_getElem? (i := 72) rfl))) (by decide) (t := .int) (t' := .int) (by decide) (by decide)))
    have f155 : AV Z h145 sl .long (xs87.map Value.long) := f138.other W144 (Ne.symm ne_s)
    have k156 : Keep h0 h145 [o1, sl] := k139.wr W144 (Or.inl (List.mem_of_getElem? (i := 0) rfl))
    refine w_ldc2Long X143 (hw _ (List.mem_of_getElem? (i := 51) rfl)) d19_63 rfl ?_
    refine w_aloadN X143 d19_66 rfl rfl rfl ?_
    refine w_getF X143 (host := "") (Or.inl (hw _ (List.mem_of_getElem? (i := 71) rfl))) Via.refl f153 d19_67 rfl fun T157 X158 => ?_
    refine w_i2l X158 d19_70 rfl ?_
    refine w_lmul X158 d19_71 rfl ?_
    refine w_aloadN X158 d19_72 rfl rfl rfl ?_
    refine w_getF X158 (host := "") (Or.inl (hw _ (List.mem_of_getElem? (i := 69) rfl))) Via.refl f152 d19_73 rfl fun T159 X160 => ?_
    refine w_i2l X160 d19_76 rfl ?_
    refine w_lconst X160 d19_77 (v := (1 : Int64)) rfl rfl ?_
    refine w_ladd X160 d19_78 rfl ?_
    refine w_lcmp_le X160 d19_79 rfl d19_80 (by decide) (pcT := 140) (pcF := 83) (by decide) rfl (fun c161 => ?_) (fun c161 => ?_)
    · exact w_return X160 d19_140 rfl ⟨_, _, k156, (by have q := (show NTs Z h145 o1 sl xs87 ((1 : Int32) + (1 : Int32)) (f_min sm p3) (f_max lg p3) bd from ⟨f146, f147, f148, f149, f150, f151, f152, f153, f154, f155⟩); rw [hxs87] at q; exact q)⟩ (by decide) (by decide)
    · exact False.elim (absurd c161 (by decide))
  · subst q1
    refine w_aloadN X0 d19_0 rfl rfl rfl ?_
    refine w_getF X0 (host := "") (Or.inl (hw _ (List.mem_of_getElem? (i := 66) rfl))) Via.refl F_slots d19_1 rfl fun T162 X163 => ?_
    refine w_iloadN X163 d19_4 rfl rfl ?_
    refine w_iloadN X163 d19_5 rfl rfl ?_
    refine w_i2l X163 d19_6 rfl ?_
    refine w_bipush X163 d19_7 (v := (32 : Int32)) rfl rfl ?_
    refine w_lshl X163 d19_9 rfl ?_
    refine w_iloadN X163 d19_10 rfl rfl ?_
    refine w_i2l X163 d19_11 rfl ?_
    refine w_ldc2Long X163 (hw _ (List.mem_of_getElem? (i := 102) rfl)) d19_12 rfl ?_
    refine w_land X163 d19_15 rfl ?_
    refine w_lor X163 d19_16 rfl ?_
    refine w_lastore X163 A_s (S0 _ h16).1 rfl (by rw [List.length_map]; exact (by rw [hl]; exact (S0 _ h16).2.1)) g_s d19_17 rfl fun T164 h167 X165 W166 A168 => ?_
    rw [← List.map_set] at A168
    obtain ⟨xs169, hxs169⟩ : ∃ z, z = (xs.set (p2).toNatClampNeg (((p3.toInt64) <<< ((32 : Int32) &&& 0x3f).toInt64) ||| ((p4.toInt64) &&& (4294967295 : Int64)))) := ⟨_, rfl⟩
    rw [← hxs169] at A168
    have f170 : Exa Z h167 o1 "com/example/driftwalk/driftwalk/graph/NodeTable" := Exa.wr W166 E_o
    have f171 : Fld Z h167 o1 "com/example/driftwalk/driftwalk/graph/NodeTable" "largest" "I" (.int lg) := Fld.other W166 F_largest (Or.inl ne_s)
    have f172 : Fld Z h167 o1 "com/example/driftwalk/driftwalk/graph/NodeTable" "bound" "I" (.int bd) := Fld.other W166 F_bound (Or.inl ne_s)
    have f173 : Fld Z h167 o1 "com/example/driftwalk/driftwalk/graph/NodeTable" "values" "[I" .null := Fld.other W166 F_values (Or.inl ne_s)
    have f174 : Fld Z h167 o1 "com/example/driftwalk/driftwalk/graph/NodeTable" "base" "I" (.int (0 : Int32)) := Fld.other W166 F_base (Or.inl ne_s)
    have f175 : Fld Z h167 o1 "com/example/driftwalk/driftwalk/graph/NodeTable" "slots" "[J" (.ref sl) := Fld.other W166 F_slots (Or.inl ne_s)
    have f176 : Fld Z h167 o1 "com/example/driftwalk/driftwalk/graph/NodeTable" "mask" "I" (.int (15 : Int32)) := Fld.other W166 F_mask (Or.inl ne_s)
    have f177 : Fld Z h167 o1 "com/example/driftwalk/driftwalk/graph/NodeTable" "size" "I" (.int (2 : Int32)) := Fld.other W166 F_size (Or.inl ne_s)
    have f178 : Fld Z h167 o1 "com/example/driftwalk/driftwalk/graph/NodeTable" "smallest" "I" (.int sm) := Fld.other W166 F_smallest (Or.inl ne_s)
    have f179 : AV Z h167 sl .long (xs169.map Value.long) := A168
    have k180 : Keep h0 h167 [o1, sl] := (Keep.refl h0 [o1, sl]).wr W166 (Or.inl (List.mem_of_getElem? (i := 1) rfl))
    refine w_aloadN X165 d19_18 rfl rfl rfl ?_
    refine w_aloadN X165 d19_19 rfl rfl rfl ?_
    refine w_getF X165 (host := "") (Or.inl (hw _ (List.mem_of_getElem? (i := 71) rfl))) Via.refl f177 d19_20 rfl fun T181 X182 => ?_
    refine w_if_ne X182 d19_23 (by decide) (pcT := 30) (pcF := 26) (by decide) rfl (fun c183 => ?_) (fun c183 => absurd c183 (by decide))
    refine w_aloadN X182 d19_30 rfl rfl rfl ?_
    refine w_getF X182 (host := "") (Or.inl (hw _ (List.mem_of_getElem? (i := 103) rfl))) Via.refl f178 d19_31 rfl fun T184 X185 => ?_
    refine w_iloadN X185 d19_34 rfl rfl ?_
    refine w_staticVP X185 (rm20 l Z a0 hw sm p3 h167 n0 X185.size ) (hw _ (List.mem_of_getElem? (i := 105) rfl)) (hw _ (List.mem_of_getElem? (i := 106) rfl)) (hw _ (List.mem_of_getElem? (i := 55) rfl)) (hw _ (List.mem_of_getElem? (i := 107) rfl)) (by decide) (argsL := [(.int sm), (.int p3)]) (rest := [(.ref o1)]) rfl (lenOf pd_1 rfl) rfl (W := 1) rfl (by decide) (by decide) (by decide) (by decide) d19_35 rfl fun T186 X187 => ?_
    refine w_putF X187 (host := "") (Or.inl (hw _ (List.mem_of_getElem? (i := 103) rfl))) Via.refl f178 f170 (Or.inl (hw _ (List.mem_of_getElem? (i := 104) rfl))) (hw _ (List.mem_of_getElem? (i := 2) rfl)) (ty := .int) (by decide) rfl rfl g_o d19_38 rfl fun T188 h191 X189 W190 => ?_
    have f192 : Exa Z h191 o1 "com/example/driftwalk/driftwalk/graph/NodeTable" := Exa.wr W190 f170
    have f193 : Fld Z h191 o1 "com/example/driftwalk/driftwalk/graph/NodeTable" "largest" "I" (.int lg) := Fld.other W190 f171 (Or.inr (slot_ne (Or.inl (hw _ (List.mem_of_getElem? (i := 11) rfl))) (Or.inl (hw _ (List.mem_of_getElem? (i := 104) rfl))) (by decide) (t := .int) (t' := .int) (by decide) (by decide)))
    have f194 : Fld Z h191 o1 "com/example/driftwalk/driftwalk/graph/NodeTable" "bound" "I" (.int bd) := Fld.other W190 f172 (Or.inr (slot_ne (Or.inr (hw _ (List.mem_of_getElem? (i := 13) rfl))) (Or.inl (hw _ (List.mem_of_getElem? (i := 104) rfl))) (by decide) (t := .int) (t' := .int) (by decide) (by decide)))
    have f195 : Fld Z h191 o1 "com/example/driftwalk/driftwalk/graph/NodeTable" "values" "[I" .null := Fld.other W190 f173 (Or.inr (slot_ne (Or.inl (hw _ (List.mem_of_getElem? (i := 21) rfl))) (Or.inl (hw _ (List.mem_of_getElem? (i := 104) rfl))) (by decide) (t := (.array .int)) (t' := .int) (by decide) (by decide)))
    have f196 : Fld Z h191 o1 "com/example/driftwalk/driftwalk/graph/NodeTable" "base" "I" (.int (0 : Int32)) := Fld.other W190 f174 (Or.inr (slot_ne (Or.inl (hw _ (List.mem_of_getElem? (i := 37) rfl))) (Or.inl (hw _ (List.mem_of_getElem? (i := 104) rfl))) (by decide) (t := .int) (t' := .int) (by decide) (by decide)))
    have f197 : Fld Z h191 o1 "com/example/driftwalk/driftwalk/graph/NodeTable" "slots" "[J" (.ref sl) := Fld.other W190 f175 (Or.inr (slot_ne (Or.inl (hw _ (List.mem_of_getElem? (i := 67) rfl))) (Or.inl (hw _ (List.mem_of_getElem? (i := 104) rfl))) (by decide) (t := (.array .long)) (t' := .int) (by decide) (by decide)))
    have f198 : Fld Z h191 o1 "com/example/driftwalk/driftwalk/graph/NodeTable" "mask" "I" (.int (15 : Int32)) := Fld.other W190 f176 (Or.inr (slot_ne (Or.inl (hw _ (List.mem_of_getElem? (i := 70) rfl))) (Or.inl (hw _ (List.mem_of_getElem? (i := 104) rfl))) (by decide) (t := .int) (t' := .int) (by decide) (by decide)))
    have f199 : Fld Z h191 o1 "com/example/driftwalk/driftwalk/graph/NodeTable" "size" "I" (.int (2 : Int32)) := Fld.other W190 f177 (Or.inr (slot_ne (Or.inl (hw _ (List.mem_of_getElem? (i := 72) rfl))) (Or.inl (hw _ (List.mem_of_getElem? (i := 104) rfl))) (by decide) (t := .int) (t' := .int) (by decide) (by decide)))
    have f200 : Fld Z h191 o1 "com/example/driftwalk/driftwalk/graph/NodeTable" "smallest" "I" (.int (f_min sm p3)) := Fld.same W190 f178
    have f201 : AV Z h191 sl .long (xs169.map Value.long) := f179.other W190 (Ne.symm ne_s)
    have k202 : Keep h0 h191 [o1, sl] := k180.wr W190 (Or.inl (List.mem_of_getElem? (i := 0) rfl))
    refine w_aloadN X189 d19_41 rfl rfl rfl ?_
    refine w_aloadN X189 d19_42 rfl rfl rfl ?_
    refine w_getF X189 (host := "") (Or.inl (hw _ (List.mem_of_getElem? (i := 10) rfl))) Via.refl f193 d19_43 rfl fun T203 X204 => ?_
    refine w_iloadN X204 d19_46 rfl rfl ?_
    refine w_staticVP X204 (rm10 l Z a0 hw lg p3 h191 n0 X204.size ) (hw _ (List.mem_of_getElem? (i := 53) rfl)) (hw _ (List.mem_of_getElem? (i := 54) rfl)) (hw _ (List.mem_of_getElem? (i := 55) rfl)) (hw _ (List.mem_of_getElem? (i := 56) rfl)) (by decide) (argsL := [(.int lg), (.int p3)]) (rest := [(.ref o1)]) rfl (lenOf pd_1 rfl) rfl (W := 1) rfl (by decide) (by decide) (by decide) (by decide) d19_47 rfl fun T205 X206 => ?_
    refine w_putF X206 (host := "") (Or.inl (hw _ (List.mem_of_getElem? (i := 10) rfl))) Via.refl f193 f192 (Or.inl (hw _ (List.mem_of_getElem? (i := 11) rfl))) (hw _ (List.mem_of_getElem? (i := 2) rfl)) (ty := .int) (by decide) rfl rfl g_o d19_50 rfl fun T207 h210 X208 W209 => ?_
    have f211 : Exa Z h210 o1 "com/example/driftwalk/driftwalk/graph/NodeTable" := Exa.wr W209 f192
    have f212 : Fld Z h210 o1 "com/example/driftwalk/driftwalk/graph/NodeTable" "largest" "I" (.int (f_max lg p3)) := Fld.same W209 f193
    have f213 : Fld Z h210 o1 "com/example/driftwalk/driftwalk/graph/NodeTable" "bound" "I" (.int bd) := Fld.other W209 f194 (Or.inr (slot_ne (Or.inr (hw _ (List.mem_of_getElem? (i := 13) rfl))) (Or.inl (hw _ (List.mem_of_getElem? (i := 11) rfl))) (by decide) (t := .int) (t' := .int) (by decide) (by decide)))
    have f214 : Fld Z h210 o1 "com/example/driftwalk/driftwalk/graph/NodeTable" "values" "[I" .null := Fld.other W209 f195 (Or.inr (slot_ne (Or.inl (hw _ (List.mem_of_getElem? (i := 21) rfl))) (Or.inl (hw _ (List.mem_of_getElem? (i := 11) rfl))) (by decide) (t := (.array .int)) (t' := .int) (by decide) (by decide)))
    have f215 : Fld Z h210 o1 "com/example/driftwalk/driftwalk/graph/NodeTable" "base" "I" (.int (0 : Int32)) := Fld.other W209 f196 (Or.inr (slot_ne (Or.inl (hw _ (List.mem_of_getElem? (i := 37) rfl))) (Or.inl (hw _ (List.mem_of_getElem? (i := 11) rfl))) (by decide) (t := .int) (t' := .int) (by decide) (by decide)))
    have f216 : Fld Z h210 o1 "com/example/driftwalk/driftwalk/graph/NodeTable" "slots" "[J" (.ref sl) := Fld.other W209 f197 (Or.inr (slot_ne (Or.inl (hw _ (List.mem_of_getElem? (i := 67) rfl))) (Or.inl (hw _ (List.mem_of_getElem? (i := 11) rfl))) (by decide) (t := (.array .long)) (t' := .int) (by decide) (by decide)))
    have f217 : Fld Z h210 o1 "com/example/driftwalk/driftwalk/graph/NodeTable" "mask" "I" (.int (15 : Int32)) := Fld.other W209 f198 (Or.inr (slot_ne (Or.inl (hw _ (List.mem_of_getElem? (i := 70) rfl))) (Or.inl (hw _ (List.mem_of_getElem? (i := 11) rfl))) (by decide) (t := .int) (t' := .int) (by decide) (by decide)))
    have f218 : Fld Z h210 o1 "com/example/driftwalk/driftwalk/graph/NodeTable" "size" "I" (.int (2 : Int32)) := Fld.other W209 f199 (Or.inr (slot_ne (Or.inl (hw _ (List.mem_of_getElem? (i := 72) rfl))) (Or.inl (hw _ (List.mem_of_getElem? (i := 11) rfl))) (by decide) (t := .int) (t' := .int) (by decide) (by decide)))
    have f219 : Fld Z h210 o1 "com/example/driftwalk/driftwalk/graph/NodeTable" "smallest" "I" (.int (f_min sm p3)) := Fld.other W209 f200 (Or.inr (slot_ne (Or.inl (hw _ (List.mem_of_getElem? (i := 104) rfl))) (Or.inl (hw _ (List.mem_of_getElem? (i := 11) rfl))) (by decide) (t := .int) (t' := .int) (by decide) (by decide)))
    have f220 : AV Z h210 sl .long (xs169.map Value.long) := f201.other W209 (Ne.symm ne_s)
    have k221 : Keep h0 h210 [o1, sl] := k202.wr W209 (Or.inl (List.mem_of_getElem? (i := 0) rfl))
    refine w_aloadN X208 d19_53 rfl rfl rfl ?_
    refine w_dup X208 d19_54 rfl rfl ?_
    refine w_getF X208 (host := "") (Or.inl (hw _ (List.mem_of_getElem? (i := 71) rfl))) Via.refl f218 d19_55 rfl fun T222 X223 => ?_
    refine w_iconst X223 d19_58 (v := (1 : Int32)) rfl rfl ?_
    refine w_iadd X223 d19_59 rfl ?_
    refine w_putF X223 (host := "") (Or.inl (hw _ (List.mem_of_getElem? (i := 71) rfl))) Via.refl f218 f211 (Or.inl (hw _ (List.mem_of_getElem? (i := 72) rfl))) (hw _ (List.mem_of_getElem? (i := 2) rfl)) (ty := .int) (by decide) rfl rfl g_o d19_60 rfl fun T224 h227 X225 W226 => ?_
    have f228 : Exa Z h227 o1 "com/example/driftwalk/driftwalk/graph/NodeTable" := Exa.wr W226 f211
    have f229 : Fld Z h227 o1 "com/example/driftwalk/driftwalk/graph/NodeTable" "largest" "I" (.int (f_max lg p3)) := Fld.other W226 f212 (Or.inr (slot_ne (Or.inl (hw _ (List.mem_of_getElem? (i := 11) rfl))) (Or.inl (hw _ (List.mem_of_getElem? (i := 72) rfl))) (by decide) (t := .int) (t' := .int) (by decide) (by decide)))
    have f230 : Fld Z h227 o1 "com/example/driftwalk/driftwalk/graph/NodeTable" "bound" "I" (.int bd) := Fld.other W226 f213 (Or.inr (slot_ne (Or.inr (hw _ (List.mem_of_getElem? (i := 13) rfl))) (Or.inl (hw _ (List.mem_of_getElem? (i := 72) rfl))) (by decide) (t := .int) (t' := .int) (by decide) (by decide)))
    have f231 : Fld Z h227 o1 "com/example/driftwalk/driftwalk/graph/NodeTable" "values" "[I" .null := Fld.other W226 f214 (Or.inr (slot_ne (Or.inl (hw _ (List.mem_of_getElem? (i := 21) rfl))) (Or.inl (hw _ (List.mem_of_getElem? (i := 72) rfl))) (by decide) (t := (.array .int)) (t' := .int) (by decide) (by decide)))
    have f232 : Fld Z h227 o1 "com/example/driftwalk/driftwalk/graph/NodeTable" "base" "I" (.int (0 : Int32)) := Fld.other W226 f215 (Or.inr (slot_ne (Or.inl (hw _ (List.mem_of_getElem? (i := 37) rfl))) (Or.inl (hw _ (List.mem_of_getElem? (i := 72) rfl))) (by decide) (t := .int) (t' := .int) (by decide) (by decide)))
    have f233 : Fld Z h227 o1 "com/example/driftwalk/driftwalk/graph/NodeTable" "slots" "[J" (.ref sl) := Fld.other W226 f216 (Or.inr (slot_ne (Or.inl (hw _ (List.mem_of_getElem? (i := 67) rfl))) (Or.inl (hw _ (List.mem_of_getElem? (i := 72) rfl))) (by decide) (t := (.array .long)) (t' := .int) (by decide) (by decide)))
    have f234 : Fld Z h227 o1 "com/example/driftwalk/driftwalk/graph/NodeTable" "mask" "I" (.int (15 : Int32)) := Fld.other W226 f217 (Or.inr (slot_ne (Or.inl (hw _ (List.mem_of_getElem? (i := 70) rfl))) (Or.inl (hw _ (List.mem_of_getElem? (i := 72) rfl))) (by decide) (t := .int) (t' := .int) (by decide) (by decide)))
    have f235 : Fld Z h227 o1 "com/example/driftwalk/driftwalk/graph/NodeTable" "size" "I" (.int ((2 : Int32) + (1 : Int32))) := Fld.same W226 f218
    have f236 : Fld Z h227 o1 "com/example/driftwalk/driftwalk/graph/NodeTable" "smallest" "I" (.int (f_min sm p3)) := Fld.other W226 f219 (Or.inr (slot_ne (Or.inl (hw _ (List.mem_of_getElem? (i := 104) rfl))) (Or.inl (hw _ (List.mem_of_getElem? (i := 72) rfl))) (by decide) (t := .int) (t' := .int) (by decide) (by decide)))
    have f237 : AV Z h227 sl .long (xs169.map Value.long) := f220.other W226 (Ne.symm ne_s)
    have k238 : Keep h0 h227 [o1, sl] := k221.wr W226 (Or.inl (List.mem_of_getElem? (i := 0) rfl))
    refine w_ldc2Long X225 (hw _ (List.mem_of_getElem? (i := 51) rfl)) d19_63 rfl ?_
    refine w_aloadN X225 d19_66 rfl rfl rfl ?_
    refine w_getF X225 (host := "") (Or.inl (hw _ (List.mem_of_getElem? (i := 71) rfl))) Via.refl f235 d19_67 rfl fun T239 X240 => ?_
    refine w_i2l X240 d19_70 rfl ?_
    refine w_lmul X240 d19_71 rfl ?_
    refine w_aloadN X240 d19_72 rfl rfl rfl ?_
    refine w_getF X240 (host := "") (Or.inl (hw _ (List.mem_of_getElem? (i := 69) rfl))) Via.refl f234 d19_73 rfl fun T241 X242 => ?_
    refine w_i2l X242 d19_76 rfl ?_
    refine w_lconst X242 d19_77 (v := (1 : Int64)) rfl rfl ?_
    refine w_ladd X242 d19_78 rfl ?_
    refine w_lcmp_le X242 d19_79 rfl d19_80 (by decide) (pcT := 140) (pcF := 83) (by decide) rfl (fun c243 => ?_) (fun c243 => ?_)
    · exact w_return X242 d19_140 rfl ⟨_, _, k238, (by have q := (show NTs Z h227 o1 sl xs169 ((2 : Int32) + (1 : Int32)) (f_min sm p3) (f_max lg p3) bd from ⟨f228, f229, f230, f231, f232, f233, f234, f235, f236, f237⟩); rw [hxs169] at q; exact q)⟩ (by decide) (by decide)
    · exact False.elim (absurd c243 (by decide))
theorem d18_0 : decode prog_79_method_14_code 0 = .ok (.aload_n 0, 1) := by decide +kernel
theorem d18_1 : decode prog_79_method_14_code 1 = .ok (.getfield 61, 3) := by decide +kernel
theorem d18_4 : decode prog_79_method_14_code 4 = .ok (.iload_n 1, 1) := by decide +kernel
theorem d18_5 : decode prog_79_method_14_code 5 = .ok (.laload, 1) := by decide +kernel
theorem d18_6 : decode prog_79_method_14_code 6 = .ok (.ldc2_w 65, 3) := by decide +kernel
theorem d18_9 : decode prog_79_method_14_code 9 = .ok (.lcmp, 1) := by decide +kernel
theorem d18_10 : decode prog_79_method_14_code 10 = .ok (.ifCond .ne 13, 3) := by decide +kernel
theorem d18_13 : decode prog_79_method_14_code 13 = .ok (.aload_n 0, 1) := by decide +kernel
theorem d18_14 : decode prog_79_method_14_code 14 = .ok (.iload_n 1, 1) := by decide +kernel
theorem d18_15 : decode prog_79_method_14_code 15 = .ok (.iload_n 2, 1) := by decide +kernel
theorem d18_16 : decode prog_79_method_14_code 16 = .ok (.iload_n 3, 1) := by decide +kernel
theorem d18_17 : decode prog_79_method_14_code 17 = .ok (.invokevirtual 76, 3) := by decide +kernel
theorem d18_20 : decode prog_79_method_14_code 20 = .ok (.goto 26, 3) := by decide +kernel
theorem d18_23 : decode prog_79_method_14_code 23 = .ok (.aload_n 0, 1) := by decide +kernel
theorem d18_24 : decode prog_79_method_14_code 24 = .ok (.getfield 61, 3) := by decide +kernel
theorem d18_27 : decode prog_79_method_14_code 27 = .ok (.iload_n 1, 1) := by decide +kernel
theorem d18_28 : decode prog_79_method_14_code 28 = .ok (.aload_n 0, 1) := by decide +kernel
theorem d18_29 : decode prog_79_method_14_code 29 = .ok (.getfield 61, 3) := by decide +kernel
theorem d18_32 : decode prog_79_method_14_code 32 = .ok (.iload_n 1, 1) := by decide +kernel
theorem d18_33 : decode prog_79_method_14_code 33 = .ok (.laload, 1) := by decide +kernel
theorem d18_34 : decode prog_79_method_14_code 34 = .ok (.ldc2_w 79, 3) := by decide +kernel
theorem d18_37 : decode prog_79_method_14_code 37 = .ok (.land, 1) := by decide +kernel
theorem d18_38 : decode prog_79_method_14_code 38 = .ok (.iload_n 3, 1) := by decide +kernel
theorem d18_39 : decode prog_79_method_14_code 39 = .ok (.i2l, 1) := by decide +kernel
theorem d18_40 : decode prog_79_method_14_code 40 = .ok (.ldc2_w 81, 3) := by decide +kernel
theorem d18_43 : decode prog_79_method_14_code 43 = .ok (.land, 1) := by decide +kernel
theorem d18_44 : decode prog_79_method_14_code 44 = .ok (.lor, 1) := by decide +kernel
theorem d18_45 : decode prog_79_method_14_code 45 = .ok (.lastore, 1) := by decide +kernel
theorem d18_46 : decode prog_79_method_14_code 46 = .ok (.return_, 1) := by decide +kernel
theorem pn_18 : plainName "com/example/driftwalk/driftwalk/graph/NodeTable" = true := by first | (simp [plainName, overriddenIn]; done) | decide +kernel
theorem ef_18 (m : MethodId) (o1 : Addr) (p2 : Int32) (p3 : Int32) (p4 : Int32) : entryFrame m #[(.ref o1), (.int p2), (.int p3), (.int p4)] 4 = mkF m 0 #[.val (.ref o1), .val (.int p2), .val (.int p3), .val (.int p4)] [] := by first | (simp [entryFrame, mkF, argsToLocals, Value.category]; done) | rfl
set_option maxRecDepth 65536 in
set_option maxHeartbeats 4000000 in
theorem rm_setIn (l : Launch) (Z : State) (a0 : Array Value) (hw : ∀ d ∈ tables_1, d.before a0 Z = true) (o1 : Addr) (p2 : Int32) (p3 : Int32) (p4 : Int32) (sl : Addr) (xs : List Int64) (c0 : Int32) (sm : Int32) (lg : Int32) (bd : Int32) (ns : List Int32) (h0 : Heap) (n0 : Nat) (Z0 : n0 ≤ h0.size) (O : NTs Z h0 o1 sl xs c0 sm lg bd) (ne_s : o1 ≠ sl) (g_o : n0 ≤ o1) (g_s : n0 ≤ sl) (I : Inv hmn xs ns) (hc : c0 = Int32.ofNat ns.length) (hle : ns.length ≤ 2) (r16 : p2 ∈ sixteen) (hf : fnd xs p3 17 (hmn p3) = some p2) (hcs : ga xs p2 = -1 ∧ p3 ∉ ns ∨ ga xs p2 ≠ -1 ∧ nd (ga xs p2) = p3 ∧ p3 ∈ ns) (hn : 0 ≤ p3.toInt) :
    Con l Z (⟨"com/example/driftwalk/driftwalk/graph/NodeTable", "setIn", "(III)V"⟩ : MethodName) prog_79_method_14_code 4 none ({ frames := 2, cells := 0, slots := 0, locals := 30 } : Room) #[(.ref o1), (.int p2), (.int p3), (.int p4)] h0 n0 none (fun h => ∃ xs' c' sm' lg', Inv hmn xs' (nsI ns p3) ∧ c' = Int32.ofNat ((nsI ns p3)).length ∧ Keep h0 h [o1, sl] ∧ NTs Z h o1 sl xs' c' sm' lg' bd) := by
  refine con_of (plainFor_of_name pn_18) Z0 (fun m => ef_18 m o1 p2 p3 p4) ?_
  intro p e s m below meth c T0 X0
  have O0 := O
  obtain ⟨E_o, F_largest, F_bound, F_values, F_base, F_slots, F_mask, F_size, F_smallest, A_s⟩ := O
  refine w_aloadN X0 d18_0 rfl rfl rfl ?_
  refine w_getF X0 (host := "") (Or.inl (hw _ (List.mem_of_getElem? (i := 66) rfl))) Via.refl F_slots d18_1 rfl fun T1 X2 => ?_
  refine w_iloadN X2 d18_4 rfl rfl ?_
  refine w_laload X2 A_s (S0 _ r16).1 rfl (getL (by rw [I.len]; exact (S0 _ r16).2.1)) d18_5 rfl ?_
  refine w_ldc2Long X2 (hw _ (List.mem_of_getElem? (i := 73) rfl)) d18_6 rfl ?_
  refine w_lcmp_ne X2 d18_9 rfl d18_10 (by decide) (pcT := 23) (pcF := 13) (by decide) rfl (fun c3 => ?_) (fun c3 => ?_)
  · refine w_aloadN X2 d18_23 rfl rfl rfl ?_
    refine w_getF X2 (host := "") (Or.inl (hw _ (List.mem_of_getElem? (i := 66) rfl))) Via.refl F_slots d18_24 rfl fun T4 X5 => ?_
    refine w_iloadN X5 d18_27 rfl rfl ?_
    refine w_aloadN X5 d18_28 rfl rfl rfl ?_
    refine w_getF X5 (host := "") (Or.inl (hw _ (List.mem_of_getElem? (i := 66) rfl))) Via.refl F_slots d18_29 rfl fun T6 X7 => ?_
    refine w_iloadN X7 d18_32 rfl rfl ?_
    refine w_laload X7 A_s (S0 _ r16).1 rfl (getL (by rw [I.len]; exact (S0 _ r16).2.1)) d18_33 rfl ?_
    refine w_ldc2Long X7 (hw _ (List.mem_of_getElem? (i := 108) rfl)) d18_34 rfl ?_
    refine w_land X7 d18_37 rfl ?_
    refine w_iloadN X7 d18_38 rfl rfl ?_
    refine w_i2l X7 d18_39 rfl ?_
    refine w_ldc2Long X7 (hw _ (List.mem_of_getElem? (i := 102) rfl)) d18_40 rfl ?_
    refine w_land X7 d18_43 rfl ?_
    refine w_lor X7 d18_44 rfl ?_
    refine w_lastore X7 A_s (S0 _ r16).1 rfl (by rw [List.length_map]; exact (by rw [I.len]; exact (S0 _ r16).2.1)) g_s d18_45 rfl fun T8 h11 X9 W10 A12 => ?_
    rw [← List.map_set] at A12
    obtain ⟨xs13, hxs13⟩ : ∃ z, z = (xs.set (p2).toNatClampNeg (((xs.getD (p2).toNatClampNeg 0) &&& (-4294967296 : Int64)) ||| ((p4.toInt64) &&& (4294967295 : Int64)))) := ⟨_, rfl⟩
    rw [← hxs13] at A12
    have f14 : Exa Z h11 o1 "com/example/driftwalk/driftwalk/graph/NodeTable" := Exa.wr W10 E_o
    have f15 : Fld Z h11 o1 "com/example/driftwalk/driftwalk/graph/NodeTable" "largest" "I" (.int lg) := Fld.other W10 F_largest (Or.inl ne_s)
    have f16 : Fld Z h11 o1 "com/example/driftwalk/driftwalk/graph/NodeTable" "bound" "I" (.int bd) := Fld.other W10 F_bound (Or.inl ne_s)
    have f17 : Fld Z h11 o1 "com/example/driftwalk/driftwalk/graph/NodeTable" "values" "[I" .null := Fld.other W10 F_values (Or.inl ne_s)
    have f18 : Fld Z h11 o1 "com/example/driftwalk/driftwalk/graph/NodeTable" "base" "I" (.int (0 : Int32)) := Fld.other W10 F_base (Or.inl ne_s)
    have f19 : Fld Z h11 o1 "com/example/driftwalk/driftwalk/graph/NodeTable" "slots" "[J" (.ref sl) := Fld.other W10 F_slots (Or.inl ne_s)
    have f20 : Fld Z h11 o1 "com/example/driftwalk/driftwalk/graph/NodeTable" "mask" "I" (.int (15 : Int32)) := Fld.other W10 F_mask (Or.inl ne_s)
    have f21 : Fld Z h11 o1 "com/example/driftwalk/driftwalk/graph/NodeTable" "size" "I" (.int c0) := Fld.other W10 F_size (Or.inl ne_s)
    have f22 : Fld Z h11 o1 "com/example/driftwalk/driftwalk/graph/NodeTable" "smallest" "I" (.int sm) := Fld.other W10 F_smallest (Or.inl ne_s)
    have f23 : AV Z h11 sl .long (xs13.map Value.long) := A12
    have k24 : Keep h0 h11 [o1, sl] := (Keep.refl h0 [o1, sl]).wr W10 (Or.inl (List.mem_of_getElem? (i := 1) rfl))
    have hyes : nd (ga xs p2) = p3 ∧ p3 ∈ ns := by rcases hcs with q | q; exact absurd q.1 c3; exact q.2
    have en : nsI ns p3 = ns := if_pos hyes.2
    exact w_return X9 d18_46 rfl ⟨_, _, _, _, (by rw [en, hxs13]; exact inv_upd hh I p2 _ r16 c3 (nd_ne _ _ ((nd_up (ga xs p2) p4).trans hyes.1) hn) (nd_up (ga xs p2) p4)), (by rw [en]; exact hc), k24, ⟨f14, f15, f16, f17, f18, f19, f20, f21, f22, f23⟩⟩ (by decide) (by decide)
  · refine w_aloadN X2 d18_13 rfl rfl rfl ?_
    refine w_iloadN X2 d18_14 rfl rfl ?_
    refine w_iloadN X2 d18_15 rfl rfl ?_
    refine w_iloadN X2 d18_16 rfl rfl ?_
    refine w_private0 X2 (rm_take l Z a0 hw o1 p2 p3 p4 sl xs c0 sm lg bd  h0 n0 X2.size ⟨E_o, F_largest, F_bound, F_values, F_base, F_slots, F_mask, F_size, F_smallest, A_s⟩ ne_s g_o g_s r16 I.len (own_c3 ns c0 hc hle)) E_o (hw _ (List.mem_of_getElem? (i := 98) rfl)) (hw _ (List.mem_of_getElem? (i := 99) rfl)) (hw _ (List.mem_of_getElem? (i := 2) rfl)) (hw _ (List.mem_of_getElem? (i := 100) rfl)) (hw _ (List.mem_of_getElem? (i := 3) rfl)) (hw _ (List.mem_of_getElem? (i := 101) rfl)) (by decide) (argsL := [(.int p2), (.int p3), (.int p4)]) (rest := []) rfl (lenOf pd_2 rfl) rfl (W := 0) rfl (by decide) (by decide) (by decide) (by decide) d18_17 rfl fun T25 h26 X27 q28 => ?_
    obtain ⟨sm29, lg30, K31, n32, n33, n34, n35, n36, n37, n38, n39, n40, n41⟩ := q28
    have f42 : Exa Z h26 o1 "com/example/driftwalk/driftwalk/graph/NodeTable" := E_o.keep K31
    have k43 : Keep h0 h26 [o1, sl] := (Keep.refl h0 [o1, sl]).trans K31 (allS (Or.inl (List.mem_of_getElem? (i := 0) rfl)) (allS (Or.inl (List.mem_of_getElem? (i := 1) rfl)) all0))
    refine w_goto X27 d18_20 (by decide) (pc' := 46) (by decide) ?_
    have hno : p3 ∉ ns := by rcases hcs with q | q; exact q.2; exact absurd c3 q.1
    have en : nsI ns p3 = p3 :: ns := if_neg hno
    exact w_return X27 d18_46 rfl ⟨_, _, _, _, (by rw [en]; exact inv_take hh I p3 p2 _ r16 hf c3 hno (nd_ne _ _ (nd_mk p3 p4) hn) (nd_mk p3 p4)), (by rw [en, hc]; exact own_suc _), k43, ⟨n32, n33, n34, n35, n36, n37, n38, n39, n40, n41⟩⟩ (by decide) (by decide)
theorem own_ps (ns : List Int32) (n v : Int32) (xs : List Int64) (r : Int32) (h : v = 0) (h2 : f_vi xs r = 0 → n ∉ ns → True) (hcs : ga xs r = -1 ∧ n ∉ ns ∨ ga xs r ≠ -1 ∧ nd (ga xs r) = n ∧ n ∈ ns) (k : ¬ f_vi xs r = 0) : nsI ns n = nsP ns n v := by
  have : n ∈ ns := by
    rcases hcs with q | q
    · exact absurd (show f_vi xs r = 0 by unfold f_vi; rw [if_pos (show xs.getD (r).toNatClampNeg 0 = -1 from q.1)]) k
    · exact q.2.2
  unfold nsI nsP; rw [if_pos this, if_pos this]
theorem own_p0 (ns : List Int32) (n v : Int32) (h : v = 0) : nsP ns n v = ns := by simp [nsP, h]
theorem own_p1 (ns : List Int32) (n v : Int32) (h : ¬ v = 0) : nsI ns n = nsP ns n v := by
  unfold nsI nsP; rw [if_neg h]
theorem d15_0 : decode prog_79_method_5_code 0 = .ok (.aload_n 0, 1) := by decide +kernel
theorem d15_1 : decode prog_79_method_5_code 1 = .ok (.getfield 26, 3) := by decide +kernel
theorem d15_4 : decode prog_79_method_5_code 4 = .ok (.ifnull 19, 3) := by decide +kernel
theorem d15_23 : decode prog_79_method_5_code 23 = .ok (.aload_n 0, 1) := by decide +kernel
theorem d15_24 : decode prog_79_method_5_code 24 = .ok (.iload_n 1, 1) := by decide +kernel
theorem d15_25 : decode prog_79_method_5_code 25 = .ok (.invokevirtual 37, 3) := by decide +kernel
theorem d15_28 : decode prog_79_method_5_code 28 = .ok (.istore_n 3, 1) := by decide +kernel
theorem d15_29 : decode prog_79_method_5_code 29 = .ok (.iload_n 2, 1) := by decide +kernel
theorem d15_30 : decode prog_79_method_5_code 30 = .ok (.ifCond .ne 11, 3) := by decide +kernel
theorem d15_33 : decode prog_79_method_5_code 33 = .ok (.aload_n 0, 1) := by decide +kernel
theorem d15_34 : decode prog_79_method_5_code 34 = .ok (.iload_n 3, 1) := by decide +kernel
theorem d15_35 : decode prog_79_method_5_code 35 = .ok (.invokevirtual 40, 3) := by decide +kernel
theorem d15_38 : decode prog_79_method_5_code 38 = .ok (.ifCond .eq 10, 3) := by decide +kernel
theorem d15_41 : decode prog_79_method_5_code 41 = .ok (.aload_n 0, 1) := by decide +kernel
theorem d15_42 : decode prog_79_method_5_code 42 = .ok (.iload_n 3, 1) := by decide +kernel
theorem d15_43 : decode prog_79_method_5_code 43 = .ok (.iload_n 1, 1) := by decide +kernel
theorem d15_44 : decode prog_79_method_5_code 44 = .ok (.iload_n 2, 1) := by decide +kernel
theorem d15_45 : decode prog_79_method_5_code 45 = .ok (.invokevirtual 53, 3) := by decide +kernel
theorem d15_48 : decode prog_79_method_5_code 48 = .ok (.return_, 1) := by decide +kernel
theorem pn_15 : plainName "com/example/driftwalk/driftwalk/graph/NodeTable" = true := by first | (simp [plainName, overriddenIn]; done) | decide +kernel
theorem ef_15 (m : MethodId) (o1 : Addr) (p2 : Int32) (p3 : Int32) : entryFrame m #[(.ref o1), (.int p2), (.int p3)] 4 = mkF m 0 #[.val (.ref o1), .val (.int p2), .val (.int p3), .unset] [] := by first | (simp [entryFrame, mkF, argsToLocals, Value.category]; done) | rfl
set_option maxRecDepth 65536 in
set_option maxHeartbeats 4000000 in
theorem rm_putO (l : Launch) (Z : State) (a0 : Array Value) (hw : ∀ d ∈ tables_1, d.before a0 Z = true) (o1 : Addr) (p2 : Int32) (p3 : Int32) (sl : Addr) (xs : List Int64) (c0 : Int32) (sm : Int32) (lg : Int32) (bd : Int32) (ns : List Int32) (h0 : Heap) (n0 : Nat) (Z0 : n0 ≤ h0.size) (O : NTs Z h0 o1 sl xs c0 sm lg bd) (ne_s : o1 ≠ sl) (g_o : n0 ≤ o1) (g_s : n0 ≤ sl) (I : Inv hmn xs ns) (hc : c0 = Int32.ofNat ns.length) (hle : ns.length ≤ 2) (hn : 0 ≤ p2.toInt) :
    Con l Z (⟨"com/example/driftwalk/driftwalk/graph/NodeTable", "putOutside", "(II)V"⟩ : MethodName) prog_79_method_5_code 4 none ({ frames := 3, cells := 0, slots := 0, locals := 45 } : Room) #[(.ref o1), (.int p2), (.int p3)] h0 n0 none (fun h => ∃ xs' c' sm' lg', Inv hmn xs' (nsP ns p2 p3) ∧ c' = Int32.ofNat ((nsP ns p2 p3)).length ∧ Keep h0 h [o1, sl] ∧ NTs Z h o1 sl xs' c' sm' lg' bd) := by
  refine con_of (plainFor_of_name pn_15) Z0 (fun m => ef_15 m o1 p2 p3) ?_
  intro p e s m below meth c T0 X0
  have O0 := O
  obtain ⟨E_o, F_largest, F_bound, F_values, F_base, F_slots, F_mask, F_size, F_smallest, A_s⟩ := O
  obtain ⟨r, r16, hr, hcs⟩ := inv_find hh I (by omega) p2
  have hm16 := hh p2
  have hr' := hr
  unfold hmn at hm16 hr'
  refine w_aloadN X0 d15_0 rfl rfl rfl ?_
  refine w_getF X0 (host := "") (Or.inl (hw _ (List.mem_of_getElem? (i := 20) rfl))) Via.refl F_values d15_1 rfl fun T1 X2 => ?_
  refine w_ifnullYes X2 d15_4 (by decide) (pc' := 23) (by decide) ?_
  refine w_aloadN X2 d15_23 rfl rfl rfl ?_
  refine w_iloadN X2 d15_24 rfl rfl ?_
  refine w_privateVP X2 (rm_find l Z a0 hw o1 p2 sl xs c0 sm lg bd r h0 n0 X2.size ⟨E_o, F_largest, F_bound, F_values, F_base, F_slots, F_mask, F_size, F_smallest, A_s⟩ ne_s g_o g_s I.len hm16 hr') E_o (hw _ (List.mem_of_getElem? (i := 85) rfl)) (hw _ (List.mem_of_getElem? (i := 86) rfl)) (hw _ (List.mem_of_getElem? (i := 2) rfl)) (hw _ (List.mem_of_getElem? (i := 87) rfl)) (hw _ (List.mem_of_getElem? (i := 3) rfl)) (hw _ (List.mem_of_getElem? (i := 88) rfl)) (by decide) (argsL := [(.int p2)]) (rest := []) rfl (lenOf pd_0 rfl) rfl (W := 0) rfl (by decide) (by decide) (by decide) (by decide) d15_25 rfl fun T3 X5 => ?_
  refine w_istoreN X5 d15_28 rfl (L' := #[.val (.ref o1), .val (.int p2), .val (.int p3), .val (.int r)]) rfl ?_
  refine w_iloadN X5 d15_29 rfl rfl ?_
  refine w_if_ne X5 d15_30 (by decide) (pcT := 41) (pcF := 33) (by decide) rfl (fun c7 => ?_) (fun c7 => ?_)
  · refine w_aloadN X5 d15_41 rfl rfl rfl ?_
    refine w_iloadN X5 d15_42 rfl rfl ?_
    refine w_iloadN X5 d15_43 rfl rfl ?_
    refine w_iloadN X5 d15_44 rfl rfl ?_
    refine w_private0 X5 (rm_setIn l Z a0 hw o1 r p2 p3 sl xs c0 sm lg bd ns h0 n0 X5.size ⟨E_o, F_largest, F_bound, F_values, F_base, F_slots, F_mask, F_size, F_smallest, A_s⟩ ne_s g_o g_s I hc hle r16 hr hcs hn) E_o (hw _ (List.mem_of_getElem? (i := 94) rfl)) (hw _ (List.mem_of_getElem? (i := 95) rfl)) (hw _ (List.mem_of_getElem? (i := 2) rfl)) (hw _ (List.mem_of_getElem? (i := 96) rfl)) (hw _ (List.mem_of_getElem? (i := 3) rfl)) (hw _ (List.mem_of_getElem? (i := 97) rfl)) (by decide) (argsL := [(.int r), (.int p2), (.int p3)]) (rest := []) rfl (lenOf pd_2 rfl) rfl (W := 0) rfl (by decide) (by decide) (by decide) (by decide) d15_45 rfl fun T8 h9 X10 q11 => ?_
    obtain ⟨xs12, c13, sm14, lg15, I16, hc17, K18, n19, n20, n21, n22, n23, n24, n25, n26, n27, n28⟩ := q11
    have f29 : Exa Z h9 o1 "com/example/driftwalk/driftwalk/graph/NodeTable" := E_o.keep K18
    have k30 : Keep h0 h9 [o1, sl] := (Keep.refl h0 [o1, sl]).trans K18 (allS (Or.inl (List.mem_of_getElem? (i := 0) rfl)) (allS (Or.inl (List.mem_of_getElem? (i := 1) rfl)) all0))
    exact w_return X10 d15_48 rfl ⟨_, _, _, _, (by rw [← own_p1 ns p2 p3 c7]; exact I16), (by rw [← own_p1 ns p2 p3 c7]; exact hc17), k30, ⟨n19, n20, n21, n22, n23, n24, n25, n26, n27, n28⟩⟩ (by decide) (by decide)
  · refine w_aloadN X5 d15_33 rfl rfl rfl ?_
    refine w_iloadN X5 d15_34 rfl rfl ?_
    refine w_privateVP X5 (rm_valueIn l Z a0 hw o1 r sl xs c0 sm lg bd  h0 n0 X5.size ⟨E_o, F_largest, F_bound, F_values, F_base, F_slots, F_mask, F_size, F_smallest, A_s⟩ ne_s g_o g_s r16 I.len) E_o (hw _ (List.mem_of_getElem? (i := 109) rfl)) (hw _ (List.mem_of_getElem? (i := 110) rfl)) (hw _ (List.mem_of_getElem? (i := 2) rfl)) (hw _ (List.mem_of_getElem? (i := 111) rfl)) (hw _ (List.mem_of_getElem? (i := 3) rfl)) (hw _ (List.mem_of_getElem? (i := 112) rfl)) (by decide) (argsL := [(.int r)]) (rest := []) rfl (lenOf pd_0 rfl) rfl (W := 0) rfl (by decide) (by decide) (by decide) (by decide) d15_35 rfl fun T31 X33 => ?_
    refine w_if_eq X33 d15_38 (by decide) (pcT := 48) (pcF := 41) (by decide) rfl (fun c35 => ?_) (fun c35 => ?_)
    · exact w_return X33 d15_48 rfl ⟨_, _, _, _, (by rw [own_p0 ns p2 p3 c7]; exact I), (by rw [own_p0 ns p2 p3 c7]; exact hc), (Keep.refl h0 [o1, sl]), ⟨E_o, F_largest, F_bound, F_values, F_base, F_slots, F_mask, F_size, F_smallest, A_s⟩⟩ (by decide) (by decide)
    · refine w_aloadN X33 d15_41 rfl rfl rfl ?_
      refine w_iloadN X33 d15_42 rfl rfl ?_
      refine w_iloadN X33 d15_43 rfl rfl ?_
      refine w_iloadN X33 d15_44 rfl rfl ?_
      refine w_private0 X33 (rm_setIn l Z a0 hw o1 r p2 p3 sl xs c0 sm lg bd ns h0 n0 X33.size ⟨E_o, F_largest, F_bound, F_values, F_base, F_slots, F_mask, F_size, F_smallest, A_s⟩ ne_s g_o g_s I hc hle r16 hr hcs hn) E_o (hw _ (List.mem_of_getElem? (i := 94) rfl)) (hw _ (List.mem_of_getElem? (i := 95) rfl)) (hw _ (List.mem_of_getElem? (i := 2) rfl)) (hw _ (List.mem_of_getElem? (i := 96) rfl)) (hw _ (List.mem_of_getElem? (i := 3) rfl)) (hw _ (List.mem_of_getElem? (i := 97) rfl)) (by decide) (argsL := [(.int r), (.int p2), (.int p3)]) (rest := []) rfl (lenOf pd_2 rfl) rfl (W := 0) rfl (by decide) (by decide) (by decide) (by decide) d15_45 rfl fun T36 h37 X38 q39 => ?_
      obtain ⟨xs40, c41, sm42, lg43, I44, hc45, K46, n47, n48, n49, n50, n51, n52, n53, n54, n55, n56⟩ := q39
      have f57 : Exa Z h37 o1 "com/example/driftwalk/driftwalk/graph/NodeTable" := E_o.keep K46
      have k58 : Keep h0 h37 [o1, sl] := (Keep.refl h0 [o1, sl]).trans K46 (allS (Or.inl (List.mem_of_getElem? (i := 0) rfl)) (allS (Or.inl (List.mem_of_getElem? (i := 1) rfl)) all0))
      exact w_return X38 d15_48 rfl ⟨_, _, _, _, (by rw [← own_ps ns p2 p3 xs r c7 (fun _ _ => trivial) hcs c35]; exact I44), (by rw [← own_ps ns p2 p3 xs r c7 (fun _ _ => trivial) hcs c35]; exact hc45), k58, ⟨n47, n48, n49, n50, n51, n52, n53, n54, n55, n56⟩⟩ (by decide) (by decide)
theorem d5_0 : decode prog_79_method_4_code 0 = .ok (.aload_n 0, 1) := by decide +kernel
theorem d5_1 : decode prog_79_method_4_code 1 = .ok (.iload_n 1, 1) := by decide +kernel
theorem d5_2 : decode prog_79_method_4_code 2 = .ok (.invokevirtual 33, 3) := by decide +kernel
theorem d5_5 : decode prog_79_method_4_code 5 = .ok (.istore_n 3, 1) := by decide +kernel
theorem d5_6 : decode prog_79_method_4_code 6 = .ok (.iload_n 3, 1) := by decide +kernel
theorem d5_7 : decode prog_79_method_4_code 7 = .ok (.ifCond .lt 11, 3) := by decide +kernel
theorem d5_18 : decode prog_79_method_4_code 18 = .ok (.aload_n 0, 1) := by decide +kernel
theorem d5_19 : decode prog_79_method_4_code 19 = .ok (.iload_n 1, 1) := by decide +kernel
theorem d5_20 : decode prog_79_method_4_code 20 = .ok (.iload_n 2, 1) := by decide +kernel
theorem d5_21 : decode prog_79_method_4_code 21 = .ok (.invokevirtual 43, 3) := by decide +kernel
theorem d5_24 : decode prog_79_method_4_code 24 = .ok (.return_, 1) := by decide +kernel
theorem pd_6 : parseMethodDescriptor "(II)V" = some ⟨[.int, .int], none⟩ := by decide +kernel
theorem pn_5 : plainName "com/example/driftwalk/driftwalk/graph/NodeTable" = true := by first | (simp [plainName, overriddenIn]; done) | decide +kernel
theorem ef_5 (m : MethodId) (o1 : Addr) (p2 : Int32) (p3 : Int32) : entryFrame m #[(.ref o1), (.int p2), (.int p3)] 4 = mkF m 0 #[.val (.ref o1), .val (.int p2), .val (.int p3), .unset] [] := by first | (simp [entryFrame, mkF, argsToLocals, Value.category]; done) | rfl
set_option maxRecDepth 65536 in
set_option maxHeartbeats 4000000 in
theorem rm_putL (l : Launch) (Z : State) (a0 : Array Value) (hw : ∀ d ∈ tables_1, d.before a0 Z = true) (o1 : Addr) (p2 : Int32) (p3 : Int32) (sl : Addr) (xs : List Int64) (c0 : Int32) (sm : Int32) (lg : Int32) (bd : Int32) (ns : List Int32) (h0 : Heap) (n0 : Nat) (Z0 : n0 ≤ h0.size) (O : NTs Z h0 o1 sl xs c0 sm lg bd) (ne_s : o1 ≠ sl) (g_o : n0 ≤ o1) (g_s : n0 ≤ sl) (I : Inv hmn xs ns) (hc : c0 = Int32.ofNat ns.length) (hle : ns.length ≤ 2) (hn : 0 ≤ p2.toInt) :
    Con l Z (⟨"com/example/driftwalk/driftwalk/graph/NodeTable", "put", "(II)V"⟩ : MethodName) prog_79_method_4_code 4 none ({ frames := 4, cells := 0, slots := 0, locals := 60 } : Room) #[(.ref o1), (.int p2), (.int p3)] h0 n0 none (fun h => ∃ xs' c' sm' lg', Inv hmn xs' (nsP ns p2 p3) ∧ c' = Int32.ofNat ((nsP ns p2 p3)).length ∧ Keep h0 h [o1, sl] ∧ NTs Z h o1 sl xs' c' sm' lg' bd) := by
  refine con_of (plainFor_of_name pn_5) Z0 (fun m => ef_5 m o1 p2 p3) ?_
  intro p e s m below meth c T0 X0
  have O0 := O
  obtain ⟨E_o, F_largest, F_bound, F_values, F_base, F_slots, F_mask, F_size, F_smallest, A_s⟩ := O
  refine w_aloadN X0 d5_0 rfl rfl rfl ?_
  refine w_iloadN X0 d5_1 rfl rfl ?_
  refine w_privateVP X0 (rm_atL l Z a0 hw o1 p2 sl xs c0 sm lg bd  h0 n0 X0.size ⟨E_o, F_largest, F_bound, F_values, F_base, F_slots, F_mask, F_size, F_smallest, A_s⟩ ne_s g_o g_s ) E_o (hw _ (List.mem_of_getElem? (i := 32) rfl)) (hw _ (List.mem_of_getElem? (i := 33) rfl)) (hw _ (List.mem_of_getElem? (i := 2) rfl)) (hw _ (List.mem_of_getElem? (i := 34) rfl)) (hw _ (List.mem_of_getElem? (i := 3) rfl)) (hw _ (List.mem_of_getElem? (i := 35) rfl)) (by decide) (argsL := [(.int p2)]) (rest := []) rfl (lenOf pd_0 rfl) rfl (W := 0) rfl (by decide) (by decide) (by decide) (by decide) d5_2 rfl fun T1 X3 => ?_
  refine w_istoreN X3 d5_5 rfl (L' := #[.val (.ref o1), .val (.int p2), .val (.int p3), .val (.int (-1 : Int32))]) rfl ?_
  refine w_iloadN X3 d5_6 rfl rfl ?_
  refine w_if_lt X3 d5_7 (by decide) (pcT := 18) (pcF := 10) (by decide) rfl (fun c5 => ?_) (fun c5 => absurd c5 (by decide))
  refine w_aloadN X3 d5_18 rfl rfl rfl ?_
  refine w_iloadN X3 d5_19 rfl rfl ?_
  refine w_iloadN X3 d5_20 rfl rfl ?_
  refine w_private0 X3 (rm_putO l Z a0 hw o1 p2 p3 sl xs c0 sm lg bd ns h0 n0 X3.size ⟨E_o, F_largest, F_bound, F_values, F_base, F_slots, F_mask, F_size, F_smallest, A_s⟩ ne_s g_o g_s I hc hle hn) E_o (hw _ (List.mem_of_getElem? (i := 81) rfl)) (hw _ (List.mem_of_getElem? (i := 82) rfl)) (hw _ (List.mem_of_getElem? (i := 2) rfl)) (hw _ (List.mem_of_getElem? (i := 83) rfl)) (hw _ (List.mem_of_getElem? (i := 3) rfl)) (hw _ (List.mem_of_getElem? (i := 84) rfl)) (by decide) (argsL := [(.int p2), (.int p3)]) (rest := []) rfl (lenOf pd_6 rfl) rfl (W := 0) rfl (by decide) (by decide) (by decide) (by decide) d5_21 rfl fun T6 h7 X8 q9 => ?_
  obtain ⟨xs10, c11, sm12, lg13, I14, hc15, K16, n17, n18, n19, n20, n21, n22, n23, n24, n25, n26⟩ := q9
  have f27 : Exa Z h7 o1 "com/example/driftwalk/driftwalk/graph/NodeTable" := E_o.keep K16
  have k28 : Keep h0 h7 [o1, sl] := (Keep.refl h0 [o1, sl]).trans K16 (allS (Or.inl (List.mem_of_getElem? (i := 0) rfl)) (allS (Or.inl (List.mem_of_getElem? (i := 1) rfl)) all0))
  exact w_return X8 d5_24 rfl ⟨_, _, _, _, I14, hc15, k28, ⟨n17, n18, n19, n20, n21, n22, n23, n24, n25, n26⟩⟩ (by decide) (by decide)
def NTv (Z : State) (h : Heap) (o1 va : Addr) (xs : List Int32) : Prop :=
  Exa Z h o1 "com/example/driftwalk/driftwalk/graph/NodeTable" ∧ Fld Z h o1 "com/example/driftwalk/driftwalk/graph/NodeTable" "values" "[I" (.ref va) ∧ Fld Z h o1 "com/example/driftwalk/driftwalk/graph/NodeTable" "base" "I" (.int 0) ∧ AV Z h va .int (xs.map Value.int)
theorem own_ll (xs : List Int32) (hl : xs.length ≤ 8) : xs.length.toInt32.toInt = xs.length := len_toInt (by omega)
theorem own_a1 (n : Int32) (h : 0 ≤ n.toInt) : ¬ (n - (0 : Int32)) < 0 := by rw [Int32.sub_zero]; exact own_nn n h
theorem own_a2 (xs : List Int32) (n : Int32) (hl : xs.length ≤ 8) (h : n.toInt < xs.length) : (n - (0 : Int32)) < xs.length.toInt32 := by rw [Int32.sub_zero, Int32.lt_iff_toInt_lt, own_ll xs hl]; exact h
theorem own_bd (xs : List Int32) (n : Int32) (h0 : 0 ≤ n.toInt) (h : n.toInt < xs.length) : n.toNatClampNeg < xs.length := by have := own_tn n h0; omega
def CI (xs : List Int32) (held i : Int32) : Prop := ∃ a : Nat, held = Int32.ofNat a ∧ a + cntN (xs.drop i.toNatClampNeg) = cntN xs
theorem own_cend (xs : List Int32) (held i : Int32) (hl : xs.length ≤ 8) (h0 : 0 ≤ i.toInt) (hge : ¬ i < xs.length.toInt32) (h : CI xs held i) : Int32.ofNat (cntN xs) = held := by
  obtain ⟨a, e, q⟩ := h
  rw [Int32.lt_iff_toInt_lt, own_ll xs hl] at hge
  have := own_tn i h0
  rw [List.drop_eq_nil_of_le (by omega)] at q
  have z : cntN [] = 0 := rfl
  rw [z] at q
  rw [e, ← q]; rfl
theorem own_cs0 (xs : List Int32) (held i : Int32) (hl : xs.length ≤ 8) (h0 : 0 ≤ i.toInt) (hlt : i < xs.length.toInt32) (h : CI xs held i) (hx : (xs.getD (i).toNatClampNeg 0) = 0) : CI xs (held + (0 : Int32)) (i + (1 : Int32)) := by
  obtain ⟨a, e, q⟩ := h
  have h1 := own_inc i _ hlt
  rw [Int32.lt_iff_toInt_lt, own_ll xs hl] at hlt
  have t1 := own_tn i h0; have t2 := own_tn (i + 1) (by omega)
  rw [own_drop xs _ (by omega), hx, bz0] at q
  refine ⟨a, by rw [Int32.add_zero]; exact e, ?_⟩
  rw [show (i + (1 : Int32)).toNatClampNeg = i.toNatClampNeg + 1 by omega]; omega
theorem own_cs1 (xs : List Int32) (held i : Int32) (hl : xs.length ≤ 8) (h0 : 0 ≤ i.toInt) (hlt : i < xs.length.toInt32) (h : CI xs held i) (hx : ¬ (xs.getD (i).toNatClampNeg 0) = 0) : CI xs (held + (1 : Int32)) (i + (1 : Int32)) := by
  obtain ⟨a, e, q⟩ := h
  have h1 := own_inc i _ hlt
  rw [Int32.lt_iff_toInt_lt, own_ll xs hl] at hlt
  have t1 := own_tn i h0; have t2 := own_tn (i + 1) (by omega)
  rw [own_drop xs _ (by omega), show bz (xs.getD i.toNatClampNeg 0) = 1 from if_neg hx] at q
  refine ⟨a + 1, by rw [e]; exact own_suc a, ?_⟩
  rw [show (i + (1 : Int32)).toNatClampNeg = i.toNatClampNeg + 1 by omega]; omega
theorem d6_16 : decode prog_79_method_12_code 16 = .ok (.iload_n 3, 1) := by decide +kernel
theorem d6_17 : decode prog_79_method_12_code 17 = .ok (.ifCond .lt 13, 3) := by decide +kernel
theorem d6_20 : decode prog_79_method_12_code 20 = .ok (.iload_n 3, 1) := by decide +kernel
theorem d6_21 : decode prog_79_method_12_code 21 = .ok (.aload_n 2, 1) := by decide +kernel
theorem d6_22 : decode prog_79_method_12_code 22 = .ok (.arraylength, 1) := by decide +kernel
theorem d6_23 : decode prog_79_method_12_code 23 = .ok (.if_icmp .ge 7, 3) := by decide +kernel
theorem d6_26 : decode prog_79_method_12_code 26 = .ok (.iload_n 3, 1) := by decide +kernel
theorem d6_27 : decode prog_79_method_12_code 27 = .ok (.goto 4, 3) := by decide +kernel
set_option maxRecDepth 65536 in
set_option maxHeartbeats 4000000 in
theorem rm_atS (l : Launch) (Z : State) (a0 : Array Value) (hw : ∀ d ∈ tables_1, d.before a0 Z = true) (o1 : Addr) (p2 : Int32) (va : Addr) (xs : List Int32) (h0 : Heap) (n0 : Nat) (Z0 : n0 ≤ h0.size) (O : NTv Z h0 o1 va xs) (ne_s : o1 ≠ va) (g_v : n0 ≤ va) (hl : xs.length ≤ 8) (hn : 0 ≤ p2.toInt) (hb : p2.toInt < xs.length) :
    Con l Z (⟨"com/example/driftwalk/driftwalk/graph/NodeTable", "at", "(I)I"⟩ : MethodName) prog_79_method_12_code 4 (some .int) ({ frames := 0, cells := 0, slots := 0, locals := 0 } : Room) #[(.ref o1), (.int p2)] h0 n0 (some (.int p2)) (fun h => h = h0) := by
  refine con_of (plainFor_of_name pn_6) Z0 (fun m => ef_6 m o1 p2) ?_
  intro p e s m below meth c T0 X0
  obtain ⟨E_o, F_v, F_b, A_v⟩ := O
  refine w_aloadN X0 d6_0 rfl rfl rfl ?_
  refine w_getF X0 (host := "") (Or.inl (hw _ (List.mem_of_getElem? (i := 20) rfl))) Via.refl F_v d6_1 rfl fun T1 X2 => ?_
  refine w_astoreN X2 d6_4 rfl rfl (L' := #[.val (.ref o1), .val (.int p2), .val (.ref va), .unset]) rfl ?_
  refine w_iloadN X2 d6_5 rfl rfl ?_
  refine w_aloadN X2 d6_6 rfl rfl rfl ?_
  refine w_getF X2 (host := "") (Or.inl (hw _ (List.mem_of_getElem? (i := 36) rfl))) Via.refl F_b d6_7 rfl fun T3 X4 => ?_
  refine w_isub X4 d6_10 rfl ?_
  refine w_istoreN X4 d6_11 rfl (L' := #[.val (.ref o1), .val (.int p2), .val (.ref va), .val (.int (p2 - (0 : Int32)))]) rfl ?_
  refine w_aloadN X4 d6_12 rfl rfl rfl ?_
  refine w_ifnullNo X4 d6_13 rfl ?_
  refine w_iloadN X4 d6_16 rfl rfl ?_
  refine w_if_lt X4 d6_17 (by decide) (pcT := 30) (pcF := 20) (by decide) rfl (fun c5 => ?_) (fun c5 => ?_)
  · exact False.elim (own_a1 p2 hn c5)
  · refine w_iloadN X4 d6_20 rfl rfl ?_
    refine w_aloadN X4 d6_21 rfl rfl rfl ?_
    refine w_arraylength X4 A_v (n := xs.length.toInt32) (by rw [List.length_map]) d6_22 rfl ?_
    refine w_icmp_ge X4 d6_23 (by decide) (pcT := 30) (pcF := 26) (by decide) rfl (fun c6 => ?_) (fun c6 => ?_)
    · exact False.elim (c6 (own_a2 xs p2 hl hb))
    · refine w_iloadN X4 d6_26 rfl rfl ?_
      refine w_goto X4 d6_27 (by decide) (pc' := 31) (by decide) ?_
      exact w_ireturn X4 d6_31 (congrArg (fun z => some (Value.int z)) (Int32.sub_zero p2).symm) rfl (by decide) (by decide)
theorem d5_10 : decode prog_79_method_4_code 10 = .ok (.aload_n 0, 1) := by decide +kernel
theorem d5_11 : decode prog_79_method_4_code 11 = .ok (.getfield 26, 3) := by decide +kernel
theorem d5_14 : decode prog_79_method_4_code 14 = .ok (.iload_n 3, 1) := by decide +kernel
theorem d5_15 : decode prog_79_method_4_code 15 = .ok (.iload_n 2, 1) := by decide +kernel
theorem d5_16 : decode prog_79_method_4_code 16 = .ok (.iastore, 1) := by decide +kernel
theorem d5_17 : decode prog_79_method_4_code 17 = .ok (.return_, 1) := by decide +kernel
set_option maxRecDepth 65536 in
set_option maxHeartbeats 4000000 in
theorem rm_putS (l : Launch) (Z : State) (a0 : Array Value) (hw : ∀ d ∈ tables_1, d.before a0 Z = true) (o1 : Addr) (p2 : Int32) (p3 : Int32) (va : Addr) (xs : List Int32) (h0 : Heap) (n0 : Nat) (Z0 : n0 ≤ h0.size) (O : NTv Z h0 o1 va xs) (ne_s : o1 ≠ va) (g_v : n0 ≤ va) (hl : xs.length ≤ 8) (hn : 0 ≤ p2.toInt) (hb : p2.toInt < xs.length) :
    Con l Z (⟨"com/example/driftwalk/driftwalk/graph/NodeTable", "put", "(II)V"⟩ : MethodName) prog_79_method_4_code 4 none ({ frames := 1, cells := 0, slots := 0, locals := 15 } : Room) #[(.ref o1), (.int p2), (.int p3)] h0 n0 none (fun h => Keep h0 h [va] ∧ NTv Z h o1 va (xs.set (p2).toNatClampNeg p3)) := by
  refine con_of (plainFor_of_name pn_5) Z0 (fun m => ef_5 m o1 p2 p3) ?_
  intro p e s m below meth c T0 X0
  obtain ⟨E_o, F_v, F_b, A_v⟩ := O
  refine w_aloadN X0 d5_0 rfl rfl rfl ?_
  refine w_iloadN X0 d5_1 rfl rfl ?_
  refine w_privateVP X0 (rm_atS l Z a0 hw o1 p2 va xs h0 n0 X0.size ⟨E_o, F_v, F_b, A_v⟩ ne_s g_v hl hn hb) E_o (hw _ (List.mem_of_getElem? (i := 32) rfl)) (hw _ (List.mem_of_getElem? (i := 33) rfl)) (hw _ (List.mem_of_getElem? (i := 2) rfl)) (hw _ (List.mem_of_getElem? (i := 34) rfl)) (hw _ (List.mem_of_getElem? (i := 3) rfl)) (hw _ (List.mem_of_getElem? (i := 35) rfl)) (by decide) (argsL := [(.int p2)]) (rest := []) rfl (lenOf pd_0 rfl) rfl (W := 0) rfl (by decide) (by decide) (by decide) (by decide) d5_2 rfl fun T1 X3 => ?_
  refine w_istoreN X3 d5_5 rfl (L' := #[.val (.ref o1), .val (.int p2), .val (.int p3), .val (.int p2)]) rfl ?_
  refine w_iloadN X3 d5_6 rfl rfl ?_
  refine w_if_lt X3 d5_7 (by decide) (pcT := 18) (pcF := 10) (by decide) rfl (fun c5 => ?_) (fun c5 => ?_)
  · exact False.elim (own_nn p2 hn c5)
  · refine w_aloadN X3 d5_10 rfl rfl rfl ?_
    refine w_getF X3 (host := "") (Or.inl (hw _ (List.mem_of_getElem? (i := 20) rfl))) Via.refl F_v d5_11 rfl fun T6 X7 => ?_
    refine w_iloadN X7 d5_14 rfl rfl ?_
    refine w_iloadN X7 d5_15 rfl rfl ?_
    refine w_iastore X7 A_v (own_nn _ hn) rfl (by rw [List.length_map]; exact (own_bd xs p2 hn hb)) g_v d5_16 rfl fun T8 h11 X9 W10 A12 => ?_
    rw [← List.map_set] at A12
    obtain ⟨xs13, hxs13⟩ : ∃ z, z = (xs.set (p2).toNatClampNeg p3) := ⟨_, rfl⟩
    rw [← hxs13] at A12
    have f14 : Exa Z h11 o1 "com/example/driftwalk/driftwalk/graph/NodeTable" := Exa.wr W10 E_o
    have f15 : Fld Z h11 o1 "com/example/driftwalk/driftwalk/graph/NodeTable" "values" "[I" (.ref va) := Fld.other W10 F_v (Or.inl ne_s)
    have f16 : Fld Z h11 o1 "com/example/driftwalk/driftwalk/graph/NodeTable" "base" "I" (.int (0 : Int32)) := Fld.other W10 F_b (Or.inl ne_s)
    have f17 : AV Z h11 va .int (xs13.map Value.int) := A12
    have k18 : Keep h0 h11 [va] := (Keep.refl h0 [va]).wr W10 (Or.inl (List.mem_of_getElem? (i := 0) rfl))
    exact w_return X9 d5_17 rfl ⟨k18, (by rw [← hxs13]; exact ⟨f14, f15, f16, f17⟩)⟩ (by decide) (by decide)
theorem d4_12 : decode prog_79_method_15_code 12 = .ok (.iconst 0, 1) := by decide +kernel
theorem d4_13 : decode prog_79_method_15_code 13 = .ok (.istore_n 1, 1) := by decide +kernel
theorem d4_14 : decode prog_79_method_15_code 14 = .ok (.aload_n 0, 1) := by decide +kernel
theorem d4_15 : decode prog_79_method_15_code 15 = .ok (.getfield 26, 3) := by decide +kernel
theorem d4_18 : decode prog_79_method_15_code 18 = .ok (.astore_n 2, 1) := by decide +kernel
theorem d4_19 : decode prog_79_method_15_code 19 = .ok (.aload_n 2, 1) := by decide +kernel
theorem d4_20 : decode prog_79_method_15_code 20 = .ok (.arraylength, 1) := by decide +kernel
theorem d4_21 : decode prog_79_method_15_code 21 = .ok (.istore_n 3, 1) := by decide +kernel
theorem d4_22 : decode prog_79_method_15_code 22 = .ok (.iconst 0, 1) := by decide +kernel
theorem d4_23 : decode prog_79_method_15_code 23 = .ok (.istore 4, 2) := by decide +kernel
theorem d4_25 : decode prog_79_method_15_code 25 = .ok (.iload 4, 2) := by decide +kernel
theorem d4_27 : decode prog_79_method_15_code 27 = .ok (.iload_n 3, 1) := by decide +kernel
theorem d4_28 : decode prog_79_method_15_code 28 = .ok (.if_icmp .ge 28, 3) := by decide +kernel
theorem d4_31 : decode prog_79_method_15_code 31 = .ok (.aload_n 2, 1) := by decide +kernel
theorem d4_32 : decode prog_79_method_15_code 32 = .ok (.iload 4, 2) := by decide +kernel
theorem d4_34 : decode prog_79_method_15_code 34 = .ok (.iaload, 1) := by decide +kernel
theorem d4_35 : decode prog_79_method_15_code 35 = .ok (.istore 5, 2) := by decide +kernel
theorem d4_37 : decode prog_79_method_15_code 37 = .ok (.iload_n 1, 1) := by decide +kernel
theorem d4_38 : decode prog_79_method_15_code 38 = .ok (.iload 5, 2) := by decide +kernel
theorem d4_40 : decode prog_79_method_15_code 40 = .ok (.ifCond .eq 7, 3) := by decide +kernel
theorem d4_43 : decode prog_79_method_15_code 43 = .ok (.iconst 1, 1) := by decide +kernel
theorem d4_44 : decode prog_79_method_15_code 44 = .ok (.goto 4, 3) := by decide +kernel
theorem d4_47 : decode prog_79_method_15_code 47 = .ok (.iconst 0, 1) := by decide +kernel
theorem d4_48 : decode prog_79_method_15_code 48 = .ok (.iadd, 1) := by decide +kernel
theorem d4_49 : decode prog_79_method_15_code 49 = .ok (.istore_n 1, 1) := by decide +kernel
theorem d4_50 : decode prog_79_method_15_code 50 = .ok (.iinc 4 1, 3) := by decide +kernel
theorem d4_53 : decode prog_79_method_15_code 53 = .ok (.goto (-28), 3) := by decide +kernel
theorem d4_56 : decode prog_79_method_15_code 56 = .ok (.iload_n 1, 1) := by decide +kernel
theorem d4_57 : decode prog_79_method_15_code 57 = .ok (.ireturn, 1) := by decide +kernel
set_option maxRecDepth 65536 in
set_option maxHeartbeats 4000000 in
theorem rm_sizeS (l : Launch) (Z : State) (a0 : Array Value) (hw : ∀ d ∈ tables_1, d.before a0 Z = true) (o1 : Addr) (va : Addr) (xs : List Int32) (h0 : Heap) (n0 : Nat) (Z0 : n0 ≤ h0.size) (O : NTv Z h0 o1 va xs) (ne_s : o1 ≠ va) (g_v : n0 ≤ va) (hl : xs.length ≤ 8) :
    Con l Z (⟨"com/example/driftwalk/driftwalk/graph/NodeTable", "size", "()I"⟩ : MethodName) prog_79_method_15_code 6 (some .int) ({ frames := 0, cells := 0, slots := 0, locals := 0 } : Room) #[(.ref o1)] h0 n0 (some (.int (Int32.ofNat (cntN xs)))) (fun h => h = h0) := by
  refine con_of (plainFor_of_name pn_4) Z0 (fun m => ef_4 m o1) ?_
  intro p e s m below meth c T0 X0
  obtain ⟨E_o, F_v, F_b, A_v⟩ := O
  refine w_aloadN X0 d4_0 rfl rfl rfl ?_
  refine w_getF X0 (host := "") (Or.inl (hw _ (List.mem_of_getElem? (i := 20) rfl))) Via.refl F_v d4_1 rfl fun T1 X2 => ?_
  refine w_ifnonnullYes X2 d4_4 (by decide) (pc' := 12) (by decide) ?_
  refine w_iconst X2 d4_12 (v := (0 : Int32)) rfl rfl ?_
  refine w_istoreN X2 d4_13 rfl (L' := #[.val (.ref o1), .val (.int (0 : Int32)), .unset, .unset, .unset, .unset]) rfl ?_
  refine w_aloadN X2 d4_14 rfl rfl rfl ?_
  refine w_getF X2 (host := "") (Or.inl (hw _ (List.mem_of_getElem? (i := 20) rfl))) Via.refl F_v d4_15 rfl fun T3 X4 => ?_
  refine w_astoreN X4 d4_18 rfl rfl (L' := #[.val (.ref o1), .val (.int (0 : Int32)), .val (.ref va), .unset, .unset, .unset]) rfl ?_
  refine w_aloadN X4 d4_19 rfl rfl rfl ?_
  refine w_arraylength X4 A_v (n := xs.length.toInt32) (by rw [List.length_map]) d4_20 rfl ?_
  refine w_istoreN X4 d4_21 rfl (L' := #[.val (.ref o1), .val (.int (0 : Int32)), .val (.ref va), .val (.int (xs.length.toInt32)), .unset, .unset]) rfl ?_
  refine w_iconst X4 d4_22 (v := (0 : Int32)) rfl rfl ?_
  refine w_istore X4 d4_23 rfl (L' := #[.val (.ref o1), .val (.int (0 : Int32)), .val (.ref va), .val (.int (xs.length.toInt32)), .val (.int (0 : Int32)), .unset]) rfl ?_
  have loop : ∀ (k : Nat) (held i : Int32) (s5 : Slot) (T1 : State), Wk p l e ({ frames := 0, cells := 0, slots := 0, locals := 0 } : Room) s m #[(.ref o1)] below meth c Z n0 (⟨"com/example/driftwalk/driftwalk/graph/NodeTable", "size", "()I"⟩ : MethodName) prog_79_method_15_code 6 (some .int) T1 0 0 h0 → 0 ≤ i.toInt → (xs.length : Int) - i.toInt < k → 0 < k → CI xs held i → OneS s5 → Goes p e below (Done below s n0 ({ frames := 0, cells := 0, slots := 0, locals := 0 } : Room) (some (.int (Int32.ofNat (cntN xs)))) (fun h => h = h0)) T1 m 25 #[.val (.ref o1), .val (.int held), .val (.ref va), .val (.int (xs.length.toInt32)), .val (.int i), s5] [] := by
    intro k
    induction k with
    | zero => intro held i s5 T1 X1 a1 b1 c1; exact absurd c1 (Nat.lt_irrefl 0)
    | succ k ih =>
      intro held i s5 T1 X1 a1 b1 g1 e1 hs5
      refine w_iload X1 d4_25 rfl rfl ?_
      refine w_iloadN X1 d4_27 rfl rfl ?_
      refine w_icmp_ge X1 d4_28 (by decide) (pcT := 56) (pcF := 31) (by decide) rfl (fun c5 => ?_) (fun c5 => ?_)
      · refine w_iloadN X1 d4_56 rfl rfl ?_
        exact w_ireturn X1 d4_57 (congrArg (fun z => some (Value.int z)) (own_cend xs held i hl a1 c5 e1)) rfl (by decide) (by decide)
      · refine w_aloadN X1 d4_31 rfl rfl rfl ?_
        refine w_iload X1 d4_32 rfl rfl ?_
        refine w_iaload X1 A_v (own_nn i a1) rfl (getI (own_bd xs i a1 (by have v2 := Int32.lt_iff_toInt_lt.mp c5; rw [own_ll xs hl] at v2; exact v2))) d4_34 rfl ?_
        refine w_istore X1 d4_35 rfl (L' := #[.val (.ref o1), .val (.int held), .val (.ref va), .val (.int (xs.length.toInt32)), .val (.int i), .val (.int (xs.getD (i).toNatClampNeg 0))]) (XS.store1 (o := s5) rfl hs5 rfl) ?_
        refine w_iloadN X1 d4_37 rfl rfl ?_
        refine w_iload X1 d4_38 rfl rfl ?_
        refine w_if_eq X1 d4_40 (by decide) (pcT := 47) (pcF := 43) (by decide) rfl (fun c6 => ?_) (fun c6 => ?_)
        · refine w_iconst X1 d4_47 (v := (0 : Int32)) rfl rfl ?_
          refine w_iadd X1 d4_48 rfl ?_
          refine w_istoreN X1 d4_49 rfl (L' := #[.val (.ref o1), .val (.int (held + (0 : Int32))), .val (.ref va), .val (.int (xs.length.toInt32)), .val (.int i), .val (.int (xs.getD (i).toNatClampNeg 0))]) rfl ?_
          refine w_iinc X1 d4_50 rfl rfl (v' := (i + (1 : Int32))) rfl (L' := #[.val (.ref o1), .val (.int (held + (0 : Int32))), .val (.ref va), .val (.int (xs.length.toInt32)), .val (.int (i + (1 : Int32))), .val (.int (xs.getD (i).toNatClampNeg 0))]) rfl ?_
          refine w_goto X1 d4_53 (by decide) (pc' := 25) (by decide) ?_
          have v1 := own_inc i _ c5
          have v2 := Int32.lt_iff_toInt_lt.mp c5
          rw [own_ll xs hl] at v2
          exact ih _ _ _ _ X1 (by omega) (by omega) (by omega) (own_cs0 xs held i hl a1 c5 e1 c6) (OneS.i _)
        · refine w_iconst X1 d4_43 (v := (1 : Int32)) rfl rfl ?_
          refine w_goto X1 d4_44 (by decide) (pc' := 48) (by decide) ?_
          refine w_iadd X1 d4_48 rfl ?_
          refine w_istoreN X1 d4_49 rfl (L' := #[.val (.ref o1), .val (.int (held + (1 : Int32))), .val (.ref va), .val (.int (xs.length.toInt32)), .val (.int i), .val (.int (xs.getD (i).toNatClampNeg 0))]) rfl ?_
          refine w_iinc X1 d4_50 rfl rfl (v' := (i + (1 : Int32))) rfl (L' := #[.val (.ref o1), .val (.int (held + (1 : Int32))), .val (.ref va), .val (.int (xs.length.toInt32)), .val (.int (i + (1 : Int32))), .val (.int (xs.getD (i).toNatClampNeg 0))]) rfl ?_
          refine w_goto X1 d4_53 (by decide) (pc' := 25) (by decide) ?_
          have v1 := own_inc i _ c5
          have v2 := Int32.lt_iff_toInt_lt.mp c5
          rw [own_ll xs hl] at v2
          exact ih _ _ _ _ X1 (by omega) (by omega) (by omega) (own_cs1 xs held i hl a1 c5 e1 c6) (OneS.i _)
  exact loop 9 0 0 _ _ X4 (by decide) (by rw [show (0 : Int32).toInt = 0 from rfl]; omega) (by decide) ⟨0, rfl, by rw [Nat.zero_add]; rfl⟩ OneS.u
theorem d1_21 : decode prog_79_method_2_code 21 = .ok (.aload_n 0, 1) := by decide +kernel
theorem d1_22 : decode prog_79_method_2_code 22 = .ok (.iload_n 1, 1) := by decide +kernel
theorem d1_23 : decode prog_79_method_2_code 23 = .ok (.newarray .int, 2) := by decide +kernel
theorem d1_25 : decode prog_79_method_2_code 25 = .ok (.putfield 26, 3) := by decide +kernel
theorem d1_28 : decode prog_79_method_2_code 28 = .ok (.goto 8, 3) := by decide +kernel
set_option maxRecDepth 65536 in
set_option maxHeartbeats 4000000 in
theorem rm_initS (l : Launch) (Z : State) (a0 : Array Value) (hw : ∀ d ∈ tables_1, d.before a0 Z = true) (o1 : Addr) (p2 : Int32) (h0 : Heap) (n0 : Nat) (Z0 : n0 ≤ h0.size) (E_o : Exa Z h0 o1 "com/example/driftwalk/driftwalk/graph/NodeTable") (F_largest : Fld Z h0 o1 "com/example/driftwalk/driftwalk/graph/NodeTable" "largest" "I" (.int (0 : Int32))) (F_bound : Fld Z h0 o1 "com/example/driftwalk/driftwalk/graph/NodeTable" "bound" "I" (.int (0 : Int32))) (F_values : Fld Z h0 o1 "com/example/driftwalk/driftwalk/graph/NodeTable" "values" "[I" .null) (F_base : Fld Z h0 o1 "com/example/driftwalk/driftwalk/graph/NodeTable" "base" "I" (.int (0 : Int32))) (F_slots : Fld Z h0 o1 "com/example/driftwalk/driftwalk/graph/NodeTable" "slots" "[J" .null) (F_mask : Fld Z h0 o1 "com/example/driftwalk/driftwalk/graph/NodeTable" "mask" "I" (.int (0 : Int32))) (F_size : Fld Z h0 o1 "com/example/driftwalk/driftwalk/graph/NodeTable" "size" "I" (.int (0 : Int32))) (F_smallest : Fld Z h0 o1 "com/example/driftwalk/driftwalk/graph/NodeTable" "smallest" "I" (.int (0 : Int32))) (g_o : n0 ≤ o1) (hsm : f_small p2 = 1) (hb0 : 0 ≤ p2.toInt) (hb8 : p2.toNatClampNeg ≤ 8) :
    Con l Z (⟨"com/example/driftwalk/driftwalk/graph/NodeTable", "<init>", "(I)V"⟩ : MethodName) prog_79_method_2_code 2 none ({ frames := 1, cells := 1, slots := 8, locals := 12 } : Room) #[(.ref o1), (.int p2)] h0 n0 none (fun h => ∃ va, n0 ≤ va ∧ h0.size ≤ va ∧ Keep h0 h [o1] ∧ NTv Z h o1 va (List.replicate (p2).toNatClampNeg 0)) := by
  refine con_of (plainFor_of_name pn_1) Z0 (fun m => ef_1 m o1 p2) ?_
  intro p e s m below meth c T0 X0
  refine w_aloadN X0 d1_0 rfl rfl rfl ?_
  refine w_initO X0 (W := 0) (hw _ (List.mem_of_getElem? (i := 7) rfl)) (hw _ (List.mem_of_getElem? (i := 8) rfl)) (hw _ (List.mem_of_getElem? (i := 9) rfl)) rfl rfl (by decide) (by decide) d1_1 rfl fun T1 X2 => ?_
  refine w_aloadN X2 d1_4 rfl rfl rfl ?_
  refine w_iconst X2 d1_5 (v := (-1 : Int32)) rfl rfl ?_
  refine w_putF X2 (host := "") (Or.inl (hw _ (List.mem_of_getElem? (i := 10) rfl))) Via.refl F_largest E_o (Or.inl (hw _ (List.mem_of_getElem? (i := 11) rfl))) (hw _ (List.mem_of_getElem? (i := 2) rfl)) (ty := .int) (by decide) rfl rfl g_o d1_6 rfl fun T3 h6 X4 W5 => ?_
  have f7 : Exa Z h6 o1 "com/example/driftwalk/driftwalk/graph/NodeTable" := Exa.wr W5 E_o
  have f8 : Fld Z h6 o1 "com/example/driftwalk/driftwalk/graph/NodeTable" "largest" "I" (.int (-1 : Int32)) := Fld.same W5 F_largest
  have f9 : Fld Z h6 o1 "com/example/driftwalk/driftwalk/graph/NodeTable" "bound" "I" (.int (0 : Int32)) := Fld.other W5 F_bound (Or.inr (slot_ne (Or.inr (hw _ (List.mem_of_getElem? (i := 13) rfl))) (Or.inl (hw _ (List.mem_of_getElem? (i := 11) rfl))) (by decide) (t := .int) (t' := .int) (by decide) (by decide)))
  have f10 : Fld Z h6 o1 "com/example/driftwalk/driftwalk/graph/NodeTable" "values" "[I" .null := Fld.other W5 F_values (Or.inr (slot_ne (Or.inl (hw _ (List.mem_of_getElem? (i := 21) rfl))) (Or.inl (hw _ (List.mem_of_getElem? (i := 11) rfl))) (by decide) (t := (.array .int)) (t' := .int) (by decide) (by decide)))
  have f11 : Fld Z h6 o1 "com/example/driftwalk/driftwalk/graph/NodeTable" "base" "I" (.int (0 : Int32)) := Fld.other W5 F_base (Or.inr (slot_ne (Or.inl (hw _ (List.mem_of_getElem? (i := 37) rfl))) (Or.inl (hw _ (List.mem_of_getElem? (i := 11) rfl))) (by decide) (t := .int) (t' := .int) (by decide) (by decide)))
  have f12 : Fld Z h6 o1 "com/example/driftwalk/driftwalk/graph/NodeTable" "slots" "[J" .null := Fld.other W5 F_slots (Or.inr (slot_ne (Or.inl (hw _ (List.mem_of_getElem? (i := 67) rfl))) (Or.inl (hw _ (List.mem_of_getElem? (i := 11) rfl))) (by decide) (t := (.array .long)) (t' := .int) (by decide) (by decide)))
  have f13 : Fld Z h6 o1 "com/example/driftwalk/driftwalk/graph/NodeTable" "mask" "I" (.int (0 : Int32)) := Fld.other W5 F_mask (Or.inr (slot_ne (Or.inl (hw _ (List.mem_of_getElem? (i := 70) rfl))) (Or.inl (hw _ (List.mem_of_getElem? (i := 11) rfl))) (by decide) (t := .int) (t' := .int) (by decide) (by decide)))
  have f14 : Fld Z h6 o1 "com/example/driftwalk/driftwalk/graph/NodeTable" "size" "I" (.int (0 : Int32)) := Fld.other W5 F_size (Or.inr (slot_ne (Or.inl (hw _ (List.mem_of_getElem? (i := 72) rfl))) (Or.inl (hw _ (List.mem_of_getElem? (i := 11) rfl))) (by decide) (t := .int) (t' := .int) (by decide) (by decide)))
  have f15 : Fld Z h6 o1 "com/example/driftwalk/driftwalk/graph/NodeTable" "smallest" "I" (.int (0 : Int32)) := Fld.other W5 F_smallest (Or.inr (slot_ne (Or.inl (hw _ (List.mem_of_getElem? (i := 104) rfl))) (Or.inl (hw _ (List.mem_of_getElem? (i := 11) rfl))) (by decide) (t := .int) (t' := .int) (by decide) (by decide)))
  have k16 : Keep h0 h6 [o1] := (Keep.refl h0 [o1]).wr W5 (Or.inl (List.mem_of_getElem? (i := 0) rfl))
  refine w_aloadN X4 d1_9 rfl rfl rfl ?_
  refine w_iloadN X4 d1_10 rfl rfl ?_
  refine w_putF X4 (host := "") (Or.inl (hw _ (List.mem_of_getElem? (i := 12) rfl))) Via.refl f9 f7 (Or.inr ⟨(hw _ (List.mem_of_getElem? (i := 13) rfl)), rfl, rfl⟩) (hw _ (List.mem_of_getElem? (i := 2) rfl)) (ty := .int) (by decide) rfl rfl g_o d1_11 rfl fun T17 h20 X18 W19 => ?_
  have f21 : Exa Z h20 o1 "com/example/driftwalk/driftwalk/graph/NodeTable" := Exa.wr W19 f7
  have f22 : Fld Z h20 o1 "com/example/driftwalk/driftwalk/graph/NodeTable" "largest" "I" (.int (-1 : Int32)) := Fld.other W19 f8 (Or.inr (slot_ne (Or.inl (hw _ (List.mem_of_getElem? (i := 11) rfl))) (Or.inr (hw _ (List.mem_of_getElem? (i := 13) rfl))) (by decide) (t := .int) (t' := .int) (by decide) (by decide)))
  have f23 : Fld Z h20 o1 "com/example/driftwalk/driftwalk/graph/NodeTable" "bound" "I" (.int p2) := Fld.same W19 f9
  have f24 : Fld Z h20 o1 "com/example/driftwalk/driftwalk/graph/NodeTable" "values" "[I" .null := Fld.other W19 f10 (Or.inr (slot_ne (Or.inl (hw _ (List.mem_of_getElem? (i := 21) rfl))) (Or.inr (hw _ (List.mem_of_getElem? (i := 13) rfl))) (by decide) (t := (.array .int)) (t' := .int) (by decide) (by decide)))
  have f25 : Fld Z h20 o1 "com/example/driftwalk/driftwalk/graph/NodeTable" "base" "I" (.int (0 : Int32)) := Fld.other W19 f11 (Or.inr (slot_ne (Or.inl (hw _ (List.mem_of_getElem? (i := 37) rfl))) (Or.inr (hw _ (List.mem_of_getElem? (i := 13) rfl))) (by decide) (t := .int) (t' := .int) (by decide) (by decide)))
  have f26 : Fld Z h20 o1 "com/example/driftwalk/driftwalk/graph/NodeTable" "slots" "[J" .null := Fld.other W19 f12 (Or.inr (slot_ne (Or.inl (hw _ (List.mem_of_getElem? (i := 67) rfl))) (Or.inr (hw _ (List.mem_of_getElem? (i := 13) rfl))) (by decide) (t := (.array .long)) (t' := .int) (by decide) (by decide)))
  have f27 : Fld Z h20 o1 "com/example/driftwalk/driftwalk/graph/NodeTable" "mask" "I" (.int (0 : Int32)) := Fld.other W19 f13 (Or.inr (slot_ne (Or.inl (hw _ (List.mem_of_getElem? (i := 70) rfl))) (Or.inr (hw _ (List.mem_of_getElem? (i := 13) rfl))) (by decide) (t := .int) (t' := .int) (by decide) (by decide)))
  have f28 : Fld Z h20 o1 "com/example/driftwalk/driftwalk/graph/NodeTable" "size" "I" (.int (0 : Int32)) := Fld.other W19 f14 (Or.inr (slot_ne (Or.inl (hw _ (List.mem_of_getElem? (i := 72) rfl))) (Or.inr (hw _ (List.mem_of_getElem? (i := 13) rfl))) (by decide) (t := .int) (t' := .int) (by decide) (by decide)))
  have f29 : Fld Z h20 o1 "com/example/driftwalk/driftwalk/graph/NodeTable" "smallest" "I" (.int (0 : Int32)) := Fld.other W19 f15 (Or.inr (slot_ne (Or.inl (hw _ (List.mem_of_getElem? (i := 104) rfl))) (Or.inr (hw _ (List.mem_of_getElem? (i := 13) rfl))) (by decide) (t := .int) (t' := .int) (by decide) (by decide)))
  have k30 : Keep h0 h20 [o1] := k16.wr W19 (Or.inl (List.mem_of_getElem? (i := 0) rfl))
  refine w_iloadN X18 d1_14 rfl rfl ?_
  refine w_staticVP X18 (rm3 l Z a0 hw p2 h20 n0 X18.size ) (hw _ (List.mem_of_getElem? (i := 14) rfl)) (hw _ (List.mem_of_getElem? (i := 15) rfl)) (hw _ (List.mem_of_getElem? (i := 3) rfl)) (hw _ (List.mem_of_getElem? (i := 16) rfl)) (by decide) (argsL := [(.int p2)]) (rest := []) rfl (lenOf pd_3 rfl) rfl (W := 0) rfl (by decide) (by decide) (by decide) (by decide) d1_15 rfl fun T31 X32 => ?_
  refine w_if_eq X32 d1_18 (by decide) (pcT := 31) (pcF := 21) (by decide) rfl (fun c33 => ?_) (fun c33 => ?_)
  · exact False.elim (absurd (hsm.symm.trans c33) (by decide))
  · refine w_aloadN X32 d1_21 rfl rfl rfl ?_
    refine w_iloadN X32 d1_22 rfl rfl ?_
    refine w_newP X32 (hw _ (List.mem_of_getElem? (i := 19) rfl)) (own_nn p2 hb0) (k := (p2).toNatClampNeg) rfl (cap := 8) hb8 (by decide) (by decide) (by decide) d1_23 rfl fun T34 h36 a37 X35 ga38 gn39 E40 A41 => ?_
    have ne42 : o1 ≠ a37 := by rw [ga38]; exact Nat.ne_of_lt f21.lt
    have g043 : h0.size ≤ a37 := by rw [ga38]; exact k30.1
    have f44 : Exa Z h36 o1 "com/example/driftwalk/driftwalk/graph/NodeTable" := Exa.ext E40 f21
    have f45 : Fld Z h36 o1 "com/example/driftwalk/driftwalk/graph/NodeTable" "largest" "I" (.int (-1 : Int32)) := Fld.ext E40 f22
    have f46 : Fld Z h36 o1 "com/example/driftwalk/driftwalk/graph/NodeTable" "bound" "I" (.int p2) := Fld.ext E40 f23
    have f47 : Fld Z h36 o1 "com/example/driftwalk/driftwalk/graph/NodeTable" "values" "[I" .null := Fld.ext E40 f24
    have f48 : Fld Z h36 o1 "com/example/driftwalk/driftwalk/graph/NodeTable" "base" "I" (.int (0 : Int32)) := Fld.ext E40 f25
    have f49 : Fld Z h36 o1 "com/example/driftwalk/driftwalk/graph/NodeTable" "slots" "[J" .null := Fld.ext E40 f26
    have f50 : Fld Z h36 o1 "com/example/driftwalk/driftwalk/graph/NodeTable" "mask" "I" (.int (0 : Int32)) := Fld.ext E40 f27
    have f51 : Fld Z h36 o1 "com/example/driftwalk/driftwalk/graph/NodeTable" "size" "I" (.int (0 : Int32)) := Fld.ext E40 f28
    have f52 : Fld Z h36 o1 "com/example/driftwalk/driftwalk/graph/NodeTable" "smallest" "I" (.int (0 : Int32)) := Fld.ext E40 f29
    have k53 : Keep h0 h36 [o1] := k30.ext E40
    have f54 : AV Z h36 a37 .int (List.replicate (p2).toNatClampNeg (.int (0 : Int32))) := A41
    refine w_putF X35 (host := "") (Or.inl (hw _ (List.mem_of_getElem? (i := 20) rfl))) Via.refl f47 f44 (Or.inl (hw _ (List.mem_of_getElem? (i := 21) rfl))) (hw _ (List.mem_of_getElem? (i := 2) rfl)) (ty := (.array .int)) (by decide) rfl rfl g_o d1_25 rfl fun T55 h58 X56 W57 => ?_
    have f59 : Exa Z h58 o1 "com/example/driftwalk/driftwalk/graph/NodeTable" := Exa.wr W57 f44
    have f60 : Fld Z h58 o1 "com/example/driftwalk/driftwalk/graph/NodeTable" "largest" "I" (.int (-1 : Int32)) := Fld.other W57 f45 (Or.inr (slot_ne (Or.inl (hw _ (List.mem_of_getElem? (i := 11) rfl))) (Or.inl (hw _ (List.mem_of_getElem? (i := 21) rfl))) (by decide) (t := .int) (t' := (.array .int)) (by decide) (by decide)))
    have f61 : Fld Z h58 o1 "com/example/driftwalk/driftwalk/graph/NodeTable" "bound" "I" (.int p2) := Fld.other W57 f46 (Or.inr (slot_ne (Or.inr (hw _ (List.mem_of_getElem? (i := 13) rfl))) (Or.inl (hw _ (List.mem_of_getElem? (i := 21) rfl))) (by decide) (t := .int) (t' := (.array .int)) (by decide) (by decide)))
    have f62 : Fld Z h58 o1 "com/example/driftwalk/driftwalk/graph/NodeTable" "values" "[I" (.ref a37) := Fld.same W57 f47
    have f63 : Fld Z h58 o1 "com/example/driftwalk/driftwalk/graph/NodeTable" "base" "I" (.int (0 : Int32)) := Fld.other W57 f48 (Or.inr (slot_ne (Or.inl (hw _ (List.mem_of_getElem? (i := 37) rfl))) (Or.inl (hw _ (List.mem_of_getElem? (i := 21) rfl))) (by decide) (t := .int) (t' := (.array .int)) (by decide) (by decide)))
    have f64 : Fld Z h58 o1 "com/example/driftwalk/driftwalk/graph/NodeTable" "slots" "[J" .null := Fld.other W57 f49 (Or.inr (slot_ne (Or.inl (hw _ (List.mem_of_getElem? (i := 67) rfl))) (Or.inl (hw _ (List.mem_of_getElem? (i := 21) rfl))) (by decide) (t := (.array .long)) (t' := (.array .int)) (by decide) (by decide)))
    have f65 : Fld Z h58 o1 "com/example/driftwalk/driftwalk/graph/NodeTable" "mask" "I" (.int (0 : Int32)) := Fld.other W57 f50 (Or.inr (slot_ne (Or.inl (hw _ (List.mem_of_getElem? (i := 70) rfl))) (Or.inl (hw _ (List.mem_of_getElem? (i := 21) rfl))) (by decide) (t := .int) (t' := (.array .int)) (by decide) (by decide)))
    have f66 : Fld Z h58 o1 "com/example/driftwalk/driftwalk/graph/NodeTable" "size" "I" (.int (0 : Int32)) := Fld.other W57 f51 (Or.inr (slot_ne (Or.inl (hw _ (List.mem_of_getElem? (i := 72) rfl))) (Or.inl (hw _ (List.mem_of_getElem? (i := 21) rfl))) (by decide) (t := .int) (t' := (.array .int)) (by decide) (by decide)))
    have f67 : Fld Z h58 o1 "com/example/driftwalk/driftwalk/graph/NodeTable" "smallest" "I" (.int (0 : Int32)) := Fld.other W57 f52 (Or.inr (slot_ne (Or.inl (hw _ (List.mem_of_getElem? (i := 104) rfl))) (Or.inl (hw _ (List.mem_of_getElem? (i := 21) rfl))) (by decide) (t := .int) (t' := (.array .int)) (by decide) (by decide)))
    have f68 : AV Z h58 a37 .int (List.replicate (p2).toNatClampNeg (.int (0 : Int32))) := f54.other W57 (Ne.symm ne42)
    have k69 : Keep h0 h58 [o1] := k53.wr W57 (Or.inl (List.mem_of_getElem? (i := 0) rfl))
    refine w_goto X56 d1_28 (by decide) (pc' := 36) (by decide) ?_
    exact w_return X56 d1_36 rfl ⟨a37, gn39, g043, k69, f59, f62, f63, (by rw [List.map_replicate]; exact f68)⟩ (by decide) (by decide)
theorem own_small (z : Int32) (h : 0 ≤ z.toInt) (h2 : z.toInt ≤ 16384) : f_small z = 1 := by
  have e : ((4 : Int64) * z.toInt64).toInt = 4 * z.toInt := by
    rw [Int64.toInt_mul, Int32.toInt_toInt64, show (4 : Int64).toInt = 4 from by decide]
    exact Int.bmod_eq_of_le (by show -(2:Int)^64/2 ≤ _; omega) (by show _ < ((2:Int)^64+1)/2; omega)
  unfold f_small
  rw [if_neg]
  rw [Int64.lt_iff_toInt_lt, e, show (65536 : Int64).toInt = 65536 from by decide]; omega
theorem own_large (z : Int32) (h : 16385 ≤ z.toInt) : f_small z = 0 := by
  have hz := z.toInt_lt
  have e : ((4 : Int64) * z.toInt64).toInt = 4 * z.toInt := by
    rw [Int64.toInt_mul, Int32.toInt_toInt64, show (4 : Int64).toInt = 4 from by decide]
    exact Int.bmod_eq_of_le (by show -(2:Int)^64/2 ≤ _; omega) (by show _ < ((2:Int)^64+1)/2; omega)
  unfold f_small
  rw [if_pos]
  rw [Int64.lt_iff_toInt_lt, e, show (65536 : Int64).toInt = 65536 from by decide]; omega
theorem own_bs (x z : Int32) (h : ((1 : Int32) + (x &&& (7 : Int32))) = z) : 1 ≤ z.toInt ∧ z.toInt ≤ 8 := by
  obtain ⟨q1, q2⟩ := c_and x 7 (by decide)
  have e : (7 : Int32).toInt = 7 := by decide
  have e1 : (1 : Int32).toInt = 1 := by decide
  rw [e] at q2
  rw [← h, Int32.toInt_add, e1, Int.bmod_eq_of_le (by show -(2:Int)^32/2 ≤ _; omega) (by show _ < ((2:Int)^32+1)/2; omega)]
  omega
theorem own_bl (x z : Int32) (h : ((16385 : Int32) + (x &&& (1073741823 : Int32))) = z) : 16385 ≤ z.toInt := by
  obtain ⟨q1, q2⟩ := c_and x 1073741823 (by decide)
  have e : (1073741823 : Int32).toInt = 1073741823 := by decide
  have e1 : (16385 : Int32).toInt = 16385 := by decide
  rw [e] at q2
  rw [← h, Int32.toInt_add, e1, Int.bmod_eq_of_le (by show -(2:Int)^32/2 ≤ _; omega) (by show _ < ((2:Int)^32+1)/2; omega)]
  omega
theorem own_mod (x b z : Int32) (hb : 1 ≤ b.toInt) (h : ((x &&& (2147483647 : Int32)) % b) = z) : 0 ≤ z.toInt ∧ z.toInt < b.toInt := by
  have h1 := (c_andS x (2147483647 : Int32)).2.2 (by decide)
  have q := (c_iremV (x &&& (2147483647 : Int32)) b).1 h1 (by omega)
  rw [h] at q; omega
theorem own_ne0 (z : Int32) (h : 1 ≤ z.toInt) : z ≠ 0 := by intro q; rw [q] at h; revert h; decide
theorem own_tq (a b : Int32) (ha : 0 ≤ a.toInt) (hb : 0 ≤ b.toInt) : (a.toNatClampNeg = b.toNatClampNeg) = (a = b) := by
  apply propext
  constructor
  · intro h; apply Int32.toInt_inj.mp; have := own_tn a ha; have := own_tn b hb; omega
  · intro h; rw [h]
theorem own_e01 (p4 p5 p6 m1 m2 m3 : Int32) : Int32.ofNat (bz p4) = (f_one (if p4 = 0 then (0 : Int32) else (1 : Int32))) := by
  by_cases a1 : p4 = 0 <;> simp [nsP, bz, f_one, nar, a1] <;> rfl
theorem own_e02 (p4 p5 p6 m1 m2 m3 : Int32) : Int32.ofNat (bz p5 + (if m1 = m2 then 0 else bz p4)) = ((f_one (if p5 = 0 then (0 : Int32) else (1 : Int32))) + (f_one (if m1 = m2 then (0 : Int32) else (if p4 = 0 then (0 : Int32) else (1 : Int32))))) := by
  by_cases a1 : p4 = 0 <;> by_cases a2 : p5 = 0
  all_goals by_cases e12 : m1 = m2
  all_goals first | (subst e12; simp [nsP, bz, f_one, nar, a1, a2]; done) | (subst e12; simp [nsP, bz, f_one, nar, a1, a2]; rfl) | (have q1 := Ne.symm e12; simp [nsP, bz, f_one, nar, a1, a2, e12, q1]; done) | (have q1 := Ne.symm e12; simp [nsP, bz, f_one, nar, a1, a2, e12, q1]; rfl)
theorem own_e03 (p4 p5 p6 m1 m2 m3 : Int32) : Int32.ofNat (bz p6 + (if m2 = m3 then 0 else bz p5) + (if m1 = m2 then 0 else if m1 = m3 then 0 else bz p4)) = (((f_one (if p6 = 0 then (0 : Int32) else (1 : Int32))) + (f_one (if m2 = m3 then (0 : Int32) else (if p5 = 0 then (0 : Int32) else (1 : Int32))))) + (f_one (if m1 = m2 then (0 : Int32) else (if m1 = m3 then (0 : Int32) else (if p4 = 0 then (0 : Int32) else (1 : Int32)))))) := by
  by_cases a1 : p4 = 0 <;> by_cases a2 : p5 = 0 <;> by_cases a3 : p6 = 0
  all_goals by_cases e12 : m1 = m2
  all_goals by_cases e13 : m1 = m3
  all_goals by_cases e23 : m2 = m3
  all_goals first | (subst e12; subst e13; simp [nsP, bz, f_one, nar, a1, a2, a3]; done) | (subst e12; subst e13; simp [nsP, bz, f_one, nar, a1, a2, a3]; rfl) | (subst e12; exact absurd e23 e13) | (subst e12; have q1 := Ne.symm e13; simp [nsP, bz, f_one, nar, a1, a2, a3, e13, q1]; done) | (subst e12; have q1 := Ne.symm e13; simp [nsP, bz, f_one, nar, a1, a2, a3, e13, q1]; rfl) | (subst e13; exact absurd e23.symm e12) | (subst e13; have q1 := Ne.symm e12; simp [nsP, bz, f_one, nar, a1, a2, a3, e12, q1]; done) | (subst e13; have q1 := Ne.symm e12; simp [nsP, bz, f_one, nar, a1, a2, a3, e12, q1]; rfl) | (subst e23; have q1 := Ne.symm e12; simp [nsP, bz, f_one, nar, a1, a2, a3, e12, q1]; done) | (subst e23; have q1 := Ne.symm e12; simp [nsP, bz, f_one, nar, a1, a2, a3, e12, q1]; rfl) | (have q1 := Ne.symm e12; have q2 := Ne.symm e13; have q3 := Ne.symm e23; simp [nsP, bz, f_one, nar, a1, a2, a3, e12, e13, e23, q1, q2, q3]; done) | (have q1 := Ne.symm e12; have q2 := Ne.symm e13; have q3 := Ne.symm e23; simp [nsP, bz, f_one, nar, a1, a2, a3, e12, e13, e23, q1, q2, q3]; rfl)
theorem own_e11 (p4 p5 p6 m1 m2 m3 : Int32) : Int32.ofNat (nsP [] m1 p4).length = (f_one (if p4 = 0 then (0 : Int32) else (1 : Int32))) := by
  by_cases a1 : p4 = 0 <;> simp [nsP, bz, f_one, nar, a1] <;> rfl
theorem own_e12 (p4 p5 p6 m1 m2 m3 : Int32) : Int32.ofNat (nsP (nsP [] m1 p4) m2 p5).length = (if m1 = m2 then (f_one (if p4 = 0 then (if p5 = 0 then (0 : Int32) else (1 : Int32)) else (1 : Int32))) else ((f_one (if p4 = 0 then (0 : Int32) else (1 : Int32))) + (f_one (if p5 = 0 then (0 : Int32) else (1 : Int32))))) := by
  by_cases a1 : p4 = 0 <;> by_cases a2 : p5 = 0
  all_goals by_cases e12 : m1 = m2
  all_goals first | (subst e12; simp [nsP, bz, f_one, nar, a1, a2]; done) | (subst e12; simp [nsP, bz, f_one, nar, a1, a2]; rfl) | (have q1 := Ne.symm e12; simp [nsP, bz, f_one, nar, a1, a2, e12, q1]; done) | (have q1 := Ne.symm e12; simp [nsP, bz, f_one, nar, a1, a2, e12, q1]; rfl)
theorem own_e13 (p4 p5 p6 m1 m2 m3 : Int32) : Int32.ofNat (nsP (nsP (nsP [] m1 p4) m2 p5) m3 p6).length = (((f_one (if p4 = 0 then (if m2 = m1 then (if p5 = 0 then (if m3 = m1 then (if p6 = 0 then (0 : Int32) else (1 : Int32)) else (0 : Int32)) else (1 : Int32)) else (if m3 = m1 then (if p6 = 0 then (0 : Int32) else (1 : Int32)) else (0 : Int32))) else (1 : Int32))) + (f_one (if m2 = m1 then (0 : Int32) else (if (if p5 = 0 then (if m3 = m2 then (if p6 = 0 then (0 : Int32) else (1 : Int32)) else (0 : Int32)) else (1 : Int32)) = 0 then (0 : Int32) else (1 : Int32))))) + (f_one (if m3 = m1 then (0 : Int32) else (if m3 = m2 then (0 : Int32) else (if (if p6 = 0 then (0 : Int32) else (1 : Int32)) = 0 then (0 : Int32) else (1 : Int32)))))) := by
  by_cases a1 : p4 = 0 <;> by_cases a2 : p5 = 0 <;> by_cases a3 : p6 = 0
  all_goals by_cases e12 : m1 = m2
  all_goals by_cases e13 : m1 = m3
  all_goals by_cases e23 : m2 = m3
  all_goals first | (subst e12; subst e13; simp [nsP, bz, f_one, nar, a1, a2, a3]; done) | (subst e12; subst e13; simp [nsP, bz, f_one, nar, a1, a2, a3]; rfl) | (subst e12; exact absurd e23 e13) | (subst e12; have q1 := Ne.symm e13; simp [nsP, bz, f_one, nar, a1, a2, a3, e13, q1]; done) | (subst e12; have q1 := Ne.symm e13; simp [nsP, bz, f_one, nar, a1, a2, a3, e13, q1]; rfl) | (subst e13; exact absurd e23.symm e12) | (subst e13; have q1 := Ne.symm e12; simp [nsP, bz, f_one, nar, a1, a2, a3, e12, q1]; done) | (subst e13; have q1 := Ne.symm e12; simp [nsP, bz, f_one, nar, a1, a2, a3, e12, q1]; rfl) | (subst e23; have q1 := Ne.symm e12; simp [nsP, bz, f_one, nar, a1, a2, a3, e12, q1]; done) | (subst e23; have q1 := Ne.symm e12; simp [nsP, bz, f_one, nar, a1, a2, a3, e12, q1]; rfl) | (have q1 := Ne.symm e12; have q2 := Ne.symm e13; have q3 := Ne.symm e23; simp [nsP, bz, f_one, nar, a1, a2, a3, e12, e13, e23, q1, q2, q3]; done) | (have q1 := Ne.symm e12; have q2 := Ne.symm e13; have q3 := Ne.symm e23; simp [nsP, bz, f_one, nar, a1, a2, a3, e12, e13, e23, q1, q2, q3]; rfl)
theorem pd_7 : parseMethodDescriptor "()I" = some ⟨[], some .int⟩ := by decide +kernel
theorem pd_8 : parseMethodDescriptor "(Z)I" = some ⟨[.boolean], some .int⟩ := by decide +kernel
theorem pn_0 : plainName "com/example/driftwalk/driftwalk/graph/NodeTableSizePinLaw" = true := by first | (simp [plainName, overriddenIn]; done) | decide +kernel
theorem ef_0 (m : MethodId) (p1 : Int32) (q2 : Int64) (p3 : Int32) (p4 : Int32) (p5 : Int32) (p6 : Int32) : entryFrame m #[(.int p1), (.long q2), (.int p3), (.int p4), (.int p5), (.int p6)] maxLocals = mkF m 0 #[.val (.int p1), .val (.long q2), .second, .val (.int p3), .val (.int p4), .val (.int p5), .val (.int p6), .unset, .unset, .unset, .unset, .unset, .unset, .unset, .unset, .unset, .unset, .unset, .unset, .unset] [] := by first | (simp [entryFrame, mkF, argsToLocals, Value.category, maxLocals]; done) | rfl
set_option maxRecDepth 65536 in
set_option maxHeartbeats 40000000 in
theorem rm0 (l : Launch) (Z : State) (a0 : Array Value) (hw : ∀ d ∈ tables_1, d.before a0 Z = true) (p1 : Int32) (q2 : Int64) (p3 : Int32) (p4 : Int32) (p5 : Int32) (p6 : Int32) (h0 : Heap) (n0 : Nat) (Z0 : n0 ≤ h0.size) :
    Con l Z x code maxLocals ret room_1 #[(.int p1), (.long q2), (.int p3), (.int p4), (.int p5), (.int p6)] h0 n0 (some (.int 1)) (fun _ => True) := by
  refine con_of (plainFor_of_name pn_0) Z0 (fun m => ef_0 m p1 q2 p3 p4 p5 p6) ?_
  intro p e s m below meth c T0 X0
  refine w_iloadN X0 at_0 rfl rfl ?_
  refine w_iconst X0 at_1 (v := (1 : Int32)) rfl rfl ?_
  refine w_iand X0 at_2 rfl ?_
  refine w_if_eq X0 at_3 (by decide) (pcT := 10) (pcF := 6) (by decide) rfl (fun c1 => ?_) (fun c1 => ?_)
  · refine w_iconst X0 at_10 (v := (0 : Int32)) rfl rfl ?_
    refine w_istore X0 at_11 rfl (L' := #[.val (.int p1), .val (.long q2), .second, .val (.int p3), .val (.int p4), .val (.int p5), .val (.int p6), .val (.int (0 : Int32)), .unset, .unset, .unset, .unset, .unset, .unset, .unset, .unset, .unset, .unset, .unset, .unset]) rfl ?_
    refine w_iload X0 at_13 rfl rfl ?_
    refine w_if_eq X0 at_15 (by decide) (pcT := 31) (pcF := 18) (by decide) rfl (fun c2 => ?_) (fun c2 => absurd c2 (by decide))
    refine w_iconst X0 at_31 (v := (1 : Int32)) rfl rfl ?_
    refine w_iloadN X0 at_32 rfl rfl ?_
    refine w_iconst X0 at_33 (v := (1 : Int32)) rfl rfl ?_
    refine w_iushr X0 at_34 rfl ?_
    refine w_bipush X0 at_35 (v := (7 : Int32)) rfl rfl ?_
    refine w_iand X0 at_37 rfl ?_
    refine w_iadd X0 at_38 rfl ?_
    generalize hz3 : ((1 : Int32) + ((ush p1 (1 : Int32)) &&& (7 : Int32))) = z3
    refine w_istore X0 at_39 rfl (L' := #[.val (.int p1), .val (.long q2), .second, .val (.int p3), .val (.int p4), .val (.int p5), .val (.int p6), .val (.int (0 : Int32)), .val (.int z3), .unset, .unset, .unset, .unset, .unset, .unset, .unset, .unset, .unset, .unset, .unset]) rfl ?_
    have hB := own_bs _ _ hz3
    have hN0 := own_ne0 z3 hB.1
    have hB0 : 0 ≤ z3.toInt := by omega
    have hsm := own_small z3 hB0 (by omega)
    have hB1 : 1 ≤ z3.toInt := hB.1
    have hBn := own_tn z3 hB0
    have hB8 : z3.toNatClampNeg ≤ 8 := by omega
    refine w_lloadN X0 at_41 rfl rfl ?_
    refine w_bipush X0 at_42 (v := (32 : Int32)) rfl rfl ?_
    refine w_lushr X0 at_44 rfl ?_
    refine w_l2i X0 at_45 rfl ?_
    refine w_ldcInt X0 (hw _ (List.mem_of_getElem? (i := 0) rfl)) at_46 rfl ?_
    refine w_iand X0 at_48 rfl ?_
    refine w_iload X0 at_49 rfl rfl ?_
    refine w_irem X0 at_51 rfl hN0 ?_
    generalize hz4 : ((((ushL q2 (32 : Int32)).toInt32) &&& (2147483647 : Int32)) % z3) = z4
    refine w_istore X0 at_52 rfl (L' := #[.val (.int p1), .val (.long q2), .second, .val (.int p3), .val (.int p4), .val (.int p5), .val (.int p6), .val (.int (0 : Int32)), .val (.int z3), .val (.int z4), .unset, .unset, .unset, .unset, .unset, .unset, .unset, .unset, .unset, .unset]) rfl ?_
    refine w_lloadN X0 at_54 rfl rfl ?_
    refine w_l2i X0 at_55 rfl ?_
    refine w_ldcInt X0 (hw _ (List.mem_of_getElem? (i := 0) rfl)) at_56 rfl ?_
    refine w_iand X0 at_58 rfl ?_
    refine w_iload X0 at_59 rfl rfl ?_
    refine w_irem X0 at_61 rfl hN0 ?_
    generalize hz5 : (((q2.toInt32) &&& (2147483647 : Int32)) % z3) = z5
    refine w_istore X0 at_62 rfl (L' := #[.val (.int p1), .val (.long q2), .second, .val (.int p3), .val (.int p4), .val (.int p5), .val (.int p6), .val (.int (0 : Int32)), .val (.int z3), .val (.int z4), .val (.int z5), .unset, .unset, .unset, .unset, .unset, .unset, .unset, .unset, .unset]) rfl ?_
    refine w_iloadN X0 at_64 rfl rfl ?_
    refine w_ldcInt X0 (hw _ (List.mem_of_getElem? (i := 0) rfl)) at_65 rfl ?_
    refine w_iand X0 at_67 rfl ?_
    refine w_iload X0 at_68 rfl rfl ?_
    refine w_irem X0 at_70 rfl hN0 ?_
    generalize hz6 : ((p3 &&& (2147483647 : Int32)) % z3) = z6
    refine w_istore X0 at_71 rfl (L' := #[.val (.int p1), .val (.long q2), .second, .val (.int p3), .val (.int p4), .val (.int p5), .val (.int p6), .val (.int (0 : Int32)), .val (.int z3), .val (.int z4), .val (.int z5), .val (.int z6), .unset, .unset, .unset, .unset, .unset, .unset, .unset, .unset]) rfl ?_
    have nd7 := own_mod _ z3 _ hB1 hz4
    have nd8 := own_mod _ z3 _ hB1 hz5
    have nd9 := own_mod _ z3 _ hB1 hz6
    refine w_new X0 (hw _ (List.mem_of_getElem? (i := 1) rfl)) (hw _ (List.mem_of_getElem? (i := 2) rfl)) (hw _ (List.mem_of_getElem? (i := 3) rfl)) (by decide) (by decide) at_73 rfl fun T10 h12 a13 X11 ga14 gn15 E16 A17 D18 => ?_
    have g019 : h0.size ≤ a13 := by rw [ga14]; exact (Keep.refl h0 []).1
    have k20 : Keep h0 h12 [] := (Keep.refl h0 []).ext E16
    have f21 : Fld Z h12 a13 "com/example/driftwalk/driftwalk/graph/NodeTable" "largest" "I" (.int (0 : Int32)) := D18 (Or.inl (hw _ (List.mem_of_getElem? (i := 11) rfl))) (ty := .int) (by decide)
    have f22 : Fld Z h12 a13 "com/example/driftwalk/driftwalk/graph/NodeTable" "bound" "I" (.int (0 : Int32)) := D18 (Or.inr (hw _ (List.mem_of_getElem? (i := 13) rfl))) (ty := .int) (by decide)
    have f23 : Fld Z h12 a13 "com/example/driftwalk/driftwalk/graph/NodeTable" "values" "[I" .null := D18 (Or.inl (hw _ (List.mem_of_getElem? (i := 21) rfl))) (ty := (.array .int)) (by decide)
    have f24 : Fld Z h12 a13 "com/example/driftwalk/driftwalk/graph/NodeTable" "base" "I" (.int (0 : Int32)) := D18 (Or.inl (hw _ (List.mem_of_getElem? (i := 37) rfl))) (ty := .int) (by decide)
    have f25 : Fld Z h12 a13 "com/example/driftwalk/driftwalk/graph/NodeTable" "slots" "[J" .null := D18 (Or.inl (hw _ (List.mem_of_getElem? (i := 67) rfl))) (ty := (.array .long)) (by decide)
    have f26 : Fld Z h12 a13 "com/example/driftwalk/driftwalk/graph/NodeTable" "mask" "I" (.int (0 : Int32)) := D18 (Or.inl (hw _ (List.mem_of_getElem? (i := 70) rfl))) (ty := .int) (by decide)
    have f27 : Fld Z h12 a13 "com/example/driftwalk/driftwalk/graph/NodeTable" "size" "I" (.int (0 : Int32)) := D18 (Or.inl (hw _ (List.mem_of_getElem? (i := 72) rfl))) (ty := .int) (by decide)
    have f28 : Fld Z h12 a13 "com/example/driftwalk/driftwalk/graph/NodeTable" "smallest" "I" (.int (0 : Int32)) := D18 (Or.inl (hw _ (List.mem_of_getElem? (i := 104) rfl))) (ty := .int) (by decide)
    refine w_dup X11 at_76 rfl rfl ?_
    refine w_iload X11 at_77 rfl rfl ?_
    refine w_special0 X11 (rm_initS l Z a0 hw a13 z3 h12 n0 X11.size A17 f21 f22 f23 f24 f25 f26 f27 f28 gn15 hsm hB0 hB8) rfl (hw _ (List.mem_of_getElem? (i := 4) rfl)) (hw _ (List.mem_of_getElem? (i := 5) rfl)) (hw _ (List.mem_of_getElem? (i := 3) rfl)) (hw _ (List.mem_of_getElem? (i := 6) rfl)) (by decide) (argsL := [(.int z3)]) (rest := [(.ref a13)]) rfl (lenOf pd_5 rfl) rfl (W := 1) rfl (by decide) (by decide) (by decide) (by decide) at_79 rfl fun T29 h30 X31 q32 => ?_
    obtain ⟨va33, g34, g35, K36, n37, n38, n39, n40⟩ := q32
    have ne41 : a13 ≠ va33 := Nat.ne_of_lt (Nat.lt_of_lt_of_le A17.lt g35)
    have g042 : h0.size ≤ va33 := Nat.le_trans k20.1 g35
    have f43 : Exa Z h30 a13 "com/example/driftwalk/driftwalk/graph/NodeTable" := A17.keep K36
    have k44 : Keep h0 h30 [] := k20.trans K36 (allS (Or.inr g019) all0)
    refine w_astore X31 at_82 rfl rfl (L' := #[.val (.int p1), .val (.long q2), .second, .val (.int p3), .val (.int p4), .val (.int p5), .val (.int p6), .val (.int (0 : Int32)), .val (.int z3), .val (.int z4), .val (.int z5), .val (.int z6), .val (.ref a13), .unset, .unset, .unset, .unset, .unset, .unset, .unset]) rfl ?_
    refine w_aload X31 at_84 rfl rfl rfl ?_
    refine w_virtualVP X31 (rm_sizeS l Z a0 hw a13 va33 (List.replicate (z3).toNatClampNeg (0 : Int32)) h30 n0 X31.size ⟨n37, n38, n39, n40⟩ ne41 g34 (by simp only [List.length_set, List.length_replicate]; exact hB8) ) n37 (hw _ (List.mem_of_getElem? (i := 22) rfl)) (hw _ (List.mem_of_getElem? (i := 23) rfl)) (hw _ (List.mem_of_getElem? (i := 25) rfl)) (hw _ (List.mem_of_getElem? (i := 24) rfl)) (hw _ (List.mem_of_getElem? (i := 3) rfl)) (hw _ (List.mem_of_getElem? (i := 26) rfl)) (by decide) (argsL := []) (rest := []) rfl (lenOf pd_7 rfl) rfl (W := 0) rfl (by decide) (by decide) (by decide) (by decide) at_86 rfl fun T45 X47 => ?_
    refine w_if_ne X47 at_89 (by decide) (pcT := 96) (pcF := 92) (by decide) rfl (fun c49 => ?_) (fun c49 => ?_)
    · exact False.elim (c49 (by rw [cnt_rep]; rfl))
    · refine w_iconst X47 at_92 (v := (1 : Int32)) rfl rfl ?_
      refine w_goto X47 at_93 (by decide) (pc' := 97) (by decide) ?_
      refine w_istore X47 at_97 rfl (L' := #[.val (.int p1), .val (.long q2), .second, .val (.int p3), .val (.int p4), .val (.int p5), .val (.int p6), .val (.int (0 : Int32)), .val (.int z3), .val (.int z4), .val (.int z5), .val (.int z6), .val (.ref a13), .val (.int (1 : Int32)), .unset, .unset, .unset, .unset, .unset, .unset]) rfl ?_
      refine w_aload X47 at_99 rfl rfl rfl ?_
      refine w_iload X47 at_101 rfl rfl ?_
      refine w_iload X47 at_103 rfl rfl ?_
      refine w_virtual0 X47 (rm_putS l Z a0 hw a13 z4 p4 va33 (List.replicate (z3).toNatClampNeg (0 : Int32)) h30 n0 X47.size ⟨n37, n38, n39, n40⟩ ne41 g34 (by simp only [List.length_set, List.length_replicate]; exact hB8) nd7.1 (by simp only [List.length_set, List.length_replicate]; rw [hBn]; exact nd7.2)) n37 (hw _ (List.mem_of_getElem? (i := 27) rfl)) (hw _ (List.mem_of_getElem? (i := 28) rfl)) (hw _ (List.mem_of_getElem? (i := 30) rfl)) (hw _ (List.mem_of_getElem? (i := 29) rfl)) (hw _ (List.mem_of_getElem? (i := 3) rfl)) (hw _ (List.mem_of_getElem? (i := 31) rfl)) (by decide) (argsL := [(.int z4), (.int p4)]) (rest := []) rfl (lenOf pd_6 rfl) rfl (W := 0) rfl (by decide) (by decide) (by decide) (by decide) at_105 rfl fun T50 h51 X52 q53 => ?_
      obtain ⟨K54, n55, n56, n57, n58⟩ := q53
      have f59 : Exa Z h51 a13 "com/example/driftwalk/driftwalk/graph/NodeTable" := n37.keep K54
      have f60 : Fld Z h51 a13 "com/example/driftwalk/driftwalk/graph/NodeTable" "values" "[I" (.ref va33) := n38.keep K54 (ninS ne41 nin0)
      have f61 : Fld Z h51 a13 "com/example/driftwalk/driftwalk/graph/NodeTable" "base" "I" (.int (0 : Int32)) := n39.keep K54 (ninS ne41 nin0)
      have k62 : Keep h0 h51 [] := k44.trans K54 (allS (Or.inr g042) all0)
      refine w_iload X52 at_108 rfl rfl ?_
      suffices j66 : ∀ (T64 : State) (z63 : Int32), (Wk p l e room_1 s m #[(.int p1), (.long q2), (.int p3), (.int p4), (.int p5), (.int p6)] below meth c Z n0 x code maxLocals ret T64 2 16 h51) → (z63 = (if p4 = 0 then (0 : Int32) else (1 : Int32))) → Goes p e below (Done below s n0 room_1 (some (.int 1)) (fun _ => True)) T64 m 118 #[.val (.int p1), .val (.long q2), .second, .val (.int p3), .val (.int p4), .val (.int p5), .val (.int p6), .val (.int (0 : Int32)), .val (.int z3), .val (.int z4), .val (.int z5), .val (.int z6), .val (.ref a13), .val (.int (1 : Int32)), .unset, .unset, .unset, .unset, .unset, .unset] [(.int z63)] by
        refine w_if_eq X52 at_110 (by decide) (pcT := 117) (pcF := 113) (by decide) rfl (fun c67 => ?_) (fun c67 => ?_)
        · refine w_iconst X52 at_117 (v := (0 : Int32)) rfl rfl ?_
          exact j66 _ _ X52 (by rw [if_pos c67])
        · refine w_iconst X52 at_113 (v := (1 : Int32)) rfl rfl ?_
          refine w_goto X52 at_114 (by decide) (pc' := 118) (by decide) ?_
          exact j66 _ _ X52 (by rw [if_neg c67])
      intro T64 z63 X65 hz63
      refine w_staticVP X65 (rm7 l Z a0 hw z63 h51 n0 X65.size ) (hw _ (List.mem_of_getElem? (i := 38) rfl)) (hw _ (List.mem_of_getElem? (i := 39) rfl)) (hw _ (List.mem_of_getElem? (i := 40) rfl)) (hw _ (List.mem_of_getElem? (i := 41) rfl)) (by decide) (argsL := [(.int z63)]) (rest := []) rfl (lenOf pd_8 rfl) rfl (W := 0) rfl (by decide) (by decide) (by decide) (by decide) at_118 rfl fun T68 X69 => ?_
      generalize hz70 : (f_one z63) = z70
      refine w_istore X69 at_121 rfl (L' := #[.val (.int p1), .val (.long q2), .second, .val (.int p3), .val (.int p4), .val (.int p5), .val (.int p6), .val (.int (0 : Int32)), .val (.int z3), .val (.int z4), .val (.int z5), .val (.int z6), .val (.ref a13), .val (.int (1 : Int32)), .val (.int z70), .unset, .unset, .unset, .unset, .unset]) rfl ?_
      refine w_iload X69 at_123 rfl rfl ?_
      refine w_if_eq X69 at_125 (by decide) (pcT := 142) (pcF := 128) (by decide) rfl (fun c71 => absurd c71 (by decide)) (fun c71 => ?_)
      refine w_aload X69 at_128 rfl rfl rfl ?_
      refine w_virtualVP X69 (rm_sizeS l Z a0 hw a13 va33 ((List.replicate (z3).toNatClampNeg (0 : Int32)).set (z4).toNatClampNeg p4) h51 n0 X69.size ⟨n55, n56, n57, n58⟩ ne41 g34 (by simp only [List.length_set, List.length_replicate]; exact hB8) ) n55 (hw _ (List.mem_of_getElem? (i := 22) rfl)) (hw _ (List.mem_of_getElem? (i := 23) rfl)) (hw _ (List.mem_of_getElem? (i := 25) rfl)) (hw _ (List.mem_of_getElem? (i := 24) rfl)) (hw _ (List.mem_of_getElem? (i := 3) rfl)) (hw _ (List.mem_of_getElem? (i := 26) rfl)) (by decide) (argsL := []) (rest := []) rfl (lenOf pd_7 rfl) rfl (W := 0) rfl (by decide) (by decide) (by decide) (by decide) at_130 rfl fun T72 X74 => ?_
      refine w_iload X74 at_133 rfl rfl ?_
      refine w_icmp_ne X74 at_135 (by decide) (pcT := 142) (pcF := 138) (by decide) rfl (fun c76 => ?_) (fun c76 => ?_)
      · exact False.elim (c76 (by subst hz70 hz63; rw [sm1 _ _ _ (by have := own_tn z4 nd7.1; have := nd7.2; omega)]; exact own_e01 p4 p5 p6 z4 z5 z6))
      · refine w_iconst X74 at_138 (v := (1 : Int32)) rfl rfl ?_
        refine w_goto X74 at_139 (by decide) (pc' := 143) (by decide) ?_
        refine w_istore X74 at_143 rfl (L' := #[.val (.int p1), .val (.long q2), .second, .val (.int p3), .val (.int p4), .val (.int p5), .val (.int p6), .val (.int (0 : Int32)), .val (.int z3), .val (.int z4), .val (.int z5), .val (.int z6), .val (.ref a13), .val (.int (1 : Int32)), .val (.int z70), .unset, .unset, .unset, .unset, .unset]) rfl ?_
        refine w_aload X74 at_145 rfl rfl rfl ?_
        refine w_iload X74 at_147 rfl rfl ?_
        refine w_iload X74 at_149 rfl rfl ?_
        refine w_virtual0 X74 (rm_putS l Z a0 hw a13 z5 p5 va33 ((List.replicate (z3).toNatClampNeg (0 : Int32)).set (z4).toNatClampNeg p4) h51 n0 X74.size ⟨n55, n56, n57, n58⟩ ne41 g34 (by simp only [List.length_set, List.length_replicate]; exact hB8) nd8.1 (by simp only [List.length_set, List.length_replicate]; rw [hBn]; exact nd8.2)) n55 (hw _ (List.mem_of_getElem? (i := 27) rfl)) (hw _ (List.mem_of_getElem? (i := 28) rfl)) (hw _ (List.mem_of_getElem? (i := 30) rfl)) (hw _ (List.mem_of_getElem? (i := 29) rfl)) (hw _ (List.mem_of_getElem? (i := 3) rfl)) (hw _ (List.mem_of_getElem? (i := 31) rfl)) (by decide) (argsL := [(.int z5), (.int p5)]) (rest := []) rfl (lenOf pd_6 rfl) rfl (W := 0) rfl (by decide) (by decide) (by decide) (by decide) at_151 rfl fun T77 h78 X79 q80 => ?_
        obtain ⟨K81, n82, n83, n84, n85⟩ := q80
        have f86 : Exa Z h78 a13 "com/example/driftwalk/driftwalk/graph/NodeTable" := n55.keep K81
        have f87 : Fld Z h78 a13 "com/example/driftwalk/driftwalk/graph/NodeTable" "values" "[I" (.ref va33) := n56.keep K81 (ninS ne41 nin0)
        have f88 : Fld Z h78 a13 "com/example/driftwalk/driftwalk/graph/NodeTable" "base" "I" (.int (0 : Int32)) := n57.keep K81 (ninS ne41 nin0)
        have k89 : Keep h0 h78 [] := k62.trans K81 (allS (Or.inr g042) all0)
        refine w_iload X79 at_154 rfl rfl ?_
        refine w_if_eq X79 at_156 (by decide) (pcT := 221) (pcF := 159) (by decide) rfl (fun c90 => ?_) (fun c90 => absurd c90 (by decide))
        refine w_iload X79 at_221 rfl rfl ?_
        suffices j94 : ∀ (T92 : State) (z91 : Int32), (Wk p l e room_1 s m #[(.int p1), (.long q2), (.int p3), (.int p4), (.int p5), (.int p6)] below meth c Z n0 x code maxLocals ret T92 2 16 h78) → (z91 = (if p5 = 0 then (0 : Int32) else (1 : Int32))) → Goes p e below (Done below s n0 room_1 (some (.int 1)) (fun _ => True)) T92 m 231 #[.val (.int p1), .val (.long q2), .second, .val (.int p3), .val (.int p4), .val (.int p5), .val (.int p6), .val (.int (0 : Int32)), .val (.int z3), .val (.int z4), .val (.int z5), .val (.int z6), .val (.ref a13), .val (.int (1 : Int32)), .val (.int z70), .unset, .unset, .unset, .unset, .unset] [(.int z91)] by
          refine w_if_eq X79 at_223 (by decide) (pcT := 230) (pcF := 226) (by decide) rfl (fun c95 => ?_) (fun c95 => ?_)
          · refine w_iconst X79 at_230 (v := (0 : Int32)) rfl rfl ?_
            exact j94 _ _ X79 (by rw [if_pos c95])
          · refine w_iconst X79 at_226 (v := (1 : Int32)) rfl rfl ?_
            refine w_goto X79 at_227 (by decide) (pc' := 231) (by decide) ?_
            exact j94 _ _ X79 (by rw [if_neg c95])
        intro T92 z91 X93 hz91
        refine w_staticVP X93 (rm7 l Z a0 hw z91 h78 n0 X93.size ) (hw _ (List.mem_of_getElem? (i := 38) rfl)) (hw _ (List.mem_of_getElem? (i := 39) rfl)) (hw _ (List.mem_of_getElem? (i := 40) rfl)) (hw _ (List.mem_of_getElem? (i := 41) rfl)) (by decide) (argsL := [(.int z91)]) (rest := []) rfl (lenOf pd_8 rfl) rfl (W := 0) rfl (by decide) (by decide) (by decide) (by decide) at_231 rfl fun T96 X97 => ?_
        refine w_iload X97 at_234 rfl rfl ?_
        refine w_iload X97 at_236 rfl rfl ?_
        suffices j101 : ∀ (T99 : State) (z98 : Int32), (Wk p l e room_1 s m #[(.int p1), (.long q2), (.int p3), (.int p4), (.int p5), (.int p6)] below meth c Z n0 x code maxLocals ret T99 2 16 h78) → (z98 = (if z4 = z5 then (0 : Int32) else (if p4 = 0 then (0 : Int32) else (1 : Int32)))) → Goes p e below (Done below s n0 room_1 (some (.int 1)) (fun _ => True)) T99 m 251 #[.val (.int p1), .val (.long q2), .second, .val (.int p3), .val (.int p4), .val (.int p5), .val (.int p6), .val (.int (0 : Int32)), .val (.int z3), .val (.int z4), .val (.int z5), .val (.int z6), .val (.ref a13), .val (.int (1 : Int32)), .val (.int z70), .unset, .unset, .unset, .unset, .unset] [(.int z98), (.int (f_one z91))] by
          refine w_icmp_eq X97 at_238 (by decide) (pcT := 250) (pcF := 241) (by decide) rfl (fun c102 => ?_) (fun c102 => ?_)
          · refine w_iconst X97 at_250 (v := (0 : Int32)) rfl rfl ?_
            exact j101 _ _ X97 (by rw [if_pos c102])
          · refine w_iload X97 at_241 rfl rfl ?_
            refine w_if_eq X97 at_243 (by decide) (pcT := 250) (pcF := 246) (by decide) rfl (fun c103 => ?_) (fun c103 => ?_)
            · refine w_iconst X97 at_250 (v := (0 : Int32)) rfl rfl ?_
              exact j101 _ _ X97 (by rw [if_neg c102, if_pos c103])
            · refine w_iconst X97 at_246 (v := (1 : Int32)) rfl rfl ?_
              refine w_goto X97 at_247 (by decide) (pc' := 251) (by decide) ?_
              exact j101 _ _ X97 (by rw [if_neg c102, if_neg c103])
        intro T99 z98 X100 hz98
        refine w_staticVP X100 (rm7 l Z a0 hw z98 h78 n0 X100.size ) (hw _ (List.mem_of_getElem? (i := 38) rfl)) (hw _ (List.mem_of_getElem? (i := 39) rfl)) (hw _ (List.mem_of_getElem? (i := 40) rfl)) (hw _ (List.mem_of_getElem? (i := 41) rfl)) (by decide) (argsL := [(.int z98)]) (rest := [(.int (f_one z91))]) rfl (lenOf pd_8 rfl) rfl (W := 1) rfl (by decide) (by decide) (by decide) (by decide) at_251 rfl fun T104 X105 => ?_
        refine w_iadd X105 at_254 rfl ?_
        generalize hz106 : ((f_one z91) + (f_one z98)) = z106
        refine w_istore X105 at_255 rfl (L' := #[.val (.int p1), .val (.long q2), .second, .val (.int p3), .val (.int p4), .val (.int p5), .val (.int p6), .val (.int (0 : Int32)), .val (.int z3), .val (.int z4), .val (.int z5), .val (.int z6), .val (.ref a13), .val (.int (1 : Int32)), .val (.int z70), .val (.int z106), .unset, .unset, .unset, .unset]) rfl ?_
        refine w_iload X105 at_257 rfl rfl ?_
        refine w_if_eq X105 at_259 (by decide) (pcT := 276) (pcF := 262) (by decide) rfl (fun c107 => absurd c107 (by decide)) (fun c107 => ?_)
        refine w_aload X105 at_262 rfl rfl rfl ?_
        refine w_virtualVP X105 (rm_sizeS l Z a0 hw a13 va33 (((List.replicate (z3).toNatClampNeg (0 : Int32)).set (z4).toNatClampNeg p4).set (z5).toNatClampNeg p5) h78 n0 X105.size ⟨n82, n83, n84, n85⟩ ne41 g34 (by simp only [List.length_set, List.length_replicate]; exact hB8) ) n82 (hw _ (List.mem_of_getElem? (i := 22) rfl)) (hw _ (List.mem_of_getElem? (i := 23) rfl)) (hw _ (List.mem_of_getElem? (i := 25) rfl)) (hw _ (List.mem_of_getElem? (i := 24) rfl)) (hw _ (List.mem_of_getElem? (i := 3) rfl)) (hw _ (List.mem_of_getElem? (i := 26) rfl)) (by decide) (argsL := []) (rest := []) rfl (lenOf pd_7 rfl) rfl (W := 0) rfl (by decide) (by decide) (by decide) (by decide) at_264 rfl fun T108 X110 => ?_
        refine w_iload X110 at_267 rfl rfl ?_
        refine w_icmp_ne X110 at_269 (by decide) (pcT := 276) (pcF := 272) (by decide) rfl (fun c112 => ?_) (fun c112 => ?_)
        · exact False.elim (c112 (by subst hz106 hz98 hz91 hz70 hz63; rw [sm2 _ _ _ _ _ (by have := own_tn z4 nd7.1; have := nd7.2; omega) (by have := own_tn z5 nd8.1; have := nd8.2; omega)]; simp only [own_tq z4 z5 nd7.1 nd8.1]; exact own_e02 p4 p5 p6 z4 z5 z6))
        · refine w_iconst X110 at_272 (v := (1 : Int32)) rfl rfl ?_
          refine w_goto X110 at_273 (by decide) (pc' := 277) (by decide) ?_
          refine w_istore X110 at_277 rfl (L' := #[.val (.int p1), .val (.long q2), .second, .val (.int p3), .val (.int p4), .val (.int p5), .val (.int p6), .val (.int (0 : Int32)), .val (.int z3), .val (.int z4), .val (.int z5), .val (.int z6), .val (.ref a13), .val (.int (1 : Int32)), .val (.int z70), .val (.int z106), .unset, .unset, .unset, .unset]) rfl ?_
          refine w_aload X110 at_279 rfl rfl rfl ?_
          refine w_iload X110 at_281 rfl rfl ?_
          refine w_iload X110 at_283 rfl rfl ?_
          refine w_virtual0 X110 (rm_putS l Z a0 hw a13 z6 p6 va33 (((List.replicate (z3).toNatClampNeg (0 : Int32)).set (z4).toNatClampNeg p4).set (z5).toNatClampNeg p5) h78 n0 X110.size ⟨n82, n83, n84, n85⟩ ne41 g34 (by simp only [List.length_set, List.length_replicate]; exact hB8) nd9.1 (by simp only [List.length_set, List.length_replicate]; rw [hBn]; exact nd9.2)) n82 (hw _ (List.mem_of_getElem? (i := 27) rfl)) (hw _ (List.mem_of_getElem? (i := 28) rfl)) (hw _ (List.mem_of_getElem? (i := 30) rfl)) (hw _ (List.mem_of_getElem? (i := 29) rfl)) (hw _ (List.mem_of_getElem? (i := 3) rfl)) (hw _ (List.mem_of_getElem? (i := 31) rfl)) (by decide) (argsL := [(.int z6), (.int p6)]) (rest := []) rfl (lenOf pd_6 rfl) rfl (W := 0) rfl (by decide) (by decide) (by decide) (by decide) at_285 rfl fun T113 h114 X115 q116 => ?_
          obtain ⟨K117, n118, n119, n120, n121⟩ := q116
          have f122 : Exa Z h114 a13 "com/example/driftwalk/driftwalk/graph/NodeTable" := n82.keep K117
          have f123 : Fld Z h114 a13 "com/example/driftwalk/driftwalk/graph/NodeTable" "values" "[I" (.ref va33) := n83.keep K117 (ninS ne41 nin0)
          have f124 : Fld Z h114 a13 "com/example/driftwalk/driftwalk/graph/NodeTable" "base" "I" (.int (0 : Int32)) := n84.keep K117 (ninS ne41 nin0)
          have k125 : Keep h0 h114 [] := k89.trans K117 (allS (Or.inr g042) all0)
          refine w_iload X115 at_288 rfl rfl ?_
          refine w_if_eq X115 at_290 (by decide) (pcT := 424) (pcF := 293) (by decide) rfl (fun c126 => ?_) (fun c126 => absurd c126 (by decide))
          refine w_iload X115 at_424 rfl rfl ?_
          suffices j130 : ∀ (T128 : State) (z127 : Int32), (Wk p l e room_1 s m #[(.int p1), (.long q2), (.int p3), (.int p4), (.int p5), (.int p6)] below meth c Z n0 x code maxLocals ret T128 2 16 h114) → (z127 = (if p6 = 0 then (0 : Int32) else (1 : Int32))) → Goes p e below (Done below s n0 room_1 (some (.int 1)) (fun _ => True)) T128 m 434 #[.val (.int p1), .val (.long q2), .second, .val (.int p3), .val (.int p4), .val (.int p5), .val (.int p6), .val (.int (0 : Int32)), .val (.int z3), .val (.int z4), .val (.int z5), .val (.int z6), .val (.ref a13), .val (.int (1 : Int32)), .val (.int z70), .val (.int z106), .unset, .unset, .unset, .unset] [(.int z127)] by
            refine w_if_eq X115 at_426 (by decide) (pcT := 433) (pcF := 429) (by decide) rfl (fun c131 => ?_) (fun c131 => ?_)
            · refine w_iconst X115 at_433 (v := (0 : Int32)) rfl rfl ?_
              exact j130 _ _ X115 (by rw [if_pos c131])
            · refine w_iconst X115 at_429 (v := (1 : Int32)) rfl rfl ?_
              refine w_goto X115 at_430 (by decide) (pc' := 434) (by decide) ?_
              exact j130 _ _ X115 (by rw [if_neg c131])
          intro T128 z127 X129 hz127
          refine w_staticVP X129 (rm7 l Z a0 hw z127 h114 n0 X129.size ) (hw _ (List.mem_of_getElem? (i := 38) rfl)) (hw _ (List.mem_of_getElem? (i := 39) rfl)) (hw _ (List.mem_of_getElem? (i := 40) rfl)) (hw _ (List.mem_of_getElem? (i := 41) rfl)) (by decide) (argsL := [(.int z127)]) (rest := []) rfl (lenOf pd_8 rfl) rfl (W := 0) rfl (by decide) (by decide) (by decide) (by decide) at_434 rfl fun T132 X133 => ?_
          refine w_iload X133 at_437 rfl rfl ?_
          refine w_iload X133 at_439 rfl rfl ?_
          suffices j137 : ∀ (T135 : State) (z134 : Int32), (Wk p l e room_1 s m #[(.int p1), (.long q2), (.int p3), (.int p4), (.int p5), (.int p6)] below meth c Z n0 x code maxLocals ret T135 2 16 h114) → (z134 = (if z5 = z6 then (0 : Int32) else (if p5 = 0 then (0 : Int32) else (1 : Int32)))) → Goes p e below (Done below s n0 room_1 (some (.int 1)) (fun _ => True)) T135 m 454 #[.val (.int p1), .val (.long q2), .second, .val (.int p3), .val (.int p4), .val (.int p5), .val (.int p6), .val (.int (0 : Int32)), .val (.int z3), .val (.int z4), .val (.int z5), .val (.int z6), .val (.ref a13), .val (.int (1 : Int32)), .val (.int z70), .val (.int z106), .unset, .unset, .unset, .unset] [(.int z134), (.int (f_one z127))] by
            refine w_icmp_eq X133 at_441 (by decide) (pcT := 453) (pcF := 444) (by decide) rfl (fun c138 => ?_) (fun c138 => ?_)
            · refine w_iconst X133 at_453 (v := (0 : Int32)) rfl rfl ?_
              exact j137 _ _ X133 (by rw [if_pos c138])
            · refine w_iload X133 at_444 rfl rfl ?_
              refine w_if_eq X133 at_446 (by decide) (pcT := 453) (pcF := 449) (by decide) rfl (fun c139 => ?_) (fun c139 => ?_)
              · refine w_iconst X133 at_453 (v := (0 : Int32)) rfl rfl ?_
                exact j137 _ _ X133 (by rw [if_neg c138, if_pos c139])
              · refine w_iconst X133 at_449 (v := (1 : Int32)) rfl rfl ?_
                refine w_goto X133 at_450 (by decide) (pc' := 454) (by decide) ?_
                exact j137 _ _ X133 (by rw [if_neg c138, if_neg c139])
          intro T135 z134 X136 hz134
          refine w_staticVP X136 (rm7 l Z a0 hw z134 h114 n0 X136.size ) (hw _ (List.mem_of_getElem? (i := 38) rfl)) (hw _ (List.mem_of_getElem? (i := 39) rfl)) (hw _ (List.mem_of_getElem? (i := 40) rfl)) (hw _ (List.mem_of_getElem? (i := 41) rfl)) (by decide) (argsL := [(.int z134)]) (rest := [(.int (f_one z127))]) rfl (lenOf pd_8 rfl) rfl (W := 1) rfl (by decide) (by decide) (by decide) (by decide) at_454 rfl fun T140 X141 => ?_
          refine w_iadd X141 at_457 rfl ?_
          refine w_iload X141 at_458 rfl rfl ?_
          refine w_iload X141 at_460 rfl rfl ?_
          suffices j145 : ∀ (T143 : State) (z142 : Int32), (Wk p l e room_1 s m #[(.int p1), (.long q2), (.int p3), (.int p4), (.int p5), (.int p6)] below meth c Z n0 x code maxLocals ret T143 2 16 h114) → (z142 = (if z4 = z5 then (0 : Int32) else (if z4 = z6 then (0 : Int32) else (if p4 = 0 then (0 : Int32) else (1 : Int32))))) → Goes p e below (Done below s n0 room_1 (some (.int 1)) (fun _ => True)) T143 m 482 #[.val (.int p1), .val (.long q2), .second, .val (.int p3), .val (.int p4), .val (.int p5), .val (.int p6), .val (.int (0 : Int32)), .val (.int z3), .val (.int z4), .val (.int z5), .val (.int z6), .val (.ref a13), .val (.int (1 : Int32)), .val (.int z70), .val (.int z106), .unset, .unset, .unset, .unset] [(.int z142), (.int ((f_one z127) + (f_one z134)))] by
            refine w_icmp_eq X141 at_462 (by decide) (pcT := 481) (pcF := 465) (by decide) rfl (fun c146 => ?_) (fun c146 => ?_)
            · refine w_iconst X141 at_481 (v := (0 : Int32)) rfl rfl ?_
              exact j145 _ _ X141 (by rw [if_pos c146])
            · refine w_iload X141 at_465 rfl rfl ?_
              refine w_iload X141 at_467 rfl rfl ?_
              refine w_icmp_eq X141 at_469 (by decide) (pcT := 481) (pcF := 472) (by decide) rfl (fun c147 => ?_) (fun c147 => ?_)
              · refine w_iconst X141 at_481 (v := (0 : Int32)) rfl rfl ?_
                exact j145 _ _ X141 (by rw [if_neg c146, if_pos c147])
              · refine w_iload X141 at_472 rfl rfl ?_
                refine w_if_eq X141 at_474 (by decide) (pcT := 481) (pcF := 477) (by decide) rfl (fun c148 => ?_) (fun c148 => ?_)
                · refine w_iconst X141 at_481 (v := (0 : Int32)) rfl rfl ?_
                  exact j145 _ _ X141 (by rw [if_neg c146, if_neg c147, if_pos c148])
                · refine w_iconst X141 at_477 (v := (1 : Int32)) rfl rfl ?_
                  refine w_goto X141 at_478 (by decide) (pc' := 482) (by decide) ?_
                  exact j145 _ _ X141 (by rw [if_neg c146, if_neg c147, if_neg c148])
          intro T143 z142 X144 hz142
          refine w_staticVP X144 (rm7 l Z a0 hw z142 h114 n0 X144.size ) (hw _ (List.mem_of_getElem? (i := 38) rfl)) (hw _ (List.mem_of_getElem? (i := 39) rfl)) (hw _ (List.mem_of_getElem? (i := 40) rfl)) (hw _ (List.mem_of_getElem? (i := 41) rfl)) (by decide) (argsL := [(.int z142)]) (rest := [(.int ((f_one z127) + (f_one z134)))]) rfl (lenOf pd_8 rfl) rfl (W := 1) rfl (by decide) (by decide) (by decide) (by decide) at_482 rfl fun T149 X150 => ?_
          refine w_iadd X150 at_485 rfl ?_
          generalize hz151 : (((f_one z127) + (f_one z134)) + (f_one z142)) = z151
          refine w_istore X150 at_486 rfl (L' := #[.val (.int p1), .val (.long q2), .second, .val (.int p3), .val (.int p4), .val (.int p5), .val (.int p6), .val (.int (0 : Int32)), .val (.int z3), .val (.int z4), .val (.int z5), .val (.int z6), .val (.ref a13), .val (.int (1 : Int32)), .val (.int z70), .val (.int z106), .val (.int z151), .unset, .unset, .unset]) rfl ?_
          refine w_iload X150 at_488 rfl rfl ?_
          refine w_if_eq X150 at_490 (by decide) (pcT := 507) (pcF := 493) (by decide) rfl (fun c152 => absurd c152 (by decide)) (fun c152 => ?_)
          refine w_aload X150 at_493 rfl rfl rfl ?_
          refine w_virtualVP X150 (rm_sizeS l Z a0 hw a13 va33 ((((List.replicate (z3).toNatClampNeg (0 : Int32)).set (z4).toNatClampNeg p4).set (z5).toNatClampNeg p5).set (z6).toNatClampNeg p6) h114 n0 X150.size ⟨n118, n119, n120, n121⟩ ne41 g34 (by simp only [List.length_set, List.length_replicate]; exact hB8) ) n118 (hw _ (List.mem_of_getElem? (i := 22) rfl)) (hw _ (List.mem_of_getElem? (i := 23) rfl)) (hw _ (List.mem_of_getElem? (i := 25) rfl)) (hw _ (List.mem_of_getElem? (i := 24) rfl)) (hw _ (List.mem_of_getElem? (i := 3) rfl)) (hw _ (List.mem_of_getElem? (i := 26) rfl)) (by decide) (argsL := []) (rest := []) rfl (lenOf pd_7 rfl) rfl (W := 0) rfl (by decide) (by decide) (by decide) (by decide) at_495 rfl fun T153 X155 => ?_
          refine w_iload X155 at_498 rfl rfl ?_
          refine w_icmp_ne X155 at_500 (by decide) (pcT := 507) (pcF := 503) (by decide) rfl (fun c157 => ?_) (fun c157 => ?_)
          · exact False.elim (c157 (by subst hz151 hz142 hz134 hz127 hz106 hz98 hz91 hz70 hz63; rw [sm3 _ _ _ _ _ _ _ (by have := own_tn z4 nd7.1; have := nd7.2; omega) (by have := own_tn z5 nd8.1; have := nd8.2; omega) (by have := own_tn z6 nd9.1; have := nd9.2; omega)]; simp only [own_tq z4 z5 nd7.1 nd8.1, own_tq z5 z6 nd8.1 nd9.1, own_tq z4 z6 nd7.1 nd9.1]; exact own_e03 p4 p5 p6 z4 z5 z6))
          · refine w_iconst X155 at_503 (v := (1 : Int32)) rfl rfl ?_
            refine w_goto X155 at_504 (by decide) (pc' := 508) (by decide) ?_
            refine w_istore X155 at_508 rfl (L' := #[.val (.int p1), .val (.long q2), .second, .val (.int p3), .val (.int p4), .val (.int p5), .val (.int p6), .val (.int (0 : Int32)), .val (.int z3), .val (.int z4), .val (.int z5), .val (.int z6), .val (.ref a13), .val (.int (1 : Int32)), .val (.int z70), .val (.int z106), .val (.int z151), .unset, .unset, .unset]) rfl ?_
            refine w_iload X155 at_510 rfl rfl ?_
            exact w_nreturn X155 (t := .boolean) (by simp) at_512 rfl trivial (by decide) (by decide)
  · refine w_iconst X0 at_6 (v := (1 : Int32)) rfl rfl ?_
    refine w_goto X0 at_7 (by decide) (pc' := 11) (by decide) ?_
    refine w_istore X0 at_11 rfl (L' := #[.val (.int p1), .val (.long q2), .second, .val (.int p3), .val (.int p4), .val (.int p5), .val (.int p6), .val (.int (1 : Int32)), .unset, .unset, .unset, .unset, .unset, .unset, .unset, .unset, .unset, .unset, .unset, .unset]) rfl ?_
    refine w_iload X0 at_13 rfl rfl ?_
    refine w_if_eq X0 at_15 (by decide) (pcT := 31) (pcF := 18) (by decide) rfl (fun c158 => absurd c158 (by decide)) (fun c158 => ?_)
    refine w_sipush X0 at_18 (v := (16385 : Int32)) rfl rfl ?_
    refine w_iloadN X0 at_21 rfl rfl ?_
    refine w_iconst X0 at_22 (v := (1 : Int32)) rfl rfl ?_
    refine w_iushr X0 at_23 rfl ?_
    refine w_ldcInt X0 (hw _ (List.mem_of_getElem? (i := 42) rfl)) at_24 rfl ?_
    refine w_iand X0 at_26 rfl ?_
    refine w_iadd X0 at_27 rfl ?_
    refine w_goto X0 at_28 (by decide) (pc' := 39) (by decide) ?_
    generalize hz159 : ((16385 : Int32) + ((ush p1 (1 : Int32)) &&& (1073741823 : Int32))) = z159
    refine w_istore X0 at_39 rfl (L' := #[.val (.int p1), .val (.long q2), .second, .val (.int p3), .val (.int p4), .val (.int p5), .val (.int p6), .val (.int (1 : Int32)), .val (.int z159), .unset, .unset, .unset, .unset, .unset, .unset, .unset, .unset, .unset, .unset, .unset]) rfl ?_
    have hB := own_bl _ _ hz159
    have hN0 := own_ne0 z159 (by omega)
    have hsm := own_large z159 hB
    have hB1 : 1 ≤ z159.toInt := by omega
    refine w_lloadN X0 at_41 rfl rfl ?_
    refine w_bipush X0 at_42 (v := (32 : Int32)) rfl rfl ?_
    refine w_lushr X0 at_44 rfl ?_
    refine w_l2i X0 at_45 rfl ?_
    refine w_ldcInt X0 (hw _ (List.mem_of_getElem? (i := 0) rfl)) at_46 rfl ?_
    refine w_iand X0 at_48 rfl ?_
    refine w_iload X0 at_49 rfl rfl ?_
    refine w_irem X0 at_51 rfl hN0 ?_
    generalize hz160 : ((((ushL q2 (32 : Int32)).toInt32) &&& (2147483647 : Int32)) % z159) = z160
    refine w_istore X0 at_52 rfl (L' := #[.val (.int p1), .val (.long q2), .second, .val (.int p3), .val (.int p4), .val (.int p5), .val (.int p6), .val (.int (1 : Int32)), .val (.int z159), .val (.int z160), .unset, .unset, .unset, .unset, .unset, .unset, .unset, .unset, .unset, .unset]) rfl ?_
    refine w_lloadN X0 at_54 rfl rfl ?_
    refine w_l2i X0 at_55 rfl ?_
    refine w_ldcInt X0 (hw _ (List.mem_of_getElem? (i := 0) rfl)) at_56 rfl ?_
    refine w_iand X0 at_58 rfl ?_
    refine w_iload X0 at_59 rfl rfl ?_
    refine w_irem X0 at_61 rfl hN0 ?_
    generalize hz161 : (((q2.toInt32) &&& (2147483647 : Int32)) % z159) = z161
    refine w_istore X0 at_62 rfl (L' := #[.val (.int p1), .val (.long q2), .second, .val (.int p3), .val (.int p4), .val (.int p5), .val (.int p6), .val (.int (1 : Int32)), .val (.int z159), .val (.int z160), .val (.int z161), .unset, .unset, .unset, .unset, .unset, .unset, .unset, .unset, .unset]) rfl ?_
    refine w_iloadN X0 at_64 rfl rfl ?_
    refine w_ldcInt X0 (hw _ (List.mem_of_getElem? (i := 0) rfl)) at_65 rfl ?_
    refine w_iand X0 at_67 rfl ?_
    refine w_iload X0 at_68 rfl rfl ?_
    refine w_irem X0 at_70 rfl hN0 ?_
    generalize hz162 : ((p3 &&& (2147483647 : Int32)) % z159) = z162
    refine w_istore X0 at_71 rfl (L' := #[.val (.int p1), .val (.long q2), .second, .val (.int p3), .val (.int p4), .val (.int p5), .val (.int p6), .val (.int (1 : Int32)), .val (.int z159), .val (.int z160), .val (.int z161), .val (.int z162), .unset, .unset, .unset, .unset, .unset, .unset, .unset, .unset]) rfl ?_
    have nd163 := own_mod _ z159 _ hB1 hz160
    have nd164 := own_mod _ z159 _ hB1 hz161
    have nd165 := own_mod _ z159 _ hB1 hz162
    refine w_new X0 (hw _ (List.mem_of_getElem? (i := 1) rfl)) (hw _ (List.mem_of_getElem? (i := 2) rfl)) (hw _ (List.mem_of_getElem? (i := 3) rfl)) (by decide) (by decide) at_73 rfl fun T166 h168 a169 X167 ga170 gn171 E172 A173 D174 => ?_
    have g0175 : h0.size ≤ a169 := by rw [ga170]; exact (Keep.refl h0 []).1
    have k176 : Keep h0 h168 [] := (Keep.refl h0 []).ext E172
    have f177 : Fld Z h168 a169 "com/example/driftwalk/driftwalk/graph/NodeTable" "largest" "I" (.int (0 : Int32)) := D174 (Or.inl (hw _ (List.mem_of_getElem? (i := 11) rfl))) (ty := .int) (by decide)
    have f178 : Fld Z h168 a169 "com/example/driftwalk/driftwalk/graph/NodeTable" "bound" "I" (.int (0 : Int32)) := D174 (Or.inr (hw _ (List.mem_of_getElem? (i := 13) rfl))) (ty := .int) (by decide)
    have f179 : Fld Z h168 a169 "com/example/driftwalk/driftwalk/graph/NodeTable" "values" "[I" .null := D174 (Or.inl (hw _ (List.mem_of_getElem? (i := 21) rfl))) (ty := (.array .int)) (by decide)
    have f180 : Fld Z h168 a169 "com/example/driftwalk/driftwalk/graph/NodeTable" "base" "I" (.int (0 : Int32)) := D174 (Or.inl (hw _ (List.mem_of_getElem? (i := 37) rfl))) (ty := .int) (by decide)
    have f181 : Fld Z h168 a169 "com/example/driftwalk/driftwalk/graph/NodeTable" "slots" "[J" .null := D174 (Or.inl (hw _ (List.mem_of_getElem? (i := 67) rfl))) (ty := (.array .long)) (by decide)
    have f182 : Fld Z h168 a169 "com/example/driftwalk/driftwalk/graph/NodeTable" "mask" "I" (.int (0 : Int32)) := D174 (Or.inl (hw _ (List.mem_of_getElem? (i := 70) rfl))) (ty := .int) (by decide)
    have f183 : Fld Z h168 a169 "com/example/driftwalk/driftwalk/graph/NodeTable" "size" "I" (.int (0 : Int32)) := D174 (Or.inl (hw _ (List.mem_of_getElem? (i := 72) rfl))) (ty := .int) (by decide)
    have f184 : Fld Z h168 a169 "com/example/driftwalk/driftwalk/graph/NodeTable" "smallest" "I" (.int (0 : Int32)) := D174 (Or.inl (hw _ (List.mem_of_getElem? (i := 104) rfl))) (ty := .int) (by decide)
    refine w_dup X167 at_76 rfl rfl ?_
    refine w_iload X167 at_77 rfl rfl ?_
    refine w_special0 X167 (rm_initL l Z a0 hw a169 z159 h168 n0 X167.size A173 f177 f178 f179 f180 f181 f182 f183 f184 gn171 hsm) rfl (hw _ (List.mem_of_getElem? (i := 4) rfl)) (hw _ (List.mem_of_getElem? (i := 5) rfl)) (hw _ (List.mem_of_getElem? (i := 3) rfl)) (hw _ (List.mem_of_getElem? (i := 6) rfl)) (by decide) (argsL := [(.int z159)]) (rest := [(.ref a169)]) rfl (lenOf pd_5 rfl) rfl (W := 1) rfl (by decide) (by decide) (by decide) (by decide) at_79 rfl fun T185 h186 X187 q188 => ?_
    obtain ⟨sl189, g190, g191, K192, n193, n194, n195, n196, n197, n198, n199, n200, n201, n202⟩ := q188
    have ne203 : a169 ≠ sl189 := Nat.ne_of_lt (Nat.lt_of_lt_of_le A173.lt g191)
    have g0204 : h0.size ≤ sl189 := Nat.le_trans k176.1 g191
    have f205 : Exa Z h186 a169 "com/example/driftwalk/driftwalk/graph/NodeTable" := A173.keep K192
    have k206 : Keep h0 h186 [] := k176.trans K192 (allS (Or.inr g0175) all0)
    refine w_astore X187 at_82 rfl rfl (L' := #[.val (.int p1), .val (.long q2), .second, .val (.int p3), .val (.int p4), .val (.int p5), .val (.int p6), .val (.int (1 : Int32)), .val (.int z159), .val (.int z160), .val (.int z161), .val (.int z162), .val (.ref a169), .unset, .unset, .unset, .unset, .unset, .unset, .unset]) rfl ?_
    refine w_aload X187 at_84 rfl rfl rfl ?_
    refine w_virtualVP X187 (rm_sizeL l Z a0 hw a169 sl189 x16 (0 : Int32) (0 : Int32) (-1 : Int32) z159  h186 n0 X187.size ⟨n193, n194, n195, n196, n197, n198, n199, n200, n201, n202⟩ ne203 gn171 g190 ) n193 (hw _ (List.mem_of_getElem? (i := 22) rfl)) (hw _ (List.mem_of_getElem? (i := 23) rfl)) (hw _ (List.mem_of_getElem? (i := 25) rfl)) (hw _ (List.mem_of_getElem? (i := 24) rfl)) (hw _ (List.mem_of_getElem? (i := 3) rfl)) (hw _ (List.mem_of_getElem? (i := 26) rfl)) (by decide) (argsL := []) (rest := []) rfl (lenOf pd_7 rfl) rfl (W := 0) rfl (by decide) (by decide) (by decide) (by decide) at_86 rfl fun T207 X209 => ?_
    refine w_if_ne X209 at_89 (by decide) (pcT := 96) (pcF := 92) (by decide) rfl (fun c211 => absurd c211 (by decide)) (fun c211 => ?_)
    refine w_iconst X209 at_92 (v := (1 : Int32)) rfl rfl ?_
    refine w_goto X209 at_93 (by decide) (pc' := 97) (by decide) ?_
    refine w_istore X209 at_97 rfl (L' := #[.val (.int p1), .val (.long q2), .second, .val (.int p3), .val (.int p4), .val (.int p5), .val (.int p6), .val (.int (1 : Int32)), .val (.int z159), .val (.int z160), .val (.int z161), .val (.int z162), .val (.ref a169), .val (.int (1 : Int32)), .unset, .unset, .unset, .unset, .unset, .unset]) rfl ?_
    refine w_aload X209 at_99 rfl rfl rfl ?_
    refine w_iload X209 at_101 rfl rfl ?_
    refine w_iload X209 at_103 rfl rfl ?_
    refine w_virtual0 X209 (rm_putL l Z a0 hw a169 z160 p4 sl189 x16 (0 : Int32) (0 : Int32) (-1 : Int32) z159 [] h186 n0 X209.size ⟨n193, n194, n195, n196, n197, n198, n199, n200, n201, n202⟩ ne203 gn171 g190 (inv_0 hmn) rfl (by decide) nd163.1) n193 (hw _ (List.mem_of_getElem? (i := 27) rfl)) (hw _ (List.mem_of_getElem? (i := 28) rfl)) (hw _ (List.mem_of_getElem? (i := 30) rfl)) (hw _ (List.mem_of_getElem? (i := 29) rfl)) (hw _ (List.mem_of_getElem? (i := 3) rfl)) (hw _ (List.mem_of_getElem? (i := 31) rfl)) (by decide) (argsL := [(.int z160), (.int p4)]) (rest := []) rfl (lenOf pd_6 rfl) rfl (W := 0) rfl (by decide) (by decide) (by decide) (by decide) at_105 rfl fun T212 h213 X214 q215 => ?_
    obtain ⟨xs216, c217, sm218, lg219, I220, hc221, K222, n223, n224, n225, n226, n227, n228, n229, n230, n231, n232⟩ := q215
    have f233 : Exa Z h213 a169 "com/example/driftwalk/driftwalk/graph/NodeTable" := n193.keep K222
    have k234 : Keep h0 h213 [] := k206.trans K222 (allS (Or.inr g0175) (allS (Or.inr g0204) all0))
    refine w_iload X214 at_108 rfl rfl ?_
    suffices j238 : ∀ (T236 : State) (z235 : Int32), (Wk p l e room_1 s m #[(.int p1), (.long q2), (.int p3), (.int p4), (.int p5), (.int p6)] below meth c Z n0 x code maxLocals ret T236 2 24 h213) → (z235 = (if p4 = 0 then (0 : Int32) else (1 : Int32))) → Goes p e below (Done below s n0 room_1 (some (.int 1)) (fun _ => True)) T236 m 118 #[.val (.int p1), .val (.long q2), .second, .val (.int p3), .val (.int p4), .val (.int p5), .val (.int p6), .val (.int (1 : Int32)), .val (.int z159), .val (.int z160), .val (.int z161), .val (.int z162), .val (.ref a169), .val (.int (1 : Int32)), .unset, .unset, .unset, .unset, .unset, .unset] [(.int z235)] by
      refine w_if_eq X214 at_110 (by decide) (pcT := 117) (pcF := 113) (by decide) rfl (fun c239 => ?_) (fun c239 => ?_)
      · refine w_iconst X214 at_117 (v := (0 : Int32)) rfl rfl ?_
        exact j238 _ _ X214 (by rw [if_pos c239])
      · refine w_iconst X214 at_113 (v := (1 : Int32)) rfl rfl ?_
        refine w_goto X214 at_114 (by decide) (pc' := 118) (by decide) ?_
        exact j238 _ _ X214 (by rw [if_neg c239])
    intro T236 z235 X237 hz235
    refine w_staticVP X237 (rm7 l Z a0 hw z235 h213 n0 X237.size ) (hw _ (List.mem_of_getElem? (i := 38) rfl)) (hw _ (List.mem_of_getElem? (i := 39) rfl)) (hw _ (List.mem_of_getElem? (i := 40) rfl)) (hw _ (List.mem_of_getElem? (i := 41) rfl)) (by decide) (argsL := [(.int z235)]) (rest := []) rfl (lenOf pd_8 rfl) rfl (W := 0) rfl (by decide) (by decide) (by decide) (by decide) at_118 rfl fun T240 X241 => ?_
    generalize hz242 : (f_one z235) = z242
    refine w_istore X241 at_121 rfl (L' := #[.val (.int p1), .val (.long q2), .second, .val (.int p3), .val (.int p4), .val (.int p5), .val (.int p6), .val (.int (1 : Int32)), .val (.int z159), .val (.int z160), .val (.int z161), .val (.int z162), .val (.ref a169), .val (.int (1 : Int32)), .val (.int z242), .unset, .unset, .unset, .unset, .unset]) rfl ?_
    refine w_iload X241 at_123 rfl rfl ?_
    refine w_if_eq X241 at_125 (by decide) (pcT := 142) (pcF := 128) (by decide) rfl (fun c243 => absurd c243 (by decide)) (fun c243 => ?_)
    refine w_aload X241 at_128 rfl rfl rfl ?_
    refine w_virtualVP X241 (rm_sizeL l Z a0 hw a169 sl189 xs216 c217 sm218 lg219 z159  h213 n0 X241.size ⟨n223, n224, n225, n226, n227, n228, n229, n230, n231, n232⟩ ne203 gn171 g190 ) n223 (hw _ (List.mem_of_getElem? (i := 22) rfl)) (hw _ (List.mem_of_getElem? (i := 23) rfl)) (hw _ (List.mem_of_getElem? (i := 25) rfl)) (hw _ (List.mem_of_getElem? (i := 24) rfl)) (hw _ (List.mem_of_getElem? (i := 3) rfl)) (hw _ (List.mem_of_getElem? (i := 26) rfl)) (by decide) (argsL := []) (rest := []) rfl (lenOf pd_7 rfl) rfl (W := 0) rfl (by decide) (by decide) (by decide) (by decide) at_130 rfl fun T244 X246 => ?_
    refine w_iload X246 at_133 rfl rfl ?_
    refine w_icmp_ne X246 at_135 (by decide) (pcT := 142) (pcF := 138) (by decide) rfl (fun c248 => ?_) (fun c248 => ?_)
    · exact False.elim (c248 (by subst hz242 hz235; rw [hc221]; exact own_e11 p4 p5 p6 z160 z161 z162))
    · refine w_iconst X246 at_138 (v := (1 : Int32)) rfl rfl ?_
      refine w_goto X246 at_139 (by decide) (pc' := 143) (by decide) ?_
      refine w_istore X246 at_143 rfl (L' := #[.val (.int p1), .val (.long q2), .second, .val (.int p3), .val (.int p4), .val (.int p5), .val (.int p6), .val (.int (1 : Int32)), .val (.int z159), .val (.int z160), .val (.int z161), .val (.int z162), .val (.ref a169), .val (.int (1 : Int32)), .val (.int z242), .unset, .unset, .unset, .unset, .unset]) rfl ?_
      refine w_aload X246 at_145 rfl rfl rfl ?_
      refine w_iload X246 at_147 rfl rfl ?_
      refine w_iload X246 at_149 rfl rfl ?_
      refine w_virtual0 X246 (rm_putL l Z a0 hw a169 z161 p5 sl189 xs216 c217 sm218 lg219 z159 (nsP [] z160 p4) h213 n0 X246.size ⟨n223, n224, n225, n226, n227, n228, n229, n230, n231, n232⟩ ne203 gn171 g190 I220 hc221 (Nat.le_trans (Nat.le_trans (nsP_le _ _ _) (Nat.succ_le_succ (Nat.le_refl 0))) (by decide)) nd164.1) n223 (hw _ (List.mem_of_getElem? (i := 27) rfl)) (hw _ (List.mem_of_getElem? (i := 28) rfl)) (hw _ (List.mem_of_getElem? (i := 30) rfl)) (hw _ (List.mem_of_getElem? (i := 29) rfl)) (hw _ (List.mem_of_getElem? (i := 3) rfl)) (hw _ (List.mem_of_getElem? (i := 31) rfl)) (by decide) (argsL := [(.int z161), (.int p5)]) (rest := []) rfl (lenOf pd_6 rfl) rfl (W := 0) rfl (by decide) (by decide) (by decide) (by decide) at_151 rfl fun T249 h250 X251 q252 => ?_
      obtain ⟨xs253, c254, sm255, lg256, I257, hc258, K259, n260, n261, n262, n263, n264, n265, n266, n267, n268, n269⟩ := q252
      have f270 : Exa Z h250 a169 "com/example/driftwalk/driftwalk/graph/NodeTable" := n223.keep K259
      have k271 : Keep h0 h250 [] := k234.trans K259 (allS (Or.inr g0175) (allS (Or.inr g0204) all0))
      refine w_iload X251 at_154 rfl rfl ?_
      refine w_if_eq X251 at_156 (by decide) (pcT := 221) (pcF := 159) (by decide) rfl (fun c272 => absurd c272 (by decide)) (fun c272 => ?_)
      refine w_iload X251 at_159 rfl rfl ?_
      refine w_iload X251 at_161 rfl rfl ?_
      suffices j276 : ∀ (T274 : State) (z273 : Int32), (Wk p l e room_1 s m #[(.int p1), (.long q2), (.int p3), (.int p4), (.int p5), (.int p6)] below meth c Z n0 x code maxLocals ret T274 2 24 h250) → (z273 = (if z160 = z161 then (f_one (if p4 = 0 then (if p5 = 0 then (0 : Int32) else (1 : Int32)) else (1 : Int32))) else ((f_one (if p4 = 0 then (0 : Int32) else (1 : Int32))) + (f_one (if p5 = 0 then (0 : Int32) else (1 : Int32)))))) → Goes p e below (Done below s n0 room_1 (some (.int 1)) (fun _ => True)) T274 m 257 #[.val (.int p1), .val (.long q2), .second, .val (.int p3), .val (.int p4), .val (.int p5), .val (.int p6), .val (.int (1 : Int32)), .val (.int z159), .val (.int z160), .val (.int z161), .val (.int z162), .val (.ref a169), .val (.int (1 : Int32)), .val (.int z242), .val (.int z273), .unset, .unset, .unset, .unset] [] by
        refine w_icmp_ne X251 at_163 (by decide) (pcT := 189) (pcF := 166) (by decide) rfl (fun c277 => ?_) (fun c277 => ?_)
        · refine w_iload X251 at_189 rfl rfl ?_
          suffices j281 : ∀ (T279 : State) (z278 : Int32), (Wk p l e room_1 s m #[(.int p1), (.long q2), (.int p3), (.int p4), (.int p5), (.int p6)] below meth c Z n0 x code maxLocals ret T279 2 24 h250) → (z278 = (if p4 = 0 then (0 : Int32) else (1 : Int32))) → Goes p e below (Done below s n0 room_1 (some (.int 1)) (fun _ => True)) T279 m 199 #[.val (.int p1), .val (.long q2), .second, .val (.int p3), .val (.int p4), .val (.int p5), .val (.int p6), .val (.int (1 : Int32)), .val (.int z159), .val (.int z160), .val (.int z161), .val (.int z162), .val (.ref a169), .val (.int (1 : Int32)), .val (.int z242), .unset, .unset, .unset, .unset, .unset] [(.int z278)] by
            refine w_if_eq X251 at_191 (by decide) (pcT := 198) (pcF := 194) (by decide) rfl (fun c282 => ?_) (fun c282 => ?_)
            · refine w_iconst X251 at_198 (v := (0 : Int32)) rfl rfl ?_
              exact j281 _ _ X251 (by rw [if_pos c282])
            · refine w_iconst X251 at_194 (v := (1 : Int32)) rfl rfl ?_
              refine w_goto X251 at_195 (by decide) (pc' := 199) (by decide) ?_
              exact j281 _ _ X251 (by rw [if_neg c282])
          intro T279 z278 X280 hz278
          refine w_staticVP X280 (rm7 l Z a0 hw z278 h250 n0 X280.size ) (hw _ (List.mem_of_getElem? (i := 38) rfl)) (hw _ (List.mem_of_getElem? (i := 39) rfl)) (hw _ (List.mem_of_getElem? (i := 40) rfl)) (hw _ (List.mem_of_getElem? (i := 41) rfl)) (by decide) (argsL := [(.int z278)]) (rest := []) rfl (lenOf pd_8 rfl) rfl (W := 0) rfl (by decide) (by decide) (by decide) (by decide) at_199 rfl fun T283 X284 => ?_
          refine w_iload X284 at_202 rfl rfl ?_
          suffices j288 : ∀ (T286 : State) (z285 : Int32), (Wk p l e room_1 s m #[(.int p1), (.long q2), (.int p3), (.int p4), (.int p5), (.int p6)] below meth c Z n0 x code maxLocals ret T286 2 24 h250) → (z285 = (if p5 = 0 then (0 : Int32) else (1 : Int32))) → Goes p e below (Done below s n0 room_1 (some (.int 1)) (fun _ => True)) T286 m 212 #[.val (.int p1), .val (.long q2), .second, .val (.int p3), .val (.int p4), .val (.int p5), .val (.int p6), .val (.int (1 : Int32)), .val (.int z159), .val (.int z160), .val (.int z161), .val (.int z162), .val (.ref a169), .val (.int (1 : Int32)), .val (.int z242), .unset, .unset, .unset, .unset, .unset] [(.int z285), (.int (f_one z278))] by
            refine w_if_eq X284 at_204 (by decide) (pcT := 211) (pcF := 207) (by decide) rfl (fun c289 => ?_) (fun c289 => ?_)
            · refine w_iconst X284 at_211 (v := (0 : Int32)) rfl rfl ?_
              exact j288 _ _ X284 (by rw [if_pos c289])
            · refine w_iconst X284 at_207 (v := (1 : Int32)) rfl rfl ?_
              refine w_goto X284 at_208 (by decide) (pc' := 212) (by decide) ?_
              exact j288 _ _ X284 (by rw [if_neg c289])
          intro T286 z285 X287 hz285
          refine w_staticVP X287 (rm7 l Z a0 hw z285 h250 n0 X287.size ) (hw _ (List.mem_of_getElem? (i := 38) rfl)) (hw _ (List.mem_of_getElem? (i := 39) rfl)) (hw _ (List.mem_of_getElem? (i := 40) rfl)) (hw _ (List.mem_of_getElem? (i := 41) rfl)) (by decide) (argsL := [(.int z285)]) (rest := [(.int (f_one z278))]) rfl (lenOf pd_8 rfl) rfl (W := 1) rfl (by decide) (by decide) (by decide) (by decide) at_212 rfl fun T290 X291 => ?_
          refine w_iadd X291 at_215 rfl ?_
          generalize hz292 : ((f_one z278) + (f_one z285)) = z292
          refine w_istore X291 at_216 rfl (L' := #[.val (.int p1), .val (.long q2), .second, .val (.int p3), .val (.int p4), .val (.int p5), .val (.int p6), .val (.int (1 : Int32)), .val (.int z159), .val (.int z160), .val (.int z161), .val (.int z162), .val (.ref a169), .val (.int (1 : Int32)), .val (.int z242), .val (.int z292), .unset, .unset, .unset, .unset]) rfl ?_
          refine w_goto X291 at_218 (by decide) (pc' := 257) (by decide) ?_
          exact j276 _ _ X291 (by subst hz292 hz285 hz278; rw [if_neg c277])
        · refine w_iload X251 at_166 rfl rfl ?_
          suffices j296 : ∀ (T294 : State) (z293 : Int32), (Wk p l e room_1 s m #[(.int p1), (.long q2), (.int p3), (.int p4), (.int p5), (.int p6)] below meth c Z n0 x code maxLocals ret T294 2 24 h250) → (z293 = (if p4 = 0 then (if p5 = 0 then (0 : Int32) else (1 : Int32)) else (1 : Int32))) → Goes p e below (Done below s n0 room_1 (some (.int 1)) (fun _ => True)) T294 m 181 #[.val (.int p1), .val (.long q2), .second, .val (.int p3), .val (.int p4), .val (.int p5), .val (.int p6), .val (.int (1 : Int32)), .val (.int z159), .val (.int z160), .val (.int z161), .val (.int z162), .val (.ref a169), .val (.int (1 : Int32)), .val (.int z242), .unset, .unset, .unset, .unset, .unset] [(.int z293)] by
            refine w_if_ne X251 at_168 (by decide) (pcT := 176) (pcF := 171) (by decide) rfl (fun c297 => ?_) (fun c297 => ?_)
            · refine w_iconst X251 at_176 (v := (1 : Int32)) rfl rfl ?_
              refine w_goto X251 at_177 (by decide) (pc' := 181) (by decide) ?_
              exact j296 _ _ X251 (by rw [if_neg c297])
            · refine w_iload X251 at_171 rfl rfl ?_
              refine w_if_eq X251 at_173 (by decide) (pcT := 180) (pcF := 176) (by decide) rfl (fun c298 => ?_) (fun c298 => ?_)
              · refine w_iconst X251 at_180 (v := (0 : Int32)) rfl rfl ?_
                exact j296 _ _ X251 (by rw [if_pos c297, if_pos c298])
              · refine w_iconst X251 at_176 (v := (1 : Int32)) rfl rfl ?_
                refine w_goto X251 at_177 (by decide) (pc' := 181) (by decide) ?_
                exact j296 _ _ X251 (by rw [if_pos c297, if_neg c298])
          intro T294 z293 X295 hz293
          refine w_staticVP X295 (rm7 l Z a0 hw z293 h250 n0 X295.size ) (hw _ (List.mem_of_getElem? (i := 38) rfl)) (hw _ (List.mem_of_getElem? (i := 39) rfl)) (hw _ (List.mem_of_getElem? (i := 40) rfl)) (hw _ (List.mem_of_getElem? (i := 41) rfl)) (by decide) (argsL := [(.int z293)]) (rest := []) rfl (lenOf pd_8 rfl) rfl (W := 0) rfl (by decide) (by decide) (by decide) (by decide) at_181 rfl fun T299 X300 => ?_
          generalize hz301 : (f_one z293) = z301
          refine w_istore X300 at_184 rfl (L' := #[.val (.int p1), .val (.long q2), .second, .val (.int p3), .val (.int p4), .val (.int p5), .val (.int p6), .val (.int (1 : Int32)), .val (.int z159), .val (.int z160), .val (.int z161), .val (.int z162), .val (.ref a169), .val (.int (1 : Int32)), .val (.int z242), .val (.int z301), .unset, .unset, .unset, .unset]) rfl ?_
          refine w_goto X300 at_186 (by decide) (pc' := 257) (by decide) ?_
          exact j276 _ _ X300 (by subst hz301 hz293; rw [if_pos c277])
      intro T274 z273 X275 hz273
      refine w_iload X275 at_257 rfl rfl ?_
      refine w_if_eq X275 at_259 (by decide) (pcT := 276) (pcF := 262) (by decide) rfl (fun c302 => absurd c302 (by decide)) (fun c302 => ?_)
      refine w_aload X275 at_262 rfl rfl rfl ?_
      refine w_virtualVP X275 (rm_sizeL l Z a0 hw a169 sl189 xs253 c254 sm255 lg256 z159  h250 n0 X275.size ⟨n260, n261, n262, n263, n264, n265, n266, n267, n268, n269⟩ ne203 gn171 g190 ) n260 (hw _ (List.mem_of_getElem? (i := 22) rfl)) (hw _ (List.mem_of_getElem? (i := 23) rfl)) (hw _ (List.mem_of_getElem? (i := 25) rfl)) (hw _ (List.mem_of_getElem? (i := 24) rfl)) (hw _ (List.mem_of_getElem? (i := 3) rfl)) (hw _ (List.mem_of_getElem? (i := 26) rfl)) (by decide) (argsL := []) (rest := []) rfl (lenOf pd_7 rfl) rfl (W := 0) rfl (by decide) (by decide) (by decide) (by decide) at_264 rfl fun T303 X305 => ?_
      refine w_iload X305 at_267 rfl rfl ?_
      refine w_icmp_ne X305 at_269 (by decide) (pcT := 276) (pcF := 272) (by decide) rfl (fun c307 => ?_) (fun c307 => ?_)
      · exact False.elim (c307 (by subst hz273 hz242 hz235; rw [hc258]; exact own_e12 p4 p5 p6 z160 z161 z162))
      · refine w_iconst X305 at_272 (v := (1 : Int32)) rfl rfl ?_
        refine w_goto X305 at_273 (by decide) (pc' := 277) (by decide) ?_
        refine w_istore X305 at_277 rfl (L' := #[.val (.int p1), .val (.long q2), .second, .val (.int p3), .val (.int p4), .val (.int p5), .val (.int p6), .val (.int (1 : Int32)), .val (.int z159), .val (.int z160), .val (.int z161), .val (.int z162), .val (.ref a169), .val (.int (1 : Int32)), .val (.int z242), .val (.int z273), .unset, .unset, .unset, .unset]) rfl ?_
        refine w_aload X305 at_279 rfl rfl rfl ?_
        refine w_iload X305 at_281 rfl rfl ?_
        refine w_iload X305 at_283 rfl rfl ?_
        refine w_virtual0 X305 (rm_putL l Z a0 hw a169 z162 p6 sl189 xs253 c254 sm255 lg256 z159 (nsP (nsP [] z160 p4) z161 p5) h250 n0 X305.size ⟨n260, n261, n262, n263, n264, n265, n266, n267, n268, n269⟩ ne203 gn171 g190 I257 hc258 (Nat.le_trans (Nat.le_trans (nsP_le _ _ _) (Nat.succ_le_succ (Nat.le_trans (nsP_le _ _ _) (Nat.succ_le_succ (Nat.le_refl 0))))) (by decide)) nd165.1) n260 (hw _ (List.mem_of_getElem? (i := 27) rfl)) (hw _ (List.mem_of_getElem? (i := 28) rfl)) (hw _ (List.mem_of_getElem? (i := 30) rfl)) (hw _ (List.mem_of_getElem? (i := 29) rfl)) (hw _ (List.mem_of_getElem? (i := 3) rfl)) (hw _ (List.mem_of_getElem? (i := 31) rfl)) (by decide) (argsL := [(.int z162), (.int p6)]) (rest := []) rfl (lenOf pd_6 rfl) rfl (W := 0) rfl (by decide) (by decide) (by decide) (by decide) at_285 rfl fun T308 h309 X310 q311 => ?_
        obtain ⟨xs312, c313, sm314, lg315, I316, hc317, K318, n319, n320, n321, n322, n323, n324, n325, n326, n327, n328⟩ := q311
        have f329 : Exa Z h309 a169 "com/example/driftwalk/driftwalk/graph/NodeTable" := n260.keep K318
        have k330 : Keep h0 h309 [] := k271.trans K318 (allS (Or.inr g0175) (allS (Or.inr g0204) all0))
        refine w_iload X310 at_288 rfl rfl ?_
        refine w_if_eq X310 at_290 (by decide) (pcT := 424) (pcF := 293) (by decide) rfl (fun c331 => absurd c331 (by decide)) (fun c331 => ?_)
        refine w_iload X310 at_293 rfl rfl ?_
        suffices j335 : ∀ (T333 : State) (z332 : Int32), (Wk p l e room_1 s m #[(.int p1), (.long q2), (.int p3), (.int p4), (.int p5), (.int p6)] below meth c Z n0 x code maxLocals ret T333 2 24 h309) → (z332 = (if p4 = 0 then (if z161 = z160 then (if p5 = 0 then (if z162 = z160 then (if p6 = 0 then (0 : Int32) else (1 : Int32)) else (0 : Int32)) else (1 : Int32)) else (if z162 = z160 then (if p6 = 0 then (0 : Int32) else (1 : Int32)) else (0 : Int32))) else (1 : Int32))) → Goes p e below (Done below s n0 room_1 (some (.int 1)) (fun _ => True)) T333 m 327 #[.val (.int p1), .val (.long q2), .second, .val (.int p3), .val (.int p4), .val (.int p5), .val (.int p6), .val (.int (1 : Int32)), .val (.int z159), .val (.int z160), .val (.int z161), .val (.int z162), .val (.ref a169), .val (.int (1 : Int32)), .val (.int z242), .val (.int z273), .unset, .unset, .unset, .unset] [(.int z332)] by
          refine w_if_ne X310 at_295 (by decide) (pcT := 322) (pcF := 298) (by decide) rfl (fun c336 => ?_) (fun c336 => ?_)
          · refine w_iconst X310 at_322 (v := (1 : Int32)) rfl rfl ?_
            refine w_goto X310 at_323 (by decide) (pc' := 327) (by decide) ?_
            exact j335 _ _ X310 (by rw [if_neg c336])
          · refine w_iload X310 at_298 rfl rfl ?_
            refine w_iload X310 at_300 rfl rfl ?_
            refine w_icmp_ne X310 at_302 (by decide) (pcT := 310) (pcF := 305) (by decide) rfl (fun c337 => ?_) (fun c337 => ?_)
            · refine w_iload X310 at_310 rfl rfl ?_
              refine w_iload X310 at_312 rfl rfl ?_
              refine w_icmp_ne X310 at_314 (by decide) (pcT := 326) (pcF := 317) (by decide) rfl (fun c338 => ?_) (fun c338 => ?_)
              · refine w_iconst X310 at_326 (v := (0 : Int32)) rfl rfl ?_
                exact j335 _ _ X310 (by rw [if_pos c336, if_neg c337, if_neg c338])
              · refine w_iload X310 at_317 rfl rfl ?_
                refine w_if_eq X310 at_319 (by decide) (pcT := 326) (pcF := 322) (by decide) rfl (fun c339 => ?_) (fun c339 => ?_)
                · refine w_iconst X310 at_326 (v := (0 : Int32)) rfl rfl ?_
                  exact j335 _ _ X310 (by rw [if_pos c336, if_neg c337, if_pos c338, if_pos c339])
                · refine w_iconst X310 at_322 (v := (1 : Int32)) rfl rfl ?_
                  refine w_goto X310 at_323 (by decide) (pc' := 327) (by decide) ?_
                  exact j335 _ _ X310 (by rw [if_pos c336, if_neg c337, if_pos c338, if_neg c339])
            · refine w_iload X310 at_305 rfl rfl ?_
              refine w_if_ne X310 at_307 (by decide) (pcT := 322) (pcF := 310) (by decide) rfl (fun c340 => ?_) (fun c340 => ?_)
              · refine w_iconst X310 at_322 (v := (1 : Int32)) rfl rfl ?_
                refine w_goto X310 at_323 (by decide) (pc' := 327) (by decide) ?_
                exact j335 _ _ X310 (by rw [if_pos c336, if_pos c337, if_neg c340])
              · refine w_iload X310 at_310 rfl rfl ?_
                refine w_iload X310 at_312 rfl rfl ?_
                refine w_icmp_ne X310 at_314 (by decide) (pcT := 326) (pcF := 317) (by decide) rfl (fun c341 => ?_) (fun c341 => ?_)
                · refine w_iconst X310 at_326 (v := (0 : Int32)) rfl rfl ?_
                  exact j335 _ _ X310 (by rw [if_pos c336, if_pos c337, if_pos c340, if_neg c341])
                · refine w_iload X310 at_317 rfl rfl ?_
                  refine w_if_eq X310 at_319 (by decide) (pcT := 326) (pcF := 322) (by decide) rfl (fun c342 => ?_) (fun c342 => ?_)
                  · refine w_iconst X310 at_326 (v := (0 : Int32)) rfl rfl ?_
                    exact j335 _ _ X310 (by rw [if_pos c336, if_pos c337, if_pos c340, if_pos c341, if_pos c342])
                  · refine w_iconst X310 at_322 (v := (1 : Int32)) rfl rfl ?_
                    refine w_goto X310 at_323 (by decide) (pc' := 327) (by decide) ?_
                    exact j335 _ _ X310 (by rw [if_pos c336, if_pos c337, if_pos c340, if_pos c341, if_neg c342])
        intro T333 z332 X334 hz332
        refine w_istore X334 at_327 rfl (L' := #[.val (.int p1), .val (.long q2), .second, .val (.int p3), .val (.int p4), .val (.int p5), .val (.int p6), .val (.int (1 : Int32)), .val (.int z159), .val (.int z160), .val (.int z161), .val (.int z162), .val (.ref a169), .val (.int (1 : Int32)), .val (.int z242), .val (.int z273), .unset, .val (.int z332), .unset, .unset]) rfl ?_
        refine w_iload X334 at_329 rfl rfl ?_
        suffices j346 : ∀ (T344 : State) (z343 : Int32), (Wk p l e room_1 s m #[(.int p1), (.long q2), (.int p3), (.int p4), (.int p5), (.int p6)] below meth c Z n0 x code maxLocals ret T344 2 24 h309) → (z343 = (if p5 = 0 then (if z162 = z161 then (if p6 = 0 then (0 : Int32) else (1 : Int32)) else (0 : Int32)) else (1 : Int32))) → Goes p e below (Done below s n0 room_1 (some (.int 1)) (fun _ => True)) T344 m 351 #[.val (.int p1), .val (.long q2), .second, .val (.int p3), .val (.int p4), .val (.int p5), .val (.int p6), .val (.int (1 : Int32)), .val (.int z159), .val (.int z160), .val (.int z161), .val (.int z162), .val (.ref a169), .val (.int (1 : Int32)), .val (.int z242), .val (.int z273), .unset, .val (.int z332), .unset, .unset] [(.int z343)] by
          refine w_if_ne X334 at_331 (by decide) (pcT := 346) (pcF := 334) (by decide) rfl (fun c347 => ?_) (fun c347 => ?_)
          · refine w_iconst X334 at_346 (v := (1 : Int32)) rfl rfl ?_
            refine w_goto X334 at_347 (by decide) (pc' := 351) (by decide) ?_
            exact j346 _ _ X334 (by rw [if_neg c347])
          · refine w_iload X334 at_334 rfl rfl ?_
            refine w_iload X334 at_336 rfl rfl ?_
            refine w_icmp_ne X334 at_338 (by decide) (pcT := 350) (pcF := 341) (by decide) rfl (fun c348 => ?_) (fun c348 => ?_)
            · refine w_iconst X334 at_350 (v := (0 : Int32)) rfl rfl ?_
              exact j346 _ _ X334 (by rw [if_pos c347, if_neg c348])
            · refine w_iload X334 at_341 rfl rfl ?_
              refine w_if_eq X334 at_343 (by decide) (pcT := 350) (pcF := 346) (by decide) rfl (fun c349 => ?_) (fun c349 => ?_)
              · refine w_iconst X334 at_350 (v := (0 : Int32)) rfl rfl ?_
                exact j346 _ _ X334 (by rw [if_pos c347, if_pos c348, if_pos c349])
              · refine w_iconst X334 at_346 (v := (1 : Int32)) rfl rfl ?_
                refine w_goto X334 at_347 (by decide) (pc' := 351) (by decide) ?_
                exact j346 _ _ X334 (by rw [if_pos c347, if_pos c348, if_neg c349])
        intro T344 z343 X345 hz343
        refine w_istore X345 at_351 rfl (L' := #[.val (.int p1), .val (.long q2), .second, .val (.int p3), .val (.int p4), .val (.int p5), .val (.int p6), .val (.int (1 : Int32)), .val (.int z159), .val (.int z160), .val (.int z161), .val (.int z162), .val (.ref a169), .val (.int (1 : Int32)), .val (.int z242), .val (.int z273), .unset, .val (.int z332), .val (.int z343), .unset]) rfl ?_
        refine w_iload X345 at_353 rfl rfl ?_
        suffices j353 : ∀ (T351 : State) (z350 : Int32), (Wk p l e room_1 s m #[(.int p1), (.long q2), (.int p3), (.int p4), (.int p5), (.int p6)] below meth c Z n0 x code maxLocals ret T351 2 24 h309) → (z350 = (if p6 = 0 then (0 : Int32) else (1 : Int32))) → Goes p e below (Done below s n0 room_1 (some (.int 1)) (fun _ => True)) T351 m 363 #[.val (.int p1), .val (.long q2), .second, .val (.int p3), .val (.int p4), .val (.int p5), .val (.int p6), .val (.int (1 : Int32)), .val (.int z159), .val (.int z160), .val (.int z161), .val (.int z162), .val (.ref a169), .val (.int (1 : Int32)), .val (.int z242), .val (.int z273), .unset, .val (.int z332), .val (.int z343), .unset] [(.int z350)] by
          refine w_if_eq X345 at_355 (by decide) (pcT := 362) (pcF := 358) (by decide) rfl (fun c354 => ?_) (fun c354 => ?_)
          · refine w_iconst X345 at_362 (v := (0 : Int32)) rfl rfl ?_
            exact j353 _ _ X345 (by rw [if_pos c354])
          · refine w_iconst X345 at_358 (v := (1 : Int32)) rfl rfl ?_
            refine w_goto X345 at_359 (by decide) (pc' := 363) (by decide) ?_
            exact j353 _ _ X345 (by rw [if_neg c354])
        intro T351 z350 X352 hz350
        refine w_istore X352 at_363 rfl (L' := #[.val (.int p1), .val (.long q2), .second, .val (.int p3), .val (.int p4), .val (.int p5), .val (.int p6), .val (.int (1 : Int32)), .val (.int z159), .val (.int z160), .val (.int z161), .val (.int z162), .val (.ref a169), .val (.int (1 : Int32)), .val (.int z242), .val (.int z273), .unset, .val (.int z332), .val (.int z343), .val (.int z350)]) rfl ?_
        refine w_iload X352 at_365 rfl rfl ?_
        refine w_staticVP X352 (rm7 l Z a0 hw z332 h309 n0 X352.size ) (hw _ (List.mem_of_getElem? (i := 38) rfl)) (hw _ (List.mem_of_getElem? (i := 39) rfl)) (hw _ (List.mem_of_getElem? (i := 40) rfl)) (hw _ (List.mem_of_getElem? (i := 41) rfl)) (by decide) (argsL := [(.int z332)]) (rest := []) rfl (lenOf pd_8 rfl) rfl (W := 0) rfl (by decide) (by decide) (by decide) (by decide) at_367 rfl fun T355 X356 => ?_
        refine w_iload X356 at_370 rfl rfl ?_
        refine w_iload X356 at_372 rfl rfl ?_
        suffices j360 : ∀ (T358 : State) (z357 : Int32), (Wk p l e room_1 s m #[(.int p1), (.long q2), (.int p3), (.int p4), (.int p5), (.int p6)] below meth c Z n0 x code maxLocals ret T358 2 24 h309) → (z357 = (if z161 = z160 then (0 : Int32) else (if z343 = 0 then (0 : Int32) else (1 : Int32)))) → Goes p e below (Done below s n0 room_1 (some (.int 1)) (fun _ => True)) T358 m 387 #[.val (.int p1), .val (.long q2), .second, .val (.int p3), .val (.int p4), .val (.int p5), .val (.int p6), .val (.int (1 : Int32)), .val (.int z159), .val (.int z160), .val (.int z161), .val (.int z162), .val (.ref a169), .val (.int (1 : Int32)), .val (.int z242), .val (.int z273), .unset, .val (.int z332), .val (.int z343), .val (.int z350)] [(.int z357), (.int (f_one z332))] by
          refine w_icmp_eq X356 at_374 (by decide) (pcT := 386) (pcF := 377) (by decide) rfl (fun c361 => ?_) (fun c361 => ?_)
          · refine w_iconst X356 at_386 (v := (0 : Int32)) rfl rfl ?_
            exact j360 _ _ X356 (by rw [if_pos c361])
          · refine w_iload X356 at_377 rfl rfl ?_
            refine w_if_eq X356 at_379 (by decide) (pcT := 386) (pcF := 382) (by decide) rfl (fun c362 => ?_) (fun c362 => ?_)
            · refine w_iconst X356 at_386 (v := (0 : Int32)) rfl rfl ?_
              exact j360 _ _ X356 (by rw [if_neg c361, if_pos c362])
            · refine w_iconst X356 at_382 (v := (1 : Int32)) rfl rfl ?_
              refine w_goto X356 at_383 (by decide) (pc' := 387) (by decide) ?_
              exact j360 _ _ X356 (by rw [if_neg c361, if_neg c362])
        intro T358 z357 X359 hz357
        refine w_staticVP X359 (rm7 l Z a0 hw z357 h309 n0 X359.size ) (hw _ (List.mem_of_getElem? (i := 38) rfl)) (hw _ (List.mem_of_getElem? (i := 39) rfl)) (hw _ (List.mem_of_getElem? (i := 40) rfl)) (hw _ (List.mem_of_getElem? (i := 41) rfl)) (by decide) (argsL := [(.int z357)]) (rest := [(.int (f_one z332))]) rfl (lenOf pd_8 rfl) rfl (W := 1) rfl (by decide) (by decide) (by decide) (by decide) at_387 rfl fun T363 X364 => ?_
        refine w_iadd X364 at_390 rfl ?_
        refine w_iload X364 at_391 rfl rfl ?_
        refine w_iload X364 at_393 rfl rfl ?_
        suffices j368 : ∀ (T366 : State) (z365 : Int32), (Wk p l e room_1 s m #[(.int p1), (.long q2), (.int p3), (.int p4), (.int p5), (.int p6)] below meth c Z n0 x code maxLocals ret T366 2 24 h309) → (z365 = (if z162 = z160 then (0 : Int32) else (if z162 = z161 then (0 : Int32) else (if z350 = 0 then (0 : Int32) else (1 : Int32))))) → Goes p e below (Done below s n0 room_1 (some (.int 1)) (fun _ => True)) T366 m 415 #[.val (.int p1), .val (.long q2), .second, .val (.int p3), .val (.int p4), .val (.int p5), .val (.int p6), .val (.int (1 : Int32)), .val (.int z159), .val (.int z160), .val (.int z161), .val (.int z162), .val (.ref a169), .val (.int (1 : Int32)), .val (.int z242), .val (.int z273), .unset, .val (.int z332), .val (.int z343), .val (.int z350)] [(.int z365), (.int ((f_one z332) + (f_one z357)))] by
          refine w_icmp_eq X364 at_395 (by decide) (pcT := 414) (pcF := 398) (by decide) rfl (fun c369 => ?_) (fun c369 => ?_)
          · refine w_iconst X364 at_414 (v := (0 : Int32)) rfl rfl ?_
            exact j368 _ _ X364 (by rw [if_pos c369])
          · refine w_iload X364 at_398 rfl rfl ?_
            refine w_iload X364 at_400 rfl rfl ?_
            refine w_icmp_eq X364 at_402 (by decide) (pcT := 414) (pcF := 405) (by decide) rfl (fun c370 => ?_) (fun c370 => ?_)
            · refine w_iconst X364 at_414 (v := (0 : Int32)) rfl rfl ?_
              exact j368 _ _ X364 (by rw [if_neg c369, if_pos c370])
            · refine w_iload X364 at_405 rfl rfl ?_
              refine w_if_eq X364 at_407 (by decide) (pcT := 414) (pcF := 410) (by decide) rfl (fun c371 => ?_) (fun c371 => ?_)
              · refine w_iconst X364 at_414 (v := (0 : Int32)) rfl rfl ?_
                exact j368 _ _ X364 (by rw [if_neg c369, if_neg c370, if_pos c371])
              · refine w_iconst X364 at_410 (v := (1 : Int32)) rfl rfl ?_
                refine w_goto X364 at_411 (by decide) (pc' := 415) (by decide) ?_
                exact j368 _ _ X364 (by rw [if_neg c369, if_neg c370, if_neg c371])
        intro T366 z365 X367 hz365
        refine w_staticVP X367 (rm7 l Z a0 hw z365 h309 n0 X367.size ) (hw _ (List.mem_of_getElem? (i := 38) rfl)) (hw _ (List.mem_of_getElem? (i := 39) rfl)) (hw _ (List.mem_of_getElem? (i := 40) rfl)) (hw _ (List.mem_of_getElem? (i := 41) rfl)) (by decide) (argsL := [(.int z365)]) (rest := [(.int ((f_one z332) + (f_one z357)))]) rfl (lenOf pd_8 rfl) rfl (W := 1) rfl (by decide) (by decide) (by decide) (by decide) at_415 rfl fun T372 X373 => ?_
        refine w_iadd X373 at_418 rfl ?_
        generalize hz374 : (((f_one z332) + (f_one z357)) + (f_one z365)) = z374
        refine w_istore X373 at_419 rfl (L' := #[.val (.int p1), .val (.long q2), .second, .val (.int p3), .val (.int p4), .val (.int p5), .val (.int p6), .val (.int (1 : Int32)), .val (.int z159), .val (.int z160), .val (.int z161), .val (.int z162), .val (.ref a169), .val (.int (1 : Int32)), .val (.int z242), .val (.int z273), .val (.int z374), .val (.int z332), .val (.int z343), .val (.int z350)]) rfl ?_
        refine w_goto X373 at_421 (by decide) (pc' := 488) (by decide) ?_
        refine w_iload X373 at_488 rfl rfl ?_
        refine w_if_eq X373 at_490 (by decide) (pcT := 507) (pcF := 493) (by decide) rfl (fun c375 => absurd c375 (by decide)) (fun c375 => ?_)
        refine w_aload X373 at_493 rfl rfl rfl ?_
        refine w_virtualVP X373 (rm_sizeL l Z a0 hw a169 sl189 xs312 c313 sm314 lg315 z159  h309 n0 X373.size ⟨n319, n320, n321, n322, n323, n324, n325, n326, n327, n328⟩ ne203 gn171 g190 ) n319 (hw _ (List.mem_of_getElem? (i := 22) rfl)) (hw _ (List.mem_of_getElem? (i := 23) rfl)) (hw _ (List.mem_of_getElem? (i := 25) rfl)) (hw _ (List.mem_of_getElem? (i := 24) rfl)) (hw _ (List.mem_of_getElem? (i := 3) rfl)) (hw _ (List.mem_of_getElem? (i := 26) rfl)) (by decide) (argsL := []) (rest := []) rfl (lenOf pd_7 rfl) rfl (W := 0) rfl (by decide) (by decide) (by decide) (by decide) at_495 rfl fun T376 X378 => ?_
        refine w_iload X378 at_498 rfl rfl ?_
        refine w_icmp_ne X378 at_500 (by decide) (pcT := 507) (pcF := 503) (by decide) rfl (fun c380 => ?_) (fun c380 => ?_)
        · exact False.elim (c380 (by subst hz374 hz365 hz357 hz350 hz343 hz332 hz273 hz242 hz235; rw [hc317]; exact own_e13 p4 p5 p6 z160 z161 z162))
        · refine w_iconst X378 at_503 (v := (1 : Int32)) rfl rfl ?_
          refine w_goto X378 at_504 (by decide) (pc' := 508) (by decide) ?_
          refine w_istore X378 at_508 rfl (L' := #[.val (.int p1), .val (.long q2), .second, .val (.int p3), .val (.int p4), .val (.int p5), .val (.int p6), .val (.int (1 : Int32)), .val (.int z159), .val (.int z160), .val (.int z161), .val (.int z162), .val (.ref a169), .val (.int (1 : Int32)), .val (.int z242), .val (.int z273), .val (.int z374), .val (.int z332), .val (.int z343), .val (.int z350)]) rfl ?_
          refine w_iload X378 at_510 rfl rfl ?_
          exact w_nreturn X378 (t := .boolean) (by simp) at_512 rfl trivial (by decide) (by decide)
set_option maxRecDepth 65536 in
set_option maxHeartbeats 4000000 in
theorem comes_1 {Post : Tables → Env → Array Value → State → Outcome → State → Prop} (hpost : ∀ tb e args s v u, (limb_1_1.after args s (.returned v) u = true ∧ limb_1_2.after args s (.returned v) u = true ∧ True) → FrameEnd s (.returned v) u (Jvm.fieldLocs frame_1_writes args s ++ Jvm.arrayLocs frame_1_arrays args s ++ Jvm.staticLocs frame_1_statics s) 16 128 → Post tb e args s (.returned v) u) :
    ArmFor flags0 classFile x code maxLocals ret World_1 tables_1 room_1 Calls_1 rest_1 Pre_1 Post := by
  intro l hfl _ _ p e ha hc hk s m args below hf hA hF happ hP
  obtain ⟨hcalls, hrest, hpre⟩ := hP
  obtain ⟨-, -, -, hnamed, -, -, -, hat⟩ := (Spec.applies_iff hf).mp happ
  obtain ⟨hg, hn⟩ := and_e (Cond.before_iff.mp (show (Jvm.Cond.and given_1 narrow_1).before args s = true from hpre))
  obtain ⟨gc, hg⟩ := and_e hg
  obtain ⟨g0, hg⟩ := and_e hg
  obtain ⟨g1, hg⟩ := and_e hg
  obtain ⟨g2, hg⟩ := and_e hg
  obtain ⟨g3, hg⟩ := and_e hg
  obtain ⟨g4, hg⟩ := and_e hg
  have g5 := hg
  obtain ⟨w0, w1, w2, w3, w4, w5, rfl⟩ : ∃ w0 w1 w2 w3 w4 w5 : Value, args = #[w0, w1, w2, w3, w4, w5] := by
    have hs : args.size = 6 := by simpa [Cond.value, given_1] using gc
    obtain ⟨L⟩ := args
    match L, hs with
    | [w0, w1, w2, w3, w4, w5], _ => exact ⟨w0, w1, w2, w3, w4, w5, rfl⟩
  have hw := fun d (hd : d ∈ tables_1) => atoms_spec (ws := Jvm.Cond.code x code maxLocals ret :: tables_1) hat d (List.mem_cons_of_mem _ hd)
  obtain ⟨i0, ei0⟩ := is_v g0
  obtain rfl : w0 = (.int i0) := Option.some.inj ei0
  obtain ⟨i1, ei1⟩ := isL_v g1
  obtain rfl : w1 = (.long i1) := Option.some.inj ei1
  obtain ⟨i2, ei2⟩ := is_v g2
  obtain rfl : w2 = (.int i2) := Option.some.inj ei2
  obtain ⟨i3, ei3⟩ := is_v g3
  obtain rfl : w3 = (.int i3) := Option.some.inj ei3
  obtain ⟨i4, ei4⟩ := is_v g4
  obtain rfl : w4 = (.int i4) := Option.some.inj ei4
  obtain ⟨i5, ei5⟩ := is_v g5
  obtain rfl : w5 = (.int i5) := Option.some.inj ei5
  obtain ⟨n, o, h1, h2, h3, _, L, rfl, ⟨rfl, -, N, -⟩, hq⟩ := rm0 l s _ hw i0 i1 i2 i3 i4 i5 s.heap s.heap.size (Nat.le_refl _) tables_1 p e ha hc hk s m _ below hf ((Spec.applies_iff_loose hf).mp happ).1 ⟨rfl, State.Warmed39.refl s, rfl⟩ trivial
  refine ⟨n, _, h1, h2, h3, hpost _ _ _ _ _ _ ⟨Cond.after_iff.mpr rfl, Cond.after_iff.mpr (eq_i res_at (Term.int_eval (1)) rfl), trivial⟩ ⟨hq.1, hq.2.1, (hq.2.2.sift fun y hy => Or.inr (N y hy)).mono (by decide) (by decide)⟩⟩
theorem main_1_1 : Claimed_1_1 := comes_1 fun _ _ _ _ _ _ h hF => ⟨h.1, hF⟩
theorem main_1_2 : Claimed_1_2 := comes_1 fun _ _ _ _ _ _ h hF => ⟨h.2.1, hF⟩
end Jvm.Pilot.@@N@@
namespace Jvm.Pilot.@@N@@
open Jvm Jvm.ClassFile Sem Op Lib Jvm.Free Jvm.Stand Jvm.Pilot.@@N@@.Jvm.D
/-! MADE BY PROGRAM (witnessworld.py) out of the Statement's table words and the real class files: 18 classes; the members and pool entries that the words name. The judged class is class 1, her method 2. -/
namespace start1
open Jvm.ClassFile
def u (s : String) : CpInfo := .utf8 (stringToUtf16 s)
/-- a pool by its gaps: so many unusable entries, then the entry; so many at the end -/
def gap : Nat → List CpInfo → List CpInfo
  | 0, r => r
  | n + 1, r => .unusable :: gap n r
def poolList (es : List (Nat × CpInfo)) (last : Nat) : List CpInfo := es.foldr (fun e r => gap e.1 (e.2 :: r)) (gap last [])
def pool (es : List (Nat × CpInfo)) (last : Nat) : Array CpInfo := ⟨poolList es last⟩
def fileOf (pool : Array CpInfo) (this : Nat) (attrs : Array Attribute := #[]) (ms : Array MethodInfo := #[]) (fl : Nat := 33) (sup : Nat := 0) (ifs : Array Nat := #[]) (fds : Array FieldInfo := #[]) : ClassFile where
  minorVersion := 0
  majorVersion := 65
  constantPool := pool
  accessFlags := fl
  thisClass := this
  superClass := sup
  interfaces := ifs
  fields := fds
  methods := ms
  attributes := attrs
def plain (name : String) (sup : Option ClassId) : Class where
  name := name
  kind := .ordinary
  loader := none
  accessFlags := 33
  super := sup
  interfaces := #[]
  cf := none
  fields := #[]
  methods := #[]
  instanceTypes := #[]
  staticTypes := #[]
  resolved := #[]
  callSites := []
  init := .initialized
  statics := none
  mirror := none

def pool0 : Array CpInfo := pool [(5, u "<init>"), (0, u "()V"), (1, .class_ 10), (1, u "java/lang/Object")] 113

def k0c0 : Code := { maxStack := 0, maxLocals := 1, code := object_method_1_code, exceptionTable := #[], attributes := #[] }
def k0m0 : Method := { name := "<init>", desc := "()V", sig := { parameters := [], returnType := none }, accessFlags := 1, code := some k0c0 }
/-- java/lang/Object -/
def k0 : Class := { plain "java/lang/Object" none with
  accessFlags := 33
  interfaces := #[]
  cf := some (fileOf pool0 8 #[] #[{ accessFlags := 1, nameIndex := 5, descriptorIndex := 6, attributes := #[] }] 33 0 #[] #[])
  fields := #[]
  methods := #[k0m0]
  instanceTypes := #[]
  staticTypes := #[]
  resolved := Array.replicate 124 none
  statics := none }

def pool1 : Array CpInfo := pool [(2, .class_ 4), (1, u "java/lang/Object"), (0, u "<init>"), (0, u "()V"), (0, .integer 1073741823), (0, .integer 2147483647), (0, .class_ 10), (0, u "com/example/driftwalk/driftwalk/graph/NodeTable"), (0, .methodref 9 12), (0, .nameAndType 5 13), (0, u "(I)V"), (0, .methodref 9 15), (0, .nameAndType 16 17), (0, u "size"), (0, u "()I"), (0, .methodref 9 19), (0, .nameAndType 20 21), (0, u "put"), (0, u "(II)V"), (0, .methodref 23 24), (0, .class_ 25), (0, .nameAndType 26 27), (0, u "com/example/driftwalk/driftwalk/graph/NodeTableSizePinLaw"), (0, u "one"), (0, u "(Z)I"), (3, u "law"), (0, u "(IJIIII)Z")] 2

def k1m0 : Method := { name := "<init>", desc := "()V", sig := { parameters := [], returnType := none }, accessFlags := 1, code := none }
def k1c1 : Code := { maxStack := 1, maxLocals := 1, code := method_2_code, exceptionTable := #[], attributes := #[] }
def k1m1 : Method := { name := "one", desc := "(Z)I", sig := { parameters := [.boolean], returnType := some .int }, accessFlags := 10, code := some k1c1 }
def k1c2 : Code := { maxStack := 3, maxLocals := 20, code := code, exceptionTable := #[], attributes := #[] }
def k1m2 : Method := { name := "law", desc := "(IJIIII)Z", sig := { parameters := [.int, .long, .int, .int, .int, .int], returnType := some .boolean }, accessFlags := 9, code := some k1c2 }
/-- com/example/driftwalk/driftwalk/graph/NodeTableSizePinLaw -/
def k1 : Class := { plain "com/example/driftwalk/driftwalk/graph/NodeTableSizePinLaw" (some 0) with
  accessFlags := 49
  interfaces := #[]
  cf := some (fileOf pool1 23 #[] #[{ accessFlags := 1, nameIndex := 5, descriptorIndex := 6, attributes := #[] }, { accessFlags := 10, nameIndex := 26, descriptorIndex := 27, attributes := #[] }, { accessFlags := 9, nameIndex := 31, descriptorIndex := 32, attributes := #[] }] 49 2 #[] #[])
  fields := #[]
  methods := #[k1m0, k1m1, k1m2]
  instanceTypes := #[]
  staticTypes := #[]
  resolved := Array.replicate 35 none
  statics := none }

def pool2 : Array CpInfo := pool [(1, .class_ 2), (0, u "java/lang/Integer"), (2, .class_ 7), (1, u "com/example/driftwalk/driftwalk/graph/NodeTable"), (0, u "<init>"), (0, u "(I)V"), (0, .methodref 11 12), (0, .class_ 13), (0, .nameAndType 8 14), (0, u "java/lang/Object"), (0, u "()V"), (0, .fieldref 5 16), (0, .nameAndType 17 18), (0, u "largest"), (0, u "I"), (0, .fieldref 5 20), (0, .nameAndType 21 18), (0, u "bound"), (0, .methodref 5 23), (0, .nameAndType 24 25), (0, u "isSmall"), (0, u "(I)Z"), (0, .fieldref 5 27), (0, .nameAndType 28 29), (0, u "values"), (0, u "[I"), (0, .methodref 5 31), (0, .nameAndType 32 9), (0, u "clear"), (0, .methodref 5 34), (0, .nameAndType 35 36), (0, u "at"), (0, u "(I)I"), (0, .methodref 5 38), (0, .nameAndType 39 36), (0, u "find"), (0, .methodref 5 41), (0, .nameAndType 42 36), (0, u "valueIn"), (0, .methodref 5 44), (0, .nameAndType 45 46), (0, u "putOutside"), (0, u "(II)V"), (3, .methodref 5 51), (0, .nameAndType 52 46), (0, u "put"), (0, .methodref 5 54), (0, .nameAndType 55 56), (0, u "setIn"), (0, u "(III)V"), (3, u "(II)I"), (0, .fieldref 5 62), (0, .nameAndType 63 64), (0, u "slots"), (0, u "[J"), (0, .long 18446744073709551615), (7, .fieldref 5 74), (0, .nameAndType 75 18), (0, u "base"), (0, .methodref 5 77), (0, .nameAndType 78 56), (0, u "take"), (0, .long 18446744069414584320), (1, .long 4294967295), (1, .fieldref 5 84), (0, .nameAndType 85 18), (0, u "size"), (0, .fieldref 5 87), (0, .nameAndType 88 18), (0, u "mask"), (1, .class_ 92), (1, u "java/util/Arrays"), (0, u "fill"), (1, .methodref 90 96), (0, .nameAndType 93 97), (0, u "([JIIJ)V"), (0, .methodref 5 99), (0, .nameAndType 100 36), (0, u "slotsFor"), (3, .methodref 5 105), (0, .nameAndType 106 60), (0, u "home"), (0, .fieldref 5 108), (0, .nameAndType 109 18), (0, u "smallest"), (0, .methodref 111 112), (0, .class_ 113), (0, .nameAndType 114 60), (0, u "java/lang/Math"), (0, u "min"), (0, .methodref 111 116), (0, .nameAndType 117 60), (0, u "max"), (0, .long 2), (15, u "()I"), (13, .long 4), (1, .long 65536), (14, .long 1073741824), (8, .methodref 1 175), (0, .nameAndType 176 36), (0, u "highestOneBit"), (0, .integer 2654435769), (0, .methodref 1 179), (0, .nameAndType 180 36), (0, u "numberOfLeadingZeros"), (0, u "MAX_SLOTS"), (2, u "MIN_SLOTS"), (1, u "FREE"), (0, u "J"), (0, u "NODE_BITS"), (0, u "SMALL_ARRAY_BYTES"), (1, u "MOST_ARRAY_BYTES"), (1, u "SLOTS_TO_ARRAY")] 15

def k2m0 : Method := { name := "<init>", desc := "()V", sig := { parameters := [], returnType := none }, accessFlags := 1, code := none }
def k2c1 : Code := { maxStack := 2, maxLocals := 2, code := prog_79_method_2_code, exceptionTable := #[], attributes := #[] }
def k2m1 : Method := { name := "<init>", desc := "(I)V", sig := { parameters := [.int], returnType := none }, accessFlags := 1, code := some k2c1 }
def k2c2 : Code := { maxStack := 3, maxLocals := 4, code := prog_79_method_4_code, exceptionTable := #[], attributes := #[] }
def k2m2 : Method := { name := "put", desc := "(II)V", sig := { parameters := [.int, .int], returnType := none }, accessFlags := 1, code := some k2c2 }
def k2c3 : Code := { maxStack := 4, maxLocals := 4, code := prog_79_method_5_code, exceptionTable := #[], attributes := #[] }
def k2m3 : Method := { name := "putOutside", desc := "(II)V", sig := { parameters := [.int, .int], returnType := none }, accessFlags := 2, code := some k2c3 }
def k2c4 : Code := { maxStack := 2, maxLocals := 4, code := prog_79_method_12_code, exceptionTable := #[], attributes := #[] }
def k2m4 : Method := { name := "at", desc := "(I)I", sig := { parameters := [.int], returnType := some .int }, accessFlags := 2, code := some k2c4 }
def k2c5 : Code := { maxStack := 4, maxLocals := 4, code := prog_79_method_13_code, exceptionTable := #[], attributes := #[] }
def k2m5 : Method := { name := "valueIn", desc := "(I)I", sig := { parameters := [.int], returnType := some .int }, accessFlags := 2, code := some k2c5 }
def k2c6 : Code := { maxStack := 8, maxLocals := 4, code := prog_79_method_14_code, exceptionTable := #[], attributes := #[] }
def k2m6 : Method := { name := "setIn", desc := "(III)V", sig := { parameters := [.int, .int, .int], returnType := none }, accessFlags := 2, code := some k2c6 }
def k2c7 : Code := { maxStack := 2, maxLocals := 6, code := prog_79_method_15_code, exceptionTable := #[], attributes := #[] }
def k2m7 : Method := { name := "size", desc := "()I", sig := { parameters := [], returnType := some .int }, accessFlags := 1, code := some k2c7 }
def k2c8 : Code := { maxStack := 5, maxLocals := 3, code := prog_79_method_20_code, exceptionTable := #[], attributes := #[] }
def k2m8 : Method := { name := "clear", desc := "(I)V", sig := { parameters := [.int], returnType := none }, accessFlags := 1, code := some k2c8 }
def k2c9 : Code := { maxStack := 4, maxLocals := 5, code := prog_79_method_22_code, exceptionTable := #[], attributes := #[] }
def k2m9 : Method := { name := "find", desc := "(I)I", sig := { parameters := [.int], returnType := some .int }, accessFlags := 2, code := some k2c9 }
def k2c10 : Code := { maxStack := 8, maxLocals := 5, code := prog_79_method_23_code, exceptionTable := #[], attributes := #[] }
def k2m10 : Method := { name := "take", desc := "(III)V", sig := { parameters := [.int, .int, .int], returnType := none }, accessFlags := 2, code := some k2c10 }
def k2c11 : Code := { maxStack := 4, maxLocals := 1, code := prog_79_method_27_code, exceptionTable := #[], attributes := #[] }
def k2m11 : Method := { name := "isSmall", desc := "(I)Z", sig := { parameters := [.int], returnType := some .boolean }, accessFlags := 8, code := some k2c11 }
def k2c12 : Code := { maxStack := 4, maxLocals := 1, code := prog_79_method_32_code, exceptionTable := #[], attributes := #[] }
def k2m12 : Method := { name := "slotsFor", desc := "(I)I", sig := { parameters := [.int], returnType := some .int }, accessFlags := 8, code := some k2c12 }
def k2c13 : Code := { maxStack := 2, maxLocals := 2, code := prog_79_method_33_code, exceptionTable := #[], attributes := #[] }
def k2m13 : Method := { name := "home", desc := "(II)I", sig := { parameters := [.int, .int], returnType := some .int }, accessFlags := 8, code := some k2c13 }
/-- com/example/driftwalk/driftwalk/graph/NodeTable -/
def k2 : Class := { plain "com/example/driftwalk/driftwalk/graph/NodeTable" (some 0) with
  accessFlags := 49
  interfaces := #[]
  cf := some (fileOf pool2 5 #[] #[{ accessFlags := 1, nameIndex := 8, descriptorIndex := 14, attributes := #[] }, { accessFlags := 1, nameIndex := 8, descriptorIndex := 9, attributes := #[] }, { accessFlags := 1, nameIndex := 52, descriptorIndex := 46, attributes := #[] }, { accessFlags := 2, nameIndex := 45, descriptorIndex := 46, attributes := #[] }, { accessFlags := 2, nameIndex := 35, descriptorIndex := 36, attributes := #[] }, { accessFlags := 2, nameIndex := 42, descriptorIndex := 36, attributes := #[] }, { accessFlags := 2, nameIndex := 55, descriptorIndex := 56, attributes := #[] }, { accessFlags := 1, nameIndex := 85, descriptorIndex := 134, attributes := #[] }, { accessFlags := 1, nameIndex := 32, descriptorIndex := 9, attributes := #[] }, { accessFlags := 2, nameIndex := 39, descriptorIndex := 36, attributes := #[] }, { accessFlags := 2, nameIndex := 78, descriptorIndex := 56, attributes := #[] }, { accessFlags := 8, nameIndex := 24, descriptorIndex := 25, attributes := #[] }, { accessFlags := 8, nameIndex := 100, descriptorIndex := 36, attributes := #[] }, { accessFlags := 8, nameIndex := 106, descriptorIndex := 60, attributes := #[] }] 49 11 #[] #[{ accessFlags := 25, nameIndex := 181, descriptorIndex := 18, attributes := #[] }, { accessFlags := 26, nameIndex := 184, descriptorIndex := 18, attributes := #[] }, { accessFlags := 26, nameIndex := 186, descriptorIndex := 187, attributes := #[] }, { accessFlags := 26, nameIndex := 188, descriptorIndex := 187, attributes := #[] }, { accessFlags := 26, nameIndex := 189, descriptorIndex := 18, attributes := #[] }, { accessFlags := 26, nameIndex := 191, descriptorIndex := 18, attributes := #[] }, { accessFlags := 26, nameIndex := 193, descriptorIndex := 18, attributes := #[] }, { accessFlags := 2, nameIndex := 63, descriptorIndex := 64, attributes := #[] }, { accessFlags := 2, nameIndex := 88, descriptorIndex := 18, attributes := #[] }, { accessFlags := 2, nameIndex := 28, descriptorIndex := 29, attributes := #[] }, { accessFlags := 2, nameIndex := 75, descriptorIndex := 18, attributes := #[] }, { accessFlags := 2, nameIndex := 85, descriptorIndex := 18, attributes := #[] }, { accessFlags := 2, nameIndex := 109, descriptorIndex := 18, attributes := #[] }, { accessFlags := 2, nameIndex := 17, descriptorIndex := 18, attributes := #[] }, { accessFlags := 18, nameIndex := 21, descriptorIndex := 18, attributes := #[] }])
  fields := #[{ name := "MAX_SLOTS", type := .int, accessFlags := 25, slot := 0, constantValue := 0 }, { name := "MIN_SLOTS", type := .int, accessFlags := 26, slot := 1, constantValue := 0 }, { name := "FREE", type := .long, accessFlags := 26, slot := 2, constantValue := 0 }, { name := "NODE_BITS", type := .long, accessFlags := 26, slot := 3, constantValue := 0 }, { name := "SMALL_ARRAY_BYTES", type := .int, accessFlags := 26, slot := 4, constantValue := 0 }, { name := "MOST_ARRAY_BYTES", type := .int, accessFlags := 26, slot := 5, constantValue := 0 }, { name := "SLOTS_TO_ARRAY", type := .int, accessFlags := 26, slot := 6, constantValue := 0 }, { name := "slots", type := (.array .long), accessFlags := 2, slot := 0, constantValue := 0 }, { name := "mask", type := .int, accessFlags := 2, slot := 1, constantValue := 0 }, { name := "values", type := (.array .int), accessFlags := 2, slot := 2, constantValue := 0 }, { name := "base", type := .int, accessFlags := 2, slot := 3, constantValue := 0 }, { name := "size", type := .int, accessFlags := 2, slot := 4, constantValue := 0 }, { name := "smallest", type := .int, accessFlags := 2, slot := 5, constantValue := 0 }, { name := "largest", type := .int, accessFlags := 2, slot := 6, constantValue := 0 }, { name := "bound", type := .int, accessFlags := 18, slot := 7, constantValue := 0 }]
  methods := #[k2m0, k2m1, k2m2, k2m3, k2m4, k2m5, k2m6, k2m7, k2m8, k2m9, k2m10, k2m11, k2m12, k2m13]
  instanceTypes := #[(.array .long), .int, (.array .int), .int, .int, .int, .int, .int]
  staticTypes := #[.int, .int, .long, .long, .int, .int, .int]
  resolved := Array.replicate 209 none
  statics := none }

def pool3 : Array CpInfo := pool [(1, .class_ 2), (0, u "java/lang/Math"), (1, .class_ 6), (1, u "java/lang/Object"), (0, u "<init>"), (0, u "()V"), (89, .class_ 100), (1, u "java/lang/Math$RandomNumberGeneratorHolder"), (71, u "negativeZeroFloatBits"), (0, u "J"), (2, u "negativeZeroDoubleBits"), (21, u "max"), (2, u "min"), (43, u "$assertionsDisabled"), (0, u "Z"), (88, u "(II)I"), (2, u "twoToTheDoubleScaleDown"), (0, u "D"), (4, u "twoToTheDoubleScaleUp"), (9, u "E"), (3, u "PI"), (2, u "TAU"), (2, u "DEGREES_TO_RADIANS"), (0, u "RADIANS_TO_DEGREES")] 94

def k3m0 : Method := { name := "<init>", desc := "()V", sig := { parameters := [], returnType := none }, accessFlags := 2, code := none }
def k3c1 : Code := { maxStack := 2, maxLocals := 2, code := jdk_29_method_65_code, exceptionTable := #[], attributes := #[] }
def k3m1 : Method := { name := "max", desc := "(II)I", sig := { parameters := [.int, .int], returnType := some .int }, accessFlags := 9, code := some k3c1 }
def k3c2 : Code := { maxStack := 2, maxLocals := 2, code := jdk_29_method_69_code, exceptionTable := #[], attributes := #[] }
def k3m2 : Method := { name := "min", desc := "(II)I", sig := { parameters := [.int, .int], returnType := some .int }, accessFlags := 9, code := some k3c2 }
/-- java/lang/Math -/
def k3 : Class := { plain "java/lang/Math" (some 0) with
  accessFlags := 49
  interfaces := #[]
  cf := some (fileOf pool3 1 #[.nestMembers #[98]] #[{ accessFlags := 2, nameIndex := 7, descriptorIndex := 8, attributes := #[] }, { accessFlags := 9, nameIndex := 198, descriptorIndex := 335, attributes := #[] }, { accessFlags := 9, nameIndex := 201, descriptorIndex := 335, attributes := #[] }] 49 4 #[] #[{ accessFlags := 25, nameIndex := 354, descriptorIndex := 339, attributes := #[] }, { accessFlags := 25, nameIndex := 358, descriptorIndex := 339, attributes := #[] }, { accessFlags := 25, nameIndex := 361, descriptorIndex := 339, attributes := #[] }, { accessFlags := 26, nameIndex := 364, descriptorIndex := 339, attributes := #[] }, { accessFlags := 26, nameIndex := 365, descriptorIndex := 339, attributes := #[] }, { accessFlags := 26, nameIndex := 172, descriptorIndex := 173, attributes := #[] }, { accessFlags := 26, nameIndex := 176, descriptorIndex := 173, attributes := #[] }, { accessFlags := 8, nameIndex := 344, descriptorIndex := 339, attributes := #[] }, { accessFlags := 8, nameIndex := 338, descriptorIndex := 339, attributes := #[] }, { accessFlags := 4120, nameIndex := 245, descriptorIndex := 246, attributes := #[] }])
  fields := #[{ name := "E", type := .double, accessFlags := 25, slot := 0, constantValue := 0 }, { name := "PI", type := .double, accessFlags := 25, slot := 1, constantValue := 0 }, { name := "TAU", type := .double, accessFlags := 25, slot := 2, constantValue := 0 }, { name := "DEGREES_TO_RADIANS", type := .double, accessFlags := 26, slot := 3, constantValue := 0 }, { name := "RADIANS_TO_DEGREES", type := .double, accessFlags := 26, slot := 4, constantValue := 0 }, { name := "negativeZeroFloatBits", type := .long, accessFlags := 26, slot := 5, constantValue := 0 }, { name := "negativeZeroDoubleBits", type := .long, accessFlags := 26, slot := 6, constantValue := 0 }, { name := "twoToTheDoubleScaleUp", type := .double, accessFlags := 8, slot := 7, constantValue := 0 }, { name := "twoToTheDoubleScaleDown", type := .double, accessFlags := 8, slot := 8, constantValue := 0 }, { name := "$assertionsDisabled", type := .boolean, accessFlags := 4120, slot := 9, constantValue := 0 }]
  methods := #[k3m0, k3m1, k3m2]
  instanceTypes := #[]
  staticTypes := #[.double, .double, .double, .double, .double, .long, .long, .double, .double, .boolean]
  resolved := Array.replicate 460 none
  statics := none }

def pool4 : Array CpInfo := pool [(1, .class_ 2), (0, u "java/io/Serializable"), (0, .class_ 4), (0, u "java/lang/Object")] 2

/-- java/io/Serializable -/
def k4 : Class := { plain "java/io/Serializable" (some 0) with
  accessFlags := 1537
  interfaces := #[]
  cf := some (fileOf pool4 1 #[] #[] 1537 3 #[] #[])
  fields := #[]
  methods := #[]
  instanceTypes := #[]
  staticTypes := #[]
  resolved := Array.replicate 7 none
  statics := none }

def pool5 : Array CpInfo := pool [(2, .class_ 4), (1, u "java/lang/Object"), (0, u "<init>"), (0, u "()V"), (1, .class_ 10), (1, u "java/lang/Number"), (2, .class_ 14), (0, u "java/io/Serializable"), (0, u "serialVersionUID"), (0, u "J")] 20

def k5m0 : Method := { name := "<init>", desc := "()V", sig := { parameters := [], returnType := none }, accessFlags := 1, code := none }
/-- java/lang/Number -/
def k5 : Class := { plain "java/lang/Number" (some 0) with
  accessFlags := 1057
  interfaces := #[4]
  cf := some (fileOf pool5 8 #[] #[{ accessFlags := 1, nameIndex := 5, descriptorIndex := 6, attributes := #[] }] 1057 2 #[13] #[{ accessFlags := 26, nameIndex := 15, descriptorIndex := 16, attributes := #[] }])
  fields := #[{ name := "serialVersionUID", type := .long, accessFlags := 26, slot := 0, constantValue := 0 }]
  methods := #[k5m0]
  instanceTypes := #[]
  staticTypes := #[.long]
  resolved := Array.replicate 37 none
  statics := none }

def pool6 : Array CpInfo := pool [(1, .class_ 2), (0, u "java/lang/Comparable"), (0, .class_ 4), (0, u "java/lang/Object")] 7

/-- java/lang/Comparable -/
def k6 : Class := { plain "java/lang/Comparable" (some 0) with
  accessFlags := 1537
  interfaces := #[]
  cf := some (fileOf pool6 1 #[] #[] 1537 3 #[] #[])
  fields := #[]
  methods := #[]
  instanceTypes := #[]
  staticTypes := #[]
  resolved := Array.replicate 12 none
  statics := none }

def pool7 : Array CpInfo := pool [(1, .class_ 2), (0, u "java/lang/constant/Constable"), (0, .class_ 4), (0, u "java/lang/Object")] 6

/-- java/lang/constant/Constable -/
def k7 : Class := { plain "java/lang/constant/Constable" (some 0) with
  accessFlags := 1537
  interfaces := #[]
  cf := some (fileOf pool7 1 #[] #[] 1537 3 #[] #[])
  fields := #[]
  methods := #[]
  instanceTypes := #[]
  staticTypes := #[]
  resolved := Array.replicate 11 none
  statics := none }

def pool8 : Array CpInfo := pool [(1, .class_ 2), (0, u "java/lang/constant/ConstantDesc"), (0, .class_ 4), (0, u "java/lang/Object")] 32

/-- java/lang/constant/ConstantDesc -/
def k8 : Class := { plain "java/lang/constant/ConstantDesc" (some 0) with
  accessFlags := 1537
  interfaces := #[]
  cf := some (fileOf pool8 1 #[] #[] 1537 3 #[] #[])
  fields := #[]
  methods := #[]
  instanceTypes := #[]
  staticTypes := #[]
  resolved := Array.replicate 37 none
  statics := none }

def pool9 : Array CpInfo := pool [(1, .class_ 2), (0, u "java/lang/Integer"), (16, u "digits"), (0, u "[C"), (30, .methodref 1 52), (0, .nameAndType 53 54), (0, u "numberOfLeadingZeros"), (0, u "(I)I"), (30, u "DigitOnes"), (0, u "[B"), (2, u "DigitTens"), (37, .integer 2147483648), (61, .class_ 190), (0, u "java/lang/Integer$IntegerCache"), (3, u "I"), (8, .class_ 204), (0, u "java/lang/Number"), (2, u "value"), (56, .integer 65536), (37, u "TYPE"), (0, u "Ljava/lang/Class;"), (0, .class_ 305), (0, u "java/lang/Comparable"), (0, .class_ 307), (0, u "java/lang/constant/Constable"), (0, .class_ 309), (0, u "java/lang/constant/ConstantDesc"), (0, u "MIN_VALUE"), (1, u "MAX_VALUE"), (3, u "SIZE"), (1, u "BYTES"), (1, u "serialVersionUID"), (0, u "J"), (81, u "highestOneBit")] 49

def k9c0 : Code := { maxStack := 3, maxLocals := 1, code := jdk_33_method_45_code, exceptionTable := #[], attributes := #[] }
def k9m0 : Method := { name := "highestOneBit", desc := "(I)I", sig := { parameters := [.int], returnType := some .int }, accessFlags := 9, code := some k9c0 }
def k9c1 : Code := { maxStack := 3, maxLocals := 2, code := jdk_33_method_47_code, exceptionTable := #[], attributes := #[] }
def k9m1 : Method := { name := "numberOfLeadingZeros", desc := "(I)I", sig := { parameters := [.int], returnType := some .int }, accessFlags := 9, code := some k9c1 }
/-- java/lang/Integer -/
def k9 : Class := { plain "java/lang/Integer" (some 5) with
  accessFlags := 49
  interfaces := #[6, 7, 8]
  cf := some (fileOf pool9 1 #[.nestMembers #[189]] #[{ accessFlags := 9, nameIndex := 403, descriptorIndex := 54, attributes := #[] }, { accessFlags := 9, nameIndex := 53, descriptorIndex := 54, attributes := #[] }] 49 203 #[304, 306, 308] #[{ accessFlags := 25, nameIndex := 310, descriptorIndex := 194, attributes := #[] }, { accessFlags := 25, nameIndex := 312, descriptorIndex := 194, attributes := #[] }, { accessFlags := 25, nameIndex := 302, descriptorIndex := 303, attributes := #[] }, { accessFlags := 24, nameIndex := 19, descriptorIndex := 20, attributes := #[] }, { accessFlags := 24, nameIndex := 89, descriptorIndex := 86, attributes := #[] }, { accessFlags := 24, nameIndex := 85, descriptorIndex := 86, attributes := #[] }, { accessFlags := 18, nameIndex := 207, descriptorIndex := 194, attributes := #[] }, { accessFlags := 25, nameIndex := 316, descriptorIndex := 194, attributes := #[] }, { accessFlags := 25, nameIndex := 318, descriptorIndex := 194, attributes := #[] }, { accessFlags := 26, nameIndex := 320, descriptorIndex := 321, attributes := #[] }])
  fields := #[{ name := "MIN_VALUE", type := .int, accessFlags := 25, slot := 0, constantValue := 0 }, { name := "MAX_VALUE", type := .int, accessFlags := 25, slot := 1, constantValue := 0 }, { name := "TYPE", type := (.object "java/lang/Class"), accessFlags := 25, slot := 2, constantValue := 0 }, { name := "digits", type := (.array .char), accessFlags := 24, slot := 3, constantValue := 0 }, { name := "DigitTens", type := (.array .byte), accessFlags := 24, slot := 4, constantValue := 0 }, { name := "DigitOnes", type := (.array .byte), accessFlags := 24, slot := 5, constantValue := 0 }, { name := "value", type := .int, accessFlags := 18, slot := 0, constantValue := 0 }, { name := "SIZE", type := .int, accessFlags := 25, slot := 6, constantValue := 0 }, { name := "BYTES", type := .int, accessFlags := 25, slot := 7, constantValue := 0 }, { name := "serialVersionUID", type := .long, accessFlags := 26, slot := 8, constantValue := 0 }]
  methods := #[k9m0, k9m1]
  instanceTypes := #[.int]
  staticTypes := #[.int, .int, (.object "java/lang/Class"), (.array .char), (.array .byte), (.array .byte), .int, .int, .long]
  resolved := Array.replicate 453 none
  statics := none }

def pool10 : Array CpInfo := pool [(2, .class_ 4), (1, u "java/lang/Object"), (0, u "<init>"), (0, u "()V"), (6, .methodref 14 15), (0, .class_ 16), (0, .nameAndType 17 18), (0, u "java/util/Arrays"), (0, u "rangeCheck"), (0, u "(III)V"), (55, .class_ 76), (1, u "java/util/Arrays$NaturalOrder"), (36, .class_ 115), (1, u "java/util/Arrays$LegacyMergeSort"), (1, u "Z"), (257, .class_ 376), (0, u "java/util/Arrays$ArrayList"), (68, u "$assertionsDisabled"), (269, u "MIN_ARRAY_SORT_GRAN"), (0, u "I"), (2, u "INSERTIONSORT_THRESHOLD"), (120, u "fill"), (3, u "([JIIJ)V"), (130, .class_ 976), (0, u "java/util/Arrays$ArrayItr")] 52

def k10m0 : Method := { name := "<init>", desc := "()V", sig := { parameters := [], returnType := none }, accessFlags := 2, code := none }
def k10c1 : Code := { maxStack := 4, maxLocals := 3, code := jdk_65_method_30_code, exceptionTable := #[], attributes := #[] }
def k10m1 : Method := { name := "rangeCheck", desc := "(III)V", sig := { parameters := [.int, .int, .int], returnType := none }, accessFlags := 8, code := some k10c1 }
def k10c2 : Code := { maxStack := 4, maxLocals := 6, code := jdk_65_method_102_code, exceptionTable := #[], attributes := #[] }
def k10m2 : Method := { name := "fill", desc := "([JIIJ)V", sig := { parameters := [(.array .long), .int, .int, .long], returnType := none }, accessFlags := 9, code := some k10c2 }
/-- java/util/Arrays -/
def k10 : Class := { plain "java/util/Arrays" (some 0) with
  accessFlags := 49
  interfaces := #[]
  cf := some (fileOf pool10 14 #[.nestMembers #[975, 375, 113, 74]] #[{ accessFlags := 2, nameIndex := 5, descriptorIndex := 6, attributes := #[] }, { accessFlags := 8, nameIndex := 17, descriptorIndex := 18, attributes := #[] }, { accessFlags := 9, nameIndex := 840, descriptorIndex := 844, attributes := #[] }] 49 2 #[] #[{ accessFlags := 26, nameIndex := 715, descriptorIndex := 716, attributes := #[] }, { accessFlags := 26, nameIndex := 719, descriptorIndex := 716, attributes := #[] }, { accessFlags := 4120, nameIndex := 445, descriptorIndex := 117, attributes := #[] }])
  fields := #[{ name := "MIN_ARRAY_SORT_GRAN", type := .int, accessFlags := 26, slot := 0, constantValue := 0 }, { name := "INSERTIONSORT_THRESHOLD", type := .int, accessFlags := 26, slot := 1, constantValue := 0 }, { name := "$assertionsDisabled", type := .boolean, accessFlags := 4120, slot := 2, constantValue := 0 }]
  methods := #[k10m0, k10m1, k10m2]
  instanceTypes := #[]
  staticTypes := #[.int, .int, .boolean]
  resolved := Array.replicate 1029 none
  statics := none }

def pool11 : Array CpInfo := pool [(1, u "java/lang/Cloneable"), (0, .class_ 1), (0, u "java/lang/Object"), (0, .class_ 3)] 3

/-- java/lang/Cloneable -/
def k11 : Class := { plain "java/lang/Cloneable" (some 0) with
  accessFlags := 1537
  interfaces := #[]
  cf := some (fileOf pool11 2 #[] #[] 1537 4 #[] #[])
  fields := #[]
  methods := #[]
  instanceTypes := #[]
  staticTypes := #[]
  resolved := Array.replicate 8 none
  statics := none }

/-- the primitive byte -/
def k12 : Class := { plain "byte" none with kind := .primitive 'B', accessFlags := 0x411 }
/-- [B -/
def k13 : Class := { plain "[B" (some 0) with kind := .array 12 .byte, interfaces := #[11, 4], accessFlags := 1041 }

/-- the primitive int -/
def k14 : Class := { plain "int" none with kind := .primitive 'I', accessFlags := 0x411 }
/-- [I -/
def k15 : Class := { plain "[I" (some 0) with kind := .array 14 .int, interfaces := #[11, 4], accessFlags := 1041 }

/-- the primitive long -/
def k16 : Class := { plain "long" none with kind := .primitive 'J', accessFlags := 0x411 }
/-- [J -/
def k17 : Class := { plain "[J" (some 0) with kind := .array 16 .long, interfaces := #[11, 4], accessFlags := 1041 }

def heap : Heap := #[]
def classes : Array Class := #[k0, k1, k2, k3, k4, k5, k6, k7, k8, k9, k10, k11, k12, k13, k14, k15, k16, k17]
def interned : List (Array UInt16 × Addr) := []
def slotsUsed : Nat := 0
def theMethod : MethodId := ⟨1, 2⟩
def args0 : Array Value := #[.int 5, .long 9, .int 3, .int 4, .int 6, .int 7]
def aboutOver (below : List Frame) : State where
  vm := { classes := classes, interned := interned.toArray }
  heap := heap
  slotsUsed := slotsUsed
  threads := #[{ frames := .invoking theMethod args0 :: below }]
def below0 : List Frame := [.native { method := ⟨0, 0⟩, args := #[] }]
def about1 : State := aboutOver below0
def p0 : Program := .bare "" "" ""
def e0 : Env := launch0.env 0 0 0
theorem w_frames : about1.frames = Frame.invoking theMethod args0 :: below0 := rfl
set_option maxRecDepth 65536 in
theorem w_args : argsFit about1.vm theMethod args0 = true := by decide +kernel
set_option maxRecDepth 65536 in
theorem w_heap : heapFits about1 = true := by decide +kernel
set_option maxRecDepth 65536 in
theorem w_runnable : about1.curStatus? = some .runnable := by decide +kernel
set_option maxRecDepth 65536 in
theorem w_alone : about1.alone = true := by decide +kernel
set_option maxRecDepth 65536 in
theorem w_named : about1.methodNamed? x = some theMethod := by decide +kernel
set_option maxRecDepth 65536 in
theorem w_hears : about1.hears theMethod below0 = true := by decide +kernel
set_option maxRecDepth 65536 in
theorem w_ripe : about1.ripe theMethod args0 below0 = true := by decide +kernel
theorem w_running : about1.status = .running := rfl
set_option maxRecDepth 65536 in
theorem w_room : about1.hasRoom e0.platform room_1 = true :=
  launch0.hasRoom_least _ room_1 (by decide +kernel) (by decide +kernel) (by decide +kernel) (by decide +kernel) (by decide +kernel) (by decide +kernel)
theorem allAtoms_all (ts : List Jvm.Cond) (a : Array Jvm.Value) (st : Jvm.State) : (allAtoms ts).before a st = ts.all (fun c => c.before a st) := by
  induction ts with
  | nil => rfl
  | cons c t ih =>
    show (Jvm.Cond.and c (allAtoms t)).before a st = _
    rw [Jvm.Cond.before_and, ih, List.all_cons]
def words1 : List Jvm.Cond := Jvm.Cond.code x code maxLocals ret :: tables_1
/-- a 'code' word, met by the world's own term for the bytes: nothing is compared byte by byte -/
theorem code_word {y : MethodName} {bytes : ByteArray} {mx : Nat} {rt : Option FieldType} {a : Array Value} {s : State} {m : MethodId} {meth : Method} {c : Code} (h1 : s.methodNamed? y = some m) (h2 : s.vm.method? m = some meth) (h3 : meth.code = some c) (h4 : c.code = bytes)
    (h5 : (c.maxLocals == mx && c.exceptionTable.isEmpty && decide (c.maxStack ≤ mostOperands) && decide (meth.sig.returnType = rt) && !meth.locks && decide (parseMethodDescriptor y.desc = some meth.sig)) = true) : (Jvm.Cond.code y bytes mx rt).before a s = true := by
  simp only [Bool.and_eq_true, beq_iff_eq, Bool.not_eq_true', decide_eq_true_eq] at h5
  obtain ⟨⟨⟨⟨⟨g1, g2⟩, g3⟩, g4⟩, g5⟩, g6⟩ := h5
  simp [Cond.before, Cond.holds, Cond.value, h1, h2, h3, h4, g1, g2, g3, g4, g5, g6]
def isCode : Jvm.Cond → Bool
  | .code _ _ _ _ => true
  | _ => false
theorem all_split {L : List Jvm.Cond} {P : Jvm.Cond → Bool} (h1 : L.all (fun c => isCode c || P c) = true) (h2 : ∀ c ∈ L.filter isCode, P c = true) : L.all P = true := by
  refine List.all_eq_true.mpr fun c hc => ?_
  have h := List.all_eq_true.mp h1 c hc
  rcases Bool.eq_false_or_eq_true (isCode c) with hi | hi
  · exact h2 c (List.mem_filter.mpr ⟨hc, hi⟩)
  · simpa [hi] using h
set_option maxRecDepth 65536 in
theorem w_c0 : (Jvm.Cond.code x code maxLocals ret).before args0 about1 = true := code_word (m := ⟨1, 2⟩) (meth := k1m2) (c := k1c2) (by decide +kernel) rfl rfl rfl (by decide +kernel)
set_option maxRecDepth 65536 in
theorem w_c1 : (Jvm.Cond.code ({ cls := "com/example/driftwalk/driftwalk/graph/NodeTable", name := "<init>", desc := "(I)V" } : Jvm.MethodName) prog_79_method_2_code (2 : Nat) (Option.none : Option Jvm.ClassFile.FieldType)).before args0 about1 = true := code_word (m := ⟨2, 1⟩) (meth := k2m1) (c := k2c1) (by decide +kernel) rfl rfl rfl (by decide +kernel)
set_option maxRecDepth 65536 in
theorem w_c2 : (Jvm.Cond.code ({ cls := "java/lang/Object", name := "<init>", desc := "()V" } : Jvm.MethodName) object_method_1_code (1 : Nat) (Option.none : Option Jvm.ClassFile.FieldType)).before args0 about1 = true := code_word (m := ⟨0, 0⟩) (meth := k0m0) (c := k0c0) (by decide +kernel) rfl rfl rfl (by decide +kernel)
set_option maxRecDepth 65536 in
theorem w_c3 : (Jvm.Cond.code ({ cls := "com/example/driftwalk/driftwalk/graph/NodeTable", name := "isSmall", desc := "(I)Z" } : Jvm.MethodName) prog_79_method_27_code (1 : Nat) (Option.some Jvm.ClassFile.FieldType.boolean)).before args0 about1 = true := code_word (m := ⟨2, 11⟩) (meth := k2m11) (c := k2c11) (by decide +kernel) rfl rfl rfl (by decide +kernel)
set_option maxRecDepth 65536 in
theorem w_c4 : (Jvm.Cond.code ({ cls := "com/example/driftwalk/driftwalk/graph/NodeTable", name := "size", desc := "()I" } : Jvm.MethodName) prog_79_method_15_code (6 : Nat) (Option.some Jvm.ClassFile.FieldType.int)).before args0 about1 = true := code_word (m := ⟨2, 7⟩) (meth := k2m7) (c := k2c7) (by decide +kernel) rfl rfl rfl (by decide +kernel)
set_option maxRecDepth 65536 in
theorem w_c5 : (Jvm.Cond.code ({ cls := "com/example/driftwalk/driftwalk/graph/NodeTable", name := "put", desc := "(II)V" } : Jvm.MethodName) prog_79_method_4_code (4 : Nat) (Option.none : Option Jvm.ClassFile.FieldType)).before args0 about1 = true := code_word (m := ⟨2, 2⟩) (meth := k2m2) (c := k2c2) (by decide +kernel) rfl rfl rfl (by decide +kernel)
set_option maxRecDepth 65536 in
theorem w_c6 : (Jvm.Cond.code ({ cls := "com/example/driftwalk/driftwalk/graph/NodeTable", name := "at", desc := "(I)I" } : Jvm.MethodName) prog_79_method_12_code (4 : Nat) (Option.some Jvm.ClassFile.FieldType.int)).before args0 about1 = true := code_word (m := ⟨2, 4⟩) (meth := k2m4) (c := k2c4) (by decide +kernel) rfl rfl rfl (by decide +kernel)
set_option maxRecDepth 65536 in
theorem w_c7 : (Jvm.Cond.code ({ cls := "com/example/driftwalk/driftwalk/graph/NodeTableSizePinLaw", name := "one", desc := "(Z)I" } : Jvm.MethodName) method_2_code (1 : Nat) (Option.some Jvm.ClassFile.FieldType.int)).before args0 about1 = true := code_word (m := ⟨1, 1⟩) (meth := k1m1) (c := k1c1) (by decide +kernel) rfl rfl rfl (by decide +kernel)
set_option maxRecDepth 65536 in
theorem w_c8 : (Jvm.Cond.code ({ cls := "com/example/driftwalk/driftwalk/graph/NodeTable", name := "clear", desc := "(I)V" } : Jvm.MethodName) prog_79_method_20_code (3 : Nat) (Option.none : Option Jvm.ClassFile.FieldType)).before args0 about1 = true := code_word (m := ⟨2, 8⟩) (meth := k2m8) (c := k2c8) (by decide +kernel) rfl rfl rfl (by decide +kernel)
set_option maxRecDepth 65536 in
theorem w_c9 : (Jvm.Cond.code ({ cls := "com/example/driftwalk/driftwalk/graph/NodeTable", name := "slotsFor", desc := "(I)I" } : Jvm.MethodName) prog_79_method_32_code (1 : Nat) (Option.some Jvm.ClassFile.FieldType.int)).before args0 about1 = true := code_word (m := ⟨2, 12⟩) (meth := k2m12) (c := k2c12) (by decide +kernel) rfl rfl rfl (by decide +kernel)
set_option maxRecDepth 65536 in
theorem w_c10 : (Jvm.Cond.code ({ cls := "java/lang/Math", name := "max", desc := "(II)I" } : Jvm.MethodName) jdk_29_method_65_code (2 : Nat) (Option.some Jvm.ClassFile.FieldType.int)).before args0 about1 = true := code_word (m := ⟨3, 1⟩) (meth := k3m1) (c := k3c1) (by decide +kernel) rfl rfl rfl (by decide +kernel)
set_option maxRecDepth 65536 in
theorem w_c11 : (Jvm.Cond.code ({ cls := "java/lang/Integer", name := "highestOneBit", desc := "(I)I" } : Jvm.MethodName) jdk_33_method_45_code (1 : Nat) (Option.some Jvm.ClassFile.FieldType.int)).before args0 about1 = true := code_word (m := ⟨9, 0⟩) (meth := k9m0) (c := k9c0) (by decide +kernel) rfl rfl rfl (by decide +kernel)
set_option maxRecDepth 65536 in
theorem w_c12 : (Jvm.Cond.code ({ cls := "java/lang/Integer", name := "numberOfLeadingZeros", desc := "(I)I" } : Jvm.MethodName) jdk_33_method_47_code (2 : Nat) (Option.some Jvm.ClassFile.FieldType.int)).before args0 about1 = true := code_word (m := ⟨9, 1⟩) (meth := k9m1) (c := k9c1) (by decide +kernel) rfl rfl rfl (by decide +kernel)
set_option maxRecDepth 65536 in
theorem w_c13 : (Jvm.Cond.code ({ cls := "java/util/Arrays", name := "fill", desc := "([JIIJ)V" } : Jvm.MethodName) jdk_65_method_102_code (6 : Nat) (Option.none : Option Jvm.ClassFile.FieldType)).before args0 about1 = true := code_word (m := ⟨10, 2⟩) (meth := k10m2) (c := k10c2) (by decide +kernel) rfl rfl rfl (by decide +kernel)
set_option maxRecDepth 65536 in
theorem w_c14 : (Jvm.Cond.code ({ cls := "java/util/Arrays", name := "rangeCheck", desc := "(III)V" } : Jvm.MethodName) jdk_65_method_30_code (3 : Nat) (Option.none : Option Jvm.ClassFile.FieldType)).before args0 about1 = true := code_word (m := ⟨10, 1⟩) (meth := k10m1) (c := k10c1) (by decide +kernel) rfl rfl rfl (by decide +kernel)
set_option maxRecDepth 65536 in
theorem w_c15 : (Jvm.Cond.code ({ cls := "com/example/driftwalk/driftwalk/graph/NodeTable", name := "putOutside", desc := "(II)V" } : Jvm.MethodName) prog_79_method_5_code (4 : Nat) (Option.none : Option Jvm.ClassFile.FieldType)).before args0 about1 = true := code_word (m := ⟨2, 3⟩) (meth := k2m3) (c := k2c3) (by decide +kernel) rfl rfl rfl (by decide +kernel)
set_option maxRecDepth 65536 in
theorem w_c16 : (Jvm.Cond.code ({ cls := "com/example/driftwalk/driftwalk/graph/NodeTable", name := "find", desc := "(I)I" } : Jvm.MethodName) prog_79_method_22_code (5 : Nat) (Option.some Jvm.ClassFile.FieldType.int)).before args0 about1 = true := code_word (m := ⟨2, 9⟩) (meth := k2m9) (c := k2c9) (by decide +kernel) rfl rfl rfl (by decide +kernel)
set_option maxRecDepth 65536 in
theorem w_c17 : (Jvm.Cond.code ({ cls := "com/example/driftwalk/driftwalk/graph/NodeTable", name := "home", desc := "(II)I" } : Jvm.MethodName) prog_79_method_33_code (2 : Nat) (Option.some Jvm.ClassFile.FieldType.int)).before args0 about1 = true := code_word (m := ⟨2, 13⟩) (meth := k2m13) (c := k2c13) (by decide +kernel) rfl rfl rfl (by decide +kernel)
set_option maxRecDepth 65536 in
theorem w_c18 : (Jvm.Cond.code ({ cls := "com/example/driftwalk/driftwalk/graph/NodeTable", name := "setIn", desc := "(III)V" } : Jvm.MethodName) prog_79_method_14_code (4 : Nat) (Option.none : Option Jvm.ClassFile.FieldType)).before args0 about1 = true := code_word (m := ⟨2, 6⟩) (meth := k2m6) (c := k2c6) (by decide +kernel) rfl rfl rfl (by decide +kernel)
set_option maxRecDepth 65536 in
theorem w_c19 : (Jvm.Cond.code ({ cls := "com/example/driftwalk/driftwalk/graph/NodeTable", name := "take", desc := "(III)V" } : Jvm.MethodName) prog_79_method_23_code (5 : Nat) (Option.none : Option Jvm.ClassFile.FieldType)).before args0 about1 = true := code_word (m := ⟨2, 10⟩) (meth := k2m10) (c := k2c10) (by decide +kernel) rfl rfl rfl (by decide +kernel)
set_option maxRecDepth 65536 in
theorem w_c20 : (Jvm.Cond.code ({ cls := "java/lang/Math", name := "min", desc := "(II)I" } : Jvm.MethodName) jdk_29_method_69_code (2 : Nat) (Option.some Jvm.ClassFile.FieldType.int)).before args0 about1 = true := code_word (m := ⟨3, 2⟩) (meth := k3m2) (c := k3c2) (by decide +kernel) rfl rfl rfl (by decide +kernel)
set_option maxRecDepth 65536 in
theorem w_c21 : (Jvm.Cond.code ({ cls := "com/example/driftwalk/driftwalk/graph/NodeTable", name := "valueIn", desc := "(I)I" } : Jvm.MethodName) prog_79_method_13_code (4 : Nat) (Option.some Jvm.ClassFile.FieldType.int)).before args0 about1 = true := code_word (m := ⟨2, 5⟩) (meth := k2m5) (c := k2c5) (by decide +kernel) rfl rfl rfl (by decide +kernel)
def codes1 : List Jvm.Cond := [Jvm.Cond.code x code maxLocals ret, Jvm.Cond.code ({ cls := "com/example/driftwalk/driftwalk/graph/NodeTable", name := "<init>", desc := "(I)V" } : Jvm.MethodName) prog_79_method_2_code (2 : Nat) (Option.none : Option Jvm.ClassFile.FieldType), Jvm.Cond.code ({ cls := "java/lang/Object", name := "<init>", desc := "()V" } : Jvm.MethodName) object_method_1_code (1 : Nat) (Option.none : Option Jvm.ClassFile.FieldType), Jvm.Cond.code ({ cls := "com/example/driftwalk/driftwalk/graph/NodeTable", name := "isSmall", desc := "(I)Z" } : Jvm.MethodName) prog_79_method_27_code (1 : Nat) (Option.some Jvm.ClassFile.FieldType.boolean), Jvm.Cond.code ({ cls := "com/example/driftwalk/driftwalk/graph/NodeTable", name := "size", desc := "()I" } : Jvm.MethodName) prog_79_method_15_code (6 : Nat) (Option.some Jvm.ClassFile.FieldType.int), Jvm.Cond.code ({ cls := "com/example/driftwalk/driftwalk/graph/NodeTable", name := "put", desc := "(II)V" } : Jvm.MethodName) prog_79_method_4_code (4 : Nat) (Option.none : Option Jvm.ClassFile.FieldType), Jvm.Cond.code ({ cls := "com/example/driftwalk/driftwalk/graph/NodeTable", name := "at", desc := "(I)I" } : Jvm.MethodName) prog_79_method_12_code (4 : Nat) (Option.some Jvm.ClassFile.FieldType.int), Jvm.Cond.code ({ cls := "com/example/driftwalk/driftwalk/graph/NodeTableSizePinLaw", name := "one", desc := "(Z)I" } : Jvm.MethodName) method_2_code (1 : Nat) (Option.some Jvm.ClassFile.FieldType.int), Jvm.Cond.code ({ cls := "com/example/driftwalk/driftwalk/graph/NodeTable", name := "clear", desc := "(I)V" } : Jvm.MethodName) prog_79_method_20_code (3 : Nat) (Option.none : Option Jvm.ClassFile.FieldType), Jvm.Cond.code ({ cls := "com/example/driftwalk/driftwalk/graph/NodeTable", name := "slotsFor", desc := "(I)I" } : Jvm.MethodName) prog_79_method_32_code (1 : Nat) (Option.some Jvm.ClassFile.FieldType.int), Jvm.Cond.code ({ cls := "java/lang/Math", name := "max", desc := "(II)I" } : Jvm.MethodName) jdk_29_method_65_code (2 : Nat) (Option.some Jvm.ClassFile.FieldType.int), Jvm.Cond.code ({ cls := "java/lang/Integer", name := "highestOneBit", desc := "(I)I" } : Jvm.MethodName) jdk_33_method_45_code (1 : Nat) (Option.some Jvm.ClassFile.FieldType.int), Jvm.Cond.code ({ cls := "java/lang/Integer", name := "numberOfLeadingZeros", desc := "(I)I" } : Jvm.MethodName) jdk_33_method_47_code (2 : Nat) (Option.some Jvm.ClassFile.FieldType.int), Jvm.Cond.code ({ cls := "java/util/Arrays", name := "fill", desc := "([JIIJ)V" } : Jvm.MethodName) jdk_65_method_102_code (6 : Nat) (Option.none : Option Jvm.ClassFile.FieldType), Jvm.Cond.code ({ cls := "java/util/Arrays", name := "rangeCheck", desc := "(III)V" } : Jvm.MethodName) jdk_65_method_30_code (3 : Nat) (Option.none : Option Jvm.ClassFile.FieldType), Jvm.Cond.code ({ cls := "com/example/driftwalk/driftwalk/graph/NodeTable", name := "putOutside", desc := "(II)V" } : Jvm.MethodName) prog_79_method_5_code (4 : Nat) (Option.none : Option Jvm.ClassFile.FieldType), Jvm.Cond.code ({ cls := "com/example/driftwalk/driftwalk/graph/NodeTable", name := "find", desc := "(I)I" } : Jvm.MethodName) prog_79_method_22_code (5 : Nat) (Option.some Jvm.ClassFile.FieldType.int), Jvm.Cond.code ({ cls := "com/example/driftwalk/driftwalk/graph/NodeTable", name := "home", desc := "(II)I" } : Jvm.MethodName) prog_79_method_33_code (2 : Nat) (Option.some Jvm.ClassFile.FieldType.int), Jvm.Cond.code ({ cls := "com/example/driftwalk/driftwalk/graph/NodeTable", name := "setIn", desc := "(III)V" } : Jvm.MethodName) prog_79_method_14_code (4 : Nat) (Option.none : Option Jvm.ClassFile.FieldType), Jvm.Cond.code ({ cls := "com/example/driftwalk/driftwalk/graph/NodeTable", name := "take", desc := "(III)V" } : Jvm.MethodName) prog_79_method_23_code (5 : Nat) (Option.none : Option Jvm.ClassFile.FieldType), Jvm.Cond.code ({ cls := "java/lang/Math", name := "min", desc := "(II)I" } : Jvm.MethodName) jdk_29_method_69_code (2 : Nat) (Option.some Jvm.ClassFile.FieldType.int), Jvm.Cond.code ({ cls := "com/example/driftwalk/driftwalk/graph/NodeTable", name := "valueIn", desc := "(I)I" } : Jvm.MethodName) prog_79_method_13_code (4 : Nat) (Option.some Jvm.ClassFile.FieldType.int)]
set_option maxRecDepth 65536 in
theorem codes_eq : words1.filter isCode = codes1 := rfl
theorem w_codes : ∀ c ∈ words1.filter isCode, c.before args0 about1 = true := by
  rw [codes_eq]
  intro c hc
  simp only [codes1, List.mem_cons, List.not_mem_nil, or_false] at hc
  rcases hc with rfl | rfl | rfl | rfl | rfl | rfl | rfl | rfl | rfl | rfl | rfl | rfl | rfl | rfl | rfl | rfl | rfl | rfl | rfl | rfl | rfl | rfl
  · exact w_c0
  · exact w_c1
  · exact w_c2
  · exact w_c3
  · exact w_c4
  · exact w_c5
  · exact w_c6
  · exact w_c7
  · exact w_c8
  · exact w_c9
  · exact w_c10
  · exact w_c11
  · exact w_c12
  · exact w_c13
  · exact w_c14
  · exact w_c15
  · exact w_c16
  · exact w_c17
  · exact w_c18
  · exact w_c19
  · exact w_c20
  · exact w_c21
set_option maxRecDepth 65536 in
theorem w_t1 : (words1.take 24).all (fun c => isCode c || c.before args0 about1) = true := by decide +kernel
set_option maxRecDepth 65536 in
theorem w_t2 : ((words1.drop 24).take 24).all (fun c => isCode c || c.before args0 about1) = true := by decide +kernel
set_option maxRecDepth 65536 in
theorem w_t3 : (((words1.drop 24).drop 24).take 24).all (fun c => isCode c || c.before args0 about1) = true := by decide +kernel
set_option maxRecDepth 65536 in
theorem w_t4 : ((((words1.drop 24).drop 24).drop 24).take 24).all (fun c => isCode c || c.before args0 about1) = true := by decide +kernel
set_option maxRecDepth 65536 in
theorem w_t5 : ((((words1.drop 24).drop 24).drop 24).drop 24).all (fun c => isCode c || c.before args0 about1) = true := by decide +kernel
theorem w_tables : (allAtoms (Jvm.Cond.code x code maxLocals ret :: tables_1)).before args0 about1 = true := by
  rw [allAtoms_all]
  show words1.all (fun c => c.before args0 about1) = true
  refine all_split ?_ w_codes
  rw [← List.take_append_drop 24 words1, List.all_append, w_t1, ← List.take_append_drop 24 (words1.drop 24), List.all_append, w_t2, ← List.take_append_drop 24 ((words1.drop 24).drop 24), List.all_append, w_t3, ← List.take_append_drop 24 (((words1.drop 24).drop 24).drop 24), List.all_append, w_t4, w_t5]
  rfl
set_option maxRecDepth 65536 in
theorem w_case : (Jvm.Cond.and given_1 narrow_1).before args0 about1 = true := by decide +kernel
theorem w_applies : (headSpec (Jvm.Cond.code x code maxLocals ret :: tables_1) room_1).applies x e0.platform about1 = true :=
  (Spec.applies_iff w_frames).mpr ⟨w_running, w_runnable, w_alone, w_named, w_hears, w_ripe, w_room, w_tables⟩
theorem atStart : AtStart classFile x code maxLocals ret World_1 tables_1 room_1 Calls_1 rest_1 Pre_1 launch0 p0 e0 about1 theMethod args0 below0 :=
  ⟨lists_1, trivial, launch0.admits_env _ _ _, launch0.least_env, fairChoices_fair.cas, fairChoices_fair.clock, w_frames, w_args, w_heap, w_applies, trivial, trivial, w_case⟩
end start1
theorem witness_1 : WitnessClaimed_1 := ⟨start1.p0, start1.e0, start1.about1, start1.theMethod, start1.args0, start1.below0, start1.atStart⟩
end Jvm.Pilot.@@N@@
