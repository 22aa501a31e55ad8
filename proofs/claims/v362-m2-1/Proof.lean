import JvmDerived
import JvmDerived.Pilot.@@N@@Statement
import JvmDerived.Pilot.@@N@@Code
set_option linter.unusedVariables false
set_option linter.unusedSimpArgs false
namespace Jvm.RoadKit
open Sem ClassFile Op Lib Jvm.Stand Jvm.Free Jvm.LawKit
section New
variable {p : Program} {l : Launch} {e : Env} {R : Room} {s : State} {m : MethodId} {args : Array Value} {below : List Frame} {meth : Method} {c : Code} {T : State} {locs : List Loc} {cells slots : Nat}
theorem retI (X : Stand p l e R s m args below meth c T locs cells slots) (hx : p.tables.exec = Jvm.exec) {pc : Nat} {Ls : Array Slot} {z : Int32} {rest : List Value} (hret : meth.sig.returnType = some .int) (hd : decode c.code pc = .ok (.ireturn, 1)) {fs : List Frame}
    (hl : ∀ (f : JFrame) (acts : List Action), f.method = m → f.locked = none → f.entered = [] → (doReturn e (T.setTop f) acts (some (.int z))).1 = T.setFrames fs) : Steps p.tables e below (T.setTop (mkF m pc Ls (.int z :: rest))) (T.setFrames fs) := by
  have hm' : T.vm.method? m = some meth := X.method'
  have hn : narrow .int (.int z) = .int z := rfl
  show Steps p.tables e below (T.setTop { method := m, pc := pc, locals := Ls, stack := _ :: rest, locked := none }) _
  jvm_step X.here [X.here.top, hx, hd, hm', hret, hn]
  first | (intro acts; rw [hl _ acts rfl rfl rfl]) | rw [hl _ _ rfl rfl rfl]
  exact Steps.refl _
end New
end Jvm.RoadKit
namespace Jvm.Own
open Jvm Jvm.ClassFile Sem Op Lib Jvm.Free Jvm.Stand Jvm.LawKit Jvm.RoadKit Bundle
/-! ## A walk by continuations: `Goes` says that the run from here comes to a state with K; each rule takes one instruction off. -/
def Goes (p : Program) (e : Env) (below : List Frame) (K : State → Prop) (T : State) (m : MethodId) (pc : Nat) (L : Array Slot) (S : List Value) : Prop :=
  ∃ u, Steps p.tables e below (T.setTop (mkF m pc L S)) u ∧ K u
/-- where one body's walk stands: the standing facts, the state T with the heap h, what was written lies in new cells -/
def Wk (p : Program) (l : Launch) (e : Env) (R : Room) (s : State) (m : MethodId) (args : Array Value) (below : List Frame) (meth : Method) (c : Code) (Z : State) (n0 : Nat) (y : MethodName) (code : ByteArray) (ml : Nat) (ret : Option FieldType)
    (T : State) (cells slots : Nat) (h : Heap) : Prop :=
  p.tables.exec = Jvm.exec ∧ Z.Warmed39 s.vm ∧ c.code = code ∧ c.maxLocals = ml ∧ s.vm.findClass y.cls = some m.cls ∧ meth.name = y.name ∧ meth.sig.returnType = ret ∧ meth.locks = false ∧ n0 ≤ h.size ∧
  ∃ locs, Stand p l e R s m args below meth c T locs cells slots ∧ T.heap = h ∧ Fr n0 locs
def Qc (n0 : Nat) (w : Option Value) (Q : Heap → Prop) (v : Option Value) (h : Heap) (L : List Loc) : Prop := v = w ∧ Q h ∧ Fr n0 L ∧ n0 ≤ h.size
/-- what a body's end says: it returned w, the heap satisfies Q -/
def Done (below : List Frame) (s : State) (n0 : Nat) (R : Room) (w : Option Value) (Q : Heap → Prop) (u : State) : Prop :=
  ∃ o, u.status = .running ∧ Ended u below o ∧ ∃ v L, o = .returned v ∧ Qc n0 w Q v u.heap L ∧ FrameEnd s o u L R.cells R.slots
/-- a body's contract -/
def Con (l : Launch) (Z : State) (y : MethodName) (code : ByteArray) (ml : Nat) (ret : Option FieldType) (R : Room) (as : Array Value) (h0 : Heap) (n0 : Nat) (w : Option Value) (Q : Heap → Prop) : Prop :=
  ∀ ws, MetFree l y (head1 (Jvm.Cond.code y code ml ret :: ws) R) (fun a U => a = as ∧ Z.Warmed39 U.vm ∧ U.heap = h0) (fun _ _ _ _ _ => True)
    (fun _ U o U' => ∃ v L, o = .returned v ∧ Qc n0 w Q v U'.heap L ∧ FrameEnd U o U' L R.cells R.slots)
theorem con_of {l : Launch} {Z : State} {y : MethodName} {code : ByteArray} {ml : Nat} {ret : Option FieldType} {R : Room} {as : Array Value} {h0 : Heap} {n0 : Nat} {w : Option Value} {Q : Heap → Prop}
    (hpl : plainFor y = true) (hn0 : n0 ≤ h0.size) {L0 : Array Slot} (hL : ∀ m, entryFrame m as ml = mkF m 0 L0 [])
    (body : ∀ (p : Program) (e : Env) (s : State) (m : MethodId) (below : List Frame) (meth : Method) (c : Code) (T : State), Wk p l e R s m as below meth c Z n0 y code ml ret T 0 0 h0 → Goes p e below (Done below s n0 R w Q) T m 0 L0 []) :
    Con l Z y code ml ret R as h0 n0 w Q := by
  intro ws
  refine MetFree.of_bodySF hpl hisR ?_
  intro p e s m args below meth c s₁ Bd hml0 hP hK
  obtain ⟨rfl, hZ, hh⟩ := hP
  have X0 : Stand p l e R s m args below meth c s₁ [] 0 0 := Stand.of_body Bd
  have e0 : s₁.heap = h0 := by rw [← hh, Bd.state]; rfl
  obtain ⟨u, st, o, h1, h2, h3⟩ := body p e s m below meth c s₁ ⟨Bd.exec, hZ, Bd.bytes, hml0, findClass_of_methodNamed Bd.named, (name_of_methodNamed Bd.named Bd.method).1, Bd.returns, Bd.notSynchronized, hn0, [], X0, e0, Fr.nil n0⟩
  exact ⟨u, o, castTop (hL m) st, h1, h2, h3⟩
/-- Java's >>> -/
def ush (a b : Int32) : Int32 := (a.toUInt32 >>> (b &&& 31).toUInt32).toInt32
def ushL (a : Int64) (b : Int32) : Int64 := (a.toUInt64 >>> (b &&& 0x3f).toInt64.toUInt64).toInt64
/-- a local that holds nothing, or one word -/
def OneS (s : Slot) : Prop := s = .unset ∨ ∃ w : Value, s = .val w ∧ w.category = 1
theorem OneS.u : OneS .unset := Or.inl rfl
theorem OneS.i (z : Int32) : OneS (.val (.int z)) := Or.inr ⟨_, rfl, rfl⟩
theorem OneS.r (z : Addr) : OneS (.val (.ref z)) := Or.inr ⟨_, rfl, rfl⟩
section Rules
variable {p : Program} {l : Launch} {e : Env} {R : Room} {s : State} {m : MethodId} {args : Array Value} {below : List Frame} {meth : Method} {c : Code} {Z : State} {n0 : Nat} {y : MethodName} {code : ByteArray} {ml : Nat} {ret : Option FieldType}
  {T : State} {cells slots : Nat} {h : Heap} {K : State → Prop} {L : Array Slot} {S : List Value} {pc pc' : Nat} {a0 : Array Value}
theorem Goes.via {T' : State} {L' : Array Slot} {S' : List Value} (st : ∀ target, Steps p.tables e below (T'.setTop (mkF m pc' L' S')) target → Steps p.tables e below (T.setTop (mkF m pc L S)) target) (g : Goes p e below K T' m pc' L' S') : Goes p e below K T m pc L S := by
  obtain ⟨u, a, b⟩ := g
  exact ⟨u, st _ a, b⟩
theorem Wk.size (X : Wk p l e R s m args below meth c Z n0 y code ml ret T cells slots h) : n0 ≤ h.size := X.2.2.2.2.2.2.2.2.1
-- plain steps
theorem w_iloadN (X : Wk p l e R s m args below meth c Z n0 y code ml ret T cells slots h) {k : Fin 4} {v : Int32} (hd : decode code pc = .ok (.iload_n k, 1)) (hp : pc + 1 = pc') (hl : L[k.val]? = some (.val (.int v))) (g : Goes p e below K T m pc' L (.int v :: S)) : Goes p e below K T m pc L S := by
  obtain ⟨hx, -, hby, -, -, -, -, -, -, locs, X, -, -⟩ := X
  subst hp
  obtain ⟨u1, a1, b1⟩ := g
  exact ⟨u1, XS.iloadN (g := mkF m pc L S) X.here hx rfl (hb hby hd) hl a1, b1⟩
theorem w_iload (X : Wk p l e R s m args below meth c Z n0 y code ml ret T cells slots h) {k : Nat} {v : Int32} (hd : decode code pc = .ok (.iload k, 2)) (hp : pc + 2 = pc') (hl : L[k]? = some (.val (.int v))) (g : Goes p e below K T m pc' L (.int v :: S)) : Goes p e below K T m pc L S := by
  obtain ⟨hx, -, hby, -, -, -, -, -, -, locs, X, -, -⟩ := X
  subst hp
  obtain ⟨u1, a1, b1⟩ := g
  exact ⟨u1, XS.iload (g := mkF m pc L S) X.here hx rfl (hb hby hd) hl a1, b1⟩
theorem w_lloadN (X : Wk p l e R s m args below meth c Z n0 y code ml ret T cells slots h) {k : Fin 4} {v : Int64} (hd : decode code pc = .ok (.lload_n k, 1)) (hp : pc + 1 = pc') (hl : L[k.val]? = some (.val (.long v))) (g : Goes p e below K T m pc' L (.long v :: S)) : Goes p e below K T m pc L S := by
  obtain ⟨hx, -, hby, -, -, -, -, -, -, locs, X, -, -⟩ := X
  subst hp
  obtain ⟨u1, a1, b1⟩ := g
  exact ⟨u1, XS.lloadN (g := mkF m pc L S) X.here hx rfl (hb hby hd) hl a1, b1⟩
theorem w_lload (X : Wk p l e R s m args below meth c Z n0 y code ml ret T cells slots h) {k : Nat} {v : Int64} (hd : decode code pc = .ok (.lload k, 2)) (hp : pc + 2 = pc') (hl : L[k]? = some (.val (.long v))) (g : Goes p e below K T m pc' L (.long v :: S)) : Goes p e below K T m pc L S := by
  obtain ⟨hx, -, hby, -, -, -, -, -, -, locs, X, -, -⟩ := X
  subst hp
  obtain ⟨u1, a1, b1⟩ := g
  exact ⟨u1, XS.lload (g := mkF m pc L S) X.here hx rfl (hb hby hd) hl a1, b1⟩
theorem w_aloadN (X : Wk p l e R s m args below meth c Z n0 y code ml ret T cells slots h) {k : Fin 4} {v : Value} (hd : decode code pc = .ok (.aload_n k, 1)) (hp : pc + 1 = pc') (hl : L[k.val]? = some (.val v)) (hv : v.isRef = true) (g : Goes p e below K T m pc' L (v :: S)) : Goes p e below K T m pc L S := by
  obtain ⟨hx, -, hby, -, -, -, -, -, -, locs, X, -, -⟩ := X
  subst hp
  obtain ⟨u1, a1, b1⟩ := g
  exact ⟨u1, XS.aloadN (g := mkF m pc L S) X.here hx rfl (hb hby hd) hl hv a1, b1⟩
theorem w_aload (X : Wk p l e R s m args below meth c Z n0 y code ml ret T cells slots h) {k : Nat} {v : Value} (hd : decode code pc = .ok (.aload k, 2)) (hp : pc + 2 = pc') (hl : L[k]? = some (.val v)) (hv : v.isRef = true) (g : Goes p e below K T m pc' L (v :: S)) : Goes p e below K T m pc L S := by
  obtain ⟨hx, -, hby, -, -, -, -, -, -, locs, X, -, -⟩ := X
  subst hp
  obtain ⟨u1, a1, b1⟩ := g
  exact ⟨u1, XS.aload (g := mkF m pc L S) X.here hx rfl (hb hby hd) hl hv a1, b1⟩
theorem w_istoreN (X : Wk p l e R s m args below meth c Z n0 y code ml ret T cells slots h) {k : Fin 4} {v : Int32} {L' : Array Slot} (hd : decode code pc = .ok (.istore_n k, 1)) (hp : pc + 1 = pc') (hl : storeLocals L k.val (.int v) = some L') (g : Goes p e below K T m pc' L' S) : Goes p e below K T m pc L (.int v :: S) := by
  obtain ⟨hx, -, hby, -, -, -, -, -, -, locs, X, -, -⟩ := X
  subst hp
  obtain ⟨u1, a1, b1⟩ := g
  exact ⟨u1, XS.istoreN (g := mkF m pc L (.int v :: S)) X.here hx rfl (hb hby hd) rfl hl a1, b1⟩
theorem w_istore (X : Wk p l e R s m args below meth c Z n0 y code ml ret T cells slots h) {k : Nat} {v : Int32} {L' : Array Slot} (hd : decode code pc = .ok (.istore k, 2)) (hp : pc + 2 = pc') (hl : storeLocals L k (.int v) = some L') (g : Goes p e below K T m pc' L' S) : Goes p e below K T m pc L (.int v :: S) := by
  obtain ⟨hx, -, hby, -, -, -, -, -, -, locs, X, -, -⟩ := X
  subst hp
  obtain ⟨u1, a1, b1⟩ := g
  exact ⟨u1, XS.istore (g := mkF m pc L (.int v :: S)) X.here hx rfl (hb hby hd) rfl hl a1, b1⟩
theorem w_lstoreN (X : Wk p l e R s m args below meth c Z n0 y code ml ret T cells slots h) {k : Fin 4} {v : Int64} {L' : Array Slot} (hd : decode code pc = .ok (.lstore_n k, 1)) (hp : pc + 1 = pc') (hl : storeLocals L k.val (.long v) = some L') (g : Goes p e below K T m pc' L' S) : Goes p e below K T m pc L (.long v :: S) := by
  obtain ⟨hx, -, hby, -, -, -, -, -, -, locs, X, -, -⟩ := X
  subst hp
  obtain ⟨u1, a1, b1⟩ := g
  exact ⟨u1, XS.lstoreN (g := mkF m pc L (.long v :: S)) X.here hx rfl (hb hby hd) rfl hl a1, b1⟩
theorem w_lstore (X : Wk p l e R s m args below meth c Z n0 y code ml ret T cells slots h) {k : Nat} {v : Int64} {L' : Array Slot} (hd : decode code pc = .ok (.lstore k, 2)) (hp : pc + 2 = pc') (hl : storeLocals L k (.long v) = some L') (g : Goes p e below K T m pc' L' S) : Goes p e below K T m pc L (.long v :: S) := by
  obtain ⟨hx, -, hby, -, -, -, -, -, -, locs, X, -, -⟩ := X
  subst hp
  obtain ⟨u1, a1, b1⟩ := g
  exact ⟨u1, XS.lstore (g := mkF m pc L (.long v :: S)) X.here hx rfl (hb hby hd) rfl hl a1, b1⟩
theorem w_astoreN (X : Wk p l e R s m args below meth c Z n0 y code ml ret T cells slots h) {k : Fin 4} {v : Value} {L' : Array Slot} (hd : decode code pc = .ok (.astore_n k, 1)) (hp : pc + 1 = pc') (hv : v.isRef = true) (hl : storeLocals L k.val v = some L') (g : Goes p e below K T m pc' L' S) : Goes p e below K T m pc L (v :: S) := by
  obtain ⟨hx, -, hby, -, -, -, -, -, -, locs, X, -, -⟩ := X
  subst hp
  obtain ⟨u1, a1, b1⟩ := g
  exact ⟨u1, XS.astoreN (g := mkF m pc L (v :: S)) X.here hx rfl (hb hby hd) rfl hv hl a1, b1⟩
theorem w_astore (X : Wk p l e R s m args below meth c Z n0 y code ml ret T cells slots h) {k : Nat} {v : Value} {L' : Array Slot} (hd : decode code pc = .ok (.astore k, 2)) (hp : pc + 2 = pc') (hv : v.isRef = true) (hl : storeLocals L k v = some L') (g : Goes p e below K T m pc' L' S) : Goes p e below K T m pc L (v :: S) := by
  obtain ⟨hx, -, hby, -, -, -, -, -, -, locs, X, -, -⟩ := X
  subst hp
  obtain ⟨u1, a1, b1⟩ := g
  exact ⟨u1, XS.astore (g := mkF m pc L (v :: S)) X.here hx rfl (hb hby hd) rfl hv hl a1, b1⟩
theorem w_iconst (X : Wk p l e R s m args below meth c Z n0 y code ml ret T cells slots h) {i : Int} {v : Int32} (hd : decode code pc = .ok (.iconst i, 1)) (hp : pc + 1 = pc') (hv : Int32.ofInt i = v) (g : Goes p e below K T m pc' L (.int v :: S)) : Goes p e below K T m pc L S := by
  obtain ⟨hx, -, hby, -, -, -, -, -, -, locs, X, -, -⟩ := X
  subst hp hv
  obtain ⟨u1, a1, b1⟩ := g
  exact ⟨u1, XS.iconst (g := mkF m pc L S) X.here hx rfl (hb hby hd) a1, b1⟩
theorem w_bipush (X : Wk p l e R s m args below meth c Z n0 y code ml ret T cells slots h) {i : Int} {v : Int32} (hd : decode code pc = .ok (.bipush i, 2)) (hp : pc + 2 = pc') (hv : (Int8.ofInt i).toInt32 = v) (g : Goes p e below K T m pc' L (.int v :: S)) : Goes p e below K T m pc L S := by
  obtain ⟨hx, -, hby, -, -, -, -, -, -, locs, X, -, -⟩ := X
  subst hp hv
  obtain ⟨u1, a1, b1⟩ := g
  exact ⟨u1, XS.bipush (g := mkF m pc L S) X.here hx rfl (hb hby hd) a1, b1⟩
theorem w_sipush (X : Wk p l e R s m args below meth c Z n0 y code ml ret T cells slots h) {i : Int} {v : Int32} (hd : decode code pc = .ok (.sipush i, 3)) (hp : pc + 3 = pc') (hv : (Int16.ofInt i).toInt32 = v) (g : Goes p e below K T m pc' L (.int v :: S)) : Goes p e below K T m pc L S := by
  obtain ⟨hx, -, hby, -, -, -, -, -, -, locs, X, -, -⟩ := X
  subst hp hv
  obtain ⟨u1, a1, b1⟩ := g
  exact ⟨u1, XS.sipush (g := mkF m pc L S) X.here hx rfl (hb hby hd) a1, b1⟩
theorem w_lconst (X : Wk p l e R s m args below meth c Z n0 y code ml ret T cells slots h) {i : Fin 2} {v : Int64} (hd : decode code pc = .ok (.lconst i, 1)) (hp : pc + 1 = pc') (hv : Int64.ofNat i = v) (g : Goes p e below K T m pc' L (.long v :: S)) : Goes p e below K T m pc L S := by
  obtain ⟨hx, -, hby, -, -, -, -, -, -, locs, X, -, -⟩ := X
  subst hp hv
  obtain ⟨u1, a1, b1⟩ := g
  exact ⟨u1, XS.lconst (g := mkF m pc L S) X.here hx rfl (hb hby hd) a1, b1⟩
theorem w_ldcInt (X : Wk p l e R s m args below meth c Z n0 y code ml ret T cells slots h) {i : Nat} {v : Int32} (hc : (Jvm.Cond.constant y.cls i v).before a0 Z = true) (hd : decode code pc = .ok (.ldc i, 2)) (hp : pc + 2 = pc') (g : Goes p e below K T m pc' L (.int v :: S)) : Goes p e below K T m pc L S := by
  obtain ⟨hx, hZ, hby, -, hown, -, -, -, -, locs, X, -, -⟩ := X
  subst hp
  obtain ⟨u1, a1, b1⟩ := g
  exact ⟨u1, X.ldcInt hx hown (mvT hZ hc) (g := mkF m pc L S) rfl (hb hby hd) _ a1, b1⟩
theorem w_ldc2Long (X : Wk p l e R s m args below meth c Z n0 y code ml ret T cells slots h) {i : Nat} {v : Int64} (hc : (Jvm.Cond.constantLong y.cls i v).before a0 Z = true) (hd : decode code pc = .ok (.ldc2_w i, 3)) (hp : pc + 3 = pc') (g : Goes p e below K T m pc' L (.long v :: S)) : Goes p e below K T m pc L S := by
  obtain ⟨hx, hZ, hby, -, hown, -, -, -, -, locs, X, -, -⟩ := X
  subst hp
  obtain ⟨u1, a1, b1⟩ := g
  exact ⟨u1, X.ldc2Long hx hown (mvT hZ hc) (g := mkF m pc L S) rfl (hb hby hd) _ a1, b1⟩
theorem w_iinc (X : Wk p l e R s m args below meth c Z n0 y code ml ret T cells slots h) {k : Nat} {d : Int} {v v' : Int32} {L' : Array Slot} (hd : decode code pc = .ok (.iinc k d, 3)) (hp : pc + 3 = pc') (hl : L[k]? = some (.val (.int v))) (hv : v + Int32.ofInt d = v') (hl' : storeLocals L k (.int v') = some L') (g : Goes p e below K T m pc' L' S) : Goes p e below K T m pc L S := by
  obtain ⟨hx, -, hby, -, -, -, -, -, -, locs, X, -, -⟩ := X
  subst hp hv
  obtain ⟨u1, a1, b1⟩ := g
  exact ⟨u1, XS.iinc (g := mkF m pc L S) X.here hx rfl (hb hby hd) hl hl' a1, b1⟩
theorem w_goto (X : Wk p l e R s m args below meth c Z n0 y code ml ret T cells slots h) {o : Int} (hd : decode code pc = .ok (.goto o, 3)) (ho : 0 ≤ (pc : Int) + o) (hp : ((pc : Int) + o).toNat = pc') (g : Goes p e below K T m pc' L S) : Goes p e below K T m pc L S := by
  obtain ⟨hx, -, hby, -, -, -, -, -, -, locs, X, -, -⟩ := X
  obtain ⟨u1, a1, b1⟩ := g
  exact ⟨u1, XS.goto (g := mkF m pc L S) X.here hx rfl (pc0 := pc) rfl (hb hby hd) ho hp a1, b1⟩
theorem w_dup (X : Wk p l e R s m args below meth c Z n0 y code ml ret T cells slots h) {v : Value} (hd : decode code pc = .ok (.dup, 1)) (hp : pc + 1 = pc') (hv : v.category = 1) (g : Goes p e below K T m pc' L (v :: v :: S)) : Goes p e below K T m pc L (v :: S) := by
  obtain ⟨hx, -, hby, -, -, -, -, -, -, locs, X, -, -⟩ := X
  subst hp
  obtain ⟨u1, a1, b1⟩ := g
  exact ⟨u1, XS.dup (g := mkF m pc L (v :: S)) X.here hx rfl (hb hby hd) rfl hv a1, b1⟩
theorem w_dup2 (X : Wk p l e R s m args below meth c Z n0 y code ml ret T cells slots h) {v w : Value} (hd : decode code pc = .ok (.dup2, 1)) (hp : pc + 1 = pc') (hv : v.category = 1) (hw : w.category = 1) (g : Goes p e below K T m pc' L (v :: w :: v :: w :: S)) : Goes p e below K T m pc L (v :: w :: S) := by
  obtain ⟨hx, -, hby, -, -, -, -, -, -, locs, X, -, -⟩ := X
  subst hp
  obtain ⟨u1, a1, b1⟩ := g
  exact ⟨u1, Jvm.Free.XT.dup2 (g := mkF m pc L (v :: w :: S)) X.here hx rfl (hb hby hd) rfl hv hw a1, b1⟩
theorem w_pop (X : Wk p l e R s m args below meth c Z n0 y code ml ret T cells slots h) {v : Value} (hd : decode code pc = .ok (.pop, 1)) (hp : pc + 1 = pc') (hv : v.category = 1) (g : Goes p e below K T m pc' L S) : Goes p e below K T m pc L (v :: S) := by
  obtain ⟨hx, -, hby, -, -, -, -, -, -, locs, X, -, -⟩ := X
  subst hp
  obtain ⟨u1, a1, b1⟩ := g
  exact ⟨u1, XS.pop (g := mkF m pc L (v :: S)) X.here hx rfl (hb hby hd) rfl hv a1, b1⟩
theorem w_dupX1 (X : Wk p l e R s m args below meth c Z n0 y code ml ret T cells slots h) {v w : Value} (hd : decode code pc = .ok (.dup_x1, 1)) (hp : pc + 1 = pc') (hv : v.category = 1) (hw : w.category = 1) (g : Goes p e below K T m pc' L (v :: w :: v :: S)) : Goes p e below K T m pc L (v :: w :: S) := by
  obtain ⟨hx, -, hby, -, -, -, -, -, -, locs, X, -, -⟩ := X
  subst hp
  obtain ⟨u1, a1, b1⟩ := g
  exact ⟨u1, XS.dupX1 (g := mkF m pc L (v :: w :: S)) X.here hx rfl (hb hby hd) rfl hv hw a1, b1⟩
theorem w_null (X : Wk p l e R s m args below meth c Z n0 y code ml ret T cells slots h) (hd : decode code pc = .ok (.aconst_null, 1)) (hp : pc + 1 = pc') (g : Goes p e below K T m pc' L (.null :: S)) : Goes p e below K T m pc L S := by
  obtain ⟨hx, -, hby, -, -, -, -, -, -, locs, X, -, -⟩ := X
  subst hp
  obtain ⟨u1, a1, b1⟩ := g
  exact ⟨u1, XS.aconstNull (g := mkF m pc L S) X.here hx rfl (hb hby hd) a1, b1⟩
theorem w_ifnullYes (X : Wk p l e R s m args below meth c Z n0 y code ml ret T cells slots h) {o : Int} (hd : decode code pc = .ok (.ifnull o, 3)) (ho : 0 ≤ (pc : Int) + o) (hp : ((pc : Int) + o).toNat = pc') (g : Goes p e below K T m pc' L S) : Goes p e below K T m pc L (.null :: S) := by
  obtain ⟨hx, -, hby, -, -, -, -, -, -, locs, X, -, -⟩ := X
  obtain ⟨u1, a1, b1⟩ := g
  exact ⟨u1, XS.ifnullYes (g := mkF m pc L (.null :: S)) X.here hx rfl (pc0 := pc) rfl (hb hby hd) rfl ho hp a1, b1⟩
theorem w_ifnullNo (X : Wk p l e R s m args below meth c Z n0 y code ml ret T cells slots h) {o : Int} {a : Addr} (hd : decode code pc = .ok (.ifnull o, 3)) (hp : pc + 3 = pc') (g : Goes p e below K T m pc' L S) : Goes p e below K T m pc L (.ref a :: S) := by
  obtain ⟨hx, -, hby, -, -, -, -, -, -, locs, X, -, -⟩ := X
  subst hp
  obtain ⟨u1, a1, b1⟩ := g
  exact ⟨u1, XS.ifnullNo (g := mkF m pc L (.ref a :: S)) X.here hx rfl (hb hby hd) rfl a1, b1⟩
theorem w_ifnonnullYes (X : Wk p l e R s m args below meth c Z n0 y code ml ret T cells slots h) {o : Int} {a : Addr} (hd : decode code pc = .ok (.ifnonnull o, 3)) (ho : 0 ≤ (pc : Int) + o) (hp : ((pc : Int) + o).toNat = pc') (g : Goes p e below K T m pc' L S) : Goes p e below K T m pc L (.ref a :: S) := by
  obtain ⟨hx, -, hby, -, -, -, -, -, -, locs, X, -, -⟩ := X
  obtain ⟨u1, a1, b1⟩ := g
  exact ⟨u1, XS.ifnonnullYes (g := mkF m pc L (.ref a :: S)) X.here hx rfl (pc0 := pc) rfl (hb hby hd) rfl ho hp a1, b1⟩
theorem w_ifnonnullNo (X : Wk p l e R s m args below meth c Z n0 y code ml ret T cells slots h) {o : Int} (hd : decode code pc = .ok (.ifnonnull o, 3)) (hp : pc + 3 = pc') (g : Goes p e below K T m pc' L S) : Goes p e below K T m pc L (.null :: S) := by
  obtain ⟨hx, -, hby, -, -, -, -, -, -, locs, X, -, -⟩ := X
  subst hp
  obtain ⟨u1, a1, b1⟩ := g
  exact ⟨u1, XS.ifnonnullNo (g := mkF m pc L (.null :: S)) X.here hx rfl (hb hby hd) rfl a1, b1⟩
theorem w_iadd (X : Wk p l e R s m args below meth c Z n0 y code ml ret T cells slots h) {a b : Int32} (hd : decode code pc = .ok (.iadd, 1)) (hp : pc + 1 = pc') (g : Goes p e below K T m pc' L (.int (a + b) :: S)) : Goes p e below K T m pc L (.int b :: .int a :: S) := by
  obtain ⟨hx, -, hby, -, -, -, -, -, -, locs, X, -, -⟩ := X
  subst hp
  obtain ⟨u1, a1, b1⟩ := g
  exact ⟨u1, XS.iadd (g := mkF m pc L (.int b :: .int a :: S)) X.here hx rfl (hb hby hd) rfl a1, b1⟩
theorem w_ladd (X : Wk p l e R s m args below meth c Z n0 y code ml ret T cells slots h) {a b : Int64} (hd : decode code pc = .ok (.ladd, 1)) (hp : pc + 1 = pc') (g : Goes p e below K T m pc' L (.long (a + b) :: S)) : Goes p e below K T m pc L (.long b :: .long a :: S) := by
  obtain ⟨hx, -, hby, -, -, -, -, -, -, locs, X, -, -⟩ := X
  subst hp
  obtain ⟨u1, a1, b1⟩ := g
  exact ⟨u1, XS.ladd (g := mkF m pc L (.long b :: .long a :: S)) X.here hx rfl (hb hby hd) rfl a1, b1⟩
theorem w_isub (X : Wk p l e R s m args below meth c Z n0 y code ml ret T cells slots h) {a b : Int32} (hd : decode code pc = .ok (.isub, 1)) (hp : pc + 1 = pc') (g : Goes p e below K T m pc' L (.int (a - b) :: S)) : Goes p e below K T m pc L (.int b :: .int a :: S) := by
  obtain ⟨hx, -, hby, -, -, -, -, -, -, locs, X, -, -⟩ := X
  subst hp
  obtain ⟨u1, a1, b1⟩ := g
  exact ⟨u1, XS.isub (g := mkF m pc L (.int b :: .int a :: S)) X.here hx rfl (hb hby hd) rfl a1, b1⟩
theorem w_lsub (X : Wk p l e R s m args below meth c Z n0 y code ml ret T cells slots h) {a b : Int64} (hd : decode code pc = .ok (.lsub, 1)) (hp : pc + 1 = pc') (g : Goes p e below K T m pc' L (.long (a - b) :: S)) : Goes p e below K T m pc L (.long b :: .long a :: S) := by
  obtain ⟨hx, -, hby, -, -, -, -, -, -, locs, X, -, -⟩ := X
  subst hp
  obtain ⟨u1, a1, b1⟩ := g
  exact ⟨u1, XS.lsub (g := mkF m pc L (.long b :: .long a :: S)) X.here hx rfl (hb hby hd) rfl a1, b1⟩
theorem w_imul (X : Wk p l e R s m args below meth c Z n0 y code ml ret T cells slots h) {a b : Int32} (hd : decode code pc = .ok (.imul, 1)) (hp : pc + 1 = pc') (g : Goes p e below K T m pc' L (.int (a * b) :: S)) : Goes p e below K T m pc L (.int b :: .int a :: S) := by
  obtain ⟨hx, -, hby, -, -, -, -, -, -, locs, X, -, -⟩ := X
  subst hp
  obtain ⟨u1, a1, b1⟩ := g
  exact ⟨u1, XS.imul (g := mkF m pc L (.int b :: .int a :: S)) X.here hx rfl (hb hby hd) rfl a1, b1⟩
theorem w_lmul (X : Wk p l e R s m args below meth c Z n0 y code ml ret T cells slots h) {a b : Int64} (hd : decode code pc = .ok (.lmul, 1)) (hp : pc + 1 = pc') (g : Goes p e below K T m pc' L (.long (a * b) :: S)) : Goes p e below K T m pc L (.long b :: .long a :: S) := by
  obtain ⟨hx, -, hby, -, -, -, -, -, -, locs, X, -, -⟩ := X
  subst hp
  obtain ⟨u1, a1, b1⟩ := g
  exact ⟨u1, XS.lmul (g := mkF m pc L (.long b :: .long a :: S)) X.here hx rfl (hb hby hd) rfl a1, b1⟩
theorem w_iand (X : Wk p l e R s m args below meth c Z n0 y code ml ret T cells slots h) {a b : Int32} (hd : decode code pc = .ok (.iand, 1)) (hp : pc + 1 = pc') (g : Goes p e below K T m pc' L (.int (a &&& b) :: S)) : Goes p e below K T m pc L (.int b :: .int a :: S) := by
  obtain ⟨hx, -, hby, -, -, -, -, -, -, locs, X, -, -⟩ := X
  subst hp
  obtain ⟨u1, a1, b1⟩ := g
  exact ⟨u1, XS.iand (g := mkF m pc L (.int b :: .int a :: S)) X.here hx rfl (hb hby hd) rfl a1, b1⟩
theorem w_land (X : Wk p l e R s m args below meth c Z n0 y code ml ret T cells slots h) {a b : Int64} (hd : decode code pc = .ok (.land, 1)) (hp : pc + 1 = pc') (g : Goes p e below K T m pc' L (.long (a &&& b) :: S)) : Goes p e below K T m pc L (.long b :: .long a :: S) := by
  obtain ⟨hx, -, hby, -, -, -, -, -, -, locs, X, -, -⟩ := X
  subst hp
  obtain ⟨u1, a1, b1⟩ := g
  exact ⟨u1, XS.land (g := mkF m pc L (.long b :: .long a :: S)) X.here hx rfl (hb hby hd) rfl a1, b1⟩
theorem w_ior (X : Wk p l e R s m args below meth c Z n0 y code ml ret T cells slots h) {a b : Int32} (hd : decode code pc = .ok (.ior, 1)) (hp : pc + 1 = pc') (g : Goes p e below K T m pc' L (.int (a ||| b) :: S)) : Goes p e below K T m pc L (.int b :: .int a :: S) := by
  obtain ⟨hx, -, hby, -, -, -, -, -, -, locs, X, -, -⟩ := X
  subst hp
  obtain ⟨u1, a1, b1⟩ := g
  exact ⟨u1, XS.ior (g := mkF m pc L (.int b :: .int a :: S)) X.here hx rfl (hb hby hd) rfl a1, b1⟩
theorem w_lor (X : Wk p l e R s m args below meth c Z n0 y code ml ret T cells slots h) {a b : Int64} (hd : decode code pc = .ok (.lor, 1)) (hp : pc + 1 = pc') (g : Goes p e below K T m pc' L (.long (a ||| b) :: S)) : Goes p e below K T m pc L (.long b :: .long a :: S) := by
  obtain ⟨hx, -, hby, -, -, -, -, -, -, locs, X, -, -⟩ := X
  subst hp
  obtain ⟨u1, a1, b1⟩ := g
  exact ⟨u1, XS.lor (g := mkF m pc L (.long b :: .long a :: S)) X.here hx rfl (hb hby hd) rfl a1, b1⟩
theorem w_ixor (X : Wk p l e R s m args below meth c Z n0 y code ml ret T cells slots h) {a b : Int32} (hd : decode code pc = .ok (.ixor, 1)) (hp : pc + 1 = pc') (g : Goes p e below K T m pc' L (.int (a ^^^ b) :: S)) : Goes p e below K T m pc L (.int b :: .int a :: S) := by
  obtain ⟨hx, -, hby, -, -, -, -, -, -, locs, X, -, -⟩ := X
  subst hp
  obtain ⟨u1, a1, b1⟩ := g
  exact ⟨u1, XS.ixor (g := mkF m pc L (.int b :: .int a :: S)) X.here hx rfl (hb hby hd) rfl a1, b1⟩
theorem w_lxor (X : Wk p l e R s m args below meth c Z n0 y code ml ret T cells slots h) {a b : Int64} (hd : decode code pc = .ok (.lxor, 1)) (hp : pc + 1 = pc') (g : Goes p e below K T m pc' L (.long (a ^^^ b) :: S)) : Goes p e below K T m pc L (.long b :: .long a :: S) := by
  obtain ⟨hx, -, hby, -, -, -, -, -, -, locs, X, -, -⟩ := X
  subst hp
  obtain ⟨u1, a1, b1⟩ := g
  exact ⟨u1, XS.lxor (g := mkF m pc L (.long b :: .long a :: S)) X.here hx rfl (hb hby hd) rfl a1, b1⟩
theorem w_ishl (X : Wk p l e R s m args below meth c Z n0 y code ml ret T cells slots h) {a b : Int32} (hd : decode code pc = .ok (.ishl, 1)) (hp : pc + 1 = pc') (g : Goes p e below K T m pc' L (.int (a <<< (b &&& 31)) :: S)) : Goes p e below K T m pc L (.int b :: .int a :: S) := by
  obtain ⟨hx, -, hby, -, -, -, -, -, -, locs, X, -, -⟩ := X
  subst hp
  obtain ⟨u1, a1, b1⟩ := g
  exact ⟨u1, XS.ishl (g := mkF m pc L (.int b :: .int a :: S)) X.here hx rfl (hb hby hd) rfl a1, b1⟩
theorem w_ishr (X : Wk p l e R s m args below meth c Z n0 y code ml ret T cells slots h) {a b : Int32} (hd : decode code pc = .ok (.ishr, 1)) (hp : pc + 1 = pc') (g : Goes p e below K T m pc' L (.int (a >>> (b &&& 31)) :: S)) : Goes p e below K T m pc L (.int b :: .int a :: S) := by
  obtain ⟨hx, -, hby, -, -, -, -, -, -, locs, X, -, -⟩ := X
  subst hp
  obtain ⟨u1, a1, b1⟩ := g
  exact ⟨u1, XS.ishr (g := mkF m pc L (.int b :: .int a :: S)) X.here hx rfl (hb hby hd) rfl a1, b1⟩
theorem w_iushr (X : Wk p l e R s m args below meth c Z n0 y code ml ret T cells slots h) {a b : Int32} (hd : decode code pc = .ok (.iushr, 1)) (hp : pc + 1 = pc') (g : Goes p e below K T m pc' L (.int (ush a b) :: S)) : Goes p e below K T m pc L (.int b :: .int a :: S) := by
  obtain ⟨hx, -, hby, -, -, -, -, -, -, locs, X, -, -⟩ := X
  subst hp
  obtain ⟨u1, a1, b1⟩ := g
  exact ⟨u1, XS.iushr (g := mkF m pc L (.int b :: .int a :: S)) X.here hx rfl (hb hby hd) rfl a1, b1⟩
theorem w_lshl (X : Wk p l e R s m args below meth c Z n0 y code ml ret T cells slots h) {a : Int64} {b : Int32} (hd : decode code pc = .ok (.lshl, 1)) (hp : pc + 1 = pc') (g : Goes p e below K T m pc' L (.long (a <<< (b &&& 0x3f).toInt64) :: S)) : Goes p e below K T m pc L (.int b :: .long a :: S) := by
  obtain ⟨hx, -, hby, -, -, -, -, -, -, locs, X, -, -⟩ := X
  subst hp
  obtain ⟨u1, a1, b1⟩ := g
  exact ⟨u1, XS.lshl (g := mkF m pc L (.int b :: .long a :: S)) X.here hx rfl (hb hby hd) rfl a1, b1⟩
theorem w_lshr (X : Wk p l e R s m args below meth c Z n0 y code ml ret T cells slots h) {a : Int64} {b : Int32} (hd : decode code pc = .ok (.lshr, 1)) (hp : pc + 1 = pc') (g : Goes p e below K T m pc' L (.long (a >>> (b &&& 0x3f).toInt64) :: S)) : Goes p e below K T m pc L (.int b :: .long a :: S) := by
  obtain ⟨hx, -, hby, -, -, -, -, -, -, locs, X, -, -⟩ := X
  subst hp
  obtain ⟨u1, a1, b1⟩ := g
  exact ⟨u1, XS.lshr (g := mkF m pc L (.int b :: .long a :: S)) X.here hx rfl (hb hby hd) rfl a1, b1⟩
theorem w_lushr (X : Wk p l e R s m args below meth c Z n0 y code ml ret T cells slots h) {a : Int64} {b : Int32} (hd : decode code pc = .ok (.lushr, 1)) (hp : pc + 1 = pc') (g : Goes p e below K T m pc' L (.long (ushL a b) :: S)) : Goes p e below K T m pc L (.int b :: .long a :: S) := by
  obtain ⟨hx, -, hby, -, -, -, -, -, -, locs, X, -, -⟩ := X
  subst hp
  obtain ⟨u1, a1, b1⟩ := g
  exact ⟨u1, XS.lushr (g := mkF m pc L (.int b :: .long a :: S)) X.here hx rfl (hb hby hd) rfl a1, b1⟩
theorem w_ineg (X : Wk p l e R s m args below meth c Z n0 y code ml ret T cells slots h) {a : Int32} (hd : decode code pc = .ok (.ineg, 1)) (hp : pc + 1 = pc') (g : Goes p e below K T m pc' L (.int (-a) :: S)) : Goes p e below K T m pc L (.int a :: S) := by
  obtain ⟨hx, -, hby, -, -, -, -, -, -, locs, X, -, -⟩ := X
  subst hp
  obtain ⟨u1, a1, b1⟩ := g
  exact ⟨u1, XS.ineg (g := mkF m pc L (.int a :: S)) X.here hx rfl (hb hby hd) rfl a1, b1⟩
theorem w_lneg (X : Wk p l e R s m args below meth c Z n0 y code ml ret T cells slots h) {a : Int64} (hd : decode code pc = .ok (.lneg, 1)) (hp : pc + 1 = pc') (g : Goes p e below K T m pc' L (.long (-a) :: S)) : Goes p e below K T m pc L (.long a :: S) := by
  obtain ⟨hx, -, hby, -, -, -, -, -, -, locs, X, -, -⟩ := X
  subst hp
  obtain ⟨u1, a1, b1⟩ := g
  exact ⟨u1, XS.lneg (g := mkF m pc L (.long a :: S)) X.here hx rfl (hb hby hd) rfl a1, b1⟩
theorem w_i2l (X : Wk p l e R s m args below meth c Z n0 y code ml ret T cells slots h) {a : Int32} (hd : decode code pc = .ok (.i2l, 1)) (hp : pc + 1 = pc') (g : Goes p e below K T m pc' L (.long a.toInt64 :: S)) : Goes p e below K T m pc L (.int a :: S) := by
  obtain ⟨hx, -, hby, -, -, -, -, -, -, locs, X, -, -⟩ := X
  subst hp
  obtain ⟨u1, a1, b1⟩ := g
  exact ⟨u1, XS.i2l (g := mkF m pc L (.int a :: S)) X.here hx rfl (hb hby hd) rfl a1, b1⟩
theorem w_l2i (X : Wk p l e R s m args below meth c Z n0 y code ml ret T cells slots h) {a : Int64} (hd : decode code pc = .ok (.l2i, 1)) (hp : pc + 1 = pc') (g : Goes p e below K T m pc' L (.int a.toInt32 :: S)) : Goes p e below K T m pc L (.long a :: S) := by
  obtain ⟨hx, -, hby, -, -, -, -, -, -, locs, X, -, -⟩ := X
  subst hp
  obtain ⟨u1, a1, b1⟩ := g
  exact ⟨u1, XS.l2i (g := mkF m pc L (.long a :: S)) X.here hx rfl (hb hby hd) rfl a1, b1⟩
theorem w_i2b (X : Wk p l e R s m args below meth c Z n0 y code ml ret T cells slots h) {a : Int32} (hd : decode code pc = .ok (.i2b, 1)) (hp : pc + 1 = pc') (g : Goes p e below K T m pc' L (.int a.toInt8.toInt32 :: S)) : Goes p e below K T m pc L (.int a :: S) := by
  obtain ⟨hx, -, hby, -, -, -, -, -, -, locs, X, -, -⟩ := X
  subst hp
  obtain ⟨u1, a1, b1⟩ := g
  exact ⟨u1, XS.i2b (g := mkF m pc L (.int a :: S)) X.here hx rfl (hb hby hd) rfl a1, b1⟩
theorem w_i2s (X : Wk p l e R s m args below meth c Z n0 y code ml ret T cells slots h) {a : Int32} (hd : decode code pc = .ok (.i2s, 1)) (hp : pc + 1 = pc') (g : Goes p e below K T m pc' L (.int a.toInt16.toInt32 :: S)) : Goes p e below K T m pc L (.int a :: S) := by
  obtain ⟨hx, -, hby, -, -, -, -, -, -, locs, X, -, -⟩ := X
  subst hp
  obtain ⟨u1, a1, b1⟩ := g
  exact ⟨u1, XS.i2s (g := mkF m pc L (.int a :: S)) X.here hx rfl (hb hby hd) rfl a1, b1⟩
theorem w_i2c (X : Wk p l e R s m args below meth c Z n0 y code ml ret T cells slots h) {a : Int32} (hd : decode code pc = .ok (.i2c, 1)) (hp : pc + 1 = pc') (g : Goes p e below K T m pc' L (.int a.toUInt32.toUInt16.toUInt32.toInt32 :: S)) : Goes p e below K T m pc L (.int a :: S) := by
  obtain ⟨hx, -, hby, -, -, -, -, -, -, locs, X, -, -⟩ := X
  subst hp
  obtain ⟨u1, a1, b1⟩ := g
  exact ⟨u1, XS.i2c (g := mkF m pc L (.int a :: S)) X.here hx rfl (hb hby hd) rfl a1, b1⟩
theorem w_idiv (X : Wk p l e R s m args below meth c Z n0 y code ml ret T cells slots h) {a b : Int32} (hd : decode code pc = .ok (.idiv, 1)) (hp : pc + 1 = pc') (hb0 : b ≠ 0) (g : Goes p e below K T m pc' L (.int (a / b) :: S)) : Goes p e below K T m pc L (.int b :: .int a :: S) := by
  obtain ⟨hx, -, hby, -, -, -, -, -, -, locs, X, -, -⟩ := X
  subst hp
  obtain ⟨u1, a1, b1⟩ := g
  exact ⟨u1, XS.idiv (g := mkF m pc L (.int b :: .int a :: S)) X.here hx rfl (hb hby hd) rfl hb0 a1, b1⟩
theorem w_irem (X : Wk p l e R s m args below meth c Z n0 y code ml ret T cells slots h) {a b : Int32} (hd : decode code pc = .ok (.irem, 1)) (hp : pc + 1 = pc') (hb0 : b ≠ 0) (g : Goes p e below K T m pc' L (.int (a % b) :: S)) : Goes p e below K T m pc L (.int b :: .int a :: S) := by
  obtain ⟨hx, -, hby, -, -, -, -, -, -, locs, X, -, -⟩ := X
  subst hp
  obtain ⟨u1, a1, b1⟩ := g
  exact ⟨u1, Jvm.RoadKit.iremM (g := mkF m pc L (.int b :: .int a :: S)) X hx rfl (hb hby hd) rfl hb0 a1, b1⟩
theorem w_ldiv (X : Wk p l e R s m args below meth c Z n0 y code ml ret T cells slots h) {a b : Int64} (hd : decode code pc = .ok (.ldiv, 1)) (hp : pc + 1 = pc') (hb0 : b ≠ 0) (g : Goes p e below K T m pc' L (.long (a / b) :: S)) : Goes p e below K T m pc L (.long b :: .long a :: S) := by
  obtain ⟨hx, -, hby, -, -, -, -, -, -, locs, X, -, -⟩ := X
  subst hp
  obtain ⟨u1, a1, b1⟩ := g
  exact ⟨u1, XS.ldiv (g := mkF m pc L (.long b :: .long a :: S)) X.here hx rfl (hb hby hd) rfl hb0 a1, b1⟩
theorem w_lrem (X : Wk p l e R s m args below meth c Z n0 y code ml ret T cells slots h) {a b : Int64} (hd : decode code pc = .ok (.lrem, 1)) (hp : pc + 1 = pc') (hb0 : b ≠ 0) (g : Goes p e below K T m pc' L (.long (a % b) :: S)) : Goes p e below K T m pc L (.long b :: .long a :: S) := by
  obtain ⟨hx, -, hby, -, -, -, -, -, -, locs, X, -, -⟩ := X
  subst hp
  rw [← lrem_mod] at g
  obtain ⟨u1, a1, b1⟩ := g
  exact ⟨u1, XS.lrem (g := mkF m pc L (.long b :: .long a :: S)) X.here hx rfl (hb hby hd) rfl hb0 a1, b1⟩
theorem w_lcmp (X : Wk p l e R s m args below meth c Z n0 y code ml ret T cells slots h) {a b : Int64} (hd : decode code pc = .ok (.lcmp, 1)) (hp : pc + 1 = pc') (g : Goes p e below K T m pc' L (.int (lcmpW a b) :: S)) : Goes p e below K T m pc L (.long b :: .long a :: S) := by
  obtain ⟨hx, -, hby, -, -, -, -, -, -, locs, X, -, -⟩ := X
  subst hp
  obtain ⟨u1, a1, b1⟩ := g
  exact ⟨u1, XS.lcmp (g := mkF m pc L (.long b :: .long a :: S)) X.here hx rfl (hb hby hd) rfl a1, b1⟩
theorem w_icmp_lt (X : Wk p l e R s m args below meth c Z n0 y code ml ret T cells slots h) {a b : Int32} {o : Int} {pcT pcF : Nat} (hd : decode code pc = .ok (.if_icmp .lt o, 3)) (ho : 0 ≤ (pc : Int) + o) (hT : ((pc : Int) + o).toNat = pcT) (hF : pc + 3 = pcF) (gT : a < b → Goes p e below K T m pcT L S) (gF : ¬ a < b → Goes p e below K T m pcF L S) : Goes p e below K T m pc L (.int b :: .int a :: S) := by
  obtain ⟨hx, -, hby, -, -, -, -, -, -, locs, X, -, -⟩ := X
  subst hF
  by_cases q : a < b
  · obtain ⟨u1, a1, b1⟩ := (gT q)
    exact ⟨u1, XS.icmpYes (g := mkF m pc L (.int b :: .int a :: S)) X.here hx rfl (pc0 := pc) rfl (hb hby hd) rfl (tlt q).1 ho hT a1, b1⟩
  · obtain ⟨u1, a1, b1⟩ := (gF q)
    exact ⟨u1, XS.icmpNo (g := mkF m pc L (.int b :: .int a :: S)) X.here hx rfl (hb hby hd) rfl (flt q).1 a1, b1⟩
theorem w_if_lt (X : Wk p l e R s m args below meth c Z n0 y code ml ret T cells slots h) {a : Int32} {o : Int} {pcT pcF : Nat} (hd : decode code pc = .ok (.ifCond .lt o, 3)) (ho : 0 ≤ (pc : Int) + o) (hT : ((pc : Int) + o).toNat = pcT) (hF : pc + 3 = pcF) (gT : a < 0 → Goes p e below K T m pcT L S) (gF : ¬ a < 0 → Goes p e below K T m pcF L S) : Goes p e below K T m pc L (.int a :: S) := by
  obtain ⟨hx, -, hby, -, -, -, -, -, -, locs, X, -, -⟩ := X
  subst hF
  by_cases q : a < 0
  · obtain ⟨u1, a1, b1⟩ := (gT q)
    exact ⟨u1, XS.ifYes (g := mkF m pc L (.int a :: S)) X.here hx rfl (pc0 := pc) rfl (hb hby hd) rfl ((if0 _ _).trans (tlt q).1) ho hT a1, b1⟩
  · obtain ⟨u1, a1, b1⟩ := (gF q)
    exact ⟨u1, XS.ifNo (g := mkF m pc L (.int a :: S)) X.here hx rfl (hb hby hd) rfl ((if0 _ _).trans (flt q).1) a1, b1⟩
theorem w_lcmp_lt (X : Wk p l e R s m args below meth c Z n0 y code ml ret T cells slots h) {a b : Int64} {o : Int} {pcI pcT pcF : Nat} (hd0 : decode code pc = .ok (.lcmp, 1)) (hp : pc + 1 = pcI) (hd : decode code pcI = .ok (.ifCond .lt o, 3)) (ho : 0 ≤ (pcI : Int) + o) (hT : ((pcI : Int) + o).toNat = pcT) (hF : pcI + 3 = pcF) (gT : a < b → Goes p e below K T m pcT L S) (gF : ¬ a < b → Goes p e below K T m pcF L S) : Goes p e below K T m pc L (.long b :: .long a :: S) :=
  w_lcmp X hd0 hp (w_if_lt X hd ho hT hF (fun q => gT ((lw_lt a b).mp q)) (fun q => gF (fun r => q ((lw_lt a b).mpr r))))
theorem w_icmp_ge (X : Wk p l e R s m args below meth c Z n0 y code ml ret T cells slots h) {a b : Int32} {o : Int} {pcT pcF : Nat} (hd : decode code pc = .ok (.if_icmp .ge o, 3)) (ho : 0 ≤ (pc : Int) + o) (hT : ((pc : Int) + o).toNat = pcT) (hF : pc + 3 = pcF) (gT : ¬ a < b → Goes p e below K T m pcT L S) (gF : a < b → Goes p e below K T m pcF L S) : Goes p e below K T m pc L (.int b :: .int a :: S) := by
  obtain ⟨hx, -, hby, -, -, -, -, -, -, locs, X, -, -⟩ := X
  subst hF
  by_cases q : ¬ a < b
  · obtain ⟨u1, a1, b1⟩ := (gT q)
    exact ⟨u1, XS.icmpYes (g := mkF m pc L (.int b :: .int a :: S)) X.here hx rfl (pc0 := pc) rfl (hb hby hd) rfl (flt q).2.1 ho hT a1, b1⟩
  · obtain ⟨u1, a1, b1⟩ := (gF (Classical.not_not.mp q))
    exact ⟨u1, XS.icmpNo (g := mkF m pc L (.int b :: .int a :: S)) X.here hx rfl (hb hby hd) rfl (tlt (Classical.not_not.mp q)).2.1 a1, b1⟩
theorem w_if_ge (X : Wk p l e R s m args below meth c Z n0 y code ml ret T cells slots h) {a : Int32} {o : Int} {pcT pcF : Nat} (hd : decode code pc = .ok (.ifCond .ge o, 3)) (ho : 0 ≤ (pc : Int) + o) (hT : ((pc : Int) + o).toNat = pcT) (hF : pc + 3 = pcF) (gT : ¬ a < 0 → Goes p e below K T m pcT L S) (gF : a < 0 → Goes p e below K T m pcF L S) : Goes p e below K T m pc L (.int a :: S) := by
  obtain ⟨hx, -, hby, -, -, -, -, -, -, locs, X, -, -⟩ := X
  subst hF
  by_cases q : ¬ a < 0
  · obtain ⟨u1, a1, b1⟩ := (gT q)
    exact ⟨u1, XS.ifYes (g := mkF m pc L (.int a :: S)) X.here hx rfl (pc0 := pc) rfl (hb hby hd) rfl ((if0 _ _).trans (flt q).2.1) ho hT a1, b1⟩
  · obtain ⟨u1, a1, b1⟩ := (gF (Classical.not_not.mp q))
    exact ⟨u1, XS.ifNo (g := mkF m pc L (.int a :: S)) X.here hx rfl (hb hby hd) rfl ((if0 _ _).trans (tlt (Classical.not_not.mp q)).2.1) a1, b1⟩
theorem w_lcmp_ge (X : Wk p l e R s m args below meth c Z n0 y code ml ret T cells slots h) {a b : Int64} {o : Int} {pcI pcT pcF : Nat} (hd0 : decode code pc = .ok (.lcmp, 1)) (hp : pc + 1 = pcI) (hd : decode code pcI = .ok (.ifCond .ge o, 3)) (ho : 0 ≤ (pcI : Int) + o) (hT : ((pcI : Int) + o).toNat = pcT) (hF : pcI + 3 = pcF) (gT : ¬ a < b → Goes p e below K T m pcT L S) (gF : a < b → Goes p e below K T m pcF L S) : Goes p e below K T m pc L (.long b :: .long a :: S) :=
  w_lcmp X hd0 hp (w_if_ge X hd ho hT hF (fun q => gT (fun r => q ((lw_lt a b).mpr r))) (fun q => gF ((lw_lt a b).mp q)))
theorem w_icmp_gt (X : Wk p l e R s m args below meth c Z n0 y code ml ret T cells slots h) {a b : Int32} {o : Int} {pcT pcF : Nat} (hd : decode code pc = .ok (.if_icmp .gt o, 3)) (ho : 0 ≤ (pc : Int) + o) (hT : ((pc : Int) + o).toNat = pcT) (hF : pc + 3 = pcF) (gT : b < a → Goes p e below K T m pcT L S) (gF : ¬ b < a → Goes p e below K T m pcF L S) : Goes p e below K T m pc L (.int b :: .int a :: S) := by
  obtain ⟨hx, -, hby, -, -, -, -, -, -, locs, X, -, -⟩ := X
  subst hF
  by_cases q : b < a
  · obtain ⟨u1, a1, b1⟩ := (gT q)
    exact ⟨u1, XS.icmpYes (g := mkF m pc L (.int b :: .int a :: S)) X.here hx rfl (pc0 := pc) rfl (hb hby hd) rfl (tlt q).2.2.1 ho hT a1, b1⟩
  · obtain ⟨u1, a1, b1⟩ := (gF q)
    exact ⟨u1, XS.icmpNo (g := mkF m pc L (.int b :: .int a :: S)) X.here hx rfl (hb hby hd) rfl (flt q).2.2.1 a1, b1⟩
theorem w_if_gt (X : Wk p l e R s m args below meth c Z n0 y code ml ret T cells slots h) {a : Int32} {o : Int} {pcT pcF : Nat} (hd : decode code pc = .ok (.ifCond .gt o, 3)) (ho : 0 ≤ (pc : Int) + o) (hT : ((pc : Int) + o).toNat = pcT) (hF : pc + 3 = pcF) (gT : 0 < a → Goes p e below K T m pcT L S) (gF : ¬ 0 < a → Goes p e below K T m pcF L S) : Goes p e below K T m pc L (.int a :: S) := by
  obtain ⟨hx, -, hby, -, -, -, -, -, -, locs, X, -, -⟩ := X
  subst hF
  by_cases q : 0 < a
  · obtain ⟨u1, a1, b1⟩ := (gT q)
    exact ⟨u1, XS.ifYes (g := mkF m pc L (.int a :: S)) X.here hx rfl (pc0 := pc) rfl (hb hby hd) rfl ((if0 _ _).trans (tlt q).2.2.1) ho hT a1, b1⟩
  · obtain ⟨u1, a1, b1⟩ := (gF q)
    exact ⟨u1, XS.ifNo (g := mkF m pc L (.int a :: S)) X.here hx rfl (hb hby hd) rfl ((if0 _ _).trans (flt q).2.2.1) a1, b1⟩
theorem w_lcmp_gt (X : Wk p l e R s m args below meth c Z n0 y code ml ret T cells slots h) {a b : Int64} {o : Int} {pcI pcT pcF : Nat} (hd0 : decode code pc = .ok (.lcmp, 1)) (hp : pc + 1 = pcI) (hd : decode code pcI = .ok (.ifCond .gt o, 3)) (ho : 0 ≤ (pcI : Int) + o) (hT : ((pcI : Int) + o).toNat = pcT) (hF : pcI + 3 = pcF) (gT : b < a → Goes p e below K T m pcT L S) (gF : ¬ b < a → Goes p e below K T m pcF L S) : Goes p e below K T m pc L (.long b :: .long a :: S) :=
  w_lcmp X hd0 hp (w_if_gt X hd ho hT hF (fun q => gT ((lw_gt a b).mp q)) (fun q => gF (fun r => q ((lw_gt a b).mpr r))))
theorem w_icmp_le (X : Wk p l e R s m args below meth c Z n0 y code ml ret T cells slots h) {a b : Int32} {o : Int} {pcT pcF : Nat} (hd : decode code pc = .ok (.if_icmp .le o, 3)) (ho : 0 ≤ (pc : Int) + o) (hT : ((pc : Int) + o).toNat = pcT) (hF : pc + 3 = pcF) (gT : ¬ b < a → Goes p e below K T m pcT L S) (gF : b < a → Goes p e below K T m pcF L S) : Goes p e below K T m pc L (.int b :: .int a :: S) := by
  obtain ⟨hx, -, hby, -, -, -, -, -, -, locs, X, -, -⟩ := X
  subst hF
  by_cases q : ¬ b < a
  · obtain ⟨u1, a1, b1⟩ := (gT q)
    exact ⟨u1, XS.icmpYes (g := mkF m pc L (.int b :: .int a :: S)) X.here hx rfl (pc0 := pc) rfl (hb hby hd) rfl (flt q).2.2.2 ho hT a1, b1⟩
  · obtain ⟨u1, a1, b1⟩ := (gF (Classical.not_not.mp q))
    exact ⟨u1, XS.icmpNo (g := mkF m pc L (.int b :: .int a :: S)) X.here hx rfl (hb hby hd) rfl (tlt (Classical.not_not.mp q)).2.2.2 a1, b1⟩
theorem w_if_le (X : Wk p l e R s m args below meth c Z n0 y code ml ret T cells slots h) {a : Int32} {o : Int} {pcT pcF : Nat} (hd : decode code pc = .ok (.ifCond .le o, 3)) (ho : 0 ≤ (pc : Int) + o) (hT : ((pc : Int) + o).toNat = pcT) (hF : pc + 3 = pcF) (gT : ¬ 0 < a → Goes p e below K T m pcT L S) (gF : 0 < a → Goes p e below K T m pcF L S) : Goes p e below K T m pc L (.int a :: S) := by
  obtain ⟨hx, -, hby, -, -, -, -, -, -, locs, X, -, -⟩ := X
  subst hF
  by_cases q : ¬ 0 < a
  · obtain ⟨u1, a1, b1⟩ := (gT q)
    exact ⟨u1, XS.ifYes (g := mkF m pc L (.int a :: S)) X.here hx rfl (pc0 := pc) rfl (hb hby hd) rfl ((if0 _ _).trans (flt q).2.2.2) ho hT a1, b1⟩
  · obtain ⟨u1, a1, b1⟩ := (gF (Classical.not_not.mp q))
    exact ⟨u1, XS.ifNo (g := mkF m pc L (.int a :: S)) X.here hx rfl (hb hby hd) rfl ((if0 _ _).trans (tlt (Classical.not_not.mp q)).2.2.2) a1, b1⟩
theorem w_lcmp_le (X : Wk p l e R s m args below meth c Z n0 y code ml ret T cells slots h) {a b : Int64} {o : Int} {pcI pcT pcF : Nat} (hd0 : decode code pc = .ok (.lcmp, 1)) (hp : pc + 1 = pcI) (hd : decode code pcI = .ok (.ifCond .le o, 3)) (ho : 0 ≤ (pcI : Int) + o) (hT : ((pcI : Int) + o).toNat = pcT) (hF : pcI + 3 = pcF) (gT : ¬ b < a → Goes p e below K T m pcT L S) (gF : b < a → Goes p e below K T m pcF L S) : Goes p e below K T m pc L (.long b :: .long a :: S) :=
  w_lcmp X hd0 hp (w_if_le X hd ho hT hF (fun q => gT (fun r => q ((lw_gt a b).mpr r))) (fun q => gF ((lw_gt a b).mp q)))
theorem w_icmp_eq (X : Wk p l e R s m args below meth c Z n0 y code ml ret T cells slots h) {a b : Int32} {o : Int} {pcT pcF : Nat} (hd : decode code pc = .ok (.if_icmp .eq o, 3)) (ho : 0 ≤ (pc : Int) + o) (hT : ((pc : Int) + o).toNat = pcT) (hF : pc + 3 = pcF) (gT : a = b → Goes p e below K T m pcT L S) (gF : ¬ a = b → Goes p e below K T m pcF L S) : Goes p e below K T m pc L (.int b :: .int a :: S) := by
  obtain ⟨hx, -, hby, -, -, -, -, -, -, locs, X, -, -⟩ := X
  subst hF
  by_cases q : a = b
  · obtain ⟨u1, a1, b1⟩ := (gT q)
    exact ⟨u1, XS.icmpYes (g := mkF m pc L (.int b :: .int a :: S)) X.here hx rfl (pc0 := pc) rfl (hb hby hd) rfl (teq q).1 ho hT a1, b1⟩
  · obtain ⟨u1, a1, b1⟩ := (gF q)
    exact ⟨u1, XS.icmpNo (g := mkF m pc L (.int b :: .int a :: S)) X.here hx rfl (hb hby hd) rfl (feq q).1 a1, b1⟩
theorem w_if_eq (X : Wk p l e R s m args below meth c Z n0 y code ml ret T cells slots h) {a : Int32} {o : Int} {pcT pcF : Nat} (hd : decode code pc = .ok (.ifCond .eq o, 3)) (ho : 0 ≤ (pc : Int) + o) (hT : ((pc : Int) + o).toNat = pcT) (hF : pc + 3 = pcF) (gT : a = 0 → Goes p e below K T m pcT L S) (gF : ¬ a = 0 → Goes p e below K T m pcF L S) : Goes p e below K T m pc L (.int a :: S) := by
  obtain ⟨hx, -, hby, -, -, -, -, -, -, locs, X, -, -⟩ := X
  subst hF
  by_cases q : a = 0
  · obtain ⟨u1, a1, b1⟩ := (gT q)
    exact ⟨u1, XS.ifYes (g := mkF m pc L (.int a :: S)) X.here hx rfl (pc0 := pc) rfl (hb hby hd) rfl ((if0 _ _).trans (teq q).1) ho hT a1, b1⟩
  · obtain ⟨u1, a1, b1⟩ := (gF q)
    exact ⟨u1, XS.ifNo (g := mkF m pc L (.int a :: S)) X.here hx rfl (hb hby hd) rfl ((if0 _ _).trans (feq q).1) a1, b1⟩
theorem w_lcmp_eq (X : Wk p l e R s m args below meth c Z n0 y code ml ret T cells slots h) {a b : Int64} {o : Int} {pcI pcT pcF : Nat} (hd0 : decode code pc = .ok (.lcmp, 1)) (hp : pc + 1 = pcI) (hd : decode code pcI = .ok (.ifCond .eq o, 3)) (ho : 0 ≤ (pcI : Int) + o) (hT : ((pcI : Int) + o).toNat = pcT) (hF : pcI + 3 = pcF) (gT : a = b → Goes p e below K T m pcT L S) (gF : ¬ a = b → Goes p e below K T m pcF L S) : Goes p e below K T m pc L (.long b :: .long a :: S) :=
  w_lcmp X hd0 hp (w_if_eq X hd ho hT hF (fun q => gT ((lw_eq a b).mp q)) (fun q => gF (fun r => q ((lw_eq a b).mpr r))))
theorem w_icmp_ne (X : Wk p l e R s m args below meth c Z n0 y code ml ret T cells slots h) {a b : Int32} {o : Int} {pcT pcF : Nat} (hd : decode code pc = .ok (.if_icmp .ne o, 3)) (ho : 0 ≤ (pc : Int) + o) (hT : ((pc : Int) + o).toNat = pcT) (hF : pc + 3 = pcF) (gT : ¬ a = b → Goes p e below K T m pcT L S) (gF : a = b → Goes p e below K T m pcF L S) : Goes p e below K T m pc L (.int b :: .int a :: S) := by
  obtain ⟨hx, -, hby, -, -, -, -, -, -, locs, X, -, -⟩ := X
  subst hF
  by_cases q : ¬ a = b
  · obtain ⟨u1, a1, b1⟩ := (gT q)
    exact ⟨u1, XS.icmpYes (g := mkF m pc L (.int b :: .int a :: S)) X.here hx rfl (pc0 := pc) rfl (hb hby hd) rfl (feq q).2 ho hT a1, b1⟩
  · obtain ⟨u1, a1, b1⟩ := (gF (Classical.not_not.mp q))
    exact ⟨u1, XS.icmpNo (g := mkF m pc L (.int b :: .int a :: S)) X.here hx rfl (hb hby hd) rfl (teq (Classical.not_not.mp q)).2 a1, b1⟩
theorem w_if_ne (X : Wk p l e R s m args below meth c Z n0 y code ml ret T cells slots h) {a : Int32} {o : Int} {pcT pcF : Nat} (hd : decode code pc = .ok (.ifCond .ne o, 3)) (ho : 0 ≤ (pc : Int) + o) (hT : ((pc : Int) + o).toNat = pcT) (hF : pc + 3 = pcF) (gT : ¬ a = 0 → Goes p e below K T m pcT L S) (gF : a = 0 → Goes p e below K T m pcF L S) : Goes p e below K T m pc L (.int a :: S) := by
  obtain ⟨hx, -, hby, -, -, -, -, -, -, locs, X, -, -⟩ := X
  subst hF
  by_cases q : ¬ a = 0
  · obtain ⟨u1, a1, b1⟩ := (gT q)
    exact ⟨u1, XS.ifYes (g := mkF m pc L (.int a :: S)) X.here hx rfl (pc0 := pc) rfl (hb hby hd) rfl ((if0 _ _).trans (feq q).2) ho hT a1, b1⟩
  · obtain ⟨u1, a1, b1⟩ := (gF (Classical.not_not.mp q))
    exact ⟨u1, XS.ifNo (g := mkF m pc L (.int a :: S)) X.here hx rfl (hb hby hd) rfl ((if0 _ _).trans (teq (Classical.not_not.mp q)).2) a1, b1⟩
theorem w_lcmp_ne (X : Wk p l e R s m args below meth c Z n0 y code ml ret T cells slots h) {a b : Int64} {o : Int} {pcI pcT pcF : Nat} (hd0 : decode code pc = .ok (.lcmp, 1)) (hp : pc + 1 = pcI) (hd : decode code pcI = .ok (.ifCond .ne o, 3)) (ho : 0 ≤ (pcI : Int) + o) (hT : ((pcI : Int) + o).toNat = pcT) (hF : pcI + 3 = pcF) (gT : ¬ a = b → Goes p e below K T m pcT L S) (gF : a = b → Goes p e below K T m pcF L S) : Goes p e below K T m pc L (.long b :: .long a :: S) :=
  w_lcmp X hd0 hp (w_if_ne X hd ho hT hF (fun q => gT (fun r => q ((lw_eq a b).mpr r))) (fun q => gF ((lw_eq a b).mp q)))
-- returns
theorem w_ireturn (X : Wk p l e R s m args below meth c Z n0 y code ml (some .int) T cells slots h) {w : Option Value} {Q : Heap → Prop} {z : Int32} (hd : decode code pc = .ok (.ireturn, 1)) (hw : w = some (.int z)) (hq : Q h) (hc : cells ≤ R.cells) (hs : slots ≤ R.slots) : Goes p e below (Done below s n0 R w Q) T m pc L (.int z :: S) := by
  obtain ⟨hx, hZ, hby, hml, hown, hnm, hret, hlk, hn, locs, X, eT, N⟩ := X
  obtain ⟨fs, hr, hrun, hended, hW, hsame⟩ := X.leave (v := some (.int z)) (fun h => by rw [hret] at h; cases h) hlk
  exact ⟨_, Jvm.RoadKit.retI X hx hret (hb hby hd) hr, _, hrun, hended, _, locs, rfl, ⟨hw.symm, (by show Q T.heap; rw [eT]; exact hq), N, (by show n0 ≤ T.heap.size; rw [eT]; exact hn)⟩, ⟨_, rfl⟩, hW, hsame.mono hc hs⟩
theorem w_nreturn {t : FieldType} (X : Wk p l e R s m args below meth c Z n0 y code ml (some t) T cells slots h) {w : Option Value} {Q : Heap → Prop} {z : Int32} (ht : t = .boolean ∨ t = .byte ∨ t = .char ∨ t = .short) (hd : decode code pc = .ok (.ireturn, 1)) (hw : w = some (.int (nar t z))) (hq : Q h) (hc : cells ≤ R.cells) (hs : slots ≤ R.slots) : Goes p e below (Done below s n0 R w Q) T m pc L (.int z :: S) := by
  obtain ⟨hx, hZ, hby, hml, hown, hnm, hret, hlk, hn, locs, X, eT, N⟩ := X
  obtain ⟨fs, hr, hrun, hended, hW, hsame⟩ := X.leave (v := some (.int (nar t z))) (fun h => by rw [hret] at h; cases h) hlk
  exact ⟨_, retN X hx hret ht (hb hby hd) hr, _, hrun, hended, _, locs, rfl, ⟨hw.symm, (by show Q T.heap; rw [eT]; exact hq), N, (by show n0 ≤ T.heap.size; rw [eT]; exact hn)⟩, ⟨_, rfl⟩, hW, hsame.mono hc hs⟩
theorem w_lreturn (X : Wk p l e R s m args below meth c Z n0 y code ml (some .long) T cells slots h) {w : Option Value} {Q : Heap → Prop} {z : Int64} (hd : decode code pc = .ok (.lreturn, 1)) (hw : w = some (.long z)) (hq : Q h) (hc : cells ≤ R.cells) (hs : slots ≤ R.slots) : Goes p e below (Done below s n0 R w Q) T m pc L [.long z] := by
  obtain ⟨hx, hZ, hby, hml, hown, hnm, hret, hlk, hn, locs, X, eT, N⟩ := X
  obtain ⟨fs, hr, hrun, hended, hW, hsame⟩ := X.leave (v := some (.long z)) (fun h => by rw [hret] at h; cases h) hlk
  exact ⟨_, X.lreturnOut hx hret (hb hby hd) hr, _, hrun, hended, _, locs, rfl, ⟨hw.symm, (by show Q T.heap; rw [eT]; exact hq), N, (by show n0 ≤ T.heap.size; rw [eT]; exact hn)⟩, ⟨_, rfl⟩, hW, hsame.mono hc hs⟩
theorem w_return (X : Wk p l e R s m args below meth c Z n0 y code ml none T cells slots h) {w : Option Value} {Q : Heap → Prop} (hd : decode code pc = .ok (.return_, 1)) (hw : w = none) (hq : Q h) (hc : cells ≤ R.cells) (hs : slots ≤ R.slots) : Goes p e below (Done below s n0 R w Q) T m pc L [] := by
  obtain ⟨hx, hZ, hby, hml, hown, hnm, hret, hlk, hn, locs, X, eT, N⟩ := X
  obtain ⟨fs, hr, hrun, hended, hW, hsame⟩ := X.leave (v := none) (fun _ => rfl) hlk
  exact ⟨_, X.returnOut hx hret (hb hby hd) hr, _, hrun, hended, _, locs, rfl, ⟨hw.symm, (by show Q T.heap; rw [eT]; exact hq), N, (by show n0 ≤ T.heap.size; rw [eT]; exact hn)⟩, ⟨_, rfl⟩, hW, hsame.mono hc hs⟩
-- calls
theorem w_static (X : Wk p l e R s m args below meth c Z n0 y code ml ret T cells slots h) {idx : Nat} {y' : MethodName} {bytes : ByteArray} {maxL : Nat} {ret' : Option FieldType} {R' : Room} {w' : Option Value} {Q' : Heap → Prop} {argsL rest : List Value} {W : Nat}
    (hM : Con l Z y' bytes maxL ret' R' argsL.toArray h n0 w' Q') (w1 : (Jvm.Cond.methodLink y.cls idx y').before a0 Z = true) (w2 : (Jvm.Cond.static y').before a0 Z = true) (w3 : (Jvm.Cond.initialized y'.cls).before a0 Z = true) (w4 : (Jvm.Cond.code y' bytes maxL ret').before a0 Z = true)
    (hy : y'.cls ≠ "java/lang/invoke/MethodHandle" ∧ y'.cls ≠ "java/lang/invoke/VarHandle") (hst : S = argsL.reverse ++ rest) (hlen : ∀ sig, parseMethodDescriptor y'.desc = some sig → argsL.length = sig.parameters.length) (hsz : L.size = ml) (hW : (rest.map fun v => v.category).sum = W) (hf : R'.frames + 1 ≤ R.frames) (hl : W + (maxL + 11) + R'.locals ≤ R.locals)
    (hc : cells + R'.cells ≤ R.cells) (hs : slots + R'.slots ≤ R.slots) (hd : decode code pc = .ok (.invokestatic idx, 3)) (hp : pc + 3 = pc')
    (g : ∀ T' h', Wk p l e R s m args below meth c Z n0 y code ml ret T' (cells + R'.cells) (slots + R'.slots) h' → Q' h' → Goes p e below K T' m pc' L (w'.toList ++ rest)) : Goes p e below K T m pc L S := by
  obtain ⟨hx, hZ, hby, hml, hown, hnm, hret, hlk, hn, locs, X, eT, N⟩ := X
  subst hp hW
  obtain ⟨_, _, ⟨T1, L1, k1, n1⟩, -, X1, ⟨Lc, hQ, l1, y1, z1⟩, st⟩ := Jvm.LawKit.callS X hx (y := y') hown (mvT hZ w1) (mvT hZ w2) (mvT hZ w3) (mvT hZ w4) hy (backOf (W := (rest.map fun v => v.category).sum) (hM []) hZ w4 w3 hf hl) (g := mkF m pc L S) rfl (by rw [hml]; exact hsz) (argsL := argsL) (rest := rest) hlen hst (by show 2 * 0 + _ ≤ _; omega) (hb hby hd) (fun _ _ => ⟨rfl, eT, hc, hs⟩)
  dsimp only [Pt.U, Pt.locs, Pt.cells, Pt.slots] at X1 l1 y1 z1 st hQ
  subst l1 y1 z1
  obtain ⟨rfl, hQ', N', hn'⟩ := hQ
  obtain ⟨u1, a1, b1⟩ := g _ _ ⟨hx, hZ, hby, hml, hown, hnm, hret, hlk, hn', _, X1, rfl, N.app N'⟩ hQ'
  exact ⟨u1, st _ a1, b1⟩
theorem w_staticV (X : Wk p l e R s m args below meth c Z n0 y code ml ret T cells slots h) {idx : Nat} {y' : MethodName} {bytes : ByteArray} {maxL : Nat} {ret' : Option FieldType} {R' : Room} {v' : Value} {Q' : Heap → Prop} {argsL rest : List Value} {W : Nat}
    (hM : Con l Z y' bytes maxL ret' R' argsL.toArray h n0 (some v') Q') (w1 : (Jvm.Cond.methodLink y.cls idx y').before a0 Z = true) (w2 : (Jvm.Cond.static y').before a0 Z = true) (w3 : (Jvm.Cond.initialized y'.cls).before a0 Z = true) (w4 : (Jvm.Cond.code y' bytes maxL ret').before a0 Z = true)
    (hy : y'.cls ≠ "java/lang/invoke/MethodHandle" ∧ y'.cls ≠ "java/lang/invoke/VarHandle") (hst : S = argsL.reverse ++ rest) (hlen : ∀ sig, parseMethodDescriptor y'.desc = some sig → argsL.length = sig.parameters.length) (hsz : L.size = ml) (hW : (rest.map fun v => v.category).sum = W) (hf : R'.frames + 1 ≤ R.frames) (hl : W + (maxL + 11) + R'.locals ≤ R.locals)
    (hc : cells + R'.cells ≤ R.cells) (hs : slots + R'.slots ≤ R.slots) (hd : decode code pc = .ok (.invokestatic idx, 3)) (hp : pc + 3 = pc')
    (g : ∀ T' h', Wk p l e R s m args below meth c Z n0 y code ml ret T' (cells + R'.cells) (slots + R'.slots) h' → Q' h' → Goes p e below K T' m pc' L (v' :: rest)) : Goes p e below K T m pc L S := w_static X hM w1 w2 w3 w4 hy hst hlen hsz hW hf hl hc hs hd hp g
theorem w_staticVP (X : Wk p l e R s m args below meth c Z n0 y code ml ret T cells slots h) {idx : Nat} {y' : MethodName} {bytes : ByteArray} {maxL : Nat} {ret' : Option FieldType} {R' : Room} {v' : Value} {argsL rest : List Value} {W : Nat}
    (hM : Con l Z y' bytes maxL ret' R' argsL.toArray h n0 (some v') (fun h' => h' = h)) (w1 : (Jvm.Cond.methodLink y.cls idx y').before a0 Z = true) (w2 : (Jvm.Cond.static y').before a0 Z = true) (w3 : (Jvm.Cond.initialized y'.cls).before a0 Z = true) (w4 : (Jvm.Cond.code y' bytes maxL ret').before a0 Z = true)
    (hy : y'.cls ≠ "java/lang/invoke/MethodHandle" ∧ y'.cls ≠ "java/lang/invoke/VarHandle") (hst : S = argsL.reverse ++ rest) (hlen : ∀ sig, parseMethodDescriptor y'.desc = some sig → argsL.length = sig.parameters.length) (hsz : L.size = ml) (hW : (rest.map fun v => v.category).sum = W) (hf : R'.frames + 1 ≤ R.frames) (hl : W + (maxL + 11) + R'.locals ≤ R.locals)
    (hc : cells + R'.cells ≤ R.cells) (hs : slots + R'.slots ≤ R.slots) (hd : decode code pc = .ok (.invokestatic idx, 3)) (hp : pc + 3 = pc')
    (g : ∀ T', Wk p l e R s m args below meth c Z n0 y code ml ret T' (cells + R'.cells) (slots + R'.slots) h → Goes p e below K T' m pc' L (v' :: rest)) : Goes p e below K T m pc L S := w_staticV X hM w1 w2 w3 w4 hy hst hlen hsz hW hf hl hc hs hd hp (fun T' h' X' q => by subst q; exact g T' X')
theorem w_static0 (X : Wk p l e R s m args below meth c Z n0 y code ml ret T cells slots h) {idx : Nat} {y' : MethodName} {bytes : ByteArray} {maxL : Nat} {ret' : Option FieldType} {R' : Room} {Q' : Heap → Prop} {argsL rest : List Value} {W : Nat}
    (hM : Con l Z y' bytes maxL ret' R' argsL.toArray h n0 none Q') (w1 : (Jvm.Cond.methodLink y.cls idx y').before a0 Z = true) (w2 : (Jvm.Cond.static y').before a0 Z = true) (w3 : (Jvm.Cond.initialized y'.cls).before a0 Z = true) (w4 : (Jvm.Cond.code y' bytes maxL ret').before a0 Z = true)
    (hy : y'.cls ≠ "java/lang/invoke/MethodHandle" ∧ y'.cls ≠ "java/lang/invoke/VarHandle") (hst : S = argsL.reverse ++ rest) (hlen : ∀ sig, parseMethodDescriptor y'.desc = some sig → argsL.length = sig.parameters.length) (hsz : L.size = ml) (hW : (rest.map fun v => v.category).sum = W) (hf : R'.frames + 1 ≤ R.frames) (hl : W + (maxL + 11) + R'.locals ≤ R.locals)
    (hc : cells + R'.cells ≤ R.cells) (hs : slots + R'.slots ≤ R.slots) (hd : decode code pc = .ok (.invokestatic idx, 3)) (hp : pc + 3 = pc')
    (g : ∀ T' h', Wk p l e R s m args below meth c Z n0 y code ml ret T' (cells + R'.cells) (slots + R'.slots) h' → Q' h' → Goes p e below K T' m pc' L rest) : Goes p e below K T m pc L S := w_static X hM w1 w2 w3 w4 hy hst hlen hsz hW hf hl hc hs hd hp g
theorem w_static0P (X : Wk p l e R s m args below meth c Z n0 y code ml ret T cells slots h) {idx : Nat} {y' : MethodName} {bytes : ByteArray} {maxL : Nat} {ret' : Option FieldType} {R' : Room} {argsL rest : List Value} {W : Nat}
    (hM : Con l Z y' bytes maxL ret' R' argsL.toArray h n0 none (fun h' => h' = h)) (w1 : (Jvm.Cond.methodLink y.cls idx y').before a0 Z = true) (w2 : (Jvm.Cond.static y').before a0 Z = true) (w3 : (Jvm.Cond.initialized y'.cls).before a0 Z = true) (w4 : (Jvm.Cond.code y' bytes maxL ret').before a0 Z = true)
    (hy : y'.cls ≠ "java/lang/invoke/MethodHandle" ∧ y'.cls ≠ "java/lang/invoke/VarHandle") (hst : S = argsL.reverse ++ rest) (hlen : ∀ sig, parseMethodDescriptor y'.desc = some sig → argsL.length = sig.parameters.length) (hsz : L.size = ml) (hW : (rest.map fun v => v.category).sum = W) (hf : R'.frames + 1 ≤ R.frames) (hl : W + (maxL + 11) + R'.locals ≤ R.locals)
    (hc : cells + R'.cells ≤ R.cells) (hs : slots + R'.slots ≤ R.slots) (hd : decode code pc = .ok (.invokestatic idx, 3)) (hp : pc + 3 = pc')
    (g : ∀ T', Wk p l e R s m args below meth c Z n0 y code ml ret T' (cells + R'.cells) (slots + R'.slots) h → Goes p e below K T' m pc' L rest) : Goes p e below K T m pc L S := w_static0 X hM w1 w2 w3 w4 hy hst hlen hsz hW hf hl hc hs hd hp (fun T' h' X' q => by subst q; exact g T' X')
theorem w_special (X : Wk p l e R s m args below meth c Z n0 y code ml ret T cells slots h) {idx : Nat} {y' : MethodName} {bytes : ByteArray} {maxL : Nat} {R' : Room} {w' : Option Value} {Q' : Heap → Prop} {a : Addr} {argsL rest : List Value} {W : Nat}
    (hM : Con l Z y' bytes maxL none R' (.ref a :: argsL).toArray h n0 w' Q') (hi : y'.name = "<init>") (w1 : (Jvm.Cond.methodLink y.cls idx y').before a0 Z = true) (w2 : (Jvm.Cond.instanceMethod y').before a0 Z = true) (w3 : (Jvm.Cond.initialized y'.cls).before a0 Z = true) (w4 : (Jvm.Cond.code y' bytes maxL none).before a0 Z = true)
    (hy : y'.cls ≠ "java/lang/invoke/MethodHandle" ∧ y'.cls ≠ "java/lang/invoke/VarHandle") (hst : S = argsL.reverse ++ .ref a :: rest) (hlen : ∀ sig, parseMethodDescriptor y'.desc = some sig → argsL.length = sig.parameters.length) (hsz : L.size = ml) (hW : (rest.map fun v => v.category).sum = W) (hf : R'.frames + 1 ≤ R.frames) (hl : W + (maxL + 11) + R'.locals ≤ R.locals)
    (hc : cells + R'.cells ≤ R.cells) (hs : slots + R'.slots ≤ R.slots) (hd : decode code pc = .ok (.invokespecial idx, 3)) (hp : pc + 3 = pc')
    (g : ∀ T' h', Wk p l e R s m args below meth c Z n0 y code ml ret T' (cells + R'.cells) (slots + R'.slots) h' → Q' h' → Goes p e below K T' m pc' L (w'.toList ++ rest)) : Goes p e below K T m pc L S := by
  obtain ⟨hx, hZ, hby, hml, hown, hnm, hret, hlk, hn, locs, X, eT, N⟩ := X
  subst hp hW
  obtain ⟨_, _, ⟨T1, L1, k1, n1⟩, -, X1, ⟨Lc, hQ, l1, y1, z1⟩, st⟩ := X.specialBack hx (y := y') hi hown (mvT hZ w1) (mvT hZ w2) (mvT hZ w4) hy (backOf (W := (rest.map fun v => v.category).sum) (hM []) hZ w4 w3 hf hl) (g := mkF m pc L S) rfl (by rw [hml]; exact hsz) (Steps.refl _) (a := a) (argsL := argsL) (rest := rest) hlen hst (by show 2 * 0 + _ ≤ _; omega) (hb hby hd) (fun _ _ => ⟨rfl, eT, hc, hs⟩)
  dsimp only [Pt.U, Pt.locs, Pt.cells, Pt.slots] at X1 l1 y1 z1 st hQ
  subst l1 y1 z1
  obtain ⟨rfl, hQ', N', hn'⟩ := hQ
  obtain ⟨u1, a1, b1⟩ := g _ _ ⟨hx, hZ, hby, hml, hown, hnm, hret, hlk, hn', _, X1, rfl, N.app N'⟩ hQ'
  exact ⟨u1, st.trans a1, b1⟩
theorem w_special0 (X : Wk p l e R s m args below meth c Z n0 y code ml ret T cells slots h) {idx : Nat} {y' : MethodName} {bytes : ByteArray} {maxL : Nat} {R' : Room} {Q' : Heap → Prop} {a : Addr} {argsL rest : List Value} {W : Nat}
    (hM : Con l Z y' bytes maxL none R' (.ref a :: argsL).toArray h n0 none Q') (hi : y'.name = "<init>") (w1 : (Jvm.Cond.methodLink y.cls idx y').before a0 Z = true) (w2 : (Jvm.Cond.instanceMethod y').before a0 Z = true) (w3 : (Jvm.Cond.initialized y'.cls).before a0 Z = true) (w4 : (Jvm.Cond.code y' bytes maxL none).before a0 Z = true)
    (hy : y'.cls ≠ "java/lang/invoke/MethodHandle" ∧ y'.cls ≠ "java/lang/invoke/VarHandle") (hst : S = argsL.reverse ++ .ref a :: rest) (hlen : ∀ sig, parseMethodDescriptor y'.desc = some sig → argsL.length = sig.parameters.length) (hsz : L.size = ml) (hW : (rest.map fun v => v.category).sum = W) (hf : R'.frames + 1 ≤ R.frames) (hl : W + (maxL + 11) + R'.locals ≤ R.locals)
    (hc : cells + R'.cells ≤ R.cells) (hs : slots + R'.slots ≤ R.slots) (hd : decode code pc = .ok (.invokespecial idx, 3)) (hp : pc + 3 = pc')
    (g : ∀ T' h', Wk p l e R s m args below meth c Z n0 y code ml ret T' (cells + R'.cells) (slots + R'.slots) h' → Q' h' → Goes p e below K T' m pc' L rest) : Goes p e below K T m pc L S := w_special X hM hi w1 w2 w3 w4 hy hst hlen hsz hW hf hl hc hs hd hp g
theorem w_special0P (X : Wk p l e R s m args below meth c Z n0 y code ml ret T cells slots h) {idx : Nat} {y' : MethodName} {bytes : ByteArray} {maxL : Nat} {R' : Room} {a : Addr} {argsL rest : List Value} {W : Nat}
    (hM : Con l Z y' bytes maxL none R' (.ref a :: argsL).toArray h n0 none (fun h' => h' = h)) (hi : y'.name = "<init>") (w1 : (Jvm.Cond.methodLink y.cls idx y').before a0 Z = true) (w2 : (Jvm.Cond.instanceMethod y').before a0 Z = true) (w3 : (Jvm.Cond.initialized y'.cls).before a0 Z = true) (w4 : (Jvm.Cond.code y' bytes maxL none).before a0 Z = true)
    (hy : y'.cls ≠ "java/lang/invoke/MethodHandle" ∧ y'.cls ≠ "java/lang/invoke/VarHandle") (hst : S = argsL.reverse ++ .ref a :: rest) (hlen : ∀ sig, parseMethodDescriptor y'.desc = some sig → argsL.length = sig.parameters.length) (hsz : L.size = ml) (hW : (rest.map fun v => v.category).sum = W) (hf : R'.frames + 1 ≤ R.frames) (hl : W + (maxL + 11) + R'.locals ≤ R.locals)
    (hc : cells + R'.cells ≤ R.cells) (hs : slots + R'.slots ≤ R.slots) (hd : decode code pc = .ok (.invokespecial idx, 3)) (hp : pc + 3 = pc')
    (g : ∀ T', Wk p l e R s m args below meth c Z n0 y code ml ret T' (cells + R'.cells) (slots + R'.slots) h → Goes p e below K T' m pc' L rest) : Goes p e below K T m pc L S := w_special0 X hM hi w1 w2 w3 w4 hy hst hlen hsz hW hf hl hc hs hd hp (fun T' h' X' q => by subst q; exact g T' X')
theorem w_virtual (X : Wk p l e R s m args below meth c Z n0 y code ml ret T cells slots h) {idx : Nat} {C : String} {y' : MethodName} {bytes : ByteArray} {maxL : Nat} {ret' : Option FieldType} {R' : Room} {w' : Option Value} {Q' : Heap → Prop} {a : Addr} {argsL rest : List Value} {W : Nat}
    (hM : Con l Z y' bytes maxL ret' R' (.ref a :: argsL).toArray h n0 w' Q') (E : Exa Z h a C) (w1 : (Jvm.Cond.methodLink y.cls idx y').before a0 Z = true) (w2 : (Jvm.Cond.declares y').before a0 Z = true) (w5 : (Jvm.Cond.selects C y' y').before a0 Z = true) (w6 : (Jvm.Cond.instanceMethod y').before a0 Z = true) (w3 : (Jvm.Cond.initialized y'.cls).before a0 Z = true) (w4 : (Jvm.Cond.code y' bytes maxL ret').before a0 Z = true)
    (hy : y'.cls ≠ "java/lang/invoke/MethodHandle" ∧ y'.cls ≠ "java/lang/invoke/VarHandle") (hst : S = argsL.reverse ++ .ref a :: rest) (hlen : ∀ sig, parseMethodDescriptor y'.desc = some sig → argsL.length = sig.parameters.length) (hsz : L.size = ml) (hW : (rest.map fun v => v.category).sum = W) (hf : R'.frames + 1 ≤ R.frames) (hl : W + (maxL + 11) + R'.locals ≤ R.locals)
    (hc : cells + R'.cells ≤ R.cells) (hs : slots + R'.slots ≤ R.slots) (hd : decode code pc = .ok (.invokevirtual idx, 3)) (hp : pc + 3 = pc')
    (g : ∀ T' h', Wk p l e R s m args below meth c Z n0 y code ml ret T' (cells + R'.cells) (slots + R'.slots) h' → Q' h' → Goes p e below K T' m pc' L (w'.toList ++ rest)) : Goes p e below K T m pc L S := by
  obtain ⟨hx, hZ, hby, hml, hown, hnm, hret, hlk, hn, locs, X, eT, N⟩ := X
  subst hp hW
  obtain ⟨cq, kq, qa, qb, qc⟩ := isOf hZ eT E
  obtain ⟨_, _, ⟨T1, L1, k1, n1⟩, -, X1, ⟨Lc, hQ, l1, y1, z1⟩, st⟩ := X.virtualBack hx (y := y') (z := y') hown (mvT hZ w1) (mvT hZ w2) (notFace_of_selects (args := #[]) (mvT hZ w5)) (mvT hZ w5) (mvT hZ w6) hy (backOf (W := (rest.map fun v => v.category).sum) (hM []) hZ w4 w3 hf hl) qa qc (g := mkF m pc L S) rfl (by rw [hml]; exact hsz) (Steps.refl _) (argsL := argsL) (rest := rest) hlen hst (by show 2 * 0 + _ ≤ _; omega) (hb hby hd) (fun _ _ => ⟨rfl, eT, hc, hs⟩)
  dsimp only [Pt.U, Pt.locs, Pt.cells, Pt.slots] at X1 l1 y1 z1 st hQ
  subst l1 y1 z1
  obtain ⟨rfl, hQ', N', hn'⟩ := hQ
  obtain ⟨u1, a1, b1⟩ := g _ _ ⟨hx, hZ, hby, hml, hown, hnm, hret, hlk, hn', _, X1, rfl, N.app N'⟩ hQ'
  exact ⟨u1, st.trans a1, b1⟩
theorem w_virtualV (X : Wk p l e R s m args below meth c Z n0 y code ml ret T cells slots h) {idx : Nat} {C : String} {y' : MethodName} {bytes : ByteArray} {maxL : Nat} {ret' : Option FieldType} {R' : Room} {v' : Value} {Q' : Heap → Prop} {a : Addr} {argsL rest : List Value} {W : Nat}
    (hM : Con l Z y' bytes maxL ret' R' (.ref a :: argsL).toArray h n0 (some v') Q') (E : Exa Z h a C) (w1 : (Jvm.Cond.methodLink y.cls idx y').before a0 Z = true) (w2 : (Jvm.Cond.declares y').before a0 Z = true) (w5 : (Jvm.Cond.selects C y' y').before a0 Z = true) (w6 : (Jvm.Cond.instanceMethod y').before a0 Z = true) (w3 : (Jvm.Cond.initialized y'.cls).before a0 Z = true) (w4 : (Jvm.Cond.code y' bytes maxL ret').before a0 Z = true)
    (hy : y'.cls ≠ "java/lang/invoke/MethodHandle" ∧ y'.cls ≠ "java/lang/invoke/VarHandle") (hst : S = argsL.reverse ++ .ref a :: rest) (hlen : ∀ sig, parseMethodDescriptor y'.desc = some sig → argsL.length = sig.parameters.length) (hsz : L.size = ml) (hW : (rest.map fun v => v.category).sum = W) (hf : R'.frames + 1 ≤ R.frames) (hl : W + (maxL + 11) + R'.locals ≤ R.locals)
    (hc : cells + R'.cells ≤ R.cells) (hs : slots + R'.slots ≤ R.slots) (hd : decode code pc = .ok (.invokevirtual idx, 3)) (hp : pc + 3 = pc')
    (g : ∀ T' h', Wk p l e R s m args below meth c Z n0 y code ml ret T' (cells + R'.cells) (slots + R'.slots) h' → Q' h' → Goes p e below K T' m pc' L (v' :: rest)) : Goes p e below K T m pc L S := w_virtual X hM E w1 w2 w5 w6 w3 w4 hy hst hlen hsz hW hf hl hc hs hd hp g
theorem w_virtualVP (X : Wk p l e R s m args below meth c Z n0 y code ml ret T cells slots h) {idx : Nat} {C : String} {y' : MethodName} {bytes : ByteArray} {maxL : Nat} {ret' : Option FieldType} {R' : Room} {v' : Value} {a : Addr} {argsL rest : List Value} {W : Nat}
    (hM : Con l Z y' bytes maxL ret' R' (.ref a :: argsL).toArray h n0 (some v') (fun h' => h' = h)) (E : Exa Z h a C) (w1 : (Jvm.Cond.methodLink y.cls idx y').before a0 Z = true) (w2 : (Jvm.Cond.declares y').before a0 Z = true) (w5 : (Jvm.Cond.selects C y' y').before a0 Z = true) (w6 : (Jvm.Cond.instanceMethod y').before a0 Z = true) (w3 : (Jvm.Cond.initialized y'.cls).before a0 Z = true) (w4 : (Jvm.Cond.code y' bytes maxL ret').before a0 Z = true)
    (hy : y'.cls ≠ "java/lang/invoke/MethodHandle" ∧ y'.cls ≠ "java/lang/invoke/VarHandle") (hst : S = argsL.reverse ++ .ref a :: rest) (hlen : ∀ sig, parseMethodDescriptor y'.desc = some sig → argsL.length = sig.parameters.length) (hsz : L.size = ml) (hW : (rest.map fun v => v.category).sum = W) (hf : R'.frames + 1 ≤ R.frames) (hl : W + (maxL + 11) + R'.locals ≤ R.locals)
    (hc : cells + R'.cells ≤ R.cells) (hs : slots + R'.slots ≤ R.slots) (hd : decode code pc = .ok (.invokevirtual idx, 3)) (hp : pc + 3 = pc')
    (g : ∀ T', Wk p l e R s m args below meth c Z n0 y code ml ret T' (cells + R'.cells) (slots + R'.slots) h → Goes p e below K T' m pc' L (v' :: rest)) : Goes p e below K T m pc L S := w_virtualV X hM E w1 w2 w5 w6 w3 w4 hy hst hlen hsz hW hf hl hc hs hd hp (fun T' h' X' q => by subst q; exact g T' X')
theorem w_virtual0 (X : Wk p l e R s m args below meth c Z n0 y code ml ret T cells slots h) {idx : Nat} {C : String} {y' : MethodName} {bytes : ByteArray} {maxL : Nat} {ret' : Option FieldType} {R' : Room} {Q' : Heap → Prop} {a : Addr} {argsL rest : List Value} {W : Nat}
    (hM : Con l Z y' bytes maxL ret' R' (.ref a :: argsL).toArray h n0 none Q') (E : Exa Z h a C) (w1 : (Jvm.Cond.methodLink y.cls idx y').before a0 Z = true) (w2 : (Jvm.Cond.declares y').before a0 Z = true) (w5 : (Jvm.Cond.selects C y' y').before a0 Z = true) (w6 : (Jvm.Cond.instanceMethod y').before a0 Z = true) (w3 : (Jvm.Cond.initialized y'.cls).before a0 Z = true) (w4 : (Jvm.Cond.code y' bytes maxL ret').before a0 Z = true)
    (hy : y'.cls ≠ "java/lang/invoke/MethodHandle" ∧ y'.cls ≠ "java/lang/invoke/VarHandle") (hst : S = argsL.reverse ++ .ref a :: rest) (hlen : ∀ sig, parseMethodDescriptor y'.desc = some sig → argsL.length = sig.parameters.length) (hsz : L.size = ml) (hW : (rest.map fun v => v.category).sum = W) (hf : R'.frames + 1 ≤ R.frames) (hl : W + (maxL + 11) + R'.locals ≤ R.locals)
    (hc : cells + R'.cells ≤ R.cells) (hs : slots + R'.slots ≤ R.slots) (hd : decode code pc = .ok (.invokevirtual idx, 3)) (hp : pc + 3 = pc')
    (g : ∀ T' h', Wk p l e R s m args below meth c Z n0 y code ml ret T' (cells + R'.cells) (slots + R'.slots) h' → Q' h' → Goes p e below K T' m pc' L rest) : Goes p e below K T m pc L S := w_virtual X hM E w1 w2 w5 w6 w3 w4 hy hst hlen hsz hW hf hl hc hs hd hp g
theorem w_virtual0P (X : Wk p l e R s m args below meth c Z n0 y code ml ret T cells slots h) {idx : Nat} {C : String} {y' : MethodName} {bytes : ByteArray} {maxL : Nat} {ret' : Option FieldType} {R' : Room} {a : Addr} {argsL rest : List Value} {W : Nat}
    (hM : Con l Z y' bytes maxL ret' R' (.ref a :: argsL).toArray h n0 none (fun h' => h' = h)) (E : Exa Z h a C) (w1 : (Jvm.Cond.methodLink y.cls idx y').before a0 Z = true) (w2 : (Jvm.Cond.declares y').before a0 Z = true) (w5 : (Jvm.Cond.selects C y' y').before a0 Z = true) (w6 : (Jvm.Cond.instanceMethod y').before a0 Z = true) (w3 : (Jvm.Cond.initialized y'.cls).before a0 Z = true) (w4 : (Jvm.Cond.code y' bytes maxL ret').before a0 Z = true)
    (hy : y'.cls ≠ "java/lang/invoke/MethodHandle" ∧ y'.cls ≠ "java/lang/invoke/VarHandle") (hst : S = argsL.reverse ++ .ref a :: rest) (hlen : ∀ sig, parseMethodDescriptor y'.desc = some sig → argsL.length = sig.parameters.length) (hsz : L.size = ml) (hW : (rest.map fun v => v.category).sum = W) (hf : R'.frames + 1 ≤ R.frames) (hl : W + (maxL + 11) + R'.locals ≤ R.locals)
    (hc : cells + R'.cells ≤ R.cells) (hs : slots + R'.slots ≤ R.slots) (hd : decode code pc = .ok (.invokevirtual idx, 3)) (hp : pc + 3 = pc')
    (g : ∀ T', Wk p l e R s m args below meth c Z n0 y code ml ret T' (cells + R'.cells) (slots + R'.slots) h → Goes p e below K T' m pc' L rest) : Goes p e below K T m pc L S := w_virtual0 X hM E w1 w2 w5 w6 w3 w4 hy hst hlen hsz hW hf hl hc hs hd hp (fun T' h' X' q => by subst q; exact g T' X')
theorem w_private (X : Wk p l e R s m args below meth c Z n0 y code ml ret T cells slots h) {idx : Nat} {C : String} {y' : MethodName} {bytes : ByteArray} {maxL : Nat} {ret' : Option FieldType} {R' : Room} {w' : Option Value} {Q' : Heap → Prop} {a : Addr} {argsL rest : List Value} {W : Nat}
    (hM : Con l Z y' bytes maxL ret' R' (.ref a :: argsL).toArray h n0 w' Q') (E : Exa Z h a C) (w1 : (Jvm.Cond.methodLink y.cls idx y').before a0 Z = true) (w6 : (Jvm.Cond.instanceMethod y').before a0 Z = true) (w5 : (Jvm.Cond.selects y'.cls y' y').before a0 Z = true) (w7 : (Jvm.Cond.privateMethod y').before a0 Z = true) (w3 : (Jvm.Cond.initialized y'.cls).before a0 Z = true) (w4 : (Jvm.Cond.code y' bytes maxL ret').before a0 Z = true)
    (hy : y'.cls ≠ "java/lang/invoke/MethodHandle" ∧ y'.cls ≠ "java/lang/invoke/VarHandle") (hst : S = argsL.reverse ++ .ref a :: rest) (hlen : ∀ sig, parseMethodDescriptor y'.desc = some sig → argsL.length = sig.parameters.length) (hsz : L.size = ml) (hW : (rest.map fun v => v.category).sum = W) (hf : R'.frames + 1 ≤ R.frames) (hl : W + (maxL + 11) + R'.locals ≤ R.locals)
    (hc : cells + R'.cells ≤ R.cells) (hs : slots + R'.slots ≤ R.slots) (hd : decode code pc = .ok (.invokevirtual idx, 3)) (hp : pc + 3 = pc')
    (g : ∀ T' h', Wk p l e R s m args below meth c Z n0 y code ml ret T' (cells + R'.cells) (slots + R'.slots) h' → Q' h' → Goes p e below K T' m pc' L (w'.toList ++ rest)) : Goes p e below K T m pc L S := by
  obtain ⟨hx, hZ, hby, hml, hown, hnm, hret, hlk, hn, locs, X, eT, N⟩ := X
  subst hp hW
  obtain ⟨cq, q, q'⟩ := E.cell
  obtain ⟨_, _, ⟨T1, L1, k1, n1⟩, -, X1, ⟨Lc, hQ, l1, y1, z1⟩, st⟩ := X.privateBack hx (y := y') hown (mvT hZ w1) (mvT hZ w6) (mvT hZ w5) (Cond.privateMethod_at (mvP hZ w7 (args := #[]))) (mvT hZ w4) hy (backOf (W := (rest.map fun v => v.category).sum) (hM []) hZ w4 w3 hf hl) (g := mkF m pc L S) rfl (by rw [hml]; exact hsz) (Steps.refl _) (a := a) (by rw [eT]; exact q) q' (argsL := argsL) (rest := rest) hlen hst (by show 2 * 0 + _ ≤ _; omega) (hb hby hd) (fun _ _ => ⟨rfl, eT, hc, hs⟩)
  dsimp only [Pt.U, Pt.locs, Pt.cells, Pt.slots] at X1 l1 y1 z1 st hQ
  subst l1 y1 z1
  obtain ⟨rfl, hQ', N', hn'⟩ := hQ
  obtain ⟨u1, a1, b1⟩ := g _ _ ⟨hx, hZ, hby, hml, hown, hnm, hret, hlk, hn', _, X1, rfl, N.app N'⟩ hQ'
  exact ⟨u1, st.trans a1, b1⟩
theorem w_privateV (X : Wk p l e R s m args below meth c Z n0 y code ml ret T cells slots h) {idx : Nat} {C : String} {y' : MethodName} {bytes : ByteArray} {maxL : Nat} {ret' : Option FieldType} {R' : Room} {v' : Value} {Q' : Heap → Prop} {a : Addr} {argsL rest : List Value} {W : Nat}
    (hM : Con l Z y' bytes maxL ret' R' (.ref a :: argsL).toArray h n0 (some v') Q') (E : Exa Z h a C) (w1 : (Jvm.Cond.methodLink y.cls idx y').before a0 Z = true) (w6 : (Jvm.Cond.instanceMethod y').before a0 Z = true) (w5 : (Jvm.Cond.selects y'.cls y' y').before a0 Z = true) (w7 : (Jvm.Cond.privateMethod y').before a0 Z = true) (w3 : (Jvm.Cond.initialized y'.cls).before a0 Z = true) (w4 : (Jvm.Cond.code y' bytes maxL ret').before a0 Z = true)
    (hy : y'.cls ≠ "java/lang/invoke/MethodHandle" ∧ y'.cls ≠ "java/lang/invoke/VarHandle") (hst : S = argsL.reverse ++ .ref a :: rest) (hlen : ∀ sig, parseMethodDescriptor y'.desc = some sig → argsL.length = sig.parameters.length) (hsz : L.size = ml) (hW : (rest.map fun v => v.category).sum = W) (hf : R'.frames + 1 ≤ R.frames) (hl : W + (maxL + 11) + R'.locals ≤ R.locals)
    (hc : cells + R'.cells ≤ R.cells) (hs : slots + R'.slots ≤ R.slots) (hd : decode code pc = .ok (.invokevirtual idx, 3)) (hp : pc + 3 = pc')
    (g : ∀ T' h', Wk p l e R s m args below meth c Z n0 y code ml ret T' (cells + R'.cells) (slots + R'.slots) h' → Q' h' → Goes p e below K T' m pc' L (v' :: rest)) : Goes p e below K T m pc L S := w_private X hM E w1 w6 w5 w7 w3 w4 hy hst hlen hsz hW hf hl hc hs hd hp g
theorem w_privateVP (X : Wk p l e R s m args below meth c Z n0 y code ml ret T cells slots h) {idx : Nat} {C : String} {y' : MethodName} {bytes : ByteArray} {maxL : Nat} {ret' : Option FieldType} {R' : Room} {v' : Value} {a : Addr} {argsL rest : List Value} {W : Nat}
    (hM : Con l Z y' bytes maxL ret' R' (.ref a :: argsL).toArray h n0 (some v') (fun h' => h' = h)) (E : Exa Z h a C) (w1 : (Jvm.Cond.methodLink y.cls idx y').before a0 Z = true) (w6 : (Jvm.Cond.instanceMethod y').before a0 Z = true) (w5 : (Jvm.Cond.selects y'.cls y' y').before a0 Z = true) (w7 : (Jvm.Cond.privateMethod y').before a0 Z = true) (w3 : (Jvm.Cond.initialized y'.cls).before a0 Z = true) (w4 : (Jvm.Cond.code y' bytes maxL ret').before a0 Z = true)
    (hy : y'.cls ≠ "java/lang/invoke/MethodHandle" ∧ y'.cls ≠ "java/lang/invoke/VarHandle") (hst : S = argsL.reverse ++ .ref a :: rest) (hlen : ∀ sig, parseMethodDescriptor y'.desc = some sig → argsL.length = sig.parameters.length) (hsz : L.size = ml) (hW : (rest.map fun v => v.category).sum = W) (hf : R'.frames + 1 ≤ R.frames) (hl : W + (maxL + 11) + R'.locals ≤ R.locals)
    (hc : cells + R'.cells ≤ R.cells) (hs : slots + R'.slots ≤ R.slots) (hd : decode code pc = .ok (.invokevirtual idx, 3)) (hp : pc + 3 = pc')
    (g : ∀ T', Wk p l e R s m args below meth c Z n0 y code ml ret T' (cells + R'.cells) (slots + R'.slots) h → Goes p e below K T' m pc' L (v' :: rest)) : Goes p e below K T m pc L S := w_privateV X hM E w1 w6 w5 w7 w3 w4 hy hst hlen hsz hW hf hl hc hs hd hp (fun T' h' X' q => by subst q; exact g T' X')
theorem w_private0 (X : Wk p l e R s m args below meth c Z n0 y code ml ret T cells slots h) {idx : Nat} {C : String} {y' : MethodName} {bytes : ByteArray} {maxL : Nat} {ret' : Option FieldType} {R' : Room} {Q' : Heap → Prop} {a : Addr} {argsL rest : List Value} {W : Nat}
    (hM : Con l Z y' bytes maxL ret' R' (.ref a :: argsL).toArray h n0 none Q') (E : Exa Z h a C) (w1 : (Jvm.Cond.methodLink y.cls idx y').before a0 Z = true) (w6 : (Jvm.Cond.instanceMethod y').before a0 Z = true) (w5 : (Jvm.Cond.selects y'.cls y' y').before a0 Z = true) (w7 : (Jvm.Cond.privateMethod y').before a0 Z = true) (w3 : (Jvm.Cond.initialized y'.cls).before a0 Z = true) (w4 : (Jvm.Cond.code y' bytes maxL ret').before a0 Z = true)
    (hy : y'.cls ≠ "java/lang/invoke/MethodHandle" ∧ y'.cls ≠ "java/lang/invoke/VarHandle") (hst : S = argsL.reverse ++ .ref a :: rest) (hlen : ∀ sig, parseMethodDescriptor y'.desc = some sig → argsL.length = sig.parameters.length) (hsz : L.size = ml) (hW : (rest.map fun v => v.category).sum = W) (hf : R'.frames + 1 ≤ R.frames) (hl : W + (maxL + 11) + R'.locals ≤ R.locals)
    (hc : cells + R'.cells ≤ R.cells) (hs : slots + R'.slots ≤ R.slots) (hd : decode code pc = .ok (.invokevirtual idx, 3)) (hp : pc + 3 = pc')
    (g : ∀ T' h', Wk p l e R s m args below meth c Z n0 y code ml ret T' (cells + R'.cells) (slots + R'.slots) h' → Q' h' → Goes p e below K T' m pc' L rest) : Goes p e below K T m pc L S := w_private X hM E w1 w6 w5 w7 w3 w4 hy hst hlen hsz hW hf hl hc hs hd hp g
theorem w_private0P (X : Wk p l e R s m args below meth c Z n0 y code ml ret T cells slots h) {idx : Nat} {C : String} {y' : MethodName} {bytes : ByteArray} {maxL : Nat} {ret' : Option FieldType} {R' : Room} {a : Addr} {argsL rest : List Value} {W : Nat}
    (hM : Con l Z y' bytes maxL ret' R' (.ref a :: argsL).toArray h n0 none (fun h' => h' = h)) (E : Exa Z h a C) (w1 : (Jvm.Cond.methodLink y.cls idx y').before a0 Z = true) (w6 : (Jvm.Cond.instanceMethod y').before a0 Z = true) (w5 : (Jvm.Cond.selects y'.cls y' y').before a0 Z = true) (w7 : (Jvm.Cond.privateMethod y').before a0 Z = true) (w3 : (Jvm.Cond.initialized y'.cls).before a0 Z = true) (w4 : (Jvm.Cond.code y' bytes maxL ret').before a0 Z = true)
    (hy : y'.cls ≠ "java/lang/invoke/MethodHandle" ∧ y'.cls ≠ "java/lang/invoke/VarHandle") (hst : S = argsL.reverse ++ .ref a :: rest) (hlen : ∀ sig, parseMethodDescriptor y'.desc = some sig → argsL.length = sig.parameters.length) (hsz : L.size = ml) (hW : (rest.map fun v => v.category).sum = W) (hf : R'.frames + 1 ≤ R.frames) (hl : W + (maxL + 11) + R'.locals ≤ R.locals)
    (hc : cells + R'.cells ≤ R.cells) (hs : slots + R'.slots ≤ R.slots) (hd : decode code pc = .ok (.invokevirtual idx, 3)) (hp : pc + 3 = pc')
    (g : ∀ T', Wk p l e R s m args below meth c Z n0 y code ml ret T' (cells + R'.cells) (slots + R'.slots) h → Goes p e below K T' m pc' L rest) : Goes p e below K T m pc L S := w_private0 X hM E w1 w6 w5 w7 w3 w4 hy hst hlen hsz hW hf hl hc hs hd hp (fun T' h' X' q => by subst q; exact g T' X')
theorem w_initO (X : Wk p l e R s m args below meth c Z n0 y code ml ret T cells slots h) {idx : Nat} {a : Addr} {W : Nat} (w1 : (Jvm.Cond.methodLink y.cls idx Lib.objectInit).before a0 Z = true) (w2 : (Jvm.Cond.instanceMethod Lib.objectInit).before a0 Z = true) (w3 : (Jvm.Cond.code Lib.objectInit ⟨#[0xb1]⟩ 1 none).before a0 Z = true)
    (hsz : L.size = ml) (hW : (S.map fun v => v.category).sum = W) (hf : 1 ≤ R.frames) (hl : W + 12 ≤ R.locals) (hd : decode code pc = .ok (.invokespecial idx, 3)) (hp : pc + 3 = pc')
    (g : ∀ T', Wk p l e R s m args below meth c Z n0 y code ml ret T' cells slots h → Goes p e below K T' m pc' L S) : Goes p e below K T m pc L (.ref a :: S) := by
  obtain ⟨hx, hZ, hby, hml, hown, hnm, hret, hlk, hn, locs, X, eT, N⟩ := X
  subst hp hW
  obtain ⟨T1, X1, e1, st⟩ := initO X hx hZ hown w1 w2 w3 eT (g := mkF m pc L (.ref a :: S)) rfl (by rw [hml]; exact hsz) rfl (hb hby hd) hf (W := (S.map fun v => v.category).sum) (by show 2 * 0 + _ ≤ _; omega) hl
  obtain ⟨u1, a1, b1⟩ := g _ ⟨hx, hZ, hby, hml, hown, hnm, hret, hlk, hn, _, X1, e1, N⟩
  exact ⟨u1, st _ a1, b1⟩
-- fields and objects
theorem w_getF (X : Wk p l e R s m args below meth c Z n0 y code ml ret T cells slots h) {R0 O n d host : String} {idx : Nat} {a : Addr} {v : Value} (w : (Jvm.Cond.fieldLink y.cls idx R0 n d).before a0 Z = true ∨ (Jvm.Cond.fieldLinkNest y.cls idx R0 n d host).before a0 Z = true) (via : Via Z R0 O n d)
    (F : Fld Z h a O n d v) (hd : decode code pc = .ok (.getfield idx, 3)) (hp : pc + 3 = pc') (g : ∀ T', Wk p l e R s m args below meth c Z n0 y code ml ret T' cells slots h → Goes p e below K T' m pc' L (v :: S)) : Goes p e below K T m pc L (.ref a :: S) := by
  obtain ⟨hx, hZ, hby, hml, hown, hnm, hret, hlk, hn, locs, X, eT, N⟩ := X
  subst hp
  obtain ⟨T1, X1, e1, st⟩ := getF X hx hZ hown w via eT F (g := mkF m pc L (.ref a :: S)) rfl rfl (hb hby hd)
  obtain ⟨u1, a1, b1⟩ := g _ ⟨hx, hZ, hby, hml, hown, hnm, hret, hlk, hn, _, X1, e1, N⟩
  exact ⟨u1, st _ a1, b1⟩
theorem w_putF (X : Wk p l e R s m args below meth c Z n0 y code ml ret T cells slots h) {R0 O n d host C : String} {idx kk : Nat} {ty : FieldType} {a : Addr} {v old : Value} (w : (Jvm.Cond.fieldLink y.cls idx R0 n d).before a0 Z = true ∨ (Jvm.Cond.fieldLinkNest y.cls idx R0 n d host).before a0 Z = true) (via : Via Z R0 O n d)
    (F : Fld Z h a O n d old) (E : Exa Z h a C) (Lw : (Jvm.Cond.lays C O n d).before a0 Z = true ∨ ((Jvm.Cond.laysFinal C O n d).before a0 Z = true ∧ y.cls = O ∧ y.name = "<init>")) (wi : (Jvm.Cond.instantiable C kk).before a0 Z = true) (hty : parseFieldDescriptor d = some ty) (hnv : narrow ty v = v) (hfv : fits ty v = true) (ha : n0 ≤ a)
    (hd : decode code pc = .ok (.putfield idx, 3)) (hp : pc + 3 = pc') (g : ∀ T' h', Wk p l e R s m args below meth c Z n0 y code ml ret T' cells slots h' → Wr h h' a (Jvm.RoadKit.slotOf Z O n d) v → Goes p e below K T' m pc' L S) : Goes p e below K T m pc L (v :: .ref a :: S) := by
  obtain ⟨hx, hZ, hby, hml, hown, hnm, hret, hlk, hn, locs, X, eT, N⟩ := X
  subst hp
  obtain ⟨T1, h1, X1, e1, W1, st⟩ := putF X hx hZ hown w via eT F E (Lw.imp id fun q => ⟨q.1, q.2.1, hnm.trans q.2.2⟩) wi hty hnv hfv (g := mkF m pc L (v :: .ref a :: S)) rfl rfl (hb hby hd)
  obtain ⟨u1, a1, b1⟩ := g _ _ ⟨hx, hZ, hby, hml, hown, hnm, hret, hlk, W1.size.symm ▸ hn, _, X1, e1, Fr.snoc X1 N ha⟩ W1
  exact ⟨u1, st _ a1, b1⟩
theorem w_putFN (X : Wk p l e R s m args below meth c Z n0 y code ml ret T cells slots h) {R0 O n d C : String} {idx kk : Nat} {ty : FieldType} {a : Addr} {v v' old : Value} (w : (Jvm.Cond.fieldLink y.cls idx R0 n d).before a0 Z = true) (via : Via Z R0 O n d)
    (F : Fld Z h a O n d old) (E : Exa Z h a C) (Lw : (Jvm.Cond.lays C O n d).before a0 Z = true ∨ ((Jvm.Cond.laysFinal C O n d).before a0 Z = true ∧ y.cls = O ∧ y.name = "<init>")) (wi : (Jvm.Cond.instantiable C kk).before a0 Z = true) (hty : parseFieldDescriptor d = some ty) (hnv : narrow ty v = v') (hfv : fits ty v' = true) (ha : n0 ≤ a)
    (hd : decode code pc = .ok (.putfield idx, 3)) (hp : pc + 3 = pc') (g : ∀ T' h', Wk p l e R s m args below meth c Z n0 y code ml ret T' cells slots h' → Wr h h' a (Jvm.RoadKit.slotOf Z O n d) v' → Goes p e below K T' m pc' L S) : Goes p e below K T m pc L (v :: .ref a :: S) := by
  obtain ⟨hx, hZ, hby, hml, hown, hnm, hret, hlk, hn, locs, X, eT, N⟩ := X
  subst hp
  obtain ⟨T1, h1, X1, e1, W1, st⟩ := putFN X hx hZ hown w via eT F E (Lw.imp id fun q => ⟨q.1, q.2.1, hnm.trans q.2.2⟩) wi hty hnv hfv (g := mkF m pc L (v :: .ref a :: S)) rfl rfl (hb hby hd)
  obtain ⟨u1, a1, b1⟩ := g _ _ ⟨hx, hZ, hby, hml, hown, hnm, hret, hlk, W1.size.symm ▸ hn, _, X1, e1, Fr.snoc X1 N ha⟩ W1
  exact ⟨u1, st _ a1, b1⟩
theorem w_new (X : Wk p l e R s m args below meth c Z n0 y code ml ret T cells slots h) {C : String} {idx n : Nat} (w : (Jvm.Cond.classLink y.cls idx C).before a0 Z = true) (wi : (Jvm.Cond.instantiable C n).before a0 Z = true) (wz : (Jvm.Cond.initialized C).before a0 Z = true) (hc : cells + 1 ≤ R.cells) (hl : slots + n ≤ R.slots) (hd : decode code pc = .ok (.new idx, 3)) (hp : pc + 3 = pc')
    (g : ∀ T' h' a, Wk p l e R s m args below meth c Z n0 y code ml ret T' (cells + 1) (slots + n) h' → a = h.size → n0 ≤ a → Ext h h' → Exa Z h' a C → (∀ {O nm d : String} {ty : FieldType}, Laid Z a0 C O nm d → parseFieldDescriptor d = some ty → Fld Z h' a O nm d (defaultValue ty)) → Goes p e below K T' m pc' L (.ref a :: S)) : Goes p e below K T m pc L S := by
  obtain ⟨hx, hZ, hby, hml, hown, hnm, hret, hlk, hn, locs, X, eT, N⟩ := X
  subst hp
  obtain ⟨T1, h1, X1, e1, E1, A1, D1, -, st⟩ := newO X hx hZ hown w wi wz eT (g := mkF m pc L S) rfl (hb hby hd) hc hl
  obtain ⟨u1, a1, b1⟩ := g _ _ _ ⟨hx, hZ, hby, hml, hown, hnm, hret, hlk, Nat.le_trans hn E1.1, _, X1, e1, N⟩ rfl hn E1 A1 D1
  exact ⟨u1, st _ a1, b1⟩
-- arrays
/-- the array at a holds vs -/
def AV (Z : State) (h : Heap) (a : Addr) (ty : FieldType) (vs : List Value) : Prop := ∃ c : Cell, Arr Z h a c ty ∧ c.slots.toList = vs ∧ vs.length < 2 ^ 31
theorem AV.lt {a : Addr} {ty : FieldType} {vs : List Value} (A : AV Z h a ty vs) : a < h.size := by obtain ⟨c, A, -⟩ := A; exact A.lt
theorem AV.ext {a : Addr} {ty : FieldType} {vs : List Value} {h' : Heap} (A : AV Z h a ty vs) (E : Ext h h') : AV Z h' a ty vs := by obtain ⟨c, A, r⟩ := A; exact ⟨c, A.ext E, r⟩
theorem AV.other {a b : Addr} {ty : FieldType} {vs : List Value} {h' : Heap} {sl : Nat} {v : Value} (A : AV Z h b ty vs) (W : Wr h h' a sl v) (q : b ≠ a) : AV Z h' b ty vs := by obtain ⟨c, A, r⟩ := A; exact ⟨c, A.other W q, r⟩
theorem AV.keep {a : Addr} {ty : FieldType} {vs : List Value} {h' : Heap} {ws : List Addr} (A : AV Z h a ty vs) (Kp : Keep h h' ws) (q : a ∉ ws) : AV Z h' a ty vs := by obtain ⟨c, A, r⟩ := A; exact ⟨c, ⟨Kp.2.1 _ _ A.1 q, A.2⟩, r⟩
theorem AV.set {a : Addr} {ty : FieldType} {vs : List Value} {h' : Heap} {i : Nat} {v : Value} (A : AV Z h a ty vs) (W : Wr h h' a i v) : AV Z h' a ty (vs.set i v) := by
  obtain ⟨c, A, r1, r2⟩ := A
  refine ⟨_, A.same W, ?_, by simpa using r2⟩
  subst r1
  simp [Cell.setSlot]
theorem AV.ne_exa {a b : Addr} {ty : FieldType} {vs : List Value} {C : String} {k : Nat} (A : AV Z h a ty vs) (E : Exa Z h b C) (wi : (Jvm.Cond.instantiable C k).before a0 Z = true) : b ≠ a := by obtain ⟨c, A, -⟩ := A; exact ne_arr E wi A
theorem AV.len {a : Addr} {ty : FieldType} {vs : List Value} (A : AV Z h a ty vs) : vs.length < 2 ^ 31 := by obtain ⟨c, -, -, r⟩ := A; exact r
theorem av_in {c : Cell} {vs : List Value} (r : c.slots.toList = vs) {j : Int32} {i : Nat} (h0 : ¬ j < 0) (hi : j.toNatClampNeg = i) (hlt : i < vs.length) : ¬ (j < 0 ∨ c.slots.size ≤ j.toNatClampNeg) := by
  subst r hi
  rintro (q | q)
  · exact h0 q
  · simp at hlt; omega
theorem av_at {c : Cell} {vs : List Value} (r : c.slots.toList = vs) {i : Nat} {v : Value} (hv : vs[i]? = some v) : c.slots[i]? = some v := by
  subst r
  simpa using hv
theorem w_newP (X : Wk p l e R s m args below meth c Z n0 y code ml ret T cells slots h) {aty : ArrayType} {n : Int32} {k : Nat} (w : (Jvm.Cond.arrayClass (newarray.typeOf aty)).before a0 Z = true) (hn : ¬ n < 0) (hk : n.toNatClampNeg = k) {cap : Nat} (hcap : k ≤ cap) (hb0 : cap * 8 ≤ 536870912) (hc : cells + 1 ≤ R.cells) (hl : slots + cap ≤ R.slots) (hd : decode code pc = .ok (.newarray aty, 2)) (hp : pc + 2 = pc')
    (g : ∀ T' h' a, Wk p l e R s m args below meth c Z n0 y code ml ret T' (cells + 1) (slots + cap) h' → a = h.size → n0 ≤ a → Ext h h' → AV Z h' a (newarray.typeOf aty) (List.replicate k (defaultValue (newarray.typeOf aty))) → Goes p e below K T' m pc' L (.ref a :: S)) : Goes p e below K T m pc L (.int n :: S) := by
  obtain ⟨hx, hZ, hby, hml, hown, hnm, hret, hlk, hn', locs, X, eT, N⟩ := X
  subst hp hk
  obtain ⟨T1, h1, cA, X1, e1, E1, A1, st⟩ := newP X hx hZ w eT (g := mkF m pc L (.int n :: S)) rfl (hb hby hd) rfl hn hcap hb0 hc hl
  obtain ⟨u1, a1, b1⟩ := g _ _ _ ⟨hx, hZ, hby, hml, hown, hnm, hret, hlk, Nat.le_trans hn' E1.1, _, X1, e1, N⟩ rfl hn' E1 ⟨_, A1, (by simp [newA]), (by simp only [List.length_replicate]; exact (back32 hn).2)⟩
  exact ⟨u1, st _ a1, b1⟩
theorem w_iaload (X : Wk p l e R s m args below meth c Z n0 y code ml ret T cells slots h) {a : Addr} {vs : List Value} {j : Int32} {i : Nat} {v : Value} (A : AV Z h a .int vs) (h0 : ¬ j < 0) (hi : j.toNatClampNeg = i) (hv : vs[i]? = some v) (hd : decode code pc = .ok (.iaload, 1)) (hp : pc + 1 = pc') (g : Goes p e below K T m pc' L (v :: S)) : Goes p e below K T m pc L (.int j :: .ref a :: S) := by
  obtain ⟨hx, hZ, hby, hml, hown, hnm, hret, hlk, hn, locs, X, eT, N⟩ := X
  obtain ⟨cl, A, r, -⟩ := A
  subst hp
  obtain ⟨u1, a1, b1⟩ := g
  exact ⟨u1, X.iaload hx (by rw [eT]; exact A.1) (State.isArrayOf_alike hZ.alike A.2.1) A.2.2 (av_in r h0 hi (List.getElem?_eq_some_iff.mp hv).1) (by rw [hi]; exact av_at r hv) (g := mkF m pc L (.int j :: .ref a :: S)) rfl rfl (hb hby hd) _ a1, b1⟩
theorem w_laload (X : Wk p l e R s m args below meth c Z n0 y code ml ret T cells slots h) {a : Addr} {vs : List Value} {j : Int32} {i : Nat} {v : Value} (A : AV Z h a .long vs) (h0 : ¬ j < 0) (hi : j.toNatClampNeg = i) (hv : vs[i]? = some v) (hd : decode code pc = .ok (.laload, 1)) (hp : pc + 1 = pc') (g : Goes p e below K T m pc' L (v :: S)) : Goes p e below K T m pc L (.int j :: .ref a :: S) := by
  obtain ⟨hx, hZ, hby, hml, hown, hnm, hret, hlk, hn, locs, X, eT, N⟩ := X
  obtain ⟨cl, A, r, -⟩ := A
  subst hp
  obtain ⟨u1, a1, b1⟩ := g
  exact ⟨u1, X.laload hx (by rw [eT]; exact A.1) (State.isArrayOf_alike hZ.alike A.2.1) A.2.2 (av_in r h0 hi (List.getElem?_eq_some_iff.mp hv).1) (by rw [hi]; exact av_at r hv) (g := mkF m pc L (.int j :: .ref a :: S)) rfl rfl (hb hby hd) _ a1, b1⟩
theorem w_caload (X : Wk p l e R s m args below meth c Z n0 y code ml ret T cells slots h) {a : Addr} {vs : List Value} {j : Int32} {i : Nat} {v : Value} (A : AV Z h a .char vs) (h0 : ¬ j < 0) (hi : j.toNatClampNeg = i) (hv : vs[i]? = some v) (hd : decode code pc = .ok (.caload, 1)) (hp : pc + 1 = pc') (g : Goes p e below K T m pc' L (v :: S)) : Goes p e below K T m pc L (.int j :: .ref a :: S) := by
  obtain ⟨hx, hZ, hby, hml, hown, hnm, hret, hlk, hn, locs, X, eT, N⟩ := X
  obtain ⟨cl, A, r, -⟩ := A
  subst hp
  obtain ⟨u1, a1, b1⟩ := g
  exact ⟨u1, X.caload hx (by rw [eT]; exact A.1) (State.isArrayOf_alike hZ.alike A.2.1) A.2.2 (av_in r h0 hi (List.getElem?_eq_some_iff.mp hv).1) (by rw [hi]; exact av_at r hv) (g := mkF m pc L (.int j :: .ref a :: S)) rfl rfl (hb hby hd) _ a1, b1⟩
theorem w_baloadB (X : Wk p l e R s m args below meth c Z n0 y code ml ret T cells slots h) {a : Addr} {vs : List Value} {j : Int32} {i : Nat} {v : Value} (A : AV Z h a .byte vs) (h0 : ¬ j < 0) (hi : j.toNatClampNeg = i) (hv : vs[i]? = some v) (hd : decode code pc = .ok (.baload, 1)) (hp : pc + 1 = pc') (g : Goes p e below K T m pc' L (v :: S)) : Goes p e below K T m pc L (.int j :: .ref a :: S) := by
  obtain ⟨hx, hZ, hby, hml, hown, hnm, hret, hlk, hn, locs, X, eT, N⟩ := X
  obtain ⟨cl, A, r, -⟩ := A
  subst hp
  obtain ⟨u1, a1, b1⟩ := g
  exact ⟨u1, X.baloadBytes hx (by rw [eT]; exact A.1) (State.isArrayOf_alike hZ.alike A.2.1) A.2.2 (av_in r h0 hi (List.getElem?_eq_some_iff.mp hv).1) (by rw [hi]; exact av_at r hv) (g := mkF m pc L (.int j :: .ref a :: S)) rfl rfl (hb hby hd) _ a1, b1⟩
theorem w_baloadZ (X : Wk p l e R s m args below meth c Z n0 y code ml ret T cells slots h) {a : Addr} {vs : List Value} {j : Int32} {i : Nat} {v : Value} (A : AV Z h a .boolean vs) (h0 : ¬ j < 0) (hi : j.toNatClampNeg = i) (hv : vs[i]? = some v) (hd : decode code pc = .ok (.baload, 1)) (hp : pc + 1 = pc') (g : Goes p e below K T m pc' L (v :: S)) : Goes p e below K T m pc L (.int j :: .ref a :: S) := by
  obtain ⟨hx, hZ, hby, hml, hown, hnm, hret, hlk, hn, locs, X, eT, N⟩ := X
  obtain ⟨cl, A, r, -⟩ := A
  subst hp
  obtain ⟨u1, a1, b1⟩ := g
  exact ⟨u1, X.baloadBooleans hx (by rw [eT]; exact A.1) (State.isArrayOf_alike hZ.alike A.2.1) A.2.2 (av_in r h0 hi (List.getElem?_eq_some_iff.mp hv).1) (by rw [hi]; exact av_at r hv) (g := mkF m pc L (.int j :: .ref a :: S)) rfl rfl (hb hby hd) _ a1, b1⟩
theorem w_arraylength (X : Wk p l e R s m args below meth c Z n0 y code ml ret T cells slots h) {a : Addr} {ty : FieldType} {vs : List Value} {n : Int32} (A : AV Z h a ty vs) (hn : vs.length.toInt32 = n) (hd : decode code pc = .ok (.arraylength, 1)) (hp : pc + 1 = pc') (g : Goes p e below K T m pc' L (.int n :: S)) : Goes p e below K T m pc L (.ref a :: S) := by
  obtain ⟨hx, hZ, hby, hml, hown, hnm, hret, hlk, hn', locs, X, eT, N⟩ := X
  obtain ⟨cl, A, r, -⟩ := A
  have q : cl.slots.size.toInt32 = n := by rw [← hn, ← r]; simp
  subst hp q
  obtain ⟨u1, a1, b1⟩ := g
  exact ⟨u1, X.arraylength hx (by rw [eT]; exact A.1) (State.isArrayOf_alike hZ.alike A.2.1) (g := mkF m pc L (.ref a :: S)) rfl rfl (hb hby hd) _ a1, b1⟩
theorem w_iastore (X : Wk p l e R s m args below meth c Z n0 y code ml ret T cells slots h) {a : Addr} {vs : List Value} {j : Int32} {i : Nat} {x : Int32} (A : AV Z h a .int vs) (h0 : ¬ j < 0) (hi : j.toNatClampNeg = i) (hlt : i < vs.length) (ha : n0 ≤ a) (hd : decode code pc = .ok (.iastore, 1)) (hp : pc + 1 = pc') (g : ∀ T' h', Wk p l e R s m args below meth c Z n0 y code ml ret T' cells slots h' → Wr h h' a i (.int x) → AV Z h' a .int (vs.set i (.int x)) → Goes p e below K T' m pc' L S) : Goes p e below K T m pc L (.int x :: .int j :: .ref a :: S) := by
  obtain ⟨hx, hZ, hby, hml, hown, hnm, hret, hlk, hn, locs, X, eT, N⟩ := X
  have A0 := A
  obtain ⟨cl, A, r, -⟩ := A
  subst hp hi
  obtain ⟨T1, h1, X1, e1, W1, st⟩ := stI X hx hZ eT A (j := j) (av_in r h0 rfl hlt) (g := mkF m pc L (.int x :: .int j :: .ref a :: S)) rfl rfl (hb hby hd)
  obtain ⟨u1, a1, b1⟩ := g _ _ ⟨hx, hZ, hby, hml, hown, hnm, hret, hlk, W1.size.symm ▸ hn, _, X1, e1, Fr.snoc X1 N ha⟩ W1 (A0.set W1)
  exact ⟨u1, st _ a1, b1⟩
theorem w_lastore (X : Wk p l e R s m args below meth c Z n0 y code ml ret T cells slots h) {a : Addr} {vs : List Value} {j : Int32} {i : Nat} {x : Int64} (A : AV Z h a .long vs) (h0 : ¬ j < 0) (hi : j.toNatClampNeg = i) (hlt : i < vs.length) (ha : n0 ≤ a) (hd : decode code pc = .ok (.lastore, 1)) (hp : pc + 1 = pc') (g : ∀ T' h', Wk p l e R s m args below meth c Z n0 y code ml ret T' cells slots h' → Wr h h' a i (.long x) → AV Z h' a .long (vs.set i (.long x)) → Goes p e below K T' m pc' L S) : Goes p e below K T m pc L (.long x :: .int j :: .ref a :: S) := by
  obtain ⟨hx, hZ, hby, hml, hown, hnm, hret, hlk, hn, locs, X, eT, N⟩ := X
  have A0 := A
  obtain ⟨cl, A, r, -⟩ := A
  subst hp hi
  obtain ⟨T1, h1, X1, e1, W1, st⟩ := stJ X hx hZ eT A (j := j) (av_in r h0 rfl hlt) (g := mkF m pc L (.long x :: .int j :: .ref a :: S)) rfl rfl (hb hby hd)
  obtain ⟨u1, a1, b1⟩ := g _ _ ⟨hx, hZ, hby, hml, hown, hnm, hret, hlk, W1.size.symm ▸ hn, _, X1, e1, Fr.snoc X1 N ha⟩ W1 (A0.set W1)
  exact ⟨u1, st _ a1, b1⟩
theorem w_castore (X : Wk p l e R s m args below meth c Z n0 y code ml ret T cells slots h) {a : Addr} {vs : List Value} {j : Int32} {i : Nat} {x : Int32} (A : AV Z h a .char vs) (h0 : ¬ j < 0) (hi : j.toNatClampNeg = i) (hlt : i < vs.length) (ha : n0 ≤ a) (hd : decode code pc = .ok (.castore, 1)) (hp : pc + 1 = pc') (g : ∀ T' h', Wk p l e R s m args below meth c Z n0 y code ml ret T' cells slots h' → Wr h h' a i (.int (nar .char x)) → AV Z h' a .char (vs.set i (.int (nar .char x))) → Goes p e below K T' m pc' L S) : Goes p e below K T m pc L (.int x :: .int j :: .ref a :: S) := by
  obtain ⟨hx, hZ, hby, hml, hown, hnm, hret, hlk, hn, locs, X, eT, N⟩ := X
  have A0 := A
  obtain ⟨cl, A, r, -⟩ := A
  subst hp hi
  obtain ⟨T1, h1, X1, e1, W1, st⟩ := stC X hx hZ eT A (j := j) (av_in r h0 rfl hlt) (g := mkF m pc L (.int x :: .int j :: .ref a :: S)) rfl rfl (hb hby hd)
  obtain ⟨u1, a1, b1⟩ := g _ _ ⟨hx, hZ, hby, hml, hown, hnm, hret, hlk, W1.size.symm ▸ hn, _, X1, e1, Fr.snoc X1 N ha⟩ W1 (A0.set W1)
  exact ⟨u1, st _ a1, b1⟩
theorem w_bastoreB (X : Wk p l e R s m args below meth c Z n0 y code ml ret T cells slots h) {a : Addr} {vs : List Value} {j : Int32} {i : Nat} {x : Int32} (A : AV Z h a .byte vs) (h0 : ¬ j < 0) (hi : j.toNatClampNeg = i) (hlt : i < vs.length) (ha : n0 ≤ a) (hd : decode code pc = .ok (.bastore, 1)) (hp : pc + 1 = pc') (g : ∀ T' h', Wk p l e R s m args below meth c Z n0 y code ml ret T' cells slots h' → Wr h h' a i (.int (nar .byte x)) → AV Z h' a .byte (vs.set i (.int (nar .byte x))) → Goes p e below K T' m pc' L S) : Goes p e below K T m pc L (.int x :: .int j :: .ref a :: S) := by
  obtain ⟨hx, hZ, hby, hml, hown, hnm, hret, hlk, hn, locs, X, eT, N⟩ := X
  have A0 := A
  obtain ⟨cl, A, r, -⟩ := A
  subst hp hi
  obtain ⟨T1, h1, X1, e1, W1, st⟩ := stB X hx hZ eT A (j := j) (av_in r h0 rfl hlt) (g := mkF m pc L (.int x :: .int j :: .ref a :: S)) rfl rfl (hb hby hd)
  obtain ⟨u1, a1, b1⟩ := g _ _ ⟨hx, hZ, hby, hml, hown, hnm, hret, hlk, W1.size.symm ▸ hn, _, X1, e1, Fr.snoc X1 N ha⟩ W1 (A0.set W1)
  exact ⟨u1, st _ a1, b1⟩
theorem w_bastoreZ (X : Wk p l e R s m args below meth c Z n0 y code ml ret T cells slots h) {a : Addr} {vs : List Value} {j : Int32} {i : Nat} {x : Int32} (A : AV Z h a .boolean vs) (h0 : ¬ j < 0) (hi : j.toNatClampNeg = i) (hlt : i < vs.length) (ha : n0 ≤ a) (hd : decode code pc = .ok (.bastore, 1)) (hp : pc + 1 = pc') (g : ∀ T' h', Wk p l e R s m args below meth c Z n0 y code ml ret T' cells slots h' → Wr h h' a i (.int (nar .boolean x)) → AV Z h' a .boolean (vs.set i (.int (nar .boolean x))) → Goes p e below K T' m pc' L S) : Goes p e below K T m pc L (.int x :: .int j :: .ref a :: S) := by
  obtain ⟨hx, hZ, hby, hml, hown, hnm, hret, hlk, hn, locs, X, eT, N⟩ := X
  have A0 := A
  obtain ⟨cl, A, r, -⟩ := A
  subst hp hi
  obtain ⟨T1, h1, X1, e1, W1, st⟩ := stZ X hx hZ eT A (j := j) (av_in r h0 rfl hlt) (g := mkF m pc L (.int x :: .int j :: .ref a :: S)) rfl rfl (hb hby hd)
  obtain ⟨u1, a1, b1⟩ := g _ _ ⟨hx, hZ, hby, hml, hown, hnm, hret, hlk, W1.size.symm ▸ hn, _, X1, e1, Fr.snoc X1 N ha⟩ W1 (A0.set W1)
  exact ⟨u1, st _ a1, b1⟩
theorem getI {xs : List Int32} {i : Nat} (q : i < xs.length) : (xs.map Value.int)[i]? = some (.int (xs.getD i 0)) := by
  simp [List.getD_eq_getElem?_getD, List.getElem?_eq_getElem q]
theorem getL {xs : List Int64} {i : Nat} (q : i < xs.length) : (xs.map Value.long)[i]? = some (.long (xs.getD i 0)) := by
  simp [List.getD_eq_getElem?_getD, List.getElem?_eq_getElem q]
/-- a new name for a value -/
theorem nameI {K' : Prop} (v : Int32) (g : ∀ z, z = v → K') : K' := g v rfl
theorem nameL {K' : Prop} (v : Int64) (g : ∀ z, z = v → K') : K' := g v rfl
end Rules
end Jvm.Own
namespace Jvm.Pilot.@@N@@
open Jvm Jvm.ClassFile Sem Op Lib Jvm.Free Jvm.Stand Jvm.LawKit Jvm.RoadKit Bundle Jvm.Own Jvm.Pilot.@@N@@.Jvm.D
theorem own_inc (i t : Int32) (h : i < t) : (i + 1).toInt = i.toInt + 1 := by
  rw [Int32.lt_iff_toInt_lt] at h
  have h1 := t.toInt_lt; have h2 := i.le_toInt
  have e1 : (1 : Int32).toInt = 1 := by decide
  rw [Int32.toInt_add, e1]
  exact Int.bmod_eq_of_le (by show -(2:Int)^32/2 ≤ _; omega) (by show _ < ((2:Int)^32+1)/2; omega)
theorem own_nn (i : Int32) (h : 0 ≤ i.toInt) : ¬ i < 0 := by rw [Int32.lt_iff_toInt_lt]; have e : (0 : Int32).toInt = 0 := by decide
                                                             omega
theorem own_bd (i t : Int32) (n : Nat) (h0 : 0 ≤ i.toInt) (h : i < t) (ht : t.toInt ≤ n) : i.toNatClampNeg < n := by
  rw [Int32.lt_iff_toInt_lt] at h
  have e : (i.toNatClampNeg : Int) = i.toInt := by rw [Int32.toNatClampNeg]; omega
  omega
def f_end (xs : List Int32) (t : Int32) : Nat → Int32 → Int32
  | 0, _ => -1
  | k + 1, i => if i < t then (if (xs.getD i.toNatClampNeg 0) = (10 : Int32) then i + 1 else f_end xs t k (i + 1)) else -1
def f_pick (q1 : Int64) (p2 : Int32) (p3 : Int32) : Int32 :=
  if ((ush p2 p3) &&& (1 : Int32)) = 0 then (nar .byte (((ushL q1 ((8 : Int32) * p3)).toInt32).toInt8.toInt32)) else (nar .byte (10 : Int32))
theorem d1_0 : decode method_3_code 0 = .ok (.iload_n 2, 1) := by decide +kernel
theorem d1_1 : decode method_3_code 1 = .ok (.iload_n 3, 1) := by decide +kernel
theorem d1_2 : decode method_3_code 2 = .ok (.iushr, 1) := by decide +kernel
theorem d1_3 : decode method_3_code 3 = .ok (.iconst 1, 1) := by decide +kernel
theorem d1_4 : decode method_3_code 4 = .ok (.iand, 1) := by decide +kernel
theorem d1_5 : decode method_3_code 5 = .ok (.ifCond .eq 6, 3) := by decide +kernel
theorem d1_8 : decode method_3_code 8 = .ok (.bipush 10, 2) := by decide +kernel
theorem d1_10 : decode method_3_code 10 = .ok (.ireturn, 1) := by decide +kernel
theorem d1_11 : decode method_3_code 11 = .ok (.lload_n 0, 1) := by decide +kernel
theorem d1_12 : decode method_3_code 12 = .ok (.bipush 8, 2) := by decide +kernel
theorem d1_14 : decode method_3_code 14 = .ok (.iload_n 3, 1) := by decide +kernel
theorem d1_15 : decode method_3_code 15 = .ok (.imul, 1) := by decide +kernel
theorem d1_16 : decode method_3_code 16 = .ok (.lushr, 1) := by decide +kernel
theorem d1_17 : decode method_3_code 17 = .ok (.l2i, 1) := by decide +kernel
theorem d1_18 : decode method_3_code 18 = .ok (.i2b, 1) := by decide +kernel
theorem d1_19 : decode method_3_code 19 = .ok (.ireturn, 1) := by decide +kernel
theorem pn_1 : plainName "com/example/stanchion/stanchion/FramesEndPinLaw" = true := by first | (simp [plainName, overriddenIn]; done) | decide +kernel
theorem ef_1 (m : MethodId) (q1 : Int64) (p2 : Int32) (p3 : Int32) : entryFrame m #[(.long q1), (.int p2), (.int p3)] 4 = mkF m 0 #[.val (.long q1), .second, .val (.int p2), .val (.int p3)] [] := by first | (simp [entryFrame, mkF, argsToLocals, Value.category]; done) | rfl
set_option maxRecDepth 65536 in
set_option maxHeartbeats 4000000 in
theorem rm1 (l : Launch) (Z : State) (a0 : Array Value) (hw : ∀ d ∈ tables_1, d.before a0 Z = true) (q1 : Int64) (p2 : Int32) (p3 : Int32) (h0 : Heap) (n0 : Nat) (Z0 : n0 ≤ h0.size) :
    Con l Z (⟨"com/example/stanchion/stanchion/FramesEndPinLaw", "pick", "(JII)B"⟩ : MethodName) method_3_code 4 (some .byte) ({ frames := 0, cells := 0, slots := 0, locals := 0 } : Room) #[(.long q1), (.int p2), (.int p3)] h0 n0 (some (.int (f_pick q1 p2 p3))) (fun h => h = h0) := by
  refine con_of (plainFor_of_name pn_1) Z0 (fun m => ef_1 m q1 p2 p3) ?_
  intro p e s m below meth c T0 X0
  refine w_iloadN X0 d1_0 rfl rfl ?_
  refine w_iloadN X0 d1_1 rfl rfl ?_
  refine w_iushr X0 d1_2 rfl ?_
  refine w_iconst X0 d1_3 (v := (1 : Int32)) rfl rfl ?_
  refine w_iand X0 d1_4 rfl ?_
  refine w_if_eq X0 d1_5 (by decide) (pcT := 11) (pcF := 8) (by decide) rfl (fun c1 => ?_) (fun c1 => ?_)
  · refine w_lloadN X0 d1_11 rfl rfl ?_
    refine w_bipush X0 d1_12 (v := (8 : Int32)) rfl rfl ?_
    refine w_iloadN X0 d1_14 rfl rfl ?_
    refine w_imul X0 d1_15 rfl ?_
    refine w_lushr X0 d1_16 rfl ?_
    refine w_l2i X0 d1_17 rfl ?_
    refine w_i2b X0 d1_18 rfl ?_
    exact w_nreturn X0 (t := .byte) (by simp) d1_19 (by unfold f_pick; rw [if_pos c1]) rfl (by decide) (by decide)
  · refine w_bipush X0 d1_8 (v := (10 : Int32)) rfl rfl ?_
    exact w_nreturn X0 (t := .byte) (by simp) d1_10 (by unfold f_pick; rw [if_neg c1]) rfl (by decide) (by decide)
def f_hit (p2 : Int32) (p3 : Int32) (p4 : Int32) (xs_o1 : List Int32) : Int32 :=
  if p2 < p3 then (0 : Int32) else (if p2 < p4 then (if (xs_o1.getD (p2).toNatClampNeg 0) = (10 : Int32) then (1 : Int32) else (0 : Int32)) else (0 : Int32))
theorem d3_0 : decode method_4_code 0 = .ok (.iload_n 2, 1) := by decide +kernel
theorem d3_1 : decode method_4_code 1 = .ok (.iload_n 1, 1) := by decide +kernel
theorem d3_2 : decode method_4_code 2 = .ok (.if_icmp .gt 20, 3) := by decide +kernel
theorem d3_5 : decode method_4_code 5 = .ok (.iload_n 1, 1) := by decide +kernel
theorem d3_6 : decode method_4_code 6 = .ok (.iload_n 3, 1) := by decide +kernel
theorem d3_7 : decode method_4_code 7 = .ok (.if_icmp .ge 15, 3) := by decide +kernel
theorem d3_10 : decode method_4_code 10 = .ok (.aload_n 0, 1) := by decide +kernel
theorem d3_11 : decode method_4_code 11 = .ok (.iload_n 1, 1) := by decide +kernel
theorem d3_12 : decode method_4_code 12 = .ok (.baload, 1) := by decide +kernel
theorem d3_13 : decode method_4_code 13 = .ok (.bipush 10, 2) := by decide +kernel
theorem d3_15 : decode method_4_code 15 = .ok (.if_icmp .ne 7, 3) := by decide +kernel
theorem d3_18 : decode method_4_code 18 = .ok (.iconst 1, 1) := by decide +kernel
theorem d3_19 : decode method_4_code 19 = .ok (.goto 4, 3) := by decide +kernel
theorem d3_22 : decode method_4_code 22 = .ok (.iconst 0, 1) := by decide +kernel
theorem d3_23 : decode method_4_code 23 = .ok (.ireturn, 1) := by decide +kernel
theorem pn_3 : plainName "com/example/stanchion/stanchion/FramesEndPinLaw" = true := by first | (simp [plainName, overriddenIn]; done) | decide +kernel
theorem ef_3 (m : MethodId) (o1 : Addr) (p2 : Int32) (p3 : Int32) (p4 : Int32) : entryFrame m #[(.ref o1), (.int p2), (.int p3), (.int p4)] 4 = mkF m 0 #[.val (.ref o1), .val (.int p2), .val (.int p3), .val (.int p4)] [] := by first | (simp [entryFrame, mkF, argsToLocals, Value.category]; done) | rfl
set_option maxRecDepth 65536 in
set_option maxHeartbeats 4000000 in
theorem rm3 (l : Launch) (Z : State) (a0 : Array Value) (hw : ∀ d ∈ tables_1, d.before a0 Z = true) (o1 : Addr) (p2 : Int32) (p3 : Int32) (p4 : Int32) (xs_o1 : List Int32) (h0 : Heap) (n0 : Nat) (Z0 : n0 ≤ h0.size) (A_o1 : AV Z h0 o1 .byte (xs_o1.map Value.int)) (b0 : ¬ p2 < 0) (b1 : p2.toNatClampNeg < xs_o1.length) :
    Con l Z (⟨"com/example/stanchion/stanchion/FramesEndPinLaw", "hit", "([BIII)Z"⟩ : MethodName) method_4_code 4 (some .boolean) ({ frames := 0, cells := 0, slots := 0, locals := 0 } : Room) #[(.ref o1), (.int p2), (.int p3), (.int p4)] h0 n0 (some (.int (f_hit p2 p3 p4 xs_o1))) (fun h => h = h0) := by
  refine con_of (plainFor_of_name pn_3) Z0 (fun m => ef_3 m o1 p2 p3 p4) ?_
  intro p e s m below meth c T0 X0
  refine w_iloadN X0 d3_0 rfl rfl ?_
  refine w_iloadN X0 d3_1 rfl rfl ?_
  refine w_icmp_gt X0 d3_2 (by decide) (pcT := 22) (pcF := 5) (by decide) rfl (fun c1 => ?_) (fun c1 => ?_)
  · refine w_iconst X0 d3_22 (v := (0 : Int32)) rfl rfl ?_
    exact w_nreturn X0 (t := .boolean) (by simp) d3_23 (by unfold f_hit; rw [if_pos c1]; rfl) rfl (by decide) (by decide)
  · refine w_iloadN X0 d3_5 rfl rfl ?_
    refine w_iloadN X0 d3_6 rfl rfl ?_
    refine w_icmp_ge X0 d3_7 (by decide) (pcT := 22) (pcF := 10) (by decide) rfl (fun c2 => ?_) (fun c2 => ?_)
    · refine w_iconst X0 d3_22 (v := (0 : Int32)) rfl rfl ?_
      exact w_nreturn X0 (t := .boolean) (by simp) d3_23 (by unfold f_hit; rw [if_neg c1, if_neg c2]; rfl) rfl (by decide) (by decide)
    · refine w_aloadN X0 d3_10 rfl rfl rfl ?_
      refine w_iloadN X0 d3_11 rfl rfl ?_
      refine w_baloadB X0 A_o1 b0 rfl (getI b1) d3_12 rfl ?_
      refine w_bipush X0 d3_13 (v := (10 : Int32)) rfl rfl ?_
      refine w_icmp_ne X0 d3_15 (by decide) (pcT := 22) (pcF := 18) (by decide) rfl (fun c3 => ?_) (fun c3 => ?_)
      · refine w_iconst X0 d3_22 (v := (0 : Int32)) rfl rfl ?_
        exact w_nreturn X0 (t := .boolean) (by simp) d3_23 (by unfold f_hit; rw [if_neg c1, if_pos c2, if_neg c3]; rfl) rfl (by decide) (by decide)
      · refine w_iconst X0 d3_18 (v := (1 : Int32)) rfl rfl ?_
        refine w_goto X0 d3_19 (by decide) (pc' := 23) (by decide) ?_
        exact w_nreturn X0 (t := .boolean) (by simp) d3_23 (by unfold f_hit; rw [if_neg c1, if_pos c2, if_pos c3]; rfl) rfl (by decide) (by decide)
theorem d2_0 : decode prog_32_method_13_code 0 = .ok (.iload_n 1, 1) := by decide +kernel
theorem d2_1 : decode prog_32_method_13_code 1 = .ok (.istore_n 3, 1) := by decide +kernel
theorem d2_2 : decode prog_32_method_13_code 2 = .ok (.iload_n 3, 1) := by decide +kernel
theorem d2_3 : decode prog_32_method_13_code 3 = .ok (.iload_n 2, 1) := by decide +kernel
theorem d2_4 : decode prog_32_method_13_code 4 = .ok (.if_icmp .ge 21, 3) := by decide +kernel
theorem d2_7 : decode prog_32_method_13_code 7 = .ok (.aload_n 0, 1) := by decide +kernel
theorem d2_8 : decode prog_32_method_13_code 8 = .ok (.iload_n 3, 1) := by decide +kernel
theorem d2_9 : decode prog_32_method_13_code 9 = .ok (.baload, 1) := by decide +kernel
theorem d2_10 : decode prog_32_method_13_code 10 = .ok (.bipush 10, 2) := by decide +kernel
theorem d2_12 : decode prog_32_method_13_code 12 = .ok (.if_icmp .ne 7, 3) := by decide +kernel
theorem d2_15 : decode prog_32_method_13_code 15 = .ok (.iload_n 3, 1) := by decide +kernel
theorem d2_16 : decode prog_32_method_13_code 16 = .ok (.iconst 1, 1) := by decide +kernel
theorem d2_17 : decode prog_32_method_13_code 17 = .ok (.iadd, 1) := by decide +kernel
theorem d2_18 : decode prog_32_method_13_code 18 = .ok (.ireturn, 1) := by decide +kernel
theorem d2_19 : decode prog_32_method_13_code 19 = .ok (.iinc 3 1, 3) := by decide +kernel
theorem d2_22 : decode prog_32_method_13_code 22 = .ok (.goto (-20), 3) := by decide +kernel
theorem d2_25 : decode prog_32_method_13_code 25 = .ok (.iconst (-1), 1) := by decide +kernel
theorem d2_26 : decode prog_32_method_13_code 26 = .ok (.ireturn, 1) := by decide +kernel
theorem pn_2 : plainName "com/example/stanchion/stanchion/Frames" = true := by first | (simp [plainName, overriddenIn]; done) | decide +kernel
theorem ef_2 (m : MethodId) (o1 : Addr) (p2 : Int32) (p3 : Int32) : entryFrame m #[(.ref o1), (.int p2), (.int p3)] 4 = mkF m 0 #[.val (.ref o1), .val (.int p2), .val (.int p3), .unset] [] := by first | (simp [entryFrame, mkF, argsToLocals, Value.category]; done) | rfl
set_option maxRecDepth 65536 in
set_option maxHeartbeats 4000000 in
theorem rm2 (l : Launch) (Z : State) (a0 : Array Value) (hw : ∀ d ∈ tables_1, d.before a0 Z = true) (o1 : Addr) (p2 : Int32) (p3 : Int32) (xs_o1 : List Int32) (h0 : Heap) (n0 : Nat) (Z0 : n0 ≤ h0.size) (A_o1 : AV Z h0 o1 .byte (xs_o1.map Value.int)) (hf : 0 ≤ p2.toInt) (ht : p3.toInt ≤ xs_o1.length) (hk : p3.toInt - p2.toInt < 7) :
    Con l Z (⟨"com/example/stanchion/stanchion/Frames", "end", "([BII)I"⟩ : MethodName) prog_32_method_13_code 4 (some .int) ({ frames := 0, cells := 0, slots := 0, locals := 0 } : Room) #[(.ref o1), (.int p2), (.int p3)] h0 n0 (some (.int (f_end xs_o1 p3 7 p2))) (fun h => h = h0) := by
  refine con_of (plainFor_of_name pn_2) Z0 (fun m => ef_2 m o1 p2 p3) ?_
  intro p e s m below meth c T0 X0
  refine w_iloadN X0 d2_0 rfl rfl ?_
  refine w_istoreN X0 d2_1 rfl (L' := #[.val (.ref o1), .val (.int p2), .val (.int p3), .val (.int p2)]) rfl ?_
  have loop : ∀ (k : Nat) (i : Int32) (T1 : State), Wk p l e ({ frames := 0, cells := 0, slots := 0, locals := 0 } : Room) s m #[(.ref o1), (.int p2), (.int p3)] below meth c Z n0 (⟨"com/example/stanchion/stanchion/Frames", "end", "([BII)I"⟩ : MethodName) prog_32_method_13_code 4 (some .int) T1 0 0 h0 → 0 ≤ i.toInt → p3.toInt - i.toInt < k → 0 < k → f_end xs_o1 p3 7 p2 = f_end xs_o1 p3 k i → Goes p e below (Done below s n0 ({ frames := 0, cells := 0, slots := 0, locals := 0 } : Room) (some (.int (f_end xs_o1 p3 7 p2))) (fun h => h = h0)) T1 m 2 #[.val (.ref o1), .val (.int p2), .val (.int p3), .val (.int i)] [] := by
    intro k
    induction k with
    | zero => intro i T1 X1 a1 b1 c1; exact absurd c1 (Nat.lt_irrefl 0)
    | succ k ih =>
      intro i T1 X1 a1 b1 g1 e1
      refine w_iloadN X1 d2_2 rfl rfl ?_
      refine w_iloadN X1 d2_3 rfl rfl ?_
      refine w_icmp_ge X1 d2_4 (by decide) (pcT := 25) (pcF := 7) (by decide) rfl (fun c1 => ?_) (fun c1 => ?_)
      · refine w_iconst X1 d2_25 (v := (-1 : Int32)) rfl rfl ?_
        exact w_ireturn X1 d2_26 (by rw [e1, f_end, if_neg c1]) rfl (by decide) (by decide)
      · refine w_aloadN X1 d2_7 rfl rfl rfl ?_
        refine w_iloadN X1 d2_8 rfl rfl ?_
        refine w_baloadB X1 A_o1 (own_nn i a1) rfl (getI (own_bd i p3 _ a1 c1 ht)) d2_9 rfl ?_
        refine w_bipush X1 d2_10 (v := (10 : Int32)) rfl rfl ?_
        refine w_icmp_ne X1 d2_12 (by decide) (pcT := 19) (pcF := 15) (by decide) rfl (fun c2 => ?_) (fun c2 => ?_)
        · refine w_iinc X1 d2_19 rfl rfl (v' := (i + (1 : Int32))) rfl (L' := #[.val (.ref o1), .val (.int p2), .val (.int p3), .val (.int (i + (1 : Int32)))]) rfl ?_
          refine w_goto X1 d2_22 (by decide) (pc' := 2) (by decide) ?_
          have v1 := own_inc i p3 c1
          have v2 := Int32.lt_iff_toInt_lt.mp c1
          exact ih (i + 1) _ X1 (by omega) (by omega) (by omega) (by rw [e1, f_end, if_pos c1, if_neg c2])
        · refine w_iloadN X1 d2_15 rfl rfl ?_
          refine w_iconst X1 d2_16 (v := (1 : Int32)) rfl rfl ?_
          refine w_iadd X1 d2_17 rfl ?_
          exact w_ireturn X1 d2_18 (by rw [e1, f_end, if_pos c1, if_pos c2]) rfl (by decide) (by decide)
  exact loop 7 p2 _ X0 hf hk (by decide) rfl
theorem own_fin (z : Int32) (n : Nat) (h0 : 0 ≤ z.toInt) (h1 : z.toInt < n) : ∃ k : Fin n, z = Int32.ofNat k.val := by
  refine ⟨⟨z.toInt.toNat, by omega⟩, ?_⟩
  apply Int32.toInt_inj.mp
  have := z.toInt_lt
  rw [Int32.toInt_ofNat_of_lt (by show z.toInt.toNat < 2 ^ 31; omega)]
  show z.toInt = ((z.toInt.toNat : Nat) : Int)
  omega
theorem own_r (x z : Int32) (h : (x &&& (2147483647 : Int32)) % (7 : Int32) = z) : 0 ≤ z.toInt ∧ z.toInt < 7 := by
  have h1 := (c_andS x (2147483647 : Int32)).2.2 (by decide)
  have e : (7 : Int32).toInt = 7 := by decide
  have q := (c_iremV (x &&& (2147483647 : Int32)) 7).1 h1 (by omega)
  rw [h] at q; omega
theorem own_r0 (x z : Int32) (h : (x &&& (2147483647 : Int32)) % (7 : Int32) = z) : 0 ≤ z.toInt := (own_r x z h).1
theorem own_r6 (x z : Int32) (h : (x &&& (2147483647 : Int32)) % (7 : Int32) = z) : z.toInt ≤ (6 : Nat) := by have := (own_r x z h).2; omega
theorem own_r7 (x z x' z' : Int32) (h : (x &&& (2147483647 : Int32)) % (7 : Int32) = z) (h' : (x' &&& (2147483647 : Int32)) % (7 : Int32) = z') : z'.toInt - z.toInt < 7 := by have := own_r x z h; have := own_r x' z' h'; omega
def g_exp (xs : List Int32) (f t : Int32) : Int32 :=
  let e5 : Int32 := if f_hit 5 f t xs = 0 then (-1 : Int32) else (6 : Int32)
  let e4 : Int32 := if f_hit 4 f t xs = 0 then e5 else (5 : Int32)
  let e3 : Int32 := if f_hit 3 f t xs = 0 then e4 else (4 : Int32)
  let e2 : Int32 := if f_hit 2 f t xs = 0 then e3 else (3 : Int32)
  let e1 : Int32 := if f_hit 1 f t xs = 0 then e2 else (2 : Int32)
  if f_hit 0 f t xs = 0 then e1 else (1 : Int32)
def bt (b : Bool) : Int32 := if b then 10 else 0
def nl (x : Int32) : Int32 := bt (decide (x = 10))
theorem nl_eq (x : Int32) : (nl x = 10) ↔ (x = 10) := by unfold nl bt; by_cases h : x = 10 <;> simp [h]
theorem nl_get (xs : List Int32) (i : Nat) : ((xs.map nl).getD i 0 = 10) ↔ (xs.getD i 0 = 10) := by
  simp only [List.getD_eq_getElem?_getD, List.getElem?_map]
  cases xs[i]? with
  | none => simp
  | some x => exact nl_eq x
theorem nl_end (xs : List Int32) (t : Int32) (k : Nat) : ∀ i, f_end (xs.map nl) t k i = f_end xs t k i := by
  induction k with
  | zero => intro i; rfl
  | succ k ih => intro i; simp only [f_end, nl_get, ih]
theorem nl_hit (xs : List Int32) (i f t : Int32) : f_hit i f t (xs.map nl) = f_hit i f t xs := by
  simp only [f_hit, nl_get]
theorem own_all : ∀ b0 b1 b2 b3 b4 b5 : Bool, ∀ f t : Fin 7, f_end [bt b0, bt b1, bt b2, bt b3, bt b4, bt b5] (Int32.ofNat t.val) 7 (Int32.ofNat f.val) = g_exp [bt b0, bt b1, bt b2, bt b3, bt b4, bt b5] (Int32.ofNat f.val) (Int32.ofNat t.val) := by decide +kernel
theorem own_law (z0 z1 z2 z3 z4 z5 x f y t : Int32) (hf : (x &&& (2147483647 : Int32)) % (7 : Int32) = f) (ht : (y &&& (2147483647 : Int32)) % (7 : Int32) = t) : f_end [z0, z1, z2, z3, z4, z5] t 7 f = g_exp [z0, z1, z2, z3, z4, z5] f t := by
  obtain ⟨k, hk⟩ := own_fin f 7 (own_r _ _ hf).1 (own_r _ _ hf).2
  obtain ⟨j, hj⟩ := own_fin t 7 (own_r _ _ ht).1 (own_r _ _ ht).2
  have e := own_all (decide (z0 = 10)) (decide (z1 = 10)) (decide (z2 = 10)) (decide (z3 = 10)) (decide (z4 = 10)) (decide (z5 = 10)) k j
  rw [← hk, ← hj] at e
  have e2 : [bt (decide (z0 = 10)), bt (decide (z1 = 10)), bt (decide (z2 = 10)), bt (decide (z3 = 10)), bt (decide (z4 = 10)), bt (decide (z5 = 10))] = [z0, z1, z2, z3, z4, z5].map nl := rfl
  rw [e2, nl_end] at e
  rw [e]
  simp only [g_exp, nl_hit]
theorem pd_0 : parseMethodDescriptor "(JII)B" = some ⟨[.long, .int, .int], some .byte⟩ := by decide +kernel
theorem pd_1 : parseMethodDescriptor "([BII)I" = some ⟨[(.array .byte), .int, .int], some .int⟩ := by decide +kernel
theorem pd_2 : parseMethodDescriptor "([BIII)Z" = some ⟨[(.array .byte), .int, .int, .int], some .boolean⟩ := by decide +kernel
theorem pn_0 : plainName "com/example/stanchion/stanchion/FramesEndPinLaw" = true := by first | (simp [plainName, overriddenIn]; done) | decide +kernel
theorem ef_0 (m : MethodId) (q1 : Int64) (p2 : Int32) (p3 : Int32) (p4 : Int32) : entryFrame m #[(.long q1), (.int p2), (.int p3), (.int p4)] maxLocals = mkF m 0 #[.val (.long q1), .second, .val (.int p2), .val (.int p3), .val (.int p4), .unset, .unset, .unset, .unset, .unset] [] := by first | (simp [entryFrame, mkF, argsToLocals, Value.category, maxLocals]; done) | rfl
set_option maxRecDepth 65536 in
set_option maxHeartbeats 40000000 in
theorem rm0 (l : Launch) (Z : State) (a0 : Array Value) (hw : ∀ d ∈ tables_1, d.before a0 Z = true) (q1 : Int64) (p2 : Int32) (p3 : Int32) (p4 : Int32) (h0 : Heap) (n0 : Nat) (Z0 : n0 ≤ h0.size) :
    Con l Z x code maxLocals ret room_1 #[(.long q1), (.int p2), (.int p3), (.int p4)] h0 n0 (some (.int 1)) (fun _ => True) := by
  refine con_of (plainFor_of_name pn_0) Z0 (fun m => ef_0 m q1 p2 p3 p4) ?_
  intro p e s m below meth c T0 X0
  refine w_bipush X0 at_0 (v := (6 : Int32)) rfl rfl ?_
  refine w_newP X0 (hw _ (List.mem_of_getElem? (i := 0) rfl)) (by decide) (k := 6) (by decide) (cap := 6) (by decide) (by decide) (by decide) (by decide) at_2 rfl fun T1 h3 a4 X2 ga5 gn6 E7 A8 => ?_
  have g09 : h0.size ≤ a4 := by rw [ga5]; exact (Keep.refl h0 []).1
  have k10 : Keep h0 h3 [] := (Keep.refl h0 []).ext E7
  have f11 : AV Z h3 a4 .byte [(.int (0 : Int32)), (.int (0 : Int32)), (.int (0 : Int32)), (.int (0 : Int32)), (.int (0 : Int32)), (.int (0 : Int32))] := A8
  refine w_astore X2 at_4 rfl rfl (L' := #[.val (.long q1), .second, .val (.int p2), .val (.int p3), .val (.int p4), .val (.ref a4), .unset, .unset, .unset, .unset]) rfl ?_
  refine w_aload X2 at_6 rfl rfl rfl ?_
  refine w_iconst X2 at_8 (v := (0 : Int32)) rfl rfl ?_
  refine w_lloadN X2 at_9 rfl rfl ?_
  refine w_iloadN X2 at_10 rfl rfl ?_
  refine w_iconst X2 at_11 (v := (0 : Int32)) rfl rfl ?_
  refine w_staticVP X2 (rm1 l Z a0 hw q1 p2 (0 : Int32) h3 n0 X2.size ) (hw _ (List.mem_of_getElem? (i := 1) rfl)) (hw _ (List.mem_of_getElem? (i := 2) rfl)) (hw _ (List.mem_of_getElem? (i := 3) rfl)) (hw _ (List.mem_of_getElem? (i := 4) rfl)) (by decide) (argsL := [(.long q1), (.int p2), (.int (0 : Int32))]) (rest := [(.int (0 : Int32)), (.ref a4)]) rfl (lenOf pd_0 rfl) rfl (W := 2) rfl (by decide) (by decide) (by decide) (by decide) at_12 rfl fun T12 X13 => ?_
  refine w_bastoreB X13 f11 (by decide) (i := 0) (by decide) (Nat.le_of_ble_eq_true rfl) gn6 at_15 rfl fun T14 h17 X15 W16 A18 => ?_
  obtain ⟨z19, hz19⟩ : ∃ z, z = (nar .byte (f_pick q1 p2 (0 : Int32))) := ⟨_, rfl⟩
  have f20 : AV Z h17 a4 .byte [(.int z19), (.int (0 : Int32)), (.int (0 : Int32)), (.int (0 : Int32)), (.int (0 : Int32)), (.int (0 : Int32))] := (by subst hz19; exact A18)
  have k21 : Keep h0 h17 [] := k10.wr W16 (Or.inr g09)
  refine w_aload X15 at_16 rfl rfl rfl ?_
  refine w_iconst X15 at_18 (v := (1 : Int32)) rfl rfl ?_
  refine w_lloadN X15 at_19 rfl rfl ?_
  refine w_iloadN X15 at_20 rfl rfl ?_
  refine w_iconst X15 at_21 (v := (1 : Int32)) rfl rfl ?_
  refine w_staticVP X15 (rm1 l Z a0 hw q1 p2 (1 : Int32) h17 n0 X15.size ) (hw _ (List.mem_of_getElem? (i := 1) rfl)) (hw _ (List.mem_of_getElem? (i := 2) rfl)) (hw _ (List.mem_of_getElem? (i := 3) rfl)) (hw _ (List.mem_of_getElem? (i := 4) rfl)) (by decide) (argsL := [(.long q1), (.int p2), (.int (1 : Int32))]) (rest := [(.int (1 : Int32)), (.ref a4)]) rfl (lenOf pd_0 rfl) rfl (W := 2) rfl (by decide) (by decide) (by decide) (by decide) at_22 rfl fun T22 X23 => ?_
  refine w_bastoreB X23 f20 (by decide) (i := 1) (by decide) (Nat.le_of_ble_eq_true rfl) gn6 at_25 rfl fun T24 h27 X25 W26 A28 => ?_
  obtain ⟨z29, hz29⟩ : ∃ z, z = (nar .byte (f_pick q1 p2 (1 : Int32))) := ⟨_, rfl⟩
  have f30 : AV Z h27 a4 .byte [(.int z19), (.int z29), (.int (0 : Int32)), (.int (0 : Int32)), (.int (0 : Int32)), (.int (0 : Int32))] := (by subst hz29; exact A28)
  have k31 : Keep h0 h27 [] := k21.wr W26 (Or.inr g09)
  refine w_aload X25 at_26 rfl rfl rfl ?_
  refine w_iconst X25 at_28 (v := (2 : Int32)) rfl rfl ?_
  refine w_lloadN X25 at_29 rfl rfl ?_
  refine w_iloadN X25 at_30 rfl rfl ?_
  refine w_iconst X25 at_31 (v := (2 : Int32)) rfl rfl ?_
  refine w_staticVP X25 (rm1 l Z a0 hw q1 p2 (2 : Int32) h27 n0 X25.size ) (hw _ (List.mem_of_getElem? (i := 1) rfl)) (hw _ (List.mem_of_getElem? (i := 2) rfl)) (hw _ (List.mem_of_getElem? (i := 3) rfl)) (hw _ (List.mem_of_getElem? (i := 4) rfl)) (by decide) (argsL := [(.long q1), (.int p2), (.int (2 : Int32))]) (rest := [(.int (2 : Int32)), (.ref a4)]) rfl (lenOf pd_0 rfl) rfl (W := 2) rfl (by decide) (by decide) (by decide) (by decide) at_32 rfl fun T32 X33 => ?_
  refine w_bastoreB X33 f30 (by decide) (i := 2) (by decide) (Nat.le_of_ble_eq_true rfl) gn6 at_35 rfl fun T34 h37 X35 W36 A38 => ?_
  obtain ⟨z39, hz39⟩ : ∃ z, z = (nar .byte (f_pick q1 p2 (2 : Int32))) := ⟨_, rfl⟩
  have f40 : AV Z h37 a4 .byte [(.int z19), (.int z29), (.int z39), (.int (0 : Int32)), (.int (0 : Int32)), (.int (0 : Int32))] := (by subst hz39; exact A38)
  have k41 : Keep h0 h37 [] := k31.wr W36 (Or.inr g09)
  refine w_aload X35 at_36 rfl rfl rfl ?_
  refine w_iconst X35 at_38 (v := (3 : Int32)) rfl rfl ?_
  refine w_lloadN X35 at_39 rfl rfl ?_
  refine w_iloadN X35 at_40 rfl rfl ?_
  refine w_iconst X35 at_41 (v := (3 : Int32)) rfl rfl ?_
  refine w_staticVP X35 (rm1 l Z a0 hw q1 p2 (3 : Int32) h37 n0 X35.size ) (hw _ (List.mem_of_getElem? (i := 1) rfl)) (hw _ (List.mem_of_getElem? (i := 2) rfl)) (hw _ (List.mem_of_getElem? (i := 3) rfl)) (hw _ (List.mem_of_getElem? (i := 4) rfl)) (by decide) (argsL := [(.long q1), (.int p2), (.int (3 : Int32))]) (rest := [(.int (3 : Int32)), (.ref a4)]) rfl (lenOf pd_0 rfl) rfl (W := 2) rfl (by decide) (by decide) (by decide) (by decide) at_42 rfl fun T42 X43 => ?_
  refine w_bastoreB X43 f40 (by decide) (i := 3) (by decide) (Nat.le_of_ble_eq_true rfl) gn6 at_45 rfl fun T44 h47 X45 W46 A48 => ?_
  obtain ⟨z49, hz49⟩ : ∃ z, z = (nar .byte (f_pick q1 p2 (3 : Int32))) := ⟨_, rfl⟩
  have f50 : AV Z h47 a4 .byte [(.int z19), (.int z29), (.int z39), (.int z49), (.int (0 : Int32)), (.int (0 : Int32))] := (by subst hz49; exact A48)
  have k51 : Keep h0 h47 [] := k41.wr W46 (Or.inr g09)
  refine w_aload X45 at_46 rfl rfl rfl ?_
  refine w_iconst X45 at_48 (v := (4 : Int32)) rfl rfl ?_
  refine w_lloadN X45 at_49 rfl rfl ?_
  refine w_iloadN X45 at_50 rfl rfl ?_
  refine w_iconst X45 at_51 (v := (4 : Int32)) rfl rfl ?_
  refine w_staticVP X45 (rm1 l Z a0 hw q1 p2 (4 : Int32) h47 n0 X45.size ) (hw _ (List.mem_of_getElem? (i := 1) rfl)) (hw _ (List.mem_of_getElem? (i := 2) rfl)) (hw _ (List.mem_of_getElem? (i := 3) rfl)) (hw _ (List.mem_of_getElem? (i := 4) rfl)) (by decide) (argsL := [(.long q1), (.int p2), (.int (4 : Int32))]) (rest := [(.int (4 : Int32)), (.ref a4)]) rfl (lenOf pd_0 rfl) rfl (W := 2) rfl (by decide) (by decide) (by decide) (by decide) at_52 rfl fun T52 X53 => ?_
  refine w_bastoreB X53 f50 (by decide) (i := 4) (by decide) (Nat.le_of_ble_eq_true rfl) gn6 at_55 rfl fun T54 h57 X55 W56 A58 => ?_
  obtain ⟨z59, hz59⟩ : ∃ z, z = (nar .byte (f_pick q1 p2 (4 : Int32))) := ⟨_, rfl⟩
  have f60 : AV Z h57 a4 .byte [(.int z19), (.int z29), (.int z39), (.int z49), (.int z59), (.int (0 : Int32))] := (by subst hz59; exact A58)
  have k61 : Keep h0 h57 [] := k51.wr W56 (Or.inr g09)
  refine w_aload X55 at_56 rfl rfl rfl ?_
  refine w_iconst X55 at_58 (v := (5 : Int32)) rfl rfl ?_
  refine w_lloadN X55 at_59 rfl rfl ?_
  refine w_iloadN X55 at_60 rfl rfl ?_
  refine w_iconst X55 at_61 (v := (5 : Int32)) rfl rfl ?_
  refine w_staticVP X55 (rm1 l Z a0 hw q1 p2 (5 : Int32) h57 n0 X55.size ) (hw _ (List.mem_of_getElem? (i := 1) rfl)) (hw _ (List.mem_of_getElem? (i := 2) rfl)) (hw _ (List.mem_of_getElem? (i := 3) rfl)) (hw _ (List.mem_of_getElem? (i := 4) rfl)) (by decide) (argsL := [(.long q1), (.int p2), (.int (5 : Int32))]) (rest := [(.int (5 : Int32)), (.ref a4)]) rfl (lenOf pd_0 rfl) rfl (W := 2) rfl (by decide) (by decide) (by decide) (by decide) at_62 rfl fun T62 X63 => ?_
  refine w_bastoreB X63 f60 (by decide) (i := 5) (by decide) (Nat.le_of_ble_eq_true rfl) gn6 at_65 rfl fun T64 h67 X65 W66 A68 => ?_
  obtain ⟨z69, hz69⟩ : ∃ z, z = (nar .byte (f_pick q1 p2 (5 : Int32))) := ⟨_, rfl⟩
  have f70 : AV Z h67 a4 .byte [(.int z19), (.int z29), (.int z39), (.int z49), (.int z59), (.int z69)] := (by subst hz69; exact A68)
  have k71 : Keep h0 h67 [] := k61.wr W66 (Or.inr g09)
  refine w_iloadN X65 at_66 rfl rfl ?_
  refine w_ldcInt X65 (hw _ (List.mem_of_getElem? (i := 5) rfl)) at_67 rfl ?_
  refine w_iand X65 at_69 rfl ?_
  refine w_bipush X65 at_70 (v := (7 : Int32)) rfl rfl ?_
  refine w_irem X65 at_72 rfl (by decide) ?_
  generalize hz72 : ((p3 &&& (2147483647 : Int32)) % (7 : Int32)) = z72
  refine w_istore X65 at_73 rfl (L' := #[.val (.long q1), .second, .val (.int p2), .val (.int p3), .val (.int p4), .val (.ref a4), .val (.int z72), .unset, .unset, .unset]) rfl ?_
  refine w_iload X65 at_75 rfl rfl ?_
  refine w_ldcInt X65 (hw _ (List.mem_of_getElem? (i := 5) rfl)) at_77 rfl ?_
  refine w_iand X65 at_79 rfl ?_
  refine w_bipush X65 at_80 (v := (7 : Int32)) rfl rfl ?_
  refine w_irem X65 at_82 rfl (by decide) ?_
  generalize hz73 : ((p4 &&& (2147483647 : Int32)) % (7 : Int32)) = z73
  refine w_istore X65 at_83 rfl (L' := #[.val (.long q1), .second, .val (.int p2), .val (.int p3), .val (.int p4), .val (.ref a4), .val (.int z72), .val (.int z73), .unset, .unset]) rfl ?_
  refine w_aload X65 at_85 rfl rfl rfl ?_
  refine w_iload X65 at_87 rfl rfl ?_
  refine w_iload X65 at_89 rfl rfl ?_
  refine w_staticVP X65 (rm2 l Z a0 hw a4 z72 z73 [z19, z29, z39, z49, z59, z69] h67 n0 X65.size f70 (own_r0 _ _ hz72) (own_r6 _ _ hz73) (own_r7 _ _ _ _ hz72 hz73)) (hw _ (List.mem_of_getElem? (i := 6) rfl)) (hw _ (List.mem_of_getElem? (i := 7) rfl)) (hw _ (List.mem_of_getElem? (i := 8) rfl)) (hw _ (List.mem_of_getElem? (i := 9) rfl)) (by decide) (argsL := [(.ref a4), (.int z72), (.int z73)]) (rest := []) rfl (lenOf pd_1 rfl) rfl (W := 0) rfl (by decide) (by decide) (by decide) (by decide) at_91 rfl fun T74 X75 => ?_
  generalize hz76 : (f_end [z19, z29, z39, z49, z59, z69] z73 7 z72) = z76
  refine w_istore X75 at_94 rfl (L' := #[.val (.long q1), .second, .val (.int p2), .val (.int p3), .val (.int p4), .val (.ref a4), .val (.int z72), .val (.int z73), .val (.int z76), .unset]) rfl ?_
  refine w_iconst X75 at_96 (v := (-1 : Int32)) rfl rfl ?_
  refine w_istore X75 at_97 rfl (L' := #[.val (.long q1), .second, .val (.int p2), .val (.int p3), .val (.int p4), .val (.ref a4), .val (.int z72), .val (.int z73), .val (.int z76), .val (.int (-1 : Int32))]) rfl ?_
  refine w_aload X75 at_99 rfl rfl rfl ?_
  refine w_iconst X75 at_101 (v := (5 : Int32)) rfl rfl ?_
  refine w_iload X75 at_102 rfl rfl ?_
  refine w_iload X75 at_104 rfl rfl ?_
  refine w_staticVP X75 (rm3 l Z a0 hw a4 (5 : Int32) z72 z73 [z19, z29, z39, z49, z59, z69] h67 n0 X75.size f70 (by decide) (Nat.le_of_ble_eq_true rfl)) (hw _ (List.mem_of_getElem? (i := 10) rfl)) (hw _ (List.mem_of_getElem? (i := 11) rfl)) (hw _ (List.mem_of_getElem? (i := 3) rfl)) (hw _ (List.mem_of_getElem? (i := 12) rfl)) (by decide) (argsL := [(.ref a4), (.int (5 : Int32)), (.int z72), (.int z73)]) (rest := []) rfl (lenOf pd_2 rfl) rfl (W := 0) rfl (by decide) (by decide) (by decide) (by decide) at_106 rfl fun T77 X78 => ?_
  suffices j82 : ∀ (T80 : State) (z79 : Int32), (Wk p l e room_1 s m #[(.long q1), (.int p2), (.int p3), (.int p4)] below meth c Z n0 x code maxLocals ret T80 1 6 h67) → (z79 = (if (f_hit (5 : Int32) z72 z73 [z19, z29, z39, z49, z59, z69]) = 0 then (-1 : Int32) else (6 : Int32))) → Goes p e below (Done below s n0 room_1 (some (.int 1)) (fun _ => True)) T80 m 116 #[.val (.long q1), .second, .val (.int p2), .val (.int p3), .val (.int p4), .val (.ref a4), .val (.int z72), .val (.int z73), .val (.int z76), .val (.int z79)] [] by
    refine w_if_eq X78 at_109 (by decide) (pcT := 116) (pcF := 112) (by decide) rfl (fun c83 => ?_) (fun c83 => ?_)
    · exact j82 _ _ X78 (by rw [if_pos c83])
    · refine w_bipush X78 at_112 (v := (6 : Int32)) rfl rfl ?_
      refine w_istore X78 at_114 rfl (L' := #[.val (.long q1), .second, .val (.int p2), .val (.int p3), .val (.int p4), .val (.ref a4), .val (.int z72), .val (.int z73), .val (.int z76), .val (.int (6 : Int32))]) rfl ?_
      exact j82 _ _ X78 (by rw [if_neg c83])
  intro T80 z79 X81 hz79
  refine w_aload X81 at_116 rfl rfl rfl ?_
  refine w_iconst X81 at_118 (v := (4 : Int32)) rfl rfl ?_
  refine w_iload X81 at_119 rfl rfl ?_
  refine w_iload X81 at_121 rfl rfl ?_
  refine w_staticVP X81 (rm3 l Z a0 hw a4 (4 : Int32) z72 z73 [z19, z29, z39, z49, z59, z69] h67 n0 X81.size f70 (by decide) (Nat.le_of_ble_eq_true rfl)) (hw _ (List.mem_of_getElem? (i := 10) rfl)) (hw _ (List.mem_of_getElem? (i := 11) rfl)) (hw _ (List.mem_of_getElem? (i := 3) rfl)) (hw _ (List.mem_of_getElem? (i := 12) rfl)) (by decide) (argsL := [(.ref a4), (.int (4 : Int32)), (.int z72), (.int z73)]) (rest := []) rfl (lenOf pd_2 rfl) rfl (W := 0) rfl (by decide) (by decide) (by decide) (by decide) at_123 rfl fun T84 X85 => ?_
  suffices j89 : ∀ (T87 : State) (z86 : Int32), (Wk p l e room_1 s m #[(.long q1), (.int p2), (.int p3), (.int p4)] below meth c Z n0 x code maxLocals ret T87 1 6 h67) → (z86 = (if (f_hit (4 : Int32) z72 z73 [z19, z29, z39, z49, z59, z69]) = 0 then z79 else (5 : Int32))) → Goes p e below (Done below s n0 room_1 (some (.int 1)) (fun _ => True)) T87 m 132 #[.val (.long q1), .second, .val (.int p2), .val (.int p3), .val (.int p4), .val (.ref a4), .val (.int z72), .val (.int z73), .val (.int z76), .val (.int z86)] [] by
    refine w_if_eq X85 at_126 (by decide) (pcT := 132) (pcF := 129) (by decide) rfl (fun c90 => ?_) (fun c90 => ?_)
    · exact j89 _ _ X85 (by rw [if_pos c90])
    · refine w_iconst X85 at_129 (v := (5 : Int32)) rfl rfl ?_
      refine w_istore X85 at_130 rfl (L' := #[.val (.long q1), .second, .val (.int p2), .val (.int p3), .val (.int p4), .val (.ref a4), .val (.int z72), .val (.int z73), .val (.int z76), .val (.int (5 : Int32))]) rfl ?_
      exact j89 _ _ X85 (by rw [if_neg c90])
  intro T87 z86 X88 hz86
  refine w_aload X88 at_132 rfl rfl rfl ?_
  refine w_iconst X88 at_134 (v := (3 : Int32)) rfl rfl ?_
  refine w_iload X88 at_135 rfl rfl ?_
  refine w_iload X88 at_137 rfl rfl ?_
  refine w_staticVP X88 (rm3 l Z a0 hw a4 (3 : Int32) z72 z73 [z19, z29, z39, z49, z59, z69] h67 n0 X88.size f70 (by decide) (Nat.le_of_ble_eq_true rfl)) (hw _ (List.mem_of_getElem? (i := 10) rfl)) (hw _ (List.mem_of_getElem? (i := 11) rfl)) (hw _ (List.mem_of_getElem? (i := 3) rfl)) (hw _ (List.mem_of_getElem? (i := 12) rfl)) (by decide) (argsL := [(.ref a4), (.int (3 : Int32)), (.int z72), (.int z73)]) (rest := []) rfl (lenOf pd_2 rfl) rfl (W := 0) rfl (by decide) (by decide) (by decide) (by decide) at_139 rfl fun T91 X92 => ?_
  suffices j96 : ∀ (T94 : State) (z93 : Int32), (Wk p l e room_1 s m #[(.long q1), (.int p2), (.int p3), (.int p4)] below meth c Z n0 x code maxLocals ret T94 1 6 h67) → (z93 = (if (f_hit (3 : Int32) z72 z73 [z19, z29, z39, z49, z59, z69]) = 0 then z86 else (4 : Int32))) → Goes p e below (Done below s n0 room_1 (some (.int 1)) (fun _ => True)) T94 m 148 #[.val (.long q1), .second, .val (.int p2), .val (.int p3), .val (.int p4), .val (.ref a4), .val (.int z72), .val (.int z73), .val (.int z76), .val (.int z93)] [] by
    refine w_if_eq X92 at_142 (by decide) (pcT := 148) (pcF := 145) (by decide) rfl (fun c97 => ?_) (fun c97 => ?_)
    · exact j96 _ _ X92 (by rw [if_pos c97])
    · refine w_iconst X92 at_145 (v := (4 : Int32)) rfl rfl ?_
      refine w_istore X92 at_146 rfl (L' := #[.val (.long q1), .second, .val (.int p2), .val (.int p3), .val (.int p4), .val (.ref a4), .val (.int z72), .val (.int z73), .val (.int z76), .val (.int (4 : Int32))]) rfl ?_
      exact j96 _ _ X92 (by rw [if_neg c97])
  intro T94 z93 X95 hz93
  refine w_aload X95 at_148 rfl rfl rfl ?_
  refine w_iconst X95 at_150 (v := (2 : Int32)) rfl rfl ?_
  refine w_iload X95 at_151 rfl rfl ?_
  refine w_iload X95 at_153 rfl rfl ?_
  refine w_staticVP X95 (rm3 l Z a0 hw a4 (2 : Int32) z72 z73 [z19, z29, z39, z49, z59, z69] h67 n0 X95.size f70 (by decide) (Nat.le_of_ble_eq_true rfl)) (hw _ (List.mem_of_getElem? (i := 10) rfl)) (hw _ (List.mem_of_getElem? (i := 11) rfl)) (hw _ (List.mem_of_getElem? (i := 3) rfl)) (hw _ (List.mem_of_getElem? (i := 12) rfl)) (by decide) (argsL := [(.ref a4), (.int (2 : Int32)), (.int z72), (.int z73)]) (rest := []) rfl (lenOf pd_2 rfl) rfl (W := 0) rfl (by decide) (by decide) (by decide) (by decide) at_155 rfl fun T98 X99 => ?_
  suffices j103 : ∀ (T101 : State) (z100 : Int32), (Wk p l e room_1 s m #[(.long q1), (.int p2), (.int p3), (.int p4)] below meth c Z n0 x code maxLocals ret T101 1 6 h67) → (z100 = (if (f_hit (2 : Int32) z72 z73 [z19, z29, z39, z49, z59, z69]) = 0 then z93 else (3 : Int32))) → Goes p e below (Done below s n0 room_1 (some (.int 1)) (fun _ => True)) T101 m 164 #[.val (.long q1), .second, .val (.int p2), .val (.int p3), .val (.int p4), .val (.ref a4), .val (.int z72), .val (.int z73), .val (.int z76), .val (.int z100)] [] by
    refine w_if_eq X99 at_158 (by decide) (pcT := 164) (pcF := 161) (by decide) rfl (fun c104 => ?_) (fun c104 => ?_)
    · exact j103 _ _ X99 (by rw [if_pos c104])
    · refine w_iconst X99 at_161 (v := (3 : Int32)) rfl rfl ?_
      refine w_istore X99 at_162 rfl (L' := #[.val (.long q1), .second, .val (.int p2), .val (.int p3), .val (.int p4), .val (.ref a4), .val (.int z72), .val (.int z73), .val (.int z76), .val (.int (3 : Int32))]) rfl ?_
      exact j103 _ _ X99 (by rw [if_neg c104])
  intro T101 z100 X102 hz100
  refine w_aload X102 at_164 rfl rfl rfl ?_
  refine w_iconst X102 at_166 (v := (1 : Int32)) rfl rfl ?_
  refine w_iload X102 at_167 rfl rfl ?_
  refine w_iload X102 at_169 rfl rfl ?_
  refine w_staticVP X102 (rm3 l Z a0 hw a4 (1 : Int32) z72 z73 [z19, z29, z39, z49, z59, z69] h67 n0 X102.size f70 (by decide) (Nat.le_of_ble_eq_true rfl)) (hw _ (List.mem_of_getElem? (i := 10) rfl)) (hw _ (List.mem_of_getElem? (i := 11) rfl)) (hw _ (List.mem_of_getElem? (i := 3) rfl)) (hw _ (List.mem_of_getElem? (i := 12) rfl)) (by decide) (argsL := [(.ref a4), (.int (1 : Int32)), (.int z72), (.int z73)]) (rest := []) rfl (lenOf pd_2 rfl) rfl (W := 0) rfl (by decide) (by decide) (by decide) (by decide) at_171 rfl fun T105 X106 => ?_
  suffices j110 : ∀ (T108 : State) (z107 : Int32), (Wk p l e room_1 s m #[(.long q1), (.int p2), (.int p3), (.int p4)] below meth c Z n0 x code maxLocals ret T108 1 6 h67) → (z107 = (if (f_hit (1 : Int32) z72 z73 [z19, z29, z39, z49, z59, z69]) = 0 then z100 else (2 : Int32))) → Goes p e below (Done below s n0 room_1 (some (.int 1)) (fun _ => True)) T108 m 180 #[.val (.long q1), .second, .val (.int p2), .val (.int p3), .val (.int p4), .val (.ref a4), .val (.int z72), .val (.int z73), .val (.int z76), .val (.int z107)] [] by
    refine w_if_eq X106 at_174 (by decide) (pcT := 180) (pcF := 177) (by decide) rfl (fun c111 => ?_) (fun c111 => ?_)
    · exact j110 _ _ X106 (by rw [if_pos c111])
    · refine w_iconst X106 at_177 (v := (2 : Int32)) rfl rfl ?_
      refine w_istore X106 at_178 rfl (L' := #[.val (.long q1), .second, .val (.int p2), .val (.int p3), .val (.int p4), .val (.ref a4), .val (.int z72), .val (.int z73), .val (.int z76), .val (.int (2 : Int32))]) rfl ?_
      exact j110 _ _ X106 (by rw [if_neg c111])
  intro T108 z107 X109 hz107
  refine w_aload X109 at_180 rfl rfl rfl ?_
  refine w_iconst X109 at_182 (v := (0 : Int32)) rfl rfl ?_
  refine w_iload X109 at_183 rfl rfl ?_
  refine w_iload X109 at_185 rfl rfl ?_
  refine w_staticVP X109 (rm3 l Z a0 hw a4 (0 : Int32) z72 z73 [z19, z29, z39, z49, z59, z69] h67 n0 X109.size f70 (by decide) (Nat.le_of_ble_eq_true rfl)) (hw _ (List.mem_of_getElem? (i := 10) rfl)) (hw _ (List.mem_of_getElem? (i := 11) rfl)) (hw _ (List.mem_of_getElem? (i := 3) rfl)) (hw _ (List.mem_of_getElem? (i := 12) rfl)) (by decide) (argsL := [(.ref a4), (.int (0 : Int32)), (.int z72), (.int z73)]) (rest := []) rfl (lenOf pd_2 rfl) rfl (W := 0) rfl (by decide) (by decide) (by decide) (by decide) at_187 rfl fun T112 X113 => ?_
  suffices j117 : ∀ (T115 : State) (z114 : Int32), (Wk p l e room_1 s m #[(.long q1), (.int p2), (.int p3), (.int p4)] below meth c Z n0 x code maxLocals ret T115 1 6 h67) → (z114 = (if (f_hit (0 : Int32) z72 z73 [z19, z29, z39, z49, z59, z69]) = 0 then z107 else (1 : Int32))) → Goes p e below (Done below s n0 room_1 (some (.int 1)) (fun _ => True)) T115 m 196 #[.val (.long q1), .second, .val (.int p2), .val (.int p3), .val (.int p4), .val (.ref a4), .val (.int z72), .val (.int z73), .val (.int z76), .val (.int z114)] [] by
    refine w_if_eq X113 at_190 (by decide) (pcT := 196) (pcF := 193) (by decide) rfl (fun c118 => ?_) (fun c118 => ?_)
    · exact j117 _ _ X113 (by rw [if_pos c118])
    · refine w_iconst X113 at_193 (v := (1 : Int32)) rfl rfl ?_
      refine w_istore X113 at_194 rfl (L' := #[.val (.long q1), .second, .val (.int p2), .val (.int p3), .val (.int p4), .val (.ref a4), .val (.int z72), .val (.int z73), .val (.int z76), .val (.int (1 : Int32))]) rfl ?_
      exact j117 _ _ X113 (by rw [if_neg c118])
  intro T115 z114 X116 hz114
  refine w_iload X116 at_196 rfl rfl ?_
  refine w_iload X116 at_198 rfl rfl ?_
  refine w_icmp_ne X116 at_200 (by decide) (pcT := 207) (pcF := 203) (by decide) rfl (fun c119 => ?_) (fun c119 => ?_)
  · refine w_iconst X116 at_207 (v := (0 : Int32)) rfl rfl ?_
    exact False.elim (c119 (by subst hz114 hz107 hz100 hz93 hz86 hz79 hz76; exact own_law _ _ _ _ _ _ _ _ _ _ hz72 hz73))
  · refine w_iconst X116 at_203 (v := (1 : Int32)) rfl rfl ?_
    refine w_goto X116 at_204 (by decide) (pc' := 208) (by decide) ?_
    exact w_nreturn X116 (t := .boolean) (by simp) at_208 rfl trivial (by decide) (by decide)
set_option maxRecDepth 65536 in
set_option maxHeartbeats 4000000 in
theorem comes_1 {Post : Tables → Env → Array Value → State → Outcome → State → Prop} (hpost : ∀ tb e args s v u, (limb_1_1.after args s (.returned v) u = true ∧ limb_1_2.after args s (.returned v) u = true ∧ True) → FrameEnd s (.returned v) u (Jvm.fieldLocs frame_1_writes args s ++ Jvm.arrayLocs frame_1_arrays args s ++ Jvm.staticLocs frame_1_statics s) 16 128 → Post tb e args s (.returned v) u) :
    ArmFor flags0 classFile x code maxLocals ret World_1 tables_1 room_1 Calls_1 rest_1 Pre_1 Post := by
  intro l hfl _ _ p e ha hc hk s m args below hf hA hF happ hP
  obtain ⟨hcalls, hrest, hpre⟩ := hP
  obtain ⟨-, -, -, hnamed, -, -, -, hat⟩ := (Spec.applies_iff hf).mp happ
  obtain ⟨hg, hn⟩ := and_e (Cond.before_iff.mp (show (Jvm.Cond.and given_1 narrow_1).before args s = true from hpre))
  obtain ⟨gc, hg⟩ := and_e hg
  obtain ⟨g0, hg⟩ := and_e hg
  obtain ⟨g1, hg⟩ := and_e hg
  obtain ⟨g2, hg⟩ := and_e hg
  have g3 := hg
  obtain ⟨w0, w1, w2, w3, rfl⟩ : ∃ w0 w1 w2 w3 : Value, args = #[w0, w1, w2, w3] := by
    have hs : args.size = 4 := by simpa [Cond.value, given_1] using gc
    obtain ⟨L⟩ := args
    match L, hs with
    | [w0, w1, w2, w3], _ => exact ⟨w0, w1, w2, w3, rfl⟩
  have hw := fun d (hd : d ∈ tables_1) => atoms_spec (ws := Jvm.Cond.code x code maxLocals ret :: tables_1) hat d (List.mem_cons_of_mem _ hd)
  obtain ⟨i0, ei0⟩ := isL_v g0
  obtain rfl : w0 = (.long i0) := Option.some.inj ei0
  obtain ⟨i1, ei1⟩ := is_v g1
  obtain rfl : w1 = (.int i1) := Option.some.inj ei1
  obtain ⟨i2, ei2⟩ := is_v g2
  obtain rfl : w2 = (.int i2) := Option.some.inj ei2
  obtain ⟨i3, ei3⟩ := is_v g3
  obtain rfl : w3 = (.int i3) := Option.some.inj ei3
  obtain ⟨n, o, h1, h2, h3, _, L, rfl, ⟨rfl, -, N, -⟩, hq⟩ := rm0 l s _ hw i0 i1 i2 i3 s.heap s.heap.size (Nat.le_refl _) tables_1 p e ha hc hk s m _ below hf ((Spec.applies_iff_loose hf).mp happ).1 ⟨rfl, State.Warmed39.refl s, rfl⟩ trivial
  refine ⟨n, _, h1, h2, h3, hpost _ _ _ _ _ _ ⟨Cond.after_iff.mpr rfl, Cond.after_iff.mpr (eq_i res_at (Term.int_eval (1)) rfl), trivial⟩ ⟨hq.1, hq.2.1, (hq.2.2.sift fun y hy => Or.inr (N y hy)).mono (by decide) (by decide)⟩⟩
theorem main_1_1 : Claimed_1_1 := comes_1 fun _ _ _ _ _ _ h hF => ⟨h.1, hF⟩
theorem main_1_2 : Claimed_1_2 := comes_1 fun _ _ _ _ _ _ h hF => ⟨h.2.1, hF⟩
end Jvm.Pilot.@@N@@
namespace Jvm.Pilot.@@N@@
open Jvm Jvm.ClassFile Sem Op Lib Jvm.Free Jvm.Stand Jvm.Pilot.@@N@@.Jvm.D
/-! MADE BY PROGRAM (witnessworld.py) out of the Statement's table words and the real class files: 9 classes; the members and pool entries that the words name. The judged class is class 1, her method 1. -/
namespace start1
open Jvm.ClassFile
def u (s : String) : CpInfo := .utf8 (stringToUtf16 s)
/-- a pool by its gaps: so many unusable entries, then the entry; so many at the end -/
def gap : Nat → List CpInfo → List CpInfo
  | 0, r => r
  | n + 1, r => .unusable :: gap n r
def poolList (es : List (Nat × CpInfo)) (last : Nat) : List CpInfo := es.foldr (fun e r => gap e.1 (e.2 :: r)) (gap last [])
def pool (es : List (Nat × CpInfo)) (last : Nat) : Array CpInfo := ⟨poolList es last⟩
def fileOf (pool : Array CpInfo) (this : Nat) (attrs : Array Attribute := #[]) (ms : Array MethodInfo := #[]) (fl : Nat := 33) (sup : Nat := 0) (ifs : Array Nat := #[]) (fds : Array FieldInfo := #[]) : ClassFile where
  minorVersion := 0
  majorVersion := 65
  constantPool := pool
  accessFlags := fl
  thisClass := this
  superClass := sup
  interfaces := ifs
  fields := fds
  methods := ms
  attributes := attrs
def plain (name : String) (sup : Option ClassId) : Class where
  name := name
  kind := .ordinary
  loader := none
  accessFlags := 33
  super := sup
  interfaces := #[]
  cf := none
  fields := #[]
  methods := #[]
  instanceTypes := #[]
  staticTypes := #[]
  resolved := #[]
  callSites := []
  init := .initialized
  statics := none
  mirror := none

def pool0 : Array CpInfo := pool [(5, u "<init>"), (0, u "()V"), (1, .class_ 10), (1, u "java/lang/Object")] 113

def k0m0 : Method := { name := "<init>", desc := "()V", sig := { parameters := [], returnType := none }, accessFlags := 1, code := none }
/-- java/lang/Object -/
def k0 : Class := { plain "java/lang/Object" none with
  accessFlags := 33
  interfaces := #[]
  cf := some (fileOf pool0 8 #[] #[{ accessFlags := 1, nameIndex := 5, descriptorIndex := 6, attributes := #[] }] 33 0 #[] #[])
  fields := #[]
  methods := #[k0m0]
  instanceTypes := #[]
  staticTypes := #[]
  resolved := Array.replicate 124 none
  statics := none }

def pool1 : Array CpInfo := pool [(2, .class_ 4), (1, u "java/lang/Object"), (0, u "<init>"), (0, u "()V"), (0, .methodref 8 9), (0, .class_ 10), (0, .nameAndType 11 12), (0, u "com/example/stanchion/stanchion/FramesEndPinLaw"), (0, u "pick"), (0, u "(JII)B"), (0, .integer 2147483647), (0, .methodref 15 16), (0, .class_ 17), (0, .nameAndType 18 19), (0, u "com/example/stanchion/stanchion/Frames"), (0, u "end"), (0, u "([BII)I"), (0, .methodref 8 21), (0, .nameAndType 22 23), (0, u "hit"), (0, u "([BIII)Z"), (2, u "law"), (0, u "(JIII)Z")] 5

def k1m0 : Method := { name := "<init>", desc := "()V", sig := { parameters := [], returnType := none }, accessFlags := 1, code := none }
def k1c1 : Code := { maxStack := 6, maxLocals := 10, code := code, exceptionTable := #[], attributes := #[] }
def k1m1 : Method := { name := "law", desc := "(JIII)Z", sig := { parameters := [.long, .int, .int, .int], returnType := some .boolean }, accessFlags := 9, code := some k1c1 }
def k1c2 : Code := { maxStack := 4, maxLocals := 4, code := method_3_code, exceptionTable := #[], attributes := #[] }
def k1m2 : Method := { name := "pick", desc := "(JII)B", sig := { parameters := [.long, .int, .int], returnType := some .byte }, accessFlags := 10, code := some k1c2 }
def k1c3 : Code := { maxStack := 2, maxLocals := 4, code := method_4_code, exceptionTable := #[], attributes := #[] }
def k1m3 : Method := { name := "hit", desc := "([BIII)Z", sig := { parameters := [(.array .byte), .int, .int, .int], returnType := some .boolean }, accessFlags := 10, code := some k1c3 }
/-- com/example/stanchion/stanchion/FramesEndPinLaw -/
def k1 : Class := { plain "com/example/stanchion/stanchion/FramesEndPinLaw" (some 0) with
  accessFlags := 49
  interfaces := #[]
  cf := some (fileOf pool1 8 #[] #[{ accessFlags := 1, nameIndex := 5, descriptorIndex := 6, attributes := #[] }, { accessFlags := 9, nameIndex := 26, descriptorIndex := 27, attributes := #[] }, { accessFlags := 10, nameIndex := 11, descriptorIndex := 12, attributes := #[] }, { accessFlags := 10, nameIndex := 22, descriptorIndex := 23, attributes := #[] }] 49 2 #[] #[])
  fields := #[]
  methods := #[k1m0, k1m1, k1m2, k1m3]
  instanceTypes := #[]
  staticTypes := #[]
  resolved := Array.replicate 33 none
  statics := none }

def pool2 : Array CpInfo := pool [(2, .class_ 4), (1, u "java/lang/Object"), (15, .class_ 22), (1, u "com/example/stanchion/stanchion/Frames"), (0, u "encoder"), (0, u "Ljava/nio/charset/CharsetEncoder;"), (2, u "NO_BYTES"), (0, u "[B"), (2, u "bytes"), (2, u "NO_CHARS"), (0, u "[C"), (2, u "chars"), (2, u "firstChars"), (0, u "I"), (4, u "length"), (3, u "characters"), (18, u "taken"), (47, u "count"), (45, u "end"), (0, u "([BII)I"), (13, u "FIRST_BYTES"), (2, u "FIRST_CHARS_PER_RECORD"), (1, u "TIME"), (0, u "B"), (1, u "MOST_BYTES_PER_CHAR")] 25

def k2c0 : Code := { maxStack := 2, maxLocals := 4, code := prog_32_method_13_code, exceptionTable := #[], attributes := #[] }
def k2m0 : Method := { name := "end", desc := "([BII)I", sig := { parameters := [(.array .byte), .int, .int], returnType := some .int }, accessFlags := 8, code := some k2c0 }
/-- com/example/stanchion/stanchion/Frames -/
def k2 : Class := { plain "com/example/stanchion/stanchion/Frames" (some 0) with
  accessFlags := 48
  interfaces := #[]
  cf := some (fileOf pool2 20 #[] #[{ accessFlags := 8, nameIndex := 164, descriptorIndex := 165, attributes := #[] }] 48 2 #[] #[{ accessFlags := 26, nameIndex := 179, descriptorIndex := 42, attributes := #[] }, { accessFlags := 26, nameIndex := 182, descriptorIndex := 42, attributes := #[] }, { accessFlags := 26, nameIndex := 27, descriptorIndex := 28, attributes := #[] }, { accessFlags := 26, nameIndex := 184, descriptorIndex := 185, attributes := #[] }, { accessFlags := 26, nameIndex := 34, descriptorIndex := 35, attributes := #[] }, { accessFlags := 26, nameIndex := 187, descriptorIndex := 42, attributes := #[] }, { accessFlags := 18, nameIndex := 23, descriptorIndex := 24, attributes := #[] }, { accessFlags := 2, nameIndex := 31, descriptorIndex := 28, attributes := #[] }, { accessFlags := 2, nameIndex := 47, descriptorIndex := 42, attributes := #[] }, { accessFlags := 2, nameIndex := 118, descriptorIndex := 42, attributes := #[] }, { accessFlags := 2, nameIndex := 38, descriptorIndex := 35, attributes := #[] }, { accessFlags := 2, nameIndex := 51, descriptorIndex := 42, attributes := #[] }, { accessFlags := 2, nameIndex := 70, descriptorIndex := 42, attributes := #[] }, { accessFlags := 18, nameIndex := 41, descriptorIndex := 42, attributes := #[] }])
  fields := #[{ name := "FIRST_BYTES", type := .int, accessFlags := 26, slot := 0, constantValue := 0 }, { name := "FIRST_CHARS_PER_RECORD", type := .int, accessFlags := 26, slot := 1, constantValue := 0 }, { name := "NO_BYTES", type := (.array .byte), accessFlags := 26, slot := 2, constantValue := 0 }, { name := "TIME", type := .byte, accessFlags := 26, slot := 3, constantValue := 0 }, { name := "NO_CHARS", type := (.array .char), accessFlags := 26, slot := 4, constantValue := 0 }, { name := "MOST_BYTES_PER_CHAR", type := .int, accessFlags := 26, slot := 5, constantValue := 0 }, { name := "encoder", type := (.object "java/nio/charset/CharsetEncoder"), accessFlags := 18, slot := 0, constantValue := 0 }, { name := "bytes", type := (.array .byte), accessFlags := 2, slot := 1, constantValue := 0 }, { name := "length", type := .int, accessFlags := 2, slot := 2, constantValue := 0 }, { name := "count", type := .int, accessFlags := 2, slot := 3, constantValue := 0 }, { name := "chars", type := (.array .char), accessFlags := 2, slot := 4, constantValue := 0 }, { name := "characters", type := .int, accessFlags := 2, slot := 5, constantValue := 0 }, { name := "taken", type := .int, accessFlags := 2, slot := 6, constantValue := 0 }, { name := "firstChars", type := .int, accessFlags := 18, slot := 7, constantValue := 0 }]
  methods := #[k2m0]
  instanceTypes := #[(.object "java/nio/charset/CharsetEncoder"), (.array .byte), .int, .int, (.array .char), .int, .int, .int]
  staticTypes := #[.int, .int, (.array .byte), .byte, (.array .char), .int]
  resolved := Array.replicate 213 none
  statics := none }

def pool3 : Array CpInfo := pool [(1, u "java/lang/Cloneable"), (0, .class_ 1), (0, u "java/lang/Object"), (0, .class_ 3)] 3

/-- java/lang/Cloneable -/
def k3 : Class := { plain "java/lang/Cloneable" (some 0) with
  accessFlags := 1537
  interfaces := #[]
  cf := some (fileOf pool3 2 #[] #[] 1537 4 #[] #[])
  fields := #[]
  methods := #[]
  instanceTypes := #[]
  staticTypes := #[]
  resolved := Array.replicate 8 none
  statics := none }

def pool4 : Array CpInfo := pool [(1, u "java/io/Serializable"), (0, .class_ 1), (0, u "java/lang/Object"), (0, .class_ 3)] 3

/-- java/io/Serializable -/
def k4 : Class := { plain "java/io/Serializable" (some 0) with
  accessFlags := 1537
  interfaces := #[]
  cf := some (fileOf pool4 2 #[] #[] 1537 4 #[] #[])
  fields := #[]
  methods := #[]
  instanceTypes := #[]
  staticTypes := #[]
  resolved := Array.replicate 8 none
  statics := none }

/-- the primitive byte -/
def k5 : Class := { plain "byte" none with kind := .primitive 'B', accessFlags := 0x411 }
/-- [B -/
def k6 : Class := { plain "[B" (some 0) with kind := .array 5 .byte, interfaces := #[3, 4], accessFlags := 1041 }

/-- the primitive int -/
def k7 : Class := { plain "int" none with kind := .primitive 'I', accessFlags := 0x411 }
/-- [I -/
def k8 : Class := { plain "[I" (some 0) with kind := .array 7 .int, interfaces := #[3, 4], accessFlags := 1041 }

def heap : Heap := #[]
def classes : Array Class := #[k0, k1, k2, k3, k4, k5, k6, k7, k8]
def interned : List (Array UInt16 × Addr) := []
def slotsUsed : Nat := 0
def theMethod : MethodId := ⟨1, 1⟩
def args0 : Array Value := #[.long 77, .int 5, .int 1, .int 6]
def aboutOver (below : List Frame) : State where
  vm := { classes := classes, interned := interned.toArray }
  heap := heap
  slotsUsed := slotsUsed
  threads := #[{ frames := .invoking theMethod args0 :: below }]
def below0 : List Frame := [.native { method := ⟨0, 0⟩, args := #[] }]
def about1 : State := aboutOver below0
def p0 : Program := .bare "" "" ""
def e0 : Env := launch0.env 0 0 0
theorem w_frames : about1.frames = Frame.invoking theMethod args0 :: below0 := rfl
set_option maxRecDepth 65536 in
theorem w_args : argsFit about1.vm theMethod args0 = true := by decide +kernel
set_option maxRecDepth 65536 in
theorem w_heap : heapFits about1 = true := by decide +kernel
set_option maxRecDepth 65536 in
theorem w_runnable : about1.curStatus? = some .runnable := by decide +kernel
set_option maxRecDepth 65536 in
theorem w_alone : about1.alone = true := by decide +kernel
set_option maxRecDepth 65536 in
theorem w_named : about1.methodNamed? x = some theMethod := by decide +kernel
set_option maxRecDepth 65536 in
theorem w_hears : about1.hears theMethod below0 = true := by decide +kernel
set_option maxRecDepth 65536 in
theorem w_ripe : about1.ripe theMethod args0 below0 = true := by decide +kernel
theorem w_running : about1.status = .running := rfl
set_option maxRecDepth 65536 in
theorem w_room : about1.hasRoom e0.platform room_1 = true :=
  launch0.hasRoom_least _ room_1 (by decide +kernel) (by decide +kernel) (by decide +kernel) (by decide +kernel) (by decide +kernel) (by decide +kernel)
theorem allAtoms_all (ts : List Jvm.Cond) (a : Array Jvm.Value) (st : Jvm.State) : (allAtoms ts).before a st = ts.all (fun c => c.before a st) := by
  induction ts with
  | nil => rfl
  | cons c t ih =>
    show (Jvm.Cond.and c (allAtoms t)).before a st = _
    rw [Jvm.Cond.before_and, ih, List.all_cons]
def words1 : List Jvm.Cond := Jvm.Cond.code x code maxLocals ret :: tables_1
/-- a 'code' word, met by the world's own term for the bytes: nothing is compared byte by byte -/
theorem code_word {y : MethodName} {bytes : ByteArray} {mx : Nat} {rt : Option FieldType} {a : Array Value} {s : State} {m : MethodId} {meth : Method} {c : Code} (h1 : s.methodNamed? y = some m) (h2 : s.vm.method? m = some meth) (h3 : meth.code = some c) (h4 : c.code = bytes)
    (h5 : (c.maxLocals == mx && c.exceptionTable.isEmpty && decide (c.maxStack ≤ mostOperands) && decide (meth.sig.returnType = rt) && !meth.locks && decide (parseMethodDescriptor y.desc = some meth.sig)) = true) : (Jvm.Cond.code y bytes mx rt).before a s = true := by
  simp only [Bool.and_eq_true, beq_iff_eq, Bool.not_eq_true', decide_eq_true_eq] at h5
  obtain ⟨⟨⟨⟨⟨g1, g2⟩, g3⟩, g4⟩, g5⟩, g6⟩ := h5
  simp [Cond.before, Cond.holds, Cond.value, h1, h2, h3, h4, g1, g2, g3, g4, g5, g6]
def isCode : Jvm.Cond → Bool
  | .code _ _ _ _ => true
  | _ => false
theorem all_split {L : List Jvm.Cond} {P : Jvm.Cond → Bool} (h1 : L.all (fun c => isCode c || P c) = true) (h2 : ∀ c ∈ L.filter isCode, P c = true) : L.all P = true := by
  refine List.all_eq_true.mpr fun c hc => ?_
  have h := List.all_eq_true.mp h1 c hc
  rcases Bool.eq_false_or_eq_true (isCode c) with hi | hi
  · exact h2 c (List.mem_filter.mpr ⟨hc, hi⟩)
  · simpa [hi] using h
set_option maxRecDepth 65536 in
theorem w_c0 : (Jvm.Cond.code x code maxLocals ret).before args0 about1 = true := code_word (m := ⟨1, 1⟩) (meth := k1m1) (c := k1c1) (by decide +kernel) rfl rfl rfl (by decide +kernel)
set_option maxRecDepth 65536 in
theorem w_c1 : (Jvm.Cond.code ({ cls := "com/example/stanchion/stanchion/FramesEndPinLaw", name := "pick", desc := "(JII)B" } : Jvm.MethodName) method_3_code (4 : Nat) (Option.some Jvm.ClassFile.FieldType.byte)).before args0 about1 = true := code_word (m := ⟨1, 2⟩) (meth := k1m2) (c := k1c2) (by decide +kernel) rfl rfl rfl (by decide +kernel)
set_option maxRecDepth 65536 in
theorem w_c2 : (Jvm.Cond.code ({ cls := "com/example/stanchion/stanchion/Frames", name := "end", desc := "([BII)I" } : Jvm.MethodName) prog_32_method_13_code (4 : Nat) (Option.some Jvm.ClassFile.FieldType.int)).before args0 about1 = true := code_word (m := ⟨2, 0⟩) (meth := k2m0) (c := k2c0) (by decide +kernel) rfl rfl rfl (by decide +kernel)
set_option maxRecDepth 65536 in
theorem w_c3 : (Jvm.Cond.code ({ cls := "com/example/stanchion/stanchion/FramesEndPinLaw", name := "hit", desc := "([BIII)Z" } : Jvm.MethodName) method_4_code (4 : Nat) (Option.some Jvm.ClassFile.FieldType.boolean)).before args0 about1 = true := code_word (m := ⟨1, 3⟩) (meth := k1m3) (c := k1c3) (by decide +kernel) rfl rfl rfl (by decide +kernel)
def codes1 : List Jvm.Cond := [Jvm.Cond.code x code maxLocals ret, Jvm.Cond.code ({ cls := "com/example/stanchion/stanchion/FramesEndPinLaw", name := "pick", desc := "(JII)B" } : Jvm.MethodName) method_3_code (4 : Nat) (Option.some Jvm.ClassFile.FieldType.byte), Jvm.Cond.code ({ cls := "com/example/stanchion/stanchion/Frames", name := "end", desc := "([BII)I" } : Jvm.MethodName) prog_32_method_13_code (4 : Nat) (Option.some Jvm.ClassFile.FieldType.int), Jvm.Cond.code ({ cls := "com/example/stanchion/stanchion/FramesEndPinLaw", name := "hit", desc := "([BIII)Z" } : Jvm.MethodName) method_4_code (4 : Nat) (Option.some Jvm.ClassFile.FieldType.boolean)]
set_option maxRecDepth 65536 in
theorem codes_eq : words1.filter isCode = codes1 := rfl
theorem w_codes : ∀ c ∈ words1.filter isCode, c.before args0 about1 = true := by
  rw [codes_eq]
  intro c hc
  simp only [codes1, List.mem_cons, List.not_mem_nil, or_false] at hc
  rcases hc with rfl | rfl | rfl | rfl
  · exact w_c0
  · exact w_c1
  · exact w_c2
  · exact w_c3
set_option maxRecDepth 65536 in
theorem w_t1 : words1.all (fun c => isCode c || c.before args0 about1) = true := by decide +kernel
theorem w_tables : (allAtoms (Jvm.Cond.code x code maxLocals ret :: tables_1)).before args0 about1 = true := by
  rw [allAtoms_all]
  show words1.all (fun c => c.before args0 about1) = true
  refine all_split ?_ w_codes
  rw [w_t1]
set_option maxRecDepth 65536 in
theorem w_case : (Jvm.Cond.and given_1 narrow_1).before args0 about1 = true := by decide +kernel
theorem w_applies : (headSpec (Jvm.Cond.code x code maxLocals ret :: tables_1) room_1).applies x e0.platform about1 = true :=
  (Spec.applies_iff w_frames).mpr ⟨w_running, w_runnable, w_alone, w_named, w_hears, w_ripe, w_room, w_tables⟩
theorem atStart : AtStart classFile x code maxLocals ret World_1 tables_1 room_1 Calls_1 rest_1 Pre_1 launch0 p0 e0 about1 theMethod args0 below0 :=
  ⟨lists_1, trivial, launch0.admits_env _ _ _, launch0.least_env, fairChoices_fair.cas, fairChoices_fair.clock, w_frames, w_args, w_heap, w_applies, trivial, trivial, w_case⟩
end start1
theorem witness_1 : WitnessClaimed_1 := ⟨start1.p0, start1.e0, start1.about1, start1.theMethod, start1.args0, start1.below0, start1.atStart⟩
end Jvm.Pilot.@@N@@
