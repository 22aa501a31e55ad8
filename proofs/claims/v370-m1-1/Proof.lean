import JvmDerived
import JvmDerived.Pilot.@@N@@Statement
import JvmDerived.Pilot.@@N@@Code
set_option linter.unusedVariables false
set_option linter.unusedSimpArgs false
namespace Jvm.RoadKit
open Sem ClassFile Op Lib Jvm.Stand Jvm.Free Jvm.LawKit
section New
variable {p : Program} {l : Launch} {e : Env} {R : Room} {s : State} {m : MethodId} {args : Array Value} {below : List Frame} {meth : Method} {c : Code} {T : State} {locs : List Loc} {cells slots : Nat}
theorem retI (X : Stand p l e R s m args below meth c T locs cells slots) (hx : p.tables.exec = Jvm.exec) {pc : Nat} {Ls : Array Slot} {z : Int32} {rest : List Value} (hret : meth.sig.returnType = some .int) (hd : decode c.code pc = .ok (.ireturn, 1)) {fs : List Frame}
    (hl : ∀ (f : JFrame) (acts : List Action), f.method = m → f.locked = none → f.entered = [] → (doReturn e (T.setTop f) acts (some (.int z))).1 = T.setFrames fs) : Steps p.tables e below (T.setTop (mkF m pc Ls (.int z :: rest))) (T.setFrames fs) := by
  have hm' : T.vm.method? m = some meth := X.method'
  have hn : narrow .int (.int z) = .int z := rfl
  show Steps p.tables e below (T.setTop { method := m, pc := pc, locals := Ls, stack := _ :: rest, locked := none }) _
  jvm_step X.here [X.here.top, hx, hd, hm', hret, hn]
  first | (intro acts; rw [hl _ acts rfl rfl rfl]) | rw [hl _ _ rfl rfl rfl]
  exact Steps.refl _
end New
end Jvm.RoadKit
namespace Jvm.Own
open Jvm Jvm.ClassFile Sem Op Lib Jvm.Free Jvm.Stand Jvm.LawKit Jvm.RoadKit Bundle
/-! ## A walk by continuations: `Goes` says that the run from here comes to a state with K; each rule takes one instruction off. -/
def Goes (p : Program) (e : Env) (below : List Frame) (K : State → Prop) (T : State) (m : MethodId) (pc : Nat) (L : Array Slot) (S : List Value) : Prop :=
  ∃ u, Steps p.tables e below (T.setTop (mkF m pc L S)) u ∧ K u
/-- where one body's walk stands: the standing facts, the state T with the heap h, what was written lies in new cells -/
def Wk (p : Program) (l : Launch) (e : Env) (R : Room) (s : State) (m : MethodId) (args : Array Value) (below : List Frame) (meth : Method) (c : Code) (Z : State) (n0 : Nat) (y : MethodName) (code : ByteArray) (ml : Nat) (ret : Option FieldType)
    (T : State) (cells slots : Nat) (h : Heap) : Prop :=
  p.tables.exec = Jvm.exec ∧ Z.Warmed39 s.vm ∧ c.code = code ∧ c.maxLocals = ml ∧ s.vm.findClass y.cls = some m.cls ∧ meth.name = y.name ∧ meth.sig.returnType = ret ∧ meth.locks = false ∧ n0 ≤ h.size ∧
  ∃ locs, Stand p l e R s m args below meth c T locs cells slots ∧ T.heap = h ∧ Fr n0 locs
def Qc (n0 : Nat) (w : Option Value) (Q : Heap → Prop) (v : Option Value) (h : Heap) (L : List Loc) : Prop := v = w ∧ Q h ∧ Fr n0 L ∧ n0 ≤ h.size
/-- what a body's end says: it returned w, the heap satisfies Q -/
def Done (below : List Frame) (s : State) (n0 : Nat) (R : Room) (w : Option Value) (Q : Heap → Prop) (u : State) : Prop :=
  ∃ o, u.status = .running ∧ Ended u below o ∧ ∃ v L, o = .returned v ∧ Qc n0 w Q v u.heap L ∧ FrameEnd s o u L R.cells R.slots
/-- a body's contract -/
def Con (l : Launch) (Z : State) (y : MethodName) (code : ByteArray) (ml : Nat) (ret : Option FieldType) (R : Room) (as : Array Value) (h0 : Heap) (n0 : Nat) (w : Option Value) (Q : Heap → Prop) : Prop :=
  ∀ ws, MetFree l y (head1 (Jvm.Cond.code y code ml ret :: ws) R) (fun a U => a = as ∧ Z.Warmed39 U.vm ∧ U.heap = h0) (fun _ _ _ _ _ => True)
    (fun _ U o U' => ∃ v L, o = .returned v ∧ Qc n0 w Q v U'.heap L ∧ FrameEnd U o U' L R.cells R.slots)
theorem con_of {l : Launch} {Z : State} {y : MethodName} {code : ByteArray} {ml : Nat} {ret : Option FieldType} {R : Room} {as : Array Value} {h0 : Heap} {n0 : Nat} {w : Option Value} {Q : Heap → Prop}
    (hpl : plainFor y = true) (hn0 : n0 ≤ h0.size) {L0 : Array Slot} (hL : ∀ m, entryFrame m as ml = mkF m 0 L0 [])
    (body : ∀ (p : Program) (e : Env) (s : State) (m : MethodId) (below : List Frame) (meth : Method) (c : Code) (T : State), Wk p l e R s m as below meth c Z n0 y code ml ret T 0 0 h0 → Goes p e below (Done below s n0 R w Q) T m 0 L0 []) :
    Con l Z y code ml ret R as h0 n0 w Q := by
  intro ws
  refine MetFree.of_bodySF hpl hisR ?_
  intro p e s m args below meth c s₁ Bd hml0 hP hK
  obtain ⟨rfl, hZ, hh⟩ := hP
  have X0 : Stand p l e R s m args below meth c s₁ [] 0 0 := Stand.of_body Bd
  have e0 : s₁.heap = h0 := by rw [← hh, Bd.state]; rfl
  obtain ⟨u, st, o, h1, h2, h3⟩ := body p e s m below meth c s₁ ⟨Bd.exec, hZ, Bd.bytes, hml0, findClass_of_methodNamed Bd.named, (name_of_methodNamed Bd.named Bd.method).1, Bd.returns, Bd.notSynchronized, hn0, [], X0, e0, Fr.nil n0⟩
  exact ⟨u, o, castTop (hL m) st, h1, h2, h3⟩
/-- Java's >>> -/
def ush (a b : Int32) : Int32 := (a.toUInt32 >>> (b &&& 31).toUInt32).toInt32
def ushL (a : Int64) (b : Int32) : Int64 := (a.toUInt64 >>> (b &&& 0x3f).toInt64.toUInt64).toInt64
/-- a local that holds nothing, or one word -/
def OneS (s : Slot) : Prop := s = .unset ∨ ∃ w : Value, s = .val w ∧ w.category = 1
theorem OneS.u : OneS .unset := Or.inl rfl
theorem OneS.i (z : Int32) : OneS (.val (.int z)) := Or.inr ⟨_, rfl, rfl⟩
theorem OneS.r (z : Addr) : OneS (.val (.ref z)) := Or.inr ⟨_, rfl, rfl⟩
section Rules
variable {p : Program} {l : Launch} {e : Env} {R : Room} {s : State} {m : MethodId} {args : Array Value} {below : List Frame} {meth : Method} {c : Code} {Z : State} {n0 : Nat} {y : MethodName} {code : ByteArray} {ml : Nat} {ret : Option FieldType}
  {T : State} {cells slots : Nat} {h : Heap} {K : State → Prop} {L : Array Slot} {S : List Value} {pc pc' : Nat} {a0 : Array Value}
theorem Goes.via {T' : State} {L' : Array Slot} {S' : List Value} (st : ∀ target, Steps p.tables e below (T'.setTop (mkF m pc' L' S')) target → Steps p.tables e below (T.setTop (mkF m pc L S)) target) (g : Goes p e below K T' m pc' L' S') : Goes p e below K T m pc L S := by
  obtain ⟨u, a, b⟩ := g
  exact ⟨u, st _ a, b⟩
theorem Wk.size (X : Wk p l e R s m args below meth c Z n0 y code ml ret T cells slots h) : n0 ≤ h.size := X.2.2.2.2.2.2.2.2.1
-- plain steps
theorem w_iloadN (X : Wk p l e R s m args below meth c Z n0 y code ml ret T cells slots h) {k : Fin 4} {v : Int32} (hd : decode code pc = .ok (.iload_n k, 1)) (hp : pc + 1 = pc') (hl : L[k.val]? = some (.val (.int v))) (g : Goes p e below K T m pc' L (.int v :: S)) : Goes p e below K T m pc L S := by
  obtain ⟨hx, -, hby, -, -, -, -, -, -, locs, X, -, -⟩ := X
  subst hp
  obtain ⟨u1, a1, b1⟩ := g
  exact ⟨u1, XS.iloadN (g := mkF m pc L S) X.here hx rfl (hb hby hd) hl a1, b1⟩
theorem w_iload (X : Wk p l e R s m args below meth c Z n0 y code ml ret T cells slots h) {k : Nat} {v : Int32} (hd : decode code pc = .ok (.iload k, 2)) (hp : pc + 2 = pc') (hl : L[k]? = some (.val (.int v))) (g : Goes p e below K T m pc' L (.int v :: S)) : Goes p e below K T m pc L S := by
  obtain ⟨hx, -, hby, -, -, -, -, -, -, locs, X, -, -⟩ := X
  subst hp
  obtain ⟨u1, a1, b1⟩ := g
  exact ⟨u1, XS.iload (g := mkF m pc L S) X.here hx rfl (hb hby hd) hl a1, b1⟩
theorem w_lloadN (X : Wk p l e R s m args below meth c Z n0 y code ml ret T cells slots h) {k : Fin 4} {v : Int64} (hd : decode code pc = .ok (.lload_n k, 1)) (hp : pc + 1 = pc') (hl : L[k.val]? = some (.val (.long v))) (g : Goes p e below K T m pc' L (.long v :: S)) : Goes p e below K T m pc L S := by
  obtain ⟨hx, -, hby, -, -, -, -, -, -, locs, X, -, -⟩ := X
  subst hp
  obtain ⟨u1, a1, b1⟩ := g
  exact ⟨u1, XS.lloadN (g := mkF m pc L S) X.here hx rfl (hb hby hd) hl a1, b1⟩
theorem w_lload (X : Wk p l e R s m args below meth c Z n0 y code ml ret T cells slots h) {k : Nat} {v : Int64} (hd : decode code pc = .ok (.lload k, 2)) (hp : pc + 2 = pc') (hl : L[k]? = some (.val (.long v))) (g : Goes p e below K T m pc' L (.long v :: S)) : Goes p e below K T m pc L S := by
  obtain ⟨hx, -, hby, -, -, -, -, -, -, locs, X, -, -⟩ := X
  subst hp
  obtain ⟨u1, a1, b1⟩ := g
  exact ⟨u1, XS.lload (g := mkF m pc L S) X.here hx rfl (hb hby hd) hl a1, b1⟩
theorem w_aloadN (X : Wk p l e R s m args below meth c Z n0 y code ml ret T cells slots h) {k : Fin 4} {v : Value} (hd : decode code pc = .ok (.aload_n k, 1)) (hp : pc + 1 = pc') (hl : L[k.val]? = some (.val v)) (hv : v.isRef = true) (g : Goes p e below K T m pc' L (v :: S)) : Goes p e below K T m pc L S := by
  obtain ⟨hx, -, hby, -, -, -, -, -, -, locs, X, -, -⟩ := X
  subst hp
  obtain ⟨u1, a1, b1⟩ := g
  exact ⟨u1, XS.aloadN (g := mkF m pc L S) X.here hx rfl (hb hby hd) hl hv a1, b1⟩
theorem w_aload (X : Wk p l e R s m args below meth c Z n0 y code ml ret T cells slots h) {k : Nat} {v : Value} (hd : decode code pc = .ok (.aload k, 2)) (hp : pc + 2 = pc') (hl : L[k]? = some (.val v)) (hv : v.isRef = true) (g : Goes p e below K T m pc' L (v :: S)) : Goes p e below K T m pc L S := by
  obtain ⟨hx, -, hby, -, -, -, -, -, -, locs, X, -, -⟩ := X
  subst hp
  obtain ⟨u1, a1, b1⟩ := g
  exact ⟨u1, XS.aload (g := mkF m pc L S) X.here hx rfl (hb hby hd) hl hv a1, b1⟩
theorem w_istoreN (X : Wk p l e R s m args below meth c Z n0 y code ml ret T cells slots h) {k : Fin 4} {v : Int32} {L' : Array Slot} (hd : decode code pc = .ok (.istore_n k, 1)) (hp : pc + 1 = pc') (hl : storeLocals L k.val (.int v) = some L') (g : Goes p e below K T m pc' L' S) : Goes p e below K T m pc L (.int v :: S) := by
  obtain ⟨hx, -, hby, -, -, -, -, -, -, locs, X, -, -⟩ := X
  subst hp
  obtain ⟨u1, a1, b1⟩ := g
  exact ⟨u1, XS.istoreN (g := mkF m pc L (.int v :: S)) X.here hx rfl (hb hby hd) rfl hl a1, b1⟩
theorem w_istore (X : Wk p l e R s m args below meth c Z n0 y code ml ret T cells slots h) {k : Nat} {v : Int32} {L' : Array Slot} (hd : decode code pc = .ok (.istore k, 2)) (hp : pc + 2 = pc') (hl : storeLocals L k (.int v) = some L') (g : Goes p e below K T m pc' L' S) : Goes p e below K T m pc L (.int v :: S) := by
  obtain ⟨hx, -, hby, -, -, -, -, -, -, locs, X, -, -⟩ := X
  subst hp
  obtain ⟨u1, a1, b1⟩ := g
  exact ⟨u1, XS.istore (g := mkF m pc L (.int v :: S)) X.here hx rfl (hb hby hd) rfl hl a1, b1⟩
theorem w_lstoreN (X : Wk p l e R s m args below meth c Z n0 y code ml ret T cells slots h) {k : Fin 4} {v : Int64} {L' : Array Slot} (hd : decode code pc = .ok (.lstore_n k, 1)) (hp : pc + 1 = pc') (hl : storeLocals L k.val (.long v) = some L') (g : Goes p e below K T m pc' L' S) : Goes p e below K T m pc L (.long v :: S) := by
  obtain ⟨hx, -, hby, -, -, -, -, -, -, locs, X, -, -⟩ := X
  subst hp
  obtain ⟨u1, a1, b1⟩ := g
  exact ⟨u1, XS.lstoreN (g := mkF m pc L (.long v :: S)) X.here hx rfl (hb hby hd) rfl hl a1, b1⟩
theorem w_lstore (X : Wk p l e R s m args below meth c Z n0 y code ml ret T cells slots h) {k : Nat} {v : Int64} {L' : Array Slot} (hd : decode code pc = .ok (.lstore k, 2)) (hp : pc + 2 = pc') (hl : storeLocals L k (.long v) = some L') (g : Goes p e below K T m pc' L' S) : Goes p e below K T m pc L (.long v :: S) := by
  obtain ⟨hx, -, hby, -, -, -, -, -, -, locs, X, -, -⟩ := X
  subst hp
  obtain ⟨u1, a1, b1⟩ := g
  exact ⟨u1, XS.lstore (g := mkF m pc L (.long v :: S)) X.here hx rfl (hb hby hd) rfl hl a1, b1⟩
theorem w_astoreN (X : Wk p l e R s m args below meth c Z n0 y code ml ret T cells slots h) {k : Fin 4} {v : Value} {L' : Array Slot} (hd : decode code pc = .ok (.astore_n k, 1)) (hp : pc + 1 = pc') (hv : v.isRef = true) (hl : storeLocals L k.val v = some L') (g : Goes p e below K T m pc' L' S) : Goes p e below K T m pc L (v :: S) := by
  obtain ⟨hx, -, hby, -, -, -, -, -, -, locs, X, -, -⟩ := X
  subst hp
  obtain ⟨u1, a1, b1⟩ := g
  exact ⟨u1, XS.astoreN (g := mkF m pc L (v :: S)) X.here hx rfl (hb hby hd) rfl hv hl a1, b1⟩
theorem w_astore (X : Wk p l e R s m args below meth c Z n0 y code ml ret T cells slots h) {k : Nat} {v : Value} {L' : Array Slot} (hd : decode code pc = .ok (.astore k, 2)) (hp : pc + 2 = pc') (hv : v.isRef = true) (hl : storeLocals L k v = some L') (g : Goes p e below K T m pc' L' S) : Goes p e below K T m pc L (v :: S) := by
  obtain ⟨hx, -, hby, -, -, -, -, -, -, locs, X, -, -⟩ := X
  subst hp
  obtain ⟨u1, a1, b1⟩ := g
  exact ⟨u1, XS.astore (g := mkF m pc L (v :: S)) X.here hx rfl (hb hby hd) rfl hv hl a1, b1⟩
theorem w_iconst (X : Wk p l e R s m args below meth c Z n0 y code ml ret T cells slots h) {i : Int} {v : Int32} (hd : decode code pc = .ok (.iconst i, 1)) (hp : pc + 1 = pc') (hv : Int32.ofInt i = v) (g : Goes p e below K T m pc' L (.int v :: S)) : Goes p e below K T m pc L S := by
  obtain ⟨hx, -, hby, -, -, -, -, -, -, locs, X, -, -⟩ := X
  subst hp hv
  obtain ⟨u1, a1, b1⟩ := g
  exact ⟨u1, XS.iconst (g := mkF m pc L S) X.here hx rfl (hb hby hd) a1, b1⟩
theorem w_bipush (X : Wk p l e R s m args below meth c Z n0 y code ml ret T cells slots h) {i : Int} {v : Int32} (hd : decode code pc = .ok (.bipush i, 2)) (hp : pc + 2 = pc') (hv : (Int8.ofInt i).toInt32 = v) (g : Goes p e below K T m pc' L (.int v :: S)) : Goes p e below K T m pc L S := by
  obtain ⟨hx, -, hby, -, -, -, -, -, -, locs, X, -, -⟩ := X
  subst hp hv
  obtain ⟨u1, a1, b1⟩ := g
  exact ⟨u1, XS.bipush (g := mkF m pc L S) X.here hx rfl (hb hby hd) a1, b1⟩
theorem w_sipush (X : Wk p l e R s m args below meth c Z n0 y code ml ret T cells slots h) {i : Int} {v : Int32} (hd : decode code pc = .ok (.sipush i, 3)) (hp : pc + 3 = pc') (hv : (Int16.ofInt i).toInt32 = v) (g : Goes p e below K T m pc' L (.int v :: S)) : Goes p e below K T m pc L S := by
  obtain ⟨hx, -, hby, -, -, -, -, -, -, locs, X, -, -⟩ := X
  subst hp hv
  obtain ⟨u1, a1, b1⟩ := g
  exact ⟨u1, XS.sipush (g := mkF m pc L S) X.here hx rfl (hb hby hd) a1, b1⟩
theorem w_lconst (X : Wk p l e R s m args below meth c Z n0 y code ml ret T cells slots h) {i : Fin 2} {v : Int64} (hd : decode code pc = .ok (.lconst i, 1)) (hp : pc + 1 = pc') (hv : Int64.ofNat i = v) (g : Goes p e below K T m pc' L (.long v :: S)) : Goes p e below K T m pc L S := by
  obtain ⟨hx, -, hby, -, -, -, -, -, -, locs, X, -, -⟩ := X
  subst hp hv
  obtain ⟨u1, a1, b1⟩ := g
  exact ⟨u1, XS.lconst (g := mkF m pc L S) X.here hx rfl (hb hby hd) a1, b1⟩
theorem w_ldcInt (X : Wk p l e R s m args below meth c Z n0 y code ml ret T cells slots h) {i : Nat} {v : Int32} (hc : (Jvm.Cond.constant y.cls i v).before a0 Z = true) (hd : decode code pc = .ok (.ldc i, 2)) (hp : pc + 2 = pc') (g : Goes p e below K T m pc' L (.int v :: S)) : Goes p e below K T m pc L S := by
  obtain ⟨hx, hZ, hby, -, hown, -, -, -, -, locs, X, -, -⟩ := X
  subst hp
  obtain ⟨u1, a1, b1⟩ := g
  exact ⟨u1, X.ldcInt hx hown (mvT hZ hc) (g := mkF m pc L S) rfl (hb hby hd) _ a1, b1⟩
theorem w_ldc2Long (X : Wk p l e R s m args below meth c Z n0 y code ml ret T cells slots h) {i : Nat} {v : Int64} (hc : (Jvm.Cond.constantLong y.cls i v).before a0 Z = true) (hd : decode code pc = .ok (.ldc2_w i, 3)) (hp : pc + 3 = pc') (g : Goes p e below K T m pc' L (.long v :: S)) : Goes p e below K T m pc L S := by
  obtain ⟨hx, hZ, hby, -, hown, -, -, -, -, locs, X, -, -⟩ := X
  subst hp
  obtain ⟨u1, a1, b1⟩ := g
  exact ⟨u1, X.ldc2Long hx hown (mvT hZ hc) (g := mkF m pc L S) rfl (hb hby hd) _ a1, b1⟩
theorem w_iinc (X : Wk p l e R s m args below meth c Z n0 y code ml ret T cells slots h) {k : Nat} {d : Int} {v v' : Int32} {L' : Array Slot} (hd : decode code pc = .ok (.iinc k d, 3)) (hp : pc + 3 = pc') (hl : L[k]? = some (.val (.int v))) (hv : v + Int32.ofInt d = v') (hl' : storeLocals L k (.int v') = some L') (g : Goes p e below K T m pc' L' S) : Goes p e below K T m pc L S := by
  obtain ⟨hx, -, hby, -, -, -, -, -, -, locs, X, -, -⟩ := X
  subst hp hv
  obtain ⟨u1, a1, b1⟩ := g
  exact ⟨u1, XS.iinc (g := mkF m pc L S) X.here hx rfl (hb hby hd) hl hl' a1, b1⟩
theorem w_goto (X : Wk p l e R s m args below meth c Z n0 y code ml ret T cells slots h) {o : Int} (hd : decode code pc = .ok (.goto o, 3)) (ho : 0 ≤ (pc : Int) + o) (hp : ((pc : Int) + o).toNat = pc') (g : Goes p e below K T m pc' L S) : Goes p e below K T m pc L S := by
  obtain ⟨hx, -, hby, -, -, -, -, -, -, locs, X, -, -⟩ := X
  obtain ⟨u1, a1, b1⟩ := g
  exact ⟨u1, XS.goto (g := mkF m pc L S) X.here hx rfl (pc0 := pc) rfl (hb hby hd) ho hp a1, b1⟩
theorem w_dup (X : Wk p l e R s m args below meth c Z n0 y code ml ret T cells slots h) {v : Value} (hd : decode code pc = .ok (.dup, 1)) (hp : pc + 1 = pc') (hv : v.category = 1) (g : Goes p e below K T m pc' L (v :: v :: S)) : Goes p e below K T m pc L (v :: S) := by
  obtain ⟨hx, -, hby, -, -, -, -, -, -, locs, X, -, -⟩ := X
  subst hp
  obtain ⟨u1, a1, b1⟩ := g
  exact ⟨u1, XS.dup (g := mkF m pc L (v :: S)) X.here hx rfl (hb hby hd) rfl hv a1, b1⟩
theorem w_dup2 (X : Wk p l e R s m args below meth c Z n0 y code ml ret T cells slots h) {v w : Value} (hd : decode code pc = .ok (.dup2, 1)) (hp : pc + 1 = pc') (hv : v.category = 1) (hw : w.category = 1) (g : Goes p e below K T m pc' L (v :: w :: v :: w :: S)) : Goes p e below K T m pc L (v :: w :: S) := by
  obtain ⟨hx, -, hby, -, -, -, -, -, -, locs, X, -, -⟩ := X
  subst hp
  obtain ⟨u1, a1, b1⟩ := g
  exact ⟨u1, Jvm.Free.XT.dup2 (g := mkF m pc L (v :: w :: S)) X.here hx rfl (hb hby hd) rfl hv hw a1, b1⟩
theorem w_pop (X : Wk p l e R s m args below meth c Z n0 y code ml ret T cells slots h) {v : Value} (hd : decode code pc = .ok (.pop, 1)) (hp : pc + 1 = pc') (hv : v.category = 1) (g : Goes p e below K T m pc' L S) : Goes p e below K T m pc L (v :: S) := by
  obtain ⟨hx, -, hby, -, -, -, -, -, -, locs, X, -, -⟩ := X
  subst hp
  obtain ⟨u1, a1, b1⟩ := g
  exact ⟨u1, XS.pop (g := mkF m pc L (v :: S)) X.here hx rfl (hb hby hd) rfl hv a1, b1⟩
theorem w_dupX1 (X : Wk p l e R s m args below meth c Z n0 y code ml ret T cells slots h) {v w : Value} (hd : decode code pc = .ok (.dup_x1, 1)) (hp : pc + 1 = pc') (hv : v.category = 1) (hw : w.category = 1) (g : Goes p e below K T m pc' L (v :: w :: v :: S)) : Goes p e below K T m pc L (v :: w :: S) := by
  obtain ⟨hx, -, hby, -, -, -, -, -, -, locs, X, -, -⟩ := X
  subst hp
  obtain ⟨u1, a1, b1⟩ := g
  exact ⟨u1, XS.dupX1 (g := mkF m pc L (v :: w :: S)) X.here hx rfl (hb hby hd) rfl hv hw a1, b1⟩
theorem w_null (X : Wk p l e R s m args below meth c Z n0 y code ml ret T cells slots h) (hd : decode code pc = .ok (.aconst_null, 1)) (hp : pc + 1 = pc') (g : Goes p e below K T m pc' L (.null :: S)) : Goes p e below K T m pc L S := by
  obtain ⟨hx, -, hby, -, -, -, -, -, -, locs, X, -, -⟩ := X
  subst hp
  obtain ⟨u1, a1, b1⟩ := g
  exact ⟨u1, XS.aconstNull (g := mkF m pc L S) X.here hx rfl (hb hby hd) a1, b1⟩
theorem w_ifnullYes (X : Wk p l e R s m args below meth c Z n0 y code ml ret T cells slots h) {o : Int} (hd : decode code pc = .ok (.ifnull o, 3)) (ho : 0 ≤ (pc : Int) + o) (hp : ((pc : Int) + o).toNat = pc') (g : Goes p e below K T m pc' L S) : Goes p e below K T m pc L (.null :: S) := by
  obtain ⟨hx, -, hby, -, -, -, -, -, -, locs, X, -, -⟩ := X
  obtain ⟨u1, a1, b1⟩ := g
  exact ⟨u1, XS.ifnullYes (g := mkF m pc L (.null :: S)) X.here hx rfl (pc0 := pc) rfl (hb hby hd) rfl ho hp a1, b1⟩
theorem w_ifnullNo (X : Wk p l e R s m args below meth c Z n0 y code ml ret T cells slots h) {o : Int} {a : Addr} (hd : decode code pc = .ok (.ifnull o, 3)) (hp : pc + 3 = pc') (g : Goes p e below K T m pc' L S) : Goes p e below K T m pc L (.ref a :: S) := by
  obtain ⟨hx, -, hby, -, -, -, -, -, -, locs, X, -, -⟩ := X
  subst hp
  obtain ⟨u1, a1, b1⟩ := g
  exact ⟨u1, XS.ifnullNo (g := mkF m pc L (.ref a :: S)) X.here hx rfl (hb hby hd) rfl a1, b1⟩
theorem w_ifnonnullYes (X : Wk p l e R s m args below meth c Z n0 y code ml ret T cells slots h) {o : Int} {a : Addr} (hd : decode code pc = .ok (.ifnonnull o, 3)) (ho : 0 ≤ (pc : Int) + o) (hp : ((pc : Int) + o).toNat = pc') (g : Goes p e below K T m pc' L S) : Goes p e below K T m pc L (.ref a :: S) := by
  obtain ⟨hx, -, hby, -, -, -, -, -, -, locs, X, -, -⟩ := X
  obtain ⟨u1, a1, b1⟩ := g
  exact ⟨u1, XS.ifnonnullYes (g := mkF m pc L (.ref a :: S)) X.here hx rfl (pc0 := pc) rfl (hb hby hd) rfl ho hp a1, b1⟩
theorem w_ifnonnullNo (X : Wk p l e R s m args below meth c Z n0 y code ml ret T cells slots h) {o : Int} (hd : decode code pc = .ok (.ifnonnull o, 3)) (hp : pc + 3 = pc') (g : Goes p e below K T m pc' L S) : Goes p e below K T m pc L (.null :: S) := by
  obtain ⟨hx, -, hby, -, -, -, -, -, -, locs, X, -, -⟩ := X
  subst hp
  obtain ⟨u1, a1, b1⟩ := g
  exact ⟨u1, XS.ifnonnullNo (g := mkF m pc L (.null :: S)) X.here hx rfl (hb hby hd) rfl a1, b1⟩
theorem w_iadd (X : Wk p l e R s m args below meth c Z n0 y code ml ret T cells slots h) {a b : Int32} (hd : decode code pc = .ok (.iadd, 1)) (hp : pc + 1 = pc') (g : Goes p e below K T m pc' L (.int (a + b) :: S)) : Goes p e below K T m pc L (.int b :: .int a :: S) := by
  obtain ⟨hx, -, hby, -, -, -, -, -, -, locs, X, -, -⟩ := X
  subst hp
  obtain ⟨u1, a1, b1⟩ := g
  exact ⟨u1, XS.iadd (g := mkF m pc L (.int b :: .int a :: S)) X.here hx rfl (hb hby hd) rfl a1, b1⟩
theorem w_ladd (X : Wk p l e R s m args below meth c Z n0 y code ml ret T cells slots h) {a b : Int64} (hd : decode code pc = .ok (.ladd, 1)) (hp : pc + 1 = pc') (g : Goes p e below K T m pc' L (.long (a + b) :: S)) : Goes p e below K T m pc L (.long b :: .long a :: S) := by
  obtain ⟨hx, -, hby, -, -, -, -, -, -, locs, X, -, -⟩ := X
  subst hp
  obtain ⟨u1, a1, b1⟩ := g
  exact ⟨u1, XS.ladd (g := mkF m pc L (.long b :: .long a :: S)) X.here hx rfl (hb hby hd) rfl a1, b1⟩
theorem w_isub (X : Wk p l e R s m args below meth c Z n0 y code ml ret T cells slots h) {a b : Int32} (hd : decode code pc = .ok (.isub, 1)) (hp : pc + 1 = pc') (g : Goes p e below K T m pc' L (.int (a - b) :: S)) : Goes p e below K T m pc L (.int b :: .int a :: S) := by
  obtain ⟨hx, -, hby, -, -, -, -, -, -, locs, X, -, -⟩ := X
  subst hp
  obtain ⟨u1, a1, b1⟩ := g
  exact ⟨u1, XS.isub (g := mkF m pc L (.int b :: .int a :: S)) X.here hx rfl (hb hby hd) rfl a1, b1⟩
theorem w_lsub (X : Wk p l e R s m args below meth c Z n0 y code ml ret T cells slots h) {a b : Int64} (hd : decode code pc = .ok (.lsub, 1)) (hp : pc + 1 = pc') (g : Goes p e below K T m pc' L (.long (a - b) :: S)) : Goes p e below K T m pc L (.long b :: .long a :: S) := by
  obtain ⟨hx, -, hby, -, -, -, -, -, -, locs, X, -, -⟩ := X
  subst hp
  obtain ⟨u1, a1, b1⟩ := g
  exact ⟨u1, XS.lsub (g := mkF m pc L (.long b :: .long a :: S)) X.here hx rfl (hb hby hd) rfl a1, b1⟩
theorem w_imul (X : Wk p l e R s m args below meth c Z n0 y code ml ret T cells slots h) {a b : Int32} (hd : decode code pc = .ok (.imul, 1)) (hp : pc + 1 = pc') (g : Goes p e below K T m pc' L (.int (a * b) :: S)) : Goes p e below K T m pc L (.int b :: .int a :: S) := by
  obtain ⟨hx, -, hby, -, -, -, -, -, -, locs, X, -, -⟩ := X
  subst hp
  obtain ⟨u1, a1, b1⟩ := g
  exact ⟨u1, XS.imul (g := mkF m pc L (.int b :: .int a :: S)) X.here hx rfl (hb hby hd) rfl a1, b1⟩
theorem w_lmul (X : Wk p l e R s m args below meth c Z n0 y code ml ret T cells slots h) {a b : Int64} (hd : decode code pc = .ok (.lmul, 1)) (hp : pc + 1 = pc') (g : Goes p e below K T m pc' L (.long (a * b) :: S)) : Goes p e below K T m pc L (.long b :: .long a :: S) := by
  obtain ⟨hx, -, hby, -, -, -, -, -, -, locs, X, -, -⟩ := X
  subst hp
  obtain ⟨u1, a1, b1⟩ := g
  exact ⟨u1, XS.lmul (g := mkF m pc L (.long b :: .long a :: S)) X.here hx rfl (hb hby hd) rfl a1, b1⟩
theorem w_iand (X : Wk p l e R s m args below meth c Z n0 y code ml ret T cells slots h) {a b : Int32} (hd : decode code pc = .ok (.iand, 1)) (hp : pc + 1 = pc') (g : Goes p e below K T m pc' L (.int (a &&& b) :: S)) : Goes p e below K T m pc L (.int b :: .int a :: S) := by
  obtain ⟨hx, -, hby, -, -, -, -, -, -, locs, X, -, -⟩ := X
  subst hp
  obtain ⟨u1, a1, b1⟩ := g
  exact ⟨u1, XS.iand (g := mkF m pc L (.int b :: .int a :: S)) X.here hx rfl (hb hby hd) rfl a1, b1⟩
theorem w_land (X : Wk p l e R s m args below meth c Z n0 y code ml ret T cells slots h) {a b : Int64} (hd : decode code pc = .ok (.land, 1)) (hp : pc + 1 = pc') (g : Goes p e below K T m pc' L (.long (a &&& b) :: S)) : Goes p e below K T m pc L (.long b :: .long a :: S) := by
  obtain ⟨hx, -, hby, -, -, -, -, -, -, locs, X, -, -⟩ := X
  subst hp
  obtain ⟨u1, a1, b1⟩ := g
  exact ⟨u1, XS.land (g := mkF m pc L (.long b :: .long a :: S)) X.here hx rfl (hb hby hd) rfl a1, b1⟩
theorem w_ior (X : Wk p l e R s m args below meth c Z n0 y code ml ret T cells slots h) {a b : Int32} (hd : decode code pc = .ok (.ior, 1)) (hp : pc + 1 = pc') (g : Goes p e below K T m pc' L (.int (a ||| b) :: S)) : Goes p e below K T m pc L (.int b :: .int a :: S) := by
  obtain ⟨hx, -, hby, -, -, -, -, -, -, locs, X, -, -⟩ := X
  subst hp
  obtain ⟨u1, a1, b1⟩ := g
  exact ⟨u1, XS.ior (g := mkF m pc L (.int b :: .int a :: S)) X.here hx rfl (hb hby hd) rfl a1, b1⟩
theorem w_lor (X : Wk p l e R s m args below meth c Z n0 y code ml ret T cells slots h) {a b : Int64} (hd : decode code pc = .ok (.lor, 1)) (hp : pc + 1 = pc') (g : Goes p e below K T m pc' L (.long (a ||| b) :: S)) : Goes p e below K T m pc L (.long b :: .long a :: S) := by
  obtain ⟨hx, -, hby, -, -, -, -, -, -, locs, X, -, -⟩ := X
  subst hp
  obtain ⟨u1, a1, b1⟩ := g
  exact ⟨u1, XS.lor (g := mkF m pc L (.long b :: .long a :: S)) X.here hx rfl (hb hby hd) rfl a1, b1⟩
theorem w_ixor (X : Wk p l e R s m args below meth c Z n0 y code ml ret T cells slots h) {a b : Int32} (hd : decode code pc = .ok (.ixor, 1)) (hp : pc + 1 = pc') (g : Goes p e below K T m pc' L (.int (a ^^^ b) :: S)) : Goes p e below K T m pc L (.int b :: .int a :: S) := by
  obtain ⟨hx, -, hby, -, -, -, -, -, -, locs, X, -, -⟩ := X
  subst hp
  obtain ⟨u1, a1, b1⟩ := g
  exact ⟨u1, XS.ixor (g := mkF m pc L (.int b :: .int a :: S)) X.here hx rfl (hb hby hd) rfl a1, b1⟩
theorem w_lxor (X : Wk p l e R s m args below meth c Z n0 y code ml ret T cells slots h) {a b : Int64} (hd : decode code pc = .ok (.lxor, 1)) (hp : pc + 1 = pc') (g : Goes p e below K T m pc' L (.long (a ^^^ b) :: S)) : Goes p e below K T m pc L (.long b :: .long a :: S) := by
  obtain ⟨hx, -, hby, -, -, -, -, -, -, locs, X, -, -⟩ := X
  subst hp
  obtain ⟨u1, a1, b1⟩ := g
  exact ⟨u1, XS.lxor (g := mkF m pc L (.long b :: .long a :: S)) X.here hx rfl (hb hby hd) rfl a1, b1⟩
theorem w_ishl (X : Wk p l e R s m args below meth c Z n0 y code ml ret T cells slots h) {a b : Int32} (hd : decode code pc = .ok (.ishl, 1)) (hp : pc + 1 = pc') (g : Goes p e below K T m pc' L (.int (a <<< (b &&& 31)) :: S)) : Goes p e below K T m pc L (.int b :: .int a :: S) := by
  obtain ⟨hx, -, hby, -, -, -, -, -, -, locs, X, -, -⟩ := X
  subst hp
  obtain ⟨u1, a1, b1⟩ := g
  exact ⟨u1, XS.ishl (g := mkF m pc L (.int b :: .int a :: S)) X.here hx rfl (hb hby hd) rfl a1, b1⟩
theorem w_ishr (X : Wk p l e R s m args below meth c Z n0 y code ml ret T cells slots h) {a b : Int32} (hd : decode code pc = .ok (.ishr, 1)) (hp : pc + 1 = pc') (g : Goes p e below K T m pc' L (.int (a >>> (b &&& 31)) :: S)) : Goes p e below K T m pc L (.int b :: .int a :: S) := by
  obtain ⟨hx, -, hby, -, -, -, -, -, -, locs, X, -, -⟩ := X
  subst hp
  obtain ⟨u1, a1, b1⟩ := g
  exact ⟨u1, XS.ishr (g := mkF m pc L (.int b :: .int a :: S)) X.here hx rfl (hb hby hd) rfl a1, b1⟩
theorem w_iushr (X : Wk p l e R s m args below meth c Z n0 y code ml ret T cells slots h) {a b : Int32} (hd : decode code pc = .ok (.iushr, 1)) (hp : pc + 1 = pc') (g : Goes p e below K T m pc' L (.int (ush a b) :: S)) : Goes p e below K T m pc L (.int b :: .int a :: S) := by
  obtain ⟨hx, -, hby, -, -, -, -, -, -, locs, X, -, -⟩ := X
  subst hp
  obtain ⟨u1, a1, b1⟩ := g
  exact ⟨u1, XS.iushr (g := mkF m pc L (.int b :: .int a :: S)) X.here hx rfl (hb hby hd) rfl a1, b1⟩
theorem w_lshl (X : Wk p l e R s m args below meth c Z n0 y code ml ret T cells slots h) {a : Int64} {b : Int32} (hd : decode code pc = .ok (.lshl, 1)) (hp : pc + 1 = pc') (g : Goes p e below K T m pc' L (.long (a <<< (b &&& 0x3f).toInt64) :: S)) : Goes p e below K T m pc L (.int b :: .long a :: S) := by
  obtain ⟨hx, -, hby, -, -, -, -, -, -, locs, X, -, -⟩ := X
  subst hp
  obtain ⟨u1, a1, b1⟩ := g
  exact ⟨u1, XS.lshl (g := mkF m pc L (.int b :: .long a :: S)) X.here hx rfl (hb hby hd) rfl a1, b1⟩
theorem w_lshr (X : Wk p l e R s m args below meth c Z n0 y code ml ret T cells slots h) {a : Int64} {b : Int32} (hd : decode code pc = .ok (.lshr, 1)) (hp : pc + 1 = pc') (g : Goes p e below K T m pc' L (.long (a >>> (b &&& 0x3f).toInt64) :: S)) : Goes p e below K T m pc L (.int b :: .long a :: S) := by
  obtain ⟨hx, -, hby, -, -, -, -, -, -, locs, X, -, -⟩ := X
  subst hp
  obtain ⟨u1, a1, b1⟩ := g
  exact ⟨u1, XS.lshr (g := mkF m pc L (.int b :: .long a :: S)) X.here hx rfl (hb hby hd) rfl a1, b1⟩
theorem w_lushr (X : Wk p l e R s m args below meth c Z n0 y code ml ret T cells slots h) {a : Int64} {b : Int32} (hd : decode code pc = .ok (.lushr, 1)) (hp : pc + 1 = pc') (g : Goes p e below K T m pc' L (.long (ushL a b) :: S)) : Goes p e below K T m pc L (.int b :: .long a :: S) := by
  obtain ⟨hx, -, hby, -, -, -, -, -, -, locs, X, -, -⟩ := X
  subst hp
  obtain ⟨u1, a1, b1⟩ := g
  exact ⟨u1, XS.lushr (g := mkF m pc L (.int b :: .long a :: S)) X.here hx rfl (hb hby hd) rfl a1, b1⟩
theorem w_ineg (X : Wk p l e R s m args below meth c Z n0 y code ml ret T cells slots h) {a : Int32} (hd : decode code pc = .ok (.ineg, 1)) (hp : pc + 1 = pc') (g : Goes p e below K T m pc' L (.int (-a) :: S)) : Goes p e below K T m pc L (.int a :: S) := by
  obtain ⟨hx, -, hby, -, -, -, -, -, -, locs, X, -, -⟩ := X
  subst hp
  obtain ⟨u1, a1, b1⟩ := g
  exact ⟨u1, XS.ineg (g := mkF m pc L (.int a :: S)) X.here hx rfl (hb hby hd) rfl a1, b1⟩
theorem w_lneg (X : Wk p l e R s m args below meth c Z n0 y code ml ret T cells slots h) {a : Int64} (hd : decode code pc = .ok (.lneg, 1)) (hp : pc + 1 = pc') (g : Goes p e below K T m pc' L (.long (-a) :: S)) : Goes p e below K T m pc L (.long a :: S) := by
  obtain ⟨hx, -, hby, -, -, -, -, -, -, locs, X, -, -⟩ := X
  subst hp
  obtain ⟨u1, a1, b1⟩ := g
  exact ⟨u1, XS.lneg (g := mkF m pc L (.long a :: S)) X.here hx rfl (hb hby hd) rfl a1, b1⟩
theorem w_i2l (X : Wk p l e R s m args below meth c Z n0 y code ml ret T cells slots h) {a : Int32} (hd : decode code pc = .ok (.i2l, 1)) (hp : pc + 1 = pc') (g : Goes p e below K T m pc' L (.long a.toInt64 :: S)) : Goes p e below K T m pc L (.int a :: S) := by
  obtain ⟨hx, -, hby, -, -, -, -, -, -, locs, X, -, -⟩ := X
  subst hp
  obtain ⟨u1, a1, b1⟩ := g
  exact ⟨u1, XS.i2l (g := mkF m pc L (.int a :: S)) X.here hx rfl (hb hby hd) rfl a1, b1⟩
theorem w_l2i (X : Wk p l e R s m args below meth c Z n0 y code ml ret T cells slots h) {a : Int64} (hd : decode code pc = .ok (.l2i, 1)) (hp : pc + 1 = pc') (g : Goes p e below K T m pc' L (.int a.toInt32 :: S)) : Goes p e below K T m pc L (.long a :: S) := by
  obtain ⟨hx, -, hby, -, -, -, -, -, -, locs, X, -, -⟩ := X
  subst hp
  obtain ⟨u1, a1, b1⟩ := g
  exact ⟨u1, XS.l2i (g := mkF m pc L (.long a :: S)) X.here hx rfl (hb hby hd) rfl a1, b1⟩
theorem w_i2b (X : Wk p l e R s m args below meth c Z n0 y code ml ret T cells slots h) {a : Int32} (hd : decode code pc = .ok (.i2b, 1)) (hp : pc + 1 = pc') (g : Goes p e below K T m pc' L (.int a.toInt8.toInt32 :: S)) : Goes p e below K T m pc L (.int a :: S) := by
  obtain ⟨hx, -, hby, -, -, -, -, -, -, locs, X, -, -⟩ := X
  subst hp
  obtain ⟨u1, a1, b1⟩ := g
  exact ⟨u1, XS.i2b (g := mkF m pc L (.int a :: S)) X.here hx rfl (hb hby hd) rfl a1, b1⟩
theorem w_i2s (X : Wk p l e R s m args below meth c Z n0 y code ml ret T cells slots h) {a : Int32} (hd : decode code pc = .ok (.i2s, 1)) (hp : pc + 1 = pc') (g : Goes p e below K T m pc' L (.int a.toInt16.toInt32 :: S)) : Goes p e below K T m pc L (.int a :: S) := by
  obtain ⟨hx, -, hby, -, -, -, -, -, -, locs, X, -, -⟩ := X
  subst hp
  obtain ⟨u1, a1, b1⟩ := g
  exact ⟨u1, XS.i2s (g := mkF m pc L (.int a :: S)) X.here hx rfl (hb hby hd) rfl a1, b1⟩
theorem w_i2c (X : Wk p l e R s m args below meth c Z n0 y code ml ret T cells slots h) {a : Int32} (hd : decode code pc = .ok (.i2c, 1)) (hp : pc + 1 = pc') (g : Goes p e below K T m pc' L (.int a.toUInt32.toUInt16.toUInt32.toInt32 :: S)) : Goes p e below K T m pc L (.int a :: S) := by
  obtain ⟨hx, -, hby, -, -, -, -, -, -, locs, X, -, -⟩ := X
  subst hp
  obtain ⟨u1, a1, b1⟩ := g
  exact ⟨u1, XS.i2c (g := mkF m pc L (.int a :: S)) X.here hx rfl (hb hby hd) rfl a1, b1⟩
theorem w_idiv (X : Wk p l e R s m args below meth c Z n0 y code ml ret T cells slots h) {a b : Int32} (hd : decode code pc = .ok (.idiv, 1)) (hp : pc + 1 = pc') (hb0 : b ≠ 0) (g : Goes p e below K T m pc' L (.int (a / b) :: S)) : Goes p e below K T m pc L (.int b :: .int a :: S) := by
  obtain ⟨hx, -, hby, -, -, -, -, -, -, locs, X, -, -⟩ := X
  subst hp
  obtain ⟨u1, a1, b1⟩ := g
  exact ⟨u1, XS.idiv (g := mkF m pc L (.int b :: .int a :: S)) X.here hx rfl (hb hby hd) rfl hb0 a1, b1⟩
theorem w_irem (X : Wk p l e R s m args below meth c Z n0 y code ml ret T cells slots h) {a b : Int32} (hd : decode code pc = .ok (.irem, 1)) (hp : pc + 1 = pc') (hb0 : b ≠ 0) (g : Goes p e below K T m pc' L (.int (a % b) :: S)) : Goes p e below K T m pc L (.int b :: .int a :: S) := by
  obtain ⟨hx, -, hby, -, -, -, -, -, -, locs, X, -, -⟩ := X
  subst hp
  obtain ⟨u1, a1, b1⟩ := g
  exact ⟨u1, Jvm.RoadKit.iremM (g := mkF m pc L (.int b :: .int a :: S)) X hx rfl (hb hby hd) rfl hb0 a1, b1⟩
theorem w_ldiv (X : Wk p l e R s m args below meth c Z n0 y code ml ret T cells slots h) {a b : Int64} (hd : decode code pc = .ok (.ldiv, 1)) (hp : pc + 1 = pc') (hb0 : b ≠ 0) (g : Goes p e below K T m pc' L (.long (a / b) :: S)) : Goes p e below K T m pc L (.long b :: .long a :: S) := by
  obtain ⟨hx, -, hby, -, -, -, -, -, -, locs, X, -, -⟩ := X
  subst hp
  obtain ⟨u1, a1, b1⟩ := g
  exact ⟨u1, XS.ldiv (g := mkF m pc L (.long b :: .long a :: S)) X.here hx rfl (hb hby hd) rfl hb0 a1, b1⟩
theorem w_lrem (X : Wk p l e R s m args below meth c Z n0 y code ml ret T cells slots h) {a b : Int64} (hd : decode code pc = .ok (.lrem, 1)) (hp : pc + 1 = pc') (hb0 : b ≠ 0) (g : Goes p e below K T m pc' L (.long (a % b) :: S)) : Goes p e below K T m pc L (.long b :: .long a :: S) := by
  obtain ⟨hx, -, hby, -, -, -, -, -, -, locs, X, -, -⟩ := X
  subst hp
  rw [← lrem_mod] at g
  obtain ⟨u1, a1, b1⟩ := g
  exact ⟨u1, XS.lrem (g := mkF m pc L (.long b :: .long a :: S)) X.here hx rfl (hb hby hd) rfl hb0 a1, b1⟩
theorem w_lcmp (X : Wk p l e R s m args below meth c Z n0 y code ml ret T cells slots h) {a b : Int64} (hd : decode code pc = .ok (.lcmp, 1)) (hp : pc + 1 = pc') (g : Goes p e below K T m pc' L (.int (lcmpW a b) :: S)) : Goes p e below K T m pc L (.long b :: .long a :: S) := by
  obtain ⟨hx, -, hby, -, -, -, -, -, -, locs, X, -, -⟩ := X
  subst hp
  obtain ⟨u1, a1, b1⟩ := g
  exact ⟨u1, XS.lcmp (g := mkF m pc L (.long b :: .long a :: S)) X.here hx rfl (hb hby hd) rfl a1, b1⟩
theorem w_icmp_lt (X : Wk p l e R s m args below meth c Z n0 y code ml ret T cells slots h) {a b : Int32} {o : Int} {pcT pcF : Nat} (hd : decode code pc = .ok (.if_icmp .lt o, 3)) (ho : 0 ≤ (pc : Int) + o) (hT : ((pc : Int) + o).toNat = pcT) (hF : pc + 3 = pcF) (gT : a < b → Goes p e below K T m pcT L S) (gF : ¬ a < b → Goes p e below K T m pcF L S) : Goes p e below K T m pc L (.int b :: .int a :: S) := by
  obtain ⟨hx, -, hby, -, -, -, -, -, -, locs, X, -, -⟩ := X
  subst hF
  by_cases q : a < b
  · obtain ⟨u1, a1, b1⟩ := (gT q)
    exact ⟨u1, XS.icmpYes (g := mkF m pc L (.int b :: .int a :: S)) X.here hx rfl (pc0 := pc) rfl (hb hby hd) rfl (tlt q).1 ho hT a1, b1⟩
  · obtain ⟨u1, a1, b1⟩ := (gF q)
    exact ⟨u1, XS.icmpNo (g := mkF m pc L (.int b :: .int a :: S)) X.here hx rfl (hb hby hd) rfl (flt q).1 a1, b1⟩
theorem w_if_lt (X : Wk p l e R s m args below meth c Z n0 y code ml ret T cells slots h) {a : Int32} {o : Int} {pcT pcF : Nat} (hd : decode code pc = .ok (.ifCond .lt o, 3)) (ho : 0 ≤ (pc : Int) + o) (hT : ((pc : Int) + o).toNat = pcT) (hF : pc + 3 = pcF) (gT : a < 0 → Goes p e below K T m pcT L S) (gF : ¬ a < 0 → Goes p e below K T m pcF L S) : Goes p e below K T m pc L (.int a :: S) := by
  obtain ⟨hx, -, hby, -, -, -, -, -, -, locs, X, -, -⟩ := X
  subst hF
  by_cases q : a < 0
  · obtain ⟨u1, a1, b1⟩ := (gT q)
    exact ⟨u1, XS.ifYes (g := mkF m pc L (.int a :: S)) X.here hx rfl (pc0 := pc) rfl (hb hby hd) rfl ((if0 _ _).trans (tlt q).1) ho hT a1, b1⟩
  · obtain ⟨u1, a1, b1⟩ := (gF q)
    exact ⟨u1, XS.ifNo (g := mkF m pc L (.int a :: S)) X.here hx rfl (hb hby hd) rfl ((if0 _ _).trans (flt q).1) a1, b1⟩
theorem w_lcmp_lt (X : Wk p l e R s m args below meth c Z n0 y code ml ret T cells slots h) {a b : Int64} {o : Int} {pcI pcT pcF : Nat} (hd0 : decode code pc = .ok (.lcmp, 1)) (hp : pc + 1 = pcI) (hd : decode code pcI = .ok (.ifCond .lt o, 3)) (ho : 0 ≤ (pcI : Int) + o) (hT : ((pcI : Int) + o).toNat = pcT) (hF : pcI + 3 = pcF) (gT : a < b → Goes p e below K T m pcT L S) (gF : ¬ a < b → Goes p e below K T m pcF L S) : Goes p e below K T m pc L (.long b :: .long a :: S) :=
  w_lcmp X hd0 hp (w_if_lt X hd ho hT hF (fun q => gT ((lw_lt a b).mp q)) (fun q => gF (fun r => q ((lw_lt a b).mpr r))))
theorem w_icmp_ge (X : Wk p l e R s m args below meth c Z n0 y code ml ret T cells slots h) {a b : Int32} {o : Int} {pcT pcF : Nat} (hd : decode code pc = .ok (.if_icmp .ge o, 3)) (ho : 0 ≤ (pc : Int) + o) (hT : ((pc : Int) + o).toNat = pcT) (hF : pc + 3 = pcF) (gT : ¬ a < b → Goes p e below K T m pcT L S) (gF : a < b → Goes p e below K T m pcF L S) : Goes p e below K T m pc L (.int b :: .int a :: S) := by
  obtain ⟨hx, -, hby, -, -, -, -, -, -, locs, X, -, -⟩ := X
  subst hF
  by_cases q : ¬ a < b
  · obtain ⟨u1, a1, b1⟩ := (gT q)
    exact ⟨u1, XS.icmpYes (g := mkF m pc L (.int b :: .int a :: S)) X.here hx rfl (pc0 := pc) rfl (hb hby hd) rfl (flt q).2.1 ho hT a1, b1⟩
  · obtain ⟨u1, a1, b1⟩ := (gF (Classical.not_not.mp q))
    exact ⟨u1, XS.icmpNo (g := mkF m pc L (.int b :: .int a :: S)) X.here hx rfl (hb hby hd) rfl (tlt (Classical.not_not.mp q)).2.1 a1, b1⟩
theorem w_if_ge (X : Wk p l e R s m args below meth c Z n0 y code ml ret T cells slots h) {a : Int32} {o : Int} {pcT pcF : Nat} (hd : decode code pc = .ok (.ifCond .ge o, 3)) (ho : 0 ≤ (pc : Int) + o) (hT : ((pc : Int) + o).toNat = pcT) (hF : pc + 3 = pcF) (gT : ¬ a < 0 → Goes p e below K T m pcT L S) (gF : a < 0 → Goes p e below K T m pcF L S) : Goes p e below K T m pc L (.int a :: S) := by
  obtain ⟨hx, -, hby, -, -, -, -, -, -, locs, X, -, -⟩ := X
  subst hF
  by_cases q : ¬ a < 0
  · obtain ⟨u1, a1, b1⟩ := (gT q)
    exact ⟨u1, XS.ifYes (g := mkF m pc L (.int a :: S)) X.here hx rfl (pc0 := pc) rfl (hb hby hd) rfl ((if0 _ _).trans (flt q).2.1) ho hT a1, b1⟩
  · obtain ⟨u1, a1, b1⟩ := (gF (Classical.not_not.mp q))
    exact ⟨u1, XS.ifNo (g := mkF m pc L (.int a :: S)) X.here hx rfl (hb hby hd) rfl ((if0 _ _).trans (tlt (Classical.not_not.mp q)).2.1) a1, b1⟩
theorem w_lcmp_ge (X : Wk p l e R s m args below meth c Z n0 y code ml ret T cells slots h) {a b : Int64} {o : Int} {pcI pcT pcF : Nat} (hd0 : decode code pc = .ok (.lcmp, 1)) (hp : pc + 1 = pcI) (hd : decode code pcI = .ok (.ifCond .ge o, 3)) (ho : 0 ≤ (pcI : Int) + o) (hT : ((pcI : Int) + o).toNat = pcT) (hF : pcI + 3 = pcF) (gT : ¬ a < b → Goes p e below K T m pcT L S) (gF : a < b → Goes p e below K T m pcF L S) : Goes p e below K T m pc L (.long b :: .long a :: S) :=
  w_lcmp X hd0 hp (w_if_ge X hd ho hT hF (fun q => gT (fun r => q ((lw_lt a b).mpr r))) (fun q => gF ((lw_lt a b).mp q)))
theorem w_icmp_gt (X : Wk p l e R s m args below meth c Z n0 y code ml ret T cells slots h) {a b : Int32} {o : Int} {pcT pcF : Nat} (hd : decode code pc = .ok (.if_icmp .gt o, 3)) (ho : 0 ≤ (pc : Int) + o) (hT : ((pc : Int) + o).toNat = pcT) (hF : pc + 3 = pcF) (gT : b < a → Goes p e below K T m pcT L S) (gF : ¬ b < a → Goes p e below K T m pcF L S) : Goes p e below K T m pc L (.int b :: .int a :: S) := by
  obtain ⟨hx, -, hby, -, -, -, -, -, -, locs, X, -, -⟩ := X
  subst hF
  by_cases q : b < a
  · obtain ⟨u1, a1, b1⟩ := (gT q)
    exact ⟨u1, XS.icmpYes (g := mkF m pc L (.int b :: .int a :: S)) X.here hx rfl (pc0 := pc) rfl (hb hby hd) rfl (tlt q).2.2.1 ho hT a1, b1⟩
  · obtain ⟨u1, a1, b1⟩ := (gF q)
    exact ⟨u1, XS.icmpNo (g := mkF m pc L (.int b :: .int a :: S)) X.here hx rfl (hb hby hd) rfl (flt q).2.2.1 a1, b1⟩
theorem w_if_gt (X : Wk p l e R s m args below meth c Z n0 y code ml ret T cells slots h) {a : Int32} {o : Int} {pcT pcF : Nat} (hd : decode code pc = .ok (.ifCond .gt o, 3)) (ho : 0 ≤ (pc : Int) + o) (hT : ((pc : Int) + o).toNat = pcT) (hF : pc + 3 = pcF) (gT : 0 < a → Goes p e below K T m pcT L S) (gF : ¬ 0 < a → Goes p e below K T m pcF L S) : Goes p e below K T m pc L (.int a :: S) := by
  obtain ⟨hx, -, hby, -, -, -, -, -, -, locs, X, -, -⟩ := X
  subst hF
  by_cases q : 0 < a
  · obtain ⟨u1, a1, b1⟩ := (gT q)
    exact ⟨u1, XS.ifYes (g := mkF m pc L (.int a :: S)) X.here hx rfl (pc0 := pc) rfl (hb hby hd) rfl ((if0 _ _).trans (tlt q).2.2.1) ho hT a1, b1⟩
  · obtain ⟨u1, a1, b1⟩ := (gF q)
    exact ⟨u1, XS.ifNo (g := mkF m pc L (.int a :: S)) X.here hx rfl (hb hby hd) rfl ((if0 _ _).trans (flt q).2.2.1) a1, b1⟩
theorem w_lcmp_gt (X : Wk p l e R s m args below meth c Z n0 y code ml ret T cells slots h) {a b : Int64} {o : Int} {pcI pcT pcF : Nat} (hd0 : decode code pc = .ok (.lcmp, 1)) (hp : pc + 1 = pcI) (hd : decode code pcI = .ok (.ifCond .gt o, 3)) (ho : 0 ≤ (pcI : Int) + o) (hT : ((pcI : Int) + o).toNat = pcT) (hF : pcI + 3 = pcF) (gT : b < a → Goes p e below K T m pcT L S) (gF : ¬ b < a → Goes p e below K T m pcF L S) : Goes p e below K T m pc L (.long b :: .long a :: S) :=
  w_lcmp X hd0 hp (w_if_gt X hd ho hT hF (fun q => gT ((lw_gt a b).mp q)) (fun q => gF (fun r => q ((lw_gt a b).mpr r))))
theorem w_icmp_le (X : Wk p l e R s m args below meth c Z n0 y code ml ret T cells slots h) {a b : Int32} {o : Int} {pcT pcF : Nat} (hd : decode code pc = .ok (.if_icmp .le o, 3)) (ho : 0 ≤ (pc : Int) + o) (hT : ((pc : Int) + o).toNat = pcT) (hF : pc + 3 = pcF) (gT : ¬ b < a → Goes p e below K T m pcT L S) (gF : b < a → Goes p e below K T m pcF L S) : Goes p e below K T m pc L (.int b :: .int a :: S) := by
  obtain ⟨hx, -, hby, -, -, -, -, -, -, locs, X, -, -⟩ := X
  subst hF
  by_cases q : ¬ b < a
  · obtain ⟨u1, a1, b1⟩ := (gT q)
    exact ⟨u1, XS.icmpYes (g := mkF m pc L (.int b :: .int a :: S)) X.here hx rfl (pc0 := pc) rfl (hb hby hd) rfl (flt q).2.2.2 ho hT a1, b1⟩
  · obtain ⟨u1, a1, b1⟩ := (gF (Classical.not_not.mp q))
    exact ⟨u1, XS.icmpNo (g := mkF m pc L (.int b :: .int a :: S)) X.here hx rfl (hb hby hd) rfl (tlt (Classical.not_not.mp q)).2.2.2 a1, b1⟩
theorem w_if_le (X : Wk p l e R s m args below meth c Z n0 y code ml ret T cells slots h) {a : Int32} {o : Int} {pcT pcF : Nat} (hd : decode code pc = .ok (.ifCond .le o, 3)) (ho : 0 ≤ (pc : Int) + o) (hT : ((pc : Int) + o).toNat = pcT) (hF : pc + 3 = pcF) (gT : ¬ 0 < a → Goes p e below K T m pcT L S) (gF : 0 < a → Goes p e below K T m pcF L S) : Goes p e below K T m pc L (.int a :: S) := by
  obtain ⟨hx, -, hby, -, -, -, -, -, -, locs, X, -, -⟩ := X
  subst hF
  by_cases q : ¬ 0 < a
  · obtain ⟨u1, a1, b1⟩ := (gT q)
    exact ⟨u1, XS.ifYes (g := mkF m pc L (.int a :: S)) X.here hx rfl (pc0 := pc) rfl (hb hby hd) rfl ((if0 _ _).trans (flt q).2.2.2) ho hT a1, b1⟩
  · obtain ⟨u1, a1, b1⟩ := (gF (Classical.not_not.mp q))
    exact ⟨u1, XS.ifNo (g := mkF m pc L (.int a :: S)) X.here hx rfl (hb hby hd) rfl ((if0 _ _).trans (tlt (Classical.not_not.mp q)).2.2.2) a1, b1⟩
theorem w_lcmp_le (X : Wk p l e R s m args below meth c Z n0 y code ml ret T cells slots h) {a b : Int64} {o : Int} {pcI pcT pcF : Nat} (hd0 : decode code pc = .ok (.lcmp, 1)) (hp : pc + 1 = pcI) (hd : decode code pcI = .ok (.ifCond .le o, 3)) (ho : 0 ≤ (pcI : Int) + o) (hT : ((pcI : Int) + o).toNat = pcT) (hF : pcI + 3 = pcF) (gT : ¬ b < a → Goes p e below K T m pcT L S) (gF : b < a → Goes p e below K T m pcF L S) : Goes p e below K T m pc L (.long b :: .long a :: S) :=
  w_lcmp X hd0 hp (w_if_le X hd ho hT hF (fun q => gT (fun r => q ((lw_gt a b).mpr r))) (fun q => gF ((lw_gt a b).mp q)))
theorem w_icmp_eq (X : Wk p l e R s m args below meth c Z n0 y code ml ret T cells slots h) {a b : Int32} {o : Int} {pcT pcF : Nat} (hd : decode code pc = .ok (.if_icmp .eq o, 3)) (ho : 0 ≤ (pc : Int) + o) (hT : ((pc : Int) + o).toNat = pcT) (hF : pc + 3 = pcF) (gT : a = b → Goes p e below K T m pcT L S) (gF : ¬ a = b → Goes p e below K T m pcF L S) : Goes p e below K T m pc L (.int b :: .int a :: S) := by
  obtain ⟨hx, -, hby, -, -, -, -, -, -, locs, X, -, -⟩ := X
  subst hF
  by_cases q : a = b
  · obtain ⟨u1, a1, b1⟩ := (gT q)
    exact ⟨u1, XS.icmpYes (g := mkF m pc L (.int b :: .int a :: S)) X.here hx rfl (pc0 := pc) rfl (hb hby hd) rfl (teq q).1 ho hT a1, b1⟩
  · obtain ⟨u1, a1, b1⟩ := (gF q)
    exact ⟨u1, XS.icmpNo (g := mkF m pc L (.int b :: .int a :: S)) X.here hx rfl (hb hby hd) rfl (feq q).1 a1, b1⟩
theorem w_if_eq (X : Wk p l e R s m args below meth c Z n0 y code ml ret T cells slots h) {a : Int32} {o : Int} {pcT pcF : Nat} (hd : decode code pc = .ok (.ifCond .eq o, 3)) (ho : 0 ≤ (pc : Int) + o) (hT : ((pc : Int) + o).toNat = pcT) (hF : pc + 3 = pcF) (gT : a = 0 → Goes p e below K T m pcT L S) (gF : ¬ a = 0 → Goes p e below K T m pcF L S) : Goes p e below K T m pc L (.int a :: S) := by
  obtain ⟨hx, -, hby, -, -, -, -, -, -, locs, X, -, -⟩ := X
  subst hF
  by_cases q : a = 0
  · obtain ⟨u1, a1, b1⟩ := (gT q)
    exact ⟨u1, XS.ifYes (g := mkF m pc L (.int a :: S)) X.here hx rfl (pc0 := pc) rfl (hb hby hd) rfl ((if0 _ _).trans (teq q).1) ho hT a1, b1⟩
  · obtain ⟨u1, a1, b1⟩ := (gF q)
    exact ⟨u1, XS.ifNo (g := mkF m pc L (.int a :: S)) X.here hx rfl (hb hby hd) rfl ((if0 _ _).trans (feq q).1) a1, b1⟩
theorem w_lcmp_eq (X : Wk p l e R s m args below meth c Z n0 y code ml ret T cells slots h) {a b : Int64} {o : Int} {pcI pcT pcF : Nat} (hd0 : decode code pc = .ok (.lcmp, 1)) (hp : pc + 1 = pcI) (hd : decode code pcI = .ok (.ifCond .eq o, 3)) (ho : 0 ≤ (pcI : Int) + o) (hT : ((pcI : Int) + o).toNat = pcT) (hF : pcI + 3 = pcF) (gT : a = b → Goes p e below K T m pcT L S) (gF : ¬ a = b → Goes p e below K T m pcF L S) : Goes p e below K T m pc L (.long b :: .long a :: S) :=
  w_lcmp X hd0 hp (w_if_eq X hd ho hT hF (fun q => gT ((lw_eq a b).mp q)) (fun q => gF (fun r => q ((lw_eq a b).mpr r))))
theorem w_icmp_ne (X : Wk p l e R s m args below meth c Z n0 y code ml ret T cells slots h) {a b : Int32} {o : Int} {pcT pcF : Nat} (hd : decode code pc = .ok (.if_icmp .ne o, 3)) (ho : 0 ≤ (pc : Int) + o) (hT : ((pc : Int) + o).toNat = pcT) (hF : pc + 3 = pcF) (gT : ¬ a = b → Goes p e below K T m pcT L S) (gF : a = b → Goes p e below K T m pcF L S) : Goes p e below K T m pc L (.int b :: .int a :: S) := by
  obtain ⟨hx, -, hby, -, -, -, -, -, -, locs, X, -, -⟩ := X
  subst hF
  by_cases q : ¬ a = b
  · obtain ⟨u1, a1, b1⟩ := (gT q)
    exact ⟨u1, XS.icmpYes (g := mkF m pc L (.int b :: .int a :: S)) X.here hx rfl (pc0 := pc) rfl (hb hby hd) rfl (feq q).2 ho hT a1, b1⟩
  · obtain ⟨u1, a1, b1⟩ := (gF (Classical.not_not.mp q))
    exact ⟨u1, XS.icmpNo (g := mkF m pc L (.int b :: .int a :: S)) X.here hx rfl (hb hby hd) rfl (teq (Classical.not_not.mp q)).2 a1, b1⟩
theorem w_if_ne (X : Wk p l e R s m args below meth c Z n0 y code ml ret T cells slots h) {a : Int32} {o : Int} {pcT pcF : Nat} (hd : decode code pc = .ok (.ifCond .ne o, 3)) (ho : 0 ≤ (pc : Int) + o) (hT : ((pc : Int) + o).toNat = pcT) (hF : pc + 3 = pcF) (gT : ¬ a = 0 → Goes p e below K T m pcT L S) (gF : a = 0 → Goes p e below K T m pcF L S) : Goes p e below K T m pc L (.int a :: S) := by
  obtain ⟨hx, -, hby, -, -, -, -, -, -, locs, X, -, -⟩ := X
  subst hF
  by_cases q : ¬ a = 0
  · obtain ⟨u1, a1, b1⟩ := (gT q)
    exact ⟨u1, XS.ifYes (g := mkF m pc L (.int a :: S)) X.here hx rfl (pc0 := pc) rfl (hb hby hd) rfl ((if0 _ _).trans (feq q).2) ho hT a1, b1⟩
  · obtain ⟨u1, a1, b1⟩ := (gF (Classical.not_not.mp q))
    exact ⟨u1, XS.ifNo (g := mkF m pc L (.int a :: S)) X.here hx rfl (hb hby hd) rfl ((if0 _ _).trans (teq (Classical.not_not.mp q)).2) a1, b1⟩
theorem w_lcmp_ne (X : Wk p l e R s m args below meth c Z n0 y code ml ret T cells slots h) {a b : Int64} {o : Int} {pcI pcT pcF : Nat} (hd0 : decode code pc = .ok (.lcmp, 1)) (hp : pc + 1 = pcI) (hd : decode code pcI = .ok (.ifCond .ne o, 3)) (ho : 0 ≤ (pcI : Int) + o) (hT : ((pcI : Int) + o).toNat = pcT) (hF : pcI + 3 = pcF) (gT : ¬ a = b → Goes p e below K T m pcT L S) (gF : a = b → Goes p e below K T m pcF L S) : Goes p e below K T m pc L (.long b :: .long a :: S) :=
  w_lcmp X hd0 hp (w_if_ne X hd ho hT hF (fun q => gT (fun r => q ((lw_eq a b).mpr r))) (fun q => gF ((lw_eq a b).mp q)))
-- returns
theorem w_ireturn (X : Wk p l e R s m args below meth c Z n0 y code ml (some .int) T cells slots h) {w : Option Value} {Q : Heap → Prop} {z : Int32} (hd : decode code pc = .ok (.ireturn, 1)) (hw : w = some (.int z)) (hq : Q h) (hc : cells ≤ R.cells) (hs : slots ≤ R.slots) : Goes p e below (Done below s n0 R w Q) T m pc L (.int z :: S) := by
  obtain ⟨hx, hZ, hby, hml, hown, hnm, hret, hlk, hn, locs, X, eT, N⟩ := X
  obtain ⟨fs, hr, hrun, hended, hW, hsame⟩ := X.leave (v := some (.int z)) (fun h => by rw [hret] at h; cases h) hlk
  exact ⟨_, Jvm.RoadKit.retI X hx hret (hb hby hd) hr, _, hrun, hended, _, locs, rfl, ⟨hw.symm, (by show Q T.heap; rw [eT]; exact hq), N, (by show n0 ≤ T.heap.size; rw [eT]; exact hn)⟩, ⟨_, rfl⟩, hW, hsame.mono hc hs⟩
theorem w_nreturn {t : FieldType} (X : Wk p l e R s m args below meth c Z n0 y code ml (some t) T cells slots h) {w : Option Value} {Q : Heap → Prop} {z : Int32} (ht : t = .boolean ∨ t = .byte ∨ t = .char ∨ t = .short) (hd : decode code pc = .ok (.ireturn, 1)) (hw : w = some (.int (nar t z))) (hq : Q h) (hc : cells ≤ R.cells) (hs : slots ≤ R.slots) : Goes p e below (Done below s n0 R w Q) T m pc L (.int z :: S) := by
  obtain ⟨hx, hZ, hby, hml, hown, hnm, hret, hlk, hn, locs, X, eT, N⟩ := X
  obtain ⟨fs, hr, hrun, hended, hW, hsame⟩ := X.leave (v := some (.int (nar t z))) (fun h => by rw [hret] at h; cases h) hlk
  exact ⟨_, retN X hx hret ht (hb hby hd) hr, _, hrun, hended, _, locs, rfl, ⟨hw.symm, (by show Q T.heap; rw [eT]; exact hq), N, (by show n0 ≤ T.heap.size; rw [eT]; exact hn)⟩, ⟨_, rfl⟩, hW, hsame.mono hc hs⟩
theorem w_lreturn (X : Wk p l e R s m args below meth c Z n0 y code ml (some .long) T cells slots h) {w : Option Value} {Q : Heap → Prop} {z : Int64} (hd : decode code pc = .ok (.lreturn, 1)) (hw : w = some (.long z)) (hq : Q h) (hc : cells ≤ R.cells) (hs : slots ≤ R.slots) : Goes p e below (Done below s n0 R w Q) T m pc L [.long z] := by
  obtain ⟨hx, hZ, hby, hml, hown, hnm, hret, hlk, hn, locs, X, eT, N⟩ := X
  obtain ⟨fs, hr, hrun, hended, hW, hsame⟩ := X.leave (v := some (.long z)) (fun h => by rw [hret] at h; cases h) hlk
  exact ⟨_, X.lreturnOut hx hret (hb hby hd) hr, _, hrun, hended, _, locs, rfl, ⟨hw.symm, (by show Q T.heap; rw [eT]; exact hq), N, (by show n0 ≤ T.heap.size; rw [eT]; exact hn)⟩, ⟨_, rfl⟩, hW, hsame.mono hc hs⟩
theorem w_return (X : Wk p l e R s m args below meth c Z n0 y code ml none T cells slots h) {w : Option Value} {Q : Heap → Prop} (hd : decode code pc = .ok (.return_, 1)) (hw : w = none) (hq : Q h) (hc : cells ≤ R.cells) (hs : slots ≤ R.slots) : Goes p e below (Done below s n0 R w Q) T m pc L [] := by
  obtain ⟨hx, hZ, hby, hml, hown, hnm, hret, hlk, hn, locs, X, eT, N⟩ := X
  obtain ⟨fs, hr, hrun, hended, hW, hsame⟩ := X.leave (v := none) (fun _ => rfl) hlk
  exact ⟨_, X.returnOut hx hret (hb hby hd) hr, _, hrun, hended, _, locs, rfl, ⟨hw.symm, (by show Q T.heap; rw [eT]; exact hq), N, (by show n0 ≤ T.heap.size; rw [eT]; exact hn)⟩, ⟨_, rfl⟩, hW, hsame.mono hc hs⟩
-- calls
theorem w_static (X : Wk p l e R s m args below meth c Z n0 y code ml ret T cells slots h) {idx : Nat} {y' : MethodName} {bytes : ByteArray} {maxL : Nat} {ret' : Option FieldType} {R' : Room} {w' : Option Value} {Q' : Heap → Prop} {argsL rest : List Value} {W : Nat}
    (hM : Con l Z y' bytes maxL ret' R' argsL.toArray h n0 w' Q') (w1 : (Jvm.Cond.methodLink y.cls idx y').before a0 Z = true) (w2 : (Jvm.Cond.static y').before a0 Z = true) (w3 : (Jvm.Cond.initialized y'.cls).before a0 Z = true) (w4 : (Jvm.Cond.code y' bytes maxL ret').before a0 Z = true)
    (hy : y'.cls ≠ "java/lang/invoke/MethodHandle" ∧ y'.cls ≠ "java/lang/invoke/VarHandle") (hst : S = argsL.reverse ++ rest) (hlen : ∀ sig, parseMethodDescriptor y'.desc = some sig → argsL.length = sig.parameters.length) (hsz : L.size = ml) (hW : (rest.map fun v => v.category).sum = W) (hf : R'.frames + 1 ≤ R.frames) (hl : W + (maxL + 11) + R'.locals ≤ R.locals)
    (hc : cells + R'.cells ≤ R.cells) (hs : slots + R'.slots ≤ R.slots) (hd : decode code pc = .ok (.invokestatic idx, 3)) (hp : pc + 3 = pc')
    (g : ∀ T' h', Wk p l e R s m args below meth c Z n0 y code ml ret T' (cells + R'.cells) (slots + R'.slots) h' → Q' h' → Goes p e below K T' m pc' L (w'.toList ++ rest)) : Goes p e below K T m pc L S := by
  obtain ⟨hx, hZ, hby, hml, hown, hnm, hret, hlk, hn, locs, X, eT, N⟩ := X
  subst hp hW
  obtain ⟨_, _, ⟨T1, L1, k1, n1⟩, -, X1, ⟨Lc, hQ, l1, y1, z1⟩, st⟩ := Jvm.LawKit.callS X hx (y := y') hown (mvT hZ w1) (mvT hZ w2) (mvT hZ w3) (mvT hZ w4) hy (backOf (W := (rest.map fun v => v.category).sum) (hM []) hZ w4 w3 hf hl) (g := mkF m pc L S) rfl (by rw [hml]; exact hsz) (argsL := argsL) (rest := rest) hlen hst (by show 2 * 0 + _ ≤ _; omega) (hb hby hd) (fun _ _ => ⟨rfl, eT, hc, hs⟩)
  dsimp only [Pt.U, Pt.locs, Pt.cells, Pt.slots] at X1 l1 y1 z1 st hQ
  subst l1 y1 z1
  obtain ⟨rfl, hQ', N', hn'⟩ := hQ
  obtain ⟨u1, a1, b1⟩ := g _ _ ⟨hx, hZ, hby, hml, hown, hnm, hret, hlk, hn', _, X1, rfl, N.app N'⟩ hQ'
  exact ⟨u1, st _ a1, b1⟩
theorem w_staticV (X : Wk p l e R s m args below meth c Z n0 y code ml ret T cells slots h) {idx : Nat} {y' : MethodName} {bytes : ByteArray} {maxL : Nat} {ret' : Option FieldType} {R' : Room} {v' : Value} {Q' : Heap → Prop} {argsL rest : List Value} {W : Nat}
    (hM : Con l Z y' bytes maxL ret' R' argsL.toArray h n0 (some v') Q') (w1 : (Jvm.Cond.methodLink y.cls idx y').before a0 Z = true) (w2 : (Jvm.Cond.static y').before a0 Z = true) (w3 : (Jvm.Cond.initialized y'.cls).before a0 Z = true) (w4 : (Jvm.Cond.code y' bytes maxL ret').before a0 Z = true)
    (hy : y'.cls ≠ "java/lang/invoke/MethodHandle" ∧ y'.cls ≠ "java/lang/invoke/VarHandle") (hst : S = argsL.reverse ++ rest) (hlen : ∀ sig, parseMethodDescriptor y'.desc = some sig → argsL.length = sig.parameters.length) (hsz : L.size = ml) (hW : (rest.map fun v => v.category).sum = W) (hf : R'.frames + 1 ≤ R.frames) (hl : W + (maxL + 11) + R'.locals ≤ R.locals)
    (hc : cells + R'.cells ≤ R.cells) (hs : slots + R'.slots ≤ R.slots) (hd : decode code pc = .ok (.invokestatic idx, 3)) (hp : pc + 3 = pc')
    (g : ∀ T' h', Wk p l e R s m args below meth c Z n0 y code ml ret T' (cells + R'.cells) (slots + R'.slots) h' → Q' h' → Goes p e below K T' m pc' L (v' :: rest)) : Goes p e below K T m pc L S := w_static X hM w1 w2 w3 w4 hy hst hlen hsz hW hf hl hc hs hd hp g
theorem w_staticVP (X : Wk p l e R s m args below meth c Z n0 y code ml ret T cells slots h) {idx : Nat} {y' : MethodName} {bytes : ByteArray} {maxL : Nat} {ret' : Option FieldType} {R' : Room} {v' : Value} {argsL rest : List Value} {W : Nat}
    (hM : Con l Z y' bytes maxL ret' R' argsL.toArray h n0 (some v') (fun h' => h' = h)) (w1 : (Jvm.Cond.methodLink y.cls idx y').before a0 Z = true) (w2 : (Jvm.Cond.static y').before a0 Z = true) (w3 : (Jvm.Cond.initialized y'.cls).before a0 Z = true) (w4 : (Jvm.Cond.code y' bytes maxL ret').before a0 Z = true)
    (hy : y'.cls ≠ "java/lang/invoke/MethodHandle" ∧ y'.cls ≠ "java/lang/invoke/VarHandle") (hst : S = argsL.reverse ++ rest) (hlen : ∀ sig, parseMethodDescriptor y'.desc = some sig → argsL.length = sig.parameters.length) (hsz : L.size = ml) (hW : (rest.map fun v => v.category).sum = W) (hf : R'.frames + 1 ≤ R.frames) (hl : W + (maxL + 11) + R'.locals ≤ R.locals)
    (hc : cells + R'.cells ≤ R.cells) (hs : slots + R'.slots ≤ R.slots) (hd : decode code pc = .ok (.invokestatic idx, 3)) (hp : pc + 3 = pc')
    (g : ∀ T', Wk p l e R s m args below meth c Z n0 y code ml ret T' (cells + R'.cells) (slots + R'.slots) h → Goes p e below K T' m pc' L (v' :: rest)) : Goes p e below K T m pc L S := w_staticV X hM w1 w2 w3 w4 hy hst hlen hsz hW hf hl hc hs hd hp (fun T' h' X' q => by subst q; exact g T' X')
theorem w_static0 (X : Wk p l e R s m args below meth c Z n0 y code ml ret T cells slots h) {idx : Nat} {y' : MethodName} {bytes : ByteArray} {maxL : Nat} {ret' : Option FieldType} {R' : Room} {Q' : Heap → Prop} {argsL rest : List Value} {W : Nat}
    (hM : Con l Z y' bytes maxL ret' R' argsL.toArray h n0 none Q') (w1 : (Jvm.Cond.methodLink y.cls idx y').before a0 Z = true) (w2 : (Jvm.Cond.static y').before a0 Z = true) (w3 : (Jvm.Cond.initialized y'.cls).before a0 Z = true) (w4 : (Jvm.Cond.code y' bytes maxL ret').before a0 Z = true)
    (hy : y'.cls ≠ "java/lang/invoke/MethodHandle" ∧ y'.cls ≠ "java/lang/invoke/VarHandle") (hst : S = argsL.reverse ++ rest) (hlen : ∀ sig, parseMethodDescriptor y'.desc = some sig → argsL.length = sig.parameters.length) (hsz : L.size = ml) (hW : (rest.map fun v => v.category).sum = W) (hf : R'.frames + 1 ≤ R.frames) (hl : W + (maxL + 11) + R'.locals ≤ R.locals)
    (hc : cells + R'.cells ≤ R.cells) (hs : slots + R'.slots ≤ R.slots) (hd : decode code pc = .ok (.invokestatic idx, 3)) (hp : pc + 3 = pc')
    (g : ∀ T' h', Wk p l e R s m args below meth c Z n0 y code ml ret T' (cells + R'.cells) (slots + R'.slots) h' → Q' h' → Goes p e below K T' m pc' L rest) : Goes p e below K T m pc L S := w_static X hM w1 w2 w3 w4 hy hst hlen hsz hW hf hl hc hs hd hp g
theorem w_static0P (X : Wk p l e R s m args below meth c Z n0 y code ml ret T cells slots h) {idx : Nat} {y' : MethodName} {bytes : ByteArray} {maxL : Nat} {ret' : Option FieldType} {R' : Room} {argsL rest : List Value} {W : Nat}
    (hM : Con l Z y' bytes maxL ret' R' argsL.toArray h n0 none (fun h' => h' = h)) (w1 : (Jvm.Cond.methodLink y.cls idx y').before a0 Z = true) (w2 : (Jvm.Cond.static y').before a0 Z = true) (w3 : (Jvm.Cond.initialized y'.cls).before a0 Z = true) (w4 : (Jvm.Cond.code y' bytes maxL ret').before a0 Z = true)
    (hy : y'.cls ≠ "java/lang/invoke/MethodHandle" ∧ y'.cls ≠ "java/lang/invoke/VarHandle") (hst : S = argsL.reverse ++ rest) (hlen : ∀ sig, parseMethodDescriptor y'.desc = some sig → argsL.length = sig.parameters.length) (hsz : L.size = ml) (hW : (rest.map fun v => v.category).sum = W) (hf : R'.frames + 1 ≤ R.frames) (hl : W + (maxL + 11) + R'.locals ≤ R.locals)
    (hc : cells + R'.cells ≤ R.cells) (hs : slots + R'.slots ≤ R.slots) (hd : decode code pc = .ok (.invokestatic idx, 3)) (hp : pc + 3 = pc')
    (g : ∀ T', Wk p l e R s m args below meth c Z n0 y code ml ret T' (cells + R'.cells) (slots + R'.slots) h → Goes p e below K T' m pc' L rest) : Goes p e below K T m pc L S := w_static0 X hM w1 w2 w3 w4 hy hst hlen hsz hW hf hl hc hs hd hp (fun T' h' X' q => by subst q; exact g T' X')
theorem w_special (X : Wk p l e R s m args below meth c Z n0 y code ml ret T cells slots h) {idx : Nat} {y' : MethodName} {bytes : ByteArray} {maxL : Nat} {R' : Room} {w' : Option Value} {Q' : Heap → Prop} {a : Addr} {argsL rest : List Value} {W : Nat}
    (hM : Con l Z y' bytes maxL none R' (.ref a :: argsL).toArray h n0 w' Q') (hi : y'.name = "<init>") (w1 : (Jvm.Cond.methodLink y.cls idx y').before a0 Z = true) (w2 : (Jvm.Cond.instanceMethod y').before a0 Z = true) (w3 : (Jvm.Cond.initialized y'.cls).before a0 Z = true) (w4 : (Jvm.Cond.code y' bytes maxL none).before a0 Z = true)
    (hy : y'.cls ≠ "java/lang/invoke/MethodHandle" ∧ y'.cls ≠ "java/lang/invoke/VarHandle") (hst : S = argsL.reverse ++ .ref a :: rest) (hlen : ∀ sig, parseMethodDescriptor y'.desc = some sig → argsL.length = sig.parameters.length) (hsz : L.size = ml) (hW : (rest.map fun v => v.category).sum = W) (hf : R'.frames + 1 ≤ R.frames) (hl : W + (maxL + 11) + R'.locals ≤ R.locals)
    (hc : cells + R'.cells ≤ R.cells) (hs : slots + R'.slots ≤ R.slots) (hd : decode code pc = .ok (.invokespecial idx, 3)) (hp : pc + 3 = pc')
    (g : ∀ T' h', Wk p l e R s m args below meth c Z n0 y code ml ret T' (cells + R'.cells) (slots + R'.slots) h' → Q' h' → Goes p e below K T' m pc' L (w'.toList ++ rest)) : Goes p e below K T m pc L S := by
  obtain ⟨hx, hZ, hby, hml, hown, hnm, hret, hlk, hn, locs, X, eT, N⟩ := X
  subst hp hW
  obtain ⟨_, _, ⟨T1, L1, k1, n1⟩, -, X1, ⟨Lc, hQ, l1, y1, z1⟩, st⟩ := X.specialBack hx (y := y') hi hown (mvT hZ w1) (mvT hZ w2) (mvT hZ w4) hy (backOf (W := (rest.map fun v => v.category).sum) (hM []) hZ w4 w3 hf hl) (g := mkF m pc L S) rfl (by rw [hml]; exact hsz) (Steps.refl _) (a := a) (argsL := argsL) (rest := rest) hlen hst (by show 2 * 0 + _ ≤ _; omega) (hb hby hd) (fun _ _ => ⟨rfl, eT, hc, hs⟩)
  dsimp only [Pt.U, Pt.locs, Pt.cells, Pt.slots] at X1 l1 y1 z1 st hQ
  subst l1 y1 z1
  obtain ⟨rfl, hQ', N', hn'⟩ := hQ
  obtain ⟨u1, a1, b1⟩ := g _ _ ⟨hx, hZ, hby, hml, hown, hnm, hret, hlk, hn', _, X1, rfl, N.app N'⟩ hQ'
  exact ⟨u1, st.trans a1, b1⟩
theorem w_special0 (X : Wk p l e R s m args below meth c Z n0 y code ml ret T cells slots h) {idx : Nat} {y' : MethodName} {bytes : ByteArray} {maxL : Nat} {R' : Room} {Q' : Heap → Prop} {a : Addr} {argsL rest : List Value} {W : Nat}
    (hM : Con l Z y' bytes maxL none R' (.ref a :: argsL).toArray h n0 none Q') (hi : y'.name = "<init>") (w1 : (Jvm.Cond.methodLink y.cls idx y').before a0 Z = true) (w2 : (Jvm.Cond.instanceMethod y').before a0 Z = true) (w3 : (Jvm.Cond.initialized y'.cls).before a0 Z = true) (w4 : (Jvm.Cond.code y' bytes maxL none).before a0 Z = true)
    (hy : y'.cls ≠ "java/lang/invoke/MethodHandle" ∧ y'.cls ≠ "java/lang/invoke/VarHandle") (hst : S = argsL.reverse ++ .ref a :: rest) (hlen : ∀ sig, parseMethodDescriptor y'.desc = some sig → argsL.length = sig.parameters.length) (hsz : L.size = ml) (hW : (rest.map fun v => v.category).sum = W) (hf : R'.frames + 1 ≤ R.frames) (hl : W + (maxL + 11) + R'.locals ≤ R.locals)
    (hc : cells + R'.cells ≤ R.cells) (hs : slots + R'.slots ≤ R.slots) (hd : decode code pc = .ok (.invokespecial idx, 3)) (hp : pc + 3 = pc')
    (g : ∀ T' h', Wk p l e R s m args below meth c Z n0 y code ml ret T' (cells + R'.cells) (slots + R'.slots) h' → Q' h' → Goes p e below K T' m pc' L rest) : Goes p e below K T m pc L S := w_special X hM hi w1 w2 w3 w4 hy hst hlen hsz hW hf hl hc hs hd hp g
theorem w_special0P (X : Wk p l e R s m args below meth c Z n0 y code ml ret T cells slots h) {idx : Nat} {y' : MethodName} {bytes : ByteArray} {maxL : Nat} {R' : Room} {a : Addr} {argsL rest : List Value} {W : Nat}
    (hM : Con l Z y' bytes maxL none R' (.ref a :: argsL).toArray h n0 none (fun h' => h' = h)) (hi : y'.name = "<init>") (w1 : (Jvm.Cond.methodLink y.cls idx y').before a0 Z = true) (w2 : (Jvm.Cond.instanceMethod y').before a0 Z = true) (w3 : (Jvm.Cond.initialized y'.cls).before a0 Z = true) (w4 : (Jvm.Cond.code y' bytes maxL none).before a0 Z = true)
    (hy : y'.cls ≠ "java/lang/invoke/MethodHandle" ∧ y'.cls ≠ "java/lang/invoke/VarHandle") (hst : S = argsL.reverse ++ .ref a :: rest) (hlen : ∀ sig, parseMethodDescriptor y'.desc = some sig → argsL.length = sig.parameters.length) (hsz : L.size = ml) (hW : (rest.map fun v => v.category).sum = W) (hf : R'.frames + 1 ≤ R.frames) (hl : W + (maxL + 11) + R'.locals ≤ R.locals)
    (hc : cells + R'.cells ≤ R.cells) (hs : slots + R'.slots ≤ R.slots) (hd : decode code pc = .ok (.invokespecial idx, 3)) (hp : pc + 3 = pc')
    (g : ∀ T', Wk p l e R s m args below meth c Z n0 y code ml ret T' (cells + R'.cells) (slots + R'.slots) h → Goes p e below K T' m pc' L rest) : Goes p e below K T m pc L S := w_special0 X hM hi w1 w2 w3 w4 hy hst hlen hsz hW hf hl hc hs hd hp (fun T' h' X' q => by subst q; exact g T' X')
theorem w_virtual (X : Wk p l e R s m args below meth c Z n0 y code ml ret T cells slots h) {idx : Nat} {C : String} {y' : MethodName} {bytes : ByteArray} {maxL : Nat} {ret' : Option FieldType} {R' : Room} {w' : Option Value} {Q' : Heap → Prop} {a : Addr} {argsL rest : List Value} {W : Nat}
    (hM : Con l Z y' bytes maxL ret' R' (.ref a :: argsL).toArray h n0 w' Q') (E : Exa Z h a C) (w1 : (Jvm.Cond.methodLink y.cls idx y').before a0 Z = true) (w2 : (Jvm.Cond.declares y').before a0 Z = true) (w5 : (Jvm.Cond.selects C y' y').before a0 Z = true) (w6 : (Jvm.Cond.instanceMethod y').before a0 Z = true) (w3 : (Jvm.Cond.initialized y'.cls).before a0 Z = true) (w4 : (Jvm.Cond.code y' bytes maxL ret').before a0 Z = true)
    (hy : y'.cls ≠ "java/lang/invoke/MethodHandle" ∧ y'.cls ≠ "java/lang/invoke/VarHandle") (hst : S = argsL.reverse ++ .ref a :: rest) (hlen : ∀ sig, parseMethodDescriptor y'.desc = some sig → argsL.length = sig.parameters.length) (hsz : L.size = ml) (hW : (rest.map fun v => v.category).sum = W) (hf : R'.frames + 1 ≤ R.frames) (hl : W + (maxL + 11) + R'.locals ≤ R.locals)
    (hc : cells + R'.cells ≤ R.cells) (hs : slots + R'.slots ≤ R.slots) (hd : decode code pc = .ok (.invokevirtual idx, 3)) (hp : pc + 3 = pc')
    (g : ∀ T' h', Wk p l e R s m args below meth c Z n0 y code ml ret T' (cells + R'.cells) (slots + R'.slots) h' → Q' h' → Goes p e below K T' m pc' L (w'.toList ++ rest)) : Goes p e below K T m pc L S := by
  obtain ⟨hx, hZ, hby, hml, hown, hnm, hret, hlk, hn, locs, X, eT, N⟩ := X
  subst hp hW
  obtain ⟨cq, kq, qa, qb, qc⟩ := isOf hZ eT E
  obtain ⟨_, _, ⟨T1, L1, k1, n1⟩, -, X1, ⟨Lc, hQ, l1, y1, z1⟩, st⟩ := X.virtualBack hx (y := y') (z := y') hown (mvT hZ w1) (mvT hZ w2) (notFace_of_selects (args := #[]) (mvT hZ w5)) (mvT hZ w5) (mvT hZ w6) hy (backOf (W := (rest.map fun v => v.category).sum) (hM []) hZ w4 w3 hf hl) qa qc (g := mkF m pc L S) rfl (by rw [hml]; exact hsz) (Steps.refl _) (argsL := argsL) (rest := rest) hlen hst (by show 2 * 0 + _ ≤ _; omega) (hb hby hd) (fun _ _ => ⟨rfl, eT, hc, hs⟩)
  dsimp only [Pt.U, Pt.locs, Pt.cells, Pt.slots] at X1 l1 y1 z1 st hQ
  subst l1 y1 z1
  obtain ⟨rfl, hQ', N', hn'⟩ := hQ
  obtain ⟨u1, a1, b1⟩ := g _ _ ⟨hx, hZ, hby, hml, hown, hnm, hret, hlk, hn', _, X1, rfl, N.app N'⟩ hQ'
  exact ⟨u1, st.trans a1, b1⟩
theorem w_virtualV (X : Wk p l e R s m args below meth c Z n0 y code ml ret T cells slots h) {idx : Nat} {C : String} {y' : MethodName} {bytes : ByteArray} {maxL : Nat} {ret' : Option FieldType} {R' : Room} {v' : Value} {Q' : Heap → Prop} {a : Addr} {argsL rest : List Value} {W : Nat}
    (hM : Con l Z y' bytes maxL ret' R' (.ref a :: argsL).toArray h n0 (some v') Q') (E : Exa Z h a C) (w1 : (Jvm.Cond.methodLink y.cls idx y').before a0 Z = true) (w2 : (Jvm.Cond.declares y').before a0 Z = true) (w5 : (Jvm.Cond.selects C y' y').before a0 Z = true) (w6 : (Jvm.Cond.instanceMethod y').before a0 Z = true) (w3 : (Jvm.Cond.initialized y'.cls).before a0 Z = true) (w4 : (Jvm.Cond.code y' bytes maxL ret').before a0 Z = true)
    (hy : y'.cls ≠ "java/lang/invoke/MethodHandle" ∧ y'.cls ≠ "java/lang/invoke/VarHandle") (hst : S = argsL.reverse ++ .ref a :: rest) (hlen : ∀ sig, parseMethodDescriptor y'.desc = some sig → argsL.length = sig.parameters.length) (hsz : L.size = ml) (hW : (rest.map fun v => v.category).sum = W) (hf : R'.frames + 1 ≤ R.frames) (hl : W + (maxL + 11) + R'.locals ≤ R.locals)
    (hc : cells + R'.cells ≤ R.cells) (hs : slots + R'.slots ≤ R.slots) (hd : decode code pc = .ok (.invokevirtual idx, 3)) (hp : pc + 3 = pc')
    (g : ∀ T' h', Wk p l e R s m args below meth c Z n0 y code ml ret T' (cells + R'.cells) (slots + R'.slots) h' → Q' h' → Goes p e below K T' m pc' L (v' :: rest)) : Goes p e below K T m pc L S := w_virtual X hM E w1 w2 w5 w6 w3 w4 hy hst hlen hsz hW hf hl hc hs hd hp g
theorem w_virtualVP (X : Wk p l e R s m args below meth c Z n0 y code ml ret T cells slots h) {idx : Nat} {C : String} {y' : MethodName} {bytes : ByteArray} {maxL : Nat} {ret' : Option FieldType} {R' : Room} {v' : Value} {a : Addr} {argsL rest : List Value} {W : Nat}
    (hM : Con l Z y' bytes maxL ret' R' (.ref a :: argsL).toArray h n0 (some v') (fun h' => h' = h)) (E : Exa Z h a C) (w1 : (Jvm.Cond.methodLink y.cls idx y').before a0 Z = true) (w2 : (Jvm.Cond.declares y').before a0 Z = true) (w5 : (Jvm.Cond.selects C y' y').before a0 Z = true) (w6 : (Jvm.Cond.instanceMethod y').before a0 Z = true) (w3 : (Jvm.Cond.initialized y'.cls).before a0 Z = true) (w4 : (Jvm.Cond.code y' bytes maxL ret').before a0 Z = true)
    (hy : y'.cls ≠ "java/lang/invoke/MethodHandle" ∧ y'.cls ≠ "java/lang/invoke/VarHandle") (hst : S = argsL.reverse ++ .ref a :: rest) (hlen : ∀ sig, parseMethodDescriptor y'.desc = some sig → argsL.length = sig.parameters.length) (hsz : L.size = ml) (hW : (rest.map fun v => v.category).sum = W) (hf : R'.frames + 1 ≤ R.frames) (hl : W + (maxL + 11) + R'.locals ≤ R.locals)
    (hc : cells + R'.cells ≤ R.cells) (hs : slots + R'.slots ≤ R.slots) (hd : decode code pc = .ok (.invokevirtual idx, 3)) (hp : pc + 3 = pc')
    (g : ∀ T', Wk p l e R s m args below meth c Z n0 y code ml ret T' (cells + R'.cells) (slots + R'.slots) h → Goes p e below K T' m pc' L (v' :: rest)) : Goes p e below K T m pc L S := w_virtualV X hM E w1 w2 w5 w6 w3 w4 hy hst hlen hsz hW hf hl hc hs hd hp (fun T' h' X' q => by subst q; exact g T' X')
theorem w_virtual0 (X : Wk p l e R s m args below meth c Z n0 y code ml ret T cells slots h) {idx : Nat} {C : String} {y' : MethodName} {bytes : ByteArray} {maxL : Nat} {ret' : Option FieldType} {R' : Room} {Q' : Heap → Prop} {a : Addr} {argsL rest : List Value} {W : Nat}
    (hM : Con l Z y' bytes maxL ret' R' (.ref a :: argsL).toArray h n0 none Q') (E : Exa Z h a C) (w1 : (Jvm.Cond.methodLink y.cls idx y').before a0 Z = true) (w2 : (Jvm.Cond.declares y').before a0 Z = true) (w5 : (Jvm.Cond.selects C y' y').before a0 Z = true) (w6 : (Jvm.Cond.instanceMethod y').before a0 Z = true) (w3 : (Jvm.Cond.initialized y'.cls).before a0 Z = true) (w4 : (Jvm.Cond.code y' bytes maxL ret').before a0 Z = true)
    (hy : y'.cls ≠ "java/lang/invoke/MethodHandle" ∧ y'.cls ≠ "java/lang/invoke/VarHandle") (hst : S = argsL.reverse ++ .ref a :: rest) (hlen : ∀ sig, parseMethodDescriptor y'.desc = some sig → argsL.length = sig.parameters.length) (hsz : L.size = ml) (hW : (rest.map fun v => v.category).sum = W) (hf : R'.frames + 1 ≤ R.frames) (hl : W + (maxL + 11) + R'.locals ≤ R.locals)
    (hc : cells + R'.cells ≤ R.cells) (hs : slots + R'.slots ≤ R.slots) (hd : decode code pc = .ok (.invokevirtual idx, 3)) (hp : pc + 3 = pc')
    (g : ∀ T' h', Wk p l e R s m args below meth c Z n0 y code ml ret T' (cells + R'.cells) (slots + R'.slots) h' → Q' h' → Goes p e below K T' m pc' L rest) : Goes p e below K T m pc L S := w_virtual X hM E w1 w2 w5 w6 w3 w4 hy hst hlen hsz hW hf hl hc hs hd hp g
theorem w_virtual0P (X : Wk p l e R s m args below meth c Z n0 y code ml ret T cells slots h) {idx : Nat} {C : String} {y' : MethodName} {bytes : ByteArray} {maxL : Nat} {ret' : Option FieldType} {R' : Room} {a : Addr} {argsL rest : List Value} {W : Nat}
    (hM : Con l Z y' bytes maxL ret' R' (.ref a :: argsL).toArray h n0 none (fun h' => h' = h)) (E : Exa Z h a C) (w1 : (Jvm.Cond.methodLink y.cls idx y').before a0 Z = true) (w2 : (Jvm.Cond.declares y').before a0 Z = true) (w5 : (Jvm.Cond.selects C y' y').before a0 Z = true) (w6 : (Jvm.Cond.instanceMethod y').before a0 Z = true) (w3 : (Jvm.Cond.initialized y'.cls).before a0 Z = true) (w4 : (Jvm.Cond.code y' bytes maxL ret').before a0 Z = true)
    (hy : y'.cls ≠ "java/lang/invoke/MethodHandle" ∧ y'.cls ≠ "java/lang/invoke/VarHandle") (hst : S = argsL.reverse ++ .ref a :: rest) (hlen : ∀ sig, parseMethodDescriptor y'.desc = some sig → argsL.length = sig.parameters.length) (hsz : L.size = ml) (hW : (rest.map fun v => v.category).sum = W) (hf : R'.frames + 1 ≤ R.frames) (hl : W + (maxL + 11) + R'.locals ≤ R.locals)
    (hc : cells + R'.cells ≤ R.cells) (hs : slots + R'.slots ≤ R.slots) (hd : decode code pc = .ok (.invokevirtual idx, 3)) (hp : pc + 3 = pc')
    (g : ∀ T', Wk p l e R s m args below meth c Z n0 y code ml ret T' (cells + R'.cells) (slots + R'.slots) h → Goes p e below K T' m pc' L rest) : Goes p e below K T m pc L S := w_virtual0 X hM E w1 w2 w5 w6 w3 w4 hy hst hlen hsz hW hf hl hc hs hd hp (fun T' h' X' q => by subst q; exact g T' X')
theorem w_private (X : Wk p l e R s m args below meth c Z n0 y code ml ret T cells slots h) {idx : Nat} {C : String} {y' : MethodName} {bytes : ByteArray} {maxL : Nat} {ret' : Option FieldType} {R' : Room} {w' : Option Value} {Q' : Heap → Prop} {a : Addr} {argsL rest : List Value} {W : Nat}
    (hM : Con l Z y' bytes maxL ret' R' (.ref a :: argsL).toArray h n0 w' Q') (E : Exa Z h a C) (w1 : (Jvm.Cond.methodLink y.cls idx y').before a0 Z = true) (w6 : (Jvm.Cond.instanceMethod y').before a0 Z = true) (w5 : (Jvm.Cond.selects y'.cls y' y').before a0 Z = true) (w7 : (Jvm.Cond.privateMethod y').before a0 Z = true) (w3 : (Jvm.Cond.initialized y'.cls).before a0 Z = true) (w4 : (Jvm.Cond.code y' bytes maxL ret').before a0 Z = true)
    (hy : y'.cls ≠ "java/lang/invoke/MethodHandle" ∧ y'.cls ≠ "java/lang/invoke/VarHandle") (hst : S = argsL.reverse ++ .ref a :: rest) (hlen : ∀ sig, parseMethodDescriptor y'.desc = some sig → argsL.length = sig.parameters.length) (hsz : L.size = ml) (hW : (rest.map fun v => v.category).sum = W) (hf : R'.frames + 1 ≤ R.frames) (hl : W + (maxL + 11) + R'.locals ≤ R.locals)
    (hc : cells + R'.cells ≤ R.cells) (hs : slots + R'.slots ≤ R.slots) (hd : decode code pc = .ok (.invokevirtual idx, 3)) (hp : pc + 3 = pc')
    (g : ∀ T' h', Wk p l e R s m args below meth c Z n0 y code ml ret T' (cells + R'.cells) (slots + R'.slots) h' → Q' h' → Goes p e below K T' m pc' L (w'.toList ++ rest)) : Goes p e below K T m pc L S := by
  obtain ⟨hx, hZ, hby, hml, hown, hnm, hret, hlk, hn, locs, X, eT, N⟩ := X
  subst hp hW
  obtain ⟨cq, q, q'⟩ := E.cell
  obtain ⟨_, _, ⟨T1, L1, k1, n1⟩, -, X1, ⟨Lc, hQ, l1, y1, z1⟩, st⟩ := X.privateBack hx (y := y') hown (mvT hZ w1) (mvT hZ w6) (mvT hZ w5) (Cond.privateMethod_at (mvP hZ w7 (args := #[]))) (mvT hZ w4) hy (backOf (W := (rest.map fun v => v.category).sum) (hM []) hZ w4 w3 hf hl) (g := mkF m pc L S) rfl (by rw [hml]; exact hsz) (Steps.refl _) (a := a) (by rw [eT]; exact q) q' (argsL := argsL) (rest := rest) hlen hst (by show 2 * 0 + _ ≤ _; omega) (hb hby hd) (fun _ _ => ⟨rfl, eT, hc, hs⟩)
  dsimp only [Pt.U, Pt.locs, Pt.cells, Pt.slots] at X1 l1 y1 z1 st hQ
  subst l1 y1 z1
  obtain ⟨rfl, hQ', N', hn'⟩ := hQ
  obtain ⟨u1, a1, b1⟩ := g _ _ ⟨hx, hZ, hby, hml, hown, hnm, hret, hlk, hn', _, X1, rfl, N.app N'⟩ hQ'
  exact ⟨u1, st.trans a1, b1⟩
theorem w_privateV (X : Wk p l e R s m args below meth c Z n0 y code ml ret T cells slots h) {idx : Nat} {C : String} {y' : MethodName} {bytes : ByteArray} {maxL : Nat} {ret' : Option FieldType} {R' : Room} {v' : Value} {Q' : Heap → Prop} {a : Addr} {argsL rest : List Value} {W : Nat}
    (hM : Con l Z y' bytes maxL ret' R' (.ref a :: argsL).toArray h n0 (some v') Q') (E : Exa Z h a C) (w1 : (Jvm.Cond.methodLink y.cls idx y').before a0 Z = true) (w6 : (Jvm.Cond.instanceMethod y').before a0 Z = true) (w5 : (Jvm.Cond.selects y'.cls y' y').before a0 Z = true) (w7 : (Jvm.Cond.privateMethod y').before a0 Z = true) (w3 : (Jvm.Cond.initialized y'.cls).before a0 Z = true) (w4 : (Jvm.Cond.code y' bytes maxL ret').before a0 Z = true)
    (hy : y'.cls ≠ "java/lang/invoke/MethodHandle" ∧ y'.cls ≠ "java/lang/invoke/VarHandle") (hst : S = argsL.reverse ++ .ref a :: rest) (hlen : ∀ sig, parseMethodDescriptor y'.desc = some sig → argsL.length = sig.parameters.length) (hsz : L.size = ml) (hW : (rest.map fun v => v.category).sum = W) (hf : R'.frames + 1 ≤ R.frames) (hl : W + (maxL + 11) + R'.locals ≤ R.locals)
    (hc : cells + R'.cells ≤ R.cells) (hs : slots + R'.slots ≤ R.slots) (hd : decode code pc = .ok (.invokevirtual idx, 3)) (hp : pc + 3 = pc')
    (g : ∀ T' h', Wk p l e R s m args below meth c Z n0 y code ml ret T' (cells + R'.cells) (slots + R'.slots) h' → Q' h' → Goes p e below K T' m pc' L (v' :: rest)) : Goes p e below K T m pc L S := w_private X hM E w1 w6 w5 w7 w3 w4 hy hst hlen hsz hW hf hl hc hs hd hp g
theorem w_privateVP (X : Wk p l e R s m args below meth c Z n0 y code ml ret T cells slots h) {idx : Nat} {C : String} {y' : MethodName} {bytes : ByteArray} {maxL : Nat} {ret' : Option FieldType} {R' : Room} {v' : Value} {a : Addr} {argsL rest : List Value} {W : Nat}
    (hM : Con l Z y' bytes maxL ret' R' (.ref a :: argsL).toArray h n0 (some v') (fun h' => h' = h)) (E : Exa Z h a C) (w1 : (Jvm.Cond.methodLink y.cls idx y').before a0 Z = true) (w6 : (Jvm.Cond.instanceMethod y').before a0 Z = true) (w5 : (Jvm.Cond.selects y'.cls y' y').before a0 Z = true) (w7 : (Jvm.Cond.privateMethod y').before a0 Z = true) (w3 : (Jvm.Cond.initialized y'.cls).before a0 Z = true) (w4 : (Jvm.Cond.code y' bytes maxL ret').before a0 Z = true)
    (hy : y'.cls ≠ "java/lang/invoke/MethodHandle" ∧ y'.cls ≠ "java/lang/invoke/VarHandle") (hst : S = argsL.reverse ++ .ref a :: rest) (hlen : ∀ sig, parseMethodDescriptor y'.desc = some sig → argsL.length = sig.parameters.length) (hsz : L.size = ml) (hW : (rest.map fun v => v.category).sum = W) (hf : R'.frames + 1 ≤ R.frames) (hl : W + (maxL + 11) + R'.locals ≤ R.locals)
    (hc : cells + R'.cells ≤ R.cells) (hs : slots + R'.slots ≤ R.slots) (hd : decode code pc = .ok (.invokevirtual idx, 3)) (hp : pc + 3 = pc')
    (g : ∀ T', Wk p l e R s m args below meth c Z n0 y code ml ret T' (cells + R'.cells) (slots + R'.slots) h → Goes p e below K T' m pc' L (v' :: rest)) : Goes p e below K T m pc L S := w_privateV X hM E w1 w6 w5 w7 w3 w4 hy hst hlen hsz hW hf hl hc hs hd hp (fun T' h' X' q => by subst q; exact g T' X')
theorem w_private0 (X : Wk p l e R s m args below meth c Z n0 y code ml ret T cells slots h) {idx : Nat} {C : String} {y' : MethodName} {bytes : ByteArray} {maxL : Nat} {ret' : Option FieldType} {R' : Room} {Q' : Heap → Prop} {a : Addr} {argsL rest : List Value} {W : Nat}
    (hM : Con l Z y' bytes maxL ret' R' (.ref a :: argsL).toArray h n0 none Q') (E : Exa Z h a C) (w1 : (Jvm.Cond.methodLink y.cls idx y').before a0 Z = true) (w6 : (Jvm.Cond.instanceMethod y').before a0 Z = true) (w5 : (Jvm.Cond.selects y'.cls y' y').before a0 Z = true) (w7 : (Jvm.Cond.privateMethod y').before a0 Z = true) (w3 : (Jvm.Cond.initialized y'.cls).before a0 Z = true) (w4 : (Jvm.Cond.code y' bytes maxL ret').before a0 Z = true)
    (hy : y'.cls ≠ "java/lang/invoke/MethodHandle" ∧ y'.cls ≠ "java/lang/invoke/VarHandle") (hst : S = argsL.reverse ++ .ref a :: rest) (hlen : ∀ sig, parseMethodDescriptor y'.desc = some sig → argsL.length = sig.parameters.length) (hsz : L.size = ml) (hW : (rest.map fun v => v.category).sum = W) (hf : R'.frames + 1 ≤ R.frames) (hl : W + (maxL + 11) + R'.locals ≤ R.locals)
    (hc : cells + R'.cells ≤ R.cells) (hs : slots + R'.slots ≤ R.slots) (hd : decode code pc = .ok (.invokevirtual idx, 3)) (hp : pc + 3 = pc')
    (g : ∀ T' h', Wk p l e R s m args below meth c Z n0 y code ml ret T' (cells + R'.cells) (slots + R'.slots) h' → Q' h' → Goes p e below K T' m pc' L rest) : Goes p e below K T m pc L S := w_private X hM E w1 w6 w5 w7 w3 w4 hy hst hlen hsz hW hf hl hc hs hd hp g
theorem w_private0P (X : Wk p l e R s m args below meth c Z n0 y code ml ret T cells slots h) {idx : Nat} {C : String} {y' : MethodName} {bytes : ByteArray} {maxL : Nat} {ret' : Option FieldType} {R' : Room} {a : Addr} {argsL rest : List Value} {W : Nat}
    (hM : Con l Z y' bytes maxL ret' R' (.ref a :: argsL).toArray h n0 none (fun h' => h' = h)) (E : Exa Z h a C) (w1 : (Jvm.Cond.methodLink y.cls idx y').before a0 Z = true) (w6 : (Jvm.Cond.instanceMethod y').before a0 Z = true) (w5 : (Jvm.Cond.selects y'.cls y' y').before a0 Z = true) (w7 : (Jvm.Cond.privateMethod y').before a0 Z = true) (w3 : (Jvm.Cond.initialized y'.cls).before a0 Z = true) (w4 : (Jvm.Cond.code y' bytes maxL ret').before a0 Z = true)
    (hy : y'.cls ≠ "java/lang/invoke/MethodHandle" ∧ y'.cls ≠ "java/lang/invoke/VarHandle") (hst : S = argsL.reverse ++ .ref a :: rest) (hlen : ∀ sig, parseMethodDescriptor y'.desc = some sig → argsL.length = sig.parameters.length) (hsz : L.size = ml) (hW : (rest.map fun v => v.category).sum = W) (hf : R'.frames + 1 ≤ R.frames) (hl : W + (maxL + 11) + R'.locals ≤ R.locals)
    (hc : cells + R'.cells ≤ R.cells) (hs : slots + R'.slots ≤ R.slots) (hd : decode code pc = .ok (.invokevirtual idx, 3)) (hp : pc + 3 = pc')
    (g : ∀ T', Wk p l e R s m args below meth c Z n0 y code ml ret T' (cells + R'.cells) (slots + R'.slots) h → Goes p e below K T' m pc' L rest) : Goes p e below K T m pc L S := w_private0 X hM E w1 w6 w5 w7 w3 w4 hy hst hlen hsz hW hf hl hc hs hd hp (fun T' h' X' q => by subst q; exact g T' X')
theorem w_initO (X : Wk p l e R s m args below meth c Z n0 y code ml ret T cells slots h) {idx : Nat} {a : Addr} {W : Nat} (w1 : (Jvm.Cond.methodLink y.cls idx Lib.objectInit).before a0 Z = true) (w2 : (Jvm.Cond.instanceMethod Lib.objectInit).before a0 Z = true) (w3 : (Jvm.Cond.code Lib.objectInit ⟨#[0xb1]⟩ 1 none).before a0 Z = true)
    (hsz : L.size = ml) (hW : (S.map fun v => v.category).sum = W) (hf : 1 ≤ R.frames) (hl : W + 12 ≤ R.locals) (hd : decode code pc = .ok (.invokespecial idx, 3)) (hp : pc + 3 = pc')
    (g : ∀ T', Wk p l e R s m args below meth c Z n0 y code ml ret T' cells slots h → Goes p e below K T' m pc' L S) : Goes p e below K T m pc L (.ref a :: S) := by
  obtain ⟨hx, hZ, hby, hml, hown, hnm, hret, hlk, hn, locs, X, eT, N⟩ := X
  subst hp hW
  obtain ⟨T1, X1, e1, st⟩ := initO X hx hZ hown w1 w2 w3 eT (g := mkF m pc L (.ref a :: S)) rfl (by rw [hml]; exact hsz) rfl (hb hby hd) hf (W := (S.map fun v => v.category).sum) (by show 2 * 0 + _ ≤ _; omega) hl
  obtain ⟨u1, a1, b1⟩ := g _ ⟨hx, hZ, hby, hml, hown, hnm, hret, hlk, hn, _, X1, e1, N⟩
  exact ⟨u1, st _ a1, b1⟩
-- fields and objects
theorem w_getF (X : Wk p l e R s m args below meth c Z n0 y code ml ret T cells slots h) {R0 O n d host : String} {idx : Nat} {a : Addr} {v : Value} (w : (Jvm.Cond.fieldLink y.cls idx R0 n d).before a0 Z = true ∨ (Jvm.Cond.fieldLinkNest y.cls idx R0 n d host).before a0 Z = true) (via : Via Z R0 O n d)
    (F : Fld Z h a O n d v) (hd : decode code pc = .ok (.getfield idx, 3)) (hp : pc + 3 = pc') (g : ∀ T', Wk p l e R s m args below meth c Z n0 y code ml ret T' cells slots h → Goes p e below K T' m pc' L (v :: S)) : Goes p e below K T m pc L (.ref a :: S) := by
  obtain ⟨hx, hZ, hby, hml, hown, hnm, hret, hlk, hn, locs, X, eT, N⟩ := X
  subst hp
  obtain ⟨T1, X1, e1, st⟩ := getF X hx hZ hown w via eT F (g := mkF m pc L (.ref a :: S)) rfl rfl (hb hby hd)
  obtain ⟨u1, a1, b1⟩ := g _ ⟨hx, hZ, hby, hml, hown, hnm, hret, hlk, hn, _, X1, e1, N⟩
  exact ⟨u1, st _ a1, b1⟩
theorem w_putF (X : Wk p l e R s m args below meth c Z n0 y code ml ret T cells slots h) {R0 O n d host C : String} {idx kk : Nat} {ty : FieldType} {a : Addr} {v old : Value} (w : (Jvm.Cond.fieldLink y.cls idx R0 n d).before a0 Z = true ∨ (Jvm.Cond.fieldLinkNest y.cls idx R0 n d host).before a0 Z = true) (via : Via Z R0 O n d)
    (F : Fld Z h a O n d old) (E : Exa Z h a C) (Lw : (Jvm.Cond.lays C O n d).before a0 Z = true ∨ ((Jvm.Cond.laysFinal C O n d).before a0 Z = true ∧ y.cls = O ∧ y.name = "<init>")) (wi : (Jvm.Cond.instantiable C kk).before a0 Z = true) (hty : parseFieldDescriptor d = some ty) (hnv : narrow ty v = v) (hfv : fits ty v = true) (ha : n0 ≤ a)
    (hd : decode code pc = .ok (.putfield idx, 3)) (hp : pc + 3 = pc') (g : ∀ T' h', Wk p l e R s m args below meth c Z n0 y code ml ret T' cells slots h' → Wr h h' a (Jvm.RoadKit.slotOf Z O n d) v → Goes p e below K T' m pc' L S) : Goes p e below K T m pc L (v :: .ref a :: S) := by
  obtain ⟨hx, hZ, hby, hml, hown, hnm, hret, hlk, hn, locs, X, eT, N⟩ := X
  subst hp
  obtain ⟨T1, h1, X1, e1, W1, st⟩ := putF X hx hZ hown w via eT F E (Lw.imp id fun q => ⟨q.1, q.2.1, hnm.trans q.2.2⟩) wi hty hnv hfv (g := mkF m pc L (v :: .ref a :: S)) rfl rfl (hb hby hd)
  obtain ⟨u1, a1, b1⟩ := g _ _ ⟨hx, hZ, hby, hml, hown, hnm, hret, hlk, W1.size.symm ▸ hn, _, X1, e1, Fr.snoc X1 N ha⟩ W1
  exact ⟨u1, st _ a1, b1⟩
theorem w_putFN (X : Wk p l e R s m args below meth c Z n0 y code ml ret T cells slots h) {R0 O n d C : String} {idx kk : Nat} {ty : FieldType} {a : Addr} {v v' old : Value} (w : (Jvm.Cond.fieldLink y.cls idx R0 n d).before a0 Z = true) (via : Via Z R0 O n d)
    (F : Fld Z h a O n d old) (E : Exa Z h a C) (Lw : (Jvm.Cond.lays C O n d).before a0 Z = true ∨ ((Jvm.Cond.laysFinal C O n d).before a0 Z = true ∧ y.cls = O ∧ y.name = "<init>")) (wi : (Jvm.Cond.instantiable C kk).before a0 Z = true) (hty : parseFieldDescriptor d = some ty) (hnv : narrow ty v = v') (hfv : fits ty v' = true) (ha : n0 ≤ a)
    (hd : decode code pc = .ok (.putfield idx, 3)) (hp : pc + 3 = pc') (g : ∀ T' h', Wk p l e R s m args below meth c Z n0 y code ml ret T' cells slots h' → Wr h h' a (Jvm.RoadKit.slotOf Z O n d) v' → Goes p e below K T' m pc' L S) : Goes p e below K T m pc L (v :: .ref a :: S) := by
  obtain ⟨hx, hZ, hby, hml, hown, hnm, hret, hlk, hn, locs, X, eT, N⟩ := X
  subst hp
  obtain ⟨T1, h1, X1, e1, W1, st⟩ := putFN X hx hZ hown w via eT F E (Lw.imp id fun q => ⟨q.1, q.2.1, hnm.trans q.2.2⟩) wi hty hnv hfv (g := mkF m pc L (v :: .ref a :: S)) rfl rfl (hb hby hd)
  obtain ⟨u1, a1, b1⟩ := g _ _ ⟨hx, hZ, hby, hml, hown, hnm, hret, hlk, W1.size.symm ▸ hn, _, X1, e1, Fr.snoc X1 N ha⟩ W1
  exact ⟨u1, st _ a1, b1⟩
theorem w_new (X : Wk p l e R s m args below meth c Z n0 y code ml ret T cells slots h) {C : String} {idx n : Nat} (w : (Jvm.Cond.classLink y.cls idx C).before a0 Z = true) (wi : (Jvm.Cond.instantiable C n).before a0 Z = true) (wz : (Jvm.Cond.initialized C).before a0 Z = true) (hc : cells + 1 ≤ R.cells) (hl : slots + n ≤ R.slots) (hd : decode code pc = .ok (.new idx, 3)) (hp : pc + 3 = pc')
    (g : ∀ T' h' a, Wk p l e R s m args below meth c Z n0 y code ml ret T' (cells + 1) (slots + n) h' → a = h.size → n0 ≤ a → Ext h h' → Exa Z h' a C → (∀ {O nm d : String} {ty : FieldType}, Laid Z a0 C O nm d → parseFieldDescriptor d = some ty → Fld Z h' a O nm d (defaultValue ty)) → Goes p e below K T' m pc' L (.ref a :: S)) : Goes p e below K T m pc L S := by
  obtain ⟨hx, hZ, hby, hml, hown, hnm, hret, hlk, hn, locs, X, eT, N⟩ := X
  subst hp
  obtain ⟨T1, h1, X1, e1, E1, A1, D1, -, st⟩ := newO X hx hZ hown w wi wz eT (g := mkF m pc L S) rfl (hb hby hd) hc hl
  obtain ⟨u1, a1, b1⟩ := g _ _ _ ⟨hx, hZ, hby, hml, hown, hnm, hret, hlk, Nat.le_trans hn E1.1, _, X1, e1, N⟩ rfl hn E1 A1 D1
  exact ⟨u1, st _ a1, b1⟩
-- arrays
/-- the array at a holds vs -/
def AV (Z : State) (h : Heap) (a : Addr) (ty : FieldType) (vs : List Value) : Prop := ∃ c : Cell, Arr Z h a c ty ∧ c.slots.toList = vs ∧ vs.length < 2 ^ 31
theorem AV.lt {a : Addr} {ty : FieldType} {vs : List Value} (A : AV Z h a ty vs) : a < h.size := by obtain ⟨c, A, -⟩ := A; exact A.lt
theorem AV.ext {a : Addr} {ty : FieldType} {vs : List Value} {h' : Heap} (A : AV Z h a ty vs) (E : Ext h h') : AV Z h' a ty vs := by obtain ⟨c, A, r⟩ := A; exact ⟨c, A.ext E, r⟩
theorem AV.other {a b : Addr} {ty : FieldType} {vs : List Value} {h' : Heap} {sl : Nat} {v : Value} (A : AV Z h b ty vs) (W : Wr h h' a sl v) (q : b ≠ a) : AV Z h' b ty vs := by obtain ⟨c, A, r⟩ := A; exact ⟨c, A.other W q, r⟩
theorem AV.keep {a : Addr} {ty : FieldType} {vs : List Value} {h' : Heap} {ws : List Addr} (A : AV Z h a ty vs) (Kp : Keep h h' ws) (q : a ∉ ws) : AV Z h' a ty vs := by obtain ⟨c, A, r⟩ := A; exact ⟨c, ⟨Kp.2.1 _ _ A.1 q, A.2⟩, r⟩
theorem AV.set {a : Addr} {ty : FieldType} {vs : List Value} {h' : Heap} {i : Nat} {v : Value} (A : AV Z h a ty vs) (W : Wr h h' a i v) : AV Z h' a ty (vs.set i v) := by
  obtain ⟨c, A, r1, r2⟩ := A
  refine ⟨_, A.same W, ?_, by simpa using r2⟩
  subst r1
  simp [Cell.setSlot]
theorem AV.ne_exa {a b : Addr} {ty : FieldType} {vs : List Value} {C : String} {k : Nat} (A : AV Z h a ty vs) (E : Exa Z h b C) (wi : (Jvm.Cond.instantiable C k).before a0 Z = true) : b ≠ a := by obtain ⟨c, A, -⟩ := A; exact ne_arr E wi A
theorem AV.len {a : Addr} {ty : FieldType} {vs : List Value} (A : AV Z h a ty vs) : vs.length < 2 ^ 31 := by obtain ⟨c, -, -, r⟩ := A; exact r
theorem av_in {c : Cell} {vs : List Value} (r : c.slots.toList = vs) {j : Int32} {i : Nat} (h0 : ¬ j < 0) (hi : j.toNatClampNeg = i) (hlt : i < vs.length) : ¬ (j < 0 ∨ c.slots.size ≤ j.toNatClampNeg) := by
  subst r hi
  rintro (q | q)
  · exact h0 q
  · simp at hlt; omega
theorem av_at {c : Cell} {vs : List Value} (r : c.slots.toList = vs) {i : Nat} {v : Value} (hv : vs[i]? = some v) : c.slots[i]? = some v := by
  subst r
  simpa using hv
theorem w_newP (X : Wk p l e R s m args below meth c Z n0 y code ml ret T cells slots h) {aty : ArrayType} {n : Int32} {k : Nat} (w : (Jvm.Cond.arrayClass (newarray.typeOf aty)).before a0 Z = true) (hn : ¬ n < 0) (hk : n.toNatClampNeg = k) {cap : Nat} (hcap : k ≤ cap) (hb0 : cap * 8 ≤ 536870912) (hc : cells + 1 ≤ R.cells) (hl : slots + cap ≤ R.slots) (hd : decode code pc = .ok (.newarray aty, 2)) (hp : pc + 2 = pc')
    (g : ∀ T' h' a, Wk p l e R s m args below meth c Z n0 y code ml ret T' (cells + 1) (slots + cap) h' → a = h.size → n0 ≤ a → Ext h h' → AV Z h' a (newarray.typeOf aty) (List.replicate k (defaultValue (newarray.typeOf aty))) → Goes p e below K T' m pc' L (.ref a :: S)) : Goes p e below K T m pc L (.int n :: S) := by
  obtain ⟨hx, hZ, hby, hml, hown, hnm, hret, hlk, hn', locs, X, eT, N⟩ := X
  subst hp hk
  obtain ⟨T1, h1, cA, X1, e1, E1, A1, st⟩ := newP X hx hZ w eT (g := mkF m pc L (.int n :: S)) rfl (hb hby hd) rfl hn hcap hb0 hc hl
  obtain ⟨u1, a1, b1⟩ := g _ _ _ ⟨hx, hZ, hby, hml, hown, hnm, hret, hlk, Nat.le_trans hn' E1.1, _, X1, e1, N⟩ rfl hn' E1 ⟨_, A1, (by simp [newA]), (by simp only [List.length_replicate]; exact (back32 hn).2)⟩
  exact ⟨u1, st _ a1, b1⟩
theorem w_iaload (X : Wk p l e R s m args below meth c Z n0 y code ml ret T cells slots h) {a : Addr} {vs : List Value} {j : Int32} {i : Nat} {v : Value} (A : AV Z h a .int vs) (h0 : ¬ j < 0) (hi : j.toNatClampNeg = i) (hv : vs[i]? = some v) (hd : decode code pc = .ok (.iaload, 1)) (hp : pc + 1 = pc') (g : Goes p e below K T m pc' L (v :: S)) : Goes p e below K T m pc L (.int j :: .ref a :: S) := by
  obtain ⟨hx, hZ, hby, hml, hown, hnm, hret, hlk, hn, locs, X, eT, N⟩ := X
  obtain ⟨cl, A, r, -⟩ := A
  subst hp
  obtain ⟨u1, a1, b1⟩ := g
  exact ⟨u1, X.iaload hx (by rw [eT]; exact A.1) (State.isArrayOf_alike hZ.alike A.2.1) A.2.2 (av_in r h0 hi (List.getElem?_eq_some_iff.mp hv).1) (by rw [hi]; exact av_at r hv) (g := mkF m pc L (.int j :: .ref a :: S)) rfl rfl (hb hby hd) _ a1, b1⟩
theorem w_laload (X : Wk p l e R s m args below meth c Z n0 y code ml ret T cells slots h) {a : Addr} {vs : List Value} {j : Int32} {i : Nat} {v : Value} (A : AV Z h a .long vs) (h0 : ¬ j < 0) (hi : j.toNatClampNeg = i) (hv : vs[i]? = some v) (hd : decode code pc = .ok (.laload, 1)) (hp : pc + 1 = pc') (g : Goes p e below K T m pc' L (v :: S)) : Goes p e below K T m pc L (.int j :: .ref a :: S) := by
  obtain ⟨hx, hZ, hby, hml, hown, hnm, hret, hlk, hn, locs, X, eT, N⟩ := X
  obtain ⟨cl, A, r, -⟩ := A
  subst hp
  obtain ⟨u1, a1, b1⟩ := g
  exact ⟨u1, X.laload hx (by rw [eT]; exact A.1) (State.isArrayOf_alike hZ.alike A.2.1) A.2.2 (av_in r h0 hi (List.getElem?_eq_some_iff.mp hv).1) (by rw [hi]; exact av_at r hv) (g := mkF m pc L (.int j :: .ref a :: S)) rfl rfl (hb hby hd) _ a1, b1⟩
theorem w_caload (X : Wk p l e R s m args below meth c Z n0 y code ml ret T cells slots h) {a : Addr} {vs : List Value} {j : Int32} {i : Nat} {v : Value} (A : AV Z h a .char vs) (h0 : ¬ j < 0) (hi : j.toNatClampNeg = i) (hv : vs[i]? = some v) (hd : decode code pc = .ok (.caload, 1)) (hp : pc + 1 = pc') (g : Goes p e below K T m pc' L (v :: S)) : Goes p e below K T m pc L (.int j :: .ref a :: S) := by
  obtain ⟨hx, hZ, hby, hml, hown, hnm, hret, hlk, hn, locs, X, eT, N⟩ := X
  obtain ⟨cl, A, r, -⟩ := A
  subst hp
  obtain ⟨u1, a1, b1⟩ := g
  exact ⟨u1, X.caload hx (by rw [eT]; exact A.1) (State.isArrayOf_alike hZ.alike A.2.1) A.2.2 (av_in r h0 hi (List.getElem?_eq_some_iff.mp hv).1) (by rw [hi]; exact av_at r hv) (g := mkF m pc L (.int j :: .ref a :: S)) rfl rfl (hb hby hd) _ a1, b1⟩
theorem w_baloadB (X : Wk p l e R s m args below meth c Z n0 y code ml ret T cells slots h) {a : Addr} {vs : List Value} {j : Int32} {i : Nat} {v : Value} (A : AV Z h a .byte vs) (h0 : ¬ j < 0) (hi : j.toNatClampNeg = i) (hv : vs[i]? = some v) (hd : decode code pc = .ok (.baload, 1)) (hp : pc + 1 = pc') (g : Goes p e below K T m pc' L (v :: S)) : Goes p e below K T m pc L (.int j :: .ref a :: S) := by
  obtain ⟨hx, hZ, hby, hml, hown, hnm, hret, hlk, hn, locs, X, eT, N⟩ := X
  obtain ⟨cl, A, r, -⟩ := A
  subst hp
  obtain ⟨u1, a1, b1⟩ := g
  exact ⟨u1, X.baloadBytes hx (by rw [eT]; exact A.1) (State.isArrayOf_alike hZ.alike A.2.1) A.2.2 (av_in r h0 hi (List.getElem?_eq_some_iff.mp hv).1) (by rw [hi]; exact av_at r hv) (g := mkF m pc L (.int j :: .ref a :: S)) rfl rfl (hb hby hd) _ a1, b1⟩
theorem w_baloadZ (X : Wk p l e R s m args below meth c Z n0 y code ml ret T cells slots h) {a : Addr} {vs : List Value} {j : Int32} {i : Nat} {v : Value} (A : AV Z h a .boolean vs) (h0 : ¬ j < 0) (hi : j.toNatClampNeg = i) (hv : vs[i]? = some v) (hd : decode code pc = .ok (.baload, 1)) (hp : pc + 1 = pc') (g : Goes p e below K T m pc' L (v :: S)) : Goes p e below K T m pc L (.int j :: .ref a :: S) := by
  obtain ⟨hx, hZ, hby, hml, hown, hnm, hret, hlk, hn, locs, X, eT, N⟩ := X
  obtain ⟨cl, A, r, -⟩ := A
  subst hp
  obtain ⟨u1, a1, b1⟩ := g
  exact ⟨u1, X.baloadBooleans hx (by rw [eT]; exact A.1) (State.isArrayOf_alike hZ.alike A.2.1) A.2.2 (av_in r h0 hi (List.getElem?_eq_some_iff.mp hv).1) (by rw [hi]; exact av_at r hv) (g := mkF m pc L (.int j :: .ref a :: S)) rfl rfl (hb hby hd) _ a1, b1⟩
theorem w_arraylength (X : Wk p l e R s m args below meth c Z n0 y code ml ret T cells slots h) {a : Addr} {ty : FieldType} {vs : List Value} {n : Int32} (A : AV Z h a ty vs) (hn : vs.length.toInt32 = n) (hd : decode code pc = .ok (.arraylength, 1)) (hp : pc + 1 = pc') (g : Goes p e below K T m pc' L (.int n :: S)) : Goes p e below K T m pc L (.ref a :: S) := by
  obtain ⟨hx, hZ, hby, hml, hown, hnm, hret, hlk, hn', locs, X, eT, N⟩ := X
  obtain ⟨cl, A, r, -⟩ := A
  have q : cl.slots.size.toInt32 = n := by rw [← hn, ← r]; simp
  subst hp q
  obtain ⟨u1, a1, b1⟩ := g
  exact ⟨u1, X.arraylength hx (by rw [eT]; exact A.1) (State.isArrayOf_alike hZ.alike A.2.1) (g := mkF m pc L (.ref a :: S)) rfl rfl (hb hby hd) _ a1, b1⟩
theorem w_iastore (X : Wk p l e R s m args below meth c Z n0 y code ml ret T cells slots h) {a : Addr} {vs : List Value} {j : Int32} {i : Nat} {x : Int32} (A : AV Z h a .int vs) (h0 : ¬ j < 0) (hi : j.toNatClampNeg = i) (hlt : i < vs.length) (ha : n0 ≤ a) (hd : decode code pc = .ok (.iastore, 1)) (hp : pc + 1 = pc') (g : ∀ T' h', Wk p l e R s m args below meth c Z n0 y code ml ret T' cells slots h' → Wr h h' a i (.int x) → AV Z h' a .int (vs.set i (.int x)) → Goes p e below K T' m pc' L S) : Goes p e below K T m pc L (.int x :: .int j :: .ref a :: S) := by
  obtain ⟨hx, hZ, hby, hml, hown, hnm, hret, hlk, hn, locs, X, eT, N⟩ := X
  have A0 := A
  obtain ⟨cl, A, r, -⟩ := A
  subst hp hi
  obtain ⟨T1, h1, X1, e1, W1, st⟩ := stI X hx hZ eT A (j := j) (av_in r h0 rfl hlt) (g := mkF m pc L (.int x :: .int j :: .ref a :: S)) rfl rfl (hb hby hd)
  obtain ⟨u1, a1, b1⟩ := g _ _ ⟨hx, hZ, hby, hml, hown, hnm, hret, hlk, W1.size.symm ▸ hn, _, X1, e1, Fr.snoc X1 N ha⟩ W1 (A0.set W1)
  exact ⟨u1, st _ a1, b1⟩
theorem w_lastore (X : Wk p l e R s m args below meth c Z n0 y code ml ret T cells slots h) {a : Addr} {vs : List Value} {j : Int32} {i : Nat} {x : Int64} (A : AV Z h a .long vs) (h0 : ¬ j < 0) (hi : j.toNatClampNeg = i) (hlt : i < vs.length) (ha : n0 ≤ a) (hd : decode code pc = .ok (.lastore, 1)) (hp : pc + 1 = pc') (g : ∀ T' h', Wk p l e R s m args below meth c Z n0 y code ml ret T' cells slots h' → Wr h h' a i (.long x) → AV Z h' a .long (vs.set i (.long x)) → Goes p e below K T' m pc' L S) : Goes p e below K T m pc L (.long x :: .int j :: .ref a :: S) := by
  obtain ⟨hx, hZ, hby, hml, hown, hnm, hret, hlk, hn, locs, X, eT, N⟩ := X
  have A0 := A
  obtain ⟨cl, A, r, -⟩ := A
  subst hp hi
  obtain ⟨T1, h1, X1, e1, W1, st⟩ := stJ X hx hZ eT A (j := j) (av_in r h0 rfl hlt) (g := mkF m pc L (.long x :: .int j :: .ref a :: S)) rfl rfl (hb hby hd)
  obtain ⟨u1, a1, b1⟩ := g _ _ ⟨hx, hZ, hby, hml, hown, hnm, hret, hlk, W1.size.symm ▸ hn, _, X1, e1, Fr.snoc X1 N ha⟩ W1 (A0.set W1)
  exact ⟨u1, st _ a1, b1⟩
theorem w_castore (X : Wk p l e R s m args below meth c Z n0 y code ml ret T cells slots h) {a : Addr} {vs : List Value} {j : Int32} {i : Nat} {x : Int32} (A : AV Z h a .char vs) (h0 : ¬ j < 0) (hi : j.toNatClampNeg = i) (hlt : i < vs.length) (ha : n0 ≤ a) (hd : decode code pc = .ok (.castore, 1)) (hp : pc + 1 = pc') (g : ∀ T' h', Wk p l e R s m args below meth c Z n0 y code ml ret T' cells slots h' → Wr h h' a i (.int (nar .char x)) → AV Z h' a .char (vs.set i (.int (nar .char x))) → Goes p e below K T' m pc' L S) : Goes p e below K T m pc L (.int x :: .int j :: .ref a :: S) := by
  obtain ⟨hx, hZ, hby, hml, hown, hnm, hret, hlk, hn, locs, X, eT, N⟩ := X
  have A0 := A
  obtain ⟨cl, A, r, -⟩ := A
  subst hp hi
  obtain ⟨T1, h1, X1, e1, W1, st⟩ := stC X hx hZ eT A (j := j) (av_in r h0 rfl hlt) (g := mkF m pc L (.int x :: .int j :: .ref a :: S)) rfl rfl (hb hby hd)
  obtain ⟨u1, a1, b1⟩ := g _ _ ⟨hx, hZ, hby, hml, hown, hnm, hret, hlk, W1.size.symm ▸ hn, _, X1, e1, Fr.snoc X1 N ha⟩ W1 (A0.set W1)
  exact ⟨u1, st _ a1, b1⟩
theorem w_bastoreB (X : Wk p l e R s m args below meth c Z n0 y code ml ret T cells slots h) {a : Addr} {vs : List Value} {j : Int32} {i : Nat} {x : Int32} (A : AV Z h a .byte vs) (h0 : ¬ j < 0) (hi : j.toNatClampNeg = i) (hlt : i < vs.length) (ha : n0 ≤ a) (hd : decode code pc = .ok (.bastore, 1)) (hp : pc + 1 = pc') (g : ∀ T' h', Wk p l e R s m args below meth c Z n0 y code ml ret T' cells slots h' → Wr h h' a i (.int (nar .byte x)) → AV Z h' a .byte (vs.set i (.int (nar .byte x))) → Goes p e below K T' m pc' L S) : Goes p e below K T m pc L (.int x :: .int j :: .ref a :: S) := by
  obtain ⟨hx, hZ, hby, hml, hown, hnm, hret, hlk, hn, locs, X, eT, N⟩ := X
  have A0 := A
  obtain ⟨cl, A, r, -⟩ := A
  subst hp hi
  obtain ⟨T1, h1, X1, e1, W1, st⟩ := stB X hx hZ eT A (j := j) (av_in r h0 rfl hlt) (g := mkF m pc L (.int x :: .int j :: .ref a :: S)) rfl rfl (hb hby hd)
  obtain ⟨u1, a1, b1⟩ := g _ _ ⟨hx, hZ, hby, hml, hown, hnm, hret, hlk, W1.size.symm ▸ hn, _, X1, e1, Fr.snoc X1 N ha⟩ W1 (A0.set W1)
  exact ⟨u1, st _ a1, b1⟩
theorem w_bastoreZ (X : Wk p l e R s m args below meth c Z n0 y code ml ret T cells slots h) {a : Addr} {vs : List Value} {j : Int32} {i : Nat} {x : Int32} (A : AV Z h a .boolean vs) (h0 : ¬ j < 0) (hi : j.toNatClampNeg = i) (hlt : i < vs.length) (ha : n0 ≤ a) (hd : decode code pc = .ok (.bastore, 1)) (hp : pc + 1 = pc') (g : ∀ T' h', Wk p l e R s m args below meth c Z n0 y code ml ret T' cells slots h' → Wr h h' a i (.int (nar .boolean x)) → AV Z h' a .boolean (vs.set i (.int (nar .boolean x))) → Goes p e below K T' m pc' L S) : Goes p e below K T m pc L (.int x :: .int j :: .ref a :: S) := by
  obtain ⟨hx, hZ, hby, hml, hown, hnm, hret, hlk, hn, locs, X, eT, N⟩ := X
  have A0 := A
  obtain ⟨cl, A, r, -⟩ := A
  subst hp hi
  obtain ⟨T1, h1, X1, e1, W1, st⟩ := stZ X hx hZ eT A (j := j) (av_in r h0 rfl hlt) (g := mkF m pc L (.int x :: .int j :: .ref a :: S)) rfl rfl (hb hby hd)
  obtain ⟨u1, a1, b1⟩ := g _ _ ⟨hx, hZ, hby, hml, hown, hnm, hret, hlk, W1.size.symm ▸ hn, _, X1, e1, Fr.snoc X1 N ha⟩ W1 (A0.set W1)
  exact ⟨u1, st _ a1, b1⟩
theorem getI {xs : List Int32} {i : Nat} (q : i < xs.length) : (xs.map Value.int)[i]? = some (.int (xs.getD i 0)) := by
  simp [List.getD_eq_getElem?_getD, List.getElem?_eq_getElem q]
theorem getL {xs : List Int64} {i : Nat} (q : i < xs.length) : (xs.map Value.long)[i]? = some (.long (xs.getD i 0)) := by
  simp [List.getD_eq_getElem?_getD, List.getElem?_eq_getElem q]
/-- a new name for a value -/
theorem nameI {K' : Prop} (v : Int32) (g : ∀ z, z = v → K') : K' := g v rfl
theorem nameL {K' : Prop} (v : Int64) (g : ∀ z, z = v → K') : K' := g v rfl
end Rules
end Jvm.Own
namespace Jvm.Pilot.@@N@@
open Jvm Jvm.ClassFile Sem Op Lib Jvm.Free Jvm.Stand Jvm.LawKit Jvm.RoadKit Bundle Jvm.Own Jvm.Pilot.@@N@@.Jvm.D
def four : List Int32 := [0, 1, 2, 3]
def gt (xs : List Int32) (x : Int32) : Int32 := xs.getD x.toNatClampNeg 0
def rt (xs : List Int32) (x : Int32) : Int32 := gt xs (gt xs (gt xs x))
def lab (xs : List Int32) : List Int32 := [rt xs 0, rt xs 1, rt xs 2, rt xs 3]
def all : List (List Int32) := [0, 1].flatMap fun a => [0, 1, 2].flatMap fun b => [0, 1, 2, 3].map fun c => [0, a, b, c]
def jn (ls : List Int32) (a b : Int32) : List Int32 :=
  if gt ls a = gt ls b then ls else if gt ls a < gt ls b then ls.map (fun r => if r = gt ls b then gt ls a else r) else ls.map (fun r => if r = gt ls a then gt ls b else r)
theorem D0 : ∀ x ∈ four, ¬ x < 0 ∧ x.toNatClampNeg < 4 ∧ x.toInt < 4 := by decide +kernel
theorem D1 : ∀ xs ∈ all, xs.length = 4 ∧ ∀ x ∈ four, xs.getD x.toNatClampNeg 0 ∈ four ∧ (lab xs).getD x.toNatClampNeg 0 ∈ four := by decide +kernel
theorem D2 : ∀ xs ∈ all, ∀ x ∈ four, xs.getD x.toNatClampNeg 0 = x → (lab xs).getD x.toNatClampNeg 0 = x := by decide +kernel
theorem D3 : ∀ xs ∈ all, ∀ x ∈ four, ¬ xs.getD x.toNatClampNeg 0 = x → (xs.set x.toNatClampNeg (xs.getD (xs.getD x.toNatClampNeg 0).toNatClampNeg 0)) ∈ all ∧ lab (xs.set x.toNatClampNeg (xs.getD (xs.getD x.toNatClampNeg 0).toNatClampNeg 0)) = lab xs ∧ (xs.set x.toNatClampNeg (xs.getD (xs.getD x.toNatClampNeg 0).toNatClampNeg 0)).getD x.toNatClampNeg 0 ∈ four ∧ ((xs.set x.toNatClampNeg (xs.getD (xs.getD x.toNatClampNeg 0).toNatClampNeg 0)).getD x.toNatClampNeg 0).toInt < x.toInt ∧ (lab xs).getD ((xs.set x.toNatClampNeg (xs.getD (xs.getD x.toNatClampNeg 0).toNatClampNeg 0)).getD x.toNatClampNeg 0).toNatClampNeg 0 = (lab xs).getD x.toNatClampNeg 0 := by decide +kernel
theorem D4 : ∀ xs ∈ all, ∀ a ∈ four, ∀ b ∈ four, ¬ gt (lab xs) a = gt (lab xs) b → (gt (lab xs) a < gt (lab xs) b → (xs.set (gt (lab xs) b).toNatClampNeg (gt (lab xs) a)) ∈ all ∧ lab (xs.set (gt (lab xs) b).toNatClampNeg (gt (lab xs) a)) = jn (lab xs) a b) ∧ (¬ gt (lab xs) a < gt (lab xs) b → (xs.set (gt (lab xs) a).toNatClampNeg (gt (lab xs) b)) ∈ all ∧ lab (xs.set (gt (lab xs) a).toNatClampNeg (gt (lab xs) b)) = jn (lab xs) a b) := by decide +kernel
theorem own_fin (z : Int32) (n : Nat) (h0 : 0 ≤ z.toInt) (h1 : z.toInt < n) : ∃ k : Fin n, z = Int32.ofNat k.val := by
  refine ⟨⟨z.toInt.toNat, by omega⟩, ?_⟩
  apply Int32.toInt_inj.mp
  have := z.toInt_lt
  rw [Int32.toInt_ofNat_of_lt (by show z.toInt.toNat < 2 ^ 31; omega)]
  show z.toInt = ((z.toInt.toNat : Nat) : Int)
  omega
theorem own_four (x : Int32) : x &&& (3 : Int32) ∈ four := by
  obtain ⟨q1, q2⟩ := c_and x 3 (by decide)
  have e : (3 : Int32).toInt = 3 := by decide
  obtain ⟨k, hk⟩ := own_fin (x &&& 3) 4 q1 (by omega)
  rw [hk]; clear hk q1 q2; revert k; decide
theorem own_nolt (x : Int32) (h : x ∈ four) : ¬ x.toInt < (0 : Nat) := by
  revert x; decide
theorem d5_0 : decode prog_37_method_2_code 0 = .ok (.aload_n 0, 1) := by decide +kernel
theorem d5_1 : decode prog_37_method_2_code 1 = .ok (.getfield 7, 3) := by decide +kernel
theorem d5_4 : decode prog_37_method_2_code 4 = .ok (.iload_n 1, 1) := by decide +kernel
theorem d5_5 : decode prog_37_method_2_code 5 = .ok (.iaload, 1) := by decide +kernel
theorem d5_6 : decode prog_37_method_2_code 6 = .ok (.iload_n 1, 1) := by decide +kernel
theorem d5_7 : decode prog_37_method_2_code 7 = .ok (.if_icmp .eq 30, 3) := by decide +kernel
theorem d5_10 : decode prog_37_method_2_code 10 = .ok (.aload_n 0, 1) := by decide +kernel
theorem d5_11 : decode prog_37_method_2_code 11 = .ok (.getfield 7, 3) := by decide +kernel
theorem d5_14 : decode prog_37_method_2_code 14 = .ok (.iload_n 1, 1) := by decide +kernel
theorem d5_15 : decode prog_37_method_2_code 15 = .ok (.aload_n 0, 1) := by decide +kernel
theorem d5_16 : decode prog_37_method_2_code 16 = .ok (.getfield 7, 3) := by decide +kernel
theorem d5_19 : decode prog_37_method_2_code 19 = .ok (.aload_n 0, 1) := by decide +kernel
theorem d5_20 : decode prog_37_method_2_code 20 = .ok (.getfield 7, 3) := by decide +kernel
theorem d5_23 : decode prog_37_method_2_code 23 = .ok (.iload_n 1, 1) := by decide +kernel
theorem d5_24 : decode prog_37_method_2_code 24 = .ok (.iaload, 1) := by decide +kernel
theorem d5_25 : decode prog_37_method_2_code 25 = .ok (.iaload, 1) := by decide +kernel
theorem d5_26 : decode prog_37_method_2_code 26 = .ok (.iastore, 1) := by decide +kernel
theorem d5_27 : decode prog_37_method_2_code 27 = .ok (.aload_n 0, 1) := by decide +kernel
theorem d5_28 : decode prog_37_method_2_code 28 = .ok (.getfield 7, 3) := by decide +kernel
theorem d5_31 : decode prog_37_method_2_code 31 = .ok (.iload_n 1, 1) := by decide +kernel
theorem d5_32 : decode prog_37_method_2_code 32 = .ok (.iaload, 1) := by decide +kernel
theorem d5_33 : decode prog_37_method_2_code 33 = .ok (.istore_n 1, 1) := by decide +kernel
theorem d5_34 : decode prog_37_method_2_code 34 = .ok (.goto (-34), 3) := by decide +kernel
theorem d5_37 : decode prog_37_method_2_code 37 = .ok (.iload_n 1, 1) := by decide +kernel
theorem d5_38 : decode prog_37_method_2_code 38 = .ok (.ireturn, 1) := by decide +kernel
theorem pn_5 : plainName "com/example/credence/credence/core/UnionFind" = true := by first | (simp [plainName, overriddenIn]; done) | decide +kernel
theorem ef_5 (m : MethodId) (o1 : Addr) (p2 : Int32) : entryFrame m #[(.ref o1), (.int p2)] 2 = mkF m 0 #[.val (.ref o1), .val (.int p2)] [] := by first | (simp [entryFrame, mkF, argsToLocals, Value.category]; done) | rfl
set_option maxRecDepth 65536 in
set_option maxHeartbeats 4000000 in
theorem rm_find (l : Launch) (Z : State) (a0 : Array Value) (hw : ∀ d ∈ tables_1, d.before a0 Z = true) (o1 : Addr) (p2 : Int32) (pa : Addr) (xs : List Int32) (h0 : Heap) (n0 : Nat) (Z0 : n0 ≤ h0.size) (F_p : Fld Z h0 o1 "com/example/credence/credence/core/UnionFind" "parent" "[I" (.ref pa)) (A_p : AV Z h0 pa .int (xs.map Value.int)) (hm : xs ∈ all) (hp : p2 ∈ four) (ne_p : o1 ≠ pa) (g_p : n0 ≤ pa) :
    Con l Z (⟨"com/example/credence/credence/core/UnionFind", "find", "(I)I"⟩ : MethodName) prog_37_method_2_code 2 (some .int) ({ frames := 0, cells := 0, slots := 0, locals := 0 } : Room) #[(.ref o1), (.int p2)] h0 n0 (some (.int ((lab xs).getD (p2).toNatClampNeg 0))) (fun h => ∃ xs', xs' ∈ all ∧ lab xs' = lab xs ∧ Keep h0 h [pa] ∧ AV Z h pa .int (xs'.map Value.int)) := by
  refine con_of (plainFor_of_name pn_5) Z0 (fun m => ef_5 m o1 p2) ?_
  intro p e s m below meth c T0 X0
  have loop : ∀ (k : Nat) (xs1 : List Int32) (x1 : Int32) (T1 : State) (h1 : Heap), Wk p l e ({ frames := 0, cells := 0, slots := 0, locals := 0 } : Room) s m #[(.ref o1), (.int p2)] below meth c Z n0 (⟨"com/example/credence/credence/core/UnionFind", "find", "(I)I"⟩ : MethodName) prog_37_method_2_code 2 (some .int) T1 0 0 h1 → xs1 ∈ all → x1 ∈ four → lab xs1 = lab xs → (lab xs).getD x1.toNatClampNeg 0 = (lab xs).getD p2.toNatClampNeg 0 → x1.toInt < k → Keep h0 h1 [pa] → Fld Z h1 o1 "com/example/credence/credence/core/UnionFind" "parent" "[I" (.ref pa) → AV Z h1 pa .int (xs1.map Value.int) → Goes p e below (Done below s n0 ({ frames := 0, cells := 0, slots := 0, locals := 0 } : Room) (some (.int ((lab xs).getD (p2).toNatClampNeg 0))) (fun h => ∃ xs', xs' ∈ all ∧ lab xs' = lab xs ∧ Keep h0 h [pa] ∧ AV Z h pa .int (xs'.map Value.int))) T1 m 0 #[.val (.ref o1), .val (.int x1)] [] := by
    intro k
    induction k with
    | zero => intro xs1 x1 T1 h1 X1 m1 f1 l1 r1 b1; exact absurd b1 (own_nolt x1 f1)
    | succ k ih =>
      intro xs1 x1 T1 h1 X1 m1 f1 l1 r1 b1 k1 F1 A1
      rw [← l1] at r1
      refine w_aloadN X1 d5_0 rfl rfl rfl ?_
      refine w_getF X1 (host := "") (Or.inl (hw _ (List.mem_of_getElem? (i := 10) rfl))) Via.refl F1 d5_1 rfl fun T1 X2 => ?_
      refine w_iloadN X2 d5_4 rfl rfl ?_
      refine w_iaload X2 A1 (D0 _ f1).1 rfl (getI (by rw [(D1 _ m1).1]; exact (D0 _ f1).2.1)) d5_5 rfl ?_
      refine w_iloadN X2 d5_6 rfl rfl ?_
      refine w_icmp_eq X2 d5_7 (by decide) (pcT := 37) (pcF := 10) (by decide) rfl (fun c3 => ?_) (fun c3 => ?_)
      · refine w_iloadN X2 d5_37 rfl rfl ?_
        exact w_ireturn X2 d5_38 (by rw [← l1, ← r1, D2 _ m1 _ f1 c3]) ⟨xs1, m1, l1, k1, A1⟩ (by decide) (by decide)
      · refine w_aloadN X2 d5_10 rfl rfl rfl ?_
        refine w_getF X2 (host := "") (Or.inl (hw _ (List.mem_of_getElem? (i := 10) rfl))) Via.refl F1 d5_11 rfl fun T4 X5 => ?_
        refine w_iloadN X5 d5_14 rfl rfl ?_
        refine w_aloadN X5 d5_15 rfl rfl rfl ?_
        refine w_getF X5 (host := "") (Or.inl (hw _ (List.mem_of_getElem? (i := 10) rfl))) Via.refl F1 d5_16 rfl fun T6 X7 => ?_
        refine w_aloadN X7 d5_19 rfl rfl rfl ?_
        refine w_getF X7 (host := "") (Or.inl (hw _ (List.mem_of_getElem? (i := 10) rfl))) Via.refl F1 d5_20 rfl fun T8 X9 => ?_
        refine w_iloadN X9 d5_23 rfl rfl ?_
        refine w_iaload X9 A1 (D0 _ f1).1 rfl (getI (by rw [(D1 _ m1).1]; exact (D0 _ f1).2.1)) d5_24 rfl ?_
        refine w_iaload X9 A1 (D0 _ ((D1 _ m1).2 _ f1).1).1 rfl (getI (by rw [(D1 _ m1).1]; exact (D0 _ ((D1 _ m1).2 _ f1).1).2.1)) d5_25 rfl ?_
        refine w_iastore X9 A1 (D0 _ f1).1 rfl (by rw [List.length_map]; exact (by rw [(D1 _ m1).1]; exact (D0 _ f1).2.1)) g_p d5_26 rfl fun T10 h13 X11 W12 A14 => ?_
        rw [← List.map_set] at A14
        obtain ⟨xs15, hxs15⟩ : ∃ z, z = (xs1.set (x1).toNatClampNeg (xs1.getD ((xs1.getD (x1).toNatClampNeg 0)).toNatClampNeg 0)) := ⟨_, rfl⟩
        rw [← hxs15] at A14
        have f16 : Fld Z h13 o1 "com/example/credence/credence/core/UnionFind" "parent" "[I" (.ref pa) := Fld.other W12 F1 (Or.inl ne_p)
        have f17 : AV Z h13 pa .int (xs15.map Value.int) := A14
        have k18 : Keep h0 h13 [pa] := k1.wr W12 (Or.inl (List.mem_of_getElem? (i := 0) rfl))
        refine w_aloadN X11 d5_27 rfl rfl rfl ?_
        refine w_getF X11 (host := "") (Or.inl (hw _ (List.mem_of_getElem? (i := 10) rfl))) Via.refl f16 d5_28 rfl fun T19 X20 => ?_
        refine w_iloadN X20 d5_31 rfl rfl ?_
        refine w_iaload X20 f17 (D0 _ f1).1 rfl (getI (by rw [hxs15, List.length_set, (D1 _ m1).1]; exact (D0 _ f1).2.1)) d5_32 rfl ?_
        refine w_istoreN X20 d5_33 rfl (L' := #[.val (.ref o1), .val (.int (xs15.getD (x1).toNatClampNeg 0))]) rfl ?_
        refine w_goto X20 d5_34 (by decide) (pc' := 0) (by decide) ?_
        obtain ⟨d1, d2, d3, d4, d5⟩ := D3 _ m1 _ f1 c3
        rw [← hxs15] at d1 d2 d3 d4 d5
        exact ih xs15 _ _ _ X20 d1 d3 (d2.trans l1) (by rw [← l1, d5, r1]) (by omega) k18 f16 f17
  exact loop 4 xs p2 _ _ X0 hm hp rfl rfl (D0 _ hp).2.2 (Keep.refl h0 [pa]) F_p A_p
theorem d4_0 : decode prog_37_method_3_code 0 = .ok (.aload_n 0, 1) := by decide +kernel
theorem d4_1 : decode prog_37_method_3_code 1 = .ok (.iload_n 1, 1) := by decide +kernel
theorem d4_2 : decode prog_37_method_3_code 2 = .ok (.invokevirtual 13, 3) := by decide +kernel
theorem d4_5 : decode prog_37_method_3_code 5 = .ok (.istore_n 3, 1) := by decide +kernel
theorem d4_6 : decode prog_37_method_3_code 6 = .ok (.aload_n 0, 1) := by decide +kernel
theorem d4_7 : decode prog_37_method_3_code 7 = .ok (.iload_n 2, 1) := by decide +kernel
theorem d4_8 : decode prog_37_method_3_code 8 = .ok (.invokevirtual 13, 3) := by decide +kernel
theorem d4_11 : decode prog_37_method_3_code 11 = .ok (.istore 4, 2) := by decide +kernel
theorem d4_13 : decode prog_37_method_3_code 13 = .ok (.iload_n 3, 1) := by decide +kernel
theorem d4_14 : decode prog_37_method_3_code 14 = .ok (.iload 4, 2) := by decide +kernel
theorem d4_16 : decode prog_37_method_3_code 16 = .ok (.if_icmp .ne 5, 3) := by decide +kernel
theorem d4_19 : decode prog_37_method_3_code 19 = .ok (.iconst 0, 1) := by decide +kernel
theorem d4_20 : decode prog_37_method_3_code 20 = .ok (.ireturn, 1) := by decide +kernel
theorem d4_21 : decode prog_37_method_3_code 21 = .ok (.iload_n 3, 1) := by decide +kernel
theorem d4_22 : decode prog_37_method_3_code 22 = .ok (.iload 4, 2) := by decide +kernel
theorem d4_24 : decode prog_37_method_3_code 24 = .ok (.if_icmp .ge 14, 3) := by decide +kernel
theorem d4_27 : decode prog_37_method_3_code 27 = .ok (.aload_n 0, 1) := by decide +kernel
theorem d4_28 : decode prog_37_method_3_code 28 = .ok (.getfield 7, 3) := by decide +kernel
theorem d4_31 : decode prog_37_method_3_code 31 = .ok (.iload 4, 2) := by decide +kernel
theorem d4_33 : decode prog_37_method_3_code 33 = .ok (.iload_n 3, 1) := by decide +kernel
theorem d4_34 : decode prog_37_method_3_code 34 = .ok (.iastore, 1) := by decide +kernel
theorem d4_35 : decode prog_37_method_3_code 35 = .ok (.goto 11, 3) := by decide +kernel
theorem d4_38 : decode prog_37_method_3_code 38 = .ok (.aload_n 0, 1) := by decide +kernel
theorem d4_39 : decode prog_37_method_3_code 39 = .ok (.getfield 7, 3) := by decide +kernel
theorem d4_42 : decode prog_37_method_3_code 42 = .ok (.iload_n 3, 1) := by decide +kernel
theorem d4_43 : decode prog_37_method_3_code 43 = .ok (.iload 4, 2) := by decide +kernel
theorem d4_45 : decode prog_37_method_3_code 45 = .ok (.iastore, 1) := by decide +kernel
theorem d4_46 : decode prog_37_method_3_code 46 = .ok (.iconst 1, 1) := by decide +kernel
theorem d4_47 : decode prog_37_method_3_code 47 = .ok (.ireturn, 1) := by decide +kernel
theorem pd_0 : parseMethodDescriptor "(I)I" = some ⟨[.int], some .int⟩ := by decide +kernel
theorem pn_4 : plainName "com/example/credence/credence/core/UnionFind" = true := by first | (simp [plainName, overriddenIn]; done) | decide +kernel
theorem ef_4 (m : MethodId) (o1 : Addr) (p2 : Int32) (p3 : Int32) : entryFrame m #[(.ref o1), (.int p2), (.int p3)] 5 = mkF m 0 #[.val (.ref o1), .val (.int p2), .val (.int p3), .unset, .unset] [] := by first | (simp [entryFrame, mkF, argsToLocals, Value.category]; done) | rfl
set_option maxRecDepth 65536 in
set_option maxHeartbeats 4000000 in
theorem rm_union (l : Launch) (Z : State) (a0 : Array Value) (hw : ∀ d ∈ tables_1, d.before a0 Z = true) (o1 : Addr) (p2 : Int32) (p3 : Int32) (pa : Addr) (xs : List Int32) (h0 : Heap) (n0 : Nat) (Z0 : n0 ≤ h0.size) (E_p : Exa Z h0 o1 "com/example/credence/credence/core/UnionFind") (F_p : Fld Z h0 o1 "com/example/credence/credence/core/UnionFind" "parent" "[I" (.ref pa)) (A_p : AV Z h0 pa .int (xs.map Value.int)) (hm : xs ∈ all) (hp : p2 ∈ four) (hq : p3 ∈ four) (ne_p : o1 ≠ pa) (g_p : n0 ≤ pa) :
    Con l Z (⟨"com/example/credence/credence/core/UnionFind", "union", "(II)Z"⟩ : MethodName) prog_37_method_3_code 5 (some .boolean) ({ frames := 1, cells := 0, slots := 0, locals := 13 } : Room) #[(.ref o1), (.int p2), (.int p3)] h0 n0 (some (.int (if gt (lab xs) p2 = gt (lab xs) p3 then 0 else 1))) (fun h => ∃ xs', xs' ∈ all ∧ lab xs' = jn (lab xs) p2 p3 ∧ Keep h0 h [pa] ∧ AV Z h pa .int (xs'.map Value.int)) := by
  refine con_of (plainFor_of_name pn_4) Z0 (fun m => ef_4 m o1 p2 p3) ?_
  intro p e s m below meth c T0 X0
  refine w_aloadN X0 d4_0 rfl rfl rfl ?_
  refine w_iloadN X0 d4_1 rfl rfl ?_
  refine w_virtualV X0 (rm_find l Z a0 hw o1 p2 pa xs h0 n0 X0.size F_p A_p hm hp ne_p g_p) E_p (hw _ (List.mem_of_getElem? (i := 21) rfl)) (hw _ (List.mem_of_getElem? (i := 22) rfl)) (hw _ (List.mem_of_getElem? (i := 24) rfl)) (hw _ (List.mem_of_getElem? (i := 23) rfl)) (hw _ (List.mem_of_getElem? (i := 2) rfl)) (hw _ (List.mem_of_getElem? (i := 25) rfl)) (by decide) (argsL := [(.int p2)]) (rest := []) rfl (lenOf pd_0 rfl) rfl (W := 0) rfl (by decide) (by decide) (by decide) (by decide) d4_2 rfl fun T1 h2 X3 q4 => ?_
  obtain ⟨xs5, m6, l7, K8, A9⟩ := q4
  have f10 : Exa Z h2 o1 "com/example/credence/credence/core/UnionFind" := E_p.keep K8
  have f11 : Fld Z h2 o1 "com/example/credence/credence/core/UnionFind" "parent" "[I" (.ref pa) := F_p.keep K8 (ninS ne_p nin0)
  have k12 : Keep h0 h2 [pa] := (Keep.refl h0 [pa]).trans K8 (allS (Or.inl (List.mem_of_getElem? (i := 0) rfl)) all0)
  refine w_istoreN X3 d4_5 rfl (L' := #[.val (.ref o1), .val (.int p2), .val (.int p3), .val (.int ((lab xs).getD (p2).toNatClampNeg 0)), .unset]) rfl ?_
  refine w_aloadN X3 d4_6 rfl rfl rfl ?_
  refine w_iloadN X3 d4_7 rfl rfl ?_
  refine w_virtualV X3 (rm_find l Z a0 hw o1 p3 pa xs5 h2 n0 X3.size f11 A9 m6 hq ne_p g_p) f10 (hw _ (List.mem_of_getElem? (i := 21) rfl)) (hw _ (List.mem_of_getElem? (i := 22) rfl)) (hw _ (List.mem_of_getElem? (i := 24) rfl)) (hw _ (List.mem_of_getElem? (i := 23) rfl)) (hw _ (List.mem_of_getElem? (i := 2) rfl)) (hw _ (List.mem_of_getElem? (i := 25) rfl)) (by decide) (argsL := [(.int p3)]) (rest := []) rfl (lenOf pd_0 rfl) rfl (W := 0) rfl (by decide) (by decide) (by decide) (by decide) d4_8 rfl fun T13 h14 X15 q16 => ?_
  obtain ⟨xs17, m18, l19, K20, A21⟩ := q16
  have f22 : Exa Z h14 o1 "com/example/credence/credence/core/UnionFind" := f10.keep K20
  have f23 : Fld Z h14 o1 "com/example/credence/credence/core/UnionFind" "parent" "[I" (.ref pa) := f11.keep K20 (ninS ne_p nin0)
  have k24 : Keep h0 h14 [pa] := k12.trans K20 (allS (Or.inl (List.mem_of_getElem? (i := 0) rfl)) all0)
  refine w_istore X15 d4_11 rfl (L' := #[.val (.ref o1), .val (.int p2), .val (.int p3), .val (.int ((lab xs).getD (p2).toNatClampNeg 0)), .val (.int ((lab xs5).getD (p3).toNatClampNeg 0))]) rfl ?_
  have lb0 : lab xs17 = lab xs := l19.trans l7
  rw [l7]
  obtain ⟨ra, hra0⟩ : ∃ z, z = (lab xs).getD (p2).toNatClampNeg 0 := ⟨_, rfl⟩
  obtain ⟨rb, hrb0⟩ : ∃ z, z = (lab xs).getD (p3).toNatClampNeg 0 := ⟨_, rfl⟩
  rw [← hra0, ← hrb0]
  have hra : gt (lab xs) p2 = ra := hra0.symm
  have hrb : gt (lab xs) p3 = rb := hrb0.symm
  have ra4 : ra ∈ four := by rw [hra0]; exact ((D1 _ hm).2 _ hp).2
  have rb4 : rb ∈ four := by rw [hrb0]; exact ((D1 _ hm).2 _ hq).2
  refine w_iloadN X15 d4_13 rfl rfl ?_
  refine w_iload X15 d4_14 rfl rfl ?_
  refine w_icmp_ne X15 d4_16 (by decide) (pcT := 21) (pcF := 19) (by decide) rfl (fun c25 => ?_) (fun c25 => ?_)
  · refine w_iloadN X15 d4_21 rfl rfl ?_
    refine w_iload X15 d4_22 rfl rfl ?_
    refine w_icmp_ge X15 d4_24 (by decide) (pcT := 38) (pcF := 27) (by decide) rfl (fun c26 => ?_) (fun c26 => ?_)
    · refine w_aloadN X15 d4_38 rfl rfl rfl ?_
      refine w_getF X15 (host := "") (Or.inl (hw _ (List.mem_of_getElem? (i := 10) rfl))) Via.refl f23 d4_39 rfl fun T27 X28 => ?_
      refine w_iloadN X28 d4_42 rfl rfl ?_
      refine w_iload X28 d4_43 rfl rfl ?_
      refine w_iastore X28 A21 (D0 _ ra4).1 rfl (by rw [List.length_map]; exact (by rw [(D1 _ m18).1]; exact (D0 _ ra4).2.1)) g_p d4_45 rfl fun T29 h32 X30 W31 A33 => ?_
      rw [← List.map_set] at A33
      obtain ⟨xs34, hxs34⟩ : ∃ z, z = (xs17.set (ra).toNatClampNeg rb) := ⟨_, rfl⟩
      rw [← hxs34] at A33
      have f35 : Exa Z h32 o1 "com/example/credence/credence/core/UnionFind" := Exa.wr W31 f22
      have f36 : Fld Z h32 o1 "com/example/credence/credence/core/UnionFind" "parent" "[I" (.ref pa) := Fld.other W31 f23 (Or.inl ne_p)
      have f37 : AV Z h32 pa .int (xs34.map Value.int) := A33
      have k38 : Keep h0 h32 [pa] := k24.wr W31 (Or.inl (List.mem_of_getElem? (i := 0) rfl))
      refine w_iconst X30 d4_46 (v := (1 : Int32)) rfl rfl ?_
      obtain ⟨u1, u2⟩ := D4 _ m18 p2 hp p3 hq (by rw [lb0]; exact (fun q => c25 (hra.symm.trans (q.trans hrb))))
      rw [lb0, hra, hrb] at u1 u2
      obtain ⟨v1, v2⟩ := u2 c26
      rw [← hxs34] at v1 v2
      exact w_nreturn X30 (t := .boolean) (by simp) d4_47 (by rw [if_neg (fun q => c25 (hra.symm.trans (q.trans hrb)))]; rfl) ⟨_, v1, v2, k38, f37⟩ (by decide) (by decide)
    · refine w_aloadN X15 d4_27 rfl rfl rfl ?_
      refine w_getF X15 (host := "") (Or.inl (hw _ (List.mem_of_getElem? (i := 10) rfl))) Via.refl f23 d4_28 rfl fun T39 X40 => ?_
      refine w_iload X40 d4_31 rfl rfl ?_
      refine w_iloadN X40 d4_33 rfl rfl ?_
      refine w_iastore X40 A21 (D0 _ rb4).1 rfl (by rw [List.length_map]; exact (by rw [(D1 _ m18).1]; exact (D0 _ rb4).2.1)) g_p d4_34 rfl fun T41 h44 X42 W43 A45 => ?_
      rw [← List.map_set] at A45
      obtain ⟨xs46, hxs46⟩ : ∃ z, z = (xs17.set (rb).toNatClampNeg ra) := ⟨_, rfl⟩
      rw [← hxs46] at A45
      have f47 : Exa Z h44 o1 "com/example/credence/credence/core/UnionFind" := Exa.wr W43 f22
      have f48 : Fld Z h44 o1 "com/example/credence/credence/core/UnionFind" "parent" "[I" (.ref pa) := Fld.other W43 f23 (Or.inl ne_p)
      have f49 : AV Z h44 pa .int (xs46.map Value.int) := A45
      have k50 : Keep h0 h44 [pa] := k24.wr W43 (Or.inl (List.mem_of_getElem? (i := 0) rfl))
      refine w_goto X42 d4_35 (by decide) (pc' := 46) (by decide) ?_
      refine w_iconst X42 d4_46 (v := (1 : Int32)) rfl rfl ?_
      obtain ⟨u1, u2⟩ := D4 _ m18 p2 hp p3 hq (by rw [lb0]; exact (fun q => c25 (hra.symm.trans (q.trans hrb))))
      rw [lb0, hra, hrb] at u1 u2
      obtain ⟨v1, v2⟩ := u1 c26
      rw [← hxs46] at v1 v2
      exact w_nreturn X42 (t := .boolean) (by simp) d4_47 (by rw [if_neg (fun q => c25 (hra.symm.trans (q.trans hrb)))]; rfl) ⟨_, v1, v2, k50, f49⟩ (by decide) (by decide)
  · refine w_iconst X15 d4_19 (v := (0 : Int32)) rfl rfl ?_
    exact w_nreturn X15 (t := .boolean) (by simp) d4_20 (by rw [if_pos (hra.trans (c25.trans hrb.symm))]; rfl) ⟨_, m18, (by rw [lb0]; exact (if_pos (hra.trans (c25.trans hrb.symm))).symm), k24, A21⟩ (by decide) (by decide)
theorem d1_0 : decode prog_37_method_1_code 0 = .ok (.aload_n 0, 1) := by decide +kernel
theorem d1_1 : decode prog_37_method_1_code 1 = .ok (.invokespecial 1, 3) := by decide +kernel
theorem d1_4 : decode prog_37_method_1_code 4 = .ok (.aload_n 0, 1) := by decide +kernel
theorem d1_5 : decode prog_37_method_1_code 5 = .ok (.iload_n 1, 1) := by decide +kernel
theorem d1_6 : decode prog_37_method_1_code 6 = .ok (.newarray .int, 2) := by decide +kernel
theorem d1_8 : decode prog_37_method_1_code 8 = .ok (.putfield 7, 3) := by decide +kernel
theorem d1_11 : decode prog_37_method_1_code 11 = .ok (.iconst 0, 1) := by decide +kernel
theorem d1_12 : decode prog_37_method_1_code 12 = .ok (.istore_n 2, 1) := by decide +kernel
theorem d1_13 : decode prog_37_method_1_code 13 = .ok (.iload_n 2, 1) := by decide +kernel
theorem d1_14 : decode prog_37_method_1_code 14 = .ok (.iload_n 1, 1) := by decide +kernel
theorem d1_15 : decode prog_37_method_1_code 15 = .ok (.if_icmp .ge 16, 3) := by decide +kernel
theorem d1_18 : decode prog_37_method_1_code 18 = .ok (.aload_n 0, 1) := by decide +kernel
theorem d1_19 : decode prog_37_method_1_code 19 = .ok (.getfield 7, 3) := by decide +kernel
theorem d1_22 : decode prog_37_method_1_code 22 = .ok (.iload_n 2, 1) := by decide +kernel
theorem d1_23 : decode prog_37_method_1_code 23 = .ok (.iload_n 2, 1) := by decide +kernel
theorem d1_24 : decode prog_37_method_1_code 24 = .ok (.iastore, 1) := by decide +kernel
theorem d1_25 : decode prog_37_method_1_code 25 = .ok (.iinc 2 1, 3) := by decide +kernel
theorem d1_28 : decode prog_37_method_1_code 28 = .ok (.goto (-15), 3) := by decide +kernel
theorem d1_31 : decode prog_37_method_1_code 31 = .ok (.return_, 1) := by decide +kernel
theorem pn_1 : plainName "com/example/credence/credence/core/UnionFind" = true := by first | (simp [plainName, overriddenIn]; done) | decide +kernel
theorem ef_1 (m : MethodId) (o1 : Addr) (p2 : Int32) : entryFrame m #[(.ref o1), (.int p2)] 3 = mkF m 0 #[.val (.ref o1), .val (.int p2), .unset] [] := by first | (simp [entryFrame, mkF, argsToLocals, Value.category]; done) | rfl
set_option maxRecDepth 65536 in
set_option maxHeartbeats 4000000 in
theorem rm_init (l : Launch) (Z : State) (a0 : Array Value) (hw : ∀ d ∈ tables_1, d.before a0 Z = true) (o1 : Addr) (h0 : Heap) (n0 : Nat) (Z0 : n0 ≤ h0.size) (E_p : Exa Z h0 o1 "com/example/credence/credence/core/UnionFind") (F_p : Fld Z h0 o1 "com/example/credence/credence/core/UnionFind" "parent" "[I" .null) (g_o1 : n0 ≤ o1) :
    Con l Z (⟨"com/example/credence/credence/core/UnionFind", "<init>", "(I)V"⟩ : MethodName) prog_37_method_1_code 3 none ({ frames := 1, cells := 1, slots := 4, locals := 12 } : Room) #[(.ref o1), (.int (4 : Int32))] h0 n0 none (fun h => ∃ pa, n0 ≤ pa ∧ h0.size ≤ pa ∧ Keep h0 h [o1] ∧ Exa Z h o1 "com/example/credence/credence/core/UnionFind" ∧ Fld Z h o1 "com/example/credence/credence/core/UnionFind" "parent" "[I" (.ref pa) ∧ AV Z h pa .int (([0, 1, 2, 3] : List Int32).map Value.int)) := by
  refine con_of (plainFor_of_name pn_1) Z0 (fun m => ef_1 m o1 (4 : Int32)) ?_
  intro p e s m below meth c T0 X0
  refine w_aloadN X0 d1_0 rfl rfl rfl ?_
  refine w_initO X0 (W := 0) (hw _ (List.mem_of_getElem? (i := 6) rfl)) (hw _ (List.mem_of_getElem? (i := 7) rfl)) (hw _ (List.mem_of_getElem? (i := 8) rfl)) rfl rfl (by decide) (by decide) d1_1 rfl fun T1 X2 => ?_
  refine w_aloadN X2 d1_4 rfl rfl rfl ?_
  refine w_iloadN X2 d1_5 rfl rfl ?_
  refine w_newP X2 (hw _ (List.mem_of_getElem? (i := 9) rfl)) (by decide) (k := 4) (by decide) (cap := 4) (by decide) (by decide) (by decide) (by decide) d1_6 rfl fun T3 h5 a6 X4 ga7 gn8 E9 A10 => ?_
  have ne11 : o1 ≠ a6 := by rw [ga7]; exact Nat.ne_of_lt E_p.lt
  have g012 : h0.size ≤ a6 := by rw [ga7]; exact (Keep.refl h0 [o1]).1
  have f13 : Exa Z h5 o1 "com/example/credence/credence/core/UnionFind" := Exa.ext E9 E_p
  have f14 : Fld Z h5 o1 "com/example/credence/credence/core/UnionFind" "parent" "[I" .null := Fld.ext E9 F_p
  have k15 : Keep h0 h5 [o1] := (Keep.refl h0 [o1]).ext E9
  have f16 : AV Z h5 a6 .int [(.int (0 : Int32)), (.int (0 : Int32)), (.int (0 : Int32)), (.int (0 : Int32))] := A10
  refine w_putF X4 (host := "") (Or.inl (hw _ (List.mem_of_getElem? (i := 10) rfl))) Via.refl f14 f13 (Or.inr ⟨(hw _ (List.mem_of_getElem? (i := 11) rfl)), rfl, rfl⟩) (hw _ (List.mem_of_getElem? (i := 1) rfl)) (ty := (.array .int)) (by decide) rfl rfl g_o1 d1_8 rfl fun T17 h20 X18 W19 => ?_
  have f21 : Exa Z h20 o1 "com/example/credence/credence/core/UnionFind" := Exa.wr W19 f13
  have f22 : Fld Z h20 o1 "com/example/credence/credence/core/UnionFind" "parent" "[I" (.ref a6) := Fld.same W19 f14
  have f23 : AV Z h20 a6 .int [(.int (0 : Int32)), (.int (0 : Int32)), (.int (0 : Int32)), (.int (0 : Int32))] := f16.other W19 (Ne.symm ne11)
  have k24 : Keep h0 h20 [o1] := k15.wr W19 (Or.inl (List.mem_of_getElem? (i := 0) rfl))
  refine w_iconst X18 d1_11 (v := (0 : Int32)) rfl rfl ?_
  refine w_istoreN X18 d1_12 rfl (L' := #[.val (.ref o1), .val (.int (4 : Int32)), .val (.int (0 : Int32))]) rfl ?_
  refine w_iloadN X18 d1_13 rfl rfl ?_
  refine w_iloadN X18 d1_14 rfl rfl ?_
  refine w_icmp_ge X18 d1_15 (by decide) (pcT := 31) (pcF := 18) (by decide) rfl (fun c25 => absurd c25 (by decide)) (fun c25 => ?_)
  refine w_aloadN X18 d1_18 rfl rfl rfl ?_
  refine w_getF X18 (host := "") (Or.inl (hw _ (List.mem_of_getElem? (i := 10) rfl))) Via.refl f22 d1_19 rfl fun T26 X27 => ?_
  refine w_iloadN X27 d1_22 rfl rfl ?_
  refine w_iloadN X27 d1_23 rfl rfl ?_
  refine w_iastore X27 f23 (by decide) (i := 0) (by decide) (Nat.le_of_ble_eq_true rfl) gn8 d1_24 rfl fun T28 h31 X29 W30 A32 => ?_
  have f33 : Exa Z h31 o1 "com/example/credence/credence/core/UnionFind" := Exa.wr W30 f21
  have f34 : Fld Z h31 o1 "com/example/credence/credence/core/UnionFind" "parent" "[I" (.ref a6) := Fld.other W30 f22 (Or.inl ne11)
  have f35 : AV Z h31 a6 .int [(.int (0 : Int32)), (.int (0 : Int32)), (.int (0 : Int32)), (.int (0 : Int32))] := A32
  have k36 : Keep h0 h31 [o1] := k24.wr W30 (Or.inr g012)
  refine w_iinc X29 d1_25 rfl rfl (v' := (1 : Int32)) rfl (L' := #[.val (.ref o1), .val (.int (4 : Int32)), .val (.int (1 : Int32))]) rfl ?_
  refine w_goto X29 d1_28 (by decide) (pc' := 13) (by decide) ?_
  refine w_iloadN X29 d1_13 rfl rfl ?_
  refine w_iloadN X29 d1_14 rfl rfl ?_
  refine w_icmp_ge X29 d1_15 (by decide) (pcT := 31) (pcF := 18) (by decide) rfl (fun c37 => absurd c37 (by decide)) (fun c37 => ?_)
  refine w_aloadN X29 d1_18 rfl rfl rfl ?_
  refine w_getF X29 (host := "") (Or.inl (hw _ (List.mem_of_getElem? (i := 10) rfl))) Via.refl f34 d1_19 rfl fun T38 X39 => ?_
  refine w_iloadN X39 d1_22 rfl rfl ?_
  refine w_iloadN X39 d1_23 rfl rfl ?_
  refine w_iastore X39 f35 (by decide) (i := 1) (by decide) (Nat.le_of_ble_eq_true rfl) gn8 d1_24 rfl fun T40 h43 X41 W42 A44 => ?_
  have f45 : Exa Z h43 o1 "com/example/credence/credence/core/UnionFind" := Exa.wr W42 f33
  have f46 : Fld Z h43 o1 "com/example/credence/credence/core/UnionFind" "parent" "[I" (.ref a6) := Fld.other W42 f34 (Or.inl ne11)
  have f47 : AV Z h43 a6 .int [(.int (0 : Int32)), (.int (1 : Int32)), (.int (0 : Int32)), (.int (0 : Int32))] := A44
  have k48 : Keep h0 h43 [o1] := k36.wr W42 (Or.inr g012)
  refine w_iinc X41 d1_25 rfl rfl (v' := (2 : Int32)) rfl (L' := #[.val (.ref o1), .val (.int (4 : Int32)), .val (.int (2 : Int32))]) rfl ?_
  refine w_goto X41 d1_28 (by decide) (pc' := 13) (by decide) ?_
  refine w_iloadN X41 d1_13 rfl rfl ?_
  refine w_iloadN X41 d1_14 rfl rfl ?_
  refine w_icmp_ge X41 d1_15 (by decide) (pcT := 31) (pcF := 18) (by decide) rfl (fun c49 => absurd c49 (by decide)) (fun c49 => ?_)
  refine w_aloadN X41 d1_18 rfl rfl rfl ?_
  refine w_getF X41 (host := "") (Or.inl (hw _ (List.mem_of_getElem? (i := 10) rfl))) Via.refl f46 d1_19 rfl fun T50 X51 => ?_
  refine w_iloadN X51 d1_22 rfl rfl ?_
  refine w_iloadN X51 d1_23 rfl rfl ?_
  refine w_iastore X51 f47 (by decide) (i := 2) (by decide) (Nat.le_of_ble_eq_true rfl) gn8 d1_24 rfl fun T52 h55 X53 W54 A56 => ?_
  have f57 : Exa Z h55 o1 "com/example/credence/credence/core/UnionFind" := Exa.wr W54 f45
  have f58 : Fld Z h55 o1 "com/example/credence/credence/core/UnionFind" "parent" "[I" (.ref a6) := Fld.other W54 f46 (Or.inl ne11)
  have f59 : AV Z h55 a6 .int [(.int (0 : Int32)), (.int (1 : Int32)), (.int (2 : Int32)), (.int (0 : Int32))] := A56
  have k60 : Keep h0 h55 [o1] := k48.wr W54 (Or.inr g012)
  refine w_iinc X53 d1_25 rfl rfl (v' := (3 : Int32)) rfl (L' := #[.val (.ref o1), .val (.int (4 : Int32)), .val (.int (3 : Int32))]) rfl ?_
  refine w_goto X53 d1_28 (by decide) (pc' := 13) (by decide) ?_
  refine w_iloadN X53 d1_13 rfl rfl ?_
  refine w_iloadN X53 d1_14 rfl rfl ?_
  refine w_icmp_ge X53 d1_15 (by decide) (pcT := 31) (pcF := 18) (by decide) rfl (fun c61 => absurd c61 (by decide)) (fun c61 => ?_)
  refine w_aloadN X53 d1_18 rfl rfl rfl ?_
  refine w_getF X53 (host := "") (Or.inl (hw _ (List.mem_of_getElem? (i := 10) rfl))) Via.refl f58 d1_19 rfl fun T62 X63 => ?_
  refine w_iloadN X63 d1_22 rfl rfl ?_
  refine w_iloadN X63 d1_23 rfl rfl ?_
  refine w_iastore X63 f59 (by decide) (i := 3) (by decide) (Nat.le_of_ble_eq_true rfl) gn8 d1_24 rfl fun T64 h67 X65 W66 A68 => ?_
  have f69 : Exa Z h67 o1 "com/example/credence/credence/core/UnionFind" := Exa.wr W66 f57
  have f70 : Fld Z h67 o1 "com/example/credence/credence/core/UnionFind" "parent" "[I" (.ref a6) := Fld.other W66 f58 (Or.inl ne11)
  have f71 : AV Z h67 a6 .int [(.int (0 : Int32)), (.int (1 : Int32)), (.int (2 : Int32)), (.int (3 : Int32))] := A68
  have k72 : Keep h0 h67 [o1] := k60.wr W66 (Or.inr g012)
  refine w_iinc X65 d1_25 rfl rfl (v' := (4 : Int32)) rfl (L' := #[.val (.ref o1), .val (.int (4 : Int32)), .val (.int (4 : Int32))]) rfl ?_
  refine w_goto X65 d1_28 (by decide) (pc' := 13) (by decide) ?_
  refine w_iloadN X65 d1_13 rfl rfl ?_
  refine w_iloadN X65 d1_14 rfl rfl ?_
  refine w_icmp_ge X65 d1_15 (by decide) (pcT := 31) (pcF := 18) (by decide) rfl (fun c73 => ?_) (fun c73 => absurd c73 (by decide))
  exact w_return X65 d1_31 rfl ⟨a6, gn8, g012, k72, f69, f70, f71⟩ (by decide) (by decide)
def f_min (p1 : Int32) (p2 : Int32) : Int32 :=
  (if p2 < p1 then p2 else p1)
theorem d6_0 : decode jdk_29_method_69_code 0 = .ok (.iload_n 0, 1) := by decide +kernel
theorem d6_1 : decode jdk_29_method_69_code 1 = .ok (.iload_n 1, 1) := by decide +kernel
theorem d6_2 : decode jdk_29_method_69_code 2 = .ok (.if_icmp .gt 7, 3) := by decide +kernel
theorem d6_5 : decode jdk_29_method_69_code 5 = .ok (.iload_n 0, 1) := by decide +kernel
theorem d6_6 : decode jdk_29_method_69_code 6 = .ok (.goto 4, 3) := by decide +kernel
theorem d6_9 : decode jdk_29_method_69_code 9 = .ok (.iload_n 1, 1) := by decide +kernel
theorem d6_10 : decode jdk_29_method_69_code 10 = .ok (.ireturn, 1) := by decide +kernel
theorem ef_6 (m : MethodId) (p1 : Int32) (p2 : Int32) : entryFrame m #[(.int p1), (.int p2)] 2 = mkF m 0 #[.val (.int p1), .val (.int p2)] [] := by first | (simp [entryFrame, mkF, argsToLocals, Value.category]; done) | rfl
set_option maxRecDepth 65536 in
set_option maxHeartbeats 4000000 in
theorem rm6 (l : Launch) (Z : State) (a0 : Array Value) (hw : ∀ d ∈ tables_1, d.before a0 Z = true) (p1 : Int32) (p2 : Int32) (h0 : Heap) (n0 : Nat) (Z0 : n0 ≤ h0.size) :
    Con l Z (⟨"java/lang/Math", "min", "(II)I"⟩ : MethodName) jdk_29_method_69_code 2 (some .int) ({ frames := 0, cells := 0, slots := 0, locals := 0 } : Room) #[(.int p1), (.int p2)] h0 n0 (some (.int (f_min p1 p2))) (fun h => h = h0) := by
  refine con_of (Jvm.Free.JP.mathPlain rfl (by decide +kernel)) Z0 (fun m => ef_6 m p1 p2) ?_
  intro p e s m below meth c T0 X0
  refine w_iloadN X0 d6_0 rfl rfl ?_
  refine w_iloadN X0 d6_1 rfl rfl ?_
  suffices j4 : ∀ (T2 : State) (z1 : Int32), (Wk p l e ({ frames := 0, cells := 0, slots := 0, locals := 0 } : Room) s m #[(.int p1), (.int p2)] below meth c Z n0 (⟨"java/lang/Math", "min", "(II)I"⟩ : MethodName) jdk_29_method_69_code 2 (some .int) T2 0 0 h0) → (z1 = (if p2 < p1 then p2 else p1)) → Goes p e below (Done below s n0 ({ frames := 0, cells := 0, slots := 0, locals := 0 } : Room) (some (.int (f_min p1 p2))) (fun h => h = h0)) T2 m 10 #[.val (.int p1), .val (.int p2)] [(.int z1)] by
    refine w_icmp_gt X0 d6_2 (by decide) (pcT := 9) (pcF := 5) (by decide) rfl (fun c5 => ?_) (fun c5 => ?_)
    · refine w_iloadN X0 d6_9 rfl rfl ?_
      exact j4 _ _ X0 (by rw [if_pos c5])
    · refine w_iloadN X0 d6_5 rfl rfl ?_
      refine w_goto X0 d6_6 (by decide) (pc' := 10) (by decide) ?_
      exact j4 _ _ X0 (by rw [if_neg c5])
  intro T2 z1 X3 hz1
  exact w_ireturn X3 d6_10 (by subst hz1; unfold f_min; rfl) rfl (by decide) (by decide)
def f_max (p1 : Int32) (p2 : Int32) : Int32 :=
  (if p1 < p2 then p2 else p1)
theorem d7_0 : decode jdk_29_method_65_code 0 = .ok (.iload_n 0, 1) := by decide +kernel
theorem d7_1 : decode jdk_29_method_65_code 1 = .ok (.iload_n 1, 1) := by decide +kernel
theorem d7_2 : decode jdk_29_method_65_code 2 = .ok (.if_icmp .lt 7, 3) := by decide +kernel
theorem d7_5 : decode jdk_29_method_65_code 5 = .ok (.iload_n 0, 1) := by decide +kernel
theorem d7_6 : decode jdk_29_method_65_code 6 = .ok (.goto 4, 3) := by decide +kernel
theorem d7_9 : decode jdk_29_method_65_code 9 = .ok (.iload_n 1, 1) := by decide +kernel
theorem d7_10 : decode jdk_29_method_65_code 10 = .ok (.ireturn, 1) := by decide +kernel
theorem ef_7 (m : MethodId) (p1 : Int32) (p2 : Int32) : entryFrame m #[(.int p1), (.int p2)] 2 = mkF m 0 #[.val (.int p1), .val (.int p2)] [] := by first | (simp [entryFrame, mkF, argsToLocals, Value.category]; done) | rfl
set_option maxRecDepth 65536 in
set_option maxHeartbeats 4000000 in
theorem rm7 (l : Launch) (Z : State) (a0 : Array Value) (hw : ∀ d ∈ tables_1, d.before a0 Z = true) (p1 : Int32) (p2 : Int32) (h0 : Heap) (n0 : Nat) (Z0 : n0 ≤ h0.size) :
    Con l Z (⟨"java/lang/Math", "max", "(II)I"⟩ : MethodName) jdk_29_method_65_code 2 (some .int) ({ frames := 0, cells := 0, slots := 0, locals := 0 } : Room) #[(.int p1), (.int p2)] h0 n0 (some (.int (f_max p1 p2))) (fun h => h = h0) := by
  refine con_of (Jvm.Free.JP.mathPlain rfl (by decide +kernel)) Z0 (fun m => ef_7 m p1 p2) ?_
  intro p e s m below meth c T0 X0
  refine w_iloadN X0 d7_0 rfl rfl ?_
  refine w_iloadN X0 d7_1 rfl rfl ?_
  suffices j4 : ∀ (T2 : State) (z1 : Int32), (Wk p l e ({ frames := 0, cells := 0, slots := 0, locals := 0 } : Room) s m #[(.int p1), (.int p2)] below meth c Z n0 (⟨"java/lang/Math", "max", "(II)I"⟩ : MethodName) jdk_29_method_65_code 2 (some .int) T2 0 0 h0) → (z1 = (if p1 < p2 then p2 else p1)) → Goes p e below (Done below s n0 ({ frames := 0, cells := 0, slots := 0, locals := 0 } : Room) (some (.int (f_max p1 p2))) (fun h => h = h0)) T2 m 10 #[.val (.int p1), .val (.int p2)] [(.int z1)] by
    refine w_icmp_lt X0 d7_2 (by decide) (pcT := 9) (pcF := 5) (by decide) rfl (fun c5 => ?_) (fun c5 => ?_)
    · refine w_iloadN X0 d7_9 rfl rfl ?_
      exact j4 _ _ X0 (by rw [if_pos c5])
    · refine w_iloadN X0 d7_5 rfl rfl ?_
      refine w_goto X0 d7_6 (by decide) (pc' := 10) (by decide) ?_
      exact j4 _ _ X0 (by rw [if_neg c5])
  intro T2 z1 X3 hz1
  exact w_ireturn X3 d7_10 (by subst hz1; unfold f_max; rfl) rfl (by decide) (by decide)
def f_rel_o1_0 (p2 : Int32) (p3 : Int32) (e1_0 : Int32) (e1_1 : Int32) (e1_2 : Int32) (e1_3 : Int32) : Int32 :=
  (if e1_0 = p2 then p3 else e1_0)
def f_rel_o1_1 (p2 : Int32) (p3 : Int32) (e1_0 : Int32) (e1_1 : Int32) (e1_2 : Int32) (e1_3 : Int32) : Int32 :=
  (if e1_1 = p2 then p3 else e1_1)
def f_rel_o1_2 (p2 : Int32) (p3 : Int32) (e1_0 : Int32) (e1_1 : Int32) (e1_2 : Int32) (e1_3 : Int32) : Int32 :=
  (if e1_2 = p2 then p3 else e1_2)
def f_rel_o1_3 (p2 : Int32) (p3 : Int32) (e1_0 : Int32) (e1_1 : Int32) (e1_2 : Int32) (e1_3 : Int32) : Int32 :=
  (if e1_3 = p2 then p3 else e1_3)
theorem d8_0 : decode method_4_code 0 = .ok (.aload_n 0, 1) := by decide +kernel
theorem d8_1 : decode method_4_code 1 = .ok (.iconst 0, 1) := by decide +kernel
theorem d8_2 : decode method_4_code 2 = .ok (.iaload, 1) := by decide +kernel
theorem d8_3 : decode method_4_code 3 = .ok (.iload_n 1, 1) := by decide +kernel
theorem d8_4 : decode method_4_code 4 = .ok (.if_icmp .ne 7, 3) := by decide +kernel
theorem d8_7 : decode method_4_code 7 = .ok (.aload_n 0, 1) := by decide +kernel
theorem d8_8 : decode method_4_code 8 = .ok (.iconst 0, 1) := by decide +kernel
theorem d8_9 : decode method_4_code 9 = .ok (.iload_n 2, 1) := by decide +kernel
theorem d8_10 : decode method_4_code 10 = .ok (.iastore, 1) := by decide +kernel
theorem d8_11 : decode method_4_code 11 = .ok (.aload_n 0, 1) := by decide +kernel
theorem d8_12 : decode method_4_code 12 = .ok (.iconst 1, 1) := by decide +kernel
theorem d8_13 : decode method_4_code 13 = .ok (.iaload, 1) := by decide +kernel
theorem d8_14 : decode method_4_code 14 = .ok (.iload_n 1, 1) := by decide +kernel
theorem d8_15 : decode method_4_code 15 = .ok (.if_icmp .ne 7, 3) := by decide +kernel
theorem d8_18 : decode method_4_code 18 = .ok (.aload_n 0, 1) := by decide +kernel
theorem d8_19 : decode method_4_code 19 = .ok (.iconst 1, 1) := by decide +kernel
theorem d8_20 : decode method_4_code 20 = .ok (.iload_n 2, 1) := by decide +kernel
theorem d8_21 : decode method_4_code 21 = .ok (.iastore, 1) := by decide +kernel
theorem d8_22 : decode method_4_code 22 = .ok (.aload_n 0, 1) := by decide +kernel
theorem d8_23 : decode method_4_code 23 = .ok (.iconst 2, 1) := by decide +kernel
theorem d8_24 : decode method_4_code 24 = .ok (.iaload, 1) := by decide +kernel
theorem d8_25 : decode method_4_code 25 = .ok (.iload_n 1, 1) := by decide +kernel
theorem d8_26 : decode method_4_code 26 = .ok (.if_icmp .ne 7, 3) := by decide +kernel
theorem d8_29 : decode method_4_code 29 = .ok (.aload_n 0, 1) := by decide +kernel
theorem d8_30 : decode method_4_code 30 = .ok (.iconst 2, 1) := by decide +kernel
theorem d8_31 : decode method_4_code 31 = .ok (.iload_n 2, 1) := by decide +kernel
theorem d8_32 : decode method_4_code 32 = .ok (.iastore, 1) := by decide +kernel
theorem d8_33 : decode method_4_code 33 = .ok (.aload_n 0, 1) := by decide +kernel
theorem d8_34 : decode method_4_code 34 = .ok (.iconst 3, 1) := by decide +kernel
theorem d8_35 : decode method_4_code 35 = .ok (.iaload, 1) := by decide +kernel
theorem d8_36 : decode method_4_code 36 = .ok (.iload_n 1, 1) := by decide +kernel
theorem d8_37 : decode method_4_code 37 = .ok (.if_icmp .ne 7, 3) := by decide +kernel
theorem d8_40 : decode method_4_code 40 = .ok (.aload_n 0, 1) := by decide +kernel
theorem d8_41 : decode method_4_code 41 = .ok (.iconst 3, 1) := by decide +kernel
theorem d8_42 : decode method_4_code 42 = .ok (.iload_n 2, 1) := by decide +kernel
theorem d8_43 : decode method_4_code 43 = .ok (.iastore, 1) := by decide +kernel
theorem d8_44 : decode method_4_code 44 = .ok (.return_, 1) := by decide +kernel
theorem pn_8 : plainName "com/example/credence/credence/core/UnionFindFindPinLaw" = true := by first | (simp [plainName, overriddenIn]; done) | decide +kernel
theorem ef_8 (m : MethodId) (o1 : Addr) (p2 : Int32) (p3 : Int32) : entryFrame m #[(.ref o1), (.int p2), (.int p3)] 3 = mkF m 0 #[.val (.ref o1), .val (.int p2), .val (.int p3)] [] := by first | (simp [entryFrame, mkF, argsToLocals, Value.category]; done) | rfl
set_option maxRecDepth 65536 in
set_option maxHeartbeats 4000000 in
theorem rm8 (l : Launch) (Z : State) (a0 : Array Value) (hw : ∀ d ∈ tables_1, d.before a0 Z = true) (o1 : Addr) (p2 : Int32) (p3 : Int32) (e1_0 : Int32) (e1_1 : Int32) (e1_2 : Int32) (e1_3 : Int32) (h0 : Heap) (n0 : Nat) (Z0 : n0 ≤ h0.size) (A_o1 : AV Z h0 o1 .int [(.int e1_0), (.int e1_1), (.int e1_2), (.int e1_3)]) (g_o1 : n0 ≤ o1) :
    Con l Z (⟨"com/example/credence/credence/core/UnionFindFindPinLaw", "relabel", "([III)V"⟩ : MethodName) method_4_code 3 none ({ frames := 0, cells := 0, slots := 0, locals := 0 } : Room) #[(.ref o1), (.int p2), (.int p3)] h0 n0 none (fun h => Keep h0 h [o1] ∧ AV Z h o1 .int [(.int (f_rel_o1_0 p2 p3 e1_0 e1_1 e1_2 e1_3)), (.int (f_rel_o1_1 p2 p3 e1_0 e1_1 e1_2 e1_3)), (.int (f_rel_o1_2 p2 p3 e1_0 e1_1 e1_2 e1_3)), (.int (f_rel_o1_3 p2 p3 e1_0 e1_1 e1_2 e1_3))]) := by
  refine con_of (plainFor_of_name pn_8) Z0 (fun m => ef_8 m o1 p2 p3) ?_
  intro p e s m below meth c T0 X0
  refine w_aloadN X0 d8_0 rfl rfl rfl ?_
  refine w_iconst X0 d8_1 (v := (0 : Int32)) rfl rfl ?_
  refine w_iaload X0 A_o1 (by decide) (i := 0) (by decide) rfl d8_2 rfl ?_
  refine w_iloadN X0 d8_3 rfl rfl ?_
  suffices j3 : ∀ (T1 : State) (h4 : Heap) (z5 : Int32), (Wk p l e ({ frames := 0, cells := 0, slots := 0, locals := 0 } : Room) s m #[(.ref o1), (.int p2), (.int p3)] below meth c Z n0 (⟨"com/example/credence/credence/core/UnionFindFindPinLaw", "relabel", "([III)V"⟩ : MethodName) method_4_code 3 none T1 0 0 h4) → (AV Z h4 o1 .int [(.int z5), (.int e1_1), (.int e1_2), (.int e1_3)]) → (Keep h0 h4 [o1]) → (z5 = (if e1_0 = p2 then p3 else e1_0)) → Goes p e below (Done below s n0 ({ frames := 0, cells := 0, slots := 0, locals := 0 } : Room) none (fun h => Keep h0 h [o1] ∧ AV Z h o1 .int [(.int (f_rel_o1_0 p2 p3 e1_0 e1_1 e1_2 e1_3)), (.int (f_rel_o1_1 p2 p3 e1_0 e1_1 e1_2 e1_3)), (.int (f_rel_o1_2 p2 p3 e1_0 e1_1 e1_2 e1_3)), (.int (f_rel_o1_3 p2 p3 e1_0 e1_1 e1_2 e1_3))])) T1 m 11 #[.val (.ref o1), .val (.int p2), .val (.int p3)] [] by
    refine w_icmp_ne X0 d8_4 (by decide) (pcT := 11) (pcF := 7) (by decide) rfl (fun c8 => ?_) (fun c8 => ?_)
    · exact j3 _ _ _ X0 A_o1 (Keep.refl h0 [o1]) (by rw [if_neg c8])
    · refine w_aloadN X0 d8_7 rfl rfl rfl ?_
      refine w_iconst X0 d8_8 (v := (0 : Int32)) rfl rfl ?_
      refine w_iloadN X0 d8_9 rfl rfl ?_
      refine w_iastore X0 A_o1 (by decide) (i := 0) (by decide) (Nat.le_of_ble_eq_true rfl) g_o1 d8_10 rfl fun T9 h12 X10 W11 A13 => ?_
      have f14 : AV Z h12 o1 .int [(.int p3), (.int e1_1), (.int e1_2), (.int e1_3)] := A13
      have k15 : Keep h0 h12 [o1] := (Keep.refl h0 [o1]).wr W11 (Or.inl (List.mem_of_getElem? (i := 0) rfl))
      exact j3 _ _ _ X10 f14 k15 (by rw [if_pos c8])
  intro T1 h4 z5 X2 f6 k7 hz5
  refine w_aloadN X2 d8_11 rfl rfl rfl ?_
  refine w_iconst X2 d8_12 (v := (1 : Int32)) rfl rfl ?_
  refine w_iaload X2 f6 (by decide) (i := 1) (by decide) rfl d8_13 rfl ?_
  refine w_iloadN X2 d8_14 rfl rfl ?_
  suffices j18 : ∀ (T16 : State) (h19 : Heap) (z20 : Int32), (Wk p l e ({ frames := 0, cells := 0, slots := 0, locals := 0 } : Room) s m #[(.ref o1), (.int p2), (.int p3)] below meth c Z n0 (⟨"com/example/credence/credence/core/UnionFindFindPinLaw", "relabel", "([III)V"⟩ : MethodName) method_4_code 3 none T16 0 0 h19) → (AV Z h19 o1 .int [(.int z5), (.int z20), (.int e1_2), (.int e1_3)]) → (Keep h0 h19 [o1]) → (z20 = (if e1_1 = p2 then p3 else e1_1)) → Goes p e below (Done below s n0 ({ frames := 0, cells := 0, slots := 0, locals := 0 } : Room) none (fun h => Keep h0 h [o1] ∧ AV Z h o1 .int [(.int (f_rel_o1_0 p2 p3 e1_0 e1_1 e1_2 e1_3)), (.int (f_rel_o1_1 p2 p3 e1_0 e1_1 e1_2 e1_3)), (.int (f_rel_o1_2 p2 p3 e1_0 e1_1 e1_2 e1_3)), (.int (f_rel_o1_3 p2 p3 e1_0 e1_1 e1_2 e1_3))])) T16 m 22 #[.val (.ref o1), .val (.int p2), .val (.int p3)] [] by
    refine w_icmp_ne X2 d8_15 (by decide) (pcT := 22) (pcF := 18) (by decide) rfl (fun c23 => ?_) (fun c23 => ?_)
    · exact j18 _ _ _ X2 f6 k7 (by rw [if_neg c23])
    · refine w_aloadN X2 d8_18 rfl rfl rfl ?_
      refine w_iconst X2 d8_19 (v := (1 : Int32)) rfl rfl ?_
      refine w_iloadN X2 d8_20 rfl rfl ?_
      refine w_iastore X2 f6 (by decide) (i := 1) (by decide) (Nat.le_of_ble_eq_true rfl) g_o1 d8_21 rfl fun T24 h27 X25 W26 A28 => ?_
      have f29 : AV Z h27 o1 .int [(.int z5), (.int p3), (.int e1_2), (.int e1_3)] := A28
      have k30 : Keep h0 h27 [o1] := k7.wr W26 (Or.inl (List.mem_of_getElem? (i := 0) rfl))
      exact j18 _ _ _ X25 f29 k30 (by rw [if_pos c23])
  intro T16 h19 z20 X17 f21 k22 hz20
  refine w_aloadN X17 d8_22 rfl rfl rfl ?_
  refine w_iconst X17 d8_23 (v := (2 : Int32)) rfl rfl ?_
  refine w_iaload X17 f21 (by decide) (i := 2) (by decide) rfl d8_24 rfl ?_
  refine w_iloadN X17 d8_25 rfl rfl ?_
  suffices j33 : ∀ (T31 : State) (h34 : Heap) (z35 : Int32), (Wk p l e ({ frames := 0, cells := 0, slots := 0, locals := 0 } : Room) s m #[(.ref o1), (.int p2), (.int p3)] below meth c Z n0 (⟨"com/example/credence/credence/core/UnionFindFindPinLaw", "relabel", "([III)V"⟩ : MethodName) method_4_code 3 none T31 0 0 h34) → (AV Z h34 o1 .int [(.int z5), (.int z20), (.int z35), (.int e1_3)]) → (Keep h0 h34 [o1]) → (z35 = (if e1_2 = p2 then p3 else e1_2)) → Goes p e below (Done below s n0 ({ frames := 0, cells := 0, slots := 0, locals := 0 } : Room) none (fun h => Keep h0 h [o1] ∧ AV Z h o1 .int [(.int (f_rel_o1_0 p2 p3 e1_0 e1_1 e1_2 e1_3)), (.int (f_rel_o1_1 p2 p3 e1_0 e1_1 e1_2 e1_3)), (.int (f_rel_o1_2 p2 p3 e1_0 e1_1 e1_2 e1_3)), (.int (f_rel_o1_3 p2 p3 e1_0 e1_1 e1_2 e1_3))])) T31 m 33 #[.val (.ref o1), .val (.int p2), .val (.int p3)] [] by
    refine w_icmp_ne X17 d8_26 (by decide) (pcT := 33) (pcF := 29) (by decide) rfl (fun c38 => ?_) (fun c38 => ?_)
    · exact j33 _ _ _ X17 f21 k22 (by rw [if_neg c38])
    · refine w_aloadN X17 d8_29 rfl rfl rfl ?_
      refine w_iconst X17 d8_30 (v := (2 : Int32)) rfl rfl ?_
      refine w_iloadN X17 d8_31 rfl rfl ?_
      refine w_iastore X17 f21 (by decide) (i := 2) (by decide) (Nat.le_of_ble_eq_true rfl) g_o1 d8_32 rfl fun T39 h42 X40 W41 A43 => ?_
      have f44 : AV Z h42 o1 .int [(.int z5), (.int z20), (.int p3), (.int e1_3)] := A43
      have k45 : Keep h0 h42 [o1] := k22.wr W41 (Or.inl (List.mem_of_getElem? (i := 0) rfl))
      exact j33 _ _ _ X40 f44 k45 (by rw [if_pos c38])
  intro T31 h34 z35 X32 f36 k37 hz35
  refine w_aloadN X32 d8_33 rfl rfl rfl ?_
  refine w_iconst X32 d8_34 (v := (3 : Int32)) rfl rfl ?_
  refine w_iaload X32 f36 (by decide) (i := 3) (by decide) rfl d8_35 rfl ?_
  refine w_iloadN X32 d8_36 rfl rfl ?_
  suffices j48 : ∀ (T46 : State) (h49 : Heap) (z50 : Int32), (Wk p l e ({ frames := 0, cells := 0, slots := 0, locals := 0 } : Room) s m #[(.ref o1), (.int p2), (.int p3)] below meth c Z n0 (⟨"com/example/credence/credence/core/UnionFindFindPinLaw", "relabel", "([III)V"⟩ : MethodName) method_4_code 3 none T46 0 0 h49) → (AV Z h49 o1 .int [(.int z5), (.int z20), (.int z35), (.int z50)]) → (Keep h0 h49 [o1]) → (z50 = (if e1_3 = p2 then p3 else e1_3)) → Goes p e below (Done below s n0 ({ frames := 0, cells := 0, slots := 0, locals := 0 } : Room) none (fun h => Keep h0 h [o1] ∧ AV Z h o1 .int [(.int (f_rel_o1_0 p2 p3 e1_0 e1_1 e1_2 e1_3)), (.int (f_rel_o1_1 p2 p3 e1_0 e1_1 e1_2 e1_3)), (.int (f_rel_o1_2 p2 p3 e1_0 e1_1 e1_2 e1_3)), (.int (f_rel_o1_3 p2 p3 e1_0 e1_1 e1_2 e1_3))])) T46 m 44 #[.val (.ref o1), .val (.int p2), .val (.int p3)] [] by
    refine w_icmp_ne X32 d8_37 (by decide) (pcT := 44) (pcF := 40) (by decide) rfl (fun c53 => ?_) (fun c53 => ?_)
    · exact j48 _ _ _ X32 f36 k37 (by rw [if_neg c53])
    · refine w_aloadN X32 d8_40 rfl rfl rfl ?_
      refine w_iconst X32 d8_41 (v := (3 : Int32)) rfl rfl ?_
      refine w_iloadN X32 d8_42 rfl rfl ?_
      refine w_iastore X32 f36 (by decide) (i := 3) (by decide) (Nat.le_of_ble_eq_true rfl) g_o1 d8_43 rfl fun T54 h57 X55 W56 A58 => ?_
      have f59 : AV Z h57 o1 .int [(.int z5), (.int z20), (.int z35), (.int p3)] := A58
      have k60 : Keep h0 h57 [o1] := k37.wr W56 (Or.inl (List.mem_of_getElem? (i := 0) rfl))
      exact j48 _ _ _ X55 f59 k60 (by rw [if_pos c53])
  intro T46 h49 z50 X47 f51 k52 hz50
  exact w_return X47 d8_44 rfl (by subst hz50 hz35 hz20 hz5; exact ⟨k52, f51⟩) (by decide) (by decide)
theorem own_jeq (ls : List Int32) (a b : Int32) (h : gt ls a = gt ls b) : jn ls a b = ls := by unfold jn; rw [if_pos h]
theorem own_rel (xs : List Int32) (a b : Int32) (h : ¬ gt (lab xs) a = gt (lab xs) b) : jn (lab xs) a b = [f_rel_o1_0 (f_max (gt (lab xs) a) (gt (lab xs) b)) (f_min (gt (lab xs) a) (gt (lab xs) b)) (rt xs 0) (rt xs 1) (rt xs 2) (rt xs 3), f_rel_o1_1 (f_max (gt (lab xs) a) (gt (lab xs) b)) (f_min (gt (lab xs) a) (gt (lab xs) b)) (rt xs 0) (rt xs 1) (rt xs 2) (rt xs 3), f_rel_o1_2 (f_max (gt (lab xs) a) (gt (lab xs) b)) (f_min (gt (lab xs) a) (gt (lab xs) b)) (rt xs 0) (rt xs 1) (rt xs 2) (rt xs 3), f_rel_o1_3 (f_max (gt (lab xs) a) (gt (lab xs) b)) (f_min (gt (lab xs) a) (gt (lab xs) b)) (rt xs 0) (rt xs 1) (rt xs 2) (rt xs 3)] := by
  unfold jn; rw [if_neg h]
  generalize gt (lab xs) a = u at *
  generalize gt (lab xs) b = v at *
  by_cases c : u < v
  · have c2 : ¬ v < u := by rw [Int32.lt_iff_toInt_lt] at c ⊢; omega
    simp only [f_max, f_min, if_pos c, if_neg c2]
    rfl
  · have c2 : v < u := by rw [Int32.lt_iff_toInt_lt] at c ⊢; have : u.toInt ≠ v.toInt := fun q => h (Int32.toInt_inj.mp q)
                          omega
    simp only [f_max, f_min, if_neg c, if_pos c2]
    rfl
theorem d3_0 : decode method_3_code 0 = .ok (.iload_n 2, 1) := by decide +kernel
theorem d3_1 : decode method_3_code 1 = .ok (.iconst 3, 1) := by decide +kernel
theorem d3_2 : decode method_3_code 2 = .ok (.iand, 1) := by decide +kernel
theorem d3_3 : decode method_3_code 3 = .ok (.istore_n 3, 1) := by decide +kernel
theorem d3_4 : decode method_3_code 4 = .ok (.iload_n 2, 1) := by decide +kernel
theorem d3_5 : decode method_3_code 5 = .ok (.iconst 2, 1) := by decide +kernel
theorem d3_6 : decode method_3_code 6 = .ok (.iushr, 1) := by decide +kernel
theorem d3_7 : decode method_3_code 7 = .ok (.iconst 3, 1) := by decide +kernel
theorem d3_8 : decode method_3_code 8 = .ok (.iand, 1) := by decide +kernel
theorem d3_9 : decode method_3_code 9 = .ok (.istore 4, 2) := by decide +kernel
theorem d3_11 : decode method_3_code 11 = .ok (.aload_n 1, 1) := by decide +kernel
theorem d3_12 : decode method_3_code 12 = .ok (.iload_n 3, 1) := by decide +kernel
theorem d3_13 : decode method_3_code 13 = .ok (.iaload, 1) := by decide +kernel
theorem d3_14 : decode method_3_code 14 = .ok (.istore 5, 2) := by decide +kernel
theorem d3_16 : decode method_3_code 16 = .ok (.aload_n 1, 1) := by decide +kernel
theorem d3_17 : decode method_3_code 17 = .ok (.iload 4, 2) := by decide +kernel
theorem d3_19 : decode method_3_code 19 = .ok (.iaload, 1) := by decide +kernel
theorem d3_20 : decode method_3_code 20 = .ok (.istore 6, 2) := by decide +kernel
theorem d3_22 : decode method_3_code 22 = .ok (.aload_n 0, 1) := by decide +kernel
theorem d3_23 : decode method_3_code 23 = .ok (.iload_n 3, 1) := by decide +kernel
theorem d3_24 : decode method_3_code 24 = .ok (.iload 4, 2) := by decide +kernel
theorem d3_26 : decode method_3_code 26 = .ok (.invokevirtual 22, 3) := by decide +kernel
theorem d3_29 : decode method_3_code 29 = .ok (.istore 7, 2) := by decide +kernel
theorem d3_31 : decode method_3_code 31 = .ok (.iload 5, 2) := by decide +kernel
theorem d3_33 : decode method_3_code 33 = .ok (.iload 6, 2) := by decide +kernel
theorem d3_35 : decode method_3_code 35 = .ok (.if_icmp .eq 29, 3) := by decide +kernel
theorem d3_38 : decode method_3_code 38 = .ok (.iload 5, 2) := by decide +kernel
theorem d3_40 : decode method_3_code 40 = .ok (.iload 6, 2) := by decide +kernel
theorem d3_42 : decode method_3_code 42 = .ok (.invokestatic 26, 3) := by decide +kernel
theorem d3_45 : decode method_3_code 45 = .ok (.istore 8, 2) := by decide +kernel
theorem d3_47 : decode method_3_code 47 = .ok (.iload 5, 2) := by decide +kernel
theorem d3_49 : decode method_3_code 49 = .ok (.iload 6, 2) := by decide +kernel
theorem d3_51 : decode method_3_code 51 = .ok (.invokestatic 32, 3) := by decide +kernel
theorem d3_54 : decode method_3_code 54 = .ok (.istore 9, 2) := by decide +kernel
theorem d3_56 : decode method_3_code 56 = .ok (.aload_n 1, 1) := by decide +kernel
theorem d3_57 : decode method_3_code 57 = .ok (.iload 9, 2) := by decide +kernel
theorem d3_59 : decode method_3_code 59 = .ok (.iload 8, 2) := by decide +kernel
theorem d3_61 : decode method_3_code 61 = .ok (.invokestatic 35, 3) := by decide +kernel
theorem d3_64 : decode method_3_code 64 = .ok (.iload 7, 2) := by decide +kernel
theorem d3_66 : decode method_3_code 66 = .ok (.iload 5, 2) := by decide +kernel
theorem d3_68 : decode method_3_code 68 = .ok (.iload 6, 2) := by decide +kernel
theorem d3_70 : decode method_3_code 70 = .ok (.if_icmp .eq 7, 3) := by decide +kernel
theorem d3_73 : decode method_3_code 73 = .ok (.iconst 1, 1) := by decide +kernel
theorem d3_74 : decode method_3_code 74 = .ok (.goto 4, 3) := by decide +kernel
theorem d3_77 : decode method_3_code 77 = .ok (.iconst 0, 1) := by decide +kernel
theorem d3_78 : decode method_3_code 78 = .ok (.if_icmp .ne 7, 3) := by decide +kernel
theorem d3_81 : decode method_3_code 81 = .ok (.iconst 1, 1) := by decide +kernel
theorem d3_82 : decode method_3_code 82 = .ok (.goto 4, 3) := by decide +kernel
theorem d3_86 : decode method_3_code 86 = .ok (.ireturn, 1) := by decide +kernel
theorem pd_1 : parseMethodDescriptor "(II)Z" = some ⟨[.int, .int], some .boolean⟩ := by decide +kernel
theorem pd_2 : parseMethodDescriptor "(II)I" = some ⟨[.int, .int], some .int⟩ := by decide +kernel
theorem pd_3 : parseMethodDescriptor "([III)V" = some ⟨[(.array .int), .int, .int], none⟩ := by decide +kernel
theorem pn_3 : plainName "com/example/credence/credence/core/UnionFindFindPinLaw" = true := by first | (simp [plainName, overriddenIn]; done) | decide +kernel
theorem ef_3 (m : MethodId) (o1 : Addr) (o2 : Addr) (p3 : Int32) : entryFrame m #[(.ref o1), (.ref o2), (.int p3)] 10 = mkF m 0 #[.val (.ref o1), .val (.ref o2), .val (.int p3), .unset, .unset, .unset, .unset, .unset, .unset, .unset] [] := by first | (simp [entryFrame, mkF, argsToLocals, Value.category]; done) | rfl
set_option maxRecDepth 65536 in
set_option maxHeartbeats 40000000 in
theorem rm_step (l : Launch) (Z : State) (a0 : Array Value) (hw : ∀ d ∈ tables_1, d.before a0 Z = true) (o1 : Addr) (o2 : Addr) (p3 : Int32) (pa : Addr) (xs : List Int32) (h0 : Heap) (n0 : Nat) (Z0 : n0 ≤ h0.size) (E_p : Exa Z h0 o1 "com/example/credence/credence/core/UnionFind") (F_p : Fld Z h0 o1 "com/example/credence/credence/core/UnionFind" "parent" "[I" (.ref pa)) (A_p : AV Z h0 pa .int (xs.map Value.int)) (A_l : AV Z h0 o2 .int ((lab xs).map Value.int)) (hm : xs ∈ all) (ne_p : o1 ≠ pa) (ne_l : o1 ≠ o2) (ne_pl : pa ≠ o2) (g_p : n0 ≤ pa) (g_l : n0 ≤ o2) :
    Con l Z (⟨"com/example/credence/credence/core/UnionFindFindPinLaw", "step", "(Lcom/example/credence/credence/core/UnionFind;[II)Z"⟩ : MethodName) method_3_code 10 (some .boolean) ({ frames := 2, cells := 0, slots := 0, locals := 29 } : Room) #[(.ref o1), (.ref o2), (.int p3)] h0 n0 (some (.int 1)) (fun h => ∃ xs', xs' ∈ all ∧ Keep h0 h [pa, o2] ∧ AV Z h pa .int (xs'.map Value.int) ∧ AV Z h o2 .int ((lab xs').map Value.int)) := by
  refine con_of (plainFor_of_name pn_3) Z0 (fun m => ef_3 m o1 o2 p3) ?_
  intro p e s m below meth c T0 X0
  refine w_iloadN X0 d3_0 rfl rfl ?_
  refine w_iconst X0 d3_1 (v := (3 : Int32)) rfl rfl ?_
  refine w_iand X0 d3_2 rfl ?_
  generalize hz1 : (p3 &&& (3 : Int32)) = z1
  refine w_istoreN X0 d3_3 rfl (L' := #[.val (.ref o1), .val (.ref o2), .val (.int p3), .val (.int z1), .unset, .unset, .unset, .unset, .unset, .unset]) rfl ?_
  refine w_iloadN X0 d3_4 rfl rfl ?_
  refine w_iconst X0 d3_5 (v := (2 : Int32)) rfl rfl ?_
  refine w_iushr X0 d3_6 rfl ?_
  refine w_iconst X0 d3_7 (v := (3 : Int32)) rfl rfl ?_
  refine w_iand X0 d3_8 rfl ?_
  generalize hz2 : ((ush p3 (2 : Int32)) &&& (3 : Int32)) = z2
  refine w_istore X0 d3_9 rfl (L' := #[.val (.ref o1), .val (.ref o2), .val (.int p3), .val (.int z1), .val (.int z2), .unset, .unset, .unset, .unset, .unset]) rfl ?_
  refine w_aloadN X0 d3_11 rfl rfl rfl ?_
  refine w_iloadN X0 d3_12 rfl rfl ?_
  refine w_iaload X0 A_l (D0 _ (by rw [← hz1]; exact own_four _)).1 rfl (getI (D0 _ (by rw [← hz1]; exact own_four _)).2.1) d3_13 rfl ?_
  generalize hz3 : ((lab xs).getD (z1).toNatClampNeg 0) = z3
  refine w_istore X0 d3_14 rfl (L' := #[.val (.ref o1), .val (.ref o2), .val (.int p3), .val (.int z1), .val (.int z2), .val (.int z3), .unset, .unset, .unset, .unset]) rfl ?_
  refine w_aloadN X0 d3_16 rfl rfl rfl ?_
  refine w_iload X0 d3_17 rfl rfl ?_
  refine w_iaload X0 A_l (D0 _ (by rw [← hz2]; exact own_four _)).1 rfl (getI (D0 _ (by rw [← hz2]; exact own_four _)).2.1) d3_19 rfl ?_
  generalize hz4 : ((lab xs).getD (z2).toNatClampNeg 0) = z4
  refine w_istore X0 d3_20 rfl (L' := #[.val (.ref o1), .val (.ref o2), .val (.int p3), .val (.int z1), .val (.int z2), .val (.int z3), .val (.int z4), .unset, .unset, .unset]) rfl ?_
  refine w_aloadN X0 d3_22 rfl rfl rfl ?_
  refine w_iloadN X0 d3_23 rfl rfl ?_
  refine w_iload X0 d3_24 rfl rfl ?_
  refine w_virtualV X0 (rm_union l Z a0 hw o1 z1 z2 pa xs h0 n0 X0.size E_p F_p A_p hm (by rw [← hz1]; exact own_four _) (by rw [← hz2]; exact own_four _) ne_p g_p) E_p (hw _ (List.mem_of_getElem? (i := 16) rfl)) (hw _ (List.mem_of_getElem? (i := 17) rfl)) (hw _ (List.mem_of_getElem? (i := 19) rfl)) (hw _ (List.mem_of_getElem? (i := 18) rfl)) (hw _ (List.mem_of_getElem? (i := 2) rfl)) (hw _ (List.mem_of_getElem? (i := 20) rfl)) (by decide) (argsL := [(.int z1), (.int z2)]) (rest := []) rfl (lenOf pd_1 rfl) rfl (W := 0) rfl (by decide) (by decide) (by decide) (by decide) d3_26 rfl fun T5 h6 X7 q8 => ?_
  obtain ⟨xs9, m10, l11, K12, A13⟩ := q8
  have f14 : Exa Z h6 o1 "com/example/credence/credence/core/UnionFind" := E_p.keep K12
  have f15 : Fld Z h6 o1 "com/example/credence/credence/core/UnionFind" "parent" "[I" (.ref pa) := F_p.keep K12 (ninS ne_p nin0)
  have f16 : AV Z h6 o2 .int ((lab xs).map Value.int) := A_l.keep K12 (ninS (Ne.symm ne_pl) nin0)
  have k17 : Keep h0 h6 [pa, o2] := (Keep.refl h0 [pa, o2]).trans K12 (allS (Or.inl (List.mem_of_getElem? (i := 0) rfl)) all0)
  generalize hz18 : (if gt (lab xs) z1 = gt (lab xs) z2 then (0 : Int32) else (1 : Int32)) = z18
  refine w_istore X7 d3_29 rfl (L' := #[.val (.ref o1), .val (.ref o2), .val (.int p3), .val (.int z1), .val (.int z2), .val (.int z3), .val (.int z4), .val (.int z18), .unset, .unset]) rfl ?_
  refine w_iload X7 d3_31 rfl rfl ?_
  refine w_iload X7 d3_33 rfl rfl ?_
  refine w_icmp_eq X7 d3_35 (by decide) (pcT := 64) (pcF := 38) (by decide) rfl (fun c19 => ?_) (fun c19 => ?_)
  · refine w_iload X7 d3_64 rfl rfl ?_
    refine w_iload X7 d3_66 rfl rfl ?_
    refine w_iload X7 d3_68 rfl rfl ?_
    refine w_icmp_eq X7 d3_70 (by decide) (pcT := 77) (pcF := 73) (by decide) rfl (fun c20 => ?_) (fun c20 => ?_)
    · refine w_iconst X7 d3_77 (v := (0 : Int32)) rfl rfl ?_
      refine w_icmp_ne X7 d3_78 (by decide) (pcT := 85) (pcF := 81) (by decide) rfl (fun c21 => ?_) (fun c21 => ?_)
      · exact False.elim (c21 (hz18.symm.trans (if_pos (hz3.trans (c19.trans hz4.symm)))))
      · refine w_iconst X7 d3_81 (v := (1 : Int32)) rfl rfl ?_
        refine w_goto X7 d3_82 (by decide) (pc' := 86) (by decide) ?_
        have gg : gt (lab xs) z1 = gt (lab xs) z2 := (hz3.trans (c19.trans hz4.symm))
        exact w_nreturn X7 (t := .boolean) (by simp) d3_86 rfl ⟨_, m10, k17, A13, (by rw [l11, own_jeq _ _ _ gg]; exact f16)⟩ (by decide) (by decide)
    · exact False.elim (c20 c19)
  · refine w_iload X7 d3_38 rfl rfl ?_
    refine w_iload X7 d3_40 rfl rfl ?_
    refine w_staticVP X7 (rm6 l Z a0 hw z3 z4 h6 n0 X7.size ) (hw _ (List.mem_of_getElem? (i := 26) rfl)) (hw _ (List.mem_of_getElem? (i := 27) rfl)) (hw _ (List.mem_of_getElem? (i := 28) rfl)) (hw _ (List.mem_of_getElem? (i := 29) rfl)) (by decide) (argsL := [(.int z3), (.int z4)]) (rest := []) rfl (lenOf pd_2 rfl) rfl (W := 0) rfl (by decide) (by decide) (by decide) (by decide) d3_42 rfl fun T22 X23 => ?_
    generalize hz24 : (f_min z3 z4) = z24
    refine w_istore X23 d3_45 rfl (L' := #[.val (.ref o1), .val (.ref o2), .val (.int p3), .val (.int z1), .val (.int z2), .val (.int z3), .val (.int z4), .val (.int z18), .val (.int z24), .unset]) rfl ?_
    refine w_iload X23 d3_47 rfl rfl ?_
    refine w_iload X23 d3_49 rfl rfl ?_
    refine w_staticVP X23 (rm7 l Z a0 hw z3 z4 h6 n0 X23.size ) (hw _ (List.mem_of_getElem? (i := 30) rfl)) (hw _ (List.mem_of_getElem? (i := 31) rfl)) (hw _ (List.mem_of_getElem? (i := 28) rfl)) (hw _ (List.mem_of_getElem? (i := 32) rfl)) (by decide) (argsL := [(.int z3), (.int z4)]) (rest := []) rfl (lenOf pd_2 rfl) rfl (W := 0) rfl (by decide) (by decide) (by decide) (by decide) d3_51 rfl fun T25 X26 => ?_
    generalize hz27 : (f_max z3 z4) = z27
    refine w_istore X26 d3_54 rfl (L' := #[.val (.ref o1), .val (.ref o2), .val (.int p3), .val (.int z1), .val (.int z2), .val (.int z3), .val (.int z4), .val (.int z18), .val (.int z24), .val (.int z27)]) rfl ?_
    have f28 : AV Z h6 o2 .int [(.int (rt xs 0)), (.int (rt xs 1)), (.int (rt xs 2)), (.int (rt xs 3))] := f16
    refine w_aloadN X26 d3_56 rfl rfl rfl ?_
    refine w_iload X26 d3_57 rfl rfl ?_
    refine w_iload X26 d3_59 rfl rfl ?_
    refine w_static0 X26 (rm8 l Z a0 hw o2 z27 z24 (rt xs 0) (rt xs 1) (rt xs 2) (rt xs 3) h6 n0 X26.size f28 g_l) (hw _ (List.mem_of_getElem? (i := 33) rfl)) (hw _ (List.mem_of_getElem? (i := 34) rfl)) (hw _ (List.mem_of_getElem? (i := 14) rfl)) (hw _ (List.mem_of_getElem? (i := 35) rfl)) (by decide) (argsL := [(.ref o2), (.int z27), (.int z24)]) (rest := []) rfl (lenOf pd_3 rfl) rfl (W := 0) rfl (by decide) (by decide) (by decide) (by decide) d3_61 rfl fun T29 h30 X31 q32 => ?_
    obtain ⟨K33, f34⟩ := q32
    have f35 : Exa Z h30 o1 "com/example/credence/credence/core/UnionFind" := f14.keep K33
    have f36 : Fld Z h30 o1 "com/example/credence/credence/core/UnionFind" "parent" "[I" (.ref pa) := f15.keep K33 (ninS ne_l nin0)
    have f37 : AV Z h30 pa .int (xs9.map Value.int) := A13.keep K33 (ninS ne_pl nin0)
    have k38 : Keep h0 h30 [pa, o2] := k17.trans K33 (allS (Or.inl (List.mem_of_getElem? (i := 1) rfl)) all0)
    obtain ⟨z39, hz39⟩ : ∃ z, z = (f_rel_o1_0 z27 z24 (rt xs 0) (rt xs 1) (rt xs 2) (rt xs 3)) := ⟨_, rfl⟩
    obtain ⟨z40, hz40⟩ : ∃ z, z = (f_rel_o1_1 z27 z24 (rt xs 0) (rt xs 1) (rt xs 2) (rt xs 3)) := ⟨_, rfl⟩
    obtain ⟨z41, hz41⟩ : ∃ z, z = (f_rel_o1_2 z27 z24 (rt xs 0) (rt xs 1) (rt xs 2) (rt xs 3)) := ⟨_, rfl⟩
    obtain ⟨z42, hz42⟩ : ∃ z, z = (f_rel_o1_3 z27 z24 (rt xs 0) (rt xs 1) (rt xs 2) (rt xs 3)) := ⟨_, rfl⟩
    have f43 : AV Z h30 o2 .int [(.int z39), (.int z40), (.int z41), (.int z42)] := by subst hz42 hz41 hz40 hz39; exact f34
    refine w_iload X31 d3_64 rfl rfl ?_
    refine w_iload X31 d3_66 rfl rfl ?_
    refine w_iload X31 d3_68 rfl rfl ?_
    refine w_icmp_eq X31 d3_70 (by decide) (pcT := 77) (pcF := 73) (by decide) rfl (fun c44 => ?_) (fun c44 => ?_)
    · exact False.elim (c19 c44)
    · refine w_iconst X31 d3_73 (v := (1 : Int32)) rfl rfl ?_
      refine w_goto X31 d3_74 (by decide) (pc' := 78) (by decide) ?_
      refine w_icmp_ne X31 d3_78 (by decide) (pcT := 85) (pcF := 81) (by decide) rfl (fun c45 => ?_) (fun c45 => ?_)
      · exact False.elim (c45 (hz18.symm.trans (if_neg (fun q => c19 (hz3.symm.trans (q.trans hz4))))))
      · refine w_iconst X31 d3_81 (v := (1 : Int32)) rfl rfl ?_
        refine w_goto X31 d3_82 (by decide) (pc' := 86) (by decide) ?_
        have gg : ¬ gt (lab xs) z1 = gt (lab xs) z2 := (fun q => c19 (hz3.symm.trans (q.trans hz4)))
        exact w_nreturn X31 (t := .boolean) (by simp) d3_86 rfl ⟨_, m10, k38, f37, (by rw [l11, own_rel _ _ _ gg]; subst hz42 hz41 hz40 hz39 hz27 hz24 hz18 hz4 hz3 hz2 hz1; exact f43)⟩ (by decide) (by decide)
theorem pd_4 : parseMethodDescriptor "(I)V" = some ⟨[.int], none⟩ := by decide +kernel
theorem pd_5 : parseMethodDescriptor "(Lcom/example/credence/credence/core/UnionFind;[II)Z" = some ⟨[(.object "com/example/credence/credence/core/UnionFind"), (.array .int), .int], some .boolean⟩ := by decide +kernel
theorem pn_0 : plainName "com/example/credence/credence/core/UnionFindFindPinLaw" = true := by first | (simp [plainName, overriddenIn]; done) | decide +kernel
theorem ef_0 (m : MethodId) (p1 : Int32) (p2 : Int32) (p3 : Int32) (p4 : Int32) : entryFrame m #[(.int p1), (.int p2), (.int p3), (.int p4)] maxLocals = mkF m 0 #[.val (.int p1), .val (.int p2), .val (.int p3), .val (.int p4), .unset, .unset, .unset, .unset] [] := by first | (simp [entryFrame, mkF, argsToLocals, Value.category, maxLocals]; done) | rfl
set_option maxRecDepth 65536 in
set_option maxHeartbeats 40000000 in
theorem rm0 (l : Launch) (Z : State) (a0 : Array Value) (hw : ∀ d ∈ tables_1, d.before a0 Z = true) (p1 : Int32) (p2 : Int32) (p3 : Int32) (p4 : Int32) (h0 : Heap) (n0 : Nat) (Z0 : n0 ≤ h0.size) :
    Con l Z x code maxLocals ret room_1 #[(.int p1), (.int p2), (.int p3), (.int p4)] h0 n0 (some (.int 1)) (fun _ => True) := by
  refine con_of (plainFor_of_name pn_0) Z0 (fun m => ef_0 m p1 p2 p3 p4) ?_
  intro p e s m below meth c T0 X0
  refine w_new X0 (hw _ (List.mem_of_getElem? (i := 0) rfl)) (hw _ (List.mem_of_getElem? (i := 1) rfl)) (hw _ (List.mem_of_getElem? (i := 2) rfl)) (by decide) (by decide) at_0 rfl fun T1 h3 a4 X2 ga5 gn6 E7 A8 D9 => ?_
  have g010 : h0.size ≤ a4 := by rw [ga5]; exact (Keep.refl h0 []).1
  have k11 : Keep h0 h3 [] := (Keep.refl h0 []).ext E7
  have f12 : Fld Z h3 a4 "com/example/credence/credence/core/UnionFind" "parent" "[I" .null := D9 (Or.inr (hw _ (List.mem_of_getElem? (i := 11) rfl))) (ty := (.array .int)) (by decide)
  refine w_dup X2 at_3 rfl rfl ?_
  refine w_iconst X2 at_4 (v := (4 : Int32)) rfl rfl ?_
  refine w_special0 X2 (rm_init l Z a0 hw a4 h3 n0 X2.size A8 f12 gn6) rfl (hw _ (List.mem_of_getElem? (i := 3) rfl)) (hw _ (List.mem_of_getElem? (i := 4) rfl)) (hw _ (List.mem_of_getElem? (i := 2) rfl)) (hw _ (List.mem_of_getElem? (i := 5) rfl)) (by decide) (argsL := [(.int (4 : Int32))]) (rest := [(.ref a4)]) rfl (lenOf pd_4 rfl) rfl (W := 1) rfl (by decide) (by decide) (by decide) (by decide) at_5 rfl fun T13 h14 X15 q16 => ?_
  obtain ⟨pa17, g18, g19, K20, E21, F22, A23⟩ := q16
  have ne24 : a4 ≠ pa17 := Nat.ne_of_lt (Nat.lt_of_lt_of_le A8.lt g19)
  have g025 : h0.size ≤ pa17 := Nat.le_trans k11.1 g19
  have f26 : Exa Z h14 a4 "com/example/credence/credence/core/UnionFind" := A8.keep K20
  have k27 : Keep h0 h14 [] := k11.trans K20 (allS (Or.inr g010) all0)
  refine w_astore X15 at_8 rfl rfl (L' := #[.val (.int p1), .val (.int p2), .val (.int p3), .val (.int p4), .val (.ref a4), .unset, .unset, .unset]) rfl ?_
  refine w_iconst X15 at_10 (v := (4 : Int32)) rfl rfl ?_
  refine w_newP X15 (hw _ (List.mem_of_getElem? (i := 9) rfl)) (by decide) (k := 4) (by decide) (cap := 4) (by decide) (by decide) (by decide) (by decide) at_11 rfl fun T28 h30 a31 X29 ga32 gn33 E34 A35 => ?_
  have ne36 : a4 ≠ a31 := by rw [ga32]; exact Nat.ne_of_lt E21.lt
  have ne37 : pa17 ≠ a31 := by rw [ga32]; exact Nat.ne_of_lt A23.lt
  have g038 : h0.size ≤ a31 := by rw [ga32]; exact k27.1
  have f39 : Exa Z h30 a4 "com/example/credence/credence/core/UnionFind" := Exa.ext E34 E21
  have f40 : Fld Z h30 a4 "com/example/credence/credence/core/UnionFind" "parent" "[I" (.ref pa17) := Fld.ext E34 F22
  have f41 : AV Z h30 pa17 .int (([0, 1, 2, 3] : List Int32).map Value.int) := A23.ext E34
  have k42 : Keep h0 h30 [] := k27.ext E34
  have f43 : AV Z h30 a31 .int [(.int (0 : Int32)), (.int (0 : Int32)), (.int (0 : Int32)), (.int (0 : Int32))] := A35
  refine w_dup X29 at_13 rfl rfl ?_
  refine w_iconst X29 at_14 (v := (0 : Int32)) rfl rfl ?_
  refine w_iconst X29 at_15 (v := (0 : Int32)) rfl rfl ?_
  refine w_iastore X29 f43 (by decide) (i := 0) (by decide) (Nat.le_of_ble_eq_true rfl) gn33 at_16 rfl fun T44 h47 X45 W46 A48 => ?_
  have f49 : Exa Z h47 a4 "com/example/credence/credence/core/UnionFind" := Exa.wr W46 f39
  have f50 : Fld Z h47 a4 "com/example/credence/credence/core/UnionFind" "parent" "[I" (.ref pa17) := Fld.other W46 f40 (Or.inl ne36)
  have f51 : AV Z h47 pa17 .int (([0, 1, 2, 3] : List Int32).map Value.int) := f41.other W46 ne37
  have f52 : AV Z h47 a31 .int [(.int (0 : Int32)), (.int (0 : Int32)), (.int (0 : Int32)), (.int (0 : Int32))] := A48
  have k53 : Keep h0 h47 [] := k42.wr W46 (Or.inr g038)
  refine w_dup X45 at_17 rfl rfl ?_
  refine w_iconst X45 at_18 (v := (1 : Int32)) rfl rfl ?_
  refine w_iconst X45 at_19 (v := (1 : Int32)) rfl rfl ?_
  refine w_iastore X45 f52 (by decide) (i := 1) (by decide) (Nat.le_of_ble_eq_true rfl) gn33 at_20 rfl fun T54 h57 X55 W56 A58 => ?_
  have f59 : Exa Z h57 a4 "com/example/credence/credence/core/UnionFind" := Exa.wr W56 f49
  have f60 : Fld Z h57 a4 "com/example/credence/credence/core/UnionFind" "parent" "[I" (.ref pa17) := Fld.other W56 f50 (Or.inl ne36)
  have f61 : AV Z h57 pa17 .int (([0, 1, 2, 3] : List Int32).map Value.int) := f51.other W56 ne37
  have f62 : AV Z h57 a31 .int [(.int (0 : Int32)), (.int (1 : Int32)), (.int (0 : Int32)), (.int (0 : Int32))] := A58
  have k63 : Keep h0 h57 [] := k53.wr W56 (Or.inr g038)
  refine w_dup X55 at_21 rfl rfl ?_
  refine w_iconst X55 at_22 (v := (2 : Int32)) rfl rfl ?_
  refine w_iconst X55 at_23 (v := (2 : Int32)) rfl rfl ?_
  refine w_iastore X55 f62 (by decide) (i := 2) (by decide) (Nat.le_of_ble_eq_true rfl) gn33 at_24 rfl fun T64 h67 X65 W66 A68 => ?_
  have f69 : Exa Z h67 a4 "com/example/credence/credence/core/UnionFind" := Exa.wr W66 f59
  have f70 : Fld Z h67 a4 "com/example/credence/credence/core/UnionFind" "parent" "[I" (.ref pa17) := Fld.other W66 f60 (Or.inl ne36)
  have f71 : AV Z h67 pa17 .int (([0, 1, 2, 3] : List Int32).map Value.int) := f61.other W66 ne37
  have f72 : AV Z h67 a31 .int [(.int (0 : Int32)), (.int (1 : Int32)), (.int (2 : Int32)), (.int (0 : Int32))] := A68
  have k73 : Keep h0 h67 [] := k63.wr W66 (Or.inr g038)
  refine w_dup X65 at_25 rfl rfl ?_
  refine w_iconst X65 at_26 (v := (3 : Int32)) rfl rfl ?_
  refine w_iconst X65 at_27 (v := (3 : Int32)) rfl rfl ?_
  refine w_iastore X65 f72 (by decide) (i := 3) (by decide) (Nat.le_of_ble_eq_true rfl) gn33 at_28 rfl fun T74 h77 X75 W76 A78 => ?_
  have f79 : Exa Z h77 a4 "com/example/credence/credence/core/UnionFind" := Exa.wr W76 f69
  have f80 : Fld Z h77 a4 "com/example/credence/credence/core/UnionFind" "parent" "[I" (.ref pa17) := Fld.other W76 f70 (Or.inl ne36)
  have f81 : AV Z h77 pa17 .int (([0, 1, 2, 3] : List Int32).map Value.int) := f71.other W76 ne37
  have f82 : AV Z h77 a31 .int [(.int (0 : Int32)), (.int (1 : Int32)), (.int (2 : Int32)), (.int (3 : Int32))] := A78
  have k83 : Keep h0 h77 [] := k73.wr W76 (Or.inr g038)
  refine w_astore X75 at_29 rfl rfl (L' := #[.val (.int p1), .val (.int p2), .val (.int p3), .val (.int p4), .val (.ref a4), .val (.ref a31), .unset, .unset]) rfl ?_
  have f84 : AV Z h77 a31 .int ((lab ([0, 1, 2, 3] : List Int32)).map Value.int) := by rw [show lab ([0, 1, 2, 3] : List Int32) = [0, 1, 2, 3] from by decide +kernel]; exact f82
  refine w_iconst X75 at_31 (v := (1 : Int32)) rfl rfl ?_
  refine w_istore X75 at_32 rfl (L' := #[.val (.int p1), .val (.int p2), .val (.int p3), .val (.int p4), .val (.ref a4), .val (.ref a31), .val (.int (1 : Int32)), .unset]) rfl ?_
  refine w_iload X75 at_34 rfl rfl ?_
  refine w_aload X75 at_36 rfl rfl rfl ?_
  refine w_aload X75 at_38 rfl rfl rfl ?_
  refine w_iloadN X75 at_40 rfl rfl ?_
  refine w_staticV X75 (rm_step l Z a0 hw a4 a31 p1 pa17 ([0, 1, 2, 3] : List Int32) h77 n0 X75.size f79 f80 f81 f84 (by decide) ne24 ne36 ne37 g18 gn33) (hw _ (List.mem_of_getElem? (i := 12) rfl)) (hw _ (List.mem_of_getElem? (i := 13) rfl)) (hw _ (List.mem_of_getElem? (i := 14) rfl)) (hw _ (List.mem_of_getElem? (i := 15) rfl)) (by decide) (argsL := [(.ref a4), (.ref a31), (.int p1)]) (rest := [(.int (1 : Int32))]) rfl (lenOf pd_5 rfl) rfl (W := 1) rfl (by decide) (by decide) (by decide) (by decide) at_41 rfl fun T85 h86 X87 q88 => ?_
  obtain ⟨xs89, m90, K91, A92, B93⟩ := q88
  have f94 : Exa Z h86 a4 "com/example/credence/credence/core/UnionFind" := f79.keep K91
  have f95 : Fld Z h86 a4 "com/example/credence/credence/core/UnionFind" "parent" "[I" (.ref pa17) := f80.keep K91 (ninS ne24 (ninS ne36 nin0))
  have k96 : Keep h0 h86 [] := k83.trans K91 (allS (Or.inr g025) (allS (Or.inr g038) all0))
  refine w_iand X87 at_44 rfl ?_
  refine w_istore X87 at_45 rfl (L' := #[.val (.int p1), .val (.int p2), .val (.int p3), .val (.int p4), .val (.ref a4), .val (.ref a31), .val (.int (1 : Int32)), .unset]) rfl ?_
  refine w_iload X87 at_47 rfl rfl ?_
  refine w_aload X87 at_49 rfl rfl rfl ?_
  refine w_aload X87 at_51 rfl rfl rfl ?_
  refine w_iloadN X87 at_53 rfl rfl ?_
  refine w_staticV X87 (rm_step l Z a0 hw a4 a31 p2 pa17 xs89 h86 n0 X87.size f94 f95 A92 B93 m90 ne24 ne36 ne37 g18 gn33) (hw _ (List.mem_of_getElem? (i := 12) rfl)) (hw _ (List.mem_of_getElem? (i := 13) rfl)) (hw _ (List.mem_of_getElem? (i := 14) rfl)) (hw _ (List.mem_of_getElem? (i := 15) rfl)) (by decide) (argsL := [(.ref a4), (.ref a31), (.int p2)]) (rest := [(.int (1 : Int32))]) rfl (lenOf pd_5 rfl) rfl (W := 1) rfl (by decide) (by decide) (by decide) (by decide) at_54 rfl fun T97 h98 X99 q100 => ?_
  obtain ⟨xs101, m102, K103, A104, B105⟩ := q100
  have f106 : Exa Z h98 a4 "com/example/credence/credence/core/UnionFind" := f94.keep K103
  have f107 : Fld Z h98 a4 "com/example/credence/credence/core/UnionFind" "parent" "[I" (.ref pa17) := f95.keep K103 (ninS ne24 (ninS ne36 nin0))
  have k108 : Keep h0 h98 [] := k96.trans K103 (allS (Or.inr g025) (allS (Or.inr g038) all0))
  refine w_iand X99 at_57 rfl ?_
  refine w_istore X99 at_58 rfl (L' := #[.val (.int p1), .val (.int p2), .val (.int p3), .val (.int p4), .val (.ref a4), .val (.ref a31), .val (.int (1 : Int32)), .unset]) rfl ?_
  refine w_iload X99 at_60 rfl rfl ?_
  refine w_aload X99 at_62 rfl rfl rfl ?_
  refine w_aload X99 at_64 rfl rfl rfl ?_
  refine w_iloadN X99 at_66 rfl rfl ?_
  refine w_staticV X99 (rm_step l Z a0 hw a4 a31 p3 pa17 xs101 h98 n0 X99.size f106 f107 A104 B105 m102 ne24 ne36 ne37 g18 gn33) (hw _ (List.mem_of_getElem? (i := 12) rfl)) (hw _ (List.mem_of_getElem? (i := 13) rfl)) (hw _ (List.mem_of_getElem? (i := 14) rfl)) (hw _ (List.mem_of_getElem? (i := 15) rfl)) (by decide) (argsL := [(.ref a4), (.ref a31), (.int p3)]) (rest := [(.int (1 : Int32))]) rfl (lenOf pd_5 rfl) rfl (W := 1) rfl (by decide) (by decide) (by decide) (by decide) at_67 rfl fun T109 h110 X111 q112 => ?_
  obtain ⟨xs113, m114, K115, A116, B117⟩ := q112
  have f118 : Exa Z h110 a4 "com/example/credence/credence/core/UnionFind" := f106.keep K115
  have f119 : Fld Z h110 a4 "com/example/credence/credence/core/UnionFind" "parent" "[I" (.ref pa17) := f107.keep K115 (ninS ne24 (ninS ne36 nin0))
  have k120 : Keep h0 h110 [] := k108.trans K115 (allS (Or.inr g025) (allS (Or.inr g038) all0))
  refine w_iand X111 at_70 rfl ?_
  refine w_istore X111 at_71 rfl (L' := #[.val (.int p1), .val (.int p2), .val (.int p3), .val (.int p4), .val (.ref a4), .val (.ref a31), .val (.int (1 : Int32)), .unset]) rfl ?_
  refine w_iloadN X111 at_73 rfl rfl ?_
  refine w_iconst X111 at_74 (v := (3 : Int32)) rfl rfl ?_
  refine w_iand X111 at_75 rfl ?_
  generalize hz121 : (p4 &&& (3 : Int32)) = z121
  refine w_istore X111 at_76 rfl (L' := #[.val (.int p1), .val (.int p2), .val (.int p3), .val (.int p4), .val (.ref a4), .val (.ref a31), .val (.int (1 : Int32)), .val (.int z121)]) rfl ?_
  refine w_iload X111 at_78 rfl rfl ?_
  refine w_aload X111 at_80 rfl rfl rfl ?_
  refine w_iload X111 at_82 rfl rfl ?_
  refine w_virtualV X111 (rm_find l Z a0 hw a4 z121 pa17 xs113 h110 n0 X111.size f119 A116 m114 (by rw [← hz121]; exact own_four _) ne24 g18) f118 (hw _ (List.mem_of_getElem? (i := 36) rfl)) (hw _ (List.mem_of_getElem? (i := 22) rfl)) (hw _ (List.mem_of_getElem? (i := 24) rfl)) (hw _ (List.mem_of_getElem? (i := 23) rfl)) (hw _ (List.mem_of_getElem? (i := 2) rfl)) (hw _ (List.mem_of_getElem? (i := 25) rfl)) (by decide) (argsL := [(.int z121)]) (rest := [(.int (1 : Int32))]) rfl (lenOf pd_0 rfl) rfl (W := 1) rfl (by decide) (by decide) (by decide) (by decide) at_84 rfl fun T122 h123 X124 q125 => ?_
  obtain ⟨xs126, m127, l128, K129, A130⟩ := q125
  have f131 : Exa Z h123 a4 "com/example/credence/credence/core/UnionFind" := f118.keep K129
  have f132 : Fld Z h123 a4 "com/example/credence/credence/core/UnionFind" "parent" "[I" (.ref pa17) := f119.keep K129 (ninS ne24 nin0)
  have f133 : AV Z h123 a31 .int ((lab xs113).map Value.int) := B117.keep K129 (ninS (Ne.symm ne37) nin0)
  have k134 : Keep h0 h123 [] := k120.trans K129 (allS (Or.inr g025) all0)
  refine w_aload X124 at_87 rfl rfl rfl ?_
  refine w_iload X124 at_89 rfl rfl ?_
  refine w_iaload X124 f133 (D0 _ (by rw [← hz121]; exact own_four _)).1 rfl (getI (D0 _ (by rw [← hz121]; exact own_four _)).2.1) at_91 rfl ?_
  refine w_icmp_ne X124 at_92 (by decide) (pcT := 99) (pcF := 95) (by decide) rfl (fun c135 => ?_) (fun c135 => ?_)
  · exact False.elim (c135 rfl)
  · refine w_iconst X124 at_95 (v := (1 : Int32)) rfl rfl ?_
    refine w_goto X124 at_96 (by decide) (pc' := 100) (by decide) ?_
    refine w_iand X124 at_100 rfl ?_
    refine w_istore X124 at_101 rfl (L' := #[.val (.int p1), .val (.int p2), .val (.int p3), .val (.int p4), .val (.ref a4), .val (.ref a31), .val (.int (1 : Int32)), .val (.int z121)]) rfl ?_
    refine w_iload X124 at_103 rfl rfl ?_
    refine w_aload X124 at_105 rfl rfl rfl ?_
    refine w_iconst X124 at_107 (v := (0 : Int32)) rfl rfl ?_
    refine w_virtualV X124 (rm_find l Z a0 hw a4 (0 : Int32) pa17 xs126 h123 n0 X124.size f132 A130 m127 (by decide) ne24 g18) f131 (hw _ (List.mem_of_getElem? (i := 36) rfl)) (hw _ (List.mem_of_getElem? (i := 22) rfl)) (hw _ (List.mem_of_getElem? (i := 24) rfl)) (hw _ (List.mem_of_getElem? (i := 23) rfl)) (hw _ (List.mem_of_getElem? (i := 2) rfl)) (hw _ (List.mem_of_getElem? (i := 25) rfl)) (by decide) (argsL := [(.int (0 : Int32))]) (rest := [(.int (1 : Int32))]) rfl (lenOf pd_0 rfl) rfl (W := 1) rfl (by decide) (by decide) (by decide) (by decide) at_108 rfl fun T136 h137 X138 q139 => ?_
    obtain ⟨xs140, m141, l142, K143, A144⟩ := q139
    have f145 : Exa Z h137 a4 "com/example/credence/credence/core/UnionFind" := f131.keep K143
    have f146 : Fld Z h137 a4 "com/example/credence/credence/core/UnionFind" "parent" "[I" (.ref pa17) := f132.keep K143 (ninS ne24 nin0)
    have f147 : AV Z h137 a31 .int ((lab xs113).map Value.int) := f133.keep K143 (ninS (Ne.symm ne37) nin0)
    have k148 : Keep h0 h137 [] := k134.trans K143 (allS (Or.inr g025) all0)
    refine w_aload X138 at_111 rfl rfl rfl ?_
    refine w_iconst X138 at_113 (v := (0 : Int32)) rfl rfl ?_
    refine w_iaload X138 f147 (D0 _ (by decide)).1 rfl (getI (D0 _ (by decide)).2.1) at_114 rfl ?_
    refine w_icmp_ne X138 at_115 (by decide) (pcT := 122) (pcF := 118) (by decide) rfl (fun c149 => ?_) (fun c149 => ?_)
    · exact False.elim (c149 (by rw [l128]))
    · refine w_iconst X138 at_118 (v := (1 : Int32)) rfl rfl ?_
      refine w_goto X138 at_119 (by decide) (pc' := 123) (by decide) ?_
      refine w_iand X138 at_123 rfl ?_
      refine w_istore X138 at_124 rfl (L' := #[.val (.int p1), .val (.int p2), .val (.int p3), .val (.int p4), .val (.ref a4), .val (.ref a31), .val (.int (1 : Int32)), .val (.int z121)]) rfl ?_
      refine w_iload X138 at_126 rfl rfl ?_
      refine w_aload X138 at_128 rfl rfl rfl ?_
      refine w_iconst X138 at_130 (v := (1 : Int32)) rfl rfl ?_
      refine w_virtualV X138 (rm_find l Z a0 hw a4 (1 : Int32) pa17 xs140 h137 n0 X138.size f146 A144 m141 (by decide) ne24 g18) f145 (hw _ (List.mem_of_getElem? (i := 36) rfl)) (hw _ (List.mem_of_getElem? (i := 22) rfl)) (hw _ (List.mem_of_getElem? (i := 24) rfl)) (hw _ (List.mem_of_getElem? (i := 23) rfl)) (hw _ (List.mem_of_getElem? (i := 2) rfl)) (hw _ (List.mem_of_getElem? (i := 25) rfl)) (by decide) (argsL := [(.int (1 : Int32))]) (rest := [(.int (1 : Int32))]) rfl (lenOf pd_0 rfl) rfl (W := 1) rfl (by decide) (by decide) (by decide) (by decide) at_131 rfl fun T150 h151 X152 q153 => ?_
      obtain ⟨xs154, m155, l156, K157, A158⟩ := q153
      have f159 : Exa Z h151 a4 "com/example/credence/credence/core/UnionFind" := f145.keep K157
      have f160 : Fld Z h151 a4 "com/example/credence/credence/core/UnionFind" "parent" "[I" (.ref pa17) := f146.keep K157 (ninS ne24 nin0)
      have f161 : AV Z h151 a31 .int ((lab xs113).map Value.int) := f147.keep K157 (ninS (Ne.symm ne37) nin0)
      have k162 : Keep h0 h151 [] := k148.trans K157 (allS (Or.inr g025) all0)
      refine w_aload X152 at_134 rfl rfl rfl ?_
      refine w_iconst X152 at_136 (v := (1 : Int32)) rfl rfl ?_
      refine w_iaload X152 f161 (D0 _ (by decide)).1 rfl (getI (D0 _ (by decide)).2.1) at_137 rfl ?_
      refine w_icmp_ne X152 at_138 (by decide) (pcT := 145) (pcF := 141) (by decide) rfl (fun c163 => ?_) (fun c163 => ?_)
      · exact False.elim (c163 (by rw [l142, l128]))
      · refine w_iconst X152 at_141 (v := (1 : Int32)) rfl rfl ?_
        refine w_goto X152 at_142 (by decide) (pc' := 146) (by decide) ?_
        refine w_iand X152 at_146 rfl ?_
        refine w_istore X152 at_147 rfl (L' := #[.val (.int p1), .val (.int p2), .val (.int p3), .val (.int p4), .val (.ref a4), .val (.ref a31), .val (.int (1 : Int32)), .val (.int z121)]) rfl ?_
        refine w_iload X152 at_149 rfl rfl ?_
        refine w_aload X152 at_151 rfl rfl rfl ?_
        refine w_iconst X152 at_153 (v := (2 : Int32)) rfl rfl ?_
        refine w_virtualV X152 (rm_find l Z a0 hw a4 (2 : Int32) pa17 xs154 h151 n0 X152.size f160 A158 m155 (by decide) ne24 g18) f159 (hw _ (List.mem_of_getElem? (i := 36) rfl)) (hw _ (List.mem_of_getElem? (i := 22) rfl)) (hw _ (List.mem_of_getElem? (i := 24) rfl)) (hw _ (List.mem_of_getElem? (i := 23) rfl)) (hw _ (List.mem_of_getElem? (i := 2) rfl)) (hw _ (List.mem_of_getElem? (i := 25) rfl)) (by decide) (argsL := [(.int (2 : Int32))]) (rest := [(.int (1 : Int32))]) rfl (lenOf pd_0 rfl) rfl (W := 1) rfl (by decide) (by decide) (by decide) (by decide) at_154 rfl fun T164 h165 X166 q167 => ?_
        obtain ⟨xs168, m169, l170, K171, A172⟩ := q167
        have f173 : Exa Z h165 a4 "com/example/credence/credence/core/UnionFind" := f159.keep K171
        have f174 : Fld Z h165 a4 "com/example/credence/credence/core/UnionFind" "parent" "[I" (.ref pa17) := f160.keep K171 (ninS ne24 nin0)
        have f175 : AV Z h165 a31 .int ((lab xs113).map Value.int) := f161.keep K171 (ninS (Ne.symm ne37) nin0)
        have k176 : Keep h0 h165 [] := k162.trans K171 (allS (Or.inr g025) all0)
        refine w_aload X166 at_157 rfl rfl rfl ?_
        refine w_iconst X166 at_159 (v := (2 : Int32)) rfl rfl ?_
        refine w_iaload X166 f175 (D0 _ (by decide)).1 rfl (getI (D0 _ (by decide)).2.1) at_160 rfl ?_
        refine w_icmp_ne X166 at_161 (by decide) (pcT := 168) (pcF := 164) (by decide) rfl (fun c177 => ?_) (fun c177 => ?_)
        · exact False.elim (c177 (by rw [l156, l142, l128]))
        · refine w_iconst X166 at_164 (v := (1 : Int32)) rfl rfl ?_
          refine w_goto X166 at_165 (by decide) (pc' := 169) (by decide) ?_
          refine w_iand X166 at_169 rfl ?_
          refine w_istore X166 at_170 rfl (L' := #[.val (.int p1), .val (.int p2), .val (.int p3), .val (.int p4), .val (.ref a4), .val (.ref a31), .val (.int (1 : Int32)), .val (.int z121)]) rfl ?_
          refine w_iload X166 at_172 rfl rfl ?_
          refine w_aload X166 at_174 rfl rfl rfl ?_
          refine w_iconst X166 at_176 (v := (3 : Int32)) rfl rfl ?_
          refine w_virtualV X166 (rm_find l Z a0 hw a4 (3 : Int32) pa17 xs168 h165 n0 X166.size f174 A172 m169 (by decide) ne24 g18) f173 (hw _ (List.mem_of_getElem? (i := 36) rfl)) (hw _ (List.mem_of_getElem? (i := 22) rfl)) (hw _ (List.mem_of_getElem? (i := 24) rfl)) (hw _ (List.mem_of_getElem? (i := 23) rfl)) (hw _ (List.mem_of_getElem? (i := 2) rfl)) (hw _ (List.mem_of_getElem? (i := 25) rfl)) (by decide) (argsL := [(.int (3 : Int32))]) (rest := [(.int (1 : Int32))]) rfl (lenOf pd_0 rfl) rfl (W := 1) rfl (by decide) (by decide) (by decide) (by decide) at_177 rfl fun T178 h179 X180 q181 => ?_
          obtain ⟨xs182, m183, l184, K185, A186⟩ := q181
          have f187 : Exa Z h179 a4 "com/example/credence/credence/core/UnionFind" := f173.keep K185
          have f188 : Fld Z h179 a4 "com/example/credence/credence/core/UnionFind" "parent" "[I" (.ref pa17) := f174.keep K185 (ninS ne24 nin0)
          have f189 : AV Z h179 a31 .int ((lab xs113).map Value.int) := f175.keep K185 (ninS (Ne.symm ne37) nin0)
          have k190 : Keep h0 h179 [] := k176.trans K185 (allS (Or.inr g025) all0)
          refine w_aload X180 at_180 rfl rfl rfl ?_
          refine w_iconst X180 at_182 (v := (3 : Int32)) rfl rfl ?_
          refine w_iaload X180 f189 (D0 _ (by decide)).1 rfl (getI (D0 _ (by decide)).2.1) at_183 rfl ?_
          refine w_icmp_ne X180 at_184 (by decide) (pcT := 191) (pcF := 187) (by decide) rfl (fun c191 => ?_) (fun c191 => ?_)
          · exact False.elim (c191 (by rw [l170, l156, l142, l128]))
          · refine w_iconst X180 at_187 (v := (1 : Int32)) rfl rfl ?_
            refine w_goto X180 at_188 (by decide) (pc' := 192) (by decide) ?_
            refine w_iand X180 at_192 rfl ?_
            refine w_istore X180 at_193 rfl (L' := #[.val (.int p1), .val (.int p2), .val (.int p3), .val (.int p4), .val (.ref a4), .val (.ref a31), .val (.int (1 : Int32)), .val (.int z121)]) rfl ?_
            refine w_iload X180 at_195 rfl rfl ?_
            exact w_nreturn X180 (t := .boolean) (by simp) at_197 rfl trivial (by decide) (by decide)
set_option maxRecDepth 65536 in
set_option maxHeartbeats 4000000 in
theorem comes_1 {Post : Tables → Env → Array Value → State → Outcome → State → Prop} (hpost : ∀ tb e args s v u, (limb_1_1.after args s (.returned v) u = true ∧ limb_1_2.after args s (.returned v) u = true ∧ True) → FrameEnd s (.returned v) u (Jvm.fieldLocs frame_1_writes args s ++ Jvm.arrayLocs frame_1_arrays args s ++ Jvm.staticLocs frame_1_statics s) 16 128 → Post tb e args s (.returned v) u) :
    ArmFor flags0 classFile x code maxLocals ret World_1 tables_1 room_1 Calls_1 rest_1 Pre_1 Post := by
  intro l hfl _ _ p e ha hc hk s m args below hf hA hF happ hP
  obtain ⟨hcalls, hrest, hpre⟩ := hP
  obtain ⟨-, -, -, hnamed, -, -, -, hat⟩ := (Spec.applies_iff hf).mp happ
  obtain ⟨hg, hn⟩ := and_e (Cond.before_iff.mp (show (Jvm.Cond.and given_1 narrow_1).before args s = true from hpre))
  obtain ⟨gc, hg⟩ := and_e hg
  obtain ⟨g0, hg⟩ := and_e hg
  obtain ⟨g1, hg⟩ := and_e hg
  obtain ⟨g2, hg⟩ := and_e hg
  have g3 := hg
  obtain ⟨w0, w1, w2, w3, rfl⟩ : ∃ w0 w1 w2 w3 : Value, args = #[w0, w1, w2, w3] := by
    have hs : args.size = 4 := by simpa [Cond.value, given_1] using gc
    obtain ⟨L⟩ := args
    match L, hs with
    | [w0, w1, w2, w3], _ => exact ⟨w0, w1, w2, w3, rfl⟩
  have hw := fun d (hd : d ∈ tables_1) => atoms_spec (ws := Jvm.Cond.code x code maxLocals ret :: tables_1) hat d (List.mem_cons_of_mem _ hd)
  obtain ⟨i0, ei0⟩ := is_v g0
  obtain rfl : w0 = (.int i0) := Option.some.inj ei0
  obtain ⟨i1, ei1⟩ := is_v g1
  obtain rfl : w1 = (.int i1) := Option.some.inj ei1
  obtain ⟨i2, ei2⟩ := is_v g2
  obtain rfl : w2 = (.int i2) := Option.some.inj ei2
  obtain ⟨i3, ei3⟩ := is_v g3
  obtain rfl : w3 = (.int i3) := Option.some.inj ei3
  obtain ⟨n, o, h1, h2, h3, _, L, rfl, ⟨rfl, -, N, -⟩, hq⟩ := rm0 l s _ hw i0 i1 i2 i3 s.heap s.heap.size (Nat.le_refl _) tables_1 p e ha hc hk s m _ below hf ((Spec.applies_iff_loose hf).mp happ).1 ⟨rfl, State.Warmed39.refl s, rfl⟩ trivial
  refine ⟨n, _, h1, h2, h3, hpost _ _ _ _ _ _ ⟨Cond.after_iff.mpr rfl, Cond.after_iff.mpr (eq_i res_at (Term.int_eval (1)) rfl), trivial⟩ ⟨hq.1, hq.2.1, (hq.2.2.sift fun y hy => Or.inr (N y hy)).mono (by decide) (by decide)⟩⟩
theorem main_1_1 : Claimed_1_1 := comes_1 fun _ _ _ _ _ _ h hF => ⟨h.1, hF⟩
theorem main_1_2 : Claimed_1_2 := comes_1 fun _ _ _ _ _ _ h hF => ⟨h.2.1, hF⟩
end Jvm.Pilot.@@N@@
namespace Jvm.Pilot.@@N@@
open Jvm Jvm.ClassFile Sem Op Lib Jvm.Free Jvm.Stand Jvm.Pilot.@@N@@.Jvm.D
/-! MADE BY PROGRAM (witnessworld.py) out of the Statement's table words and the real class files: 10 classes; the members and pool entries that the words name. The judged class is class 1, her method 1. -/
namespace start1
open Jvm.ClassFile
def u (s : String) : CpInfo := .utf8 (stringToUtf16 s)
/-- a pool by its gaps: so many unusable entries, then the entry; so many at the end -/
def gap : Nat → List CpInfo → List CpInfo
  | 0, r => r
  | n + 1, r => .unusable :: gap n r
def poolList (es : List (Nat × CpInfo)) (last : Nat) : List CpInfo := es.foldr (fun e r => gap e.1 (e.2 :: r)) (gap last [])
def pool (es : List (Nat × CpInfo)) (last : Nat) : Array CpInfo := ⟨poolList es last⟩
def fileOf (pool : Array CpInfo) (this : Nat) (attrs : Array Attribute := #[]) (ms : Array MethodInfo := #[]) (fl : Nat := 33) (sup : Nat := 0) (ifs : Array Nat := #[]) (fds : Array FieldInfo := #[]) : ClassFile where
  minorVersion := 0
  majorVersion := 65
  constantPool := pool
  accessFlags := fl
  thisClass := this
  superClass := sup
  interfaces := ifs
  fields := fds
  methods := ms
  attributes := attrs
def plain (name : String) (sup : Option ClassId) : Class where
  name := name
  kind := .ordinary
  loader := none
  accessFlags := 33
  super := sup
  interfaces := #[]
  cf := none
  fields := #[]
  methods := #[]
  instanceTypes := #[]
  staticTypes := #[]
  resolved := #[]
  callSites := []
  init := .initialized
  statics := none
  mirror := none

def pool0 : Array CpInfo := pool [(5, u "<init>"), (0, u "()V"), (1, .class_ 10), (1, u "java/lang/Object")] 113

def k0c0 : Code := { maxStack := 0, maxLocals := 1, code := object_method_1_code, exceptionTable := #[], attributes := #[] }
def k0m0 : Method := { name := "<init>", desc := "()V", sig := { parameters := [], returnType := none }, accessFlags := 1, code := some k0c0 }
/-- java/lang/Object -/
def k0 : Class := { plain "java/lang/Object" none with
  accessFlags := 33
  interfaces := #[]
  cf := some (fileOf pool0 8 #[] #[{ accessFlags := 1, nameIndex := 5, descriptorIndex := 6, attributes := #[] }] 33 0 #[] #[])
  fields := #[]
  methods := #[k0m0]
  instanceTypes := #[]
  staticTypes := #[]
  resolved := Array.replicate 124 none
  statics := none }

def pool1 : Array CpInfo := pool [(2, .class_ 4), (1, u "java/lang/Object"), (0, u "<init>"), (0, u "()V"), (0, .class_ 8), (0, u "com/example/credence/credence/core/UnionFind"), (0, .methodref 7 10), (0, .nameAndType 5 11), (0, u "(I)V"), (0, .methodref 13 14), (0, .class_ 15), (0, .nameAndType 16 17), (0, u "com/example/credence/credence/core/UnionFindFindPinLaw"), (0, u "step"), (0, u "(Lcom/example/credence/credence/core/UnionFind;[II)Z"), (0, .methodref 7 19), (0, .nameAndType 20 21), (0, u "find"), (0, u "(I)I"), (0, .methodref 7 23), (0, .nameAndType 24 25), (0, u "union"), (0, u "(II)Z"), (0, .methodref 27 28), (0, .class_ 29), (0, .nameAndType 30 31), (0, u "java/lang/Math"), (0, u "min"), (0, u "(II)I"), (0, .methodref 27 33), (0, .nameAndType 34 31), (0, u "max"), (0, .methodref 13 36), (0, .nameAndType 37 38), (0, u "relabel"), (0, u "([III)V"), (2, u "law"), (0, u "(IIII)Z")] 5

def k1m0 : Method := { name := "<init>", desc := "()V", sig := { parameters := [], returnType := none }, accessFlags := 1, code := none }
def k1c1 : Code := { maxStack := 4, maxLocals := 8, code := code, exceptionTable := #[], attributes := #[] }
def k1m1 : Method := { name := "law", desc := "(IIII)Z", sig := { parameters := [.int, .int, .int, .int], returnType := some .boolean }, accessFlags := 9, code := some k1c1 }
def k1c2 : Code := { maxStack := 3, maxLocals := 10, code := method_3_code, exceptionTable := #[], attributes := #[] }
def k1m2 : Method := { name := "step", desc := "(Lcom/example/credence/credence/core/UnionFind;[II)Z", sig := { parameters := [(.object "com/example/credence/credence/core/UnionFind"), (.array .int), .int], returnType := some .boolean }, accessFlags := 10, code := some k1c2 }
def k1c3 : Code := { maxStack := 3, maxLocals := 3, code := method_4_code, exceptionTable := #[], attributes := #[] }
def k1m3 : Method := { name := "relabel", desc := "([III)V", sig := { parameters := [(.array .int), .int, .int], returnType := none }, accessFlags := 10, code := some k1c3 }
/-- com/example/credence/credence/core/UnionFindFindPinLaw -/
def k1 : Class := { plain "com/example/credence/credence/core/UnionFindFindPinLaw" (some 0) with
  accessFlags := 49
  interfaces := #[]
  cf := some (fileOf pool1 13 #[] #[{ accessFlags := 1, nameIndex := 5, descriptorIndex := 6, attributes := #[] }, { accessFlags := 9, nameIndex := 41, descriptorIndex := 42, attributes := #[] }, { accessFlags := 10, nameIndex := 16, descriptorIndex := 17, attributes := #[] }, { accessFlags := 10, nameIndex := 37, descriptorIndex := 38, attributes := #[] }] 49 2 #[] #[])
  fields := #[]
  methods := #[k1m0, k1m1, k1m2, k1m3]
  instanceTypes := #[]
  staticTypes := #[]
  resolved := Array.replicate 48 none
  statics := none }

def pool2 : Array CpInfo := pool [(1, .methodref 2 3), (0, .class_ 4), (0, .nameAndType 5 6), (0, u "java/lang/Object"), (0, u "<init>"), (0, u "()V"), (0, .fieldref 8 9), (0, .class_ 10), (0, .nameAndType 11 12), (0, u "com/example/credence/credence/core/UnionFind"), (0, u "parent"), (0, u "[I"), (0, .methodref 8 14), (0, .nameAndType 15 16), (0, u "find"), (0, u "(I)I"), (0, u "(I)V"), (3, u "union"), (0, u "(II)Z")] 3

def k2c0 : Code := { maxStack := 3, maxLocals := 3, code := prog_37_method_1_code, exceptionTable := #[], attributes := #[] }
def k2m0 : Method := { name := "<init>", desc := "(I)V", sig := { parameters := [.int], returnType := none }, accessFlags := 0, code := some k2c0 }
def k2c1 : Code := { maxStack := 5, maxLocals := 2, code := prog_37_method_2_code, exceptionTable := #[], attributes := #[] }
def k2m1 : Method := { name := "find", desc := "(I)I", sig := { parameters := [.int], returnType := some .int }, accessFlags := 0, code := some k2c1 }
def k2c2 : Code := { maxStack := 3, maxLocals := 5, code := prog_37_method_3_code, exceptionTable := #[], attributes := #[] }
def k2m2 : Method := { name := "union", desc := "(II)Z", sig := { parameters := [.int, .int], returnType := some .boolean }, accessFlags := 0, code := some k2c2 }
/-- com/example/credence/credence/core/UnionFind -/
def k2 : Class := { plain "com/example/credence/credence/core/UnionFind" (some 0) with
  accessFlags := 48
  interfaces := #[]
  cf := some (fileOf pool2 8 #[] #[{ accessFlags := 0, nameIndex := 5, descriptorIndex := 17, attributes := #[] }, { accessFlags := 0, nameIndex := 15, descriptorIndex := 16, attributes := #[] }, { accessFlags := 0, nameIndex := 21, descriptorIndex := 22, attributes := #[] }] 48 2 #[] #[{ accessFlags := 18, nameIndex := 11, descriptorIndex := 12, attributes := #[] }])
  fields := #[{ name := "parent", type := (.array .int), accessFlags := 18, slot := 0, constantValue := 0 }]
  methods := #[k2m0, k2m1, k2m2]
  instanceTypes := #[(.array .int)]
  staticTypes := #[]
  resolved := Array.replicate 26 none
  statics := none }

def pool3 : Array CpInfo := pool [(1, .class_ 2), (0, u "java/lang/Math"), (1, .class_ 6), (1, u "java/lang/Object"), (0, u "<init>"), (0, u "()V"), (89, .class_ 100), (1, u "java/lang/Math$RandomNumberGeneratorHolder"), (71, u "negativeZeroFloatBits"), (0, u "J"), (2, u "negativeZeroDoubleBits"), (21, u "max"), (2, u "min"), (43, u "$assertionsDisabled"), (0, u "Z"), (88, u "(II)I"), (2, u "twoToTheDoubleScaleDown"), (0, u "D"), (4, u "twoToTheDoubleScaleUp"), (9, u "E"), (3, u "PI"), (2, u "TAU"), (2, u "DEGREES_TO_RADIANS"), (0, u "RADIANS_TO_DEGREES")] 94

def k3m0 : Method := { name := "<init>", desc := "()V", sig := { parameters := [], returnType := none }, accessFlags := 2, code := none }
def k3c1 : Code := { maxStack := 2, maxLocals := 2, code := jdk_29_method_65_code, exceptionTable := #[], attributes := #[] }
def k3m1 : Method := { name := "max", desc := "(II)I", sig := { parameters := [.int, .int], returnType := some .int }, accessFlags := 9, code := some k3c1 }
def k3c2 : Code := { maxStack := 2, maxLocals := 2, code := jdk_29_method_69_code, exceptionTable := #[], attributes := #[] }
def k3m2 : Method := { name := "min", desc := "(II)I", sig := { parameters := [.int, .int], returnType := some .int }, accessFlags := 9, code := some k3c2 }
/-- java/lang/Math -/
def k3 : Class := { plain "java/lang/Math" (some 0) with
  accessFlags := 49
  interfaces := #[]
  cf := some (fileOf pool3 1 #[.nestMembers #[98]] #[{ accessFlags := 2, nameIndex := 7, descriptorIndex := 8, attributes := #[] }, { accessFlags := 9, nameIndex := 198, descriptorIndex := 335, attributes := #[] }, { accessFlags := 9, nameIndex := 201, descriptorIndex := 335, attributes := #[] }] 49 4 #[] #[{ accessFlags := 25, nameIndex := 354, descriptorIndex := 339, attributes := #[] }, { accessFlags := 25, nameIndex := 358, descriptorIndex := 339, attributes := #[] }, { accessFlags := 25, nameIndex := 361, descriptorIndex := 339, attributes := #[] }, { accessFlags := 26, nameIndex := 364, descriptorIndex := 339, attributes := #[] }, { accessFlags := 26, nameIndex := 365, descriptorIndex := 339, attributes := #[] }, { accessFlags := 26, nameIndex := 172, descriptorIndex := 173, attributes := #[] }, { accessFlags := 26, nameIndex := 176, descriptorIndex := 173, attributes := #[] }, { accessFlags := 8, nameIndex := 344, descriptorIndex := 339, attributes := #[] }, { accessFlags := 8, nameIndex := 338, descriptorIndex := 339, attributes := #[] }, { accessFlags := 4120, nameIndex := 245, descriptorIndex := 246, attributes := #[] }])
  fields := #[{ name := "E", type := .double, accessFlags := 25, slot := 0, constantValue := 0 }, { name := "PI", type := .double, accessFlags := 25, slot := 1, constantValue := 0 }, { name := "TAU", type := .double, accessFlags := 25, slot := 2, constantValue := 0 }, { name := "DEGREES_TO_RADIANS", type := .double, accessFlags := 26, slot := 3, constantValue := 0 }, { name := "RADIANS_TO_DEGREES", type := .double, accessFlags := 26, slot := 4, constantValue := 0 }, { name := "negativeZeroFloatBits", type := .long, accessFlags := 26, slot := 5, constantValue := 0 }, { name := "negativeZeroDoubleBits", type := .long, accessFlags := 26, slot := 6, constantValue := 0 }, { name := "twoToTheDoubleScaleUp", type := .double, accessFlags := 8, slot := 7, constantValue := 0 }, { name := "twoToTheDoubleScaleDown", type := .double, accessFlags := 8, slot := 8, constantValue := 0 }, { name := "$assertionsDisabled", type := .boolean, accessFlags := 4120, slot := 9, constantValue := 0 }]
  methods := #[k3m0, k3m1, k3m2]
  instanceTypes := #[]
  staticTypes := #[.double, .double, .double, .double, .double, .long, .long, .double, .double, .boolean]
  resolved := Array.replicate 460 none
  statics := none }

def pool4 : Array CpInfo := pool [(1, u "java/lang/Cloneable"), (0, .class_ 1), (0, u "java/lang/Object"), (0, .class_ 3)] 3

/-- java/lang/Cloneable -/
def k4 : Class := { plain "java/lang/Cloneable" (some 0) with
  accessFlags := 1537
  interfaces := #[]
  cf := some (fileOf pool4 2 #[] #[] 1537 4 #[] #[])
  fields := #[]
  methods := #[]
  instanceTypes := #[]
  staticTypes := #[]
  resolved := Array.replicate 8 none
  statics := none }

def pool5 : Array CpInfo := pool [(1, u "java/io/Serializable"), (0, .class_ 1), (0, u "java/lang/Object"), (0, .class_ 3)] 3

/-- java/io/Serializable -/
def k5 : Class := { plain "java/io/Serializable" (some 0) with
  accessFlags := 1537
  interfaces := #[]
  cf := some (fileOf pool5 2 #[] #[] 1537 4 #[] #[])
  fields := #[]
  methods := #[]
  instanceTypes := #[]
  staticTypes := #[]
  resolved := Array.replicate 8 none
  statics := none }

/-- the primitive byte -/
def k6 : Class := { plain "byte" none with kind := .primitive 'B', accessFlags := 0x411 }
/-- [B -/
def k7 : Class := { plain "[B" (some 0) with kind := .array 6 .byte, interfaces := #[4, 5], accessFlags := 1041 }

/-- the primitive int -/
def k8 : Class := { plain "int" none with kind := .primitive 'I', accessFlags := 0x411 }
/-- [I -/
def k9 : Class := { plain "[I" (some 0) with kind := .array 8 .int, interfaces := #[4, 5], accessFlags := 1041 }

def heap : Heap := #[]
def classes : Array Class := #[k0, k1, k2, k3, k4, k5, k6, k7, k8, k9]
def interned : List (Array UInt16 × Addr) := []
def slotsUsed : Nat := 0
def theMethod : MethodId := ⟨1, 1⟩
def args0 : Array Value := #[.int 5, .int 4, .int 3, .int 2]
def aboutOver (below : List Frame) : State where
  vm := { classes := classes, interned := interned.toArray }
  heap := heap
  slotsUsed := slotsUsed
  threads := #[{ frames := .invoking theMethod args0 :: below }]
def below0 : List Frame := [.native { method := ⟨0, 0⟩, args := #[] }]
def about1 : State := aboutOver below0
def p0 : Program := .bare "" "" ""
def e0 : Env := launch0.env 0 0 0
theorem w_frames : about1.frames = Frame.invoking theMethod args0 :: below0 := rfl
set_option maxRecDepth 65536 in
theorem w_args : argsFit about1.vm theMethod args0 = true := by decide +kernel
set_option maxRecDepth 65536 in
theorem w_heap : heapFits about1 = true := by decide +kernel
set_option maxRecDepth 65536 in
theorem w_runnable : about1.curStatus? = some .runnable := by decide +kernel
set_option maxRecDepth 65536 in
theorem w_alone : about1.alone = true := by decide +kernel
set_option maxRecDepth 65536 in
theorem w_named : about1.methodNamed? x = some theMethod := by decide +kernel
set_option maxRecDepth 65536 in
theorem w_hears : about1.hears theMethod below0 = true := by decide +kernel
set_option maxRecDepth 65536 in
theorem w_ripe : about1.ripe theMethod args0 below0 = true := by decide +kernel
theorem w_running : about1.status = .running := rfl
set_option maxRecDepth 65536 in
theorem w_room : about1.hasRoom e0.platform room_1 = true :=
  launch0.hasRoom_least _ room_1 (by decide +kernel) (by decide +kernel) (by decide +kernel) (by decide +kernel) (by decide +kernel) (by decide +kernel)
theorem allAtoms_all (ts : List Jvm.Cond) (a : Array Jvm.Value) (st : Jvm.State) : (allAtoms ts).before a st = ts.all (fun c => c.before a st) := by
  induction ts with
  | nil => rfl
  | cons c t ih =>
    show (Jvm.Cond.and c (allAtoms t)).before a st = _
    rw [Jvm.Cond.before_and, ih, List.all_cons]
def words1 : List Jvm.Cond := Jvm.Cond.code x code maxLocals ret :: tables_1
/-- a 'code' word, met by the world's own term for the bytes: nothing is compared byte by byte -/
theorem code_word {y : MethodName} {bytes : ByteArray} {mx : Nat} {rt : Option FieldType} {a : Array Value} {s : State} {m : MethodId} {meth : Method} {c : Code} (h1 : s.methodNamed? y = some m) (h2 : s.vm.method? m = some meth) (h3 : meth.code = some c) (h4 : c.code = bytes)
    (h5 : (c.maxLocals == mx && c.exceptionTable.isEmpty && decide (c.maxStack ≤ mostOperands) && decide (meth.sig.returnType = rt) && !meth.locks && decide (parseMethodDescriptor y.desc = some meth.sig)) = true) : (Jvm.Cond.code y bytes mx rt).before a s = true := by
  simp only [Bool.and_eq_true, beq_iff_eq, Bool.not_eq_true', decide_eq_true_eq] at h5
  obtain ⟨⟨⟨⟨⟨g1, g2⟩, g3⟩, g4⟩, g5⟩, g6⟩ := h5
  simp [Cond.before, Cond.holds, Cond.value, h1, h2, h3, h4, g1, g2, g3, g4, g5, g6]
def isCode : Jvm.Cond → Bool
  | .code _ _ _ _ => true
  | _ => false
theorem all_split {L : List Jvm.Cond} {P : Jvm.Cond → Bool} (h1 : L.all (fun c => isCode c || P c) = true) (h2 : ∀ c ∈ L.filter isCode, P c = true) : L.all P = true := by
  refine List.all_eq_true.mpr fun c hc => ?_
  have h := List.all_eq_true.mp h1 c hc
  rcases Bool.eq_false_or_eq_true (isCode c) with hi | hi
  · exact h2 c (List.mem_filter.mpr ⟨hc, hi⟩)
  · simpa [hi] using h
set_option maxRecDepth 65536 in
theorem w_c0 : (Jvm.Cond.code x code maxLocals ret).before args0 about1 = true := code_word (m := ⟨1, 1⟩) (meth := k1m1) (c := k1c1) (by decide +kernel) rfl rfl rfl (by decide +kernel)
set_option maxRecDepth 65536 in
theorem w_c1 : (Jvm.Cond.code ({ cls := "com/example/credence/credence/core/UnionFind", name := "<init>", desc := "(I)V" } : Jvm.MethodName) prog_37_method_1_code (3 : Nat) (Option.none : Option Jvm.ClassFile.FieldType)).before args0 about1 = true := code_word (m := ⟨2, 0⟩) (meth := k2m0) (c := k2c0) (by decide +kernel) rfl rfl rfl (by decide +kernel)
set_option maxRecDepth 65536 in
theorem w_c2 : (Jvm.Cond.code ({ cls := "java/lang/Object", name := "<init>", desc := "()V" } : Jvm.MethodName) object_method_1_code (1 : Nat) (Option.none : Option Jvm.ClassFile.FieldType)).before args0 about1 = true := code_word (m := ⟨0, 0⟩) (meth := k0m0) (c := k0c0) (by decide +kernel) rfl rfl rfl (by decide +kernel)
set_option maxRecDepth 65536 in
theorem w_c3 : (Jvm.Cond.code ({ cls := "com/example/credence/credence/core/UnionFindFindPinLaw", name := "step", desc := "(Lcom/example/credence/credence/core/UnionFind;[II)Z" } : Jvm.MethodName) method_3_code (10 : Nat) (Option.some Jvm.ClassFile.FieldType.boolean)).before args0 about1 = true := code_word (m := ⟨1, 2⟩) (meth := k1m2) (c := k1c2) (by decide +kernel) rfl rfl rfl (by decide +kernel)
set_option maxRecDepth 65536 in
theorem w_c4 : (Jvm.Cond.code ({ cls := "com/example/credence/credence/core/UnionFind", name := "union", desc := "(II)Z" } : Jvm.MethodName) prog_37_method_3_code (5 : Nat) (Option.some Jvm.ClassFile.FieldType.boolean)).before args0 about1 = true := code_word (m := ⟨2, 2⟩) (meth := k2m2) (c := k2c2) (by decide +kernel) rfl rfl rfl (by decide +kernel)
set_option maxRecDepth 65536 in
theorem w_c5 : (Jvm.Cond.code ({ cls := "com/example/credence/credence/core/UnionFind", name := "find", desc := "(I)I" } : Jvm.MethodName) prog_37_method_2_code (2 : Nat) (Option.some Jvm.ClassFile.FieldType.int)).before args0 about1 = true := code_word (m := ⟨2, 1⟩) (meth := k2m1) (c := k2c1) (by decide +kernel) rfl rfl rfl (by decide +kernel)
set_option maxRecDepth 65536 in
theorem w_c6 : (Jvm.Cond.code ({ cls := "java/lang/Math", name := "min", desc := "(II)I" } : Jvm.MethodName) jdk_29_method_69_code (2 : Nat) (Option.some Jvm.ClassFile.FieldType.int)).before args0 about1 = true := code_word (m := ⟨3, 2⟩) (meth := k3m2) (c := k3c2) (by decide +kernel) rfl rfl rfl (by decide +kernel)
set_option maxRecDepth 65536 in
theorem w_c7 : (Jvm.Cond.code ({ cls := "java/lang/Math", name := "max", desc := "(II)I" } : Jvm.MethodName) jdk_29_method_65_code (2 : Nat) (Option.some Jvm.ClassFile.FieldType.int)).before args0 about1 = true := code_word (m := ⟨3, 1⟩) (meth := k3m1) (c := k3c1) (by decide +kernel) rfl rfl rfl (by decide +kernel)
set_option maxRecDepth 65536 in
theorem w_c8 : (Jvm.Cond.code ({ cls := "com/example/credence/credence/core/UnionFindFindPinLaw", name := "relabel", desc := "([III)V" } : Jvm.MethodName) method_4_code (3 : Nat) (Option.none : Option Jvm.ClassFile.FieldType)).before args0 about1 = true := code_word (m := ⟨1, 3⟩) (meth := k1m3) (c := k1c3) (by decide +kernel) rfl rfl rfl (by decide +kernel)
def codes1 : List Jvm.Cond := [Jvm.Cond.code x code maxLocals ret, Jvm.Cond.code ({ cls := "com/example/credence/credence/core/UnionFind", name := "<init>", desc := "(I)V" } : Jvm.MethodName) prog_37_method_1_code (3 : Nat) (Option.none : Option Jvm.ClassFile.FieldType), Jvm.Cond.code ({ cls := "java/lang/Object", name := "<init>", desc := "()V" } : Jvm.MethodName) object_method_1_code (1 : Nat) (Option.none : Option Jvm.ClassFile.FieldType), Jvm.Cond.code ({ cls := "com/example/credence/credence/core/UnionFindFindPinLaw", name := "step", desc := "(Lcom/example/credence/credence/core/UnionFind;[II)Z" } : Jvm.MethodName) method_3_code (10 : Nat) (Option.some Jvm.ClassFile.FieldType.boolean), Jvm.Cond.code ({ cls := "com/example/credence/credence/core/UnionFind", name := "union", desc := "(II)Z" } : Jvm.MethodName) prog_37_method_3_code (5 : Nat) (Option.some Jvm.ClassFile.FieldType.boolean), Jvm.Cond.code ({ cls := "com/example/credence/credence/core/UnionFind", name := "find", desc := "(I)I" } : Jvm.MethodName) prog_37_method_2_code (2 : Nat) (Option.some Jvm.ClassFile.FieldType.int), Jvm.Cond.code ({ cls := "java/lang/Math", name := "min", desc := "(II)I" } : Jvm.MethodName) jdk_29_method_69_code (2 : Nat) (Option.some Jvm.ClassFile.FieldType.int), Jvm.Cond.code ({ cls := "java/lang/Math", name := "max", desc := "(II)I" } : Jvm.MethodName) jdk_29_method_65_code (2 : Nat) (Option.some Jvm.ClassFile.FieldType.int), Jvm.Cond.code ({ cls := "com/example/credence/credence/core/UnionFindFindPinLaw", name := "relabel", desc := "([III)V" } : Jvm.MethodName) method_4_code (3 : Nat) (Option.none : Option Jvm.ClassFile.FieldType)]
set_option maxRecDepth 65536 in
theorem codes_eq : words1.filter isCode = codes1 := rfl
theorem w_codes : ∀ c ∈ words1.filter isCode, c.before args0 about1 = true := by
  rw [codes_eq]
  intro c hc
  simp only [codes1, List.mem_cons, List.not_mem_nil, or_false] at hc
  rcases hc with rfl | rfl | rfl | rfl | rfl | rfl | rfl | rfl | rfl
  · exact w_c0
  · exact w_c1
  · exact w_c2
  · exact w_c3
  · exact w_c4
  · exact w_c5
  · exact w_c6
  · exact w_c7
  · exact w_c8
set_option maxRecDepth 65536 in
theorem w_t1 : (words1.take 24).all (fun c => isCode c || c.before args0 about1) = true := by decide +kernel
set_option maxRecDepth 65536 in
theorem w_t2 : (words1.drop 24).all (fun c => isCode c || c.before args0 about1) = true := by decide +kernel
theorem w_tables : (allAtoms (Jvm.Cond.code x code maxLocals ret :: tables_1)).before args0 about1 = true := by
  rw [allAtoms_all]
  show words1.all (fun c => c.before args0 about1) = true
  refine all_split ?_ w_codes
  rw [← List.take_append_drop 24 words1, List.all_append, w_t1, w_t2]
  rfl
set_option maxRecDepth 65536 in
theorem w_case : (Jvm.Cond.and given_1 narrow_1).before args0 about1 = true := by decide +kernel
theorem w_applies : (headSpec (Jvm.Cond.code x code maxLocals ret :: tables_1) room_1).applies x e0.platform about1 = true :=
  (Spec.applies_iff w_frames).mpr ⟨w_running, w_runnable, w_alone, w_named, w_hears, w_ripe, w_room, w_tables⟩
theorem atStart : AtStart classFile x code maxLocals ret World_1 tables_1 room_1 Calls_1 rest_1 Pre_1 launch0 p0 e0 about1 theMethod args0 below0 :=
  ⟨lists_1, trivial, launch0.admits_env _ _ _, launch0.least_env, fairChoices_fair.cas, fairChoices_fair.clock, w_frames, w_args, w_heap, w_applies, trivial, trivial, w_case⟩
end start1
theorem witness_1 : WitnessClaimed_1 := ⟨start1.p0, start1.e0, start1.about1, start1.theMethod, start1.args0, start1.below0, start1.atStart⟩
end Jvm.Pilot.@@N@@
