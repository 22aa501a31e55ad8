import JvmDerived
import JvmDerived.Pilot.@@N@@Statement
import JvmDerived.Pilot.@@N@@Code
set_option linter.unusedVariables false
set_option linter.unusedSimpArgs false
namespace Jvm.RoadKit
open Sem ClassFile Op Lib Jvm.Stand Jvm.Free Jvm.LawKit
section New
variable {p : Program} {l : Launch} {e : Env} {R : Room} {s : State} {m : MethodId} {args : Array Value} {below : List Frame} {meth : Method} {c : Code} {T : State} {locs : List Loc} {cells slots : Nat}
theorem retI (X : Stand p l e R s m args below meth c T locs cells slots) (hx : p.tables.exec = Jvm.exec) {pc : Nat} {Ls : Array Slot} {z : Int32} {rest : List Value} (hret : meth.sig.returnType = some .int) (hd : decode c.code pc = .ok (.ireturn, 1)) {fs : List Frame}
    (hl : ∀ (f : JFrame) (acts : List Action), f.method = m → f.locked = none → f.entered = [] → (doReturn e (T.setTop f) acts (some (.int z))).1 = T.setFrames fs) : Steps p.tables e below (T.setTop (mkF m pc Ls (.int z :: rest))) (T.setFrames fs) := by
  have hm' : T.vm.method? m = some meth := X.method'
  have hn : narrow .int (.int z) = .int z := rfl
  show Steps p.tables e below (T.setTop { method := m, pc := pc, locals := Ls, stack := _ :: rest, locked := none }) _
  jvm_step X.here [X.here.top, hx, hd, hm', hret, hn]
  first | (intro acts; rw [hl _ acts rfl rfl rfl]) | rw [hl _ _ rfl rfl rfl]
  exact Steps.refl _
end New
end Jvm.RoadKit
namespace Jvm.Own
open Jvm Jvm.ClassFile Sem Op Lib Jvm.Free Jvm.Stand Jvm.LawKit Jvm.RoadKit Bundle
/-! ## A walk by continuations: `Goes` says that the run from here comes to a state with K; each rule takes one instruction off. -/
def Goes (p : Program) (e : Env) (below : List Frame) (K : State → Prop) (T : State) (m : MethodId) (pc : Nat) (L : Array Slot) (S : List Value) : Prop :=
  ∃ u, Steps p.tables e below (T.setTop (mkF m pc L S)) u ∧ K u
/-- where one body's walk stands: the standing facts, the state T with the heap h, what was written lies in new cells -/
def Wk (p : Program) (l : Launch) (e : Env) (R : Room) (s : State) (m : MethodId) (args : Array Value) (below : List Frame) (meth : Method) (c : Code) (Z : State) (n0 : Nat) (y : MethodName) (code : ByteArray) (ml : Nat) (ret : Option FieldType)
    (T : State) (cells slots : Nat) (h : Heap) : Prop :=
  p.tables.exec = Jvm.exec ∧ Z.Warmed39 s.vm ∧ c.code = code ∧ c.maxLocals = ml ∧ s.vm.findClass y.cls = some m.cls ∧ meth.name = y.name ∧ meth.sig.returnType = ret ∧ meth.locks = false ∧ n0 ≤ h.size ∧
  ∃ locs, Stand p l e R s m args below meth c T locs cells slots ∧ T.heap = h ∧ Fr n0 locs
def Qc (n0 : Nat) (w : Option Value) (Q : Heap → Prop) (v : Option Value) (h : Heap) (L : List Loc) : Prop := v = w ∧ Q h ∧ Fr n0 L ∧ n0 ≤ h.size
/-- what a body's end says: it returned w, the heap satisfies Q -/
def Done (below : List Frame) (s : State) (n0 : Nat) (R : Room) (w : Option Value) (Q : Heap → Prop) (u : State) : Prop :=
  ∃ o, u.status = .running ∧ Ended u below o ∧ ∃ v L, o = .returned v ∧ Qc n0 w Q v u.heap L ∧ FrameEnd s o u L R.cells R.slots
/-- a body's contract -/
def Con (l : Launch) (Z : State) (y : MethodName) (code : ByteArray) (ml : Nat) (ret : Option FieldType) (R : Room) (as : Array Value) (h0 : Heap) (n0 : Nat) (w : Option Value) (Q : Heap → Prop) : Prop :=
  ∀ ws, MetFree l y (head1 (Jvm.Cond.code y code ml ret :: ws) R) (fun a U => a = as ∧ Z.Warmed39 U.vm ∧ U.heap = h0) (fun _ _ _ _ _ => True)
    (fun _ U o U' => ∃ v L, o = .returned v ∧ Qc n0 w Q v U'.heap L ∧ FrameEnd U o U' L R.cells R.slots)
theorem con_of {l : Launch} {Z : State} {y : MethodName} {code : ByteArray} {ml : Nat} {ret : Option FieldType} {R : Room} {as : Array Value} {h0 : Heap} {n0 : Nat} {w : Option Value} {Q : Heap → Prop}
    (hpl : plainFor y = true) (hn0 : n0 ≤ h0.size) {L0 : Array Slot} (hL : ∀ m, entryFrame m as ml = mkF m 0 L0 [])
    (body : ∀ (p : Program) (e : Env) (s : State) (m : MethodId) (below : List Frame) (meth : Method) (c : Code) (T : State), Wk p l e R s m as below meth c Z n0 y code ml ret T 0 0 h0 → Goes p e below (Done below s n0 R w Q) T m 0 L0 []) :
    Con l Z y code ml ret R as h0 n0 w Q := by
  intro ws
  refine MetFree.of_bodySF hpl hisR ?_
  intro p e s m args below meth c s₁ Bd hml0 hP hK
  obtain ⟨rfl, hZ, hh⟩ := hP
  have X0 : Stand p l e R s m args below meth c s₁ [] 0 0 := Stand.of_body Bd
  have e0 : s₁.heap = h0 := by rw [← hh, Bd.state]; rfl
  obtain ⟨u, st, o, h1, h2, h3⟩ := body p e s m below meth c s₁ ⟨Bd.exec, hZ, Bd.bytes, hml0, findClass_of_methodNamed Bd.named, (name_of_methodNamed Bd.named Bd.method).1, Bd.returns, Bd.notSynchronized, hn0, [], X0, e0, Fr.nil n0⟩
  exact ⟨u, o, castTop (hL m) st, h1, h2, h3⟩
/-- Java's >>> -/
def ush (a b : Int32) : Int32 := (a.toUInt32 >>> (b &&& 31).toUInt32).toInt32
def ushL (a : Int64) (b : Int32) : Int64 := (a.toUInt64 >>> (b &&& 0x3f).toInt64.toUInt64).toInt64
/-- a local that holds nothing, or one word -/
def OneS (s : Slot) : Prop := s = .unset ∨ ∃ w : Value, s = .val w ∧ w.category = 1
theorem OneS.u : OneS .unset := Or.inl rfl
theorem OneS.i (z : Int32) : OneS (.val (.int z)) := Or.inr ⟨_, rfl, rfl⟩
theorem OneS.r (z : Addr) : OneS (.val (.ref z)) := Or.inr ⟨_, rfl, rfl⟩
section Rules
variable {p : Program} {l : Launch} {e : Env} {R : Room} {s : State} {m : MethodId} {args : Array Value} {below : List Frame} {meth : Method} {c : Code} {Z : State} {n0 : Nat} {y : MethodName} {code : ByteArray} {ml : Nat} {ret : Option FieldType}
  {T : State} {cells slots : Nat} {h : Heap} {K : State → Prop} {L : Array Slot} {S : List Value} {pc pc' : Nat} {a0 : Array Value}
theorem Goes.via {T' : State} {L' : Array Slot} {S' : List Value} (st : ∀ target, Steps p.tables e below (T'.setTop (mkF m pc' L' S')) target → Steps p.tables e below (T.setTop (mkF m pc L S)) target) (g : Goes p e below K T' m pc' L' S') : Goes p e below K T m pc L S := by
  obtain ⟨u, a, b⟩ := g
  exact ⟨u, st _ a, b⟩
theorem Wk.size (X : Wk p l e R s m args below meth c Z n0 y code ml ret T cells slots h) : n0 ≤ h.size := X.2.2.2.2.2.2.2.2.1
-- plain steps
theorem w_iloadN (X : Wk p l e R s m args below meth c Z n0 y code ml ret T cells slots h) {k : Fin 4} {v : Int32} (hd : decode code pc = .ok (.iload_n k, 1)) (hp : pc + 1 = pc') (hl : L[k.val]? = some (.val (.int v))) (g : Goes p e below K T m pc' L (.int v :: S)) : Goes p e below K T m pc L S := by
  obtain ⟨hx, -, hby, -, -, -, -, -, -, locs, X, -, -⟩ := X
  subst hp
  obtain ⟨u1, a1, b1⟩ := g
  exact ⟨u1, XS.iloadN (g := mkF m pc L S) X.here hx rfl (hb hby hd) hl a1, b1⟩
theorem w_iload (X : Wk p l e R s m args below meth c Z n0 y code ml ret T cells slots h) {k : Nat} {v : Int32} (hd : decode code pc = .ok (.iload k, 2)) (hp : pc + 2 = pc') (hl : L[k]? = some (.val (.int v))) (g : Goes p e below K T m pc' L (.int v :: S)) : Goes p e below K T m pc L S := by
  obtain ⟨hx, -, hby, -, -, -, -, -, -, locs, X, -, -⟩ := X
  subst hp
  obtain ⟨u1, a1, b1⟩ := g
  exact ⟨u1, XS.iload (g := mkF m pc L S) X.here hx rfl (hb hby hd) hl a1, b1⟩
theorem w_lloadN (X : Wk p l e R s m args below meth c Z n0 y code ml ret T cells slots h) {k : Fin 4} {v : Int64} (hd : decode code pc = .ok (.lload_n k, 1)) (hp : pc + 1 = pc') (hl : L[k.val]? = some (.val (.long v))) (g : Goes p e below K T m pc' L (.long v :: S)) : Goes p e below K T m pc L S := by
  obtain ⟨hx, -, hby, -, -, -, -, -, -, locs, X, -, -⟩ := X
  subst hp
  obtain ⟨u1, a1, b1⟩ := g
  exact ⟨u1, XS.lloadN (g := mkF m pc L S) X.here hx rfl (hb hby hd) hl a1, b1⟩
theorem w_lload (X : Wk p l e R s m args below meth c Z n0 y code ml ret T cells slots h) {k : Nat} {v : Int64} (hd : decode code pc = .ok (.lload k, 2)) (hp : pc + 2 = pc') (hl : L[k]? = some (.val (.long v))) (g : Goes p e below K T m pc' L (.long v :: S)) : Goes p e below K T m pc L S := by
  obtain ⟨hx, -, hby, -, -, -, -, -, -, locs, X, -, -⟩ := X
  subst hp
  obtain ⟨u1, a1, b1⟩ := g
  exact ⟨u1, XS.lload (g := mkF m pc L S) X.here hx rfl (hb hby hd) hl a1, b1⟩
theorem w_aloadN (X : Wk p l e R s m args below meth c Z n0 y code ml ret T cells slots h) {k : Fin 4} {v : Value} (hd : decode code pc = .ok (.aload_n k, 1)) (hp : pc + 1 = pc') (hl : L[k.val]? = some (.val v)) (hv : v.isRef = true) (g : Goes p e below K T m pc' L (v :: S)) : Goes p e below K T m pc L S := by
  obtain ⟨hx, -, hby, -, -, -, -, -, -, locs, X, -, -⟩ := X
  subst hp
  obtain ⟨u1, a1, b1⟩ := g
  exact ⟨u1, XS.aloadN (g := mkF m pc L S) X.here hx rfl (hb hby hd) hl hv a1, b1⟩
theorem w_aload (X : Wk p l e R s m args below meth c Z n0 y code ml ret T cells slots h) {k : Nat} {v : Value} (hd : decode code pc = .ok (.aload k, 2)) (hp : pc + 2 = pc') (hl : L[k]? = some (.val v)) (hv : v.isRef = true) (g : Goes p e below K T m pc' L (v :: S)) : Goes p e below K T m pc L S := by
  obtain ⟨hx, -, hby, -, -, -, -, -, -, locs, X, -, -⟩ := X
  subst hp
  obtain ⟨u1, a1, b1⟩ := g
  exact ⟨u1, XS.aload (g := mkF m pc L S) X.here hx rfl (hb hby hd) hl hv a1, b1⟩
theorem w_istoreN (X : Wk p l e R s m args below meth c Z n0 y code ml ret T cells slots h) {k : Fin 4} {v : Int32} {L' : Array Slot} (hd : decode code pc = .ok (.istore_n k, 1)) (hp : pc + 1 = pc') (hl : storeLocals L k.val (.int v) = some L') (g : Goes p e below K T m pc' L' S) : Goes p e below K T m pc L (.int v :: S) := by
  obtain ⟨hx, -, hby, -, -, -, -, -, -, locs, X, -, -⟩ := X
  subst hp
  obtain ⟨u1, a1, b1⟩ := g
  exact ⟨u1, XS.istoreN (g := mkF m pc L (.int v :: S)) X.here hx rfl (hb hby hd) rfl hl a1, b1⟩
theorem w_istore (X : Wk p l e R s m args below meth c Z n0 y code ml ret T cells slots h) {k : Nat} {v : Int32} {L' : Array Slot} (hd : decode code pc = .ok (.istore k, 2)) (hp : pc + 2 = pc') (hl : storeLocals L k (.int v) = some L') (g : Goes p e below K T m pc' L' S) : Goes p e below K T m pc L (.int v :: S) := by
  obtain ⟨hx, -, hby, -, -, -, -, -, -, locs, X, -, -⟩ := X
  subst hp
  obtain ⟨u1, a1, b1⟩ := g
  exact ⟨u1, XS.istore (g := mkF m pc L (.int v :: S)) X.here hx rfl (hb hby hd) rfl hl a1, b1⟩
theorem w_lstoreN (X : Wk p l e R s m args below meth c Z n0 y code ml ret T cells slots h) {k : Fin 4} {v : Int64} {L' : Array Slot} (hd : decode code pc = .ok (.lstore_n k, 1)) (hp : pc + 1 = pc') (hl : storeLocals L k.val (.long v) = some L') (g : Goes p e below K T m pc' L' S) : Goes p e below K T m pc L (.long v :: S) := by
  obtain ⟨hx, -, hby, -, -, -, -, -, -, locs, X, -, -⟩ := X
  subst hp
  obtain ⟨u1, a1, b1⟩ := g
  exact ⟨u1, XS.lstoreN (g := mkF m pc L (.long v :: S)) X.here hx rfl (hb hby hd) rfl hl a1, b1⟩
theorem w_lstore (X : Wk p l e R s m args below meth c Z n0 y code ml ret T cells slots h) {k : Nat} {v : Int64} {L' : Array Slot} (hd : decode code pc = .ok (.lstore k, 2)) (hp : pc + 2 = pc') (hl : storeLocals L k (.long v) = some L') (g : Goes p e below K T m pc' L' S) : Goes p e below K T m pc L (.long v :: S) := by
  obtain ⟨hx, -, hby, -, -, -, -, -, -, locs, X, -, -⟩ := X
  subst hp
  obtain ⟨u1, a1, b1⟩ := g
  exact ⟨u1, XS.lstore (g := mkF m pc L (.long v :: S)) X.here hx rfl (hb hby hd) rfl hl a1, b1⟩
theorem w_astoreN (X : Wk p l e R s m args below meth c Z n0 y code ml ret T cells slots h) {k : Fin 4} {v : Value} {L' : Array Slot} (hd : decode code pc = .ok (.astore_n k, 1)) (hp : pc + 1 = pc') (hv : v.isRef = true) (hl : storeLocals L k.val v = some L') (g : Goes p e below K T m pc' L' S) : Goes p e below K T m pc L (v :: S) := by
  obtain ⟨hx, -, hby, -, -, -, -, -, -, locs, X, -, -⟩ := X
  subst hp
  obtain ⟨u1, a1, b1⟩ := g
  exact ⟨u1, XS.astoreN (g := mkF m pc L (v :: S)) X.here hx rfl (hb hby hd) rfl hv hl a1, b1⟩
theorem w_astore (X : Wk p l e R s m args below meth c Z n0 y code ml ret T cells slots h) {k : Nat} {v : Value} {L' : Array Slot} (hd : decode code pc = .ok (.astore k, 2)) (hp : pc + 2 = pc') (hv : v.isRef = true) (hl : storeLocals L k v = some L') (g : Goes p e below K T m pc' L' S) : Goes p e below K T m pc L (v :: S) := by
  obtain ⟨hx, -, hby, -, -, -, -, -, -, locs, X, -, -⟩ := X
  subst hp
  obtain ⟨u1, a1, b1⟩ := g
  exact ⟨u1, XS.astore (g := mkF m pc L (v :: S)) X.here hx rfl (hb hby hd) rfl hv hl a1, b1⟩
theorem w_iconst (X : Wk p l e R s m args below meth c Z n0 y code ml ret T cells slots h) {i : Int} {v : Int32} (hd : decode code pc = .ok (.iconst i, 1)) (hp : pc + 1 = pc') (hv : Int32.ofInt i = v) (g : Goes p e below K T m pc' L (.int v :: S)) : Goes p e below K T m pc L S := by
  obtain ⟨hx, -, hby, -, -, -, -, -, -, locs, X, -, -⟩ := X
  subst hp hv
  obtain ⟨u1, a1, b1⟩ := g
  exact ⟨u1, XS.iconst (g := mkF m pc L S) X.here hx rfl (hb hby hd) a1, b1⟩
theorem w_bipush (X : Wk p l e R s m args below meth c Z n0 y code ml ret T cells slots h) {i : Int} {v : Int32} (hd : decode code pc = .ok (.bipush i, 2)) (hp : pc + 2 = pc') (hv : (Int8.ofInt i).toInt32 = v) (g : Goes p e below K T m pc' L (.int v :: S)) : Goes p e below K T m pc L S := by
  obtain ⟨hx, -, hby, -, -, -, -, -, -, locs, X, -, -⟩ := X
  subst hp hv
  obtain ⟨u1, a1, b1⟩ := g
  exact ⟨u1, XS.bipush (g := mkF m pc L S) X.here hx rfl (hb hby hd) a1, b1⟩
theorem w_sipush (X : Wk p l e R s m args below meth c Z n0 y code ml ret T cells slots h) {i : Int} {v : Int32} (hd : decode code pc = .ok (.sipush i, 3)) (hp : pc + 3 = pc') (hv : (Int16.ofInt i).toInt32 = v) (g : Goes p e below K T m pc' L (.int v :: S)) : Goes p e below K T m pc L S := by
  obtain ⟨hx, -, hby, -, -, -, -, -, -, locs, X, -, -⟩ := X
  subst hp hv
  obtain ⟨u1, a1, b1⟩ := g
  exact ⟨u1, XS.sipush (g := mkF m pc L S) X.here hx rfl (hb hby hd) a1, b1⟩
theorem w_lconst (X : Wk p l e R s m args below meth c Z n0 y code ml ret T cells slots h) {i : Fin 2} {v : Int64} (hd : decode code pc = .ok (.lconst i, 1)) (hp : pc + 1 = pc') (hv : Int64.ofNat i = v) (g : Goes p e below K T m pc' L (.long v :: S)) : Goes p e below K T m pc L S := by
  obtain ⟨hx, -, hby, -, -, -, -, -, -, locs, X, -, -⟩ := X
  subst hp hv
  obtain ⟨u1, a1, b1⟩ := g
  exact ⟨u1, XS.lconst (g := mkF m pc L S) X.here hx rfl (hb hby hd) a1, b1⟩
theorem w_ldcInt (X : Wk p l e R s m args below meth c Z n0 y code ml ret T cells slots h) {i : Nat} {v : Int32} (hc : (Jvm.Cond.constant y.cls i v).before a0 Z = true) (hd : decode code pc = .ok (.ldc i, 2)) (hp : pc + 2 = pc') (g : Goes p e below K T m pc' L (.int v :: S)) : Goes p e below K T m pc L S := by
  obtain ⟨hx, hZ, hby, -, hown, -, -, -, -, locs, X, -, -⟩ := X
  subst hp
  obtain ⟨u1, a1, b1⟩ := g
  exact ⟨u1, X.ldcInt hx hown (mvT hZ hc) (g := mkF m pc L S) rfl (hb hby hd) _ a1, b1⟩
theorem w_ldc2Long (X : Wk p l e R s m args below meth c Z n0 y code ml ret T cells slots h) {i : Nat} {v : Int64} (hc : (Jvm.Cond.constantLong y.cls i v).before a0 Z = true) (hd : decode code pc = .ok (.ldc2_w i, 3)) (hp : pc + 3 = pc') (g : Goes p e below K T m pc' L (.long v :: S)) : Goes p e below K T m pc L S := by
  obtain ⟨hx, hZ, hby, -, hown, -, -, -, -, locs, X, -, -⟩ := X
  subst hp
  obtain ⟨u1, a1, b1⟩ := g
  exact ⟨u1, X.ldc2Long hx hown (mvT hZ hc) (g := mkF m pc L S) rfl (hb hby hd) _ a1, b1⟩
theorem w_iinc (X : Wk p l e R s m args below meth c Z n0 y code ml ret T cells slots h) {k : Nat} {d : Int} {v v' : Int32} {L' : Array Slot} (hd : decode code pc = .ok (.iinc k d, 3)) (hp : pc + 3 = pc') (hl : L[k]? = some (.val (.int v))) (hv : v + Int32.ofInt d = v') (hl' : storeLocals L k (.int v') = some L') (g : Goes p e below K T m pc' L' S) : Goes p e below K T m pc L S := by
  obtain ⟨hx, -, hby, -, -, -, -, -, -, locs, X, -, -⟩ := X
  subst hp hv
  obtain ⟨u1, a1, b1⟩ := g
  exact ⟨u1, XS.iinc (g := mkF m pc L S) X.here hx rfl (hb hby hd) hl hl' a1, b1⟩
theorem w_goto (X : Wk p l e R s m args below meth c Z n0 y code ml ret T cells slots h) {o : Int} (hd : decode code pc = .ok (.goto o, 3)) (ho : 0 ≤ (pc : Int) + o) (hp : ((pc : Int) + o).toNat = pc') (g : Goes p e below K T m pc' L S) : Goes p e below K T m pc L S := by
  obtain ⟨hx, -, hby, -, -, -, -, -, -, locs, X, -, -⟩ := X
  obtain ⟨u1, a1, b1⟩ := g
  exact ⟨u1, XS.goto (g := mkF m pc L S) X.here hx rfl (pc0 := pc) rfl (hb hby hd) ho hp a1, b1⟩
theorem w_dup (X : Wk p l e R s m args below meth c Z n0 y code ml ret T cells slots h) {v : Value} (hd : decode code pc = .ok (.dup, 1)) (hp : pc + 1 = pc') (hv : v.category = 1) (g : Goes p e below K T m pc' L (v :: v :: S)) : Goes p e below K T m pc L (v :: S) := by
  obtain ⟨hx, -, hby, -, -, -, -, -, -, locs, X, -, -⟩ := X
  subst hp
  obtain ⟨u1, a1, b1⟩ := g
  exact ⟨u1, XS.dup (g := mkF m pc L (v :: S)) X.here hx rfl (hb hby hd) rfl hv a1, b1⟩
theorem w_dup2 (X : Wk p l e R s m args below meth c Z n0 y code ml ret T cells slots h) {v w : Value} (hd : decode code pc = .ok (.dup2, 1)) (hp : pc + 1 = pc') (hv : v.category = 1) (hw : w.category = 1) (g : Goes p e below K T m pc' L (v :: w :: v :: w :: S)) : Goes p e below K T m pc L (v :: w :: S) := by
  obtain ⟨hx, -, hby, -, -, -, -, -, -, locs, X, -, -⟩ := X
  subst hp
  obtain ⟨u1, a1, b1⟩ := g
  exact ⟨u1, Jvm.Free.XT.dup2 (g := mkF m pc L (v :: w :: S)) X.here hx rfl (hb hby hd) rfl hv hw a1, b1⟩
theorem w_pop (X : Wk p l e R s m args below meth c Z n0 y code ml ret T cells slots h) {v : Value} (hd : decode code pc = .ok (.pop, 1)) (hp : pc + 1 = pc') (hv : v.category = 1) (g : Goes p e below K T m pc' L S) : Goes p e below K T m pc L (v :: S) := by
  obtain ⟨hx, -, hby, -, -, -, -, -, -, locs, X, -, -⟩ := X
  subst hp
  obtain ⟨u1, a1, b1⟩ := g
  exact ⟨u1, XS.pop (g := mkF m pc L (v :: S)) X.here hx rfl (hb hby hd) rfl hv a1, b1⟩
theorem w_dupX1 (X : Wk p l e R s m args below meth c Z n0 y code ml ret T cells slots h) {v w : Value} (hd : decode code pc = .ok (.dup_x1, 1)) (hp : pc + 1 = pc') (hv : v.category = 1) (hw : w.category = 1) (g : Goes p e below K T m pc' L (v :: w :: v :: S)) : Goes p e below K T m pc L (v :: w :: S) := by
  obtain ⟨hx, -, hby, -, -, -, -, -, -, locs, X, -, -⟩ := X
  subst hp
  obtain ⟨u1, a1, b1⟩ := g
  exact ⟨u1, XS.dupX1 (g := mkF m pc L (v :: w :: S)) X.here hx rfl (hb hby hd) rfl hv hw a1, b1⟩
theorem w_null (X : Wk p l e R s m args below meth c Z n0 y code ml ret T cells slots h) (hd : decode code pc = .ok (.aconst_null, 1)) (hp : pc + 1 = pc') (g : Goes p e below K T m pc' L (.null :: S)) : Goes p e below K T m pc L S := by
  obtain ⟨hx, -, hby, -, -, -, -, -, -, locs, X, -, -⟩ := X
  subst hp
  obtain ⟨u1, a1, b1⟩ := g
  exact ⟨u1, XS.aconstNull (g := mkF m pc L S) X.here hx rfl (hb hby hd) a1, b1⟩
theorem w_ifnullYes (X : Wk p l e R s m args below meth c Z n0 y code ml ret T cells slots h) {o : Int} (hd : decode code pc = .ok (.ifnull o, 3)) (ho : 0 ≤ (pc : Int) + o) (hp : ((pc : Int) + o).toNat = pc') (g : Goes p e below K T m pc' L S) : Goes p e below K T m pc L (.null :: S) := by
  obtain ⟨hx, -, hby, -, -, -, -, -, -, locs, X, -, -⟩ := X
  obtain ⟨u1, a1, b1⟩ := g
  exact ⟨u1, XS.ifnullYes (g := mkF m pc L (.null :: S)) X.here hx rfl (pc0 := pc) rfl (hb hby hd) rfl ho hp a1, b1⟩
theorem w_ifnullNo (X : Wk p l e R s m args below meth c Z n0 y code ml ret T cells slots h) {o : Int} {a : Addr} (hd : decode code pc = .ok (.ifnull o, 3)) (hp : pc + 3 = pc') (g : Goes p e below K T m pc' L S) : Goes p e below K T m pc L (.ref a :: S) := by
  obtain ⟨hx, -, hby, -, -, -, -, -, -, locs, X, -, -⟩ := X
  subst hp
  obtain ⟨u1, a1, b1⟩ := g
  exact ⟨u1, XS.ifnullNo (g := mkF m pc L (.ref a :: S)) X.here hx rfl (hb hby hd) rfl a1, b1⟩
theorem w_ifnonnullYes (X : Wk p l e R s m args below meth c Z n0 y code ml ret T cells slots h) {o : Int} {a : Addr} (hd : decode code pc = .ok (.ifnonnull o, 3)) (ho : 0 ≤ (pc : Int) + o) (hp : ((pc : Int) + o).toNat = pc') (g : Goes p e below K T m pc' L S) : Goes p e below K T m pc L (.ref a :: S) := by
  obtain ⟨hx, -, hby, -, -, -, -, -, -, locs, X, -, -⟩ := X
  obtain ⟨u1, a1, b1⟩ := g
  exact ⟨u1, XS.ifnonnullYes (g := mkF m pc L (.ref a :: S)) X.here hx rfl (pc0 := pc) rfl (hb hby hd) rfl ho hp a1, b1⟩
theorem w_ifnonnullNo (X : Wk p l e R s m args below meth c Z n0 y code ml ret T cells slots h) {o : Int} (hd : decode code pc = .ok (.ifnonnull o, 3)) (hp : pc + 3 = pc') (g : Goes p e below K T m pc' L S) : Goes p e below K T m pc L (.null :: S) := by
  obtain ⟨hx, -, hby, -, -, -, -, -, -, locs, X, -, -⟩ := X
  subst hp
  obtain ⟨u1, a1, b1⟩ := g
  exact ⟨u1, XS.ifnonnullNo (g := mkF m pc L (.null :: S)) X.here hx rfl (hb hby hd) rfl a1, b1⟩
theorem w_iadd (X : Wk p l e R s m args below meth c Z n0 y code ml ret T cells slots h) {a b : Int32} (hd : decode code pc = .ok (.iadd, 1)) (hp : pc + 1 = pc') (g : Goes p e below K T m pc' L (.int (a + b) :: S)) : Goes p e below K T m pc L (.int b :: .int a :: S) := by
  obtain ⟨hx, -, hby, -, -, -, -, -, -, locs, X, -, -⟩ := X
  subst hp
  obtain ⟨u1, a1, b1⟩ := g
  exact ⟨u1, XS.iadd (g := mkF m pc L (.int b :: .int a :: S)) X.here hx rfl (hb hby hd) rfl a1, b1⟩
theorem w_ladd (X : Wk p l e R s m args below meth c Z n0 y code ml ret T cells slots h) {a b : Int64} (hd : decode code pc = .ok (.ladd, 1)) (hp : pc + 1 = pc') (g : Goes p e below K T m pc' L (.long (a + b) :: S)) : Goes p e below K T m pc L (.long b :: .long a :: S) := by
  obtain ⟨hx, -, hby, -, -, -, -, -, -, locs, X, -, -⟩ := X
  subst hp
  obtain ⟨u1, a1, b1⟩ := g
  exact ⟨u1, XS.ladd (g := mkF m pc L (.long b :: .long a :: S)) X.here hx rfl (hb hby hd) rfl a1, b1⟩
theorem w_isub (X : Wk p l e R s m args below meth c Z n0 y code ml ret T cells slots h) {a b : Int32} (hd : decode code pc = .ok (.isub, 1)) (hp : pc + 1 = pc') (g : Goes p e below K T m pc' L (.int (a - b) :: S)) : Goes p e below K T m pc L (.int b :: .int a :: S) := by
  obtain ⟨hx, -, hby, -, -, -, -, -, -, locs, X, -, -⟩ := X
  subst hp
  obtain ⟨u1, a1, b1⟩ := g
  exact ⟨u1, XS.isub (g := mkF m pc L (.int b :: .int a :: S)) X.here hx rfl (hb hby hd) rfl a1, b1⟩
theorem w_lsub (X : Wk p l e R s m args below meth c Z n0 y code ml ret T cells slots h) {a b : Int64} (hd : decode code pc = .ok (.lsub, 1)) (hp : pc + 1 = pc') (g : Goes p e below K T m pc' L (.long (a - b) :: S)) : Goes p e below K T m pc L (.long b :: .long a :: S) := by
  obtain ⟨hx, -, hby, -, -, -, -, -, -, locs, X, -, -⟩ := X
  subst hp
  obtain ⟨u1, a1, b1⟩ := g
  exact ⟨u1, XS.lsub (g := mkF m pc L (.long b :: .long a :: S)) X.here hx rfl (hb hby hd) rfl a1, b1⟩
theorem w_imul (X : Wk p l e R s m args below meth c Z n0 y code ml ret T cells slots h) {a b : Int32} (hd : decode code pc = .ok (.imul, 1)) (hp : pc + 1 = pc') (g : Goes p e below K T m pc' L (.int (a * b) :: S)) : Goes p e below K T m pc L (.int b :: .int a :: S) := by
  obtain ⟨hx, -, hby, -, -, -, -, -, -, locs, X, -, -⟩ := X
  subst hp
  obtain ⟨u1, a1, b1⟩ := g
  exact ⟨u1, XS.imul (g := mkF m pc L (.int b :: .int a :: S)) X.here hx rfl (hb hby hd) rfl a1, b1⟩
theorem w_lmul (X : Wk p l e R s m args below meth c Z n0 y code ml ret T cells slots h) {a b : Int64} (hd : decode code pc = .ok (.lmul, 1)) (hp : pc + 1 = pc') (g : Goes p e below K T m pc' L (.long (a * b) :: S)) : Goes p e below K T m pc L (.long b :: .long a :: S) := by
  obtain ⟨hx, -, hby, -, -, -, -, -, -, locs, X, -, -⟩ := X
  subst hp
  obtain ⟨u1, a1, b1⟩ := g
  exact ⟨u1, XS.lmul (g := mkF m pc L (.long b :: .long a :: S)) X.here hx rfl (hb hby hd) rfl a1, b1⟩
theorem w_iand (X : Wk p l e R s m args below meth c Z n0 y code ml ret T cells slots h) {a b : Int32} (hd : decode code pc = .ok (.iand, 1)) (hp : pc + 1 = pc') (g : Goes p e below K T m pc' L (.int (a &&& b) :: S)) : Goes p e below K T m pc L (.int b :: .int a :: S) := by
  obtain ⟨hx, -, hby, -, -, -, -, -, -, locs, X, -, -⟩ := X
  subst hp
  obtain ⟨u1, a1, b1⟩ := g
  exact ⟨u1, XS.iand (g := mkF m pc L (.int b :: .int a :: S)) X.here hx rfl (hb hby hd) rfl a1, b1⟩
theorem w_land (X : Wk p l e R s m args below meth c Z n0 y code ml ret T cells slots h) {a b : Int64} (hd : decode code pc = .ok (.land, 1)) (hp : pc + 1 = pc') (g : Goes p e below K T m pc' L (.long (a &&& b) :: S)) : Goes p e below K T m pc L (.long b :: .long a :: S) := by
  obtain ⟨hx, -, hby, -, -, -, -, -, -, locs, X, -, -⟩ := X
  subst hp
  obtain ⟨u1, a1, b1⟩ := g
  exact ⟨u1, XS.land (g := mkF m pc L (.long b :: .long a :: S)) X.here hx rfl (hb hby hd) rfl a1, b1⟩
theorem w_ior (X : Wk p l e R s m args below meth c Z n0 y code ml ret T cells slots h) {a b : Int32} (hd : decode code pc = .ok (.ior, 1)) (hp : pc + 1 = pc') (g : Goes p e below K T m pc' L (.int (a ||| b) :: S)) : Goes p e below K T m pc L (.int b :: .int a :: S) := by
  obtain ⟨hx, -, hby, -, -, -, -, -, -, locs, X, -, -⟩ := X
  subst hp
  obtain ⟨u1, a1, b1⟩ := g
  exact ⟨u1, XS.ior (g := mkF m pc L (.int b :: .int a :: S)) X.here hx rfl (hb hby hd) rfl a1, b1⟩
theorem w_lor (X : Wk p l e R s m args below meth c Z n0 y code ml ret T cells slots h) {a b : Int64} (hd : decode code pc = .ok (.lor, 1)) (hp : pc + 1 = pc') (g : Goes p e below K T m pc' L (.long (a ||| b) :: S)) : Goes p e below K T m pc L (.long b :: .long a :: S) := by
  obtain ⟨hx, -, hby, -, -, -, -, -, -, locs, X, -, -⟩ := X
  subst hp
  obtain ⟨u1, a1, b1⟩ := g
  exact ⟨u1, XS.lor (g := mkF m pc L (.long b :: .long a :: S)) X.here hx rfl (hb hby hd) rfl a1, b1⟩
theorem w_ixor (X : Wk p l e R s m args below meth c Z n0 y code ml ret T cells slots h) {a b : Int32} (hd : decode code pc = .ok (.ixor, 1)) (hp : pc + 1 = pc') (g : Goes p e below K T m pc' L (.int (a ^^^ b) :: S)) : Goes p e below K T m pc L (.int b :: .int a :: S) := by
  obtain ⟨hx, -, hby, -, -, -, -, -, -, locs, X, -, -⟩ := X
  subst hp
  obtain ⟨u1, a1, b1⟩ := g
  exact ⟨u1, XS.ixor (g := mkF m pc L (.int b :: .int a :: S)) X.here hx rfl (hb hby hd) rfl a1, b1⟩
theorem w_lxor (X : Wk p l e R s m args below meth c Z n0 y code ml ret T cells slots h) {a b : Int64} (hd : decode code pc = .ok (.lxor, 1)) (hp : pc + 1 = pc') (g : Goes p e below K T m pc' L (.long (a ^^^ b) :: S)) : Goes p e below K T m pc L (.long b :: .long a :: S) := by
  obtain ⟨hx, -, hby, -, -, -, -, -, -, locs, X, -, -⟩ := X
  subst hp
  obtain ⟨u1, a1, b1⟩ := g
  exact ⟨u1, XS.lxor (g := mkF m pc L (.long b :: .long a :: S)) X.here hx rfl (hb hby hd) rfl a1, b1⟩
theorem w_ishl (X : Wk p l e R s m args below meth c Z n0 y code ml ret T cells slots h) {a b : Int32} (hd : decode code pc = .ok (.ishl, 1)) (hp : pc + 1 = pc') (g : Goes p e below K T m pc' L (.int (a <<< (b &&& 31)) :: S)) : Goes p e below K T m pc L (.int b :: .int a :: S) := by
  obtain ⟨hx, -, hby, -, -, -, -, -, -, locs, X, -, -⟩ := X
  subst hp
  obtain ⟨u1, a1, b1⟩ := g
  exact ⟨u1, XS.ishl (g := mkF m pc L (.int b :: .int a :: S)) X.here hx rfl (hb hby hd) rfl a1, b1⟩
theorem w_ishr (X : Wk p l e R s m args below meth c Z n0 y code ml ret T cells slots h) {a b : Int32} (hd : decode code pc = .ok (.ishr, 1)) (hp : pc + 1 = pc') (g : Goes p e below K T m pc' L (.int (a >>> (b &&& 31)) :: S)) : Goes p e below K T m pc L (.int b :: .int a :: S) := by
  obtain ⟨hx, -, hby, -, -, -, -, -, -, locs, X, -, -⟩ := X
  subst hp
  obtain ⟨u1, a1, b1⟩ := g
  exact ⟨u1, XS.ishr (g := mkF m pc L (.int b :: .int a :: S)) X.here hx rfl (hb hby hd) rfl a1, b1⟩
theorem w_iushr (X : Wk p l e R s m args below meth c Z n0 y code ml ret T cells slots h) {a b : Int32} (hd : decode code pc = .ok (.iushr, 1)) (hp : pc + 1 = pc') (g : Goes p e below K T m pc' L (.int (ush a b) :: S)) : Goes p e below K T m pc L (.int b :: .int a :: S) := by
  obtain ⟨hx, -, hby, -, -, -, -, -, -, locs, X, -, -⟩ := X
  subst hp
  obtain ⟨u1, a1, b1⟩ := g
  exact ⟨u1, XS.iushr (g := mkF m pc L (.int b :: .int a :: S)) X.here hx rfl (hb hby hd) rfl a1, b1⟩
theorem w_lshl (X : Wk p l e R s m args below meth c Z n0 y code ml ret T cells slots h) {a : Int64} {b : Int32} (hd : decode code pc = .ok (.lshl, 1)) (hp : pc + 1 = pc') (g : Goes p e below K T m pc' L (.long (a <<< (b &&& 0x3f).toInt64) :: S)) : Goes p e below K T m pc L (.int b :: .long a :: S) := by
  obtain ⟨hx, -, hby, -, -, -, -, -, -, locs, X, -, -⟩ := X
  subst hp
  obtain ⟨u1, a1, b1⟩ := g
  exact ⟨u1, XS.lshl (g := mkF m pc L (.int b :: .long a :: S)) X.here hx rfl (hb hby hd) rfl a1, b1⟩
theorem w_lshr (X : Wk p l e R s m args below meth c Z n0 y code ml ret T cells slots h) {a : Int64} {b : Int32} (hd : decode code pc = .ok (.lshr, 1)) (hp : pc + 1 = pc') (g : Goes p e below K T m pc' L (.long (a >>> (b &&& 0x3f).toInt64) :: S)) : Goes p e below K T m pc L (.int b :: .long a :: S) := by
  obtain ⟨hx, -, hby, -, -, -, -, -, -, locs, X, -, -⟩ := X
  subst hp
  obtain ⟨u1, a1, b1⟩ := g
  exact ⟨u1, XS.lshr (g := mkF m pc L (.int b :: .long a :: S)) X.here hx rfl (hb hby hd) rfl a1, b1⟩
theorem w_lushr (X : Wk p l e R s m args below meth c Z n0 y code ml ret T cells slots h) {a : Int64} {b : Int32} (hd : decode code pc = .ok (.lushr, 1)) (hp : pc + 1 = pc') (g : Goes p e below K T m pc' L (.long (ushL a b) :: S)) : Goes p e below K T m pc L (.int b :: .long a :: S) := by
  obtain ⟨hx, -, hby, -, -, -, -, -, -, locs, X, -, -⟩ := X
  subst hp
  obtain ⟨u1, a1, b1⟩ := g
  exact ⟨u1, XS.lushr (g := mkF m pc L (.int b :: .long a :: S)) X.here hx rfl (hb hby hd) rfl a1, b1⟩
theorem w_ineg (X : Wk p l e R s m args below meth c Z n0 y code ml ret T cells slots h) {a : Int32} (hd : decode code pc = .ok (.ineg, 1)) (hp : pc + 1 = pc') (g : Goes p e below K T m pc' L (.int (-a) :: S)) : Goes p e below K T m pc L (.int a :: S) := by
  obtain ⟨hx, -, hby, -, -, -, -, -, -, locs, X, -, -⟩ := X
  subst hp
  obtain ⟨u1, a1, b1⟩ := g
  exact ⟨u1, XS.ineg (g := mkF m pc L (.int a :: S)) X.here hx rfl (hb hby hd) rfl a1, b1⟩
theorem w_lneg (X : Wk p l e R s m args below meth c Z n0 y code ml ret T cells slots h) {a : Int64} (hd : decode code pc = .ok (.lneg, 1)) (hp : pc + 1 = pc') (g : Goes p e below K T m pc' L (.long (-a) :: S)) : Goes p e below K T m pc L (.long a :: S) := by
  obtain ⟨hx, -, hby, -, -, -, -, -, -, locs, X, -, -⟩ := X
  subst hp
  obtain ⟨u1, a1, b1⟩ := g
  exact ⟨u1, XS.lneg (g := mkF m pc L (.long a :: S)) X.here hx rfl (hb hby hd) rfl a1, b1⟩
theorem w_i2l (X : Wk p l e R s m args below meth c Z n0 y code ml ret T cells slots h) {a : Int32} (hd : decode code pc = .ok (.i2l, 1)) (hp : pc + 1 = pc') (g : Goes p e below K T m pc' L (.long a.toInt64 :: S)) : Goes p e below K T m pc L (.int a :: S) := by
  obtain ⟨hx, -, hby, -, -, -, -, -, -, locs, X, -, -⟩ := X
  subst hp
  obtain ⟨u1, a1, b1⟩ := g
  exact ⟨u1, XS.i2l (g := mkF m pc L (.int a :: S)) X.here hx rfl (hb hby hd) rfl a1, b1⟩
theorem w_l2i (X : Wk p l e R s m args below meth c Z n0 y code ml ret T cells slots h) {a : Int64} (hd : decode code pc = .ok (.l2i, 1)) (hp : pc + 1 = pc') (g : Goes p e below K T m pc' L (.int a.toInt32 :: S)) : Goes p e below K T m pc L (.long a :: S) := by
  obtain ⟨hx, -, hby, -, -, -, -, -, -, locs, X, -, -⟩ := X
  subst hp
  obtain ⟨u1, a1, b1⟩ := g
  exact ⟨u1, XS.l2i (g := mkF m pc L (.long a :: S)) X.here hx rfl (hb hby hd) rfl a1, b1⟩
theorem w_i2b (X : Wk p l e R s m args below meth c Z n0 y code ml ret T cells slots h) {a : Int32} (hd : decode code pc = .ok (.i2b, 1)) (hp : pc + 1 = pc') (g : Goes p e below K T m pc' L (.int a.toInt8.toInt32 :: S)) : Goes p e below K T m pc L (.int a :: S) := by
  obtain ⟨hx, -, hby, -, -, -, -, -, -, locs, X, -, -⟩ := X
  subst hp
  obtain ⟨u1, a1, b1⟩ := g
  exact ⟨u1, XS.i2b (g := mkF m pc L (.int a :: S)) X.here hx rfl (hb hby hd) rfl a1, b1⟩
theorem w_i2s (X : Wk p l e R s m args below meth c Z n0 y code ml ret T cells slots h) {a : Int32} (hd : decode code pc = .ok (.i2s, 1)) (hp : pc + 1 = pc') (g : Goes p e below K T m pc' L (.int a.toInt16.toInt32 :: S)) : Goes p e below K T m pc L (.int a :: S) := by
  obtain ⟨hx, -, hby, -, -, -, -, -, -, locs, X, -, -⟩ := X
  subst hp
  obtain ⟨u1, a1, b1⟩ := g
  exact ⟨u1, XS.i2s (g := mkF m pc L (.int a :: S)) X.here hx rfl (hb hby hd) rfl a1, b1⟩
theorem w_i2c (X : Wk p l e R s m args below meth c Z n0 y code ml ret T cells slots h) {a : Int32} (hd : decode code pc = .ok (.i2c, 1)) (hp : pc + 1 = pc') (g : Goes p e below K T m pc' L (.int a.toUInt32.toUInt16.toUInt32.toInt32 :: S)) : Goes p e below K T m pc L (.int a :: S) := by
  obtain ⟨hx, -, hby, -, -, -, -, -, -, locs, X, -, -⟩ := X
  subst hp
  obtain ⟨u1, a1, b1⟩ := g
  exact ⟨u1, XS.i2c (g := mkF m pc L (.int a :: S)) X.here hx rfl (hb hby hd) rfl a1, b1⟩
theorem w_idiv (X : Wk p l e R s m args below meth c Z n0 y code ml ret T cells slots h) {a b : Int32} (hd : decode code pc = .ok (.idiv, 1)) (hp : pc + 1 = pc') (hb0 : b ≠ 0) (g : Goes p e below K T m pc' L (.int (a / b) :: S)) : Goes p e below K T m pc L (.int b :: .int a :: S) := by
  obtain ⟨hx, -, hby, -, -, -, -, -, -, locs, X, -, -⟩ := X
  subst hp
  obtain ⟨u1, a1, b1⟩ := g
  exact ⟨u1, XS.idiv (g := mkF m pc L (.int b :: .int a :: S)) X.here hx rfl (hb hby hd) rfl hb0 a1, b1⟩
theorem w_irem (X : Wk p l e R s m args below meth c Z n0 y code ml ret T cells slots h) {a b : Int32} (hd : decode code pc = .ok (.irem, 1)) (hp : pc + 1 = pc') (hb0 : b ≠ 0) (g : Goes p e below K T m pc' L (.int (a % b) :: S)) : Goes p e below K T m pc L (.int b :: .int a :: S) := by
  obtain ⟨hx, -, hby, -, -, -, -, -, -, locs, X, -, -⟩ := X
  subst hp
  obtain ⟨u1, a1, b1⟩ := g
  exact ⟨u1, Jvm.RoadKit.iremM (g := mkF m pc L (.int b :: .int a :: S)) X hx rfl (hb hby hd) rfl hb0 a1, b1⟩
theorem w_ldiv (X : Wk p l e R s m args below meth c Z n0 y code ml ret T cells slots h) {a b : Int64} (hd : decode code pc = .ok (.ldiv, 1)) (hp : pc + 1 = pc') (hb0 : b ≠ 0) (g : Goes p e below K T m pc' L (.long (a / b) :: S)) : Goes p e below K T m pc L (.long b :: .long a :: S) := by
  obtain ⟨hx, -, hby, -, -, -, -, -, -, locs, X, -, -⟩ := X
  subst hp
  obtain ⟨u1, a1, b1⟩ := g
  exact ⟨u1, XS.ldiv (g := mkF m pc L (.long b :: .long a :: S)) X.here hx rfl (hb hby hd) rfl hb0 a1, b1⟩
theorem w_lrem (X : Wk p l e R s m args below meth c Z n0 y code ml ret T cells slots h) {a b : Int64} (hd : decode code pc = .ok (.lrem, 1)) (hp : pc + 1 = pc') (hb0 : b ≠ 0) (g : Goes p e below K T m pc' L (.long (a % b) :: S)) : Goes p e below K T m pc L (.long b :: .long a :: S) := by
  obtain ⟨hx, -, hby, -, -, -, -, -, -, locs, X, -, -⟩ := X
  subst hp
  rw [← lrem_mod] at g
  obtain ⟨u1, a1, b1⟩ := g
  exact ⟨u1, XS.lrem (g := mkF m pc L (.long b :: .long a :: S)) X.here hx rfl (hb hby hd) rfl hb0 a1, b1⟩
theorem w_lcmp (X : Wk p l e R s m args below meth c Z n0 y code ml ret T cells slots h) {a b : Int64} (hd : decode code pc = .ok (.lcmp, 1)) (hp : pc + 1 = pc') (g : Goes p e below K T m pc' L (.int (lcmpW a b) :: S)) : Goes p e below K T m pc L (.long b :: .long a :: S) := by
  obtain ⟨hx, -, hby, -, -, -, -, -, -, locs, X, -, -⟩ := X
  subst hp
  obtain ⟨u1, a1, b1⟩ := g
  exact ⟨u1, XS.lcmp (g := mkF m pc L (.long b :: .long a :: S)) X.here hx rfl (hb hby hd) rfl a1, b1⟩
theorem w_icmp_lt (X : Wk p l e R s m args below meth c Z n0 y code ml ret T cells slots h) {a b : Int32} {o : Int} {pcT pcF : Nat} (hd : decode code pc = .ok (.if_icmp .lt o, 3)) (ho : 0 ≤ (pc : Int) + o) (hT : ((pc : Int) + o).toNat = pcT) (hF : pc + 3 = pcF) (gT : a < b → Goes p e below K T m pcT L S) (gF : ¬ a < b → Goes p e below K T m pcF L S) : Goes p e below K T m pc L (.int b :: .int a :: S) := by
  obtain ⟨hx, -, hby, -, -, -, -, -, -, locs, X, -, -⟩ := X
  subst hF
  by_cases q : a < b
  · obtain ⟨u1, a1, b1⟩ := (gT q)
    exact ⟨u1, XS.icmpYes (g := mkF m pc L (.int b :: .int a :: S)) X.here hx rfl (pc0 := pc) rfl (hb hby hd) rfl (tlt q).1 ho hT a1, b1⟩
  · obtain ⟨u1, a1, b1⟩ := (gF q)
    exact ⟨u1, XS.icmpNo (g := mkF m pc L (.int b :: .int a :: S)) X.here hx rfl (hb hby hd) rfl (flt q).1 a1, b1⟩
theorem w_if_lt (X : Wk p l e R s m args below meth c Z n0 y code ml ret T cells slots h) {a : Int32} {o : Int} {pcT pcF : Nat} (hd : decode code pc = .ok (.ifCond .lt o, 3)) (ho : 0 ≤ (pc : Int) + o) (hT : ((pc : Int) + o).toNat = pcT) (hF : pc + 3 = pcF) (gT : a < 0 → Goes p e below K T m pcT L S) (gF : ¬ a < 0 → Goes p e below K T m pcF L S) : Goes p e below K T m pc L (.int a :: S) := by
  obtain ⟨hx, -, hby, -, -, -, -, -, -, locs, X, -, -⟩ := X
  subst hF
  by_cases q : a < 0
  · obtain ⟨u1, a1, b1⟩ := (gT q)
    exact ⟨u1, XS.ifYes (g := mkF m pc L (.int a :: S)) X.here hx rfl (pc0 := pc) rfl (hb hby hd) rfl ((if0 _ _).trans (tlt q).1) ho hT a1, b1⟩
  · obtain ⟨u1, a1, b1⟩ := (gF q)
    exact ⟨u1, XS.ifNo (g := mkF m pc L (.int a :: S)) X.here hx rfl (hb hby hd) rfl ((if0 _ _).trans (flt q).1) a1, b1⟩
theorem w_lcmp_lt (X : Wk p l e R s m args below meth c Z n0 y code ml ret T cells slots h) {a b : Int64} {o : Int} {pcI pcT pcF : Nat} (hd0 : decode code pc = .ok (.lcmp, 1)) (hp : pc + 1 = pcI) (hd : decode code pcI = .ok (.ifCond .lt o, 3)) (ho : 0 ≤ (pcI : Int) + o) (hT : ((pcI : Int) + o).toNat = pcT) (hF : pcI + 3 = pcF) (gT : a < b → Goes p e below K T m pcT L S) (gF : ¬ a < b → Goes p e below K T m pcF L S) : Goes p e below K T m pc L (.long b :: .long a :: S) :=
  w_lcmp X hd0 hp (w_if_lt X hd ho hT hF (fun q => gT ((lw_lt a b).mp q)) (fun q => gF (fun r => q ((lw_lt a b).mpr r))))
theorem w_icmp_ge (X : Wk p l e R s m args below meth c Z n0 y code ml ret T cells slots h) {a b : Int32} {o : Int} {pcT pcF : Nat} (hd : decode code pc = .ok (.if_icmp .ge o, 3)) (ho : 0 ≤ (pc : Int) + o) (hT : ((pc : Int) + o).toNat = pcT) (hF : pc + 3 = pcF) (gT : ¬ a < b → Goes p e below K T m pcT L S) (gF : a < b → Goes p e below K T m pcF L S) : Goes p e below K T m pc L (.int b :: .int a :: S) := by
  obtain ⟨hx, -, hby, -, -, -, -, -, -, locs, X, -, -⟩ := X
  subst hF
  by_cases q : ¬ a < b
  · obtain ⟨u1, a1, b1⟩ := (gT q)
    exact ⟨u1, XS.icmpYes (g := mkF m pc L (.int b :: .int a :: S)) X.here hx rfl (pc0 := pc) rfl (hb hby hd) rfl (flt q).2.1 ho hT a1, b1⟩
  · obtain ⟨u1, a1, b1⟩ := (gF (Classical.not_not.mp q))
    exact ⟨u1, XS.icmpNo (g := mkF m pc L (.int b :: .int a :: S)) X.here hx rfl (hb hby hd) rfl (tlt (Classical.not_not.mp q)).2.1 a1, b1⟩
theorem w_if_ge (X : Wk p l e R s m args below meth c Z n0 y code ml ret T cells slots h) {a : Int32} {o : Int} {pcT pcF : Nat} (hd : decode code pc = .ok (.ifCond .ge o, 3)) (ho : 0 ≤ (pc : Int) + o) (hT : ((pc : Int) + o).toNat = pcT) (hF : pc + 3 = pcF) (gT : ¬ a < 0 → Goes p e below K T m pcT L S) (gF : a < 0 → Goes p e below K T m pcF L S) : Goes p e below K T m pc L (.int a :: S) := by
  obtain ⟨hx, -, hby, -, -, -, -, -, -, locs, X, -, -⟩ := X
  subst hF
  by_cases q : ¬ a < 0
  · obtain ⟨u1, a1, b1⟩ := (gT q)
    exact ⟨u1, XS.ifYes (g := mkF m pc L (.int a :: S)) X.here hx rfl (pc0 := pc) rfl (hb hby hd) rfl ((if0 _ _).trans (flt q).2.1) ho hT a1, b1⟩
  · obtain ⟨u1, a1, b1⟩ := (gF (Classical.not_not.mp q))
    exact ⟨u1, XS.ifNo (g := mkF m pc L (.int a :: S)) X.here hx rfl (hb hby hd) rfl ((if0 _ _).trans (tlt (Classical.not_not.mp q)).2.1) a1, b1⟩
theorem w_lcmp_ge (X : Wk p l e R s m args below meth c Z n0 y code ml ret T cells slots h) {a b : Int64} {o : Int} {pcI pcT pcF : Nat} (hd0 : decode code pc = .ok (.lcmp, 1)) (hp : pc + 1 = pcI) (hd : decode code pcI = .ok (.ifCond .ge o, 3)) (ho : 0 ≤ (pcI : Int) + o) (hT : ((pcI : Int) + o).toNat = pcT) (hF : pcI + 3 = pcF) (gT : ¬ a < b → Goes p e below K T m pcT L S) (gF : a < b → Goes p e below K T m pcF L S) : Goes p e below K T m pc L (.long b :: .long a :: S) :=
  w_lcmp X hd0 hp (w_if_ge X hd ho hT hF (fun q => gT (fun r => q ((lw_lt a b).mpr r))) (fun q => gF ((lw_lt a b).mp q)))
theorem w_icmp_gt (X : Wk p l e R s m args below meth c Z n0 y code ml ret T cells slots h) {a b : Int32} {o : Int} {pcT pcF : Nat} (hd : decode code pc = .ok (.if_icmp .gt o, 3)) (ho : 0 ≤ (pc : Int) + o) (hT : ((pc : Int) + o).toNat = pcT) (hF : pc + 3 = pcF) (gT : b < a → Goes p e below K T m pcT L S) (gF : ¬ b < a → Goes p e below K T m pcF L S) : Goes p e below K T m pc L (.int b :: .int a :: S) := by
  obtain ⟨hx, -, hby, -, -, -, -, -, -, locs, X, -, -⟩ := X
  subst hF
  by_cases q : b < a
  · obtain ⟨u1, a1, b1⟩ := (gT q)
    exact ⟨u1, XS.icmpYes (g := mkF m pc L (.int b :: .int a :: S)) X.here hx rfl (pc0 := pc) rfl (hb hby hd) rfl (tlt q).2.2.1 ho hT a1, b1⟩
  · obtain ⟨u1, a1, b1⟩ := (gF q)
    exact ⟨u1, XS.icmpNo (g := mkF m pc L (.int b :: .int a :: S)) X.here hx rfl (hb hby hd) rfl (flt q).2.2.1 a1, b1⟩
theorem w_if_gt (X : Wk p l e R s m args below meth c Z n0 y code ml ret T cells slots h) {a : Int32} {o : Int} {pcT pcF : Nat} (hd : decode code pc = .ok (.ifCond .gt o, 3)) (ho : 0 ≤ (pc : Int) + o) (hT : ((pc : Int) + o).toNat = pcT) (hF : pc + 3 = pcF) (gT : 0 < a → Goes p e below K T m pcT L S) (gF : ¬ 0 < a → Goes p e below K T m pcF L S) : Goes p e below K T m pc L (.int a :: S) := by
  obtain ⟨hx, -, hby, -, -, -, -, -, -, locs, X, -, -⟩ := X
  subst hF
  by_cases q : 0 < a
  · obtain ⟨u1, a1, b1⟩ := (gT q)
    exact ⟨u1, XS.ifYes (g := mkF m pc L (.int a :: S)) X.here hx rfl (pc0 := pc) rfl (hb hby hd) rfl ((if0 _ _).trans (tlt q).2.2.1) ho hT a1, b1⟩
  · obtain ⟨u1, a1, b1⟩ := (gF q)
    exact ⟨u1, XS.ifNo (g := mkF m pc L (.int a :: S)) X.here hx rfl (hb hby hd) rfl ((if0 _ _).trans (flt q).2.2.1) a1, b1⟩
theorem w_lcmp_gt (X : Wk p l e R s m args below meth c Z n0 y code ml ret T cells slots h) {a b : Int64} {o : Int} {pcI pcT pcF : Nat} (hd0 : decode code pc = .ok (.lcmp, 1)) (hp : pc + 1 = pcI) (hd : decode code pcI = .ok (.ifCond .gt o, 3)) (ho : 0 ≤ (pcI : Int) + o) (hT : ((pcI : Int) + o).toNat = pcT) (hF : pcI + 3 = pcF) (gT : b < a → Goes p e below K T m pcT L S) (gF : ¬ b < a → Goes p e below K T m pcF L S) : Goes p e below K T m pc L (.long b :: .long a :: S) :=
  w_lcmp X hd0 hp (w_if_gt X hd ho hT hF (fun q => gT ((lw_gt a b).mp q)) (fun q => gF (fun r => q ((lw_gt a b).mpr r))))
theorem w_icmp_le (X : Wk p l e R s m args below meth c Z n0 y code ml ret T cells slots h) {a b : Int32} {o : Int} {pcT pcF : Nat} (hd : decode code pc = .ok (.if_icmp .le o, 3)) (ho : 0 ≤ (pc : Int) + o) (hT : ((pc : Int) + o).toNat = pcT) (hF : pc + 3 = pcF) (gT : ¬ b < a → Goes p e below K T m pcT L S) (gF : b < a → Goes p e below K T m pcF L S) : Goes p e below K T m pc L (.int b :: .int a :: S) := by
  obtain ⟨hx, -, hby, -, -, -, -, -, -, locs, X, -, -⟩ := X
  subst hF
  by_cases q : ¬ b < a
  · obtain ⟨u1, a1, b1⟩ := (gT q)
    exact ⟨u1, XS.icmpYes (g := mkF m pc L (.int b :: .int a :: S)) X.here hx rfl (pc0 := pc) rfl (hb hby hd) rfl (flt q).2.2.2 ho hT a1, b1⟩
  · obtain ⟨u1, a1, b1⟩ := (gF (Classical.not_not.mp q))
    exact ⟨u1, XS.icmpNo (g := mkF m pc L (.int b :: .int a :: S)) X.here hx rfl (hb hby hd) rfl (tlt (Classical.not_not.mp q)).2.2.2 a1, b1⟩
theorem w_if_le (X : Wk p l e R s m args below meth c Z n0 y code ml ret T cells slots h) {a : Int32} {o : Int} {pcT pcF : Nat} (hd : decode code pc = .ok (.ifCond .le o, 3)) (ho : 0 ≤ (pc : Int) + o) (hT : ((pc : Int) + o).toNat = pcT) (hF : pc + 3 = pcF) (gT : ¬ 0 < a → Goes p e below K T m pcT L S) (gF : 0 < a → Goes p e below K T m pcF L S) : Goes p e below K T m pc L (.int a :: S) := by
  obtain ⟨hx, -, hby, -, -, -, -, -, -, locs, X, -, -⟩ := X
  subst hF
  by_cases q : ¬ 0 < a
  · obtain ⟨u1, a1, b1⟩ := (gT q)
    exact ⟨u1, XS.ifYes (g := mkF m pc L (.int a :: S)) X.here hx rfl (pc0 := pc) rfl (hb hby hd) rfl ((if0 _ _).trans (flt q).2.2.2) ho hT a1, b1⟩
  · obtain ⟨u1, a1, b1⟩ := (gF (Classical.not_not.mp q))
    exact ⟨u1, XS.ifNo (g := mkF m pc L (.int a :: S)) X.here hx rfl (hb hby hd) rfl ((if0 _ _).trans (tlt (Classical.not_not.mp q)).2.2.2) a1, b1⟩
theorem w_lcmp_le (X : Wk p l e R s m args below meth c Z n0 y code ml ret T cells slots h) {a b : Int64} {o : Int} {pcI pcT pcF : Nat} (hd0 : decode code pc = .ok (.lcmp, 1)) (hp : pc + 1 = pcI) (hd : decode code pcI = .ok (.ifCond .le o, 3)) (ho : 0 ≤ (pcI : Int) + o) (hT : ((pcI : Int) + o).toNat = pcT) (hF : pcI + 3 = pcF) (gT : ¬ b < a → Goes p e below K T m pcT L S) (gF : b < a → Goes p e below K T m pcF L S) : Goes p e below K T m pc L (.long b :: .long a :: S) :=
  w_lcmp X hd0 hp (w_if_le X hd ho hT hF (fun q => gT (fun r => q ((lw_gt a b).mpr r))) (fun q => gF ((lw_gt a b).mp q)))
theorem w_icmp_eq (X : Wk p l e R s m args below meth c Z n0 y code ml ret T cells slots h) {a b : Int32} {o : Int} {pcT pcF : Nat} (hd : decode code pc = .ok (.if_icmp .eq o, 3)) (ho : 0 ≤ (pc : Int) + o) (hT : ((pc : Int) + o).toNat = pcT) (hF : pc + 3 = pcF) (gT : a = b → Goes p e below K T m pcT L S) (gF : ¬ a = b → Goes p e below K T m pcF L S) : Goes p e below K T m pc L (.int b :: .int a :: S) := by
  obtain ⟨hx, -, hby, -, -, -, -, -, -, locs, X, -, -⟩ := X
  subst hF
  by_cases q : a = b
  · obtain ⟨u1, a1, b1⟩ := (gT q)
    exact ⟨u1, XS.icmpYes (g := mkF m pc L (.int b :: .int a :: S)) X.here hx rfl (pc0 := pc) rfl (hb hby hd) rfl (teq q).1 ho hT a1, b1⟩
  · obtain ⟨u1, a1, b1⟩ := (gF q)
    exact ⟨u1, XS.icmpNo (g := mkF m pc L (.int b :: .int a :: S)) X.here hx rfl (hb hby hd) rfl (feq q).1 a1, b1⟩
theorem w_if_eq (X : Wk p l e R s m args below meth c Z n0 y code ml ret T cells slots h) {a : Int32} {o : Int} {pcT pcF : Nat} (hd : decode code pc = .ok (.ifCond .eq o, 3)) (ho : 0 ≤ (pc : Int) + o) (hT : ((pc : Int) + o).toNat = pcT) (hF : pc + 3 = pcF) (gT : a = 0 → Goes p e below K T m pcT L S) (gF : ¬ a = 0 → Goes p e below K T m pcF L S) : Goes p e below K T m pc L (.int a :: S) := by
  obtain ⟨hx, -, hby, -, -, -, -, -, -, locs, X, -, -⟩ := X
  subst hF
  by_cases q : a = 0
  · obtain ⟨u1, a1, b1⟩ := (gT q)
    exact ⟨u1, XS.ifYes (g := mkF m pc L (.int a :: S)) X.here hx rfl (pc0 := pc) rfl (hb hby hd) rfl ((if0 _ _).trans (teq q).1) ho hT a1, b1⟩
  · obtain ⟨u1, a1, b1⟩ := (gF q)
    exact ⟨u1, XS.ifNo (g := mkF m pc L (.int a :: S)) X.here hx rfl (hb hby hd) rfl ((if0 _ _).trans (feq q).1) a1, b1⟩
theorem w_lcmp_eq (X : Wk p l e R s m args below meth c Z n0 y code ml ret T cells slots h) {a b : Int64} {o : Int} {pcI pcT pcF : Nat} (hd0 : decode code pc = .ok (.lcmp, 1)) (hp : pc + 1 = pcI) (hd : decode code pcI = .ok (.ifCond .eq o, 3)) (ho : 0 ≤ (pcI : Int) + o) (hT : ((pcI : Int) + o).toNat = pcT) (hF : pcI + 3 = pcF) (gT : a = b → Goes p e below K T m pcT L S) (gF : ¬ a = b → Goes p e below K T m pcF L S) : Goes p e below K T m pc L (.long b :: .long a :: S) :=
  w_lcmp X hd0 hp (w_if_eq X hd ho hT hF (fun q => gT ((lw_eq a b).mp q)) (fun q => gF (fun r => q ((lw_eq a b).mpr r))))
theorem w_icmp_ne (X : Wk p l e R s m args below meth c Z n0 y code ml ret T cells slots h) {a b : Int32} {o : Int} {pcT pcF : Nat} (hd : decode code pc = .ok (.if_icmp .ne o, 3)) (ho : 0 ≤ (pc : Int) + o) (hT : ((pc : Int) + o).toNat = pcT) (hF : pc + 3 = pcF) (gT : ¬ a = b → Goes p e below K T m pcT L S) (gF : a = b → Goes p e below K T m pcF L S) : Goes p e below K T m pc L (.int b :: .int a :: S) := by
  obtain ⟨hx, -, hby, -, -, -, -, -, -, locs, X, -, -⟩ := X
  subst hF
  by_cases q : ¬ a = b
  · obtain ⟨u1, a1, b1⟩ := (gT q)
    exact ⟨u1, XS.icmpYes (g := mkF m pc L (.int b :: .int a :: S)) X.here hx rfl (pc0 := pc) rfl (hb hby hd) rfl (feq q).2 ho hT a1, b1⟩
  · obtain ⟨u1, a1, b1⟩ := (gF (Classical.not_not.mp q))
    exact ⟨u1, XS.icmpNo (g := mkF m pc L (.int b :: .int a :: S)) X.here hx rfl (hb hby hd) rfl (teq (Classical.not_not.mp q)).2 a1, b1⟩
theorem w_if_ne (X : Wk p l e R s m args below meth c Z n0 y code ml ret T cells slots h) {a : Int32} {o : Int} {pcT pcF : Nat} (hd : decode code pc = .ok (.ifCond .ne o, 3)) (ho : 0 ≤ (pc : Int) + o) (hT : ((pc : Int) + o).toNat = pcT) (hF : pc + 3 = pcF) (gT : ¬ a = 0 → Goes p e below K T m pcT L S) (gF : a = 0 → Goes p e below K T m pcF L S) : Goes p e below K T m pc L (.int a :: S) := by
  obtain ⟨hx, -, hby, -, -, -, -, -, -, locs, X, -, -⟩ := X
  subst hF
  by_cases q : ¬ a = 0
  · obtain ⟨u1, a1, b1⟩ := (gT q)
    exact ⟨u1, XS.ifYes (g := mkF m pc L (.int a :: S)) X.here hx rfl (pc0 := pc) rfl (hb hby hd) rfl ((if0 _ _).trans (feq q).2) ho hT a1, b1⟩
  · obtain ⟨u1, a1, b1⟩ := (gF (Classical.not_not.mp q))
    exact ⟨u1, XS.ifNo (g := mkF m pc L (.int a :: S)) X.here hx rfl (hb hby hd) rfl ((if0 _ _).trans (teq (Classical.not_not.mp q)).2) a1, b1⟩
theorem w_lcmp_ne (X : Wk p l e R s m args below meth c Z n0 y code ml ret T cells slots h) {a b : Int64} {o : Int} {pcI pcT pcF : Nat} (hd0 : decode code pc = .ok (.lcmp, 1)) (hp : pc + 1 = pcI) (hd : decode code pcI = .ok (.ifCond .ne o, 3)) (ho : 0 ≤ (pcI : Int) + o) (hT : ((pcI : Int) + o).toNat = pcT) (hF : pcI + 3 = pcF) (gT : ¬ a = b → Goes p e below K T m pcT L S) (gF : a = b → Goes p e below K T m pcF L S) : Goes p e below K T m pc L (.long b :: .long a :: S) :=
  w_lcmp X hd0 hp (w_if_ne X hd ho hT hF (fun q => gT (fun r => q ((lw_eq a b).mpr r))) (fun q => gF ((lw_eq a b).mp q)))
-- returns
theorem w_ireturn (X : Wk p l e R s m args below meth c Z n0 y code ml (some .int) T cells slots h) {w : Option Value} {Q : Heap → Prop} {z : Int32} (hd : decode code pc = .ok (.ireturn, 1)) (hw : w = some (.int z)) (hq : Q h) (hc : cells ≤ R.cells) (hs : slots ≤ R.slots) : Goes p e below (Done below s n0 R w Q) T m pc L (.int z :: S) := by
  obtain ⟨hx, hZ, hby, hml, hown, hnm, hret, hlk, hn, locs, X, eT, N⟩ := X
  obtain ⟨fs, hr, hrun, hended, hW, hsame⟩ := X.leave (v := some (.int z)) (fun h => by rw [hret] at h; cases h) hlk
  exact ⟨_, Jvm.RoadKit.retI X hx hret (hb hby hd) hr, _, hrun, hended, _, locs, rfl, ⟨hw.symm, (by show Q T.heap; rw [eT]; exact hq), N, (by show n0 ≤ T.heap.size; rw [eT]; exact hn)⟩, ⟨_, rfl⟩, hW, hsame.mono hc hs⟩
theorem w_nreturn {t : FieldType} (X : Wk p l e R s m args below meth c Z n0 y code ml (some t) T cells slots h) {w : Option Value} {Q : Heap → Prop} {z : Int32} (ht : t = .boolean ∨ t = .byte ∨ t = .char ∨ t = .short) (hd : decode code pc = .ok (.ireturn, 1)) (hw : w = some (.int (nar t z))) (hq : Q h) (hc : cells ≤ R.cells) (hs : slots ≤ R.slots) : Goes p e below (Done below s n0 R w Q) T m pc L (.int z :: S) := by
  obtain ⟨hx, hZ, hby, hml, hown, hnm, hret, hlk, hn, locs, X, eT, N⟩ := X
  obtain ⟨fs, hr, hrun, hended, hW, hsame⟩ := X.leave (v := some (.int (nar t z))) (fun h => by rw [hret] at h; cases h) hlk
  exact ⟨_, retN X hx hret ht (hb hby hd) hr, _, hrun, hended, _, locs, rfl, ⟨hw.symm, (by show Q T.heap; rw [eT]; exact hq), N, (by show n0 ≤ T.heap.size; rw [eT]; exact hn)⟩, ⟨_, rfl⟩, hW, hsame.mono hc hs⟩
theorem w_lreturn (X : Wk p l e R s m args below meth c Z n0 y code ml (some .long) T cells slots h) {w : Option Value} {Q : Heap → Prop} {z : Int64} (hd : decode code pc = .ok (.lreturn, 1)) (hw : w = some (.long z)) (hq : Q h) (hc : cells ≤ R.cells) (hs : slots ≤ R.slots) : Goes p e below (Done below s n0 R w Q) T m pc L [.long z] := by
  obtain ⟨hx, hZ, hby, hml, hown, hnm, hret, hlk, hn, locs, X, eT, N⟩ := X
  obtain ⟨fs, hr, hrun, hended, hW, hsame⟩ := X.leave (v := some (.long z)) (fun h => by rw [hret] at h; cases h) hlk
  exact ⟨_, X.lreturnOut hx hret (hb hby hd) hr, _, hrun, hended, _, locs, rfl, ⟨hw.symm, (by show Q T.heap; rw [eT]; exact hq), N, (by show n0 ≤ T.heap.size; rw [eT]; exact hn)⟩, ⟨_, rfl⟩, hW, hsame.mono hc hs⟩
theorem w_return (X : Wk p l e R s m args below meth c Z n0 y code ml none T cells slots h) {w : Option Value} {Q : Heap → Prop} (hd : decode code pc = .ok (.return_, 1)) (hw : w = none) (hq : Q h) (hc : cells ≤ R.cells) (hs : slots ≤ R.slots) : Goes p e below (Done below s n0 R w Q) T m pc L [] := by
  obtain ⟨hx, hZ, hby, hml, hown, hnm, hret, hlk, hn, locs, X, eT, N⟩ := X
  obtain ⟨fs, hr, hrun, hended, hW, hsame⟩ := X.leave (v := none) (fun _ => rfl) hlk
  exact ⟨_, X.returnOut hx hret (hb hby hd) hr, _, hrun, hended, _, locs, rfl, ⟨hw.symm, (by show Q T.heap; rw [eT]; exact hq), N, (by show n0 ≤ T.heap.size; rw [eT]; exact hn)⟩, ⟨_, rfl⟩, hW, hsame.mono hc hs⟩
-- calls
theorem w_static (X : Wk p l e R s m args below meth c Z n0 y code ml ret T cells slots h) {idx : Nat} {y' : MethodName} {bytes : ByteArray} {maxL : Nat} {ret' : Option FieldType} {R' : Room} {w' : Option Value} {Q' : Heap → Prop} {argsL rest : List Value} {W : Nat}
    (hM : Con l Z y' bytes maxL ret' R' argsL.toArray h n0 w' Q') (w1 : (Jvm.Cond.methodLink y.cls idx y').before a0 Z = true) (w2 : (Jvm.Cond.static y').before a0 Z = true) (w3 : (Jvm.Cond.initialized y'.cls).before a0 Z = true) (w4 : (Jvm.Cond.code y' bytes maxL ret').before a0 Z = true)
    (hy : y'.cls ≠ "java/lang/invoke/MethodHandle" ∧ y'.cls ≠ "java/lang/invoke/VarHandle") (hst : S = argsL.reverse ++ rest) (hlen : ∀ sig, parseMethodDescriptor y'.desc = some sig → argsL.length = sig.parameters.length) (hsz : L.size = ml) (hW : (rest.map fun v => v.category).sum = W) (hf : R'.frames + 1 ≤ R.frames) (hl : W + (maxL + 11) + R'.locals ≤ R.locals)
    (hc : cells + R'.cells ≤ R.cells) (hs : slots + R'.slots ≤ R.slots) (hd : decode code pc = .ok (.invokestatic idx, 3)) (hp : pc + 3 = pc')
    (g : ∀ T' h', Wk p l e R s m args below meth c Z n0 y code ml ret T' (cells + R'.cells) (slots + R'.slots) h' → Q' h' → Goes p e below K T' m pc' L (w'.toList ++ rest)) : Goes p e below K T m pc L S := by
  obtain ⟨hx, hZ, hby, hml, hown, hnm, hret, hlk, hn, locs, X, eT, N⟩ := X
  subst hp hW
  obtain ⟨_, _, ⟨T1, L1, k1, n1⟩, -, X1, ⟨Lc, hQ, l1, y1, z1⟩, st⟩ := Jvm.LawKit.callS X hx (y := y') hown (mvT hZ w1) (mvT hZ w2) (mvT hZ w3) (mvT hZ w4) hy (backOf (W := (rest.map fun v => v.category).sum) (hM []) hZ w4 w3 hf hl) (g := mkF m pc L S) rfl (by rw [hml]; exact hsz) (argsL := argsL) (rest := rest) hlen hst (by show 2 * 0 + _ ≤ _; omega) (hb hby hd) (fun _ _ => ⟨rfl, eT, hc, hs⟩)
  dsimp only [Pt.U, Pt.locs, Pt.cells, Pt.slots] at X1 l1 y1 z1 st hQ
  subst l1 y1 z1
  obtain ⟨rfl, hQ', N', hn'⟩ := hQ
  obtain ⟨u1, a1, b1⟩ := g _ _ ⟨hx, hZ, hby, hml, hown, hnm, hret, hlk, hn', _, X1, rfl, N.app N'⟩ hQ'
  exact ⟨u1, st _ a1, b1⟩
theorem w_staticV (X : Wk p l e R s m args below meth c Z n0 y code ml ret T cells slots h) {idx : Nat} {y' : MethodName} {bytes : ByteArray} {maxL : Nat} {ret' : Option FieldType} {R' : Room} {v' : Value} {Q' : Heap → Prop} {argsL rest : List Value} {W : Nat}
    (hM : Con l Z y' bytes maxL ret' R' argsL.toArray h n0 (some v') Q') (w1 : (Jvm.Cond.methodLink y.cls idx y').before a0 Z = true) (w2 : (Jvm.Cond.static y').before a0 Z = true) (w3 : (Jvm.Cond.initialized y'.cls).before a0 Z = true) (w4 : (Jvm.Cond.code y' bytes maxL ret').before a0 Z = true)
    (hy : y'.cls ≠ "java/lang/invoke/MethodHandle" ∧ y'.cls ≠ "java/lang/invoke/VarHandle") (hst : S = argsL.reverse ++ rest) (hlen : ∀ sig, parseMethodDescriptor y'.desc = some sig → argsL.length = sig.parameters.length) (hsz : L.size = ml) (hW : (rest.map fun v => v.category).sum = W) (hf : R'.frames + 1 ≤ R.frames) (hl : W + (maxL + 11) + R'.locals ≤ R.locals)
    (hc : cells + R'.cells ≤ R.cells) (hs : slots + R'.slots ≤ R.slots) (hd : decode code pc = .ok (.invokestatic idx, 3)) (hp : pc + 3 = pc')
    (g : ∀ T' h', Wk p l e R s m args below meth c Z n0 y code ml ret T' (cells + R'.cells) (slots + R'.slots) h' → Q' h' → Goes p e below K T' m pc' L (v' :: rest)) : Goes p e below K T m pc L S := w_static X hM w1 w2 w3 w4 hy hst hlen hsz hW hf hl hc hs hd hp g
theorem w_staticVP (X : Wk p l e R s m args below meth c Z n0 y code ml ret T cells slots h) {idx : Nat} {y' : MethodName} {bytes : ByteArray} {maxL : Nat} {ret' : Option FieldType} {R' : Room} {v' : Value} {argsL rest : List Value} {W : Nat}
    (hM : Con l Z y' bytes maxL ret' R' argsL.toArray h n0 (some v') (fun h' => h' = h)) (w1 : (Jvm.Cond.methodLink y.cls idx y').before a0 Z = true) (w2 : (Jvm.Cond.static y').before a0 Z = true) (w3 : (Jvm.Cond.initialized y'.cls).before a0 Z = true) (w4 : (Jvm.Cond.code y' bytes maxL ret').before a0 Z = true)
    (hy : y'.cls ≠ "java/lang/invoke/MethodHandle" ∧ y'.cls ≠ "java/lang/invoke/VarHandle") (hst : S = argsL.reverse ++ rest) (hlen : ∀ sig, parseMethodDescriptor y'.desc = some sig → argsL.length = sig.parameters.length) (hsz : L.size = ml) (hW : (rest.map fun v => v.category).sum = W) (hf : R'.frames + 1 ≤ R.frames) (hl : W + (maxL + 11) + R'.locals ≤ R.locals)
    (hc : cells + R'.cells ≤ R.cells) (hs : slots + R'.slots ≤ R.slots) (hd : decode code pc = .ok (.invokestatic idx, 3)) (hp : pc + 3 = pc')
    (g : ∀ T', Wk p l e R s m args below meth c Z n0 y code ml ret T' (cells + R'.cells) (slots + R'.slots) h → Goes p e below K T' m pc' L (v' :: rest)) : Goes p e below K T m pc L S := w_staticV X hM w1 w2 w3 w4 hy hst hlen hsz hW hf hl hc hs hd hp (fun T' h' X' q => by subst q; exact g T' X')
theorem w_static0 (X : Wk p l e R s m args below meth c Z n0 y code ml ret T cells slots h) {idx : Nat} {y' : MethodName} {bytes : ByteArray} {maxL : Nat} {ret' : Option FieldType} {R' : Room} {Q' : Heap → Prop} {argsL rest : List Value} {W : Nat}
    (hM : Con l Z y' bytes maxL ret' R' argsL.toArray h n0 none Q') (w1 : (Jvm.Cond.methodLink y.cls idx y').before a0 Z = true) (w2 : (Jvm.Cond.static y').before a0 Z = true) (w3 : (Jvm.Cond.initialized y'.cls).before a0 Z = true) (w4 : (Jvm.Cond.code y' bytes maxL ret').before a0 Z = true)
    (hy : y'.cls ≠ "java/lang/invoke/MethodHandle" ∧ y'.cls ≠ "java/lang/invoke/VarHandle") (hst : S = argsL.reverse ++ rest) (hlen : ∀ sig, parseMethodDescriptor y'.desc = some sig → argsL.length = sig.parameters.length) (hsz : L.size = ml) (hW : (rest.map fun v => v.category).sum = W) (hf : R'.frames + 1 ≤ R.frames) (hl : W + (maxL + 11) + R'.locals ≤ R.locals)
    (hc : cells + R'.cells ≤ R.cells) (hs : slots + R'.slots ≤ R.slots) (hd : decode code pc = .ok (.invokestatic idx, 3)) (hp : pc + 3 = pc')
    (g : ∀ T' h', Wk p l e R s m args below meth c Z n0 y code ml ret T' (cells + R'.cells) (slots + R'.slots) h' → Q' h' → Goes p e below K T' m pc' L rest) : Goes p e below K T m pc L S := w_static X hM w1 w2 w3 w4 hy hst hlen hsz hW hf hl hc hs hd hp g
theorem w_static0P (X : Wk p l e R s m args below meth c Z n0 y code ml ret T cells slots h) {idx : Nat} {y' : MethodName} {bytes : ByteArray} {maxL : Nat} {ret' : Option FieldType} {R' : Room} {argsL rest : List Value} {W : Nat}
    (hM : Con l Z y' bytes maxL ret' R' argsL.toArray h n0 none (fun h' => h' = h)) (w1 : (Jvm.Cond.methodLink y.cls idx y').before a0 Z = true) (w2 : (Jvm.Cond.static y').before a0 Z = true) (w3 : (Jvm.Cond.initialized y'.cls).before a0 Z = true) (w4 : (Jvm.Cond.code y' bytes maxL ret').before a0 Z = true)
    (hy : y'.cls ≠ "java/lang/invoke/MethodHandle" ∧ y'.cls ≠ "java/lang/invoke/VarHandle") (hst : S = argsL.reverse ++ rest) (hlen : ∀ sig, parseMethodDescriptor y'.desc = some sig → argsL.length = sig.parameters.length) (hsz : L.size = ml) (hW : (rest.map fun v => v.category).sum = W) (hf : R'.frames + 1 ≤ R.frames) (hl : W + (maxL + 11) + R'.locals ≤ R.locals)
    (hc : cells + R'.cells ≤ R.cells) (hs : slots + R'.slots ≤ R.slots) (hd : decode code pc = .ok (.invokestatic idx, 3)) (hp : pc + 3 = pc')
    (g : ∀ T', Wk p l e R s m args below meth c Z n0 y code ml ret T' (cells + R'.cells) (slots + R'.slots) h → Goes p e below K T' m pc' L rest) : Goes p e below K T m pc L S := w_static0 X hM w1 w2 w3 w4 hy hst hlen hsz hW hf hl hc hs hd hp (fun T' h' X' q => by subst q; exact g T' X')
theorem w_special (X : Wk p l e R s m args below meth c Z n0 y code ml ret T cells slots h) {idx : Nat} {y' : MethodName} {bytes : ByteArray} {maxL : Nat} {R' : Room} {w' : Option Value} {Q' : Heap → Prop} {a : Addr} {argsL rest : List Value} {W : Nat}
    (hM : Con l Z y' bytes maxL none R' (.ref a :: argsL).toArray h n0 w' Q') (hi : y'.name = "<init>") (w1 : (Jvm.Cond.methodLink y.cls idx y').before a0 Z = true) (w2 : (Jvm.Cond.instanceMethod y').before a0 Z = true) (w3 : (Jvm.Cond.initialized y'.cls).before a0 Z = true) (w4 : (Jvm.Cond.code y' bytes maxL none).before a0 Z = true)
    (hy : y'.cls ≠ "java/lang/invoke/MethodHandle" ∧ y'.cls ≠ "java/lang/invoke/VarHandle") (hst : S = argsL.reverse ++ .ref a :: rest) (hlen : ∀ sig, parseMethodDescriptor y'.desc = some sig → argsL.length = sig.parameters.length) (hsz : L.size = ml) (hW : (rest.map fun v => v.category).sum = W) (hf : R'.frames + 1 ≤ R.frames) (hl : W + (maxL + 11) + R'.locals ≤ R.locals)
    (hc : cells + R'.cells ≤ R.cells) (hs : slots + R'.slots ≤ R.slots) (hd : decode code pc = .ok (.invokespecial idx, 3)) (hp : pc + 3 = pc')
    (g : ∀ T' h', Wk p l e R s m args below meth c Z n0 y code ml ret T' (cells + R'.cells) (slots + R'.slots) h' → Q' h' → Goes p e below K T' m pc' L (w'.toList ++ rest)) : Goes p e below K T m pc L S := by
  obtain ⟨hx, hZ, hby, hml, hown, hnm, hret, hlk, hn, locs, X, eT, N⟩ := X
  subst hp hW
  obtain ⟨_, _, ⟨T1, L1, k1, n1⟩, -, X1, ⟨Lc, hQ, l1, y1, z1⟩, st⟩ := X.specialBack hx (y := y') hi hown (mvT hZ w1) (mvT hZ w2) (mvT hZ w4) hy (backOf (W := (rest.map fun v => v.category).sum) (hM []) hZ w4 w3 hf hl) (g := mkF m pc L S) rfl (by rw [hml]; exact hsz) (Steps.refl _) (a := a) (argsL := argsL) (rest := rest) hlen hst (by show 2 * 0 + _ ≤ _; omega) (hb hby hd) (fun _ _ => ⟨rfl, eT, hc, hs⟩)
  dsimp only [Pt.U, Pt.locs, Pt.cells, Pt.slots] at X1 l1 y1 z1 st hQ
  subst l1 y1 z1
  obtain ⟨rfl, hQ', N', hn'⟩ := hQ
  obtain ⟨u1, a1, b1⟩ := g _ _ ⟨hx, hZ, hby, hml, hown, hnm, hret, hlk, hn', _, X1, rfl, N.app N'⟩ hQ'
  exact ⟨u1, st.trans a1, b1⟩
theorem w_special0 (X : Wk p l e R s m args below meth c Z n0 y code ml ret T cells slots h) {idx : Nat} {y' : MethodName} {bytes : ByteArray} {maxL : Nat} {R' : Room} {Q' : Heap → Prop} {a : Addr} {argsL rest : List Value} {W : Nat}
    (hM : Con l Z y' bytes maxL none R' (.ref a :: argsL).toArray h n0 none Q') (hi : y'.name = "<init>") (w1 : (Jvm.Cond.methodLink y.cls idx y').before a0 Z = true) (w2 : (Jvm.Cond.instanceMethod y').before a0 Z = true) (w3 : (Jvm.Cond.initialized y'.cls).before a0 Z = true) (w4 : (Jvm.Cond.code y' bytes maxL none).before a0 Z = true)
    (hy : y'.cls ≠ "java/lang/invoke/MethodHandle" ∧ y'.cls ≠ "java/lang/invoke/VarHandle") (hst : S = argsL.reverse ++ .ref a :: rest) (hlen : ∀ sig, parseMethodDescriptor y'.desc = some sig → argsL.length = sig.parameters.length) (hsz : L.size = ml) (hW : (rest.map fun v => v.category).sum = W) (hf : R'.frames + 1 ≤ R.frames) (hl : W + (maxL + 11) + R'.locals ≤ R.locals)
    (hc : cells + R'.cells ≤ R.cells) (hs : slots + R'.slots ≤ R.slots) (hd : decode code pc = .ok (.invokespecial idx, 3)) (hp : pc + 3 = pc')
    (g : ∀ T' h', Wk p l e R s m args below meth c Z n0 y code ml ret T' (cells + R'.cells) (slots + R'.slots) h' → Q' h' → Goes p e below K T' m pc' L rest) : Goes p e below K T m pc L S := w_special X hM hi w1 w2 w3 w4 hy hst hlen hsz hW hf hl hc hs hd hp g
theorem w_special0P (X : Wk p l e R s m args below meth c Z n0 y code ml ret T cells slots h) {idx : Nat} {y' : MethodName} {bytes : ByteArray} {maxL : Nat} {R' : Room} {a : Addr} {argsL rest : List Value} {W : Nat}
    (hM : Con l Z y' bytes maxL none R' (.ref a :: argsL).toArray h n0 none (fun h' => h' = h)) (hi : y'.name = "<init>") (w1 : (Jvm.Cond.methodLink y.cls idx y').before a0 Z = true) (w2 : (Jvm.Cond.instanceMethod y').before a0 Z = true) (w3 : (Jvm.Cond.initialized y'.cls).before a0 Z = true) (w4 : (Jvm.Cond.code y' bytes maxL none).before a0 Z = true)
    (hy : y'.cls ≠ "java/lang/invoke/MethodHandle" ∧ y'.cls ≠ "java/lang/invoke/VarHandle") (hst : S = argsL.reverse ++ .ref a :: rest) (hlen : ∀ sig, parseMethodDescriptor y'.desc = some sig → argsL.length = sig.parameters.length) (hsz : L.size = ml) (hW : (rest.map fun v => v.category).sum = W) (hf : R'.frames + 1 ≤ R.frames) (hl : W + (maxL + 11) + R'.locals ≤ R.locals)
    (hc : cells + R'.cells ≤ R.cells) (hs : slots + R'.slots ≤ R.slots) (hd : decode code pc = .ok (.invokespecial idx, 3)) (hp : pc + 3 = pc')
    (g : ∀ T', Wk p l e R s m args below meth c Z n0 y code ml ret T' (cells + R'.cells) (slots + R'.slots) h → Goes p e below K T' m pc' L rest) : Goes p e below K T m pc L S := w_special0 X hM hi w1 w2 w3 w4 hy hst hlen hsz hW hf hl hc hs hd hp (fun T' h' X' q => by subst q; exact g T' X')
theorem w_virtual (X : Wk p l e R s m args below meth c Z n0 y code ml ret T cells slots h) {idx : Nat} {C : String} {y' : MethodName} {bytes : ByteArray} {maxL : Nat} {ret' : Option FieldType} {R' : Room} {w' : Option Value} {Q' : Heap → Prop} {a : Addr} {argsL rest : List Value} {W : Nat}
    (hM : Con l Z y' bytes maxL ret' R' (.ref a :: argsL).toArray h n0 w' Q') (E : Exa Z h a C) (w1 : (Jvm.Cond.methodLink y.cls idx y').before a0 Z = true) (w2 : (Jvm.Cond.declares y').before a0 Z = true) (w5 : (Jvm.Cond.selects C y' y').before a0 Z = true) (w6 : (Jvm.Cond.instanceMethod y').before a0 Z = true) (w3 : (Jvm.Cond.initialized y'.cls).before a0 Z = true) (w4 : (Jvm.Cond.code y' bytes maxL ret').before a0 Z = true)
    (hy : y'.cls ≠ "java/lang/invoke/MethodHandle" ∧ y'.cls ≠ "java/lang/invoke/VarHandle") (hst : S = argsL.reverse ++ .ref a :: rest) (hlen : ∀ sig, parseMethodDescriptor y'.desc = some sig → argsL.length = sig.parameters.length) (hsz : L.size = ml) (hW : (rest.map fun v => v.category).sum = W) (hf : R'.frames + 1 ≤ R.frames) (hl : W + (maxL + 11) + R'.locals ≤ R.locals)
    (hc : cells + R'.cells ≤ R.cells) (hs : slots + R'.slots ≤ R.slots) (hd : decode code pc = .ok (.invokevirtual idx, 3)) (hp : pc + 3 = pc')
    (g : ∀ T' h', Wk p l e R s m args below meth c Z n0 y code ml ret T' (cells + R'.cells) (slots + R'.slots) h' → Q' h' → Goes p e below K T' m pc' L (w'.toList ++ rest)) : Goes p e below K T m pc L S := by
  obtain ⟨hx, hZ, hby, hml, hown, hnm, hret, hlk, hn, locs, X, eT, N⟩ := X
  subst hp hW
  obtain ⟨cq, kq, qa, qb, qc⟩ := isOf hZ eT E
  obtain ⟨_, _, ⟨T1, L1, k1, n1⟩, -, X1, ⟨Lc, hQ, l1, y1, z1⟩, st⟩ := X.virtualBack hx (y := y') (z := y') hown (mvT hZ w1) (mvT hZ w2) (notFace_of_selects (args := #[]) (mvT hZ w5)) (mvT hZ w5) (mvT hZ w6) hy (backOf (W := (rest.map fun v => v.category).sum) (hM []) hZ w4 w3 hf hl) qa qc (g := mkF m pc L S) rfl (by rw [hml]; exact hsz) (Steps.refl _) (argsL := argsL) (rest := rest) hlen hst (by show 2 * 0 + _ ≤ _; omega) (hb hby hd) (fun _ _ => ⟨rfl, eT, hc, hs⟩)
  dsimp only [Pt.U, Pt.locs, Pt.cells, Pt.slots] at X1 l1 y1 z1 st hQ
  subst l1 y1 z1
  obtain ⟨rfl, hQ', N', hn'⟩ := hQ
  obtain ⟨u1, a1, b1⟩ := g _ _ ⟨hx, hZ, hby, hml, hown, hnm, hret, hlk, hn', _, X1, rfl, N.app N'⟩ hQ'
  exact ⟨u1, st.trans a1, b1⟩
theorem w_virtualV (X : Wk p l e R s m args below meth c Z n0 y code ml ret T cells slots h) {idx : Nat} {C : String} {y' : MethodName} {bytes : ByteArray} {maxL : Nat} {ret' : Option FieldType} {R' : Room} {v' : Value} {Q' : Heap → Prop} {a : Addr} {argsL rest : List Value} {W : Nat}
    (hM : Con l Z y' bytes maxL ret' R' (.ref a :: argsL).toArray h n0 (some v') Q') (E : Exa Z h a C) (w1 : (Jvm.Cond.methodLink y.cls idx y').before a0 Z = true) (w2 : (Jvm.Cond.declares y').before a0 Z = true) (w5 : (Jvm.Cond.selects C y' y').before a0 Z = true) (w6 : (Jvm.Cond.instanceMethod y').before a0 Z = true) (w3 : (Jvm.Cond.initialized y'.cls).before a0 Z = true) (w4 : (Jvm.Cond.code y' bytes maxL ret').before a0 Z = true)
    (hy : y'.cls ≠ "java/lang/invoke/MethodHandle" ∧ y'.cls ≠ "java/lang/invoke/VarHandle") (hst : S = argsL.reverse ++ .ref a :: rest) (hlen : ∀ sig, parseMethodDescriptor y'.desc = some sig → argsL.length = sig.parameters.length) (hsz : L.size = ml) (hW : (rest.map fun v => v.category).sum = W) (hf : R'.frames + 1 ≤ R.frames) (hl : W + (maxL + 11) + R'.locals ≤ R.locals)
    (hc : cells + R'.cells ≤ R.cells) (hs : slots + R'.slots ≤ R.slots) (hd : decode code pc = .ok (.invokevirtual idx, 3)) (hp : pc + 3 = pc')
    (g : ∀ T' h', Wk p l e R s m args below meth c Z n0 y code ml ret T' (cells + R'.cells) (slots + R'.slots) h' → Q' h' → Goes p e below K T' m pc' L (v' :: rest)) : Goes p e below K T m pc L S := w_virtual X hM E w1 w2 w5 w6 w3 w4 hy hst hlen hsz hW hf hl hc hs hd hp g
theorem w_virtualVP (X : Wk p l e R s m args below meth c Z n0 y code ml ret T cells slots h) {idx : Nat} {C : String} {y' : MethodName} {bytes : ByteArray} {maxL : Nat} {ret' : Option FieldType} {R' : Room} {v' : Value} {a : Addr} {argsL rest : List Value} {W : Nat}
    (hM : Con l Z y' bytes maxL ret' R' (.ref a :: argsL).toArray h n0 (some v') (fun h' => h' = h)) (E : Exa Z h a C) (w1 : (Jvm.Cond.methodLink y.cls idx y').before a0 Z = true) (w2 : (Jvm.Cond.declares y').before a0 Z = true) (w5 : (Jvm.Cond.selects C y' y').before a0 Z = true) (w6 : (Jvm.Cond.instanceMethod y').before a0 Z = true) (w3 : (Jvm.Cond.initialized y'.cls).before a0 Z = true) (w4 : (Jvm.Cond.code y' bytes maxL ret').before a0 Z = true)
    (hy : y'.cls ≠ "java/lang/invoke/MethodHandle" ∧ y'.cls ≠ "java/lang/invoke/VarHandle") (hst : S = argsL.reverse ++ .ref a :: rest) (hlen : ∀ sig, parseMethodDescriptor y'.desc = some sig → argsL.length = sig.parameters.length) (hsz : L.size = ml) (hW : (rest.map fun v => v.category).sum = W) (hf : R'.frames + 1 ≤ R.frames) (hl : W + (maxL + 11) + R'.locals ≤ R.locals)
    (hc : cells + R'.cells ≤ R.cells) (hs : slots + R'.slots ≤ R.slots) (hd : decode code pc = .ok (.invokevirtual idx, 3)) (hp : pc + 3 = pc')
    (g : ∀ T', Wk p l e R s m args below meth c Z n0 y code ml ret T' (cells + R'.cells) (slots + R'.slots) h → Goes p e below K T' m pc' L (v' :: rest)) : Goes p e below K T m pc L S := w_virtualV X hM E w1 w2 w5 w6 w3 w4 hy hst hlen hsz hW hf hl hc hs hd hp (fun T' h' X' q => by subst q; exact g T' X')
theorem w_virtual0 (X : Wk p l e R s m args below meth c Z n0 y code ml ret T cells slots h) {idx : Nat} {C : String} {y' : MethodName} {bytes : ByteArray} {maxL : Nat} {ret' : Option FieldType} {R' : Room} {Q' : Heap → Prop} {a : Addr} {argsL rest : List Value} {W : Nat}
    (hM : Con l Z y' bytes maxL ret' R' (.ref a :: argsL).toArray h n0 none Q') (E : Exa Z h a C) (w1 : (Jvm.Cond.methodLink y.cls idx y').before a0 Z = true) (w2 : (Jvm.Cond.declares y').before a0 Z = true) (w5 : (Jvm.Cond.selects C y' y').before a0 Z = true) (w6 : (Jvm.Cond.instanceMethod y').before a0 Z = true) (w3 : (Jvm.Cond.initialized y'.cls).before a0 Z = true) (w4 : (Jvm.Cond.code y' bytes maxL ret').before a0 Z = true)
    (hy : y'.cls ≠ "java/lang/invoke/MethodHandle" ∧ y'.cls ≠ "java/lang/invoke/VarHandle") (hst : S = argsL.reverse ++ .ref a :: rest) (hlen : ∀ sig, parseMethodDescriptor y'.desc = some sig → argsL.length = sig.parameters.length) (hsz : L.size = ml) (hW : (rest.map fun v => v.category).sum = W) (hf : R'.frames + 1 ≤ R.frames) (hl : W + (maxL + 11) + R'.locals ≤ R.locals)
    (hc : cells + R'.cells ≤ R.cells) (hs : slots + R'.slots ≤ R.slots) (hd : decode code pc = .ok (.invokevirtual idx, 3)) (hp : pc + 3 = pc')
    (g : ∀ T' h', Wk p l e R s m args below meth c Z n0 y code ml ret T' (cells + R'.cells) (slots + R'.slots) h' → Q' h' → Goes p e below K T' m pc' L rest) : Goes p e below K T m pc L S := w_virtual X hM E w1 w2 w5 w6 w3 w4 hy hst hlen hsz hW hf hl hc hs hd hp g
theorem w_virtual0P (X : Wk p l e R s m args below meth c Z n0 y code ml ret T cells slots h) {idx : Nat} {C : String} {y' : MethodName} {bytes : ByteArray} {maxL : Nat} {ret' : Option FieldType} {R' : Room} {a : Addr} {argsL rest : List Value} {W : Nat}
    (hM : Con l Z y' bytes maxL ret' R' (.ref a :: argsL).toArray h n0 none (fun h' => h' = h)) (E : Exa Z h a C) (w1 : (Jvm.Cond.methodLink y.cls idx y').before a0 Z = true) (w2 : (Jvm.Cond.declares y').before a0 Z = true) (w5 : (Jvm.Cond.selects C y' y').before a0 Z = true) (w6 : (Jvm.Cond.instanceMethod y').before a0 Z = true) (w3 : (Jvm.Cond.initialized y'.cls).before a0 Z = true) (w4 : (Jvm.Cond.code y' bytes maxL ret').before a0 Z = true)
    (hy : y'.cls ≠ "java/lang/invoke/MethodHandle" ∧ y'.cls ≠ "java/lang/invoke/VarHandle") (hst : S = argsL.reverse ++ .ref a :: rest) (hlen : ∀ sig, parseMethodDescriptor y'.desc = some sig → argsL.length = sig.parameters.length) (hsz : L.size = ml) (hW : (rest.map fun v => v.category).sum = W) (hf : R'.frames + 1 ≤ R.frames) (hl : W + (maxL + 11) + R'.locals ≤ R.locals)
    (hc : cells + R'.cells ≤ R.cells) (hs : slots + R'.slots ≤ R.slots) (hd : decode code pc = .ok (.invokevirtual idx, 3)) (hp : pc + 3 = pc')
    (g : ∀ T', Wk p l e R s m args below meth c Z n0 y code ml ret T' (cells + R'.cells) (slots + R'.slots) h → Goes p e below K T' m pc' L rest) : Goes p e below K T m pc L S := w_virtual0 X hM E w1 w2 w5 w6 w3 w4 hy hst hlen hsz hW hf hl hc hs hd hp (fun T' h' X' q => by subst q; exact g T' X')
theorem w_private (X : Wk p l e R s m args below meth c Z n0 y code ml ret T cells slots h) {idx : Nat} {C : String} {y' : MethodName} {bytes : ByteArray} {maxL : Nat} {ret' : Option FieldType} {R' : Room} {w' : Option Value} {Q' : Heap → Prop} {a : Addr} {argsL rest : List Value} {W : Nat}
    (hM : Con l Z y' bytes maxL ret' R' (.ref a :: argsL).toArray h n0 w' Q') (E : Exa Z h a C) (w1 : (Jvm.Cond.methodLink y.cls idx y').before a0 Z = true) (w6 : (Jvm.Cond.instanceMethod y').before a0 Z = true) (w5 : (Jvm.Cond.selects y'.cls y' y').before a0 Z = true) (w7 : (Jvm.Cond.privateMethod y').before a0 Z = true) (w3 : (Jvm.Cond.initialized y'.cls).before a0 Z = true) (w4 : (Jvm.Cond.code y' bytes maxL ret').before a0 Z = true)
    (hy : y'.cls ≠ "java/lang/invoke/MethodHandle" ∧ y'.cls ≠ "java/lang/invoke/VarHandle") (hst : S = argsL.reverse ++ .ref a :: rest) (hlen : ∀ sig, parseMethodDescriptor y'.desc = some sig → argsL.length = sig.parameters.length) (hsz : L.size = ml) (hW : (rest.map fun v => v.category).sum = W) (hf : R'.frames + 1 ≤ R.frames) (hl : W + (maxL + 11) + R'.locals ≤ R.locals)
    (hc : cells + R'.cells ≤ R.cells) (hs : slots + R'.slots ≤ R.slots) (hd : decode code pc = .ok (.invokevirtual idx, 3)) (hp : pc + 3 = pc')
    (g : ∀ T' h', Wk p l e R s m args below meth c Z n0 y code ml ret T' (cells + R'.cells) (slots + R'.slots) h' → Q' h' → Goes p e below K T' m pc' L (w'.toList ++ rest)) : Goes p e below K T m pc L S := by
  obtain ⟨hx, hZ, hby, hml, hown, hnm, hret, hlk, hn, locs, X, eT, N⟩ := X
  subst hp hW
  obtain ⟨cq, q, q'⟩ := E.cell
  obtain ⟨_, _, ⟨T1, L1, k1, n1⟩, -, X1, ⟨Lc, hQ, l1, y1, z1⟩, st⟩ := X.privateBack hx (y := y') hown (mvT hZ w1) (mvT hZ w6) (mvT hZ w5) (Cond.privateMethod_at (mvP hZ w7 (args := #[]))) (mvT hZ w4) hy (backOf (W := (rest.map fun v => v.category).sum) (hM []) hZ w4 w3 hf hl) (g := mkF m pc L S) rfl (by rw [hml]; exact hsz) (Steps.refl _) (a := a) (by rw [eT]; exact q) q' (argsL := argsL) (rest := rest) hlen hst (by show 2 * 0 + _ ≤ _; omega) (hb hby hd) (fun _ _ => ⟨rfl, eT, hc, hs⟩)
  dsimp only [Pt.U, Pt.locs, Pt.cells, Pt.slots] at X1 l1 y1 z1 st hQ
  subst l1 y1 z1
  obtain ⟨rfl, hQ', N', hn'⟩ := hQ
  obtain ⟨u1, a1, b1⟩ := g _ _ ⟨hx, hZ, hby, hml, hown, hnm, hret, hlk, hn', _, X1, rfl, N.app N'⟩ hQ'
  exact ⟨u1, st.trans a1, b1⟩
theorem w_privateV (X : Wk p l e R s m args below meth c Z n0 y code ml ret T cells slots h) {idx : Nat} {C : String} {y' : MethodName} {bytes : ByteArray} {maxL : Nat} {ret' : Option FieldType} {R' : Room} {v' : Value} {Q' : Heap → Prop} {a : Addr} {argsL rest : List Value} {W : Nat}
    (hM : Con l Z y' bytes maxL ret' R' (.ref a :: argsL).toArray h n0 (some v') Q') (E : Exa Z h a C) (w1 : (Jvm.Cond.methodLink y.cls idx y').before a0 Z = true) (w6 : (Jvm.Cond.instanceMethod y').before a0 Z = true) (w5 : (Jvm.Cond.selects y'.cls y' y').before a0 Z = true) (w7 : (Jvm.Cond.privateMethod y').before a0 Z = true) (w3 : (Jvm.Cond.initialized y'.cls).before a0 Z = true) (w4 : (Jvm.Cond.code y' bytes maxL ret').before a0 Z = true)
    (hy : y'.cls ≠ "java/lang/invoke/MethodHandle" ∧ y'.cls ≠ "java/lang/invoke/VarHandle") (hst : S = argsL.reverse ++ .ref a :: rest) (hlen : ∀ sig, parseMethodDescriptor y'.desc = some sig → argsL.length = sig.parameters.length) (hsz : L.size = ml) (hW : (rest.map fun v => v.category).sum = W) (hf : R'.frames + 1 ≤ R.frames) (hl : W + (maxL + 11) + R'.locals ≤ R.locals)
    (hc : cells + R'.cells ≤ R.cells) (hs : slots + R'.slots ≤ R.slots) (hd : decode code pc = .ok (.invokevirtual idx, 3)) (hp : pc + 3 = pc')
    (g : ∀ T' h', Wk p l e R s m args below meth c Z n0 y code ml ret T' (cells + R'.cells) (slots + R'.slots) h' → Q' h' → Goes p e below K T' m pc' L (v' :: rest)) : Goes p e below K T m pc L S := w_private X hM E w1 w6 w5 w7 w3 w4 hy hst hlen hsz hW hf hl hc hs hd hp g
theorem w_privateVP (X : Wk p l e R s m args below meth c Z n0 y code ml ret T cells slots h) {idx : Nat} {C : String} {y' : MethodName} {bytes : ByteArray} {maxL : Nat} {ret' : Option FieldType} {R' : Room} {v' : Value} {a : Addr} {argsL rest : List Value} {W : Nat}
    (hM : Con l Z y' bytes maxL ret' R' (.ref a :: argsL).toArray h n0 (some v') (fun h' => h' = h)) (E : Exa Z h a C) (w1 : (Jvm.Cond.methodLink y.cls idx y').before a0 Z = true) (w6 : (Jvm.Cond.instanceMethod y').before a0 Z = true) (w5 : (Jvm.Cond.selects y'.cls y' y').before a0 Z = true) (w7 : (Jvm.Cond.privateMethod y').before a0 Z = true) (w3 : (Jvm.Cond.initialized y'.cls).before a0 Z = true) (w4 : (Jvm.Cond.code y' bytes maxL ret').before a0 Z = true)
    (hy : y'.cls ≠ "java/lang/invoke/MethodHandle" ∧ y'.cls ≠ "java/lang/invoke/VarHandle") (hst : S = argsL.reverse ++ .ref a :: rest) (hlen : ∀ sig, parseMethodDescriptor y'.desc = some sig → argsL.length = sig.parameters.length) (hsz : L.size = ml) (hW : (rest.map fun v => v.category).sum = W) (hf : R'.frames + 1 ≤ R.frames) (hl : W + (maxL + 11) + R'.locals ≤ R.locals)
    (hc : cells + R'.cells ≤ R.cells) (hs : slots + R'.slots ≤ R.slots) (hd : decode code pc = .ok (.invokevirtual idx, 3)) (hp : pc + 3 = pc')
    (g : ∀ T', Wk p l e R s m args below meth c Z n0 y code ml ret T' (cells + R'.cells) (slots + R'.slots) h → Goes p e below K T' m pc' L (v' :: rest)) : Goes p e below K T m pc L S := w_privateV X hM E w1 w6 w5 w7 w3 w4 hy hst hlen hsz hW hf hl hc hs hd hp (fun T' h' X' q => by subst q; exact g T' X')
theorem w_private0 (X : Wk p l e R s m args below meth c Z n0 y code ml ret T cells slots h) {idx : Nat} {C : String} {y' : MethodName} {bytes : ByteArray} {maxL : Nat} {ret' : Option FieldType} {R' : Room} {Q' : Heap → Prop} {a : Addr} {argsL rest : List Value} {W : Nat}
    (hM : Con l Z y' bytes maxL ret' R' (.ref a :: argsL).toArray h n0 none Q') (E : Exa Z h a C) (w1 : (Jvm.Cond.methodLink y.cls idx y').before a0 Z = true) (w6 : (Jvm.Cond.instanceMethod y').before a0 Z = true) (w5 : (Jvm.Cond.selects y'.cls y' y').before a0 Z = true) (w7 : (Jvm.Cond.privateMethod y').before a0 Z = true) (w3 : (Jvm.Cond.initialized y'.cls).before a0 Z = true) (w4 : (Jvm.Cond.code y' bytes maxL ret').before a0 Z = true)
    (hy : y'.cls ≠ "java/lang/invoke/MethodHandle" ∧ y'.cls ≠ "java/lang/invoke/VarHandle") (hst : S = argsL.reverse ++ .ref a :: rest) (hlen : ∀ sig, parseMethodDescriptor y'.desc = some sig → argsL.length = sig.parameters.length) (hsz : L.size = ml) (hW : (rest.map fun v => v.category).sum = W) (hf : R'.frames + 1 ≤ R.frames) (hl : W + (maxL + 11) + R'.locals ≤ R.locals)
    (hc : cells + R'.cells ≤ R.cells) (hs : slots + R'.slots ≤ R.slots) (hd : decode code pc = .ok (.invokevirtual idx, 3)) (hp : pc + 3 = pc')
    (g : ∀ T' h', Wk p l e R s m args below meth c Z n0 y code ml ret T' (cells + R'.cells) (slots + R'.slots) h' → Q' h' → Goes p e below K T' m pc' L rest) : Goes p e below K T m pc L S := w_private X hM E w1 w6 w5 w7 w3 w4 hy hst hlen hsz hW hf hl hc hs hd hp g
theorem w_private0P (X : Wk p l e R s m args below meth c Z n0 y code ml ret T cells slots h) {idx : Nat} {C : String} {y' : MethodName} {bytes : ByteArray} {maxL : Nat} {ret' : Option FieldType} {R' : Room} {a : Addr} {argsL rest : List Value} {W : Nat}
    (hM : Con l Z y' bytes maxL ret' R' (.ref a :: argsL).toArray h n0 none (fun h' => h' = h)) (E : Exa Z h a C) (w1 : (Jvm.Cond.methodLink y.cls idx y').before a0 Z = true) (w6 : (Jvm.Cond.instanceMethod y').before a0 Z = true) (w5 : (Jvm.Cond.selects y'.cls y' y').before a0 Z = true) (w7 : (Jvm.Cond.privateMethod y').before a0 Z = true) (w3 : (Jvm.Cond.initialized y'.cls).before a0 Z = true) (w4 : (Jvm.Cond.code y' bytes maxL ret').before a0 Z = true)
    (hy : y'.cls ≠ "java/lang/invoke/MethodHandle" ∧ y'.cls ≠ "java/lang/invoke/VarHandle") (hst : S = argsL.reverse ++ .ref a :: rest) (hlen : ∀ sig, parseMethodDescriptor y'.desc = some sig → argsL.length = sig.parameters.length) (hsz : L.size = ml) (hW : (rest.map fun v => v.category).sum = W) (hf : R'.frames + 1 ≤ R.frames) (hl : W + (maxL + 11) + R'.locals ≤ R.locals)
    (hc : cells + R'.cells ≤ R.cells) (hs : slots + R'.slots ≤ R.slots) (hd : decode code pc = .ok (.invokevirtual idx, 3)) (hp : pc + 3 = pc')
    (g : ∀ T', Wk p l e R s m args below meth c Z n0 y code ml ret T' (cells + R'.cells) (slots + R'.slots) h → Goes p e below K T' m pc' L rest) : Goes p e below K T m pc L S := w_private0 X hM E w1 w6 w5 w7 w3 w4 hy hst hlen hsz hW hf hl hc hs hd hp (fun T' h' X' q => by subst q; exact g T' X')
theorem w_initO (X : Wk p l e R s m args below meth c Z n0 y code ml ret T cells slots h) {idx : Nat} {a : Addr} {W : Nat} (w1 : (Jvm.Cond.methodLink y.cls idx Lib.objectInit).before a0 Z = true) (w2 : (Jvm.Cond.instanceMethod Lib.objectInit).before a0 Z = true) (w3 : (Jvm.Cond.code Lib.objectInit ⟨#[0xb1]⟩ 1 none).before a0 Z = true)
    (hsz : L.size = ml) (hW : (S.map fun v => v.category).sum = W) (hf : 1 ≤ R.frames) (hl : W + 12 ≤ R.locals) (hd : decode code pc = .ok (.invokespecial idx, 3)) (hp : pc + 3 = pc')
    (g : ∀ T', Wk p l e R s m args below meth c Z n0 y code ml ret T' cells slots h → Goes p e below K T' m pc' L S) : Goes p e below K T m pc L (.ref a :: S) := by
  obtain ⟨hx, hZ, hby, hml, hown, hnm, hret, hlk, hn, locs, X, eT, N⟩ := X
  subst hp hW
  obtain ⟨T1, X1, e1, st⟩ := initO X hx hZ hown w1 w2 w3 eT (g := mkF m pc L (.ref a :: S)) rfl (by rw [hml]; exact hsz) rfl (hb hby hd) hf (W := (S.map fun v => v.category).sum) (by show 2 * 0 + _ ≤ _; omega) hl
  obtain ⟨u1, a1, b1⟩ := g _ ⟨hx, hZ, hby, hml, hown, hnm, hret, hlk, hn, _, X1, e1, N⟩
  exact ⟨u1, st _ a1, b1⟩
-- fields and objects
theorem w_getF (X : Wk p l e R s m args below meth c Z n0 y code ml ret T cells slots h) {R0 O n d host : String} {idx : Nat} {a : Addr} {v : Value} (w : (Jvm.Cond.fieldLink y.cls idx R0 n d).before a0 Z = true ∨ (Jvm.Cond.fieldLinkNest y.cls idx R0 n d host).before a0 Z = true) (via : Via Z R0 O n d)
    (F : Fld Z h a O n d v) (hd : decode code pc = .ok (.getfield idx, 3)) (hp : pc + 3 = pc') (g : ∀ T', Wk p l e R s m args below meth c Z n0 y code ml ret T' cells slots h → Goes p e below K T' m pc' L (v :: S)) : Goes p e below K T m pc L (.ref a :: S) := by
  obtain ⟨hx, hZ, hby, hml, hown, hnm, hret, hlk, hn, locs, X, eT, N⟩ := X
  subst hp
  obtain ⟨T1, X1, e1, st⟩ := getF X hx hZ hown w via eT F (g := mkF m pc L (.ref a :: S)) rfl rfl (hb hby hd)
  obtain ⟨u1, a1, b1⟩ := g _ ⟨hx, hZ, hby, hml, hown, hnm, hret, hlk, hn, _, X1, e1, N⟩
  exact ⟨u1, st _ a1, b1⟩
theorem w_putF (X : Wk p l e R s m args below meth c Z n0 y code ml ret T cells slots h) {R0 O n d host C : String} {idx kk : Nat} {ty : FieldType} {a : Addr} {v old : Value} (w : (Jvm.Cond.fieldLink y.cls idx R0 n d).before a0 Z = true ∨ (Jvm.Cond.fieldLinkNest y.cls idx R0 n d host).before a0 Z = true) (via : Via Z R0 O n d)
    (F : Fld Z h a O n d old) (E : Exa Z h a C) (Lw : (Jvm.Cond.lays C O n d).before a0 Z = true ∨ ((Jvm.Cond.laysFinal C O n d).before a0 Z = true ∧ y.cls = O ∧ y.name = "<init>")) (wi : (Jvm.Cond.instantiable C kk).before a0 Z = true) (hty : parseFieldDescriptor d = some ty) (hnv : narrow ty v = v) (hfv : fits ty v = true) (ha : n0 ≤ a)
    (hd : decode code pc = .ok (.putfield idx, 3)) (hp : pc + 3 = pc') (g : ∀ T' h', Wk p l e R s m args below meth c Z n0 y code ml ret T' cells slots h' → Wr h h' a (Jvm.RoadKit.slotOf Z O n d) v → Goes p e below K T' m pc' L S) : Goes p e below K T m pc L (v :: .ref a :: S) := by
  obtain ⟨hx, hZ, hby, hml, hown, hnm, hret, hlk, hn, locs, X, eT, N⟩ := X
  subst hp
  obtain ⟨T1, h1, X1, e1, W1, st⟩ := putF X hx hZ hown w via eT F E (Lw.imp id fun q => ⟨q.1, q.2.1, hnm.trans q.2.2⟩) wi hty hnv hfv (g := mkF m pc L (v :: .ref a :: S)) rfl rfl (hb hby hd)
  obtain ⟨u1, a1, b1⟩ := g _ _ ⟨hx, hZ, hby, hml, hown, hnm, hret, hlk, W1.size.symm ▸ hn, _, X1, e1, Fr.snoc X1 N ha⟩ W1
  exact ⟨u1, st _ a1, b1⟩
theorem w_putFN (X : Wk p l e R s m args below meth c Z n0 y code ml ret T cells slots h) {R0 O n d C : String} {idx kk : Nat} {ty : FieldType} {a : Addr} {v v' old : Value} (w : (Jvm.Cond.fieldLink y.cls idx R0 n d).before a0 Z = true) (via : Via Z R0 O n d)
    (F : Fld Z h a O n d old) (E : Exa Z h a C) (Lw : (Jvm.Cond.lays C O n d).before a0 Z = true ∨ ((Jvm.Cond.laysFinal C O n d).before a0 Z = true ∧ y.cls = O ∧ y.name = "<init>")) (wi : (Jvm.Cond.instantiable C kk).before a0 Z = true) (hty : parseFieldDescriptor d = some ty) (hnv : narrow ty v = v') (hfv : fits ty v' = true) (ha : n0 ≤ a)
    (hd : decode code pc = .ok (.putfield idx, 3)) (hp : pc + 3 = pc') (g : ∀ T' h', Wk p l e R s m args below meth c Z n0 y code ml ret T' cells slots h' → Wr h h' a (Jvm.RoadKit.slotOf Z O n d) v' → Goes p e below K T' m pc' L S) : Goes p e below K T m pc L (v :: .ref a :: S) := by
  obtain ⟨hx, hZ, hby, hml, hown, hnm, hret, hlk, hn, locs, X, eT, N⟩ := X
  subst hp
  obtain ⟨T1, h1, X1, e1, W1, st⟩ := putFN X hx hZ hown w via eT F E (Lw.imp id fun q => ⟨q.1, q.2.1, hnm.trans q.2.2⟩) wi hty hnv hfv (g := mkF m pc L (v :: .ref a :: S)) rfl rfl (hb hby hd)
  obtain ⟨u1, a1, b1⟩ := g _ _ ⟨hx, hZ, hby, hml, hown, hnm, hret, hlk, W1.size.symm ▸ hn, _, X1, e1, Fr.snoc X1 N ha⟩ W1
  exact ⟨u1, st _ a1, b1⟩
theorem w_new (X : Wk p l e R s m args below meth c Z n0 y code ml ret T cells slots h) {C : String} {idx n : Nat} (w : (Jvm.Cond.classLink y.cls idx C).before a0 Z = true) (wi : (Jvm.Cond.instantiable C n).before a0 Z = true) (wz : (Jvm.Cond.initialized C).before a0 Z = true) (hc : cells + 1 ≤ R.cells) (hl : slots + n ≤ R.slots) (hd : decode code pc = .ok (.new idx, 3)) (hp : pc + 3 = pc')
    (g : ∀ T' h' a, Wk p l e R s m args below meth c Z n0 y code ml ret T' (cells + 1) (slots + n) h' → a = h.size → n0 ≤ a → Ext h h' → Exa Z h' a C → (∀ {O nm d : String} {ty : FieldType}, Laid Z a0 C O nm d → parseFieldDescriptor d = some ty → Fld Z h' a O nm d (defaultValue ty)) → Goes p e below K T' m pc' L (.ref a :: S)) : Goes p e below K T m pc L S := by
  obtain ⟨hx, hZ, hby, hml, hown, hnm, hret, hlk, hn, locs, X, eT, N⟩ := X
  subst hp
  obtain ⟨T1, h1, X1, e1, E1, A1, D1, -, st⟩ := newO X hx hZ hown w wi wz eT (g := mkF m pc L S) rfl (hb hby hd) hc hl
  obtain ⟨u1, a1, b1⟩ := g _ _ _ ⟨hx, hZ, hby, hml, hown, hnm, hret, hlk, Nat.le_trans hn E1.1, _, X1, e1, N⟩ rfl hn E1 A1 D1
  exact ⟨u1, st _ a1, b1⟩
-- arrays
/-- the array at a holds vs -/
def AV (Z : State) (h : Heap) (a : Addr) (ty : FieldType) (vs : List Value) : Prop := ∃ c : Cell, Arr Z h a c ty ∧ c.slots.toList = vs ∧ vs.length < 2 ^ 31
theorem AV.lt {a : Addr} {ty : FieldType} {vs : List Value} (A : AV Z h a ty vs) : a < h.size := by obtain ⟨c, A, -⟩ := A; exact A.lt
theorem AV.ext {a : Addr} {ty : FieldType} {vs : List Value} {h' : Heap} (A : AV Z h a ty vs) (E : Ext h h') : AV Z h' a ty vs := by obtain ⟨c, A, r⟩ := A; exact ⟨c, A.ext E, r⟩
theorem AV.other {a b : Addr} {ty : FieldType} {vs : List Value} {h' : Heap} {sl : Nat} {v : Value} (A : AV Z h b ty vs) (W : Wr h h' a sl v) (q : b ≠ a) : AV Z h' b ty vs := by obtain ⟨c, A, r⟩ := A; exact ⟨c, A.other W q, r⟩
theorem AV.keep {a : Addr} {ty : FieldType} {vs : List Value} {h' : Heap} {ws : List Addr} (A : AV Z h a ty vs) (Kp : Keep h h' ws) (q : a ∉ ws) : AV Z h' a ty vs := by obtain ⟨c, A, r⟩ := A; exact ⟨c, ⟨Kp.2.1 _ _ A.1 q, A.2⟩, r⟩
theorem AV.set {a : Addr} {ty : FieldType} {vs : List Value} {h' : Heap} {i : Nat} {v : Value} (A : AV Z h a ty vs) (W : Wr h h' a i v) : AV Z h' a ty (vs.set i v) := by
  obtain ⟨c, A, r1, r2⟩ := A
  refine ⟨_, A.same W, ?_, by simpa using r2⟩
  subst r1
  simp [Cell.setSlot]
theorem AV.ne_exa {a b : Addr} {ty : FieldType} {vs : List Value} {C : String} {k : Nat} (A : AV Z h a ty vs) (E : Exa Z h b C) (wi : (Jvm.Cond.instantiable C k).before a0 Z = true) : b ≠ a := by obtain ⟨c, A, -⟩ := A; exact ne_arr E wi A
theorem AV.len {a : Addr} {ty : FieldType} {vs : List Value} (A : AV Z h a ty vs) : vs.length < 2 ^ 31 := by obtain ⟨c, -, -, r⟩ := A; exact r
theorem av_in {c : Cell} {vs : List Value} (r : c.slots.toList = vs) {j : Int32} {i : Nat} (h0 : ¬ j < 0) (hi : j.toNatClampNeg = i) (hlt : i < vs.length) : ¬ (j < 0 ∨ c.slots.size ≤ j.toNatClampNeg) := by
  subst r hi
  rintro (q | q)
  · exact h0 q
  · simp at hlt; omega
theorem av_at {c : Cell} {vs : List Value} (r : c.slots.toList = vs) {i : Nat} {v : Value} (hv : vs[i]? = some v) : c.slots[i]? = some v := by
  subst r
  simpa using hv
theorem w_newP (X : Wk p l e R s m args below meth c Z n0 y code ml ret T cells slots h) {aty : ArrayType} {n : Int32} {k : Nat} (w : (Jvm.Cond.arrayClass (newarray.typeOf aty)).before a0 Z = true) (hn : ¬ n < 0) (hk : n.toNatClampNeg = k) {cap : Nat} (hcap : k ≤ cap) (hb0 : cap * 8 ≤ 536870912) (hc : cells + 1 ≤ R.cells) (hl : slots + cap ≤ R.slots) (hd : decode code pc = .ok (.newarray aty, 2)) (hp : pc + 2 = pc')
    (g : ∀ T' h' a, Wk p l e R s m args below meth c Z n0 y code ml ret T' (cells + 1) (slots + cap) h' → a = h.size → n0 ≤ a → Ext h h' → AV Z h' a (newarray.typeOf aty) (List.replicate k (defaultValue (newarray.typeOf aty))) → Goes p e below K T' m pc' L (.ref a :: S)) : Goes p e below K T m pc L (.int n :: S) := by
  obtain ⟨hx, hZ, hby, hml, hown, hnm, hret, hlk, hn', locs, X, eT, N⟩ := X
  subst hp hk
  obtain ⟨T1, h1, cA, X1, e1, E1, A1, st⟩ := newP X hx hZ w eT (g := mkF m pc L (.int n :: S)) rfl (hb hby hd) rfl hn hcap hb0 hc hl
  obtain ⟨u1, a1, b1⟩ := g _ _ _ ⟨hx, hZ, hby, hml, hown, hnm, hret, hlk, Nat.le_trans hn' E1.1, _, X1, e1, N⟩ rfl hn' E1 ⟨_, A1, (by simp [newA]), (by simp only [List.length_replicate]; exact (back32 hn).2)⟩
  exact ⟨u1, st _ a1, b1⟩
theorem w_iaload (X : Wk p l e R s m args below meth c Z n0 y code ml ret T cells slots h) {a : Addr} {vs : List Value} {j : Int32} {i : Nat} {v : Value} (A : AV Z h a .int vs) (h0 : ¬ j < 0) (hi : j.toNatClampNeg = i) (hv : vs[i]? = some v) (hd : decode code pc = .ok (.iaload, 1)) (hp : pc + 1 = pc') (g : Goes p e below K T m pc' L (v :: S)) : Goes p e below K T m pc L (.int j :: .ref a :: S) := by
  obtain ⟨hx, hZ, hby, hml, hown, hnm, hret, hlk, hn, locs, X, eT, N⟩ := X
  obtain ⟨cl, A, r, -⟩ := A
  subst hp
  obtain ⟨u1, a1, b1⟩ := g
  exact ⟨u1, X.iaload hx (by rw [eT]; exact A.1) (State.isArrayOf_alike hZ.alike A.2.1) A.2.2 (av_in r h0 hi (List.getElem?_eq_some_iff.mp hv).1) (by rw [hi]; exact av_at r hv) (g := mkF m pc L (.int j :: .ref a :: S)) rfl rfl (hb hby hd) _ a1, b1⟩
theorem w_laload (X : Wk p l e R s m args below meth c Z n0 y code ml ret T cells slots h) {a : Addr} {vs : List Value} {j : Int32} {i : Nat} {v : Value} (A : AV Z h a .long vs) (h0 : ¬ j < 0) (hi : j.toNatClampNeg = i) (hv : vs[i]? = some v) (hd : decode code pc = .ok (.laload, 1)) (hp : pc + 1 = pc') (g : Goes p e below K T m pc' L (v :: S)) : Goes p e below K T m pc L (.int j :: .ref a :: S) := by
  obtain ⟨hx, hZ, hby, hml, hown, hnm, hret, hlk, hn, locs, X, eT, N⟩ := X
  obtain ⟨cl, A, r, -⟩ := A
  subst hp
  obtain ⟨u1, a1, b1⟩ := g
  exact ⟨u1, X.laload hx (by rw [eT]; exact A.1) (State.isArrayOf_alike hZ.alike A.2.1) A.2.2 (av_in r h0 hi (List.getElem?_eq_some_iff.mp hv).1) (by rw [hi]; exact av_at r hv) (g := mkF m pc L (.int j :: .ref a :: S)) rfl rfl (hb hby hd) _ a1, b1⟩
theorem w_caload (X : Wk p l e R s m args below meth c Z n0 y code ml ret T cells slots h) {a : Addr} {vs : List Value} {j : Int32} {i : Nat} {v : Value} (A : AV Z h a .char vs) (h0 : ¬ j < 0) (hi : j.toNatClampNeg = i) (hv : vs[i]? = some v) (hd : decode code pc = .ok (.caload, 1)) (hp : pc + 1 = pc') (g : Goes p e below K T m pc' L (v :: S)) : Goes p e below K T m pc L (.int j :: .ref a :: S) := by
  obtain ⟨hx, hZ, hby, hml, hown, hnm, hret, hlk, hn, locs, X, eT, N⟩ := X
  obtain ⟨cl, A, r, -⟩ := A
  subst hp
  obtain ⟨u1, a1, b1⟩ := g
  exact ⟨u1, X.caload hx (by rw [eT]; exact A.1) (State.isArrayOf_alike hZ.alike A.2.1) A.2.2 (av_in r h0 hi (List.getElem?_eq_some_iff.mp hv).1) (by rw [hi]; exact av_at r hv) (g := mkF m pc L (.int j :: .ref a :: S)) rfl rfl (hb hby hd) _ a1, b1⟩
theorem w_baloadB (X : Wk p l e R s m args below meth c Z n0 y code ml ret T cells slots h) {a : Addr} {vs : List Value} {j : Int32} {i : Nat} {v : Value} (A : AV Z h a .byte vs) (h0 : ¬ j < 0) (hi : j.toNatClampNeg = i) (hv : vs[i]? = some v) (hd : decode code pc = .ok (.baload, 1)) (hp : pc + 1 = pc') (g : Goes p e below K T m pc' L (v :: S)) : Goes p e below K T m pc L (.int j :: .ref a :: S) := by
  obtain ⟨hx, hZ, hby, hml, hown, hnm, hret, hlk, hn, locs, X, eT, N⟩ := X
  obtain ⟨cl, A, r, -⟩ := A
  subst hp
  obtain ⟨u1, a1, b1⟩ := g
  exact ⟨u1, X.baloadBytes hx (by rw [eT]; exact A.1) (State.isArrayOf_alike hZ.alike A.2.1) A.2.2 (av_in r h0 hi (List.getElem?_eq_some_iff.mp hv).1) (by rw [hi]; exact av_at r hv) (g := mkF m pc L (.int j :: .ref a :: S)) rfl rfl (hb hby hd) _ a1, b1⟩
theorem w_baloadZ (X : Wk p l e R s m args below meth c Z n0 y code ml ret T cells slots h) {a : Addr} {vs : List Value} {j : Int32} {i : Nat} {v : Value} (A : AV Z h a .boolean vs) (h0 : ¬ j < 0) (hi : j.toNatClampNeg = i) (hv : vs[i]? = some v) (hd : decode code pc = .ok (.baload, 1)) (hp : pc + 1 = pc') (g : Goes p e below K T m pc' L (v :: S)) : Goes p e below K T m pc L (.int j :: .ref a :: S) := by
  obtain ⟨hx, hZ, hby, hml, hown, hnm, hret, hlk, hn, locs, X, eT, N⟩ := X
  obtain ⟨cl, A, r, -⟩ := A
  subst hp
  obtain ⟨u1, a1, b1⟩ := g
  exact ⟨u1, X.baloadBooleans hx (by rw [eT]; exact A.1) (State.isArrayOf_alike hZ.alike A.2.1) A.2.2 (av_in r h0 hi (List.getElem?_eq_some_iff.mp hv).1) (by rw [hi]; exact av_at r hv) (g := mkF m pc L (.int j :: .ref a :: S)) rfl rfl (hb hby hd) _ a1, b1⟩
theorem w_arraylength (X : Wk p l e R s m args below meth c Z n0 y code ml ret T cells slots h) {a : Addr} {ty : FieldType} {vs : List Value} {n : Int32} (A : AV Z h a ty vs) (hn : vs.length.toInt32 = n) (hd : decode code pc = .ok (.arraylength, 1)) (hp : pc + 1 = pc') (g : Goes p e below K T m pc' L (.int n :: S)) : Goes p e below K T m pc L (.ref a :: S) := by
  obtain ⟨hx, hZ, hby, hml, hown, hnm, hret, hlk, hn', locs, X, eT, N⟩ := X
  obtain ⟨cl, A, r, -⟩ := A
  have q : cl.slots.size.toInt32 = n := by rw [← hn, ← r]; simp
  subst hp q
  obtain ⟨u1, a1, b1⟩ := g
  exact ⟨u1, X.arraylength hx (by rw [eT]; exact A.1) (State.isArrayOf_alike hZ.alike A.2.1) (g := mkF m pc L (.ref a :: S)) rfl rfl (hb hby hd) _ a1, b1⟩
theorem w_iastore (X : Wk p l e R s m args below meth c Z n0 y code ml ret T cells slots h) {a : Addr} {vs : List Value} {j : Int32} {i : Nat} {x : Int32} (A : AV Z h a .int vs) (h0 : ¬ j < 0) (hi : j.toNatClampNeg = i) (hlt : i < vs.length) (ha : n0 ≤ a) (hd : decode code pc = .ok (.iastore, 1)) (hp : pc + 1 = pc') (g : ∀ T' h', Wk p l e R s m args below meth c Z n0 y code ml ret T' cells slots h' → Wr h h' a i (.int x) → AV Z h' a .int (vs.set i (.int x)) → Goes p e below K T' m pc' L S) : Goes p e below K T m pc L (.int x :: .int j :: .ref a :: S) := by
  obtain ⟨hx, hZ, hby, hml, hown, hnm, hret, hlk, hn, locs, X, eT, N⟩ := X
  have A0 := A
  obtain ⟨cl, A, r, -⟩ := A
  subst hp hi
  obtain ⟨T1, h1, X1, e1, W1, st⟩ := stI X hx hZ eT A (j := j) (av_in r h0 rfl hlt) (g := mkF m pc L (.int x :: .int j :: .ref a :: S)) rfl rfl (hb hby hd)
  obtain ⟨u1, a1, b1⟩ := g _ _ ⟨hx, hZ, hby, hml, hown, hnm, hret, hlk, W1.size.symm ▸ hn, _, X1, e1, Fr.snoc X1 N ha⟩ W1 (A0.set W1)
  exact ⟨u1, st _ a1, b1⟩
theorem w_lastore (X : Wk p l e R s m args below meth c Z n0 y code ml ret T cells slots h) {a : Addr} {vs : List Value} {j : Int32} {i : Nat} {x : Int64} (A : AV Z h a .long vs) (h0 : ¬ j < 0) (hi : j.toNatClampNeg = i) (hlt : i < vs.length) (ha : n0 ≤ a) (hd : decode code pc = .ok (.lastore, 1)) (hp : pc + 1 = pc') (g : ∀ T' h', Wk p l e R s m args below meth c Z n0 y code ml ret T' cells slots h' → Wr h h' a i (.long x) → AV Z h' a .long (vs.set i (.long x)) → Goes p e below K T' m pc' L S) : Goes p e below K T m pc L (.long x :: .int j :: .ref a :: S) := by
  obtain ⟨hx, hZ, hby, hml, hown, hnm, hret, hlk, hn, locs, X, eT, N⟩ := X
  have A0 := A
  obtain ⟨cl, A, r, -⟩ := A
  subst hp hi
  obtain ⟨T1, h1, X1, e1, W1, st⟩ := stJ X hx hZ eT A (j := j) (av_in r h0 rfl hlt) (g := mkF m pc L (.long x :: .int j :: .ref a :: S)) rfl rfl (hb hby hd)
  obtain ⟨u1, a1, b1⟩ := g _ _ ⟨hx, hZ, hby, hml, hown, hnm, hret, hlk, W1.size.symm ▸ hn, _, X1, e1, Fr.snoc X1 N ha⟩ W1 (A0.set W1)
  exact ⟨u1, st _ a1, b1⟩
theorem w_castore (X : Wk p l e R s m args below meth c Z n0 y code ml ret T cells slots h) {a : Addr} {vs : List Value} {j : Int32} {i : Nat} {x : Int32} (A : AV Z h a .char vs) (h0 : ¬ j < 0) (hi : j.toNatClampNeg = i) (hlt : i < vs.length) (ha : n0 ≤ a) (hd : decode code pc = .ok (.castore, 1)) (hp : pc + 1 = pc') (g : ∀ T' h', Wk p l e R s m args below meth c Z n0 y code ml ret T' cells slots h' → Wr h h' a i (.int (nar .char x)) → AV Z h' a .char (vs.set i (.int (nar .char x))) → Goes p e below K T' m pc' L S) : Goes p e below K T m pc L (.int x :: .int j :: .ref a :: S) := by
  obtain ⟨hx, hZ, hby, hml, hown, hnm, hret, hlk, hn, locs, X, eT, N⟩ := X
  have A0 := A
  obtain ⟨cl, A, r, -⟩ := A
  subst hp hi
  obtain ⟨T1, h1, X1, e1, W1, st⟩ := stC X hx hZ eT A (j := j) (av_in r h0 rfl hlt) (g := mkF m pc L (.int x :: .int j :: .ref a :: S)) rfl rfl (hb hby hd)
  obtain ⟨u1, a1, b1⟩ := g _ _ ⟨hx, hZ, hby, hml, hown, hnm, hret, hlk, W1.size.symm ▸ hn, _, X1, e1, Fr.snoc X1 N ha⟩ W1 (A0.set W1)
  exact ⟨u1, st _ a1, b1⟩
theorem w_bastoreB (X : Wk p l e R s m args below meth c Z n0 y code ml ret T cells slots h) {a : Addr} {vs : List Value} {j : Int32} {i : Nat} {x : Int32} (A : AV Z h a .byte vs) (h0 : ¬ j < 0) (hi : j.toNatClampNeg = i) (hlt : i < vs.length) (ha : n0 ≤ a) (hd : decode code pc = .ok (.bastore, 1)) (hp : pc + 1 = pc') (g : ∀ T' h', Wk p l e R s m args below meth c Z n0 y code ml ret T' cells slots h' → Wr h h' a i (.int (nar .byte x)) → AV Z h' a .byte (vs.set i (.int (nar .byte x))) → Goes p e below K T' m pc' L S) : Goes p e below K T m pc L (.int x :: .int j :: .ref a :: S) := by
  obtain ⟨hx, hZ, hby, hml, hown, hnm, hret, hlk, hn, locs, X, eT, N⟩ := X
  have A0 := A
  obtain ⟨cl, A, r, -⟩ := A
  subst hp hi
  obtain ⟨T1, h1, X1, e1, W1, st⟩ := stB X hx hZ eT A (j := j) (av_in r h0 rfl hlt) (g := mkF m pc L (.int x :: .int j :: .ref a :: S)) rfl rfl (hb hby hd)
  obtain ⟨u1, a1, b1⟩ := g _ _ ⟨hx, hZ, hby, hml, hown, hnm, hret, hlk, W1.size.symm ▸ hn, _, X1, e1, Fr.snoc X1 N ha⟩ W1 (A0.set W1)
  exact ⟨u1, st _ a1, b1⟩
theorem w_bastoreZ (X : Wk p l e R s m args below meth c Z n0 y code ml ret T cells slots h) {a : Addr} {vs : List Value} {j : Int32} {i : Nat} {x : Int32} (A : AV Z h a .boolean vs) (h0 : ¬ j < 0) (hi : j.toNatClampNeg = i) (hlt : i < vs.length) (ha : n0 ≤ a) (hd : decode code pc = .ok (.bastore, 1)) (hp : pc + 1 = pc') (g : ∀ T' h', Wk p l e R s m args below meth c Z n0 y code ml ret T' cells slots h' → Wr h h' a i (.int (nar .boolean x)) → AV Z h' a .boolean (vs.set i (.int (nar .boolean x))) → Goes p e below K T' m pc' L S) : Goes p e below K T m pc L (.int x :: .int j :: .ref a :: S) := by
  obtain ⟨hx, hZ, hby, hml, hown, hnm, hret, hlk, hn, locs, X, eT, N⟩ := X
  have A0 := A
  obtain ⟨cl, A, r, -⟩ := A
  subst hp hi
  obtain ⟨T1, h1, X1, e1, W1, st⟩ := stZ X hx hZ eT A (j := j) (av_in r h0 rfl hlt) (g := mkF m pc L (.int x :: .int j :: .ref a :: S)) rfl rfl (hb hby hd)
  obtain ⟨u1, a1, b1⟩ := g _ _ ⟨hx, hZ, hby, hml, hown, hnm, hret, hlk, W1.size.symm ▸ hn, _, X1, e1, Fr.snoc X1 N ha⟩ W1 (A0.set W1)
  exact ⟨u1, st _ a1, b1⟩
theorem getI {xs : List Int32} {i : Nat} (q : i < xs.length) : (xs.map Value.int)[i]? = some (.int (xs.getD i 0)) := by
  simp [List.getD_eq_getElem?_getD, List.getElem?_eq_getElem q]
theorem getL {xs : List Int64} {i : Nat} (q : i < xs.length) : (xs.map Value.long)[i]? = some (.long (xs.getD i 0)) := by
  simp [List.getD_eq_getElem?_getD, List.getElem?_eq_getElem q]
/-- a new name for a value -/
theorem nameI {K' : Prop} (v : Int32) (g : ∀ z, z = v → K') : K' := g v rfl
theorem nameL {K' : Prop} (v : Int64) (g : ∀ z, z = v → K') : K' := g v rfl
end Rules
end Jvm.Own
namespace Jvm.Pilot.@@N@@
open Jvm Jvm.ClassFile Sem Op Lib Jvm.Free Jvm.Stand Jvm.LawKit Jvm.RoadKit Bundle Jvm.Own Jvm.Pilot.@@N@@.Jvm.D
theorem own_inc (i t : Int32) (h : i < t) : (i + 1).toInt = i.toInt + 1 := by
  rw [Int32.lt_iff_toInt_lt] at h
  have h1 := t.toInt_lt; have h2 := i.le_toInt
  have e1 : (1 : Int32).toInt = 1 := by decide
  rw [Int32.toInt_add, e1]
  exact Int.bmod_eq_of_le (by show -(2:Int)^32/2 ≤ _; omega) (by show _ < ((2:Int)^32+1)/2; omega)
theorem own_nn (i : Int32) (h : 0 ≤ i.toInt) : ¬ i < 0 := by rw [Int32.lt_iff_toInt_lt]; have e : (0 : Int32).toInt = 0 := by decide
                                                             omega
theorem own_bd (i t : Int32) (n : Nat) (h0 : 0 ≤ i.toInt) (h : i < t) (ht : t.toInt ≤ n) : i.toNatClampNeg < n := by
  rw [Int32.lt_iff_toInt_lt] at h
  have e : (i.toNatClampNeg : Int) = i.toInt := by rw [Int32.toNatClampNeg]; omega
  omega
def f_all (xs cs : List Int32) : Nat → Int32 → Int32
  | 0, _ => 1
  | k + 1, i => if i < xs.length.toInt32 then (if (xs.getD i.toNatClampNeg 0) = 0 then f_all xs cs k (i + 1) else (if (cs.getD i.toNatClampNeg 0) = 0 then 0 else f_all xs cs k (i + 1))) else 1
def f_bit (p1 : Int32) (p2 : Int32) : Int32 :=
  if ((ush p1 p2) &&& (1 : Int32)) = 0 then (0 : Int32) else (1 : Int32)
theorem d1_0 : decode method_2_code 0 = .ok (.iload_n 0, 1) := by decide +kernel
theorem d1_1 : decode method_2_code 1 = .ok (.iload_n 1, 1) := by decide +kernel
theorem d1_2 : decode method_2_code 2 = .ok (.iushr, 1) := by decide +kernel
theorem d1_3 : decode method_2_code 3 = .ok (.iconst 1, 1) := by decide +kernel
theorem d1_4 : decode method_2_code 4 = .ok (.iand, 1) := by decide +kernel
theorem d1_5 : decode method_2_code 5 = .ok (.ifCond .eq 7, 3) := by decide +kernel
theorem d1_8 : decode method_2_code 8 = .ok (.iconst 1, 1) := by decide +kernel
theorem d1_9 : decode method_2_code 9 = .ok (.goto 4, 3) := by decide +kernel
theorem d1_12 : decode method_2_code 12 = .ok (.iconst 0, 1) := by decide +kernel
theorem d1_13 : decode method_2_code 13 = .ok (.ireturn, 1) := by decide +kernel
theorem pn_1 : plainName "com/example/credence/credence/core/KernelContainsAllPinLaw" = true := by first | (simp [plainName, overriddenIn]; done) | decide +kernel
theorem ef_1 (m : MethodId) (p1 : Int32) (p2 : Int32) : entryFrame m #[(.int p1), (.int p2)] 2 = mkF m 0 #[.val (.int p1), .val (.int p2)] [] := by first | (simp [entryFrame, mkF, argsToLocals, Value.category]; done) | rfl
set_option maxRecDepth 65536 in
set_option maxHeartbeats 4000000 in
theorem rm1 (l : Launch) (Z : State) (a0 : Array Value) (hw : ∀ d ∈ tables_1, d.before a0 Z = true) (p1 : Int32) (p2 : Int32) (h0 : Heap) (n0 : Nat) (Z0 : n0 ≤ h0.size) :
    Con l Z (⟨"com/example/credence/credence/core/KernelContainsAllPinLaw", "bit", "(II)Z"⟩ : MethodName) method_2_code 2 (some .boolean) ({ frames := 0, cells := 0, slots := 0, locals := 0 } : Room) #[(.int p1), (.int p2)] h0 n0 (some (.int (f_bit p1 p2))) (fun h => h = h0) := by
  refine con_of (plainFor_of_name pn_1) Z0 (fun m => ef_1 m p1 p2) ?_
  intro p e s m below meth c T0 X0
  refine w_iloadN X0 d1_0 rfl rfl ?_
  refine w_iloadN X0 d1_1 rfl rfl ?_
  refine w_iushr X0 d1_2 rfl ?_
  refine w_iconst X0 d1_3 (v := (1 : Int32)) rfl rfl ?_
  refine w_iand X0 d1_4 rfl ?_
  refine w_if_eq X0 d1_5 (by decide) (pcT := 12) (pcF := 8) (by decide) rfl (fun c1 => ?_) (fun c1 => ?_)
  · refine w_iconst X0 d1_12 (v := (0 : Int32)) rfl rfl ?_
    exact w_nreturn X0 (t := .boolean) (by simp) d1_13 (by unfold f_bit; rw [if_pos c1]; rfl) rfl (by decide) (by decide)
  · refine w_iconst X0 d1_8 (v := (1 : Int32)) rfl rfl ?_
    refine w_goto X0 d1_9 (by decide) (pc' := 13) (by decide) ?_
    exact w_nreturn X0 (t := .boolean) (by simp) d1_13 (by unfold f_bit; rw [if_neg c1]; rfl) rfl (by decide) (by decide)
theorem d3_0 : decode jdk_30_method_1_code 0 = .ok (.aload_n 0, 1) := by decide +kernel
theorem d3_1 : decode jdk_30_method_1_code 1 = .ok (.invokespecial 1, 3) := by decide +kernel
theorem d3_4 : decode jdk_30_method_1_code 4 = .ok (.return_, 1) := by decide +kernel
theorem pn_3 : plainName "java/lang/Record" = true := by first | (simp [plainName, overriddenIn]; done) | decide +kernel
theorem ef_3 (m : MethodId) (o1 : Addr) : entryFrame m #[(.ref o1)] 1 = mkF m 0 #[.val (.ref o1)] [] := by first | (simp [entryFrame, mkF, argsToLocals, Value.category]; done) | rfl
set_option maxRecDepth 65536 in
set_option maxHeartbeats 4000000 in
theorem rm3 (l : Launch) (Z : State) (a0 : Array Value) (hw : ∀ d ∈ tables_1, d.before a0 Z = true) (o1 : Addr) (h0 : Heap) (n0 : Nat) (Z0 : n0 ≤ h0.size) :
    Con l Z (⟨"java/lang/Record", "<init>", "()V"⟩ : MethodName) jdk_30_method_1_code 1 none ({ frames := 1, cells := 0, slots := 0, locals := 12 } : Room) #[(.ref o1)] h0 n0 none (fun h => h = h0) := by
  refine con_of (plainFor_of_name pn_3) Z0 (fun m => ef_3 m o1) ?_
  intro p e s m below meth c T0 X0
  refine w_aloadN X0 d3_0 rfl rfl rfl ?_
  refine w_initO X0 (W := 0) (hw _ (List.mem_of_getElem? (i := 18) rfl)) (hw _ (List.mem_of_getElem? (i := 19) rfl)) (hw _ (List.mem_of_getElem? (i := 20) rfl)) rfl rfl (by decide) (by decide) d3_1 rfl fun T1 X2 => ?_
  exact w_return X2 d3_4 rfl rfl (by decide) (by decide)
theorem d2_0 : decode prog_17_method_1_code 0 = .ok (.aload_n 0, 1) := by decide +kernel
theorem d2_1 : decode prog_17_method_1_code 1 = .ok (.invokespecial 1, 3) := by decide +kernel
theorem d2_4 : decode prog_17_method_1_code 4 = .ok (.aload_n 0, 1) := by decide +kernel
theorem d2_5 : decode prog_17_method_1_code 5 = .ok (.aload_n 1, 1) := by decide +kernel
theorem d2_6 : decode prog_17_method_1_code 6 = .ok (.putfield 7, 3) := by decide +kernel
theorem d2_9 : decode prog_17_method_1_code 9 = .ok (.aload_n 0, 1) := by decide +kernel
theorem d2_10 : decode prog_17_method_1_code 10 = .ok (.aload_n 2, 1) := by decide +kernel
theorem d2_11 : decode prog_17_method_1_code 11 = .ok (.putfield 13, 3) := by decide +kernel
theorem d2_14 : decode prog_17_method_1_code 14 = .ok (.return_, 1) := by decide +kernel
theorem pd_0 : parseMethodDescriptor "()V" = some ⟨[], none⟩ := by decide +kernel
theorem pn_2 : plainName "com/example/credence/credence/core/GroupFounding$Kernel" = true := by first | (simp [plainName, overriddenIn]; done) | decide +kernel
theorem ef_2 (m : MethodId) (o1 : Addr) (o2 : Addr) (o3 : Addr) : entryFrame m #[(.ref o1), (.ref o2), (.ref o3)] 3 = mkF m 0 #[.val (.ref o1), .val (.ref o2), .val (.ref o3)] [] := by first | (simp [entryFrame, mkF, argsToLocals, Value.category]; done) | rfl
set_option maxRecDepth 65536 in
set_option maxHeartbeats 4000000 in
theorem rm2 (l : Launch) (Z : State) (a0 : Array Value) (hw : ∀ d ∈ tables_1, d.before a0 Z = true) (o1 : Addr) (o2 : Addr) (o3 : Addr) (h0 : Heap) (n0 : Nat) (Z0 : n0 ≤ h0.size) (E0 : Exa Z h0 o1 "com/example/credence/credence/core/GroupFounding$Kernel") (F0_contains : Fld Z h0 o1 "com/example/credence/credence/core/GroupFounding$Kernel" "contains" "[Z" .null) (F0_support : Fld Z h0 o1 "com/example/credence/credence/core/GroupFounding$Kernel" "support" "[I" .null) (g_o1 : n0 ≤ o1) :
    Con l Z (⟨"com/example/credence/credence/core/GroupFounding$Kernel", "<init>", "([Z[I)V"⟩ : MethodName) prog_17_method_1_code 3 none ({ frames := 2, cells := 0, slots := 0, locals := 24 } : Room) #[(.ref o1), (.ref o2), (.ref o3)] h0 n0 none (fun h => Keep h0 h [o1] ∧ Exa Z h o1 "com/example/credence/credence/core/GroupFounding$Kernel" ∧ Fld Z h o1 "com/example/credence/credence/core/GroupFounding$Kernel" "contains" "[Z" (.ref o2) ∧ Fld Z h o1 "com/example/credence/credence/core/GroupFounding$Kernel" "support" "[I" (.ref o3)) := by
  refine con_of (plainFor_of_name pn_2) Z0 (fun m => ef_2 m o1 o2 o3) ?_
  intro p e s m below meth c T0 X0
  refine w_aloadN X0 d2_0 rfl rfl rfl ?_
  refine w_special0P X0 (rm3 l Z a0 hw o1 h0 n0 X0.size ) rfl (hw _ (List.mem_of_getElem? (i := 13) rfl)) (hw _ (List.mem_of_getElem? (i := 14) rfl)) (hw _ (List.mem_of_getElem? (i := 16) rfl)) (hw _ (List.mem_of_getElem? (i := 17) rfl)) (by decide) (argsL := []) (rest := []) rfl (lenOf pd_0 rfl) rfl (W := 0) rfl (by decide) (by decide) (by decide) (by decide) d2_1 rfl fun T1 X2 => ?_
  refine w_aloadN X2 d2_4 rfl rfl rfl ?_
  refine w_aloadN X2 d2_5 rfl rfl rfl ?_
  refine w_putF X2 (host := "") (Or.inl (hw _ (List.mem_of_getElem? (i := 21) rfl))) Via.refl F0_contains E0 (Or.inr ⟨(hw _ (List.mem_of_getElem? (i := 22) rfl)), rfl, rfl⟩) (hw _ (List.mem_of_getElem? (i := 7) rfl)) (ty := (.array .boolean)) (by decide) rfl rfl g_o1 d2_6 rfl fun T3 h6 X4 W5 => ?_
  have f7 : Exa Z h6 o1 "com/example/credence/credence/core/GroupFounding$Kernel" := Exa.wr W5 E0
  have f8 : Fld Z h6 o1 "com/example/credence/credence/core/GroupFounding$Kernel" "contains" "[Z" (.ref o2) := Fld.same W5 F0_contains
  have f9 : Fld Z h6 o1 "com/example/credence/credence/core/GroupFounding$Kernel" "support" "[I" .null := Fld.other W5 F0_support (Or.inr (slot_ne (Or.inr (hw _ (List.mem_of_getElem? (i := 24) rfl))) (Or.inr (hw _ (List.mem_of_getElem? (i := 22) rfl))) (by decide) (t := (.array .int)) (t' := (.array .boolean)) (by decide) (by decide)))
  have k10 : Keep h0 h6 [o1] := (Keep.refl h0 [o1]).wr W5 (Or.inl (List.mem_of_getElem? (i := 0) rfl))
  refine w_aloadN X4 d2_9 rfl rfl rfl ?_
  refine w_aloadN X4 d2_10 rfl rfl rfl ?_
  refine w_putF X4 (host := "") (Or.inl (hw _ (List.mem_of_getElem? (i := 23) rfl))) Via.refl f9 f7 (Or.inr ⟨(hw _ (List.mem_of_getElem? (i := 24) rfl)), rfl, rfl⟩) (hw _ (List.mem_of_getElem? (i := 7) rfl)) (ty := (.array .int)) (by decide) rfl rfl g_o1 d2_11 rfl fun T11 h14 X12 W13 => ?_
  have f15 : Exa Z h14 o1 "com/example/credence/credence/core/GroupFounding$Kernel" := Exa.wr W13 f7
  have f16 : Fld Z h14 o1 "com/example/credence/credence/core/GroupFounding$Kernel" "contains" "[Z" (.ref o2) := Fld.other W13 f8 (Or.inr (slot_ne (Or.inr (hw _ (List.mem_of_getElem? (i := 22) rfl))) (Or.inr (hw _ (List.mem_of_getElem? (i := 24) rfl))) (by decide) (t := (.array .boolean)) (t' := (.array .int)) (by decide) (by decide)))
  have f17 : Fld Z h14 o1 "com/example/credence/credence/core/GroupFounding$Kernel" "support" "[I" (.ref o3) := Fld.same W13 f9
  have k18 : Keep h0 h14 [o1] := k10.wr W13 (Or.inl (List.mem_of_getElem? (i := 0) rfl))
  exact w_return X12 d2_14 rfl ⟨k18, f15, f16, f17⟩ (by decide) (by decide)
theorem d5_0 : decode prog_17_method_2_code 0 = .ok (.iconst 0, 1) := by decide +kernel
theorem d5_1 : decode prog_17_method_2_code 1 = .ok (.istore_n 2, 1) := by decide +kernel
theorem d5_2 : decode prog_17_method_2_code 2 = .ok (.iload_n 2, 1) := by decide +kernel
theorem d5_3 : decode prog_17_method_2_code 3 = .ok (.aload_n 1, 1) := by decide +kernel
theorem d5_4 : decode prog_17_method_2_code 4 = .ok (.arraylength, 1) := by decide +kernel
theorem d5_5 : decode prog_17_method_2_code 5 = .ok (.if_icmp .ge 26, 3) := by decide +kernel
theorem d5_8 : decode prog_17_method_2_code 8 = .ok (.aload_n 1, 1) := by decide +kernel
theorem d5_9 : decode prog_17_method_2_code 9 = .ok (.iload_n 2, 1) := by decide +kernel
theorem d5_10 : decode prog_17_method_2_code 10 = .ok (.baload, 1) := by decide +kernel
theorem d5_11 : decode prog_17_method_2_code 11 = .ok (.ifCond .eq 14, 3) := by decide +kernel
theorem d5_14 : decode prog_17_method_2_code 14 = .ok (.aload_n 0, 1) := by decide +kernel
theorem d5_15 : decode prog_17_method_2_code 15 = .ok (.getfield 7, 3) := by decide +kernel
theorem d5_18 : decode prog_17_method_2_code 18 = .ok (.iload_n 2, 1) := by decide +kernel
theorem d5_19 : decode prog_17_method_2_code 19 = .ok (.baload, 1) := by decide +kernel
theorem d5_20 : decode prog_17_method_2_code 20 = .ok (.ifCond .ne 5, 3) := by decide +kernel
theorem d5_23 : decode prog_17_method_2_code 23 = .ok (.iconst 0, 1) := by decide +kernel
theorem d5_24 : decode prog_17_method_2_code 24 = .ok (.ireturn, 1) := by decide +kernel
theorem d5_25 : decode prog_17_method_2_code 25 = .ok (.iinc 2 1, 3) := by decide +kernel
theorem d5_28 : decode prog_17_method_2_code 28 = .ok (.goto (-26), 3) := by decide +kernel
theorem d5_31 : decode prog_17_method_2_code 31 = .ok (.iconst 1, 1) := by decide +kernel
theorem d5_32 : decode prog_17_method_2_code 32 = .ok (.ireturn, 1) := by decide +kernel
theorem pn_5 : plainName "com/example/credence/credence/core/GroupFounding$Kernel" = true := by first | (simp [plainName, overriddenIn]; done) | decide +kernel
theorem ef_5 (m : MethodId) (o1 : Addr) (o2 : Addr) : entryFrame m #[(.ref o1), (.ref o2)] 3 = mkF m 0 #[.val (.ref o1), .val (.ref o2), .unset] [] := by first | (simp [entryFrame, mkF, argsToLocals, Value.category]; done) | rfl
set_option maxRecDepth 65536 in
set_option maxHeartbeats 4000000 in
theorem rm5 (l : Launch) (Z : State) (a0 : Array Value) (hw : ∀ d ∈ tables_1, d.before a0 Z = true) (o1 : Addr) (o2 : Addr) (contains_o1 : Addr) (xs_o2 : List Int32) (cs : List Int32) (h0 : Heap) (n0 : Nat) (Z0 : n0 ≤ h0.size) (F_c : Fld Z h0 o1 "com/example/credence/credence/core/GroupFounding$Kernel" "contains" "[Z" (.ref contains_o1)) (A_o2 : AV Z h0 o2 .boolean (xs_o2.map Value.int)) (A_c : AV Z h0 contains_o1 .boolean (cs.map Value.int)) (hl : xs_o2.length ≤ 4) (hc : cs.length = 4) :
    Con l Z (⟨"com/example/credence/credence/core/GroupFounding$Kernel", "containsAll", "([Z)Z"⟩ : MethodName) prog_17_method_2_code 3 (some .boolean) ({ frames := 0, cells := 0, slots := 0, locals := 0 } : Room) #[(.ref o1), (.ref o2)] h0 n0 (some (.int (f_all xs_o2 cs 5 0))) (fun h => h = h0) := by
  refine con_of (plainFor_of_name pn_5) Z0 (fun m => ef_5 m o1 o2) ?_
  intro p e s m below meth c T0 X0
  refine w_iconst X0 d5_0 (v := (0 : Int32)) rfl rfl ?_
  refine w_istoreN X0 d5_1 rfl (L' := #[.val (.ref o1), .val (.ref o2), .val (.int (0 : Int32))]) rfl ?_
  have el : xs_o2.length.toInt32.toInt = xs_o2.length := len_toInt (by omega)
  have loop : ∀ (k : Nat) (i : Int32) (T1 : State), Wk p l e ({ frames := 0, cells := 0, slots := 0, locals := 0 } : Room) s m #[(.ref o1), (.ref o2)] below meth c Z n0 (⟨"com/example/credence/credence/core/GroupFounding$Kernel", "containsAll", "([Z)Z"⟩ : MethodName) prog_17_method_2_code 3 (some .boolean) T1 0 0 h0 → 0 ≤ i.toInt → (xs_o2.length : Int) - i.toInt < k → 0 < k → f_all xs_o2 cs 5 0 = f_all xs_o2 cs k i → Goes p e below (Done below s n0 ({ frames := 0, cells := 0, slots := 0, locals := 0 } : Room) (some (.int (f_all xs_o2 cs 5 0))) (fun h => h = h0)) T1 m 2 #[.val (.ref o1), .val (.ref o2), .val (.int i)] [] := by
    intro k
    induction k with
    | zero => intro i T1 X1 a1 b1 c1; exact absurd c1 (Nat.lt_irrefl 0)
    | succ k ih =>
      intro i T1 X1 a1 b1 g1 e1
      refine w_iloadN X1 d5_2 rfl rfl ?_
      refine w_aloadN X1 d5_3 rfl rfl rfl ?_
      refine w_arraylength X1 A_o2 (n := xs_o2.length.toInt32) (by rw [List.length_map]) d5_4 rfl ?_
      refine w_icmp_ge X1 d5_5 (by decide) (pcT := 31) (pcF := 8) (by decide) rfl (fun c1 => ?_) (fun c1 => ?_)
      · refine w_iconst X1 d5_31 (v := (1 : Int32)) rfl rfl ?_
        exact w_nreturn X1 (t := .boolean) (by simp) d5_32 (by rw [e1, f_all, if_neg c1]; rfl) rfl (by decide) (by decide)
      · refine w_aloadN X1 d5_8 rfl rfl rfl ?_
        refine w_iloadN X1 d5_9 rfl rfl ?_
        refine w_baloadZ X1 A_o2 (own_nn i a1) rfl (getI (own_bd i _ _ a1 c1 (by omega))) d5_10 rfl ?_
        refine w_if_eq X1 d5_11 (by decide) (pcT := 25) (pcF := 14) (by decide) rfl (fun c2 => ?_) (fun c2 => ?_)
        · refine w_iinc X1 d5_25 rfl rfl (v' := (i + (1 : Int32))) rfl (L' := #[.val (.ref o1), .val (.ref o2), .val (.int (i + (1 : Int32)))]) rfl ?_
          refine w_goto X1 d5_28 (by decide) (pc' := 2) (by decide) ?_
          have v1 := own_inc i _ c1
          have v2 := Int32.lt_iff_toInt_lt.mp c1
          exact ih (i + 1) _ X1 (by omega) (by omega) (by omega) (by rw [e1, f_all, if_pos c1, if_pos c2])
        · refine w_aloadN X1 d5_14 rfl rfl rfl ?_
          refine w_getF X1 (host := "") (Or.inl (hw _ (List.mem_of_getElem? (i := 21) rfl))) Via.refl F_c d5_15 rfl fun T3 X4 => ?_
          refine w_iloadN X4 d5_18 rfl rfl ?_
          refine w_baloadZ X4 A_c (own_nn i a1) rfl (getI (own_bd i _ _ a1 c1 (by omega))) d5_19 rfl ?_
          refine w_if_ne X4 d5_20 (by decide) (pcT := 25) (pcF := 23) (by decide) rfl (fun c5 => ?_) (fun c5 => ?_)
          · refine w_iinc X4 d5_25 rfl rfl (v' := (i + (1 : Int32))) rfl (L' := #[.val (.ref o1), .val (.ref o2), .val (.int (i + (1 : Int32)))]) rfl ?_
            refine w_goto X4 d5_28 (by decide) (pc' := 2) (by decide) ?_
            have v1 := own_inc i _ c1
            have v2 := Int32.lt_iff_toInt_lt.mp c1
            exact ih (i + 1) _ X4 (by omega) (by omega) (by omega) (by rw [e1, f_all, if_pos c1, if_neg c2, if_neg c5])
          · refine w_iconst X4 d5_23 (v := (0 : Int32)) rfl rfl ?_
            exact w_nreturn X4 (t := .boolean) (by simp) d5_24 (by rw [e1, f_all, if_pos c1, if_neg c2, if_pos c5]; rfl) rfl (by decide) (by decide)
  exact loop 5 0 _ X0 (by decide) (by rw [show (0 : Int32).toInt = 0 from rfl]; omega) (by decide) rfl
theorem own_fin (z : Int32) (n : Nat) (h0 : 0 ≤ z.toInt) (h1 : z.toInt < n) : ∃ k : Fin n, z = Int32.ofNat k.val := by
  refine ⟨⟨z.toInt.toNat, by omega⟩, ?_⟩
  apply Int32.toInt_inj.mp
  have := z.toInt_lt
  rw [Int32.toInt_ofNat_of_lt (by show z.toInt.toNat < 2 ^ 31; omega)]
  show z.toInt = ((z.toInt.toNat : Nat) : Int)
  omega
theorem own_len (x z : Int32) (h : (x &&& (2147483647 : Int32)) % (5 : Int32) = z) : z = (0 : Int32) ∨ z = (1 : Int32) ∨ z = (2 : Int32) ∨ z = (3 : Int32) ∨ z = (4 : Int32) := by
  have h1 := (c_andS x (2147483647 : Int32)).2.2 (by decide)
  have e : (5 : Int32).toInt = 5 := by decide
  have q := (c_iremV (x &&& (2147483647 : Int32)) 5).1 h1 (by omega)
  rw [h] at q
  obtain ⟨k, rfl⟩ := own_fin z 5 (by omega) (by omega)
  clear h q; revert k; decide
theorem own_ush (x : Int32) (i : Fin 4) : (ush x (Int32.ofNat i.val)).toBitVec = x.toBitVec >>> i.val := by
  unfold ush
  rw [UInt32.toBitVec_toInt32, UInt32.toBitVec_shiftRight, Int32.toBitVec_toUInt32, Int32.toBitVec_toUInt32, BitVec.ushiftRight_eq']
  congr 1
  revert i; decide
theorem own_f : ∀ i : Fin 4, (15#32).getLsbD i.val = true := by decide
theorem own_bit1 (x : Int32) (i : Fin 4) : (ush x (Int32.ofNat i.val)) &&& (1 : Int32) = (ush (x &&& (15 : Int32)) (Int32.ofNat i.val)) &&& (1 : Int32) := by
  apply Int32.toBitVec_inj.mp
  rw [Int32.toBitVec_and, Int32.toBitVec_and, own_ush, own_ush, Int32.toBitVec_and]
  apply BitVec.eq_of_getLsbD_eq
  intro j hj
  show ((x.toBitVec >>> i.val) &&& 1#32).getLsbD j = (((x.toBitVec &&& 15#32) >>> i.val) &&& 1#32).getLsbD j
  simp only [BitVec.getLsbD_and, BitVec.getLsbD_ushiftRight]
  by_cases c : j = 0
  · subst c; rw [Nat.add_zero, own_f i, Bool.and_true]
  · have : (1#32).getLsbD j = false := by rw [BitVec.getLsbD_one]; simp [c]
    rw [this]; simp
theorem own_bit (x : Int32) (i : Fin 4) : f_bit x (Int32.ofNat i.val) = f_bit (x &&& (15 : Int32)) (Int32.ofNat i.val) := by
  unfold f_bit; rw [own_bit1]
theorem own_mk (a b m : Int32) (hm : m &&& (15 : Int32) = m) : (b &&& (a ^^^ (-1 : Int32))) &&& m = ((b &&& (15 : Int32)) &&& ((a &&& (15 : Int32)) ^^^ (-1 : Int32))) &&& m := by
  rw [← hm]
  apply Int32.toBitVec_inj.mp
  simp only [Int32.toBitVec_and, Int32.toBitVec_xor]
  apply BitVec.eq_of_getLsbD_eq
  intro j hj
  simp only [BitVec.getLsbD_and, BitVec.getLsbD_xor]
  generalize b.toBitVec.getLsbD j = x1
  generalize a.toBitVec.getLsbD j = x2
  generalize (-1 : Int32).toBitVec.getLsbD j = x3
  generalize m.toBitVec.getLsbD j = x4
  generalize (15 : Int32).toBitVec.getLsbD j = x5
  revert x1 x2 x3 x4 x5; decide
theorem own_15 (x : Int32) : ∃ k : Fin 16, x &&& (15 : Int32) = Int32.ofNat k.val := by
  obtain ⟨q1, q2⟩ := c_and x 15 (by decide)
  have e : (15 : Int32).toInt = 15 := by decide
  exact own_fin _ 16 q1 (by omega)
theorem own_b4 (x : Int32) : f_bit x (0 : Int32) = f_bit (x &&& (15 : Int32)) (0 : Int32) ∧ f_bit x (1 : Int32) = f_bit (x &&& (15 : Int32)) (1 : Int32) ∧ f_bit x (2 : Int32) = f_bit (x &&& (15 : Int32)) (2 : Int32) ∧ f_bit x (3 : Int32) = f_bit (x &&& (15 : Int32)) (3 : Int32) := ⟨own_bit x 0, own_bit x 1, own_bit x 2, own_bit x 3⟩
theorem own_d0 : ∀ a b : Fin 16, f_all [] [nar .boolean (f_bit (Int32.ofNat a.val) (0 : Int32)), nar .boolean (f_bit (Int32.ofNat a.val) (1 : Int32)), nar .boolean (f_bit (Int32.ofNat a.val) (2 : Int32)), nar .boolean (f_bit (Int32.ofNat a.val) (3 : Int32))] 5 0 = (if (((Int32.ofNat b.val) &&& ((Int32.ofNat a.val) ^^^ (-1 : Int32))) &&& (((1 : Int32) <<< ((0 : Int32) &&& 31)) - (1 : Int32))) = 0 then (1 : Int32) else (0 : Int32)) := by decide +kernel
theorem own_law0 (a b : Int32) : f_all [] [nar .boolean (f_bit a (0 : Int32)), nar .boolean (f_bit a (1 : Int32)), nar .boolean (f_bit a (2 : Int32)), nar .boolean (f_bit a (3 : Int32))] 5 0 = (if ((b &&& (a ^^^ (-1 : Int32))) &&& (((1 : Int32) <<< ((0 : Int32) &&& 31)) - (1 : Int32))) = 0 then (1 : Int32) else (0 : Int32)) := by
  obtain ⟨a0, a1, a2, a3⟩ := own_b4 a
  obtain ⟨b0, b1, b2, b3⟩ := own_b4 b
  obtain ⟨i, hi⟩ := own_15 a
  obtain ⟨j, hj⟩ := own_15 b
  rw [own_mk a b _ (by decide)]
  simp only [a0, a1, a2, a3, b0, b1, b2, b3]
  rw [hi, hj]
  exact own_d0 i j
theorem own_d1 : ∀ a b : Fin 16, f_all [nar .boolean (f_bit (Int32.ofNat b.val) (0 : Int32))] [nar .boolean (f_bit (Int32.ofNat a.val) (0 : Int32)), nar .boolean (f_bit (Int32.ofNat a.val) (1 : Int32)), nar .boolean (f_bit (Int32.ofNat a.val) (2 : Int32)), nar .boolean (f_bit (Int32.ofNat a.val) (3 : Int32))] 5 0 = (if (((Int32.ofNat b.val) &&& ((Int32.ofNat a.val) ^^^ (-1 : Int32))) &&& (((1 : Int32) <<< ((1 : Int32) &&& 31)) - (1 : Int32))) = 0 then (1 : Int32) else (0 : Int32)) := by decide +kernel
theorem own_law1 (a b : Int32) : f_all [nar .boolean (f_bit b (0 : Int32))] [nar .boolean (f_bit a (0 : Int32)), nar .boolean (f_bit a (1 : Int32)), nar .boolean (f_bit a (2 : Int32)), nar .boolean (f_bit a (3 : Int32))] 5 0 = (if ((b &&& (a ^^^ (-1 : Int32))) &&& (((1 : Int32) <<< ((1 : Int32) &&& 31)) - (1 : Int32))) = 0 then (1 : Int32) else (0 : Int32)) := by
  obtain ⟨a0, a1, a2, a3⟩ := own_b4 a
  obtain ⟨b0, b1, b2, b3⟩ := own_b4 b
  obtain ⟨i, hi⟩ := own_15 a
  obtain ⟨j, hj⟩ := own_15 b
  rw [own_mk a b _ (by decide)]
  simp only [a0, a1, a2, a3, b0, b1, b2, b3]
  rw [hi, hj]
  exact own_d1 i j
theorem own_d2 : ∀ a b : Fin 16, f_all [nar .boolean (f_bit (Int32.ofNat b.val) (0 : Int32)), nar .boolean (f_bit (Int32.ofNat b.val) (1 : Int32))] [nar .boolean (f_bit (Int32.ofNat a.val) (0 : Int32)), nar .boolean (f_bit (Int32.ofNat a.val) (1 : Int32)), nar .boolean (f_bit (Int32.ofNat a.val) (2 : Int32)), nar .boolean (f_bit (Int32.ofNat a.val) (3 : Int32))] 5 0 = (if (((Int32.ofNat b.val) &&& ((Int32.ofNat a.val) ^^^ (-1 : Int32))) &&& (((1 : Int32) <<< ((2 : Int32) &&& 31)) - (1 : Int32))) = 0 then (1 : Int32) else (0 : Int32)) := by decide +kernel
theorem own_law2 (a b : Int32) : f_all [nar .boolean (f_bit b (0 : Int32)), nar .boolean (f_bit b (1 : Int32))] [nar .boolean (f_bit a (0 : Int32)), nar .boolean (f_bit a (1 : Int32)), nar .boolean (f_bit a (2 : Int32)), nar .boolean (f_bit a (3 : Int32))] 5 0 = (if ((b &&& (a ^^^ (-1 : Int32))) &&& (((1 : Int32) <<< ((2 : Int32) &&& 31)) - (1 : Int32))) = 0 then (1 : Int32) else (0 : Int32)) := by
  obtain ⟨a0, a1, a2, a3⟩ := own_b4 a
  obtain ⟨b0, b1, b2, b3⟩ := own_b4 b
  obtain ⟨i, hi⟩ := own_15 a
  obtain ⟨j, hj⟩ := own_15 b
  rw [own_mk a b _ (by decide)]
  simp only [a0, a1, a2, a3, b0, b1, b2, b3]
  rw [hi, hj]
  exact own_d2 i j
theorem own_d3 : ∀ a b : Fin 16, f_all [nar .boolean (f_bit (Int32.ofNat b.val) (0 : Int32)), nar .boolean (f_bit (Int32.ofNat b.val) (1 : Int32)), nar .boolean (f_bit (Int32.ofNat b.val) (2 : Int32))] [nar .boolean (f_bit (Int32.ofNat a.val) (0 : Int32)), nar .boolean (f_bit (Int32.ofNat a.val) (1 : Int32)), nar .boolean (f_bit (Int32.ofNat a.val) (2 : Int32)), nar .boolean (f_bit (Int32.ofNat a.val) (3 : Int32))] 5 0 = (if (((Int32.ofNat b.val) &&& ((Int32.ofNat a.val) ^^^ (-1 : Int32))) &&& (((1 : Int32) <<< ((3 : Int32) &&& 31)) - (1 : Int32))) = 0 then (1 : Int32) else (0 : Int32)) := by decide +kernel
theorem own_law3 (a b : Int32) : f_all [nar .boolean (f_bit b (0 : Int32)), nar .boolean (f_bit b (1 : Int32)), nar .boolean (f_bit b (2 : Int32))] [nar .boolean (f_bit a (0 : Int32)), nar .boolean (f_bit a (1 : Int32)), nar .boolean (f_bit a (2 : Int32)), nar .boolean (f_bit a (3 : Int32))] 5 0 = (if ((b &&& (a ^^^ (-1 : Int32))) &&& (((1 : Int32) <<< ((3 : Int32) &&& 31)) - (1 : Int32))) = 0 then (1 : Int32) else (0 : Int32)) := by
  obtain ⟨a0, a1, a2, a3⟩ := own_b4 a
  obtain ⟨b0, b1, b2, b3⟩ := own_b4 b
  obtain ⟨i, hi⟩ := own_15 a
  obtain ⟨j, hj⟩ := own_15 b
  rw [own_mk a b _ (by decide)]
  simp only [a0, a1, a2, a3, b0, b1, b2, b3]
  rw [hi, hj]
  exact own_d3 i j
theorem own_d4 : ∀ a b : Fin 16, f_all [nar .boolean (f_bit (Int32.ofNat b.val) (0 : Int32)), nar .boolean (f_bit (Int32.ofNat b.val) (1 : Int32)), nar .boolean (f_bit (Int32.ofNat b.val) (2 : Int32)), nar .boolean (f_bit (Int32.ofNat b.val) (3 : Int32))] [nar .boolean (f_bit (Int32.ofNat a.val) (0 : Int32)), nar .boolean (f_bit (Int32.ofNat a.val) (1 : Int32)), nar .boolean (f_bit (Int32.ofNat a.val) (2 : Int32)), nar .boolean (f_bit (Int32.ofNat a.val) (3 : Int32))] 5 0 = (if (((Int32.ofNat b.val) &&& ((Int32.ofNat a.val) ^^^ (-1 : Int32))) &&& (((1 : Int32) <<< ((4 : Int32) &&& 31)) - (1 : Int32))) = 0 then (1 : Int32) else (0 : Int32)) := by decide +kernel
theorem own_law4 (a b : Int32) : f_all [nar .boolean (f_bit b (0 : Int32)), nar .boolean (f_bit b (1 : Int32)), nar .boolean (f_bit b (2 : Int32)), nar .boolean (f_bit b (3 : Int32))] [nar .boolean (f_bit a (0 : Int32)), nar .boolean (f_bit a (1 : Int32)), nar .boolean (f_bit a (2 : Int32)), nar .boolean (f_bit a (3 : Int32))] 5 0 = (if ((b &&& (a ^^^ (-1 : Int32))) &&& (((1 : Int32) <<< ((4 : Int32) &&& 31)) - (1 : Int32))) = 0 then (1 : Int32) else (0 : Int32)) := by
  obtain ⟨a0, a1, a2, a3⟩ := own_b4 a
  obtain ⟨b0, b1, b2, b3⟩ := own_b4 b
  obtain ⟨i, hi⟩ := own_15 a
  obtain ⟨j, hj⟩ := own_15 b
  rw [own_mk a b _ (by decide)]
  simp only [a0, a1, a2, a3, b0, b1, b2, b3]
  rw [hi, hj]
  exact own_d4 i j
theorem pd_1 : parseMethodDescriptor "(II)Z" = some ⟨[.int, .int], some .boolean⟩ := by decide +kernel
theorem pd_2 : parseMethodDescriptor "([Z[I)V" = some ⟨[(.array .boolean), (.array .int)], none⟩ := by decide +kernel
theorem pd_3 : parseMethodDescriptor "([Z)Z" = some ⟨[(.array .boolean)], some .boolean⟩ := by decide +kernel
theorem pn_0 : plainName "com/example/credence/credence/core/KernelContainsAllPinLaw" = true := by first | (simp [plainName, overriddenIn]; done) | decide +kernel
theorem ef_0 (m : MethodId) (p1 : Int32) (p2 : Int32) (p3 : Int32) : entryFrame m #[(.int p1), (.int p2), (.int p3)] maxLocals = mkF m 0 #[.val (.int p1), .val (.int p2), .val (.int p3), .unset, .unset, .unset, .unset, .unset, .unset, .unset] [] := by first | (simp [entryFrame, mkF, argsToLocals, Value.category, maxLocals]; done) | rfl
set_option maxRecDepth 65536 in
set_option maxHeartbeats 40000000 in
theorem rm0 (l : Launch) (Z : State) (a0 : Array Value) (hw : ∀ d ∈ tables_1, d.before a0 Z = true) (p1 : Int32) (p2 : Int32) (p3 : Int32) (h0 : Heap) (n0 : Nat) (Z0 : n0 ≤ h0.size) :
    Con l Z x code maxLocals ret room_1 #[(.int p1), (.int p2), (.int p3)] h0 n0 (some (.int 1)) (fun _ => True) := by
  refine con_of (plainFor_of_name pn_0) Z0 (fun m => ef_0 m p1 p2 p3) ?_
  intro p e s m below meth c T0 X0
  refine w_iloadN X0 at_0 rfl rfl ?_
  refine w_ldcInt X0 (hw _ (List.mem_of_getElem? (i := 0) rfl)) at_1 rfl ?_
  refine w_iand X0 at_3 rfl ?_
  refine w_iconst X0 at_4 (v := (5 : Int32)) rfl rfl ?_
  refine w_irem X0 at_5 rfl (by decide) ?_
  generalize hz1 : ((p3 &&& (2147483647 : Int32)) % (5 : Int32)) = z1
  refine w_istoreN X0 at_6 rfl (L' := #[.val (.int p1), .val (.int p2), .val (.int p3), .val (.int z1), .unset, .unset, .unset, .unset, .unset, .unset]) rfl ?_
  rcases (own_len _ _ hz1) with q2 | q2 | q2 | q2 | q2
  · subst q2
    refine w_iconst X0 at_7 (v := (4 : Int32)) rfl rfl ?_
    refine w_newP X0 (hw _ (List.mem_of_getElem? (i := 1) rfl)) (by decide) (k := 4) (by decide) (cap := 4) (by decide) (by decide) (by decide) (by decide) at_8 rfl fun T3 h5 a6 X4 ga7 gn8 E9 A10 => ?_
    have g011 : h0.size ≤ a6 := by rw [ga7]; exact (Keep.refl h0 []).1
    have k12 : Keep h0 h5 [] := (Keep.refl h0 []).ext E9
    have f13 : AV Z h5 a6 .boolean [(.int (0 : Int32)), (.int (0 : Int32)), (.int (0 : Int32)), (.int (0 : Int32))] := A10
    refine w_dup X4 at_10 rfl rfl ?_
    refine w_iconst X4 at_11 (v := (0 : Int32)) rfl rfl ?_
    refine w_iloadN X4 at_12 rfl rfl ?_
    refine w_iconst X4 at_13 (v := (0 : Int32)) rfl rfl ?_
    refine w_staticVP X4 (rm1 l Z a0 hw p1 (0 : Int32) h5 n0 X4.size ) (hw _ (List.mem_of_getElem? (i := 2) rfl)) (hw _ (List.mem_of_getElem? (i := 3) rfl)) (hw _ (List.mem_of_getElem? (i := 4) rfl)) (hw _ (List.mem_of_getElem? (i := 5) rfl)) (by decide) (argsL := [(.int p1), (.int (0 : Int32))]) (rest := [(.int (0 : Int32)), (.ref a6), (.ref a6)]) rfl (lenOf pd_1 rfl) rfl (W := 3) rfl (by decide) (by decide) (by decide) (by decide) at_14 rfl fun T14 X15 => ?_
    refine w_bastoreZ X15 f13 (by decide) (i := 0) (by decide) (Nat.le_of_ble_eq_true rfl) gn8 at_17 rfl fun T16 h19 X17 W18 A20 => ?_
    obtain ⟨z21, hz21⟩ : ∃ z, z = (nar .boolean (f_bit p1 (0 : Int32))) := ⟨_, rfl⟩
    have f22 : AV Z h19 a6 .boolean [(.int z21), (.int (0 : Int32)), (.int (0 : Int32)), (.int (0 : Int32))] := (by subst hz21; exact A20)
    have k23 : Keep h0 h19 [] := k12.wr W18 (Or.inr g011)
    refine w_dup X17 at_18 rfl rfl ?_
    refine w_iconst X17 at_19 (v := (1 : Int32)) rfl rfl ?_
    refine w_iloadN X17 at_20 rfl rfl ?_
    refine w_iconst X17 at_21 (v := (1 : Int32)) rfl rfl ?_
    refine w_staticVP X17 (rm1 l Z a0 hw p1 (1 : Int32) h19 n0 X17.size ) (hw _ (List.mem_of_getElem? (i := 2) rfl)) (hw _ (List.mem_of_getElem? (i := 3) rfl)) (hw _ (List.mem_of_getElem? (i := 4) rfl)) (hw _ (List.mem_of_getElem? (i := 5) rfl)) (by decide) (argsL := [(.int p1), (.int (1 : Int32))]) (rest := [(.int (1 : Int32)), (.ref a6), (.ref a6)]) rfl (lenOf pd_1 rfl) rfl (W := 3) rfl (by decide) (by decide) (by decide) (by decide) at_22 rfl fun T24 X25 => ?_
    refine w_bastoreZ X25 f22 (by decide) (i := 1) (by decide) (Nat.le_of_ble_eq_true rfl) gn8 at_25 rfl fun T26 h29 X27 W28 A30 => ?_
    obtain ⟨z31, hz31⟩ : ∃ z, z = (nar .boolean (f_bit p1 (1 : Int32))) := ⟨_, rfl⟩
    have f32 : AV Z h29 a6 .boolean [(.int z21), (.int z31), (.int (0 : Int32)), (.int (0 : Int32))] := (by subst hz31; exact A30)
    have k33 : Keep h0 h29 [] := k23.wr W28 (Or.inr g011)
    refine w_dup X27 at_26 rfl rfl ?_
    refine w_iconst X27 at_27 (v := (2 : Int32)) rfl rfl ?_
    refine w_iloadN X27 at_28 rfl rfl ?_
    refine w_iconst X27 at_29 (v := (2 : Int32)) rfl rfl ?_
    refine w_staticVP X27 (rm1 l Z a0 hw p1 (2 : Int32) h29 n0 X27.size ) (hw _ (List.mem_of_getElem? (i := 2) rfl)) (hw _ (List.mem_of_getElem? (i := 3) rfl)) (hw _ (List.mem_of_getElem? (i := 4) rfl)) (hw _ (List.mem_of_getElem? (i := 5) rfl)) (by decide) (argsL := [(.int p1), (.int (2 : Int32))]) (rest := [(.int (2 : Int32)), (.ref a6), (.ref a6)]) rfl (lenOf pd_1 rfl) rfl (W := 3) rfl (by decide) (by decide) (by decide) (by decide) at_30 rfl fun T34 X35 => ?_
    refine w_bastoreZ X35 f32 (by decide) (i := 2) (by decide) (Nat.le_of_ble_eq_true rfl) gn8 at_33 rfl fun T36 h39 X37 W38 A40 => ?_
    obtain ⟨z41, hz41⟩ : ∃ z, z = (nar .boolean (f_bit p1 (2 : Int32))) := ⟨_, rfl⟩
    have f42 : AV Z h39 a6 .boolean [(.int z21), (.int z31), (.int z41), (.int (0 : Int32))] := (by subst hz41; exact A40)
    have k43 : Keep h0 h39 [] := k33.wr W38 (Or.inr g011)
    refine w_dup X37 at_34 rfl rfl ?_
    refine w_iconst X37 at_35 (v := (3 : Int32)) rfl rfl ?_
    refine w_iloadN X37 at_36 rfl rfl ?_
    refine w_iconst X37 at_37 (v := (3 : Int32)) rfl rfl ?_
    refine w_staticVP X37 (rm1 l Z a0 hw p1 (3 : Int32) h39 n0 X37.size ) (hw _ (List.mem_of_getElem? (i := 2) rfl)) (hw _ (List.mem_of_getElem? (i := 3) rfl)) (hw _ (List.mem_of_getElem? (i := 4) rfl)) (hw _ (List.mem_of_getElem? (i := 5) rfl)) (by decide) (argsL := [(.int p1), (.int (3 : Int32))]) (rest := [(.int (3 : Int32)), (.ref a6), (.ref a6)]) rfl (lenOf pd_1 rfl) rfl (W := 3) rfl (by decide) (by decide) (by decide) (by decide) at_38 rfl fun T44 X45 => ?_
    refine w_bastoreZ X45 f42 (by decide) (i := 3) (by decide) (Nat.le_of_ble_eq_true rfl) gn8 at_41 rfl fun T46 h49 X47 W48 A50 => ?_
    obtain ⟨z51, hz51⟩ : ∃ z, z = (nar .boolean (f_bit p1 (3 : Int32))) := ⟨_, rfl⟩
    have f52 : AV Z h49 a6 .boolean [(.int z21), (.int z31), (.int z41), (.int z51)] := (by subst hz51; exact A50)
    have k53 : Keep h0 h49 [] := k43.wr W48 (Or.inr g011)
    refine w_astore X47 at_42 rfl rfl (L' := #[.val (.int p1), .val (.int p2), .val (.int p3), .val (.int (0 : Int32)), .val (.ref a6), .unset, .unset, .unset, .unset, .unset]) rfl ?_
    refine w_iloadN X47 at_44 rfl rfl ?_
    refine w_newP X47 (hw _ (List.mem_of_getElem? (i := 1) rfl)) (by decide) (k := 0) (by decide) (cap := 0) (by decide) (by decide) (by decide) (by decide) at_45 rfl fun T54 h56 a57 X55 ga58 gn59 E60 A61 => ?_
    have ne62 : a6 ≠ a57 := by rw [ga58]; exact Nat.ne_of_lt f52.lt
    have g063 : h0.size ≤ a57 := by rw [ga58]; exact k53.1
    have f64 : AV Z h56 a6 .boolean [(.int z21), (.int z31), (.int z41), (.int z51)] := f52.ext E60
    have k65 : Keep h0 h56 [] := k53.ext E60
    have f66 : AV Z h56 a57 .boolean [] := A61
    refine w_astore X55 at_47 rfl rfl (L' := #[.val (.int p1), .val (.int p2), .val (.int p3), .val (.int (0 : Int32)), .val (.ref a6), .val (.ref a57), .unset, .unset, .unset, .unset]) rfl ?_
    refine w_iloadN X55 at_49 rfl rfl ?_
    refine w_if_le X55 at_50 (by decide) (pcT := 62) (pcF := 53) (by decide) rfl (fun c67 => ?_) (fun c67 => absurd c67 (by decide))
    refine w_iloadN X55 at_62 rfl rfl ?_
    refine w_iconst X55 at_63 (v := (1 : Int32)) rfl rfl ?_
    refine w_icmp_le X55 at_64 (by decide) (pcT := 76) (pcF := 67) (by decide) rfl (fun c68 => ?_) (fun c68 => absurd c68 (by decide))
    refine w_iloadN X55 at_76 rfl rfl ?_
    refine w_iconst X55 at_77 (v := (2 : Int32)) rfl rfl ?_
    refine w_icmp_le X55 at_78 (by decide) (pcT := 90) (pcF := 81) (by decide) rfl (fun c69 => ?_) (fun c69 => absurd c69 (by decide))
    refine w_iloadN X55 at_90 rfl rfl ?_
    refine w_iconst X55 at_91 (v := (3 : Int32)) rfl rfl ?_
    refine w_icmp_le X55 at_92 (by decide) (pcT := 104) (pcF := 95) (by decide) rfl (fun c70 => ?_) (fun c70 => absurd c70 (by decide))
    refine w_new X55 (hw _ (List.mem_of_getElem? (i := 6) rfl)) (hw _ (List.mem_of_getElem? (i := 7) rfl)) (hw _ (List.mem_of_getElem? (i := 8) rfl)) (by decide) (by decide) at_104 rfl fun T71 h73 a74 X72 ga75 gn76 E77 A78 D79 => ?_
    have ne80 : a6 ≠ a74 := by rw [ga75]; exact Nat.ne_of_lt f64.lt
    have ne81 : a57 ≠ a74 := by rw [ga75]; exact Nat.ne_of_lt f66.lt
    have g082 : h0.size ≤ a74 := by rw [ga75]; exact k65.1
    have f83 : AV Z h73 a6 .boolean [(.int z21), (.int z31), (.int z41), (.int z51)] := f64.ext E77
    have f84 : AV Z h73 a57 .boolean [] := f66.ext E77
    have k85 : Keep h0 h73 [] := k65.ext E77
    have f86 : Fld Z h73 a74 "com/example/credence/credence/core/GroupFounding$Kernel" "contains" "[Z" .null := D79 (Or.inr (hw _ (List.mem_of_getElem? (i := 22) rfl))) (ty := (.array .boolean)) (by decide)
    have f87 : Fld Z h73 a74 "com/example/credence/credence/core/GroupFounding$Kernel" "support" "[I" .null := D79 (Or.inr (hw _ (List.mem_of_getElem? (i := 24) rfl))) (ty := (.array .int)) (by decide)
    refine w_dup X72 at_107 rfl rfl ?_
    refine w_aload X72 at_108 rfl rfl rfl ?_
    refine w_iconst X72 at_110 (v := (4 : Int32)) rfl rfl ?_
    refine w_newP X72 (hw _ (List.mem_of_getElem? (i := 9) rfl)) (by decide) (k := 4) (by decide) (cap := 4) (by decide) (by decide) (by decide) (by decide) at_111 rfl fun T88 h90 a91 X89 ga92 gn93 E94 A95 => ?_
    have ne96 : a6 ≠ a91 := by rw [ga92]; exact Nat.ne_of_lt f83.lt
    have ne97 : a57 ≠ a91 := by rw [ga92]; exact Nat.ne_of_lt f84.lt
    have ne98 : a74 ≠ a91 := by rw [ga92]; exact Nat.ne_of_lt A78.lt
    have g099 : h0.size ≤ a91 := by rw [ga92]; exact k85.1
    have f100 : AV Z h90 a6 .boolean [(.int z21), (.int z31), (.int z41), (.int z51)] := f83.ext E94
    have f101 : AV Z h90 a57 .boolean [] := f84.ext E94
    have f102 : Exa Z h90 a74 "com/example/credence/credence/core/GroupFounding$Kernel" := Exa.ext E94 A78
    have f103 : Fld Z h90 a74 "com/example/credence/credence/core/GroupFounding$Kernel" "contains" "[Z" .null := Fld.ext E94 f86
    have f104 : Fld Z h90 a74 "com/example/credence/credence/core/GroupFounding$Kernel" "support" "[I" .null := Fld.ext E94 f87
    have k105 : Keep h0 h90 [] := k85.ext E94
    have f106 : AV Z h90 a91 .int [(.int (0 : Int32)), (.int (0 : Int32)), (.int (0 : Int32)), (.int (0 : Int32))] := A95
    refine w_special0 X89 (rm2 l Z a0 hw a74 a6 a91 h90 n0 X89.size f102 f103 f104 gn76) rfl (hw _ (List.mem_of_getElem? (i := 10) rfl)) (hw _ (List.mem_of_getElem? (i := 11) rfl)) (hw _ (List.mem_of_getElem? (i := 8) rfl)) (hw _ (List.mem_of_getElem? (i := 12) rfl)) (by decide) (argsL := [(.ref a6), (.ref a91)]) (rest := [(.ref a74)]) rfl (lenOf pd_2 rfl) rfl (W := 1) rfl (by decide) (by decide) (by decide) (by decide) at_113 rfl fun T107 h108 X109 q110 => ?_
    obtain ⟨K111, E112, f113, f114⟩ := q110
    have f115 : AV Z h108 a6 .boolean [(.int z21), (.int z31), (.int z41), (.int z51)] := f100.keep K111 (ninS ne80 nin0)
    have f116 : AV Z h108 a57 .boolean [] := f101.keep K111 (ninS ne81 nin0)
    have f117 : Exa Z h108 a74 "com/example/credence/credence/core/GroupFounding$Kernel" := f102.keep K111
    have f118 : AV Z h108 a91 .int [(.int (0 : Int32)), (.int (0 : Int32)), (.int (0 : Int32)), (.int (0 : Int32))] := f106.keep K111 (ninS (Ne.symm ne98) nin0)
    have k119 : Keep h0 h108 [] := k105.trans K111 (allS (Or.inr g082) all0)
    refine w_astore X109 at_116 rfl rfl (L' := #[.val (.int p1), .val (.int p2), .val (.int p3), .val (.int (0 : Int32)), .val (.ref a6), .val (.ref a57), .val (.ref a74), .unset, .unset, .unset]) rfl ?_
    refine w_aload X109 at_118 rfl rfl rfl ?_
    refine w_aload X109 at_120 rfl rfl rfl ?_
    refine w_virtualVP X109 (rm5 l Z a0 hw a74 a57 a6 [] [z21, z31, z41, z51] h108 n0 X109.size f113 f116 f115 (Nat.le_of_ble_eq_true rfl) rfl) f117 (hw _ (List.mem_of_getElem? (i := 25) rfl)) (hw _ (List.mem_of_getElem? (i := 26) rfl)) (hw _ (List.mem_of_getElem? (i := 28) rfl)) (hw _ (List.mem_of_getElem? (i := 27) rfl)) (hw _ (List.mem_of_getElem? (i := 8) rfl)) (hw _ (List.mem_of_getElem? (i := 29) rfl)) (by decide) (argsL := [(.ref a57)]) (rest := []) rfl (lenOf pd_3 rfl) rfl (W := 0) rfl (by decide) (by decide) (by decide) (by decide) at_122 rfl fun T120 X121 => ?_
    generalize hz122 : (f_all [] [z21, z31, z41, z51] 5 0) = z122
    refine w_istore X121 at_125 rfl (L' := #[.val (.int p1), .val (.int p2), .val (.int p3), .val (.int (0 : Int32)), .val (.ref a6), .val (.ref a57), .val (.ref a74), .val (.int z122), .unset, .unset]) rfl ?_
    refine w_iconst X121 at_127 (v := (1 : Int32)) rfl rfl ?_
    refine w_iloadN X121 at_128 rfl rfl ?_
    refine w_ishl X121 at_129 rfl ?_
    refine w_iconst X121 at_130 (v := (1 : Int32)) rfl rfl ?_
    refine w_isub X121 at_131 rfl ?_
    generalize hz123 : (((1 : Int32) <<< ((0 : Int32) &&& 31)) - (1 : Int32)) = z123
    refine w_istore X121 at_132 rfl (L' := #[.val (.int p1), .val (.int p2), .val (.int p3), .val (.int (0 : Int32)), .val (.ref a6), .val (.ref a57), .val (.ref a74), .val (.int z122), .val (.int z123), .unset]) rfl ?_
    refine w_iloadN X121 at_134 rfl rfl ?_
    refine w_iloadN X121 at_135 rfl rfl ?_
    refine w_iconst X121 at_136 (v := (-1 : Int32)) rfl rfl ?_
    refine w_ixor X121 at_137 rfl ?_
    refine w_iand X121 at_138 rfl ?_
    refine w_iload X121 at_139 rfl rfl ?_
    refine w_iand X121 at_141 rfl ?_
    suffices j127 : ∀ (T125 : State) (z124 : Int32), (Wk p l e room_1 s m #[(.int p1), (.int p2), (.int p3)] below meth c Z n0 x code maxLocals ret T125 4 10 h108) → (z124 = (if ((p2 &&& (p1 ^^^ (-1 : Int32))) &&& z123) = 0 then (1 : Int32) else (0 : Int32))) → Goes p e below (Done below s n0 room_1 (some (.int 1)) (fun _ => True)) T125 m 150 #[.val (.int p1), .val (.int p2), .val (.int p3), .val (.int (0 : Int32)), .val (.ref a6), .val (.ref a57), .val (.ref a74), .val (.int z122), .val (.int z123), .unset] [(.int z124)] by
      refine w_if_ne X121 at_142 (by decide) (pcT := 149) (pcF := 145) (by decide) rfl (fun c128 => ?_) (fun c128 => ?_)
      · refine w_iconst X121 at_149 (v := (0 : Int32)) rfl rfl ?_
        exact j127 _ _ X121 (by rw [if_neg c128])
      · refine w_iconst X121 at_145 (v := (1 : Int32)) rfl rfl ?_
        refine w_goto X121 at_146 (by decide) (pc' := 150) (by decide) ?_
        exact j127 _ _ X121 (by rw [if_pos c128])
    intro T125 z124 X126 hz124
    refine w_istore X126 at_150 rfl (L' := #[.val (.int p1), .val (.int p2), .val (.int p3), .val (.int (0 : Int32)), .val (.ref a6), .val (.ref a57), .val (.ref a74), .val (.int z122), .val (.int z123), .val (.int z124)]) rfl ?_
    refine w_iload X126 at_152 rfl rfl ?_
    refine w_iload X126 at_154 rfl rfl ?_
    refine w_icmp_ne X126 at_156 (by decide) (pcT := 163) (pcF := 159) (by decide) rfl (fun c129 => ?_) (fun c129 => ?_)
    · refine w_iconst X126 at_163 (v := (0 : Int32)) rfl rfl ?_
      exact False.elim (c129 (by subst hz124 hz123 hz122 hz51 hz41 hz31 hz21; exact own_law0 _ _))
    · refine w_iconst X126 at_159 (v := (1 : Int32)) rfl rfl ?_
      refine w_goto X126 at_160 (by decide) (pc' := 164) (by decide) ?_
      exact w_nreturn X126 (t := .boolean) (by simp) at_164 rfl trivial (by decide) (by decide)
  · subst q2
    refine w_iconst X0 at_7 (v := (4 : Int32)) rfl rfl ?_
    refine w_newP X0 (hw _ (List.mem_of_getElem? (i := 1) rfl)) (by decide) (k := 4) (by decide) (cap := 4) (by decide) (by decide) (by decide) (by decide) at_8 rfl fun T130 h132 a133 X131 ga134 gn135 E136 A137 => ?_
    have g0138 : h0.size ≤ a133 := by rw [ga134]; exact (Keep.refl h0 []).1
    have k139 : Keep h0 h132 [] := (Keep.refl h0 []).ext E136
    have f140 : AV Z h132 a133 .boolean [(.int (0 : Int32)), (.int (0 : Int32)), (.int (0 : Int32)), (.int (0 : Int32))] := A137
    refine w_dup X131 at_10 rfl rfl ?_
    refine w_iconst X131 at_11 (v := (0 : Int32)) rfl rfl ?_
    refine w_iloadN X131 at_12 rfl rfl ?_
    refine w_iconst X131 at_13 (v := (0 : Int32)) rfl rfl ?_
    refine w_staticVP X131 (rm1 l Z a0 hw p1 (0 : Int32) h132 n0 X131.size ) (hw _ (List.mem_of_getElem? (i := 2) rfl)) (hw _ (List.mem_of_getElem? (i := 3) rfl)) (hw _ (List.mem_of_getElem? (i := 4) rfl)) (hw _ (List.mem_of_getElem? (i := 5) rfl)) (by decide) (argsL := [(.int p1), (.int (0 : Int32))]) (rest := [(.int (0 : Int32)), (.ref a133), (.ref a133)]) rfl (lenOf pd_1 rfl) rfl (W := 3) rfl (by decide) (by decide) (by decide) (by decide) at_14 rfl fun T141 X142 => ?_
    refine w_bastoreZ X142 f140 (by decide) (i := 0) (by decide) (Nat.le_of_ble_eq_true rfl) gn135 at_17 rfl fun T143 h146 X144 W145 A147 => ?_
    obtain ⟨z148, hz148⟩ : ∃ z, z = (nar .boolean (f_bit p1 (0 : Int32))) := ⟨_, rfl⟩
    have f149 : AV Z h146 a133 .boolean [(.int z148), (.int (0 : Int32)), (.int (0 : Int32)), (.int (0 : Int32))] := (by subst hz148; exact A147)
    have k150 : Keep h0 h146 [] := k139.wr W145 (Or.inr g0138)
    refine w_dup X144 at_18 rfl rfl ?_
    refine w_iconst X144 at_19 (v := (1 : Int32)) rfl rfl ?_
    refine w_iloadN X144 at_20 rfl rfl ?_
    refine w_iconst X144 at_21 (v := (1 : Int32)) rfl rfl ?_
    refine w_staticVP X144 (rm1 l Z a0 hw p1 (1 : Int32) h146 n0 X144.size ) (hw _ (List.mem_of_getElem? (i := 2) rfl)) (hw _ (List.mem_of_getElem? (i := 3) rfl)) (hw _ (List.mem_of_getElem? (i := 4) rfl)) (hw _ (List.mem_of_getElem? (i := 5) rfl)) (by decide) (argsL := [(.int p1), (.int (1 : Int32))]) (rest := [(.int (1 : Int32)), (.ref a133), (.ref a133)]) rfl (lenOf pd_1 rfl) rfl (W := 3) rfl (by decide) (by decide) (by decide) (by decide) at_22 rfl fun T151 X152 => ?_
    refine w_bastoreZ X152 f149 (by decide) (i := 1) (by decide) (Nat.le_of_ble_eq_true rfl) gn135 at_25 rfl fun T153 h156 X154 W155 A157 => ?_
    obtain ⟨z158, hz158⟩ : ∃ z, z = (nar .boolean (f_bit p1 (1 : Int32))) := ⟨_, rfl⟩
    have f159 : AV Z h156 a133 .boolean [(.int z148), (.int z158), (.int (0 : Int32)), (.int (0 : Int32))] := (by subst hz158; exact A157)
    have k160 : Keep h0 h156 [] := k150.wr W155 (Or.inr g0138)
    refine w_dup X154 at_26 rfl rfl ?_
    refine w_iconst X154 at_27 (v := (2 : Int32)) rfl rfl ?_
    refine w_iloadN X154 at_28 rfl rfl ?_
    refine w_iconst X154 at_29 (v := (2 : Int32)) rfl rfl ?_
    refine w_staticVP X154 (rm1 l Z a0 hw p1 (2 : Int32) h156 n0 X154.size ) (hw _ (List.mem_of_getElem? (i := 2) rfl)) (hw _ (List.mem_of_getElem? (i := 3) rfl)) (hw _ (List.mem_of_getElem? (i := 4) rfl)) (hw _ (List.mem_of_getElem? (i := 5) rfl)) (by decide) (argsL := [(.int p1), (.int (2 : Int32))]) (rest := [(.int (2 : Int32)), (.ref a133), (.ref a133)]) rfl (lenOf pd_1 rfl) rfl (W := 3) rfl (by decide) (by decide) (by decide) (by decide) at_30 rfl fun T161 X162 => ?_
    refine w_bastoreZ X162 f159 (by decide) (i := 2) (by decide) (Nat.le_of_ble_eq_true rfl) gn135 at_33 rfl fun T163 h166 X164 W165 A167 => ?_
    obtain ⟨z168, hz168⟩ : ∃ z, z = (nar .boolean (f_bit p1 (2 : Int32))) := ⟨_, rfl⟩
    have f169 : AV Z h166 a133 .boolean [(.int z148), (.int z158), (.int z168), (.int (0 : Int32))] := (by subst hz168; exact A167)
    have k170 : Keep h0 h166 [] := k160.wr W165 (Or.inr g0138)
    refine w_dup X164 at_34 rfl rfl ?_
    refine w_iconst X164 at_35 (v := (3 : Int32)) rfl rfl ?_
    refine w_iloadN X164 at_36 rfl rfl ?_
    refine w_iconst X164 at_37 (v := (3 : Int32)) rfl rfl ?_
    refine w_staticVP X164 (rm1 l Z a0 hw p1 (3 : Int32) h166 n0 X164.size ) (hw _ (List.mem_of_getElem? (i := 2) rfl)) (hw _ (List.mem_of_getElem? (i := 3) rfl)) (hw _ (List.mem_of_getElem? (i := 4) rfl)) (hw _ (List.mem_of_getElem? (i := 5) rfl)) (by decide) (argsL := [(.int p1), (.int (3 : Int32))]) (rest := [(.int (3 : Int32)), (.ref a133), (.ref a133)]) rfl (lenOf pd_1 rfl) rfl (W := 3) rfl (by decide) (by decide) (by decide) (by decide) at_38 rfl fun T171 X172 => ?_
    refine w_bastoreZ X172 f169 (by decide) (i := 3) (by decide) (Nat.le_of_ble_eq_true rfl) gn135 at_41 rfl fun T173 h176 X174 W175 A177 => ?_
    obtain ⟨z178, hz178⟩ : ∃ z, z = (nar .boolean (f_bit p1 (3 : Int32))) := ⟨_, rfl⟩
    have f179 : AV Z h176 a133 .boolean [(.int z148), (.int z158), (.int z168), (.int z178)] := (by subst hz178; exact A177)
    have k180 : Keep h0 h176 [] := k170.wr W175 (Or.inr g0138)
    refine w_astore X174 at_42 rfl rfl (L' := #[.val (.int p1), .val (.int p2), .val (.int p3), .val (.int (1 : Int32)), .val (.ref a133), .unset, .unset, .unset, .unset, .unset]) rfl ?_
    refine w_iloadN X174 at_44 rfl rfl ?_
    refine w_newP X174 (hw _ (List.mem_of_getElem? (i := 1) rfl)) (by decide) (k := 1) (by decide) (cap := 1) (by decide) (by decide) (by decide) (by decide) at_45 rfl fun T181 h183 a184 X182 ga185 gn186 E187 A188 => ?_
    have ne189 : a133 ≠ a184 := by rw [ga185]; exact Nat.ne_of_lt f179.lt
    have g0190 : h0.size ≤ a184 := by rw [ga185]; exact k180.1
    have f191 : AV Z h183 a133 .boolean [(.int z148), (.int z158), (.int z168), (.int z178)] := f179.ext E187
    have k192 : Keep h0 h183 [] := k180.ext E187
    have f193 : AV Z h183 a184 .boolean [(.int (0 : Int32))] := A188
    refine w_astore X182 at_47 rfl rfl (L' := #[.val (.int p1), .val (.int p2), .val (.int p3), .val (.int (1 : Int32)), .val (.ref a133), .val (.ref a184), .unset, .unset, .unset, .unset]) rfl ?_
    refine w_iloadN X182 at_49 rfl rfl ?_
    refine w_if_le X182 at_50 (by decide) (pcT := 62) (pcF := 53) (by decide) rfl (fun c194 => absurd c194 (by decide)) (fun c194 => ?_)
    refine w_aload X182 at_53 rfl rfl rfl ?_
    refine w_iconst X182 at_55 (v := (0 : Int32)) rfl rfl ?_
    refine w_iloadN X182 at_56 rfl rfl ?_
    refine w_iconst X182 at_57 (v := (0 : Int32)) rfl rfl ?_
    refine w_staticVP X182 (rm1 l Z a0 hw p2 (0 : Int32) h183 n0 X182.size ) (hw _ (List.mem_of_getElem? (i := 2) rfl)) (hw _ (List.mem_of_getElem? (i := 3) rfl)) (hw _ (List.mem_of_getElem? (i := 4) rfl)) (hw _ (List.mem_of_getElem? (i := 5) rfl)) (by decide) (argsL := [(.int p2), (.int (0 : Int32))]) (rest := [(.int (0 : Int32)), (.ref a184)]) rfl (lenOf pd_1 rfl) rfl (W := 2) rfl (by decide) (by decide) (by decide) (by decide) at_58 rfl fun T195 X196 => ?_
    refine w_bastoreZ X196 f193 (by decide) (i := 0) (by decide) (Nat.le_of_ble_eq_true rfl) gn186 at_61 rfl fun T197 h200 X198 W199 A201 => ?_
    obtain ⟨z202, hz202⟩ : ∃ z, z = (nar .boolean (f_bit p2 (0 : Int32))) := ⟨_, rfl⟩
    have f203 : AV Z h200 a133 .boolean [(.int z148), (.int z158), (.int z168), (.int z178)] := f191.other W199 ne189
    have f204 : AV Z h200 a184 .boolean [(.int z202)] := (by subst hz202; exact A201)
    have k205 : Keep h0 h200 [] := k192.wr W199 (Or.inr g0190)
    refine w_iloadN X198 at_62 rfl rfl ?_
    refine w_iconst X198 at_63 (v := (1 : Int32)) rfl rfl ?_
    refine w_icmp_le X198 at_64 (by decide) (pcT := 76) (pcF := 67) (by decide) rfl (fun c206 => ?_) (fun c206 => absurd c206 (by decide))
    refine w_iloadN X198 at_76 rfl rfl ?_
    refine w_iconst X198 at_77 (v := (2 : Int32)) rfl rfl ?_
    refine w_icmp_le X198 at_78 (by decide) (pcT := 90) (pcF := 81) (by decide) rfl (fun c207 => ?_) (fun c207 => absurd c207 (by decide))
    refine w_iloadN X198 at_90 rfl rfl ?_
    refine w_iconst X198 at_91 (v := (3 : Int32)) rfl rfl ?_
    refine w_icmp_le X198 at_92 (by decide) (pcT := 104) (pcF := 95) (by decide) rfl (fun c208 => ?_) (fun c208 => absurd c208 (by decide))
    refine w_new X198 (hw _ (List.mem_of_getElem? (i := 6) rfl)) (hw _ (List.mem_of_getElem? (i := 7) rfl)) (hw _ (List.mem_of_getElem? (i := 8) rfl)) (by decide) (by decide) at_104 rfl fun T209 h211 a212 X210 ga213 gn214 E215 A216 D217 => ?_
    have ne218 : a133 ≠ a212 := by rw [ga213]; exact Nat.ne_of_lt f203.lt
    have ne219 : a184 ≠ a212 := by rw [ga213]; exact Nat.ne_of_lt f204.lt
    have g0220 : h0.size ≤ a212 := by rw [ga213]; exact k205.1
    have f221 : AV Z h211 a133 .boolean [(.int z148), (.int z158), (.int z168), (.int z178)] := f203.ext E215
    have f222 : AV Z h211 a184 .boolean [(.int z202)] := f204.ext E215
    have k223 : Keep h0 h211 [] := k205.ext E215
    have f224 : Fld Z h211 a212 "com/example/credence/credence/core/GroupFounding$Kernel" "contains" "[Z" .null := D217 (Or.inr (hw _ (List.mem_of_getElem? (i := 22) rfl))) (ty := (.array .boolean)) (by decide)
    have f225 : Fld Z h211 a212 "com/example/credence/credence/core/GroupFounding$Kernel" "support" "[I" .null := D217 (Or.inr (hw _ (List.mem_of_getElem? (i := 24) rfl))) (ty := (.array .int)) (by decide)
    refine w_dup X210 at_107 rfl rfl ?_
    refine w_aload X210 at_108 rfl rfl rfl ?_
    refine w_iconst X210 at_110 (v := (4 : Int32)) rfl rfl ?_
    refine w_newP X210 (hw _ (List.mem_of_getElem? (i := 9) rfl)) (by decide) (k := 4) (by decide) (cap := 4) (by decide) (by decide) (by decide) (by decide) at_111 rfl fun T226 h228 a229 X227 ga230 gn231 E232 A233 => ?_
    have ne234 : a133 ≠ a229 := by rw [ga230]; exact Nat.ne_of_lt f221.lt
    have ne235 : a184 ≠ a229 := by rw [ga230]; exact Nat.ne_of_lt f222.lt
    have ne236 : a212 ≠ a229 := by rw [ga230]; exact Nat.ne_of_lt A216.lt
    have g0237 : h0.size ≤ a229 := by rw [ga230]; exact k223.1
    have f238 : AV Z h228 a133 .boolean [(.int z148), (.int z158), (.int z168), (.int z178)] := f221.ext E232
    have f239 : AV Z h228 a184 .boolean [(.int z202)] := f222.ext E232
    have f240 : Exa Z h228 a212 "com/example/credence/credence/core/GroupFounding$Kernel" := Exa.ext E232 A216
    have f241 : Fld Z h228 a212 "com/example/credence/credence/core/GroupFounding$Kernel" "contains" "[Z" .null := Fld.ext E232 f224
    have f242 : Fld Z h228 a212 "com/example/credence/credence/core/GroupFounding$Kernel" "support" "[I" .null := Fld.ext E232 f225
    have k243 : Keep h0 h228 [] := k223.ext E232
    have f244 : AV Z h228 a229 .int [(.int (0 : Int32)), (.int (0 : Int32)), (.int (0 : Int32)), (.int (0 : Int32))] := A233
    refine w_special0 X227 (rm2 l Z a0 hw a212 a133 a229 h228 n0 X227.size f240 f241 f242 gn214) rfl (hw _ (List.mem_of_getElem? (i := 10) rfl)) (hw _ (List.mem_of_getElem? (i := 11) rfl)) (hw _ (List.mem_of_getElem? (i := 8) rfl)) (hw _ (List.mem_of_getElem? (i := 12) rfl)) (by decide) (argsL := [(.ref a133), (.ref a229)]) (rest := [(.ref a212)]) rfl (lenOf pd_2 rfl) rfl (W := 1) rfl (by decide) (by decide) (by decide) (by decide) at_113 rfl fun T245 h246 X247 q248 => ?_
    obtain ⟨K249, E250, f251, f252⟩ := q248
    have f253 : AV Z h246 a133 .boolean [(.int z148), (.int z158), (.int z168), (.int z178)] := f238.keep K249 (ninS ne218 nin0)
    have f254 : AV Z h246 a184 .boolean [(.int z202)] := f239.keep K249 (ninS ne219 nin0)
    have f255 : Exa Z h246 a212 "com/example/credence/credence/core/GroupFounding$Kernel" := f240.keep K249
    have f256 : AV Z h246 a229 .int [(.int (0 : Int32)), (.int (0 : Int32)), (.int (0 : Int32)), (.int (0 : Int32))] := f244.keep K249 (ninS (Ne.symm ne236) nin0)
    have k257 : Keep h0 h246 [] := k243.trans K249 (allS (Or.inr g0220) all0)
    refine w_astore X247 at_116 rfl rfl (L' := #[.val (.int p1), .val (.int p2), .val (.int p3), .val (.int (1 : Int32)), .val (.ref a133), .val (.ref a184), .val (.ref a212), .unset, .unset, .unset]) rfl ?_
    refine w_aload X247 at_118 rfl rfl rfl ?_
    refine w_aload X247 at_120 rfl rfl rfl ?_
    refine w_virtualVP X247 (rm5 l Z a0 hw a212 a184 a133 [z202] [z148, z158, z168, z178] h246 n0 X247.size f251 f254 f253 (Nat.le_of_ble_eq_true rfl) rfl) f255 (hw _ (List.mem_of_getElem? (i := 25) rfl)) (hw _ (List.mem_of_getElem? (i := 26) rfl)) (hw _ (List.mem_of_getElem? (i := 28) rfl)) (hw _ (List.mem_of_getElem? (i := 27) rfl)) (hw _ (List.mem_of_getElem? (i := 8) rfl)) (hw _ (List.mem_of_getElem? (i := 29) rfl)) (by decide) (argsL := [(.ref a184)]) (rest := []) rfl (lenOf pd_3 rfl) rfl (W := 0) rfl (by decide) (by decide) (by decide) (by decide) at_122 rfl fun T258 X259 => ?_
    generalize hz260 : (f_all [z202] [z148, z158, z168, z178] 5 0) = z260
    refine w_istore X259 at_125 rfl (L' := #[.val (.int p1), .val (.int p2), .val (.int p3), .val (.int (1 : Int32)), .val (.ref a133), .val (.ref a184), .val (.ref a212), .val (.int z260), .unset, .unset]) rfl ?_
    refine w_iconst X259 at_127 (v := (1 : Int32)) rfl rfl ?_
    refine w_iloadN X259 at_128 rfl rfl ?_
    refine w_ishl X259 at_129 rfl ?_
    refine w_iconst X259 at_130 (v := (1 : Int32)) rfl rfl ?_
    refine w_isub X259 at_131 rfl ?_
    generalize hz261 : (((1 : Int32) <<< ((1 : Int32) &&& 31)) - (1 : Int32)) = z261
    refine w_istore X259 at_132 rfl (L' := #[.val (.int p1), .val (.int p2), .val (.int p3), .val (.int (1 : Int32)), .val (.ref a133), .val (.ref a184), .val (.ref a212), .val (.int z260), .val (.int z261), .unset]) rfl ?_
    refine w_iloadN X259 at_134 rfl rfl ?_
    refine w_iloadN X259 at_135 rfl rfl ?_
    refine w_iconst X259 at_136 (v := (-1 : Int32)) rfl rfl ?_
    refine w_ixor X259 at_137 rfl ?_
    refine w_iand X259 at_138 rfl ?_
    refine w_iload X259 at_139 rfl rfl ?_
    refine w_iand X259 at_141 rfl ?_
    suffices j265 : ∀ (T263 : State) (z262 : Int32), (Wk p l e room_1 s m #[(.int p1), (.int p2), (.int p3)] below meth c Z n0 x code maxLocals ret T263 4 11 h246) → (z262 = (if ((p2 &&& (p1 ^^^ (-1 : Int32))) &&& z261) = 0 then (1 : Int32) else (0 : Int32))) → Goes p e below (Done below s n0 room_1 (some (.int 1)) (fun _ => True)) T263 m 150 #[.val (.int p1), .val (.int p2), .val (.int p3), .val (.int (1 : Int32)), .val (.ref a133), .val (.ref a184), .val (.ref a212), .val (.int z260), .val (.int z261), .unset] [(.int z262)] by
      refine w_if_ne X259 at_142 (by decide) (pcT := 149) (pcF := 145) (by decide) rfl (fun c266 => ?_) (fun c266 => ?_)
      · refine w_iconst X259 at_149 (v := (0 : Int32)) rfl rfl ?_
        exact j265 _ _ X259 (by rw [if_neg c266])
      · refine w_iconst X259 at_145 (v := (1 : Int32)) rfl rfl ?_
        refine w_goto X259 at_146 (by decide) (pc' := 150) (by decide) ?_
        exact j265 _ _ X259 (by rw [if_pos c266])
    intro T263 z262 X264 hz262
    refine w_istore X264 at_150 rfl (L' := #[.val (.int p1), .val (.int p2), .val (.int p3), .val (.int (1 : Int32)), .val (.ref a133), .val (.ref a184), .val (.ref a212), .val (.int z260), .val (.int z261), .val (.int z262)]) rfl ?_
    refine w_iload X264 at_152 rfl rfl ?_
    refine w_iload X264 at_154 rfl rfl ?_
    refine w_icmp_ne X264 at_156 (by decide) (pcT := 163) (pcF := 159) (by decide) rfl (fun c267 => ?_) (fun c267 => ?_)
    · refine w_iconst X264 at_163 (v := (0 : Int32)) rfl rfl ?_
      exact False.elim (c267 (by subst hz262 hz261 hz260 hz202 hz178 hz168 hz158 hz148; exact own_law1 _ _))
    · refine w_iconst X264 at_159 (v := (1 : Int32)) rfl rfl ?_
      refine w_goto X264 at_160 (by decide) (pc' := 164) (by decide) ?_
      exact w_nreturn X264 (t := .boolean) (by simp) at_164 rfl trivial (by decide) (by decide)
  · subst q2
    refine w_iconst X0 at_7 (v := (4 : Int32)) rfl rfl ?_
    refine w_newP X0 (hw _ (List.mem_of_getElem? (i := 1) rfl)) (by decide) (k := 4) (by decide) (cap := 4) (by decide) (by decide) (by decide) (by decide) at_8 rfl fun T268 h270 a271 X269 ga272 gn273 E274 A275 => ?_
    have g0276 : h0.size ≤ a271 := by rw [ga272]; exact (Keep.refl h0 []).1
    have k277 : Keep h0 h270 [] := (Keep.refl h0 []).ext E274
    have f278 : AV Z h270 a271 .boolean [(.int (0 : Int32)), (.int (0 : Int32)), (.int (0 : Int32)), (.int (0 : Int32))] := A275
    refine w_dup X269 at_10 rfl rfl ?_
    refine w_iconst X269 at_11 (v := (0 : Int32)) rfl rfl ?_
    refine w_iloadN X269 at_12 rfl rfl ?_
    refine w_iconst X269 at_13 (v := (0 : Int32)) rfl rfl ?_
    refine w_staticVP X269 (rm1 l Z a0 hw p1 (0 : Int32) h270 n0 X269.size ) (hw _ (List.mem_of_getElem? (i := 2) rfl)) (hw _ (List.mem_of_getElem? (i := 3) rfl)) (hw _ (List.mem_of_getElem? (i := 4) rfl)) (hw _ (List.mem_of_getElem? (i := 5) rfl)) (by decide) (argsL := [(.int p1), (.int (0 : Int32))]) (rest := [(.int (0 : Int32)), (.ref a271), (.ref a271)]) rfl (lenOf pd_1 rfl) rfl (W := 3) rfl (by decide) (by decide) (by decide) (by decide) at_14 rfl fun T279 X280 => ?_
    refine w_bastoreZ X280 f278 (by decide) (i := 0) (by decide) (Nat.le_of_ble_eq_true rfl) gn273 at_17 rfl fun T281 h284 X282 W283 A285 => ?_
    obtain ⟨z286, hz286⟩ : ∃ z, z = (nar .boolean (f_bit p1 (0 : Int32))) := ⟨_, rfl⟩
    have f287 : AV Z h284 a271 .boolean [(.int z286), (.int (0 : Int32)), (.int (0 : Int32)), (.int (0 : Int32))] := (by subst hz286; exact A285)
    have k288 : Keep h0 h284 [] := k277.wr W283 (Or.inr g0276)
    refine w_dup X282 at_18 rfl rfl ?_
    refine w_iconst X282 at_19 (v := (1 : Int32)) rfl rfl ?_
    refine w_iloadN X282 at_20 rfl rfl ?_
    refine w_iconst X282 at_21 (v := (1 : Int32)) rfl rfl ?_
    refine w_staticVP X282 (rm1 l Z a0 hw p1 (1 : Int32) h284 n0 X282.size ) (hw _ (List.mem_of_getElem? (i := 2) rfl)) (hw _ (List.mem_of_getElem? (i := 3) rfl)) (hw _ (List.mem_of_getElem? (i := 4) rfl)) (hw _ (List.mem_of_getElem? (i := 5) rfl)) (by decide) (argsL := [(.int p1), (.int (1 : Int32))]) (rest := [(.int (1 : Int32)), (.ref a271), (.ref a271)]) rfl (lenOf pd_1 rfl) rfl (W := 3) rfl (by decide) (by decide) (by decide) (by decide) at_22 rfl fun T289 X290 => ?_
    refine w_bastoreZ X290 f287 (by decide) (i := 1) (by decide) (Nat.le_of_ble_eq_true rfl) gn273 at_25 rfl fun T291 h294 X292 W293 A295 => ?_
    obtain ⟨z296, hz296⟩ : ∃ z, z = (nar .boolean (f_bit p1 (1 : Int32))) := ⟨_, rfl⟩
    have f297 : AV Z h294 a271 .boolean [(.int z286), (.int z296), (.int (0 : Int32)), (.int (0 : Int32))] := (by subst hz296; exact A295)
    have k298 : Keep h0 h294 [] := k288.wr W293 (Or.inr g0276)
    refine w_dup X292 at_26 rfl rfl ?_
    refine w_iconst X292 at_27 (v := (2 : Int32)) rfl rfl ?_
    refine w_iloadN X292 at_28 rfl rfl ?_
    refine w_iconst X292 at_29 (v := (2 : Int32)) rfl rfl ?_
    refine w_staticVP X292 (rm1 l Z a0 hw p1 (2 : Int32) h294 n0 X292.size ) (hw _ (List.mem_of_getElem? (i := 2) rfl)) (hw _ (List.mem_of_getElem? (i := 3) rfl)) (hw _ (List.mem_of_getElem? (i := 4) rfl)) (hw _ (List.mem_of_getElem? (i := 5) rfl)) (by decide) (argsL := [(.int p1), (.int (2 : Int32))]) (rest := [(.int (2 : Int32)), (.ref a271), (.ref a271)]) rfl (lenOf pd_1 rfl) rfl (W := 3) rfl (by decide) (by decide) (by decide) (by decide) at_30 rfl fun T299 X300 => ?_
    refine w_bastoreZ X300 f297 (by decide) (i := 2) (by decide) (Nat.le_of_ble_eq_true rfl) gn273 at_33 rfl fun T301 h304 X302 W303 A305 => ?_
    obtain ⟨z306, hz306⟩ : ∃ z, z = (nar .boolean (f_bit p1 (2 : Int32))) := ⟨_, rfl⟩
    have f307 : AV Z h304 a271 .boolean [(.int z286), (.int z296), (.int z306), (.int (0 : Int32))] := (by subst hz306; exact A305)
    have k308 : Keep h0 h304 [] := k298.wr W303 (Or.inr g0276)
    refine w_dup X302 at_34 rfl rfl ?_
    refine w_iconst X302 at_35 (v := (3 : Int32)) rfl rfl ?_
    refine w_iloadN X302 at_36 rfl rfl ?_
    refine w_iconst X302 at_37 (v := (3 : Int32)) rfl rfl ?_
    refine w_staticVP X302 (rm1 l Z a0 hw p1 (3 : Int32) h304 n0 X302.size ) (hw _ (List.mem_of_getElem? (i := 2) rfl)) (hw _ (List.mem_of_getElem? (i := 3) rfl)) (hw _ (List.mem_of_getElem? (i := 4) rfl)) (hw _ (List.mem_of_getElem? (i := 5) rfl)) (by decide) (argsL := [(.int p1), (.int (3 : Int32))]) (rest := [(.int (3 : Int32)), (.ref a271), (.ref a271)]) rfl (lenOf pd_1 rfl) rfl (W := 3) rfl (by decide) (by decide) (by decide) (by decide) at_38 rfl fun T309 X310 => ?_
    refine w_bastoreZ X310 f307 (by decide) (i := 3) (by decide) (Nat.le_of_ble_eq_true rfl) gn273 at_41 rfl fun T311 h314 X312 W313 A315 => ?_
    obtain ⟨z316, hz316⟩ : ∃ z, z = (nar .boolean (f_bit p1 (3 : Int32))) := ⟨_, rfl⟩
    have f317 : AV Z h314 a271 .boolean [(.int z286), (.int z296), (.int z306), (.int z316)] := (by subst hz316; exact A315)
    have k318 : Keep h0 h314 [] := k308.wr W313 (Or.inr g0276)
    refine w_astore X312 at_42 rfl rfl (L' := #[.val (.int p1), .val (.int p2), .val (.int p3), .val (.int (2 : Int32)), .val (.ref a271), .unset, .unset, .unset, .unset, .unset]) rfl ?_
    refine w_iloadN X312 at_44 rfl rfl ?_
    refine w_newP X312 (hw _ (List.mem_of_getElem? (i := 1) rfl)) (by decide) (k := 2) (by decide) (cap := 2) (by decide) (by decide) (by decide) (by decide) at_45 rfl fun T319 h321 a322 X320 ga323 gn324 E325 A326 => ?_
    have ne327 : a271 ≠ a322 := by rw [ga323]; exact Nat.ne_of_lt f317.lt
    have g0328 : h0.size ≤ a322 := by rw [ga323]; exact k318.1
    have f329 : AV Z h321 a271 .boolean [(.int z286), (.int z296), (.int z306), (.int z316)] := f317.ext E325
    have k330 : Keep h0 h321 [] := k318.ext E325
    have f331 : AV Z h321 a322 .boolean [(.int (0 : Int32)), (.int (0 : Int32))] := A326
    refine w_astore X320 at_47 rfl rfl (L' := #[.val (.int p1), .val (.int p2), .val (.int p3), .val (.int (2 : Int32)), .val (.ref a271), .val (.ref a322), .unset, .unset, .unset, .unset]) rfl ?_
    refine w_iloadN X320 at_49 rfl rfl ?_
    refine w_if_le X320 at_50 (by decide) (pcT := 62) (pcF := 53) (by decide) rfl (fun c332 => absurd c332 (by decide)) (fun c332 => ?_)
    refine w_aload X320 at_53 rfl rfl rfl ?_
    refine w_iconst X320 at_55 (v := (0 : Int32)) rfl rfl ?_
    refine w_iloadN X320 at_56 rfl rfl ?_
    refine w_iconst X320 at_57 (v := (0 : Int32)) rfl rfl ?_
    refine w_staticVP X320 (rm1 l Z a0 hw p2 (0 : Int32) h321 n0 X320.size ) (hw _ (List.mem_of_getElem? (i := 2) rfl)) (hw _ (List.mem_of_getElem? (i := 3) rfl)) (hw _ (List.mem_of_getElem? (i := 4) rfl)) (hw _ (List.mem_of_getElem? (i := 5) rfl)) (by decide) (argsL := [(.int p2), (.int (0 : Int32))]) (rest := [(.int (0 : Int32)), (.ref a322)]) rfl (lenOf pd_1 rfl) rfl (W := 2) rfl (by decide) (by decide) (by decide) (by decide) at_58 rfl fun T333 X334 => ?_
    refine w_bastoreZ X334 f331 (by decide) (i := 0) (by decide) (Nat.le_of_ble_eq_true rfl) gn324 at_61 rfl fun T335 h338 X336 W337 A339 => ?_
    obtain ⟨z340, hz340⟩ : ∃ z, z = (nar .boolean (f_bit p2 (0 : Int32))) := ⟨_, rfl⟩
    have f341 : AV Z h338 a271 .boolean [(.int z286), (.int z296), (.int z306), (.int z316)] := f329.other W337 ne327
    have f342 : AV Z h338 a322 .boolean [(.int z340), (.int (0 : Int32))] := (by subst hz340; exact A339)
    have k343 : Keep h0 h338 [] := k330.wr W337 (Or.inr g0328)
    refine w_iloadN X336 at_62 rfl rfl ?_
    refine w_iconst X336 at_63 (v := (1 : Int32)) rfl rfl ?_
    refine w_icmp_le X336 at_64 (by decide) (pcT := 76) (pcF := 67) (by decide) rfl (fun c344 => absurd c344 (by decide)) (fun c344 => ?_)
    refine w_aload X336 at_67 rfl rfl rfl ?_
    refine w_iconst X336 at_69 (v := (1 : Int32)) rfl rfl ?_
    refine w_iloadN X336 at_70 rfl rfl ?_
    refine w_iconst X336 at_71 (v := (1 : Int32)) rfl rfl ?_
    refine w_staticVP X336 (rm1 l Z a0 hw p2 (1 : Int32) h338 n0 X336.size ) (hw _ (List.mem_of_getElem? (i := 2) rfl)) (hw _ (List.mem_of_getElem? (i := 3) rfl)) (hw _ (List.mem_of_getElem? (i := 4) rfl)) (hw _ (List.mem_of_getElem? (i := 5) rfl)) (by decide) (argsL := [(.int p2), (.int (1 : Int32))]) (rest := [(.int (1 : Int32)), (.ref a322)]) rfl (lenOf pd_1 rfl) rfl (W := 2) rfl (by decide) (by decide) (by decide) (by decide) at_72 rfl fun T345 X346 => ?_
    refine w_bastoreZ X346 f342 (by decide) (i := 1) (by decide) (Nat.le_of_ble_eq_true rfl) gn324 at_75 rfl fun T347 h350 X348 W349 A351 => ?_
    obtain ⟨z352, hz352⟩ : ∃ z, z = (nar .boolean (f_bit p2 (1 : Int32))) := ⟨_, rfl⟩
    have f353 : AV Z h350 a271 .boolean [(.int z286), (.int z296), (.int z306), (.int z316)] := f341.other W349 ne327
    have f354 : AV Z h350 a322 .boolean [(.int z340), (.int z352)] := (by subst hz352; exact A351)
    have k355 : Keep h0 h350 [] := k343.wr W349 (Or.inr g0328)
    refine w_iloadN X348 at_76 rfl rfl ?_
    refine w_iconst X348 at_77 (v := (2 : Int32)) rfl rfl ?_
    refine w_icmp_le X348 at_78 (by decide) (pcT := 90) (pcF := 81) (by decide) rfl (fun c356 => ?_) (fun c356 => absurd c356 (by decide))
    refine w_iloadN X348 at_90 rfl rfl ?_
    refine w_iconst X348 at_91 (v := (3 : Int32)) rfl rfl ?_
    refine w_icmp_le X348 at_92 (by decide) (pcT := 104) (pcF := 95) (by decide) rfl (fun c357 => ?_) (fun c357 => absurd c357 (by decide))
    refine w_new X348 (hw _ (List.mem_of_getElem? (i := 6) rfl)) (hw _ (List.mem_of_getElem? (i := 7) rfl)) (hw _ (List.mem_of_getElem? (i := 8) rfl)) (by decide) (by decide) at_104 rfl fun T358 h360 a361 X359 ga362 gn363 E364 A365 D366 => ?_
    have ne367 : a271 ≠ a361 := by rw [ga362]; exact Nat.ne_of_lt f353.lt
    have ne368 : a322 ≠ a361 := by rw [ga362]; exact Nat.ne_of_lt f354.lt
    have g0369 : h0.size ≤ a361 := by rw [ga362]; exact k355.1
    have f370 : AV Z h360 a271 .boolean [(.int z286), (.int z296), (.int z306), (.int z316)] := f353.ext E364
    have f371 : AV Z h360 a322 .boolean [(.int z340), (.int z352)] := f354.ext E364
    have k372 : Keep h0 h360 [] := k355.ext E364
    have f373 : Fld Z h360 a361 "com/example/credence/credence/core/GroupFounding$Kernel" "contains" "[Z" .null := D366 (Or.inr (hw _ (List.mem_of_getElem? (i := 22) rfl))) (ty := (.array .boolean)) (by decide)
    have f374 : Fld Z h360 a361 "com/example/credence/credence/core/GroupFounding$Kernel" "support" "[I" .null := D366 (Or.inr (hw _ (List.mem_of_getElem? (i := 24) rfl))) (ty := (.array .int)) (by decide)
    refine w_dup X359 at_107 rfl rfl ?_
    refine w_aload X359 at_108 rfl rfl rfl ?_
    refine w_iconst X359 at_110 (v := (4 : Int32)) rfl rfl ?_
    refine w_newP X359 (hw _ (List.mem_of_getElem? (i := 9) rfl)) (by decide) (k := 4) (by decide) (cap := 4) (by decide) (by decide) (by decide) (by decide) at_111 rfl fun T375 h377 a378 X376 ga379 gn380 E381 A382 => ?_
    have ne383 : a271 ≠ a378 := by rw [ga379]; exact Nat.ne_of_lt f370.lt
    have ne384 : a322 ≠ a378 := by rw [ga379]; exact Nat.ne_of_lt f371.lt
    have ne385 : a361 ≠ a378 := by rw [ga379]; exact Nat.ne_of_lt A365.lt
    have g0386 : h0.size ≤ a378 := by rw [ga379]; exact k372.1
    have f387 : AV Z h377 a271 .boolean [(.int z286), (.int z296), (.int z306), (.int z316)] := f370.ext E381
    have f388 : AV Z h377 a322 .boolean [(.int z340), (.int z352)] := f371.ext E381
    have f389 : Exa Z h377 a361 "com/example/credence/credence/core/GroupFounding$Kernel" := Exa.ext E381 A365
    have f390 : Fld Z h377 a361 "com/example/credence/credence/core/GroupFounding$Kernel" "contains" "[Z" .null := Fld.ext E381 f373
    have f391 : Fld Z h377 a361 "com/example/credence/credence/core/GroupFounding$Kernel" "support" "[I" .null := Fld.ext E381 f374
    have k392 : Keep h0 h377 [] := k372.ext E381
    have f393 : AV Z h377 a378 .int [(.int (0 : Int32)), (.int (0 : Int32)), (.int (0 : Int32)), (.int (0 : Int32))] := A382
    refine w_special0 X376 (rm2 l Z a0 hw a361 a271 a378 h377 n0 X376.size f389 f390 f391 gn363) rfl (hw _ (List.mem_of_getElem? (i := 10) rfl)) (hw _ (List.mem_of_getElem? (i := 11) rfl)) (hw _ (List.mem_of_getElem? (i := 8) rfl)) (hw _ (List.mem_of_getElem? (i := 12) rfl)) (by decide) (argsL := [(.ref a271), (.ref a378)]) (rest := [(.ref a361)]) rfl (lenOf pd_2 rfl) rfl (W := 1) rfl (by decide) (by decide) (by decide) (by decide) at_113 rfl fun T394 h395 X396 q397 => ?_
    obtain ⟨K398, E399, f400, f401⟩ := q397
    have f402 : AV Z h395 a271 .boolean [(.int z286), (.int z296), (.int z306), (.int z316)] := f387.keep K398 (ninS ne367 nin0)
    have f403 : AV Z h395 a322 .boolean [(.int z340), (.int z352)] := f388.keep K398 (ninS ne368 nin0)
    have f404 : Exa Z h395 a361 "com/example/credence/credence/core/GroupFounding$Kernel" := f389.keep K398
    have f405 : AV Z h395 a378 .int [(.int (0 : Int32)), (.int (0 : Int32)), (.int (0 : Int32)), (.int (0 : Int32))] := f393.keep K398 (ninS (Ne.symm ne385) nin0)
    have k406 : Keep h0 h395 [] := k392.trans K398 (allS (Or.inr g0369) all0)
    refine w_astore X396 at_116 rfl rfl (L' := #[.val (.int p1), .val (.int p2), .val (.int p3), .val (.int (2 : Int32)), .val (.ref a271), .val (.ref a322), .val (.ref a361), .unset, .unset, .unset]) rfl ?_
    refine w_aload X396 at_118 rfl rfl rfl ?_
    refine w_aload X396 at_120 rfl rfl rfl ?_
    refine w_virtualVP X396 (rm5 l Z a0 hw a361 a322 a271 [z340, z352] [z286, z296, z306, z316] h395 n0 X396.size f400 f403 f402 (Nat.le_of_ble_eq_true rfl) rfl) f404 (hw _ (List.mem_of_getElem? (i := 25) rfl)) (hw _ (List.mem_of_getElem? (i := 26) rfl)) (hw _ (List.mem_of_getElem? (i := 28) rfl)) (hw _ (List.mem_of_getElem? (i := 27) rfl)) (hw _ (List.mem_of_getElem? (i := 8) rfl)) (hw _ (List.mem_of_getElem? (i := 29) rfl)) (by decide) (argsL := [(.ref a322)]) (rest := []) rfl (lenOf pd_3 rfl) rfl (W := 0) rfl (by decide) (by decide) (by decide) (by decide) at_122 rfl fun T407 X408 => ?_
    generalize hz409 : (f_all [z340, z352] [z286, z296, z306, z316] 5 0) = z409
    refine w_istore X408 at_125 rfl (L' := #[.val (.int p1), .val (.int p2), .val (.int p3), .val (.int (2 : Int32)), .val (.ref a271), .val (.ref a322), .val (.ref a361), .val (.int z409), .unset, .unset]) rfl ?_
    refine w_iconst X408 at_127 (v := (1 : Int32)) rfl rfl ?_
    refine w_iloadN X408 at_128 rfl rfl ?_
    refine w_ishl X408 at_129 rfl ?_
    refine w_iconst X408 at_130 (v := (1 : Int32)) rfl rfl ?_
    refine w_isub X408 at_131 rfl ?_
    generalize hz410 : (((1 : Int32) <<< ((2 : Int32) &&& 31)) - (1 : Int32)) = z410
    refine w_istore X408 at_132 rfl (L' := #[.val (.int p1), .val (.int p2), .val (.int p3), .val (.int (2 : Int32)), .val (.ref a271), .val (.ref a322), .val (.ref a361), .val (.int z409), .val (.int z410), .unset]) rfl ?_
    refine w_iloadN X408 at_134 rfl rfl ?_
    refine w_iloadN X408 at_135 rfl rfl ?_
    refine w_iconst X408 at_136 (v := (-1 : Int32)) rfl rfl ?_
    refine w_ixor X408 at_137 rfl ?_
    refine w_iand X408 at_138 rfl ?_
    refine w_iload X408 at_139 rfl rfl ?_
    refine w_iand X408 at_141 rfl ?_
    suffices j414 : ∀ (T412 : State) (z411 : Int32), (Wk p l e room_1 s m #[(.int p1), (.int p2), (.int p3)] below meth c Z n0 x code maxLocals ret T412 4 12 h395) → (z411 = (if ((p2 &&& (p1 ^^^ (-1 : Int32))) &&& z410) = 0 then (1 : Int32) else (0 : Int32))) → Goes p e below (Done below s n0 room_1 (some (.int 1)) (fun _ => True)) T412 m 150 #[.val (.int p1), .val (.int p2), .val (.int p3), .val (.int (2 : Int32)), .val (.ref a271), .val (.ref a322), .val (.ref a361), .val (.int z409), .val (.int z410), .unset] [(.int z411)] by
      refine w_if_ne X408 at_142 (by decide) (pcT := 149) (pcF := 145) (by decide) rfl (fun c415 => ?_) (fun c415 => ?_)
      · refine w_iconst X408 at_149 (v := (0 : Int32)) rfl rfl ?_
        exact j414 _ _ X408 (by rw [if_neg c415])
      · refine w_iconst X408 at_145 (v := (1 : Int32)) rfl rfl ?_
        refine w_goto X408 at_146 (by decide) (pc' := 150) (by decide) ?_
        exact j414 _ _ X408 (by rw [if_pos c415])
    intro T412 z411 X413 hz411
    refine w_istore X413 at_150 rfl (L' := #[.val (.int p1), .val (.int p2), .val (.int p3), .val (.int (2 : Int32)), .val (.ref a271), .val (.ref a322), .val (.ref a361), .val (.int z409), .val (.int z410), .val (.int z411)]) rfl ?_
    refine w_iload X413 at_152 rfl rfl ?_
    refine w_iload X413 at_154 rfl rfl ?_
    refine w_icmp_ne X413 at_156 (by decide) (pcT := 163) (pcF := 159) (by decide) rfl (fun c416 => ?_) (fun c416 => ?_)
    · refine w_iconst X413 at_163 (v := (0 : Int32)) rfl rfl ?_
      exact False.elim (c416 (by subst hz411 hz410 hz409 hz352 hz340 hz316 hz306 hz296 hz286; exact own_law2 _ _))
    · refine w_iconst X413 at_159 (v := (1 : Int32)) rfl rfl ?_
      refine w_goto X413 at_160 (by decide) (pc' := 164) (by decide) ?_
      exact w_nreturn X413 (t := .boolean) (by simp) at_164 rfl trivial (by decide) (by decide)
  · subst q2
    refine w_iconst X0 at_7 (v := (4 : Int32)) rfl rfl ?_
    refine w_newP X0 (hw _ (List.mem_of_getElem? (i := 1) rfl)) (by decide) (k := 4) (by decide) (cap := 4) (by decide) (by decide) (by decide) (by decide) at_8 rfl fun T417 h419 a420 X418 ga421 gn422 E423 A424 => ?_
    have g0425 : h0.size ≤ a420 := by rw [ga421]; exact (Keep.refl h0 []).1
    have k426 : Keep h0 h419 [] := (Keep.refl h0 []).ext E423
    have f427 : AV Z h419 a420 .boolean [(.int (0 : Int32)), (.int (0 : Int32)), (.int (0 : Int32)), (.int (0 : Int32))] := A424
    refine w_dup X418 at_10 rfl rfl ?_
    refine w_iconst X418 at_11 (v := (0 : Int32)) rfl rfl ?_
    refine w_iloadN X418 at_12 rfl rfl ?_
    refine w_iconst X418 at_13 (v := (0 : Int32)) rfl rfl ?_
    refine w_staticVP X418 (rm1 l Z a0 hw p1 (0 : Int32) h419 n0 X418.size ) (hw _ (List.mem_of_getElem? (i := 2) rfl)) (hw _ (List.mem_of_getElem? (i := 3) rfl)) (hw _ (List.mem_of_getElem? (i := 4) rfl)) (hw _ (List.mem_of_getElem? (i := 5) rfl)) (by decide) (argsL := [(.int p1), (.int (0 : Int32))]) (rest := [(.int (0 : Int32)), (.ref a420), (.ref a420)]) rfl (lenOf pd_1 rfl) rfl (W := 3) rfl (by decide) (by decide) (by decide) (by decide) at_14 rfl fun T428 X429 => ?_
    refine w_bastoreZ X429 f427 (by decide) (i := 0) (by decide) (Nat.le_of_ble_eq_true rfl) gn422 at_17 rfl fun T430 h433 X431 W432 A434 => ?_
    obtain ⟨z435, hz435⟩ : ∃ z, z = (nar .boolean (f_bit p1 (0 : Int32))) := ⟨_, rfl⟩
    have f436 : AV Z h433 a420 .boolean [(.int z435), (.int (0 : Int32)), (.int (0 : Int32)), (.int (0 : Int32))] := (by subst hz435; exact A434)
    have k437 : Keep h0 h433 [] := k426.wr W432 (Or.inr g0425)
    refine w_dup X431 at_18 rfl rfl ?_
    refine w_iconst X431 at_19 (v := (1 : Int32)) rfl rfl ?_
    refine w_iloadN X431 at_20 rfl rfl ?_
    refine w_iconst X431 at_21 (v := (1 : Int32)) rfl rfl ?_
    refine w_staticVP X431 (rm1 l Z a0 hw p1 (1 : Int32) h433 n0 X431.size ) (hw _ (List.mem_of_getElem? (i := 2) rfl)) (hw _ (List.mem_of_getElem? (i := 3) rfl)) (hw _ (List.mem_of_getElem? (i := 4) rfl)) (hw _ (List.mem_of_getElem? (i := 5) rfl)) (by decide) (argsL := [(.int p1), (.int (1 : Int32))]) (rest := [(.int (1 : Int32)), (.ref a420), (.ref a420)]) rfl (lenOf pd_1 rfl) rfl (W := 3) rfl (by decide) (by decide) (by decide) (by decide) at_22 rfl fun T438 X439 => ?_
    refine w_bastoreZ X439 f436 (by decide) (i := 1) (by decide) (Nat.le_of_ble_eq_true rfl) gn422 at_25 rfl fun T440 h443 X441 W442 A444 => ?_
    obtain ⟨z445, hz445⟩ : ∃ z, z = (nar .boolean (f_bit p1 (1 : Int32))) := ⟨_, rfl⟩
    have f446 : AV Z h443 a420 .boolean [(.int z435), (.int z445), (.int (0 : Int32)), (.int (0 : Int32))] := (by subst hz445; exact A444)
    have k447 : Keep h0 h443 [] := k437.wr W442 (Or.inr g0425)
    refine w_dup X441 at_26 rfl rfl ?_
    refine w_iconst X441 at_27 (v := (2 : Int32)) rfl rfl ?_
    refine w_iloadN X441 at_28 rfl rfl ?_
    refine w_iconst X441 at_29 (v := (2 : Int32)) rfl rfl ?_
    refine w_staticVP X441 (rm1 l Z a0 hw p1 (2 : Int32) h443 n0 X441.size ) (hw _ (List.mem_of_getElem? (i := 2) rfl)) (hw _ (List.mem_of_getElem? (i := 3) rfl)) (hw _ (List.mem_of_getElem? (i := 4) rfl)) (hw _ (List.mem_of_getElem? (i := 5) rfl)) (by decide) (argsL := [(.int p1), (.int (2 : Int32))]) (rest := [(.int (2 : Int32)), (.ref a420), (.ref a420)]) rfl (lenOf pd_1 rfl) rfl (W := 3) rfl (by decide) (by decide) (by decide) (by decide) at_30 rfl fun T448 X449 => ?_
    refine w_bastoreZ X449 f446 (by decide) (i := 2) (by decide) (Nat.le_of_ble_eq_true rfl) gn422 at_33 rfl fun T450 h453 X451 W452 A454 => ?_
    obtain ⟨z455, hz455⟩ : ∃ z, z = (nar .boolean (f_bit p1 (2 : Int32))) := ⟨_, rfl⟩
    have f456 : AV Z h453 a420 .boolean [(.int z435), (.int z445), (.int z455), (.int (0 : Int32))] := (by subst hz455; exact A454)
    have k457 : Keep h0 h453 [] := k447.wr W452 (Or.inr g0425)
    refine w_dup X451 at_34 rfl rfl ?_
    refine w_iconst X451 at_35 (v := (3 : Int32)) rfl rfl ?_
    refine w_iloadN X451 at_36 rfl rfl ?_
    refine w_iconst X451 at_37 (v := (3 : Int32)) rfl rfl ?_
    refine w_staticVP X451 (rm1 l Z a0 hw p1 (3 : Int32) h453 n0 X451.size ) (hw _ (List.mem_of_getElem? (i := 2) rfl)) (hw _ (List.mem_of_getElem? (i := 3) rfl)) (hw _ (List.mem_of_getElem? (i := 4) rfl)) (hw _ (List.mem_of_getElem? (i := 5) rfl)) (by decide) (argsL := [(.int p1), (.int (3 : Int32))]) (rest := [(.int (3 : Int32)), (.ref a420), (.ref a420)]) rfl (lenOf pd_1 rfl) rfl (W := 3) rfl (by decide) (by decide) (by decide) (by decide) at_38 rfl fun T458 X459 => ?_
    refine w_bastoreZ X459 f456 (by decide) (i := 3) (by decide) (Nat.le_of_ble_eq_true rfl) gn422 at_41 rfl fun T460 h463 X461 W462 A464 => ?_
    obtain ⟨z465, hz465⟩ : ∃ z, z = (nar .boolean (f_bit p1 (3 : Int32))) := ⟨_, rfl⟩
    have f466 : AV Z h463 a420 .boolean [(.int z435), (.int z445), (.int z455), (.int z465)] := (by subst hz465; exact A464)
    have k467 : Keep h0 h463 [] := k457.wr W462 (Or.inr g0425)
    refine w_astore X461 at_42 rfl rfl (L' := #[.val (.int p1), .val (.int p2), .val (.int p3), .val (.int (3 : Int32)), .val (.ref a420), .unset, .unset, .unset, .unset, .unset]) rfl ?_
    refine w_iloadN X461 at_44 rfl rfl ?_
    refine w_newP X461 (hw _ (List.mem_of_getElem? (i := 1) rfl)) (by decide) (k := 3) (by decide) (cap := 3) (by decide) (by decide) (by decide) (by decide) at_45 rfl fun T468 h470 a471 X469 ga472 gn473 E474 A475 => ?_
    have ne476 : a420 ≠ a471 := by rw [ga472]; exact Nat.ne_of_lt f466.lt
    have g0477 : h0.size ≤ a471 := by rw [ga472]; exact k467.1
    have f478 : AV Z h470 a420 .boolean [(.int z435), (.int z445), (.int z455), (.int z465)] := f466.ext E474
    have k479 : Keep h0 h470 [] := k467.ext E474
    have f480 : AV Z h470 a471 .boolean [(.int (0 : Int32)), (.int (0 : Int32)), (.int (0 : Int32))] := A475
    refine w_astore X469 at_47 rfl rfl (L' := #[.val (.int p1), .val (.int p2), .val (.int p3), .val (.int (3 : Int32)), .val (.ref a420), .val (.ref a471), .unset, .unset, .unset, .unset]) rfl ?_
    refine w_iloadN X469 at_49 rfl rfl ?_
    refine w_if_le X469 at_50 (by decide) (pcT := 62) (pcF := 53) (by decide) rfl (fun c481 => absurd c481 (by decide)) (fun c481 => ?_)
    refine w_aload X469 at_53 rfl rfl rfl ?_
    refine w_iconst X469 at_55 (v := (0 : Int32)) rfl rfl ?_
    refine w_iloadN X469 at_56 rfl rfl ?_
    refine w_iconst X469 at_57 (v := (0 : Int32)) rfl rfl ?_
    refine w_staticVP X469 (rm1 l Z a0 hw p2 (0 : Int32) h470 n0 X469.size ) (hw _ (List.mem_of_getElem? (i := 2) rfl)) (hw _ (List.mem_of_getElem? (i := 3) rfl)) (hw _ (List.mem_of_getElem? (i := 4) rfl)) (hw _ (List.mem_of_getElem? (i := 5) rfl)) (by decide) (argsL := [(.int p2), (.int (0 : Int32))]) (rest := [(.int (0 : Int32)), (.ref a471)]) rfl (lenOf pd_1 rfl) rfl (W := 2) rfl (by decide) (by decide) (by decide) (by decide) at_58 rfl fun T482 X483 => ?_
    refine w_bastoreZ X483 f480 (by decide) (i := 0) (by decide) (Nat.le_of_ble_eq_true rfl) gn473 at_61 rfl fun T484 h487 X485 W486 A488 => ?_
    obtain ⟨z489, hz489⟩ : ∃ z, z = (nar .boolean (f_bit p2 (0 : Int32))) := ⟨_, rfl⟩
    have f490 : AV Z h487 a420 .boolean [(.int z435), (.int z445), (.int z455), (.int z465)] := f478.other W486 ne476
    have f491 : AV Z h487 a471 .boolean [(.int z489), (.int (0 : Int32)), (.int (0 : Int32))] := (by subst hz489; exact A488)
    have k492 : Keep h0 h487 [] := k479.wr W486 (Or.inr g0477)
    refine w_iloadN X485 at_62 rfl rfl ?_
    refine w_iconst X485 at_63 (v := (1 : Int32)) rfl rfl ?_
    refine w_icmp_le X485 at_64 (by decide) (pcT := 76) (pcF := 67) (by decide) rfl (fun c493 => absurd c493 (by decide)) (fun c493 => ?_)
    refine w_aload X485 at_67 rfl rfl rfl ?_
    refine w_iconst X485 at_69 (v := (1 : Int32)) rfl rfl ?_
    refine w_iloadN X485 at_70 rfl rfl ?_
    refine w_iconst X485 at_71 (v := (1 : Int32)) rfl rfl ?_
    refine w_staticVP X485 (rm1 l Z a0 hw p2 (1 : Int32) h487 n0 X485.size ) (hw _ (List.mem_of_getElem? (i := 2) rfl)) (hw _ (List.mem_of_getElem? (i := 3) rfl)) (hw _ (List.mem_of_getElem? (i := 4) rfl)) (hw _ (List.mem_of_getElem? (i := 5) rfl)) (by decide) (argsL := [(.int p2), (.int (1 : Int32))]) (rest := [(.int (1 : Int32)), (.ref a471)]) rfl (lenOf pd_1 rfl) rfl (W := 2) rfl (by decide) (by decide) (by decide) (by decide) at_72 rfl fun T494 X495 => ?_
    refine w_bastoreZ X495 f491 (by decide) (i := 1) (by decide) (Nat.le_of_ble_eq_true rfl) gn473 at_75 rfl fun T496 h499 X497 W498 A500 => ?_
    obtain ⟨z501, hz501⟩ : ∃ z, z = (nar .boolean (f_bit p2 (1 : Int32))) := ⟨_, rfl⟩
    have f502 : AV Z h499 a420 .boolean [(.int z435), (.int z445), (.int z455), (.int z465)] := f490.other W498 ne476
    have f503 : AV Z h499 a471 .boolean [(.int z489), (.int z501), (.int (0 : Int32))] := (by subst hz501; exact A500)
    have k504 : Keep h0 h499 [] := k492.wr W498 (Or.inr g0477)
    refine w_iloadN X497 at_76 rfl rfl ?_
    refine w_iconst X497 at_77 (v := (2 : Int32)) rfl rfl ?_
    refine w_icmp_le X497 at_78 (by decide) (pcT := 90) (pcF := 81) (by decide) rfl (fun c505 => absurd c505 (by decide)) (fun c505 => ?_)
    refine w_aload X497 at_81 rfl rfl rfl ?_
    refine w_iconst X497 at_83 (v := (2 : Int32)) rfl rfl ?_
    refine w_iloadN X497 at_84 rfl rfl ?_
    refine w_iconst X497 at_85 (v := (2 : Int32)) rfl rfl ?_
    refine w_staticVP X497 (rm1 l Z a0 hw p2 (2 : Int32) h499 n0 X497.size ) (hw _ (List.mem_of_getElem? (i := 2) rfl)) (hw _ (List.mem_of_getElem? (i := 3) rfl)) (hw _ (List.mem_of_getElem? (i := 4) rfl)) (hw _ (List.mem_of_getElem? (i := 5) rfl)) (by decide) (argsL := [(.int p2), (.int (2 : Int32))]) (rest := [(.int (2 : Int32)), (.ref a471)]) rfl (lenOf pd_1 rfl) rfl (W := 2) rfl (by decide) (by decide) (by decide) (by decide) at_86 rfl fun T506 X507 => ?_
    refine w_bastoreZ X507 f503 (by decide) (i := 2) (by decide) (Nat.le_of_ble_eq_true rfl) gn473 at_89 rfl fun T508 h511 X509 W510 A512 => ?_
    obtain ⟨z513, hz513⟩ : ∃ z, z = (nar .boolean (f_bit p2 (2 : Int32))) := ⟨_, rfl⟩
    have f514 : AV Z h511 a420 .boolean [(.int z435), (.int z445), (.int z455), (.int z465)] := f502.other W510 ne476
    have f515 : AV Z h511 a471 .boolean [(.int z489), (.int z501), (.int z513)] := (by subst hz513; exact A512)
    have k516 : Keep h0 h511 [] := k504.wr W510 (Or.inr g0477)
    refine w_iloadN X509 at_90 rfl rfl ?_
    refine w_iconst X509 at_91 (v := (3 : Int32)) rfl rfl ?_
    refine w_icmp_le X509 at_92 (by decide) (pcT := 104) (pcF := 95) (by decide) rfl (fun c517 => ?_) (fun c517 => absurd c517 (by decide))
    refine w_new X509 (hw _ (List.mem_of_getElem? (i := 6) rfl)) (hw _ (List.mem_of_getElem? (i := 7) rfl)) (hw _ (List.mem_of_getElem? (i := 8) rfl)) (by decide) (by decide) at_104 rfl fun T518 h520 a521 X519 ga522 gn523 E524 A525 D526 => ?_
    have ne527 : a420 ≠ a521 := by rw [ga522]; exact Nat.ne_of_lt f514.lt
    have ne528 : a471 ≠ a521 := by rw [ga522]; exact Nat.ne_of_lt f515.lt
    have g0529 : h0.size ≤ a521 := by rw [ga522]; exact k516.1
    have f530 : AV Z h520 a420 .boolean [(.int z435), (.int z445), (.int z455), (.int z465)] := f514.ext E524
    have f531 : AV Z h520 a471 .boolean [(.int z489), (.int z501), (.int z513)] := f515.ext E524
    have k532 : Keep h0 h520 [] := k516.ext E524
    have f533 : Fld Z h520 a521 "com/example/credence/credence/core/GroupFounding$Kernel" "contains" "[Z" .null := D526 (Or.inr (hw _ (List.mem_of_getElem? (i := 22) rfl))) (ty := (.array .boolean)) (by decide)
    have f534 : Fld Z h520 a521 "com/example/credence/credence/core/GroupFounding$Kernel" "support" "[I" .null := D526 (Or.inr (hw _ (List.mem_of_getElem? (i := 24) rfl))) (ty := (.array .int)) (by decide)
    refine w_dup X519 at_107 rfl rfl ?_
    refine w_aload X519 at_108 rfl rfl rfl ?_
    refine w_iconst X519 at_110 (v := (4 : Int32)) rfl rfl ?_
    refine w_newP X519 (hw _ (List.mem_of_getElem? (i := 9) rfl)) (by decide) (k := 4) (by decide) (cap := 4) (by decide) (by decide) (by decide) (by decide) at_111 rfl fun T535 h537 a538 X536 ga539 gn540 E541 A542 => ?_
    have ne543 : a420 ≠ a538 := by rw [ga539]; exact Nat.ne_of_lt f530.lt
    have ne544 : a471 ≠ a538 := by rw [ga539]; exact Nat.ne_of_lt f531.lt
    have ne545 : a521 ≠ a538 := by rw [ga539]; exact Nat.ne_of_lt A525.lt
    have g0546 : h0.size ≤ a538 := by rw [ga539]; exact k532.1
    have f547 : AV Z h537 a420 .boolean [(.int z435), (.int z445), (.int z455), (.int z465)] := f530.ext E541
    have f548 : AV Z h537 a471 .boolean [(.int z489), (.int z501), (.int z513)] := f531.ext E541
    have f549 : Exa Z h537 a521 "com/example/credence/credence/core/GroupFounding$Kernel" := Exa.ext E541 A525
    have f550 : Fld Z h537 a521 "com/example/credence/credence/core/GroupFounding$Kernel" "contains" "[Z" .null := Fld.ext E541 f533
    have f551 : Fld Z h537 a521 "com/example/credence/credence/core/GroupFounding$Kernel" "support" "[I" .null := Fld.ext E541 f534
    have k552 : Keep h0 h537 [] := k532.ext E541
    have f553 : AV Z h537 a538 .int [(.int (0 : Int32)), (.int (0 : Int32)), (.int (0 : Int32)), (.int (0 : Int32))] := A542
    refine w_special0 X536 (rm2 l Z a0 hw a521 a420 a538 h537 n0 X536.size f549 f550 f551 gn523) rfl (hw _ (List.mem_of_getElem? (i := 10) rfl)) (hw _ (List.mem_of_getElem? (i := 11) rfl)) (hw _ (List.mem_of_getElem? (i := 8) rfl)) (hw _ (List.mem_of_getElem? (i := 12) rfl)) (by decide) (argsL := [(.ref a420), (.ref a538)]) (rest := [(.ref a521)]) rfl (lenOf pd_2 rfl) rfl (W := 1) rfl (by decide) (by decide) (by decide) (by decide) at_113 rfl fun T554 h555 X556 q557 => ?_
    obtain ⟨K558, E559, f560, f561⟩ := q557
    have f562 : AV Z h555 a420 .boolean [(.int z435), (.int z445), (.int z455), (.int z465)] := f547.keep K558 (ninS ne527 nin0)
    have f563 : AV Z h555 a471 .boolean [(.int z489), (.int z501), (.int z513)] := f548.keep K558 (ninS ne528 nin0)
    have f564 : Exa Z h555 a521 "com/example/credence/credence/core/GroupFounding$Kernel" := f549.keep K558
    have f565 : AV Z h555 a538 .int [(.int (0 : Int32)), (.int (0 : Int32)), (.int (0 : Int32)), (.int (0 : Int32))] := f553.keep K558 (ninS (Ne.symm ne545) nin0)
    have k566 : Keep h0 h555 [] := k552.trans K558 (allS (Or.inr g0529) all0)
    refine w_astore X556 at_116 rfl rfl (L' := #[.val (.int p1), .val (.int p2), .val (.int p3), .val (.int (3 : Int32)), .val (.ref a420), .val (.ref a471), .val (.ref a521), .unset, .unset, .unset]) rfl ?_
    refine w_aload X556 at_118 rfl rfl rfl ?_
    refine w_aload X556 at_120 rfl rfl rfl ?_
    refine w_virtualVP X556 (rm5 l Z a0 hw a521 a471 a420 [z489, z501, z513] [z435, z445, z455, z465] h555 n0 X556.size f560 f563 f562 (Nat.le_of_ble_eq_true rfl) rfl) f564 (hw _ (List.mem_of_getElem? (i := 25) rfl)) (hw _ (List.mem_of_getElem? (i := 26) rfl)) (hw _ (List.mem_of_getElem? (i := 28) rfl)) (hw _ (List.mem_of_getElem? (i := 27) rfl)) (hw _ (List.mem_of_getElem? (i := 8) rfl)) (hw _ (List.mem_of_getElem? (i := 29) rfl)) (by decide) (argsL := [(.ref a471)]) (rest := []) rfl (lenOf pd_3 rfl) rfl (W := 0) rfl (by decide) (by decide) (by decide) (by decide) at_122 rfl fun T567 X568 => ?_
    generalize hz569 : (f_all [z489, z501, z513] [z435, z445, z455, z465] 5 0) = z569
    refine w_istore X568 at_125 rfl (L' := #[.val (.int p1), .val (.int p2), .val (.int p3), .val (.int (3 : Int32)), .val (.ref a420), .val (.ref a471), .val (.ref a521), .val (.int z569), .unset, .unset]) rfl ?_
    refine w_iconst X568 at_127 (v := (1 : Int32)) rfl rfl ?_
    refine w_iloadN X568 at_128 rfl rfl ?_
    refine w_ishl X568 at_129 rfl ?_
    refine w_iconst X568 at_130 (v := (1 : Int32)) rfl rfl ?_
    refine w_isub X568 at_131 rfl ?_
    generalize hz570 : (((1 : Int32) <<< ((3 : Int32) &&& 31)) - (1 : Int32)) = z570
    refine w_istore X568 at_132 rfl (L' := #[.val (.int p1), .val (.int p2), .val (.int p3), .val (.int (3 : Int32)), .val (.ref a420), .val (.ref a471), .val (.ref a521), .val (.int z569), .val (.int z570), .unset]) rfl ?_
    refine w_iloadN X568 at_134 rfl rfl ?_
    refine w_iloadN X568 at_135 rfl rfl ?_
    refine w_iconst X568 at_136 (v := (-1 : Int32)) rfl rfl ?_
    refine w_ixor X568 at_137 rfl ?_
    refine w_iand X568 at_138 rfl ?_
    refine w_iload X568 at_139 rfl rfl ?_
    refine w_iand X568 at_141 rfl ?_
    suffices j574 : ∀ (T572 : State) (z571 : Int32), (Wk p l e room_1 s m #[(.int p1), (.int p2), (.int p3)] below meth c Z n0 x code maxLocals ret T572 4 13 h555) → (z571 = (if ((p2 &&& (p1 ^^^ (-1 : Int32))) &&& z570) = 0 then (1 : Int32) else (0 : Int32))) → Goes p e below (Done below s n0 room_1 (some (.int 1)) (fun _ => True)) T572 m 150 #[.val (.int p1), .val (.int p2), .val (.int p3), .val (.int (3 : Int32)), .val (.ref a420), .val (.ref a471), .val (.ref a521), .val (.int z569), .val (.int z570), .unset] [(.int z571)] by
      refine w_if_ne X568 at_142 (by decide) (pcT := 149) (pcF := 145) (by decide) rfl (fun c575 => ?_) (fun c575 => ?_)
      · refine w_iconst X568 at_149 (v := (0 : Int32)) rfl rfl ?_
        exact j574 _ _ X568 (by rw [if_neg c575])
      · refine w_iconst X568 at_145 (v := (1 : Int32)) rfl rfl ?_
        refine w_goto X568 at_146 (by decide) (pc' := 150) (by decide) ?_
        exact j574 _ _ X568 (by rw [if_pos c575])
    intro T572 z571 X573 hz571
    refine w_istore X573 at_150 rfl (L' := #[.val (.int p1), .val (.int p2), .val (.int p3), .val (.int (3 : Int32)), .val (.ref a420), .val (.ref a471), .val (.ref a521), .val (.int z569), .val (.int z570), .val (.int z571)]) rfl ?_
    refine w_iload X573 at_152 rfl rfl ?_
    refine w_iload X573 at_154 rfl rfl ?_
    refine w_icmp_ne X573 at_156 (by decide) (pcT := 163) (pcF := 159) (by decide) rfl (fun c576 => ?_) (fun c576 => ?_)
    · refine w_iconst X573 at_163 (v := (0 : Int32)) rfl rfl ?_
      exact False.elim (c576 (by subst hz571 hz570 hz569 hz513 hz501 hz489 hz465 hz455 hz445 hz435; exact own_law3 _ _))
    · refine w_iconst X573 at_159 (v := (1 : Int32)) rfl rfl ?_
      refine w_goto X573 at_160 (by decide) (pc' := 164) (by decide) ?_
      exact w_nreturn X573 (t := .boolean) (by simp) at_164 rfl trivial (by decide) (by decide)
  · subst q2
    refine w_iconst X0 at_7 (v := (4 : Int32)) rfl rfl ?_
    refine w_newP X0 (hw _ (List.mem_of_getElem? (i := 1) rfl)) (by decide) (k := 4) (by decide) (cap := 4) (by decide) (by decide) (by decide) (by decide) at_8 rfl fun T577 h579 a580 X578 ga581 gn582 E583 A584 => ?_
    have g0585 : h0.size ≤ a580 := by rw [ga581]; exact (Keep.refl h0 []).1
    have k586 : Keep h0 h579 [] := (Keep.refl h0 []).ext E583
    have f587 : AV Z h579 a580 .boolean [(.int (0 : Int32)), (.int (0 : Int32)), (.int (0 : Int32)), (.int (0 : Int32))] := A584
    refine w_dup X578 at_10 rfl rfl ?_
    refine w_iconst X578 at_11 (v := (0 : Int32)) rfl rfl ?_
    refine w_iloadN X578 at_12 rfl rfl ?_
    refine w_iconst X578 at_13 (v := (0 : Int32)) rfl rfl ?_
    refine w_staticVP X578 (rm1 l Z a0 hw p1 (0 : Int32) h579 n0 X578.size ) (hw _ (List.mem_of_getElem? (i := 2) rfl)) (hw _ (List.mem_of_getElem? (i := 3) rfl)) (hw _ (List.mem_of_getElem? (i := 4) rfl)) (hw _ (List.mem_of_getElem? (i := 5) rfl)) (by decide) (argsL := [(.int p1), (.int (0 : Int32))]) (rest := [(.int (0 : Int32)), (.ref a580), (.ref a580)]) rfl (lenOf pd_1 rfl) rfl (W := 3) rfl (by decide) (by decide) (by decide) (by decide) at_14 rfl fun T588 X589 => ?_
    refine w_bastoreZ X589 f587 (by decide) (i := 0) (by decide) (Nat.le_of_ble_eq_true rfl) gn582 at_17 rfl fun T590 h593 X591 W592 A594 => ?_
    obtain ⟨z595, hz595⟩ : ∃ z, z = (nar .boolean (f_bit p1 (0 : Int32))) := ⟨_, rfl⟩
    have f596 : AV Z h593 a580 .boolean [(.int z595), (.int (0 : Int32)), (.int (0 : Int32)), (.int (0 : Int32))] := (by subst hz595; exact A594)
    have k597 : Keep h0 h593 [] := k586.wr W592 (Or.inr g0585)
    refine w_dup X591 at_18 rfl rfl ?_
    refine w_iconst X591 at_19 (v := (1 : Int32)) rfl rfl ?_
    refine w_iloadN X591 at_20 rfl rfl ?_
    refine w_iconst X591 at_21 (v := (1 : Int32)) rfl rfl ?_
    refine w_staticVP X591 (rm1 l Z a0 hw p1 (1 : Int32) h593 n0 X591.size ) (hw _ (List.mem_of_getElem? (i := 2) rfl)) (hw _ (List.mem_of_getElem? (i := 3) rfl)) (hw _ (List.mem_of_getElem? (i := 4) rfl)) (hw _ (List.mem_of_getElem? (i := 5) rfl)) (by decide) (argsL := [(.int p1), (.int (1 : Int32))]) (rest := [(.int (1 : Int32)), (.ref a580), (.ref a580)]) rfl (lenOf pd_1 rfl) rfl (W := 3) rfl (by decide) (by decide) (by decide) (by decide) at_22 rfl fun T598 X599 => ?_
    refine w_bastoreZ X599 f596 (by decide) (i := 1) (by decide) (Nat.le_of_ble_eq_true rfl) gn582 at_25 rfl fun T600 h603 X601 W602 A604 => ?_
    obtain ⟨z605, hz605⟩ : ∃ z, z = (nar .boolean (f_bit p1 (1 : Int32))) := ⟨_, rfl⟩
    have f606 : AV Z h603 a580 .boolean [(.int z595), (.int z605), (.int (0 : Int32)), (.int (0 : Int32))] := (by subst hz605; exact A604)
    have k607 : Keep h0 h603 [] := k597.wr W602 (Or.inr g0585)
    refine w_dup X601 at_26 rfl rfl ?_
    refine w_iconst X601 at_27 (v := (2 : Int32)) rfl rfl ?_
    refine w_iloadN X601 at_28 rfl rfl ?_
    refine w_iconst X601 at_29 (v := (2 : Int32)) rfl rfl ?_
    refine w_staticVP X601 (rm1 l Z a0 hw p1 (2 : Int32) h603 n0 X601.size ) (hw _ (List.mem_of_getElem? (i := 2) rfl)) (hw _ (List.mem_of_getElem? (i := 3) rfl)) (hw _ (List.mem_of_getElem? (i := 4) rfl)) (hw _ (List.mem_of_getElem? (i := 5) rfl)) (by decide) (argsL := [(.int p1), (.int (2 : Int32))]) (rest := [(.int (2 : Int32)), (.ref a580), (.ref a580)]) rfl (lenOf pd_1 rfl) rfl (W := 3) rfl (by decide) (by decide) (by decide) (by decide) at_30 rfl fun T608 X609 => ?_
    refine w_bastoreZ X609 f606 (by decide) (i := 2) (by decide) (Nat.le_of_ble_eq_true rfl) gn582 at_33 rfl fun T610 h613 X611 W612 A614 => ?_
    obtain ⟨z615, hz615⟩ : ∃ z, z = (nar .boolean (f_bit p1 (2 : Int32))) := ⟨_, rfl⟩
    have f616 : AV Z h613 a580 .boolean [(.int z595), (.int z605), (.int z615), (.int (0 : Int32))] := (by subst hz615; exact A614)
    have k617 : Keep h0 h613 [] := k607.wr W612 (Or.inr g0585)
    refine w_dup X611 at_34 rfl rfl ?_
    refine w_iconst X611 at_35 (v := (3 : Int32)) rfl rfl ?_
    refine w_iloadN X611 at_36 rfl rfl ?_
    refine w_iconst X611 at_37 (v := (3 : Int32)) rfl rfl ?_
    refine w_staticVP X611 (rm1 l Z a0 hw p1 (3 : Int32) h613 n0 X611.size ) (hw _ (List.mem_of_getElem? (i := 2) rfl)) (hw _ (List.mem_of_getElem? (i := 3) rfl)) (hw _ (List.mem_of_getElem? (i := 4) rfl)) (hw _ (List.mem_of_getElem? (i := 5) rfl)) (by decide) (argsL := [(.int p1), (.int (3 : Int32))]) (rest := [(.int (3 : Int32)), (.ref a580), (.ref a580)]) rfl (lenOf pd_1 rfl) rfl (W := 3) rfl (by decide) (by decide) (by decide) (by decide) at_38 rfl fun T618 X619 => ?_
    refine w_bastoreZ X619 f616 (by decide) (i := 3) (by decide) (Nat.le_of_ble_eq_true rfl) gn582 at_41 rfl fun T620 h623 X621 W622 A624 => ?_
    obtain ⟨z625, hz625⟩ : ∃ z, z = (nar .boolean (f_bit p1 (3 : Int32))) := ⟨_, rfl⟩
    have f626 : AV Z h623 a580 .boolean [(.int z595), (.int z605), (.int z615), (.int z625)] := (by subst hz625; exact A624)
    have k627 : Keep h0 h623 [] := k617.wr W622 (Or.inr g0585)
    refine w_astore X621 at_42 rfl rfl (L' := #[.val (.int p1), .val (.int p2), .val (.int p3), .val (.int (4 : Int32)), .val (.ref a580), .unset, .unset, .unset, .unset, .unset]) rfl ?_
    refine w_iloadN X621 at_44 rfl rfl ?_
    refine w_newP X621 (hw _ (List.mem_of_getElem? (i := 1) rfl)) (by decide) (k := 4) (by decide) (cap := 4) (by decide) (by decide) (by decide) (by decide) at_45 rfl fun T628 h630 a631 X629 ga632 gn633 E634 A635 => ?_
    have ne636 : a580 ≠ a631 := by rw [ga632]; exact Nat.ne_of_lt f626.lt
    have g0637 : h0.size ≤ a631 := by rw [ga632]; exact k627.1
    have f638 : AV Z h630 a580 .boolean [(.int z595), (.int z605), (.int z615), (.int z625)] := f626.ext E634
    have k639 : Keep h0 h630 [] := k627.ext E634
    have f640 : AV Z h630 a631 .boolean [(.int (0 : Int32)), (.int (0 : Int32)), (.int (0 : Int32)), (.int (0 : Int32))] := A635
    refine w_astore X629 at_47 rfl rfl (L' := #[.val (.int p1), .val (.int p2), .val (.int p3), .val (.int (4 : Int32)), .val (.ref a580), .val (.ref a631), .unset, .unset, .unset, .unset]) rfl ?_
    refine w_iloadN X629 at_49 rfl rfl ?_
    refine w_if_le X629 at_50 (by decide) (pcT := 62) (pcF := 53) (by decide) rfl (fun c641 => absurd c641 (by decide)) (fun c641 => ?_)
    refine w_aload X629 at_53 rfl rfl rfl ?_
    refine w_iconst X629 at_55 (v := (0 : Int32)) rfl rfl ?_
    refine w_iloadN X629 at_56 rfl rfl ?_
    refine w_iconst X629 at_57 (v := (0 : Int32)) rfl rfl ?_
    refine w_staticVP X629 (rm1 l Z a0 hw p2 (0 : Int32) h630 n0 X629.size ) (hw _ (List.mem_of_getElem? (i := 2) rfl)) (hw _ (List.mem_of_getElem? (i := 3) rfl)) (hw _ (List.mem_of_getElem? (i := 4) rfl)) (hw _ (List.mem_of_getElem? (i := 5) rfl)) (by decide) (argsL := [(.int p2), (.int (0 : Int32))]) (rest := [(.int (0 : Int32)), (.ref a631)]) rfl (lenOf pd_1 rfl) rfl (W := 2) rfl (by decide) (by decide) (by decide) (by decide) at_58 rfl fun T642 X643 => ?_
    refine w_bastoreZ X643 f640 (by decide) (i := 0) (by decide) (Nat.le_of_ble_eq_true rfl) gn633 at_61 rfl fun T644 h647 X645 W646 A648 => ?_
    obtain ⟨z649, hz649⟩ : ∃ z, z = (nar .boolean (f_bit p2 (0 : Int32))) := ⟨_, rfl⟩
    have f650 : AV Z h647 a580 .boolean [(.int z595), (.int z605), (.int z615), (.int z625)] := f638.other W646 ne636
    have f651 : AV Z h647 a631 .boolean [(.int z649), (.int (0 : Int32)), (.int (0 : Int32)), (.int (0 : Int32))] := (by subst hz649; exact A648)
    have k652 : Keep h0 h647 [] := k639.wr W646 (Or.inr g0637)
    refine w_iloadN X645 at_62 rfl rfl ?_
    refine w_iconst X645 at_63 (v := (1 : Int32)) rfl rfl ?_
    refine w_icmp_le X645 at_64 (by decide) (pcT := 76) (pcF := 67) (by decide) rfl (fun c653 => absurd c653 (by decide)) (fun c653 => ?_)
    refine w_aload X645 at_67 rfl rfl rfl ?_
    refine w_iconst X645 at_69 (v := (1 : Int32)) rfl rfl ?_
    refine w_iloadN X645 at_70 rfl rfl ?_
    refine w_iconst X645 at_71 (v := (1 : Int32)) rfl rfl ?_
    refine w_staticVP X645 (rm1 l Z a0 hw p2 (1 : Int32) h647 n0 X645.size ) (hw _ (List.mem_of_getElem? (i := 2) rfl)) (hw _ (List.mem_of_getElem? (i := 3) rfl)) (hw _ (List.mem_of_getElem? (i := 4) rfl)) (hw _ (List.mem_of_getElem? (i := 5) rfl)) (by decide) (argsL := [(.int p2), (.int (1 : Int32))]) (rest := [(.int (1 : Int32)), (.ref a631)]) rfl (lenOf pd_1 rfl) rfl (W := 2) rfl (by decide) (by decide) (by decide) (by decide) at_72 rfl fun T654 X655 => ?_
    refine w_bastoreZ X655 f651 (by decide) (i := 1) (by decide) (Nat.le_of_ble_eq_true rfl) gn633 at_75 rfl fun T656 h659 X657 W658 A660 => ?_
    obtain ⟨z661, hz661⟩ : ∃ z, z = (nar .boolean (f_bit p2 (1 : Int32))) := ⟨_, rfl⟩
    have f662 : AV Z h659 a580 .boolean [(.int z595), (.int z605), (.int z615), (.int z625)] := f650.other W658 ne636
    have f663 : AV Z h659 a631 .boolean [(.int z649), (.int z661), (.int (0 : Int32)), (.int (0 : Int32))] := (by subst hz661; exact A660)
    have k664 : Keep h0 h659 [] := k652.wr W658 (Or.inr g0637)
    refine w_iloadN X657 at_76 rfl rfl ?_
    refine w_iconst X657 at_77 (v := (2 : Int32)) rfl rfl ?_
    refine w_icmp_le X657 at_78 (by decide) (pcT := 90) (pcF := 81) (by decide) rfl (fun c665 => absurd c665 (by decide)) (fun c665 => ?_)
    refine w_aload X657 at_81 rfl rfl rfl ?_
    refine w_iconst X657 at_83 (v := (2 : Int32)) rfl rfl ?_
    refine w_iloadN X657 at_84 rfl rfl ?_
    refine w_iconst X657 at_85 (v := (2 : Int32)) rfl rfl ?_
    refine w_staticVP X657 (rm1 l Z a0 hw p2 (2 : Int32) h659 n0 X657.size ) (hw _ (List.mem_of_getElem? (i := 2) rfl)) (hw _ (List.mem_of_getElem? (i := 3) rfl)) (hw _ (List.mem_of_getElem? (i := 4) rfl)) (hw _ (List.mem_of_getElem? (i := 5) rfl)) (by decide) (argsL := [(.int p2), (.int (2 : Int32))]) (rest := [(.int (2 : Int32)), (.ref a631)]) rfl (lenOf pd_1 rfl) rfl (W := 2) rfl (by decide) (by decide) (by decide) (by decide) at_86 rfl fun T666 X667 => ?_
    refine w_bastoreZ X667 f663 (by decide) (i := 2) (by decide) (Nat.le_of_ble_eq_true rfl) gn633 at_89 rfl fun T668 h671 X669 W670 A672 => ?_
    obtain ⟨z673, hz673⟩ : ∃ z, z = (nar .boolean (f_bit p2 (2 : Int32))) := ⟨_, rfl⟩
    have f674 : AV Z h671 a580 .boolean [(.int z595), (.int z605), (.int z615), (.int z625)] := f662.other W670 ne636
    have f675 : AV Z h671 a631 .boolean [(.int z649), (.int z661), (.int z673), (.int (0 : Int32))] := (by subst hz673; exact A672)
    have k676 : Keep h0 h671 [] := k664.wr W670 (Or.inr g0637)
    refine w_iloadN X669 at_90 rfl rfl ?_
    refine w_iconst X669 at_91 (v := (3 : Int32)) rfl rfl ?_
    refine w_icmp_le X669 at_92 (by decide) (pcT := 104) (pcF := 95) (by decide) rfl (fun c677 => absurd c677 (by decide)) (fun c677 => ?_)
    refine w_aload X669 at_95 rfl rfl rfl ?_
    refine w_iconst X669 at_97 (v := (3 : Int32)) rfl rfl ?_
    refine w_iloadN X669 at_98 rfl rfl ?_
    refine w_iconst X669 at_99 (v := (3 : Int32)) rfl rfl ?_
    refine w_staticVP X669 (rm1 l Z a0 hw p2 (3 : Int32) h671 n0 X669.size ) (hw _ (List.mem_of_getElem? (i := 2) rfl)) (hw _ (List.mem_of_getElem? (i := 3) rfl)) (hw _ (List.mem_of_getElem? (i := 4) rfl)) (hw _ (List.mem_of_getElem? (i := 5) rfl)) (by decide) (argsL := [(.int p2), (.int (3 : Int32))]) (rest := [(.int (3 : Int32)), (.ref a631)]) rfl (lenOf pd_1 rfl) rfl (W := 2) rfl (by decide) (by decide) (by decide) (by decide) at_100 rfl fun T678 X679 => ?_
    refine w_bastoreZ X679 f675 (by decide) (i := 3) (by decide) (Nat.le_of_ble_eq_true rfl) gn633 at_103 rfl fun T680 h683 X681 W682 A684 => ?_
    obtain ⟨z685, hz685⟩ : ∃ z, z = (nar .boolean (f_bit p2 (3 : Int32))) := ⟨_, rfl⟩
    have f686 : AV Z h683 a580 .boolean [(.int z595), (.int z605), (.int z615), (.int z625)] := f674.other W682 ne636
    have f687 : AV Z h683 a631 .boolean [(.int z649), (.int z661), (.int z673), (.int z685)] := (by subst hz685; exact A684)
    have k688 : Keep h0 h683 [] := k676.wr W682 (Or.inr g0637)
    refine w_new X681 (hw _ (List.mem_of_getElem? (i := 6) rfl)) (hw _ (List.mem_of_getElem? (i := 7) rfl)) (hw _ (List.mem_of_getElem? (i := 8) rfl)) (by decide) (by decide) at_104 rfl fun T689 h691 a692 X690 ga693 gn694 E695 A696 D697 => ?_
    have ne698 : a580 ≠ a692 := by rw [ga693]; exact Nat.ne_of_lt f686.lt
    have ne699 : a631 ≠ a692 := by rw [ga693]; exact Nat.ne_of_lt f687.lt
    have g0700 : h0.size ≤ a692 := by rw [ga693]; exact k688.1
    have f701 : AV Z h691 a580 .boolean [(.int z595), (.int z605), (.int z615), (.int z625)] := f686.ext E695
    have f702 : AV Z h691 a631 .boolean [(.int z649), (.int z661), (.int z673), (.int z685)] := f687.ext E695
    have k703 : Keep h0 h691 [] := k688.ext E695
    have f704 : Fld Z h691 a692 "com/example/credence/credence/core/GroupFounding$Kernel" "contains" "[Z" .null := D697 (Or.inr (hw _ (List.mem_of_getElem? (i := 22) rfl))) (ty := (.array .boolean)) (by decide)
    have f705 : Fld Z h691 a692 "com/example/credence/credence/core/GroupFounding$Kernel" "support" "[I" .null := D697 (Or.inr (hw _ (List.mem_of_getElem? (i := 24) rfl))) (ty := (.array .int)) (by decide)
    refine w_dup X690 at_107 rfl rfl ?_
    refine w_aload X690 at_108 rfl rfl rfl ?_
    refine w_iconst X690 at_110 (v := (4 : Int32)) rfl rfl ?_
    refine w_newP X690 (hw _ (List.mem_of_getElem? (i := 9) rfl)) (by decide) (k := 4) (by decide) (cap := 4) (by decide) (by decide) (by decide) (by decide) at_111 rfl fun T706 h708 a709 X707 ga710 gn711 E712 A713 => ?_
    have ne714 : a580 ≠ a709 := by rw [ga710]; exact Nat.ne_of_lt f701.lt
    have ne715 : a631 ≠ a709 := by rw [ga710]; exact Nat.ne_of_lt f702.lt
    have ne716 : a692 ≠ a709 := by rw [ga710]; exact Nat.ne_of_lt A696.lt
    have g0717 : h0.size ≤ a709 := by rw [ga710]; exact k703.1
    have f718 : AV Z h708 a580 .boolean [(.int z595), (.int z605), (.int z615), (.int z625)] := f701.ext E712
    have f719 : AV Z h708 a631 .boolean [(.int z649), (.int z661), (.int z673), (.int z685)] := f702.ext E712
    have f720 : Exa Z h708 a692 "com/example/credence/credence/core/GroupFounding$Kernel" := Exa.ext E712 A696
    have f721 : Fld Z h708 a692 "com/example/credence/credence/core/GroupFounding$Kernel" "contains" "[Z" .null := Fld.ext E712 f704
    have f722 : Fld Z h708 a692 "com/example/credence/credence/core/GroupFounding$Kernel" "support" "[I" .null := Fld.ext E712 f705
    have k723 : Keep h0 h708 [] := k703.ext E712
    have f724 : AV Z h708 a709 .int [(.int (0 : Int32)), (.int (0 : Int32)), (.int (0 : Int32)), (.int (0 : Int32))] := A713
    refine w_special0 X707 (rm2 l Z a0 hw a692 a580 a709 h708 n0 X707.size f720 f721 f722 gn694) rfl (hw _ (List.mem_of_getElem? (i := 10) rfl)) (hw _ (List.mem_of_getElem? (i := 11) rfl)) (hw _ (List.mem_of_getElem? (i := 8) rfl)) (hw _ (List.mem_of_getElem? (i := 12) rfl)) (by decide) (argsL := [(.ref a580), (.ref a709)]) (rest := [(.ref a692)]) rfl (lenOf pd_2 rfl) rfl (W := 1) rfl (by decide) (by decide) (by decide) (by decide) at_113 rfl fun T725 h726 X727 q728 => ?_
    obtain ⟨K729, E730, f731, f732⟩ := q728
    have f733 : AV Z h726 a580 .boolean [(.int z595), (.int z605), (.int z615), (.int z625)] := f718.keep K729 (ninS ne698 nin0)
    have f734 : AV Z h726 a631 .boolean [(.int z649), (.int z661), (.int z673), (.int z685)] := f719.keep K729 (ninS ne699 nin0)
    have f735 : Exa Z h726 a692 "com/example/credence/credence/core/GroupFounding$Kernel" := f720.keep K729
    have f736 : AV Z h726 a709 .int [(.int (0 : Int32)), (.int (0 : Int32)), (.int (0 : Int32)), (.int (0 : Int32))] := f724.keep K729 (ninS (Ne.symm ne716) nin0)
    have k737 : Keep h0 h726 [] := k723.trans K729 (allS (Or.inr g0700) all0)
    refine w_astore X727 at_116 rfl rfl (L' := #[.val (.int p1), .val (.int p2), .val (.int p3), .val (.int (4 : Int32)), .val (.ref a580), .val (.ref a631), .val (.ref a692), .unset, .unset, .unset]) rfl ?_
    refine w_aload X727 at_118 rfl rfl rfl ?_
    refine w_aload X727 at_120 rfl rfl rfl ?_
    refine w_virtualVP X727 (rm5 l Z a0 hw a692 a631 a580 [z649, z661, z673, z685] [z595, z605, z615, z625] h726 n0 X727.size f731 f734 f733 (Nat.le_of_ble_eq_true rfl) rfl) f735 (hw _ (List.mem_of_getElem? (i := 25) rfl)) (hw _ (List.mem_of_getElem? (i := 26) rfl)) (hw _ (List.mem_of_getElem? (i := 28) rfl)) (hw _ (List.mem_of_getElem? (i := 27) rfl)) (hw _ (List.mem_of_getElem? (i := 8) rfl)) (hw _ (List.mem_of_getElem? (i := 29) rfl)) (by decide) (argsL := [(.ref a631)]) (rest := []) rfl (lenOf pd_3 rfl) rfl (W := 0) rfl (by decide) (by decide) (by decide) (by decide) at_122 rfl fun T738 X739 => ?_
    generalize hz740 : (f_all [z649, z661, z673, z685] [z595, z605, z615, z625] 5 0) = z740
    refine w_istore X739 at_125 rfl (L' := #[.val (.int p1), .val (.int p2), .val (.int p3), .val (.int (4 : Int32)), .val (.ref a580), .val (.ref a631), .val (.ref a692), .val (.int z740), .unset, .unset]) rfl ?_
    refine w_iconst X739 at_127 (v := (1 : Int32)) rfl rfl ?_
    refine w_iloadN X739 at_128 rfl rfl ?_
    refine w_ishl X739 at_129 rfl ?_
    refine w_iconst X739 at_130 (v := (1 : Int32)) rfl rfl ?_
    refine w_isub X739 at_131 rfl ?_
    generalize hz741 : (((1 : Int32) <<< ((4 : Int32) &&& 31)) - (1 : Int32)) = z741
    refine w_istore X739 at_132 rfl (L' := #[.val (.int p1), .val (.int p2), .val (.int p3), .val (.int (4 : Int32)), .val (.ref a580), .val (.ref a631), .val (.ref a692), .val (.int z740), .val (.int z741), .unset]) rfl ?_
    refine w_iloadN X739 at_134 rfl rfl ?_
    refine w_iloadN X739 at_135 rfl rfl ?_
    refine w_iconst X739 at_136 (v := (-1 : Int32)) rfl rfl ?_
    refine w_ixor X739 at_137 rfl ?_
    refine w_iand X739 at_138 rfl ?_
    refine w_iload X739 at_139 rfl rfl ?_
    refine w_iand X739 at_141 rfl ?_
    suffices j745 : ∀ (T743 : State) (z742 : Int32), (Wk p l e room_1 s m #[(.int p1), (.int p2), (.int p3)] below meth c Z n0 x code maxLocals ret T743 4 14 h726) → (z742 = (if ((p2 &&& (p1 ^^^ (-1 : Int32))) &&& z741) = 0 then (1 : Int32) else (0 : Int32))) → Goes p e below (Done below s n0 room_1 (some (.int 1)) (fun _ => True)) T743 m 150 #[.val (.int p1), .val (.int p2), .val (.int p3), .val (.int (4 : Int32)), .val (.ref a580), .val (.ref a631), .val (.ref a692), .val (.int z740), .val (.int z741), .unset] [(.int z742)] by
      refine w_if_ne X739 at_142 (by decide) (pcT := 149) (pcF := 145) (by decide) rfl (fun c746 => ?_) (fun c746 => ?_)
      · refine w_iconst X739 at_149 (v := (0 : Int32)) rfl rfl ?_
        exact j745 _ _ X739 (by rw [if_neg c746])
      · refine w_iconst X739 at_145 (v := (1 : Int32)) rfl rfl ?_
        refine w_goto X739 at_146 (by decide) (pc' := 150) (by decide) ?_
        exact j745 _ _ X739 (by rw [if_pos c746])
    intro T743 z742 X744 hz742
    refine w_istore X744 at_150 rfl (L' := #[.val (.int p1), .val (.int p2), .val (.int p3), .val (.int (4 : Int32)), .val (.ref a580), .val (.ref a631), .val (.ref a692), .val (.int z740), .val (.int z741), .val (.int z742)]) rfl ?_
    refine w_iload X744 at_152 rfl rfl ?_
    refine w_iload X744 at_154 rfl rfl ?_
    refine w_icmp_ne X744 at_156 (by decide) (pcT := 163) (pcF := 159) (by decide) rfl (fun c747 => ?_) (fun c747 => ?_)
    · refine w_iconst X744 at_163 (v := (0 : Int32)) rfl rfl ?_
      exact False.elim (c747 (by subst hz742 hz741 hz740 hz685 hz673 hz661 hz649 hz625 hz615 hz605 hz595; exact own_law4 _ _))
    · refine w_iconst X744 at_159 (v := (1 : Int32)) rfl rfl ?_
      refine w_goto X744 at_160 (by decide) (pc' := 164) (by decide) ?_
      exact w_nreturn X744 (t := .boolean) (by simp) at_164 rfl trivial (by decide) (by decide)
set_option maxRecDepth 65536 in
set_option maxHeartbeats 4000000 in
theorem comes_1 {Post : Tables → Env → Array Value → State → Outcome → State → Prop} (hpost : ∀ tb e args s v u, (limb_1_1.after args s (.returned v) u = true ∧ limb_1_2.after args s (.returned v) u = true ∧ True) → FrameEnd s (.returned v) u (Jvm.fieldLocs frame_1_writes args s ++ Jvm.arrayLocs frame_1_arrays args s ++ Jvm.staticLocs frame_1_statics s) 16 128 → Post tb e args s (.returned v) u) :
    ArmFor flags0 classFile x code maxLocals ret World_1 tables_1 room_1 Calls_1 rest_1 Pre_1 Post := by
  intro l hfl _ _ p e ha hc hk s m args below hf hA hF happ hP
  obtain ⟨hcalls, hrest, hpre⟩ := hP
  obtain ⟨-, -, -, hnamed, -, -, -, hat⟩ := (Spec.applies_iff hf).mp happ
  obtain ⟨hg, hn⟩ := and_e (Cond.before_iff.mp (show (Jvm.Cond.and given_1 narrow_1).before args s = true from hpre))
  obtain ⟨gc, hg⟩ := and_e hg
  obtain ⟨g0, hg⟩ := and_e hg
  obtain ⟨g1, hg⟩ := and_e hg
  have g2 := hg
  obtain ⟨w0, w1, w2, rfl⟩ : ∃ w0 w1 w2 : Value, args = #[w0, w1, w2] := by
    have hs : args.size = 3 := by simpa [Cond.value, given_1] using gc
    obtain ⟨L⟩ := args
    match L, hs with
    | [w0, w1, w2], _ => exact ⟨w0, w1, w2, rfl⟩
  have hw := fun d (hd : d ∈ tables_1) => atoms_spec (ws := Jvm.Cond.code x code maxLocals ret :: tables_1) hat d (List.mem_cons_of_mem _ hd)
  obtain ⟨i0, ei0⟩ := is_v g0
  obtain rfl : w0 = (.int i0) := Option.some.inj ei0
  obtain ⟨i1, ei1⟩ := is_v g1
  obtain rfl : w1 = (.int i1) := Option.some.inj ei1
  obtain ⟨i2, ei2⟩ := is_v g2
  obtain rfl : w2 = (.int i2) := Option.some.inj ei2
  obtain ⟨n, o, h1, h2, h3, _, L, rfl, ⟨rfl, -, N, -⟩, hq⟩ := rm0 l s _ hw i0 i1 i2 s.heap s.heap.size (Nat.le_refl _) tables_1 p e ha hc hk s m _ below hf ((Spec.applies_iff_loose hf).mp happ).1 ⟨rfl, State.Warmed39.refl s, rfl⟩ trivial
  refine ⟨n, _, h1, h2, h3, hpost _ _ _ _ _ _ ⟨Cond.after_iff.mpr rfl, Cond.after_iff.mpr (eq_i res_at (Term.int_eval (1)) rfl), trivial⟩ ⟨hq.1, hq.2.1, (hq.2.2.sift fun y hy => Or.inr (N y hy)).mono (by decide) (by decide)⟩⟩
theorem main_1_1 : Claimed_1_1 := comes_1 fun _ _ _ _ _ _ h hF => ⟨h.1, hF⟩
theorem main_1_2 : Claimed_1_2 := comes_1 fun _ _ _ _ _ _ h hF => ⟨h.2.1, hF⟩
end Jvm.Pilot.@@N@@
namespace Jvm.Pilot.@@N@@
open Jvm Jvm.ClassFile Sem Op Lib Jvm.Free Jvm.Stand Jvm.Pilot.@@N@@.Jvm.D
/-! MADE BY PROGRAM (witnessworld.py) out of the Statement's table words and the real class files: 12 classes; the members and pool entries that the words name. The judged class is class 1, her method 2. -/
namespace start1
open Jvm.ClassFile
def u (s : String) : CpInfo := .utf8 (stringToUtf16 s)
/-- a pool by its gaps: so many unusable entries, then the entry; so many at the end -/
def gap : Nat → List CpInfo → List CpInfo
  | 0, r => r
  | n + 1, r => .unusable :: gap n r
def poolList (es : List (Nat × CpInfo)) (last : Nat) : List CpInfo := es.foldr (fun e r => gap e.1 (e.2 :: r)) (gap last [])
def pool (es : List (Nat × CpInfo)) (last : Nat) : Array CpInfo := ⟨poolList es last⟩
def fileOf (pool : Array CpInfo) (this : Nat) (attrs : Array Attribute := #[]) (ms : Array MethodInfo := #[]) (fl : Nat := 33) (sup : Nat := 0) (ifs : Array Nat := #[]) (fds : Array FieldInfo := #[]) : ClassFile where
  minorVersion := 0
  majorVersion := 65
  constantPool := pool
  accessFlags := fl
  thisClass := this
  superClass := sup
  interfaces := ifs
  fields := fds
  methods := ms
  attributes := attrs
def plain (name : String) (sup : Option ClassId) : Class where
  name := name
  kind := .ordinary
  loader := none
  accessFlags := 33
  super := sup
  interfaces := #[]
  cf := none
  fields := #[]
  methods := #[]
  instanceTypes := #[]
  staticTypes := #[]
  resolved := #[]
  callSites := []
  init := .initialized
  statics := none
  mirror := none

def pool0 : Array CpInfo := pool [(5, u "<init>"), (0, u "()V"), (1, .class_ 10), (1, u "java/lang/Object")] 113

def k0c0 : Code := { maxStack := 0, maxLocals := 1, code := object_method_1_code, exceptionTable := #[], attributes := #[] }
def k0m0 : Method := { name := "<init>", desc := "()V", sig := { parameters := [], returnType := none }, accessFlags := 1, code := some k0c0 }
/-- java/lang/Object -/
def k0 : Class := { plain "java/lang/Object" none with
  accessFlags := 33
  interfaces := #[]
  cf := some (fileOf pool0 8 #[] #[{ accessFlags := 1, nameIndex := 5, descriptorIndex := 6, attributes := #[] }] 33 0 #[] #[])
  fields := #[]
  methods := #[k0m0]
  instanceTypes := #[]
  staticTypes := #[]
  resolved := Array.replicate 124 none
  statics := none }

def pool1 : Array CpInfo := pool [(2, .class_ 4), (1, u "java/lang/Object"), (0, u "<init>"), (0, u "()V"), (0, .integer 2147483647), (0, .methodref 9 10), (0, .class_ 11), (0, .nameAndType 12 13), (0, u "com/example/credence/credence/core/KernelContainsAllPinLaw"), (0, u "bit"), (0, u "(II)Z"), (0, .class_ 15), (0, u "com/example/credence/credence/core/GroupFounding$Kernel"), (0, .methodref 14 17), (0, .nameAndType 5 18), (0, u "([Z[I)V"), (0, .methodref 14 20), (0, .nameAndType 21 22), (0, u "containsAll"), (0, u "([Z)Z"), (3, u "law"), (0, u "(III)Z")] 8

def k1m0 : Method := { name := "<init>", desc := "()V", sig := { parameters := [], returnType := none }, accessFlags := 2, code := none }
def k1c1 : Code := { maxStack := 2, maxLocals := 2, code := method_2_code, exceptionTable := #[], attributes := #[] }
def k1m1 : Method := { name := "bit", desc := "(II)Z", sig := { parameters := [.int, .int], returnType := some .boolean }, accessFlags := 10, code := some k1c1 }
def k1c2 : Code := { maxStack := 5, maxLocals := 10, code := code, exceptionTable := #[], attributes := #[] }
def k1m2 : Method := { name := "law", desc := "(III)Z", sig := { parameters := [.int, .int, .int], returnType := some .boolean }, accessFlags := 9, code := some k1c2 }
/-- com/example/credence/credence/core/KernelContainsAllPinLaw -/
def k1 : Class := { plain "com/example/credence/credence/core/KernelContainsAllPinLaw" (some 0) with
  accessFlags := 49
  interfaces := #[]
  cf := some (fileOf pool1 9 #[] #[{ accessFlags := 2, nameIndex := 5, descriptorIndex := 6, attributes := #[] }, { accessFlags := 10, nameIndex := 12, descriptorIndex := 13, attributes := #[] }, { accessFlags := 9, nameIndex := 26, descriptorIndex := 27, attributes := #[] }] 49 2 #[] #[])
  fields := #[]
  methods := #[k1m0, k1m1, k1m2]
  instanceTypes := #[]
  staticTypes := #[]
  resolved := Array.replicate 36 none
  statics := none }

def pool2 : Array CpInfo := pool [(1, .methodref 2 3), (0, .class_ 4), (0, .nameAndType 5 6), (0, u "java/lang/Object"), (0, u "<init>"), (0, u "()V"), (0, .class_ 8), (0, u "java/lang/Record")] 13

def k2c0 : Code := { maxStack := 1, maxLocals := 1, code := jdk_30_method_1_code, exceptionTable := #[], attributes := #[] }
def k2m0 : Method := { name := "<init>", desc := "()V", sig := { parameters := [], returnType := none }, accessFlags := 4, code := some k2c0 }
/-- java/lang/Record -/
def k2 : Class := { plain "java/lang/Record" (some 0) with
  accessFlags := 1057
  interfaces := #[]
  cf := some (fileOf pool2 7 #[] #[{ accessFlags := 4, nameIndex := 5, descriptorIndex := 6, attributes := #[] }] 1057 2 #[] #[])
  fields := #[]
  methods := #[k2m0]
  instanceTypes := #[]
  staticTypes := #[]
  resolved := Array.replicate 22 none
  statics := none }

def pool3 : Array CpInfo := pool [(1, .methodref 2 3), (0, .class_ 4), (0, .nameAndType 5 6), (0, u "java/lang/Record"), (0, u "<init>"), (0, u "()V"), (0, .fieldref 8 9), (0, .class_ 10), (0, .nameAndType 11 12), (0, u "com/example/credence/credence/core/GroupFounding$Kernel"), (0, u "contains"), (0, u "[Z"), (0, .fieldref 8 14), (0, .nameAndType 15 16), (0, u "support"), (0, u "[I"), (12, u "([Z[I)V"), (3, u "containsAll"), (0, u "([Z)Z"), (9, .class_ 45), (0, u "com/example/credence/credence/core/GroupFounding")] 20

def k3c0 : Code := { maxStack := 2, maxLocals := 3, code := prog_17_method_1_code, exceptionTable := #[], attributes := #[] }
def k3m0 : Method := { name := "<init>", desc := "([Z[I)V", sig := { parameters := [(.array .boolean), (.array .int)], returnType := none }, accessFlags := 0, code := some k3c0 }
def k3c1 : Code := { maxStack := 2, maxLocals := 3, code := prog_17_method_2_code, exceptionTable := #[], attributes := #[] }
def k3m1 : Method := { name := "containsAll", desc := "([Z)Z", sig := { parameters := [(.array .boolean)], returnType := some .boolean }, accessFlags := 0, code := some k3c1 }
/-- com/example/credence/credence/core/GroupFounding$Kernel -/
def k3 : Class := { plain "com/example/credence/credence/core/GroupFounding$Kernel" (some 2) with
  accessFlags := 48
  interfaces := #[]
  cf := some (fileOf pool3 8 #[.nestHost 44] #[{ accessFlags := 0, nameIndex := 5, descriptorIndex := 29, attributes := #[] }, { accessFlags := 0, nameIndex := 33, descriptorIndex := 34, attributes := #[] }] 48 2 #[] #[{ accessFlags := 18, nameIndex := 11, descriptorIndex := 12, attributes := #[] }, { accessFlags := 18, nameIndex := 15, descriptorIndex := 16, attributes := #[] }])
  fields := #[{ name := "contains", type := (.array .boolean), accessFlags := 18, slot := 0, constantValue := 0 }, { name := "support", type := (.array .int), accessFlags := 18, slot := 1, constantValue := 0 }]
  methods := #[k3m0, k3m1]
  instanceTypes := #[(.array .boolean), (.array .int)]
  staticTypes := #[]
  resolved := Array.replicate 66 none
  statics := none }

def pool4 : Array CpInfo := pool [(1, u "java/lang/Cloneable"), (0, .class_ 1), (0, u "java/lang/Object"), (0, .class_ 3)] 3

/-- java/lang/Cloneable -/
def k4 : Class := { plain "java/lang/Cloneable" (some 0) with
  accessFlags := 1537
  interfaces := #[]
  cf := some (fileOf pool4 2 #[] #[] 1537 4 #[] #[])
  fields := #[]
  methods := #[]
  instanceTypes := #[]
  staticTypes := #[]
  resolved := Array.replicate 8 none
  statics := none }

def pool5 : Array CpInfo := pool [(1, u "java/io/Serializable"), (0, .class_ 1), (0, u "java/lang/Object"), (0, .class_ 3)] 3

/-- java/io/Serializable -/
def k5 : Class := { plain "java/io/Serializable" (some 0) with
  accessFlags := 1537
  interfaces := #[]
  cf := some (fileOf pool5 2 #[] #[] 1537 4 #[] #[])
  fields := #[]
  methods := #[]
  instanceTypes := #[]
  staticTypes := #[]
  resolved := Array.replicate 8 none
  statics := none }

/-- the primitive boolean -/
def k6 : Class := { plain "boolean" none with kind := .primitive 'Z', accessFlags := 0x411 }
/-- [Z -/
def k7 : Class := { plain "[Z" (some 0) with kind := .array 6 .boolean, interfaces := #[4, 5], accessFlags := 1041 }

/-- the primitive byte -/
def k8 : Class := { plain "byte" none with kind := .primitive 'B', accessFlags := 0x411 }
/-- [B -/
def k9 : Class := { plain "[B" (some 0) with kind := .array 8 .byte, interfaces := #[4, 5], accessFlags := 1041 }

/-- the primitive int -/
def k10 : Class := { plain "int" none with kind := .primitive 'I', accessFlags := 0x411 }
/-- [I -/
def k11 : Class := { plain "[I" (some 0) with kind := .array 10 .int, interfaces := #[4, 5], accessFlags := 1041 }

def heap : Heap := #[]
def classes : Array Class := #[k0, k1, k2, k3, k4, k5, k6, k7, k8, k9, k10, k11]
def interned : List (Array UInt16 × Addr) := []
def slotsUsed : Nat := 0
def theMethod : MethodId := ⟨1, 2⟩
def args0 : Array Value := #[.int 5, .int 4, .int 3]
def aboutOver (below : List Frame) : State where
  vm := { classes := classes, interned := interned.toArray }
  heap := heap
  slotsUsed := slotsUsed
  threads := #[{ frames := .invoking theMethod args0 :: below }]
def below0 : List Frame := [.native { method := ⟨0, 0⟩, args := #[] }]
def about1 : State := aboutOver below0
def p0 : Program := .bare "" "" ""
def e0 : Env := launch0.env 0 0 0
theorem w_frames : about1.frames = Frame.invoking theMethod args0 :: below0 := rfl
set_option maxRecDepth 65536 in
theorem w_args : argsFit about1.vm theMethod args0 = true := by decide +kernel
set_option maxRecDepth 65536 in
theorem w_heap : heapFits about1 = true := by decide +kernel
set_option maxRecDepth 65536 in
theorem w_runnable : about1.curStatus? = some .runnable := by decide +kernel
set_option maxRecDepth 65536 in
theorem w_alone : about1.alone = true := by decide +kernel
set_option maxRecDepth 65536 in
theorem w_named : about1.methodNamed? x = some theMethod := by decide +kernel
set_option maxRecDepth 65536 in
theorem w_hears : about1.hears theMethod below0 = true := by decide +kernel
set_option maxRecDepth 65536 in
theorem w_ripe : about1.ripe theMethod args0 below0 = true := by decide +kernel
theorem w_running : about1.status = .running := rfl
set_option maxRecDepth 65536 in
theorem w_room : about1.hasRoom e0.platform room_1 = true :=
  launch0.hasRoom_least _ room_1 (by decide +kernel) (by decide +kernel) (by decide +kernel) (by decide +kernel) (by decide +kernel) (by decide +kernel)
theorem allAtoms_all (ts : List Jvm.Cond) (a : Array Jvm.Value) (st : Jvm.State) : (allAtoms ts).before a st = ts.all (fun c => c.before a st) := by
  induction ts with
  | nil => rfl
  | cons c t ih =>
    show (Jvm.Cond.and c (allAtoms t)).before a st = _
    rw [Jvm.Cond.before_and, ih, List.all_cons]
def words1 : List Jvm.Cond := Jvm.Cond.code x code maxLocals ret :: tables_1
/-- a 'code' word, met by the world's own term for the bytes: nothing is compared byte by byte -/
theorem code_word {y : MethodName} {bytes : ByteArray} {mx : Nat} {rt : Option FieldType} {a : Array Value} {s : State} {m : MethodId} {meth : Method} {c : Code} (h1 : s.methodNamed? y = some m) (h2 : s.vm.method? m = some meth) (h3 : meth.code = some c) (h4 : c.code = bytes)
    (h5 : (c.maxLocals == mx && c.exceptionTable.isEmpty && decide (c.maxStack ≤ mostOperands) && decide (meth.sig.returnType = rt) && !meth.locks && decide (parseMethodDescriptor y.desc = some meth.sig)) = true) : (Jvm.Cond.code y bytes mx rt).before a s = true := by
  simp only [Bool.and_eq_true, beq_iff_eq, Bool.not_eq_true', decide_eq_true_eq] at h5
  obtain ⟨⟨⟨⟨⟨g1, g2⟩, g3⟩, g4⟩, g5⟩, g6⟩ := h5
  simp [Cond.before, Cond.holds, Cond.value, h1, h2, h3, h4, g1, g2, g3, g4, g5, g6]
def isCode : Jvm.Cond → Bool
  | .code _ _ _ _ => true
  | _ => false
theorem all_split {L : List Jvm.Cond} {P : Jvm.Cond → Bool} (h1 : L.all (fun c => isCode c || P c) = true) (h2 : ∀ c ∈ L.filter isCode, P c = true) : L.all P = true := by
  refine List.all_eq_true.mpr fun c hc => ?_
  have h := List.all_eq_true.mp h1 c hc
  rcases Bool.eq_false_or_eq_true (isCode c) with hi | hi
  · exact h2 c (List.mem_filter.mpr ⟨hc, hi⟩)
  · simpa [hi] using h
set_option maxRecDepth 65536 in
theorem w_c0 : (Jvm.Cond.code x code maxLocals ret).before args0 about1 = true := code_word (m := ⟨1, 2⟩) (meth := k1m2) (c := k1c2) (by decide +kernel) rfl rfl rfl (by decide +kernel)
set_option maxRecDepth 65536 in
theorem w_c1 : (Jvm.Cond.code ({ cls := "com/example/credence/credence/core/KernelContainsAllPinLaw", name := "bit", desc := "(II)Z" } : Jvm.MethodName) method_2_code (2 : Nat) (Option.some Jvm.ClassFile.FieldType.boolean)).before args0 about1 = true := code_word (m := ⟨1, 1⟩) (meth := k1m1) (c := k1c1) (by decide +kernel) rfl rfl rfl (by decide +kernel)
set_option maxRecDepth 65536 in
theorem w_c2 : (Jvm.Cond.code ({ cls := "com/example/credence/credence/core/GroupFounding$Kernel", name := "<init>", desc := "([Z[I)V" } : Jvm.MethodName) prog_17_method_1_code (3 : Nat) (Option.none : Option Jvm.ClassFile.FieldType)).before args0 about1 = true := code_word (m := ⟨3, 0⟩) (meth := k3m0) (c := k3c0) (by decide +kernel) rfl rfl rfl (by decide +kernel)
set_option maxRecDepth 65536 in
theorem w_c3 : (Jvm.Cond.code ({ cls := "java/lang/Record", name := "<init>", desc := "()V" } : Jvm.MethodName) jdk_30_method_1_code (1 : Nat) (Option.none : Option Jvm.ClassFile.FieldType)).before args0 about1 = true := code_word (m := ⟨2, 0⟩) (meth := k2m0) (c := k2c0) (by decide +kernel) rfl rfl rfl (by decide +kernel)
set_option maxRecDepth 65536 in
theorem w_c4 : (Jvm.Cond.code ({ cls := "java/lang/Object", name := "<init>", desc := "()V" } : Jvm.MethodName) object_method_1_code (1 : Nat) (Option.none : Option Jvm.ClassFile.FieldType)).before args0 about1 = true := code_word (m := ⟨0, 0⟩) (meth := k0m0) (c := k0c0) (by decide +kernel) rfl rfl rfl (by decide +kernel)
set_option maxRecDepth 65536 in
theorem w_c5 : (Jvm.Cond.code ({ cls := "com/example/credence/credence/core/GroupFounding$Kernel", name := "containsAll", desc := "([Z)Z" } : Jvm.MethodName) prog_17_method_2_code (3 : Nat) (Option.some Jvm.ClassFile.FieldType.boolean)).before args0 about1 = true := code_word (m := ⟨3, 1⟩) (meth := k3m1) (c := k3c1) (by decide +kernel) rfl rfl rfl (by decide +kernel)
def codes1 : List Jvm.Cond := [Jvm.Cond.code x code maxLocals ret, Jvm.Cond.code ({ cls := "com/example/credence/credence/core/KernelContainsAllPinLaw", name := "bit", desc := "(II)Z" } : Jvm.MethodName) method_2_code (2 : Nat) (Option.some Jvm.ClassFile.FieldType.boolean), Jvm.Cond.code ({ cls := "com/example/credence/credence/core/GroupFounding$Kernel", name := "<init>", desc := "([Z[I)V" } : Jvm.MethodName) prog_17_method_1_code (3 : Nat) (Option.none : Option Jvm.ClassFile.FieldType), Jvm.Cond.code ({ cls := "java/lang/Record", name := "<init>", desc := "()V" } : Jvm.MethodName) jdk_30_method_1_code (1 : Nat) (Option.none : Option Jvm.ClassFile.FieldType), Jvm.Cond.code ({ cls := "java/lang/Object", name := "<init>", desc := "()V" } : Jvm.MethodName) object_method_1_code (1 : Nat) (Option.none : Option Jvm.ClassFile.FieldType), Jvm.Cond.code ({ cls := "com/example/credence/credence/core/GroupFounding$Kernel", name := "containsAll", desc := "([Z)Z" } : Jvm.MethodName) prog_17_method_2_code (3 : Nat) (Option.some Jvm.ClassFile.FieldType.boolean)]
set_option maxRecDepth 65536 in
theorem codes_eq : words1.filter isCode = codes1 := rfl
theorem w_codes : ∀ c ∈ words1.filter isCode, c.before args0 about1 = true := by
  rw [codes_eq]
  intro c hc
  simp only [codes1, List.mem_cons, List.not_mem_nil, or_false] at hc
  rcases hc with rfl | rfl | rfl | rfl | rfl | rfl
  · exact w_c0
  · exact w_c1
  · exact w_c2
  · exact w_c3
  · exact w_c4
  · exact w_c5
set_option maxRecDepth 65536 in
theorem w_t1 : (words1.take 24).all (fun c => isCode c || c.before args0 about1) = true := by decide +kernel
set_option maxRecDepth 65536 in
theorem w_t2 : (words1.drop 24).all (fun c => isCode c || c.before args0 about1) = true := by decide +kernel
theorem w_tables : (allAtoms (Jvm.Cond.code x code maxLocals ret :: tables_1)).before args0 about1 = true := by
  rw [allAtoms_all]
  show words1.all (fun c => c.before args0 about1) = true
  refine all_split ?_ w_codes
  rw [← List.take_append_drop 24 words1, List.all_append, w_t1, w_t2]
  rfl
set_option maxRecDepth 65536 in
theorem w_case : (Jvm.Cond.and given_1 narrow_1).before args0 about1 = true := by decide +kernel
theorem w_applies : (headSpec (Jvm.Cond.code x code maxLocals ret :: tables_1) room_1).applies x e0.platform about1 = true :=
  (Spec.applies_iff w_frames).mpr ⟨w_running, w_runnable, w_alone, w_named, w_hears, w_ripe, w_room, w_tables⟩
theorem atStart : AtStart classFile x code maxLocals ret World_1 tables_1 room_1 Calls_1 rest_1 Pre_1 launch0 p0 e0 about1 theMethod args0 below0 :=
  ⟨lists_1, trivial, launch0.admits_env _ _ _, launch0.least_env, fairChoices_fair.cas, fairChoices_fair.clock, w_frames, w_args, w_heap, w_applies, trivial, trivial, w_case⟩
end start1
theorem witness_1 : WitnessClaimed_1 := ⟨start1.p0, start1.e0, start1.about1, start1.theMethod, start1.args0, start1.below0, start1.atStart⟩
end Jvm.Pilot.@@N@@
