import JvmDerived
import JvmDerived.Pilot.@@N@@Statement
import JvmDerived.Pilot.@@N@@Code
set_option linter.unusedVariables false
set_option linter.unusedSimpArgs false
namespace Jvm.RoadKit
open Sem ClassFile Op Lib Jvm.Stand Jvm.Free Jvm.LawKit
section New
variable {p : Program} {l : Launch} {e : Env} {R : Room} {s : State} {m : MethodId} {args : Array Value} {below : List Frame} {meth : Method} {c : Code} {T : State} {locs : List Loc} {cells slots : Nat}
theorem retI (X : Stand p l e R s m args below meth c T locs cells slots) (hx : p.tables.exec = Jvm.exec) {pc : Nat} {Ls : Array Slot} {z : Int32} {rest : List Value} (hret : meth.sig.returnType = some .int) (hd : decode c.code pc = .ok (.ireturn, 1)) {fs : List Frame}
    (hl : ∀ (f : JFrame) (acts : List Action), f.method = m → f.locked = none → f.entered = [] → (doReturn e (T.setTop f) acts (some (.int z))).1 = T.setFrames fs) : Steps p.tables e below (T.setTop (mkF m pc Ls (.int z :: rest))) (T.setFrames fs) := by
  have hm' : T.vm.method? m = some meth := X.method'
  have hn : narrow .int (.int z) = .int z := rfl
  show Steps p.tables e below (T.setTop { method := m, pc := pc, locals := Ls, stack := _ :: rest, locked := none }) _
  jvm_step X.here [X.here.top, hx, hd, hm', hret, hn]
  first | (intro acts; rw [hl _ acts rfl rfl rfl]) | rw [hl _ _ rfl rfl rfl]
  exact Steps.refl _
end New
end Jvm.RoadKit
namespace Jvm.Own
open Jvm Jvm.ClassFile Sem Op Lib Jvm.Free Jvm.Stand Jvm.LawKit Jvm.RoadKit Bundle
/-! ## A walk by continuations: `Goes` says that the run from here comes to a state with K; each rule takes one instruction off. -/
def Goes (p : Program) (e : Env) (below : List Frame) (K : State → Prop) (T : State) (m : MethodId) (pc : Nat) (L : Array Slot) (S : List Value) : Prop :=
  ∃ u, Steps p.tables e below (T.setTop (mkF m pc L S)) u ∧ K u
/-- where one body's walk stands: the standing facts, the state T with the heap h, what was written lies in new cells -/
def Wk (p : Program) (l : Launch) (e : Env) (R : Room) (s : State) (m : MethodId) (args : Array Value) (below : List Frame) (meth : Method) (c : Code) (Z : State) (n0 : Nat) (y : MethodName) (code : ByteArray) (ml : Nat) (ret : Option FieldType)
    (T : State) (cells slots : Nat) (h : Heap) : Prop :=
  p.tables.exec = Jvm.exec ∧ Z.Warmed39 s.vm ∧ c.code = code ∧ c.maxLocals = ml ∧ s.vm.findClass y.cls = some m.cls ∧ meth.name = y.name ∧ meth.sig.returnType = ret ∧ meth.locks = false ∧ n0 ≤ h.size ∧
  ∃ locs, Stand p l e R s m args below meth c T locs cells slots ∧ T.heap = h ∧ Fr n0 locs
def Qc (n0 : Nat) (w : Option Value) (Q : Heap → Prop) (v : Option Value) (h : Heap) (L : List Loc) : Prop := v = w ∧ Q h ∧ Fr n0 L ∧ n0 ≤ h.size
/-- what a body's end says: it returned w, the heap satisfies Q -/
def Done (below : List Frame) (s : State) (n0 : Nat) (R : Room) (w : Option Value) (Q : Heap → Prop) (u : State) : Prop :=
  ∃ o, u.status = .running ∧ Ended u below o ∧ ∃ v L, o = .returned v ∧ Qc n0 w Q v u.heap L ∧ FrameEnd s o u L R.cells R.slots
/-- a body's contract -/
def Con (l : Launch) (Z : State) (y : MethodName) (code : ByteArray) (ml : Nat) (ret : Option FieldType) (R : Room) (as : Array Value) (h0 : Heap) (n0 : Nat) (w : Option Value) (Q : Heap → Prop) : Prop :=
  ∀ ws, MetFree l y (head1 (Jvm.Cond.code y code ml ret :: ws) R) (fun a U => a = as ∧ Z.Warmed39 U.vm ∧ U.heap = h0) (fun _ _ _ _ _ => True)
    (fun _ U o U' => ∃ v L, o = .returned v ∧ Qc n0 w Q v U'.heap L ∧ FrameEnd U o U' L R.cells R.slots)
theorem con_of {l : Launch} {Z : State} {y : MethodName} {code : ByteArray} {ml : Nat} {ret : Option FieldType} {R : Room} {as : Array Value} {h0 : Heap} {n0 : Nat} {w : Option Value} {Q : Heap → Prop}
    (hpl : plainFor y = true) (hn0 : n0 ≤ h0.size) {L0 : Array Slot} (hL : ∀ m, entryFrame m as ml = mkF m 0 L0 [])
    (body : ∀ (p : Program) (e : Env) (s : State) (m : MethodId) (below : List Frame) (meth : Method) (c : Code) (T : State), Wk p l e R s m as below meth c Z n0 y code ml ret T 0 0 h0 → Goes p e below (Done below s n0 R w Q) T m 0 L0 []) :
    Con l Z y code ml ret R as h0 n0 w Q := by
  intro ws
  refine MetFree.of_bodySF hpl hisR ?_
  intro p e s m args below meth c s₁ Bd hml0 hP hK
  obtain ⟨rfl, hZ, hh⟩ := hP
  have X0 : Stand p l e R s m args below meth c s₁ [] 0 0 := Stand.of_body Bd
  have e0 : s₁.heap = h0 := by rw [← hh, Bd.state]; rfl
  obtain ⟨u, st, o, h1, h2, h3⟩ := body p e s m below meth c s₁ ⟨Bd.exec, hZ, Bd.bytes, hml0, findClass_of_methodNamed Bd.named, (name_of_methodNamed Bd.named Bd.method).1, Bd.returns, Bd.notSynchronized, hn0, [], X0, e0, Fr.nil n0⟩
  exact ⟨u, o, castTop (hL m) st, h1, h2, h3⟩
/-- Java's >>> -/
def ush (a b : Int32) : Int32 := (a.toUInt32 >>> (b &&& 31).toUInt32).toInt32
def ushL (a : Int64) (b : Int32) : Int64 := (a.toUInt64 >>> (b &&& 0x3f).toInt64.toUInt64).toInt64
/-- a local that holds nothing, or one word -/
def OneS (s : Slot) : Prop := s = .unset ∨ ∃ w : Value, s = .val w ∧ w.category = 1
theorem OneS.u : OneS .unset := Or.inl rfl
theorem OneS.i (z : Int32) : OneS (.val (.int z)) := Or.inr ⟨_, rfl, rfl⟩
theorem OneS.r (z : Addr) : OneS (.val (.ref z)) := Or.inr ⟨_, rfl, rfl⟩
section Rules
variable {p : Program} {l : Launch} {e : Env} {R : Room} {s : State} {m : MethodId} {args : Array Value} {below : List Frame} {meth : Method} {c : Code} {Z : State} {n0 : Nat} {y : MethodName} {code : ByteArray} {ml : Nat} {ret : Option FieldType}
  {T : State} {cells slots : Nat} {h : Heap} {K : State → Prop} {L : Array Slot} {S : List Value} {pc pc' : Nat} {a0 : Array Value}
theorem Goes.via {T' : State} {L' : Array Slot} {S' : List Value} (st : ∀ target, Steps p.tables e below (T'.setTop (mkF m pc' L' S')) target → Steps p.tables e below (T.setTop (mkF m pc L S)) target) (g : Goes p e below K T' m pc' L' S') : Goes p e below K T m pc L S := by
  obtain ⟨u, a, b⟩ := g
  exact ⟨u, st _ a, b⟩
theorem Wk.size (X : Wk p l e R s m args below meth c Z n0 y code ml ret T cells slots h) : n0 ≤ h.size := X.2.2.2.2.2.2.2.2.1
-- plain steps
theorem w_iloadN (X : Wk p l e R s m args below meth c Z n0 y code ml ret T cells slots h) {k : Fin 4} {v : Int32} (hd : decode code pc = .ok (.iload_n k, 1)) (hp : pc + 1 = pc') (hl : L[k.val]? = some (.val (.int v))) (g : Goes p e below K T m pc' L (.int v :: S)) : Goes p e below K T m pc L S := by
  obtain ⟨hx, -, hby, -, -, -, -, -, -, locs, X, -, -⟩ := X
  subst hp
  obtain ⟨u1, a1, b1⟩ := g
  exact ⟨u1, XS.iloadN (g := mkF m pc L S) X.here hx rfl (hb hby hd) hl a1, b1⟩
theorem w_iload (X : Wk p l e R s m args below meth c Z n0 y code ml ret T cells slots h) {k : Nat} {v : Int32} (hd : decode code pc = .ok (.iload k, 2)) (hp : pc + 2 = pc') (hl : L[k]? = some (.val (.int v))) (g : Goes p e below K T m pc' L (.int v :: S)) : Goes p e below K T m pc L S := by
  obtain ⟨hx, -, hby, -, -, -, -, -, -, locs, X, -, -⟩ := X
  subst hp
  obtain ⟨u1, a1, b1⟩ := g
  exact ⟨u1, XS.iload (g := mkF m pc L S) X.here hx rfl (hb hby hd) hl a1, b1⟩
theorem w_lloadN (X : Wk p l e R s m args below meth c Z n0 y code ml ret T cells slots h) {k : Fin 4} {v : Int64} (hd : decode code pc = .ok (.lload_n k, 1)) (hp : pc + 1 = pc') (hl : L[k.val]? = some (.val (.long v))) (g : Goes p e below K T m pc' L (.long v :: S)) : Goes p e below K T m pc L S := by
  obtain ⟨hx, -, hby, -, -, -, -, -, -, locs, X, -, -⟩ := X
  subst hp
  obtain ⟨u1, a1, b1⟩ := g
  exact ⟨u1, XS.lloadN (g := mkF m pc L S) X.here hx rfl (hb hby hd) hl a1, b1⟩
theorem w_lload (X : Wk p l e R s m args below meth c Z n0 y code ml ret T cells slots h) {k : Nat} {v : Int64} (hd : decode code pc = .ok (.lload k, 2)) (hp : pc + 2 = pc') (hl : L[k]? = some (.val (.long v))) (g : Goes p e below K T m pc' L (.long v :: S)) : Goes p e below K T m pc L S := by
  obtain ⟨hx, -, hby, -, -, -, -, -, -, locs, X, -, -⟩ := X
  subst hp
  obtain ⟨u1, a1, b1⟩ := g
  exact ⟨u1, XS.lload (g := mkF m pc L S) X.here hx rfl (hb hby hd) hl a1, b1⟩
theorem w_aloadN (X : Wk p l e R s m args below meth c Z n0 y code ml ret T cells slots h) {k : Fin 4} {v : Value} (hd : decode code pc = .ok (.aload_n k, 1)) (hp : pc + 1 = pc') (hl : L[k.val]? = some (.val v)) (hv : v.isRef = true) (g : Goes p e below K T m pc' L (v :: S)) : Goes p e below K T m pc L S := by
  obtain ⟨hx, -, hby, -, -, -, -, -, -, locs, X, -, -⟩ := X
  subst hp
  obtain ⟨u1, a1, b1⟩ := g
  exact ⟨u1, XS.aloadN (g := mkF m pc L S) X.here hx rfl (hb hby hd) hl hv a1, b1⟩
theorem w_aload (X : Wk p l e R s m args below meth c Z n0 y code ml ret T cells slots h) {k : Nat} {v : Value} (hd : decode code pc = .ok (.aload k, 2)) (hp : pc + 2 = pc') (hl : L[k]? = some (.val v)) (hv : v.isRef = true) (g : Goes p e below K T m pc' L (v :: S)) : Goes p e below K T m pc L S := by
  obtain ⟨hx, -, hby, -, -, -, -, -, -, locs, X, -, -⟩ := X
  subst hp
  obtain ⟨u1, a1, b1⟩ := g
  exact ⟨u1, XS.aload (g := mkF m pc L S) X.here hx rfl (hb hby hd) hl hv a1, b1⟩
theorem w_istoreN (X : Wk p l e R s m args below meth c Z n0 y code ml ret T cells slots h) {k : Fin 4} {v : Int32} {L' : Array Slot} (hd : decode code pc = .ok (.istore_n k, 1)) (hp : pc + 1 = pc') (hl : storeLocals L k.val (.int v) = some L') (g : Goes p e below K T m pc' L' S) : Goes p e below K T m pc L (.int v :: S) := by
  obtain ⟨hx, -, hby, -, -, -, -, -, -, locs, X, -, -⟩ := X
  subst hp
  obtain ⟨u1, a1, b1⟩ := g
  exact ⟨u1, XS.istoreN (g := mkF m pc L (.int v :: S)) X.here hx rfl (hb hby hd) rfl hl a1, b1⟩
theorem w_istore (X : Wk p l e R s m args below meth c Z n0 y code ml ret T cells slots h) {k : Nat} {v : Int32} {L' : Array Slot} (hd : decode code pc = .ok (.istore k, 2)) (hp : pc + 2 = pc') (hl : storeLocals L k (.int v) = some L') (g : Goes p e below K T m pc' L' S) : Goes p e below K T m pc L (.int v :: S) := by
  obtain ⟨hx, -, hby, -, -, -, -, -, -, locs, X, -, -⟩ := X
  subst hp
  obtain ⟨u1, a1, b1⟩ := g
  exact ⟨u1, XS.istore (g := mkF m pc L (.int v :: S)) X.here hx rfl (hb hby hd) rfl hl a1, b1⟩
theorem w_lstoreN (X : Wk p l e R s m args below meth c Z n0 y code ml ret T cells slots h) {k : Fin 4} {v : Int64} {L' : Array Slot} (hd : decode code pc = .ok (.lstore_n k, 1)) (hp : pc + 1 = pc') (hl : storeLocals L k.val (.long v) = some L') (g : Goes p e below K T m pc' L' S) : Goes p e below K T m pc L (.long v :: S) := by
  obtain ⟨hx, -, hby, -, -, -, -, -, -, locs, X, -, -⟩ := X
  subst hp
  obtain ⟨u1, a1, b1⟩ := g
  exact ⟨u1, XS.lstoreN (g := mkF m pc L (.long v :: S)) X.here hx rfl (hb hby hd) rfl hl a1, b1⟩
theorem w_lstore (X : Wk p l e R s m args below meth c Z n0 y code ml ret T cells slots h) {k : Nat} {v : Int64} {L' : Array Slot} (hd : decode code pc = .ok (.lstore k, 2)) (hp : pc + 2 = pc') (hl : storeLocals L k (.long v) = some L') (g : Goes p e below K T m pc' L' S) : Goes p e below K T m pc L (.long v :: S) := by
  obtain ⟨hx, -, hby, -, -, -, -, -, -, locs, X, -, -⟩ := X
  subst hp
  obtain ⟨u1, a1, b1⟩ := g
  exact ⟨u1, XS.lstore (g := mkF m pc L (.long v :: S)) X.here hx rfl (hb hby hd) rfl hl a1, b1⟩
theorem w_astoreN (X : Wk p l e R s m args below meth c Z n0 y code ml ret T cells slots h) {k : Fin 4} {v : Value} {L' : Array Slot} (hd : decode code pc = .ok (.astore_n k, 1)) (hp : pc + 1 = pc') (hv : v.isRef = true) (hl : storeLocals L k.val v = some L') (g : Goes p e below K T m pc' L' S) : Goes p e below K T m pc L (v :: S) := by
  obtain ⟨hx, -, hby, -, -, -, -, -, -, locs, X, -, -⟩ := X
  subst hp
  obtain ⟨u1, a1, b1⟩ := g
  exact ⟨u1, XS.astoreN (g := mkF m pc L (v :: S)) X.here hx rfl (hb hby hd) rfl hv hl a1, b1⟩
theorem w_astore (X : Wk p l e R s m args below meth c Z n0 y code ml ret T cells slots h) {k : Nat} {v : Value} {L' : Array Slot} (hd : decode code pc = .ok (.astore k, 2)) (hp : pc + 2 = pc') (hv : v.isRef = true) (hl : storeLocals L k v = some L') (g : Goes p e below K T m pc' L' S) : Goes p e below K T m pc L (v :: S) := by
  obtain ⟨hx, -, hby, -, -, -, -, -, -, locs, X, -, -⟩ := X
  subst hp
  obtain ⟨u1, a1, b1⟩ := g
  exact ⟨u1, XS.astore (g := mkF m pc L (v :: S)) X.here hx rfl (hb hby hd) rfl hv hl a1, b1⟩
theorem w_iconst (X : Wk p l e R s m args below meth c Z n0 y code ml ret T cells slots h) {i : Int} {v : Int32} (hd : decode code pc = .ok (.iconst i, 1)) (hp : pc + 1 = pc') (hv : Int32.ofInt i = v) (g : Goes p e below K T m pc' L (.int v :: S)) : Goes p e below K T m pc L S := by
  obtain ⟨hx, -, hby, -, -, -, -, -, -, locs, X, -, -⟩ := X
  subst hp hv
  obtain ⟨u1, a1, b1⟩ := g
  exact ⟨u1, XS.iconst (g := mkF m pc L S) X.here hx rfl (hb hby hd) a1, b1⟩
theorem w_bipush (X : Wk p l e R s m args below meth c Z n0 y code ml ret T cells slots h) {i : Int} {v : Int32} (hd : decode code pc = .ok (.bipush i, 2)) (hp : pc + 2 = pc') (hv : (Int8.ofInt i).toInt32 = v) (g : Goes p e below K T m pc' L (.int v :: S)) : Goes p e below K T m pc L S := by
  obtain ⟨hx, -, hby, -, -, -, -, -, -, locs, X, -, -⟩ := X
  subst hp hv
  obtain ⟨u1, a1, b1⟩ := g
  exact ⟨u1, XS.bipush (g := mkF m pc L S) X.here hx rfl (hb hby hd) a1, b1⟩
theorem w_sipush (X : Wk p l e R s m args below meth c Z n0 y code ml ret T cells slots h) {i : Int} {v : Int32} (hd : decode code pc = .ok (.sipush i, 3)) (hp : pc + 3 = pc') (hv : (Int16.ofInt i).toInt32 = v) (g : Goes p e below K T m pc' L (.int v :: S)) : Goes p e below K T m pc L S := by
  obtain ⟨hx, -, hby, -, -, -, -, -, -, locs, X, -, -⟩ := X
  subst hp hv
  obtain ⟨u1, a1, b1⟩ := g
  exact ⟨u1, XS.sipush (g := mkF m pc L S) X.here hx rfl (hb hby hd) a1, b1⟩
theorem w_lconst (X : Wk p l e R s m args below meth c Z n0 y code ml ret T cells slots h) {i : Fin 2} {v : Int64} (hd : decode code pc = .ok (.lconst i, 1)) (hp : pc + 1 = pc') (hv : Int64.ofNat i = v) (g : Goes p e below K T m pc' L (.long v :: S)) : Goes p e below K T m pc L S := by
  obtain ⟨hx, -, hby, -, -, -, -, -, -, locs, X, -, -⟩ := X
  subst hp hv
  obtain ⟨u1, a1, b1⟩ := g
  exact ⟨u1, XS.lconst (g := mkF m pc L S) X.here hx rfl (hb hby hd) a1, b1⟩
theorem w_ldcInt (X : Wk p l e R s m args below meth c Z n0 y code ml ret T cells slots h) {i : Nat} {v : Int32} (hc : (Jvm.Cond.constant y.cls i v).before a0 Z = true) (hd : decode code pc = .ok (.ldc i, 2)) (hp : pc + 2 = pc') (g : Goes p e below K T m pc' L (.int v :: S)) : Goes p e below K T m pc L S := by
  obtain ⟨hx, hZ, hby, -, hown, -, -, -, -, locs, X, -, -⟩ := X
  subst hp
  obtain ⟨u1, a1, b1⟩ := g
  exact ⟨u1, X.ldcInt hx hown (mvT hZ hc) (g := mkF m pc L S) rfl (hb hby hd) _ a1, b1⟩
theorem w_ldc2Long (X : Wk p l e R s m args below meth c Z n0 y code ml ret T cells slots h) {i : Nat} {v : Int64} (hc : (Jvm.Cond.constantLong y.cls i v).before a0 Z = true) (hd : decode code pc = .ok (.ldc2_w i, 3)) (hp : pc + 3 = pc') (g : Goes p e below K T m pc' L (.long v :: S)) : Goes p e below K T m pc L S := by
  obtain ⟨hx, hZ, hby, -, hown, -, -, -, -, locs, X, -, -⟩ := X
  subst hp
  obtain ⟨u1, a1, b1⟩ := g
  exact ⟨u1, X.ldc2Long hx hown (mvT hZ hc) (g := mkF m pc L S) rfl (hb hby hd) _ a1, b1⟩
theorem w_iinc (X : Wk p l e R s m args below meth c Z n0 y code ml ret T cells slots h) {k : Nat} {d : Int} {v v' : Int32} {L' : Array Slot} (hd : decode code pc = .ok (.iinc k d, 3)) (hp : pc + 3 = pc') (hl : L[k]? = some (.val (.int v))) (hv : v + Int32.ofInt d = v') (hl' : storeLocals L k (.int v') = some L') (g : Goes p e below K T m pc' L' S) : Goes p e below K T m pc L S := by
  obtain ⟨hx, -, hby, -, -, -, -, -, -, locs, X, -, -⟩ := X
  subst hp hv
  obtain ⟨u1, a1, b1⟩ := g
  exact ⟨u1, XS.iinc (g := mkF m pc L S) X.here hx rfl (hb hby hd) hl hl' a1, b1⟩
theorem w_goto (X : Wk p l e R s m args below meth c Z n0 y code ml ret T cells slots h) {o : Int} (hd : decode code pc = .ok (.goto o, 3)) (ho : 0 ≤ (pc : Int) + o) (hp : ((pc : Int) + o).toNat = pc') (g : Goes p e below K T m pc' L S) : Goes p e below K T m pc L S := by
  obtain ⟨hx, -, hby, -, -, -, -, -, -, locs, X, -, -⟩ := X
  obtain ⟨u1, a1, b1⟩ := g
  exact ⟨u1, XS.goto (g := mkF m pc L S) X.here hx rfl (pc0 := pc) rfl (hb hby hd) ho hp a1, b1⟩
theorem w_dup (X : Wk p l e R s m args below meth c Z n0 y code ml ret T cells slots h) {v : Value} (hd : decode code pc = .ok (.dup, 1)) (hp : pc + 1 = pc') (hv : v.category = 1) (g : Goes p e below K T m pc' L (v :: v :: S)) : Goes p e below K T m pc L (v :: S) := by
  obtain ⟨hx, -, hby, -, -, -, -, -, -, locs, X, -, -⟩ := X
  subst hp
  obtain ⟨u1, a1, b1⟩ := g
  exact ⟨u1, XS.dup (g := mkF m pc L (v :: S)) X.here hx rfl (hb hby hd) rfl hv a1, b1⟩
theorem w_dup2 (X : Wk p l e R s m args below meth c Z n0 y code ml ret T cells slots h) {v w : Value} (hd : decode code pc = .ok (.dup2, 1)) (hp : pc + 1 = pc') (hv : v.category = 1) (hw : w.category = 1) (g : Goes p e below K T m pc' L (v :: w :: v :: w :: S)) : Goes p e below K T m pc L (v :: w :: S) := by
  obtain ⟨hx, -, hby, -, -, -, -, -, -, locs, X, -, -⟩ := X
  subst hp
  obtain ⟨u1, a1, b1⟩ := g
  exact ⟨u1, Jvm.Free.XT.dup2 (g := mkF m pc L (v :: w :: S)) X.here hx rfl (hb hby hd) rfl hv hw a1, b1⟩
theorem w_pop (X : Wk p l e R s m args below meth c Z n0 y code ml ret T cells slots h) {v : Value} (hd : decode code pc = .ok (.pop, 1)) (hp : pc + 1 = pc') (hv : v.category = 1) (g : Goes p e below K T m pc' L S) : Goes p e below K T m pc L (v :: S) := by
  obtain ⟨hx, -, hby, -, -, -, -, -, -, locs, X, -, -⟩ := X
  subst hp
  obtain ⟨u1, a1, b1⟩ := g
  exact ⟨u1, XS.pop (g := mkF m pc L (v :: S)) X.here hx rfl (hb hby hd) rfl hv a1, b1⟩
theorem w_dupX1 (X : Wk p l e R s m args below meth c Z n0 y code ml ret T cells slots h) {v w : Value} (hd : decode code pc = .ok (.dup_x1, 1)) (hp : pc + 1 = pc') (hv : v.category = 1) (hw : w.category = 1) (g : Goes p e below K T m pc' L (v :: w :: v :: S)) : Goes p e below K T m pc L (v :: w :: S) := by
  obtain ⟨hx, -, hby, -, -, -, -, -, -, locs, X, -, -⟩ := X
  subst hp
  obtain ⟨u1, a1, b1⟩ := g
  exact ⟨u1, XS.dupX1 (g := mkF m pc L (v :: w :: S)) X.here hx rfl (hb hby hd) rfl hv hw a1, b1⟩
theorem w_null (X : Wk p l e R s m args below meth c Z n0 y code ml ret T cells slots h) (hd : decode code pc = .ok (.aconst_null, 1)) (hp : pc + 1 = pc') (g : Goes p e below K T m pc' L (.null :: S)) : Goes p e below K T m pc L S := by
  obtain ⟨hx, -, hby, -, -, -, -, -, -, locs, X, -, -⟩ := X
  subst hp
  obtain ⟨u1, a1, b1⟩ := g
  exact ⟨u1, XS.aconstNull (g := mkF m pc L S) X.here hx rfl (hb hby hd) a1, b1⟩
theorem w_ifnullYes (X : Wk p l e R s m args below meth c Z n0 y code ml ret T cells slots h) {o : Int} (hd : decode code pc = .ok (.ifnull o, 3)) (ho : 0 ≤ (pc : Int) + o) (hp : ((pc : Int) + o).toNat = pc') (g : Goes p e below K T m pc' L S) : Goes p e below K T m pc L (.null :: S) := by
  obtain ⟨hx, -, hby, -, -, -, -, -, -, locs, X, -, -⟩ := X
  obtain ⟨u1, a1, b1⟩ := g
  exact ⟨u1, XS.ifnullYes (g := mkF m pc L (.null :: S)) X.here hx rfl (pc0 := pc) rfl (hb hby hd) rfl ho hp a1, b1⟩
theorem w_ifnullNo (X : Wk p l e R s m args below meth c Z n0 y code ml ret T cells slots h) {o : Int} {a : Addr} (hd : decode code pc = .ok (.ifnull o, 3)) (hp : pc + 3 = pc') (g : Goes p e below K T m pc' L S) : Goes p e below K T m pc L (.ref a :: S) := by
  obtain ⟨hx, -, hby, -, -, -, -, -, -, locs, X, -, -⟩ := X
  subst hp
  obtain ⟨u1, a1, b1⟩ := g
  exact ⟨u1, XS.ifnullNo (g := mkF m pc L (.ref a :: S)) X.here hx rfl (hb hby hd) rfl a1, b1⟩
theorem w_ifnonnullYes (X : Wk p l e R s m args below meth c Z n0 y code ml ret T cells slots h) {o : Int} {a : Addr} (hd : decode code pc = .ok (.ifnonnull o, 3)) (ho : 0 ≤ (pc : Int) + o) (hp : ((pc : Int) + o).toNat = pc') (g : Goes p e below K T m pc' L S) : Goes p e below K T m pc L (.ref a :: S) := by
  obtain ⟨hx, -, hby, -, -, -, -, -, -, locs, X, -, -⟩ := X
  obtain ⟨u1, a1, b1⟩ := g
  exact ⟨u1, XS.ifnonnullYes (g := mkF m pc L (.ref a :: S)) X.here hx rfl (pc0 := pc) rfl (hb hby hd) rfl ho hp a1, b1⟩
theorem w_ifnonnullNo (X : Wk p l e R s m args below meth c Z n0 y code ml ret T cells slots h) {o : Int} (hd : decode code pc = .ok (.ifnonnull o, 3)) (hp : pc + 3 = pc') (g : Goes p e below K T m pc' L S) : Goes p e below K T m pc L (.null :: S) := by
  obtain ⟨hx, -, hby, -, -, -, -, -, -, locs, X, -, -⟩ := X
  subst hp
  obtain ⟨u1, a1, b1⟩ := g
  exact ⟨u1, XS.ifnonnullNo (g := mkF m pc L (.null :: S)) X.here hx rfl (hb hby hd) rfl a1, b1⟩
theorem w_iadd (X : Wk p l e R s m args below meth c Z n0 y code ml ret T cells slots h) {a b : Int32} (hd : decode code pc = .ok (.iadd, 1)) (hp : pc + 1 = pc') (g : Goes p e below K T m pc' L (.int (a + b) :: S)) : Goes p e below K T m pc L (.int b :: .int a :: S) := by
  obtain ⟨hx, -, hby, -, -, -, -, -, -, locs, X, -, -⟩ := X
  subst hp
  obtain ⟨u1, a1, b1⟩ := g
  exact ⟨u1, XS.iadd (g := mkF m pc L (.int b :: .int a :: S)) X.here hx rfl (hb hby hd) rfl a1, b1⟩
theorem w_ladd (X : Wk p l e R s m args below meth c Z n0 y code ml ret T cells slots h) {a b : Int64} (hd : decode code pc = .ok (.ladd, 1)) (hp : pc + 1 = pc') (g : Goes p e below K T m pc' L (.long (a + b) :: S)) : Goes p e below K T m pc L (.long b :: .long a :: S) := by
  obtain ⟨hx, -, hby, -, -, -, -, -, -, locs, X, -, -⟩ := X
  subst hp
  obtain ⟨u1, a1, b1⟩ := g
  exact ⟨u1, XS.ladd (g := mkF m pc L (.long b :: .long a :: S)) X.here hx rfl (hb hby hd) rfl a1, b1⟩
theorem w_isub (X : Wk p l e R s m args below meth c Z n0 y code ml ret T cells slots h) {a b : Int32} (hd : decode code pc = .ok (.isub, 1)) (hp : pc + 1 = pc') (g : Goes p e below K T m pc' L (.int (a - b) :: S)) : Goes p e below K T m pc L (.int b :: .int a :: S) := by
  obtain ⟨hx, -, hby, -, -, -, -, -, -, locs, X, -, -⟩ := X
  subst hp
  obtain ⟨u1, a1, b1⟩ := g
  exact ⟨u1, XS.isub (g := mkF m pc L (.int b :: .int a :: S)) X.here hx rfl (hb hby hd) rfl a1, b1⟩
theorem w_lsub (X : Wk p l e R s m args below meth c Z n0 y code ml ret T cells slots h) {a b : Int64} (hd : decode code pc = .ok (.lsub, 1)) (hp : pc + 1 = pc') (g : Goes p e below K T m pc' L (.long (a - b) :: S)) : Goes p e below K T m pc L (.long b :: .long a :: S) := by
  obtain ⟨hx, -, hby, -, -, -, -, -, -, locs, X, -, -⟩ := X
  subst hp
  obtain ⟨u1, a1, b1⟩ := g
  exact ⟨u1, XS.lsub (g := mkF m pc L (.long b :: .long a :: S)) X.here hx rfl (hb hby hd) rfl a1, b1⟩
theorem w_imul (X : Wk p l e R s m args below meth c Z n0 y code ml ret T cells slots h) {a b : Int32} (hd : decode code pc = .ok (.imul, 1)) (hp : pc + 1 = pc') (g : Goes p e below K T m pc' L (.int (a * b) :: S)) : Goes p e below K T m pc L (.int b :: .int a :: S) := by
  obtain ⟨hx, -, hby, -, -, -, -, -, -, locs, X, -, -⟩ := X
  subst hp
  obtain ⟨u1, a1, b1⟩ := g
  exact ⟨u1, XS.imul (g := mkF m pc L (.int b :: .int a :: S)) X.here hx rfl (hb hby hd) rfl a1, b1⟩
theorem w_lmul (X : Wk p l e R s m args below meth c Z n0 y code ml ret T cells slots h) {a b : Int64} (hd : decode code pc = .ok (.lmul, 1)) (hp : pc + 1 = pc') (g : Goes p e below K T m pc' L (.long (a * b) :: S)) : Goes p e below K T m pc L (.long b :: .long a :: S) := by
  obtain ⟨hx, -, hby, -, -, -, -, -, -, locs, X, -, -⟩ := X
  subst hp
  obtain ⟨u1, a1, b1⟩ := g
  exact ⟨u1, XS.lmul (g := mkF m pc L (.long b :: .long a :: S)) X.here hx rfl (hb hby hd) rfl a1, b1⟩
theorem w_iand (X : Wk p l e R s m args below meth c Z n0 y code ml ret T cells slots h) {a b : Int32} (hd : decode code pc = .ok (.iand, 1)) (hp : pc + 1 = pc') (g : Goes p e below K T m pc' L (.int (a &&& b) :: S)) : Goes p e below K T m pc L (.int b :: .int a :: S) := by
  obtain ⟨hx, -, hby, -, -, -, -, -, -, locs, X, -, -⟩ := X
  subst hp
  obtain ⟨u1, a1, b1⟩ := g
  exact ⟨u1, XS.iand (g := mkF m pc L (.int b :: .int a :: S)) X.here hx rfl (hb hby hd) rfl a1, b1⟩
theorem w_land (X : Wk p l e R s m args below meth c Z n0 y code ml ret T cells slots h) {a b : Int64} (hd : decode code pc = .ok (.land, 1)) (hp : pc + 1 = pc') (g : Goes p e below K T m pc' L (.long (a &&& b) :: S)) : Goes p e below K T m pc L (.long b :: .long a :: S) := by
  obtain ⟨hx, -, hby, -, -, -, -, -, -, locs, X, -, -⟩ := X
  subst hp
  obtain ⟨u1, a1, b1⟩ := g
  exact ⟨u1, XS.land (g := mkF m pc L (.long b :: .long a :: S)) X.here hx rfl (hb hby hd) rfl a1, b1⟩
theorem w_ior (X : Wk p l e R s m args below meth c Z n0 y code ml ret T cells slots h) {a b : Int32} (hd : decode code pc = .ok (.ior, 1)) (hp : pc + 1 = pc') (g : Goes p e below K T m pc' L (.int (a ||| b) :: S)) : Goes p e below K T m pc L (.int b :: .int a :: S) := by
  obtain ⟨hx, -, hby, -, -, -, -, -, -, locs, X, -, -⟩ := X
  subst hp
  obtain ⟨u1, a1, b1⟩ := g
  exact ⟨u1, XS.ior (g := mkF m pc L (.int b :: .int a :: S)) X.here hx rfl (hb hby hd) rfl a1, b1⟩
theorem w_lor (X : Wk p l e R s m args below meth c Z n0 y code ml ret T cells slots h) {a b : Int64} (hd : decode code pc = .ok (.lor, 1)) (hp : pc + 1 = pc') (g : Goes p e below K T m pc' L (.long (a ||| b) :: S)) : Goes p e below K T m pc L (.long b :: .long a :: S) := by
  obtain ⟨hx, -, hby, -, -, -, -, -, -, locs, X, -, -⟩ := X
  subst hp
  obtain ⟨u1, a1, b1⟩ := g
  exact ⟨u1, XS.lor (g := mkF m pc L (.long b :: .long a :: S)) X.here hx rfl (hb hby hd) rfl a1, b1⟩
theorem w_ixor (X : Wk p l e R s m args below meth c Z n0 y code ml ret T cells slots h) {a b : Int32} (hd : decode code pc = .ok (.ixor, 1)) (hp : pc + 1 = pc') (g : Goes p e below K T m pc' L (.int (a ^^^ b) :: S)) : Goes p e below K T m pc L (.int b :: .int a :: S) := by
  obtain ⟨hx, -, hby, -, -, -, -, -, -, locs, X, -, -⟩ := X
  subst hp
  obtain ⟨u1, a1, b1⟩ := g
  exact ⟨u1, XS.ixor (g := mkF m pc L (.int b :: .int a :: S)) X.here hx rfl (hb hby hd) rfl a1, b1⟩
theorem w_lxor (X : Wk p l e R s m args below meth c Z n0 y code ml ret T cells slots h) {a b : Int64} (hd : decode code pc = .ok (.lxor, 1)) (hp : pc + 1 = pc') (g : Goes p e below K T m pc' L (.long (a ^^^ b) :: S)) : Goes p e below K T m pc L (.long b :: .long a :: S) := by
  obtain ⟨hx, -, hby, -, -, -, -, -, -, locs, X, -, -⟩ := X
  subst hp
  obtain ⟨u1, a1, b1⟩ := g
  exact ⟨u1, XS.lxor (g := mkF m pc L (.long b :: .long a :: S)) X.here hx rfl (hb hby hd) rfl a1, b1⟩
theorem w_ishl (X : Wk p l e R s m args below meth c Z n0 y code ml ret T cells slots h) {a b : Int32} (hd : decode code pc = .ok (.ishl, 1)) (hp : pc + 1 = pc') (g : Goes p e below K T m pc' L (.int (a <<< (b &&& 31)) :: S)) : Goes p e below K T m pc L (.int b :: .int a :: S) := by
  obtain ⟨hx, -, hby, -, -, -, -, -, -, locs, X, -, -⟩ := X
  subst hp
  obtain ⟨u1, a1, b1⟩ := g
  exact ⟨u1, XS.ishl (g := mkF m pc L (.int b :: .int a :: S)) X.here hx rfl (hb hby hd) rfl a1, b1⟩
theorem w_ishr (X : Wk p l e R s m args below meth c Z n0 y code ml ret T cells slots h) {a b : Int32} (hd : decode code pc = .ok (.ishr, 1)) (hp : pc + 1 = pc') (g : Goes p e below K T m pc' L (.int (a >>> (b &&& 31)) :: S)) : Goes p e below K T m pc L (.int b :: .int a :: S) := by
  obtain ⟨hx, -, hby, -, -, -, -, -, -, locs, X, -, -⟩ := X
  subst hp
  obtain ⟨u1, a1, b1⟩ := g
  exact ⟨u1, XS.ishr (g := mkF m pc L (.int b :: .int a :: S)) X.here hx rfl (hb hby hd) rfl a1, b1⟩
theorem w_iushr (X : Wk p l e R s m args below meth c Z n0 y code ml ret T cells slots h) {a b : Int32} (hd : decode code pc = .ok (.iushr, 1)) (hp : pc + 1 = pc') (g : Goes p e below K T m pc' L (.int (ush a b) :: S)) : Goes p e below K T m pc L (.int b :: .int a :: S) := by
  obtain ⟨hx, -, hby, -, -, -, -, -, -, locs, X, -, -⟩ := X
  subst hp
  obtain ⟨u1, a1, b1⟩ := g
  exact ⟨u1, XS.iushr (g := mkF m pc L (.int b :: .int a :: S)) X.here hx rfl (hb hby hd) rfl a1, b1⟩
theorem w_lshl (X : Wk p l e R s m args below meth c Z n0 y code ml ret T cells slots h) {a : Int64} {b : Int32} (hd : decode code pc = .ok (.lshl, 1)) (hp : pc + 1 = pc') (g : Goes p e below K T m pc' L (.long (a <<< (b &&& 0x3f).toInt64) :: S)) : Goes p e below K T m pc L (.int b :: .long a :: S) := by
  obtain ⟨hx, -, hby, -, -, -, -, -, -, locs, X, -, -⟩ := X
  subst hp
  obtain ⟨u1, a1, b1⟩ := g
  exact ⟨u1, XS.lshl (g := mkF m pc L (.int b :: .long a :: S)) X.here hx rfl (hb hby hd) rfl a1, b1⟩
theorem w_lshr (X : Wk p l e R s m args below meth c Z n0 y code ml ret T cells slots h) {a : Int64} {b : Int32} (hd : decode code pc = .ok (.lshr, 1)) (hp : pc + 1 = pc') (g : Goes p e below K T m pc' L (.long (a >>> (b &&& 0x3f).toInt64) :: S)) : Goes p e below K T m pc L (.int b :: .long a :: S) := by
  obtain ⟨hx, -, hby, -, -, -, -, -, -, locs, X, -, -⟩ := X
  subst hp
  obtain ⟨u1, a1, b1⟩ := g
  exact ⟨u1, XS.lshr (g := mkF m pc L (.int b :: .long a :: S)) X.here hx rfl (hb hby hd) rfl a1, b1⟩
theorem w_lushr (X : Wk p l e R s m args below meth c Z n0 y code ml ret T cells slots h) {a : Int64} {b : Int32} (hd : decode code pc = .ok (.lushr, 1)) (hp : pc + 1 = pc') (g : Goes p e below K T m pc' L (.long (ushL a b) :: S)) : Goes p e below K T m pc L (.int b :: .long a :: S) := by
  obtain ⟨hx, -, hby, -, -, -, -, -, -, locs, X, -, -⟩ := X
  subst hp
  obtain ⟨u1, a1, b1⟩ := g
  exact ⟨u1, XS.lushr (g := mkF m pc L (.int b :: .long a :: S)) X.here hx rfl (hb hby hd) rfl a1, b1⟩
theorem w_ineg (X : Wk p l e R s m args below meth c Z n0 y code ml ret T cells slots h) {a : Int32} (hd : decode code pc = .ok (.ineg, 1)) (hp : pc + 1 = pc') (g : Goes p e below K T m pc' L (.int (-a) :: S)) : Goes p e below K T m pc L (.int a :: S) := by
  obtain ⟨hx, -, hby, -, -, -, -, -, -, locs, X, -, -⟩ := X
  subst hp
  obtain ⟨u1, a1, b1⟩ := g
  exact ⟨u1, XS.ineg (g := mkF m pc L (.int a :: S)) X.here hx rfl (hb hby hd) rfl a1, b1⟩
theorem w_lneg (X : Wk p l e R s m args below meth c Z n0 y code ml ret T cells slots h) {a : Int64} (hd : decode code pc = .ok (.lneg, 1)) (hp : pc + 1 = pc') (g : Goes p e below K T m pc' L (.long (-a) :: S)) : Goes p e below K T m pc L (.long a :: S) := by
  obtain ⟨hx, -, hby, -, -, -, -, -, -, locs, X, -, -⟩ := X
  subst hp
  obtain ⟨u1, a1, b1⟩ := g
  exact ⟨u1, XS.lneg (g := mkF m pc L (.long a :: S)) X.here hx rfl (hb hby hd) rfl a1, b1⟩
theorem w_i2l (X : Wk p l e R s m args below meth c Z n0 y code ml ret T cells slots h) {a : Int32} (hd : decode code pc = .ok (.i2l, 1)) (hp : pc + 1 = pc') (g : Goes p e below K T m pc' L (.long a.toInt64 :: S)) : Goes p e below K T m pc L (.int a :: S) := by
  obtain ⟨hx, -, hby, -, -, -, -, -, -, locs, X, -, -⟩ := X
  subst hp
  obtain ⟨u1, a1, b1⟩ := g
  exact ⟨u1, XS.i2l (g := mkF m pc L (.int a :: S)) X.here hx rfl (hb hby hd) rfl a1, b1⟩
theorem w_l2i (X : Wk p l e R s m args below meth c Z n0 y code ml ret T cells slots h) {a : Int64} (hd : decode code pc = .ok (.l2i, 1)) (hp : pc + 1 = pc') (g : Goes p e below K T m pc' L (.int a.toInt32 :: S)) : Goes p e below K T m pc L (.long a :: S) := by
  obtain ⟨hx, -, hby, -, -, -, -, -, -, locs, X, -, -⟩ := X
  subst hp
  obtain ⟨u1, a1, b1⟩ := g
  exact ⟨u1, XS.l2i (g := mkF m pc L (.long a :: S)) X.here hx rfl (hb hby hd) rfl a1, b1⟩
theorem w_i2b (X : Wk p l e R s m args below meth c Z n0 y code ml ret T cells slots h) {a : Int32} (hd : decode code pc = .ok (.i2b, 1)) (hp : pc + 1 = pc') (g : Goes p e below K T m pc' L (.int a.toInt8.toInt32 :: S)) : Goes p e below K T m pc L (.int a :: S) := by
  obtain ⟨hx, -, hby, -, -, -, -, -, -, locs, X, -, -⟩ := X
  subst hp
  obtain ⟨u1, a1, b1⟩ := g
  exact ⟨u1, XS.i2b (g := mkF m pc L (.int a :: S)) X.here hx rfl (hb hby hd) rfl a1, b1⟩
theorem w_i2s (X : Wk p l e R s m args below meth c Z n0 y code ml ret T cells slots h) {a : Int32} (hd : decode code pc = .ok (.i2s, 1)) (hp : pc + 1 = pc') (g : Goes p e below K T m pc' L (.int a.toInt16.toInt32 :: S)) : Goes p e below K T m pc L (.int a :: S) := by
  obtain ⟨hx, -, hby, -, -, -, -, -, -, locs, X, -, -⟩ := X
  subst hp
  obtain ⟨u1, a1, b1⟩ := g
  exact ⟨u1, XS.i2s (g := mkF m pc L (.int a :: S)) X.here hx rfl (hb hby hd) rfl a1, b1⟩
theorem w_i2c (X : Wk p l e R s m args below meth c Z n0 y code ml ret T cells slots h) {a : Int32} (hd : decode code pc = .ok (.i2c, 1)) (hp : pc + 1 = pc') (g : Goes p e below K T m pc' L (.int a.toUInt32.toUInt16.toUInt32.toInt32 :: S)) : Goes p e below K T m pc L (.int a :: S) := by
  obtain ⟨hx, -, hby, -, -, -, -, -, -, locs, X, -, -⟩ := X
  subst hp
  obtain ⟨u1, a1, b1⟩ := g
  exact ⟨u1, XS.i2c (g := mkF m pc L (.int a :: S)) X.here hx rfl (hb hby hd) rfl a1, b1⟩
theorem w_idiv (X : Wk p l e R s m args below meth c Z n0 y code ml ret T cells slots h) {a b : Int32} (hd : decode code pc = .ok (.idiv, 1)) (hp : pc + 1 = pc') (hb0 : b ≠ 0) (g : Goes p e below K T m pc' L (.int (a / b) :: S)) : Goes p e below K T m pc L (.int b :: .int a :: S) := by
  obtain ⟨hx, -, hby, -, -, -, -, -, -, locs, X, -, -⟩ := X
  subst hp
  obtain ⟨u1, a1, b1⟩ := g
  exact ⟨u1, XS.idiv (g := mkF m pc L (.int b :: .int a :: S)) X.here hx rfl (hb hby hd) rfl hb0 a1, b1⟩
theorem w_irem (X : Wk p l e R s m args below meth c Z n0 y code ml ret T cells slots h) {a b : Int32} (hd : decode code pc = .ok (.irem, 1)) (hp : pc + 1 = pc') (hb0 : b ≠ 0) (g : Goes p e below K T m pc' L (.int (a % b) :: S)) : Goes p e below K T m pc L (.int b :: .int a :: S) := by
  obtain ⟨hx, -, hby, -, -, -, -, -, -, locs, X, -, -⟩ := X
  subst hp
  obtain ⟨u1, a1, b1⟩ := g
  exact ⟨u1, Jvm.RoadKit.iremM (g := mkF m pc L (.int b :: .int a :: S)) X hx rfl (hb hby hd) rfl hb0 a1, b1⟩
theorem w_ldiv (X : Wk p l e R s m args below meth c Z n0 y code ml ret T cells slots h) {a b : Int64} (hd : decode code pc = .ok (.ldiv, 1)) (hp : pc + 1 = pc') (hb0 : b ≠ 0) (g : Goes p e below K T m pc' L (.long (a / b) :: S)) : Goes p e below K T m pc L (.long b :: .long a :: S) := by
  obtain ⟨hx, -, hby, -, -, -, -, -, -, locs, X, -, -⟩ := X
  subst hp
  obtain ⟨u1, a1, b1⟩ := g
  exact ⟨u1, XS.ldiv (g := mkF m pc L (.long b :: .long a :: S)) X.here hx rfl (hb hby hd) rfl hb0 a1, b1⟩
theorem w_lrem (X : Wk p l e R s m args below meth c Z n0 y code ml ret T cells slots h) {a b : Int64} (hd : decode code pc = .ok (.lrem, 1)) (hp : pc + 1 = pc') (hb0 : b ≠ 0) (g : Goes p e below K T m pc' L (.long (a % b) :: S)) : Goes p e below K T m pc L (.long b :: .long a :: S) := by
  obtain ⟨hx, -, hby, -, -, -, -, -, -, locs, X, -, -⟩ := X
  subst hp
  rw [← lrem_mod] at g
  obtain ⟨u1, a1, b1⟩ := g
  exact ⟨u1, XS.lrem (g := mkF m pc L (.long b :: .long a :: S)) X.here hx rfl (hb hby hd) rfl hb0 a1, b1⟩
theorem w_lcmp (X : Wk p l e R s m args below meth c Z n0 y code ml ret T cells slots h) {a b : Int64} (hd : decode code pc = .ok (.lcmp, 1)) (hp : pc + 1 = pc') (g : Goes p e below K T m pc' L (.int (lcmpW a b) :: S)) : Goes p e below K T m pc L (.long b :: .long a :: S) := by
  obtain ⟨hx, -, hby, -, -, -, -, -, -, locs, X, -, -⟩ := X
  subst hp
  obtain ⟨u1, a1, b1⟩ := g
  exact ⟨u1, XS.lcmp (g := mkF m pc L (.long b :: .long a :: S)) X.here hx rfl (hb hby hd) rfl a1, b1⟩
theorem w_icmp_lt (X : Wk p l e R s m args below meth c Z n0 y code ml ret T cells slots h) {a b : Int32} {o : Int} {pcT pcF : Nat} (hd : decode code pc = .ok (.if_icmp .lt o, 3)) (ho : 0 ≤ (pc : Int) + o) (hT : ((pc : Int) + o).toNat = pcT) (hF : pc + 3 = pcF) (gT : a < b → Goes p e below K T m pcT L S) (gF : ¬ a < b → Goes p e below K T m pcF L S) : Goes p e below K T m pc L (.int b :: .int a :: S) := by
  obtain ⟨hx, -, hby, -, -, -, -, -, -, locs, X, -, -⟩ := X
  subst hF
  by_cases q : a < b
  · obtain ⟨u1, a1, b1⟩ := (gT q)
    exact ⟨u1, XS.icmpYes (g := mkF m pc L (.int b :: .int a :: S)) X.here hx rfl (pc0 := pc) rfl (hb hby hd) rfl (tlt q).1 ho hT a1, b1⟩
  · obtain ⟨u1, a1, b1⟩ := (gF q)
    exact ⟨u1, XS.icmpNo (g := mkF m pc L (.int b :: .int a :: S)) X.here hx rfl (hb hby hd) rfl (flt q).1 a1, b1⟩
theorem w_if_lt (X : Wk p l e R s m args below meth c Z n0 y code ml ret T cells slots h) {a : Int32} {o : Int} {pcT pcF : Nat} (hd : decode code pc = .ok (.ifCond .lt o, 3)) (ho : 0 ≤ (pc : Int) + o) (hT : ((pc : Int) + o).toNat = pcT) (hF : pc + 3 = pcF) (gT : a < 0 → Goes p e below K T m pcT L S) (gF : ¬ a < 0 → Goes p e below K T m pcF L S) : Goes p e below K T m pc L (.int a :: S) := by
  obtain ⟨hx, -, hby, -, -, -, -, -, -, locs, X, -, -⟩ := X
  subst hF
  by_cases q : a < 0
  · obtain ⟨u1, a1, b1⟩ := (gT q)
    exact ⟨u1, XS.ifYes (g := mkF m pc L (.int a :: S)) X.here hx rfl (pc0 := pc) rfl (hb hby hd) rfl ((if0 _ _).trans (tlt q).1) ho hT a1, b1⟩
  · obtain ⟨u1, a1, b1⟩ := (gF q)
    exact ⟨u1, XS.ifNo (g := mkF m pc L (.int a :: S)) X.here hx rfl (hb hby hd) rfl ((if0 _ _).trans (flt q).1) a1, b1⟩
theorem w_lcmp_lt (X : Wk p l e R s m args below meth c Z n0 y code ml ret T cells slots h) {a b : Int64} {o : Int} {pcI pcT pcF : Nat} (hd0 : decode code pc = .ok (.lcmp, 1)) (hp : pc + 1 = pcI) (hd : decode code pcI = .ok (.ifCond .lt o, 3)) (ho : 0 ≤ (pcI : Int) + o) (hT : ((pcI : Int) + o).toNat = pcT) (hF : pcI + 3 = pcF) (gT : a < b → Goes p e below K T m pcT L S) (gF : ¬ a < b → Goes p e below K T m pcF L S) : Goes p e below K T m pc L (.long b :: .long a :: S) :=
  w_lcmp X hd0 hp (w_if_lt X hd ho hT hF (fun q => gT ((lw_lt a b).mp q)) (fun q => gF (fun r => q ((lw_lt a b).mpr r))))
theorem w_icmp_ge (X : Wk p l e R s m args below meth c Z n0 y code ml ret T cells slots h) {a b : Int32} {o : Int} {pcT pcF : Nat} (hd : decode code pc = .ok (.if_icmp .ge o, 3)) (ho : 0 ≤ (pc : Int) + o) (hT : ((pc : Int) + o).toNat = pcT) (hF : pc + 3 = pcF) (gT : ¬ a < b → Goes p e below K T m pcT L S) (gF : a < b → Goes p e below K T m pcF L S) : Goes p e below K T m pc L (.int b :: .int a :: S) := by
  obtain ⟨hx, -, hby, -, -, -, -, -, -, locs, X, -, -⟩ := X
  subst hF
  by_cases q : ¬ a < b
  · obtain ⟨u1, a1, b1⟩ := (gT q)
    exact ⟨u1, XS.icmpYes (g := mkF m pc L (.int b :: .int a :: S)) X.here hx rfl (pc0 := pc) rfl (hb hby hd) rfl (flt q).2.1 ho hT a1, b1⟩
  · obtain ⟨u1, a1, b1⟩ := (gF (Classical.not_not.mp q))
    exact ⟨u1, XS.icmpNo (g := mkF m pc L (.int b :: .int a :: S)) X.here hx rfl (hb hby hd) rfl (tlt (Classical.not_not.mp q)).2.1 a1, b1⟩
theorem w_if_ge (X : Wk p l e R s m args below meth c Z n0 y code ml ret T cells slots h) {a : Int32} {o : Int} {pcT pcF : Nat} (hd : decode code pc = .ok (.ifCond .ge o, 3)) (ho : 0 ≤ (pc : Int) + o) (hT : ((pc : Int) + o).toNat = pcT) (hF : pc + 3 = pcF) (gT : ¬ a < 0 → Goes p e below K T m pcT L S) (gF : a < 0 → Goes p e below K T m pcF L S) : Goes p e below K T m pc L (.int a :: S) := by
  obtain ⟨hx, -, hby, -, -, -, -, -, -, locs, X, -, -⟩ := X
  subst hF
  by_cases q : ¬ a < 0
  · obtain ⟨u1, a1, b1⟩ := (gT q)
    exact ⟨u1, XS.ifYes (g := mkF m pc L (.int a :: S)) X.here hx rfl (pc0 := pc) rfl (hb hby hd) rfl ((if0 _ _).trans (flt q).2.1) ho hT a1, b1⟩
  · obtain ⟨u1, a1, b1⟩ := (gF (Classical.not_not.mp q))
    exact ⟨u1, XS.ifNo (g := mkF m pc L (.int a :: S)) X.here hx rfl (hb hby hd) rfl ((if0 _ _).trans (tlt (Classical.not_not.mp q)).2.1) a1, b1⟩
theorem w_lcmp_ge (X : Wk p l e R s m args below meth c Z n0 y code ml ret T cells slots h) {a b : Int64} {o : Int} {pcI pcT pcF : Nat} (hd0 : decode code pc = .ok (.lcmp, 1)) (hp : pc + 1 = pcI) (hd : decode code pcI = .ok (.ifCond .ge o, 3)) (ho : 0 ≤ (pcI : Int) + o) (hT : ((pcI : Int) + o).toNat = pcT) (hF : pcI + 3 = pcF) (gT : ¬ a < b → Goes p e below K T m pcT L S) (gF : a < b → Goes p e below K T m pcF L S) : Goes p e below K T m pc L (.long b :: .long a :: S) :=
  w_lcmp X hd0 hp (w_if_ge X hd ho hT hF (fun q => gT (fun r => q ((lw_lt a b).mpr r))) (fun q => gF ((lw_lt a b).mp q)))
theorem w_icmp_gt (X : Wk p l e R s m args below meth c Z n0 y code ml ret T cells slots h) {a b : Int32} {o : Int} {pcT pcF : Nat} (hd : decode code pc = .ok (.if_icmp .gt o, 3)) (ho : 0 ≤ (pc : Int) + o) (hT : ((pc : Int) + o).toNat = pcT) (hF : pc + 3 = pcF) (gT : b < a → Goes p e below K T m pcT L S) (gF : ¬ b < a → Goes p e below K T m pcF L S) : Goes p e below K T m pc L (.int b :: .int a :: S) := by
  obtain ⟨hx, -, hby, -, -, -, -, -, -, locs, X, -, -⟩ := X
  subst hF
  by_cases q : b < a
  · obtain ⟨u1, a1, b1⟩ := (gT q)
    exact ⟨u1, XS.icmpYes (g := mkF m pc L (.int b :: .int a :: S)) X.here hx rfl (pc0 := pc) rfl (hb hby hd) rfl (tlt q).2.2.1 ho hT a1, b1⟩
  · obtain ⟨u1, a1, b1⟩ := (gF q)
    exact ⟨u1, XS.icmpNo (g := mkF m pc L (.int b :: .int a :: S)) X.here hx rfl (hb hby hd) rfl (flt q).2.2.1 a1, b1⟩
theorem w_if_gt (X : Wk p l e R s m args below meth c Z n0 y code ml ret T cells slots h) {a : Int32} {o : Int} {pcT pcF : Nat} (hd : decode code pc = .ok (.ifCond .gt o, 3)) (ho : 0 ≤ (pc : Int) + o) (hT : ((pc : Int) + o).toNat = pcT) (hF : pc + 3 = pcF) (gT : 0 < a → Goes p e below K T m pcT L S) (gF : ¬ 0 < a → Goes p e below K T m pcF L S) : Goes p e below K T m pc L (.int a :: S) := by
  obtain ⟨hx, -, hby, -, -, -, -, -, -, locs, X, -, -⟩ := X
  subst hF
  by_cases q : 0 < a
  · obtain ⟨u1, a1, b1⟩ := (gT q)
    exact ⟨u1, XS.ifYes (g := mkF m pc L (.int a :: S)) X.here hx rfl (pc0 := pc) rfl (hb hby hd) rfl ((if0 _ _).trans (tlt q).2.2.1) ho hT a1, b1⟩
  · obtain ⟨u1, a1, b1⟩ := (gF q)
    exact ⟨u1, XS.ifNo (g := mkF m pc L (.int a :: S)) X.here hx rfl (hb hby hd) rfl ((if0 _ _).trans (flt q).2.2.1) a1, b1⟩
theorem w_lcmp_gt (X : Wk p l e R s m args below meth c Z n0 y code ml ret T cells slots h) {a b : Int64} {o : Int} {pcI pcT pcF : Nat} (hd0 : decode code pc = .ok (.lcmp, 1)) (hp : pc + 1 = pcI) (hd : decode code pcI = .ok (.ifCond .gt o, 3)) (ho : 0 ≤ (pcI : Int) + o) (hT : ((pcI : Int) + o).toNat = pcT) (hF : pcI + 3 = pcF) (gT : b < a → Goes p e below K T m pcT L S) (gF : ¬ b < a → Goes p e below K T m pcF L S) : Goes p e below K T m pc L (.long b :: .long a :: S) :=
  w_lcmp X hd0 hp (w_if_gt X hd ho hT hF (fun q => gT ((lw_gt a b).mp q)) (fun q => gF (fun r => q ((lw_gt a b).mpr r))))
theorem w_icmp_le (X : Wk p l e R s m args below meth c Z n0 y code ml ret T cells slots h) {a b : Int32} {o : Int} {pcT pcF : Nat} (hd : decode code pc = .ok (.if_icmp .le o, 3)) (ho : 0 ≤ (pc : Int) + o) (hT : ((pc : Int) + o).toNat = pcT) (hF : pc + 3 = pcF) (gT : ¬ b < a → Goes p e below K T m pcT L S) (gF : b < a → Goes p e below K T m pcF L S) : Goes p e below K T m pc L (.int b :: .int a :: S) := by
  obtain ⟨hx, -, hby, -, -, -, -, -, -, locs, X, -, -⟩ := X
  subst hF
  by_cases q : ¬ b < a
  · obtain ⟨u1, a1, b1⟩ := (gT q)
    exact ⟨u1, XS.icmpYes (g := mkF m pc L (.int b :: .int a :: S)) X.here hx rfl (pc0 := pc) rfl (hb hby hd) rfl (flt q).2.2.2 ho hT a1, b1⟩
  · obtain ⟨u1, a1, b1⟩ := (gF (Classical.not_not.mp q))
    exact ⟨u1, XS.icmpNo (g := mkF m pc L (.int b :: .int a :: S)) X.here hx rfl (hb hby hd) rfl (tlt (Classical.not_not.mp q)).2.2.2 a1, b1⟩
theorem w_if_le (X : Wk p l e R s m args below meth c Z n0 y code ml ret T cells slots h) {a : Int32} {o : Int} {pcT pcF : Nat} (hd : decode code pc = .ok (.ifCond .le o, 3)) (ho : 0 ≤ (pc : Int) + o) (hT : ((pc : Int) + o).toNat = pcT) (hF : pc + 3 = pcF) (gT : ¬ 0 < a → Goes p e below K T m pcT L S) (gF : 0 < a → Goes p e below K T m pcF L S) : Goes p e below K T m pc L (.int a :: S) := by
  obtain ⟨hx, -, hby, -, -, -, -, -, -, locs, X, -, -⟩ := X
  subst hF
  by_cases q : ¬ 0 < a
  · obtain ⟨u1, a1, b1⟩ := (gT q)
    exact ⟨u1, XS.ifYes (g := mkF m pc L (.int a :: S)) X.here hx rfl (pc0 := pc) rfl (hb hby hd) rfl ((if0 _ _).trans (flt q).2.2.2) ho hT a1, b1⟩
  · obtain ⟨u1, a1, b1⟩ := (gF (Classical.not_not.mp q))
    exact ⟨u1, XS.ifNo (g := mkF m pc L (.int a :: S)) X.here hx rfl (hb hby hd) rfl ((if0 _ _).trans (tlt (Classical.not_not.mp q)).2.2.2) a1, b1⟩
theorem w_lcmp_le (X : Wk p l e R s m args below meth c Z n0 y code ml ret T cells slots h) {a b : Int64} {o : Int} {pcI pcT pcF : Nat} (hd0 : decode code pc = .ok (.lcmp, 1)) (hp : pc + 1 = pcI) (hd : decode code pcI = .ok (.ifCond .le o, 3)) (ho : 0 ≤ (pcI : Int) + o) (hT : ((pcI : Int) + o).toNat = pcT) (hF : pcI + 3 = pcF) (gT : ¬ b < a → Goes p e below K T m pcT L S) (gF : b < a → Goes p e below K T m pcF L S) : Goes p e below K T m pc L (.long b :: .long a :: S) :=
  w_lcmp X hd0 hp (w_if_le X hd ho hT hF (fun q => gT (fun r => q ((lw_gt a b).mpr r))) (fun q => gF ((lw_gt a b).mp q)))
theorem w_icmp_eq (X : Wk p l e R s m args below meth c Z n0 y code ml ret T cells slots h) {a b : Int32} {o : Int} {pcT pcF : Nat} (hd : decode code pc = .ok (.if_icmp .eq o, 3)) (ho : 0 ≤ (pc : Int) + o) (hT : ((pc : Int) + o).toNat = pcT) (hF : pc + 3 = pcF) (gT : a = b → Goes p e below K T m pcT L S) (gF : ¬ a = b → Goes p e below K T m pcF L S) : Goes p e below K T m pc L (.int b :: .int a :: S) := by
  obtain ⟨hx, -, hby, -, -, -, -, -, -, locs, X, -, -⟩ := X
  subst hF
  by_cases q : a = b
  · obtain ⟨u1, a1, b1⟩ := (gT q)
    exact ⟨u1, XS.icmpYes (g := mkF m pc L (.int b :: .int a :: S)) X.here hx rfl (pc0 := pc) rfl (hb hby hd) rfl (teq q).1 ho hT a1, b1⟩
  · obtain ⟨u1, a1, b1⟩ := (gF q)
    exact ⟨u1, XS.icmpNo (g := mkF m pc L (.int b :: .int a :: S)) X.here hx rfl (hb hby hd) rfl (feq q).1 a1, b1⟩
theorem w_if_eq (X : Wk p l e R s m args below meth c Z n0 y code ml ret T cells slots h) {a : Int32} {o : Int} {pcT pcF : Nat} (hd : decode code pc = .ok (.ifCond .eq o, 3)) (ho : 0 ≤ (pc : Int) + o) (hT : ((pc : Int) + o).toNat = pcT) (hF : pc + 3 = pcF) (gT : a = 0 → Goes p e below K T m pcT L S) (gF : ¬ a = 0 → Goes p e below K T m pcF L S) : Goes p e below K T m pc L (.int a :: S) := by
  obtain ⟨hx, -, hby, -, -, -, -, -, -, locs, X, -, -⟩ := X
  subst hF
  by_cases q : a = 0
  · obtain ⟨u1, a1, b1⟩ := (gT q)
    exact ⟨u1, XS.ifYes (g := mkF m pc L (.int a :: S)) X.here hx rfl (pc0 := pc) rfl (hb hby hd) rfl ((if0 _ _).trans (teq q).1) ho hT a1, b1⟩
  · obtain ⟨u1, a1, b1⟩ := (gF q)
    exact ⟨u1, XS.ifNo (g := mkF m pc L (.int a :: S)) X.here hx rfl (hb hby hd) rfl ((if0 _ _).trans (feq q).1) a1, b1⟩
theorem w_lcmp_eq (X : Wk p l e R s m args below meth c Z n0 y code ml ret T cells slots h) {a b : Int64} {o : Int} {pcI pcT pcF : Nat} (hd0 : decode code pc = .ok (.lcmp, 1)) (hp : pc + 1 = pcI) (hd : decode code pcI = .ok (.ifCond .eq o, 3)) (ho : 0 ≤ (pcI : Int) + o) (hT : ((pcI : Int) + o).toNat = pcT) (hF : pcI + 3 = pcF) (gT : a = b → Goes p e below K T m pcT L S) (gF : ¬ a = b → Goes p e below K T m pcF L S) : Goes p e below K T m pc L (.long b :: .long a :: S) :=
  w_lcmp X hd0 hp (w_if_eq X hd ho hT hF (fun q => gT ((lw_eq a b).mp q)) (fun q => gF (fun r => q ((lw_eq a b).mpr r))))
theorem w_icmp_ne (X : Wk p l e R s m args below meth c Z n0 y code ml ret T cells slots h) {a b : Int32} {o : Int} {pcT pcF : Nat} (hd : decode code pc = .ok (.if_icmp .ne o, 3)) (ho : 0 ≤ (pc : Int) + o) (hT : ((pc : Int) + o).toNat = pcT) (hF : pc + 3 = pcF) (gT : ¬ a = b → Goes p e below K T m pcT L S) (gF : a = b → Goes p e below K T m pcF L S) : Goes p e below K T m pc L (.int b :: .int a :: S) := by
  obtain ⟨hx, -, hby, -, -, -, -, -, -, locs, X, -, -⟩ := X
  subst hF
  by_cases q : ¬ a = b
  · obtain ⟨u1, a1, b1⟩ := (gT q)
    exact ⟨u1, XS.icmpYes (g := mkF m pc L (.int b :: .int a :: S)) X.here hx rfl (pc0 := pc) rfl (hb hby hd) rfl (feq q).2 ho hT a1, b1⟩
  · obtain ⟨u1, a1, b1⟩ := (gF (Classical.not_not.mp q))
    exact ⟨u1, XS.icmpNo (g := mkF m pc L (.int b :: .int a :: S)) X.here hx rfl (hb hby hd) rfl (teq (Classical.not_not.mp q)).2 a1, b1⟩
theorem w_if_ne (X : Wk p l e R s m args below meth c Z n0 y code ml ret T cells slots h) {a : Int32} {o : Int} {pcT pcF : Nat} (hd : decode code pc = .ok (.ifCond .ne o, 3)) (ho : 0 ≤ (pc : Int) + o) (hT : ((pc : Int) + o).toNat = pcT) (hF : pc + 3 = pcF) (gT : ¬ a = 0 → Goes p e below K T m pcT L S) (gF : a = 0 → Goes p e below K T m pcF L S) : Goes p e below K T m pc L (.int a :: S) := by
  obtain ⟨hx, -, hby, -, -, -, -, -, -, locs, X, -, -⟩ := X
  subst hF
  by_cases q : ¬ a = 0
  · obtain ⟨u1, a1, b1⟩ := (gT q)
    exact ⟨u1, XS.ifYes (g := mkF m pc L (.int a :: S)) X.here hx rfl (pc0 := pc) rfl (hb hby hd) rfl ((if0 _ _).trans (feq q).2) ho hT a1, b1⟩
  · obtain ⟨u1, a1, b1⟩ := (gF (Classical.not_not.mp q))
    exact ⟨u1, XS.ifNo (g := mkF m pc L (.int a :: S)) X.here hx rfl (hb hby hd) rfl ((if0 _ _).trans (teq (Classical.not_not.mp q)).2) a1, b1⟩
theorem w_lcmp_ne (X : Wk p l e R s m args below meth c Z n0 y code ml ret T cells slots h) {a b : Int64} {o : Int} {pcI pcT pcF : Nat} (hd0 : decode code pc = .ok (.lcmp, 1)) (hp : pc + 1 = pcI) (hd : decode code pcI = .ok (.ifCond .ne o, 3)) (ho : 0 ≤ (pcI : Int) + o) (hT : ((pcI : Int) + o).toNat = pcT) (hF : pcI + 3 = pcF) (gT : ¬ a = b → Goes p e below K T m pcT L S) (gF : a = b → Goes p e below K T m pcF L S) : Goes p e below K T m pc L (.long b :: .long a :: S) :=
  w_lcmp X hd0 hp (w_if_ne X hd ho hT hF (fun q => gT (fun r => q ((lw_eq a b).mpr r))) (fun q => gF ((lw_eq a b).mp q)))
-- returns
theorem w_ireturn (X : Wk p l e R s m args below meth c Z n0 y code ml (some .int) T cells slots h) {w : Option Value} {Q : Heap → Prop} {z : Int32} (hd : decode code pc = .ok (.ireturn, 1)) (hw : w = some (.int z)) (hq : Q h) (hc : cells ≤ R.cells) (hs : slots ≤ R.slots) : Goes p e below (Done below s n0 R w Q) T m pc L (.int z :: S) := by
  obtain ⟨hx, hZ, hby, hml, hown, hnm, hret, hlk, hn, locs, X, eT, N⟩ := X
  obtain ⟨fs, hr, hrun, hended, hW, hsame⟩ := X.leave (v := some (.int z)) (fun h => by rw [hret] at h; cases h) hlk
  exact ⟨_, Jvm.RoadKit.retI X hx hret (hb hby hd) hr, _, hrun, hended, _, locs, rfl, ⟨hw.symm, (by show Q T.heap; rw [eT]; exact hq), N, (by show n0 ≤ T.heap.size; rw [eT]; exact hn)⟩, ⟨_, rfl⟩, hW, hsame.mono hc hs⟩
theorem w_nreturn {t : FieldType} (X : Wk p l e R s m args below meth c Z n0 y code ml (some t) T cells slots h) {w : Option Value} {Q : Heap → Prop} {z : Int32} (ht : t = .boolean ∨ t = .byte ∨ t = .char ∨ t = .short) (hd : decode code pc = .ok (.ireturn, 1)) (hw : w = some (.int (nar t z))) (hq : Q h) (hc : cells ≤ R.cells) (hs : slots ≤ R.slots) : Goes p e below (Done below s n0 R w Q) T m pc L (.int z :: S) := by
  obtain ⟨hx, hZ, hby, hml, hown, hnm, hret, hlk, hn, locs, X, eT, N⟩ := X
  obtain ⟨fs, hr, hrun, hended, hW, hsame⟩ := X.leave (v := some (.int (nar t z))) (fun h => by rw [hret] at h; cases h) hlk
  exact ⟨_, retN X hx hret ht (hb hby hd) hr, _, hrun, hended, _, locs, rfl, ⟨hw.symm, (by show Q T.heap; rw [eT]; exact hq), N, (by show n0 ≤ T.heap.size; rw [eT]; exact hn)⟩, ⟨_, rfl⟩, hW, hsame.mono hc hs⟩
theorem w_lreturn (X : Wk p l e R s m args below meth c Z n0 y code ml (some .long) T cells slots h) {w : Option Value} {Q : Heap → Prop} {z : Int64} (hd : decode code pc = .ok (.lreturn, 1)) (hw : w = some (.long z)) (hq : Q h) (hc : cells ≤ R.cells) (hs : slots ≤ R.slots) : Goes p e below (Done below s n0 R w Q) T m pc L [.long z] := by
  obtain ⟨hx, hZ, hby, hml, hown, hnm, hret, hlk, hn, locs, X, eT, N⟩ := X
  obtain ⟨fs, hr, hrun, hended, hW, hsame⟩ := X.leave (v := some (.long z)) (fun h => by rw [hret] at h; cases h) hlk
  exact ⟨_, X.lreturnOut hx hret (hb hby hd) hr, _, hrun, hended, _, locs, rfl, ⟨hw.symm, (by show Q T.heap; rw [eT]; exact hq), N, (by show n0 ≤ T.heap.size; rw [eT]; exact hn)⟩, ⟨_, rfl⟩, hW, hsame.mono hc hs⟩
theorem w_return (X : Wk p l e R s m args below meth c Z n0 y code ml none T cells slots h) {w : Option Value} {Q : Heap → Prop} (hd : decode code pc = .ok (.return_, 1)) (hw : w = none) (hq : Q h) (hc : cells ≤ R.cells) (hs : slots ≤ R.slots) : Goes p e below (Done below s n0 R w Q) T m pc L [] := by
  obtain ⟨hx, hZ, hby, hml, hown, hnm, hret, hlk, hn, locs, X, eT, N⟩ := X
  obtain ⟨fs, hr, hrun, hended, hW, hsame⟩ := X.leave (v := none) (fun _ => rfl) hlk
  exact ⟨_, X.returnOut hx hret (hb hby hd) hr, _, hrun, hended, _, locs, rfl, ⟨hw.symm, (by show Q T.heap; rw [eT]; exact hq), N, (by show n0 ≤ T.heap.size; rw [eT]; exact hn)⟩, ⟨_, rfl⟩, hW, hsame.mono hc hs⟩
-- calls
theorem w_static (X : Wk p l e R s m args below meth c Z n0 y code ml ret T cells slots h) {idx : Nat} {y' : MethodName} {bytes : ByteArray} {maxL : Nat} {ret' : Option FieldType} {R' : Room} {w' : Option Value} {Q' : Heap → Prop} {argsL rest : List Value} {W : Nat}
    (hM : Con l Z y' bytes maxL ret' R' argsL.toArray h n0 w' Q') (w1 : (Jvm.Cond.methodLink y.cls idx y').before a0 Z = true) (w2 : (Jvm.Cond.static y').before a0 Z = true) (w3 : (Jvm.Cond.initialized y'.cls).before a0 Z = true) (w4 : (Jvm.Cond.code y' bytes maxL ret').before a0 Z = true)
    (hy : y'.cls ≠ "java/lang/invoke/MethodHandle" ∧ y'.cls ≠ "java/lang/invoke/VarHandle") (hst : S = argsL.reverse ++ rest) (hlen : ∀ sig, parseMethodDescriptor y'.desc = some sig → argsL.length = sig.parameters.length) (hsz : L.size = ml) (hW : (rest.map fun v => v.category).sum = W) (hf : R'.frames + 1 ≤ R.frames) (hl : W + (maxL + 11) + R'.locals ≤ R.locals)
    (hc : cells + R'.cells ≤ R.cells) (hs : slots + R'.slots ≤ R.slots) (hd : decode code pc = .ok (.invokestatic idx, 3)) (hp : pc + 3 = pc')
    (g : ∀ T' h', Wk p l e R s m args below meth c Z n0 y code ml ret T' (cells + R'.cells) (slots + R'.slots) h' → Q' h' → Goes p e below K T' m pc' L (w'.toList ++ rest)) : Goes p e below K T m pc L S := by
  obtain ⟨hx, hZ, hby, hml, hown, hnm, hret, hlk, hn, locs, X, eT, N⟩ := X
  subst hp hW
  obtain ⟨_, _, ⟨T1, L1, k1, n1⟩, -, X1, ⟨Lc, hQ, l1, y1, z1⟩, st⟩ := Jvm.LawKit.callS X hx (y := y') hown (mvT hZ w1) (mvT hZ w2) (mvT hZ w3) (mvT hZ w4) hy (backOf (W := (rest.map fun v => v.category).sum) (hM []) hZ w4 w3 hf hl) (g := mkF m pc L S) rfl (by rw [hml]; exact hsz) (argsL := argsL) (rest := rest) hlen hst (by show 2 * 0 + _ ≤ _; omega) (hb hby hd) (fun _ _ => ⟨rfl, eT, hc, hs⟩)
  dsimp only [Pt.U, Pt.locs, Pt.cells, Pt.slots] at X1 l1 y1 z1 st hQ
  subst l1 y1 z1
  obtain ⟨rfl, hQ', N', hn'⟩ := hQ
  obtain ⟨u1, a1, b1⟩ := g _ _ ⟨hx, hZ, hby, hml, hown, hnm, hret, hlk, hn', _, X1, rfl, N.app N'⟩ hQ'
  exact ⟨u1, st _ a1, b1⟩
theorem w_staticV (X : Wk p l e R s m args below meth c Z n0 y code ml ret T cells slots h) {idx : Nat} {y' : MethodName} {bytes : ByteArray} {maxL : Nat} {ret' : Option FieldType} {R' : Room} {v' : Value} {Q' : Heap → Prop} {argsL rest : List Value} {W : Nat}
    (hM : Con l Z y' bytes maxL ret' R' argsL.toArray h n0 (some v') Q') (w1 : (Jvm.Cond.methodLink y.cls idx y').before a0 Z = true) (w2 : (Jvm.Cond.static y').before a0 Z = true) (w3 : (Jvm.Cond.initialized y'.cls).before a0 Z = true) (w4 : (Jvm.Cond.code y' bytes maxL ret').before a0 Z = true)
    (hy : y'.cls ≠ "java/lang/invoke/MethodHandle" ∧ y'.cls ≠ "java/lang/invoke/VarHandle") (hst : S = argsL.reverse ++ rest) (hlen : ∀ sig, parseMethodDescriptor y'.desc = some sig → argsL.length = sig.parameters.length) (hsz : L.size = ml) (hW : (rest.map fun v => v.category).sum = W) (hf : R'.frames + 1 ≤ R.frames) (hl : W + (maxL + 11) + R'.locals ≤ R.locals)
    (hc : cells + R'.cells ≤ R.cells) (hs : slots + R'.slots ≤ R.slots) (hd : decode code pc = .ok (.invokestatic idx, 3)) (hp : pc + 3 = pc')
    (g : ∀ T' h', Wk p l e R s m args below meth c Z n0 y code ml ret T' (cells + R'.cells) (slots + R'.slots) h' → Q' h' → Goes p e below K T' m pc' L (v' :: rest)) : Goes p e below K T m pc L S := w_static X hM w1 w2 w3 w4 hy hst hlen hsz hW hf hl hc hs hd hp g
theorem w_staticVP (X : Wk p l e R s m args below meth c Z n0 y code ml ret T cells slots h) {idx : Nat} {y' : MethodName} {bytes : ByteArray} {maxL : Nat} {ret' : Option FieldType} {R' : Room} {v' : Value} {argsL rest : List Value} {W : Nat}
    (hM : Con l Z y' bytes maxL ret' R' argsL.toArray h n0 (some v') (fun h' => h' = h)) (w1 : (Jvm.Cond.methodLink y.cls idx y').before a0 Z = true) (w2 : (Jvm.Cond.static y').before a0 Z = true) (w3 : (Jvm.Cond.initialized y'.cls).before a0 Z = true) (w4 : (Jvm.Cond.code y' bytes maxL ret').before a0 Z = true)
    (hy : y'.cls ≠ "java/lang/invoke/MethodHandle" ∧ y'.cls ≠ "java/lang/invoke/VarHandle") (hst : S = argsL.reverse ++ rest) (hlen : ∀ sig, parseMethodDescriptor y'.desc = some sig → argsL.length = sig.parameters.length) (hsz : L.size = ml) (hW : (rest.map fun v => v.category).sum = W) (hf : R'.frames + 1 ≤ R.frames) (hl : W + (maxL + 11) + R'.locals ≤ R.locals)
    (hc : cells + R'.cells ≤ R.cells) (hs : slots + R'.slots ≤ R.slots) (hd : decode code pc = .ok (.invokestatic idx, 3)) (hp : pc + 3 = pc')
    (g : ∀ T', Wk p l e R s m args below meth c Z n0 y code ml ret T' (cells + R'.cells) (slots + R'.slots) h → Goes p e below K T' m pc' L (v' :: rest)) : Goes p e below K T m pc L S := w_staticV X hM w1 w2 w3 w4 hy hst hlen hsz hW hf hl hc hs hd hp (fun T' h' X' q => by subst q; exact g T' X')
theorem w_static0 (X : Wk p l e R s m args below meth c Z n0 y code ml ret T cells slots h) {idx : Nat} {y' : MethodName} {bytes : ByteArray} {maxL : Nat} {ret' : Option FieldType} {R' : Room} {Q' : Heap → Prop} {argsL rest : List Value} {W : Nat}
    (hM : Con l Z y' bytes maxL ret' R' argsL.toArray h n0 none Q') (w1 : (Jvm.Cond.methodLink y.cls idx y').before a0 Z = true) (w2 : (Jvm.Cond.static y').before a0 Z = true) (w3 : (Jvm.Cond.initialized y'.cls).before a0 Z = true) (w4 : (Jvm.Cond.code y' bytes maxL ret').before a0 Z = true)
    (hy : y'.cls ≠ "java/lang/invoke/MethodHandle" ∧ y'.cls ≠ "java/lang/invoke/VarHandle") (hst : S = argsL.reverse ++ rest) (hlen : ∀ sig, parseMethodDescriptor y'.desc = some sig → argsL.length = sig.parameters.length) (hsz : L.size = ml) (hW : (rest.map fun v => v.category).sum = W) (hf : R'.frames + 1 ≤ R.frames) (hl : W + (maxL + 11) + R'.locals ≤ R.locals)
    (hc : cells + R'.cells ≤ R.cells) (hs : slots + R'.slots ≤ R.slots) (hd : decode code pc = .ok (.invokestatic idx, 3)) (hp : pc + 3 = pc')
    (g : ∀ T' h', Wk p l e R s m args below meth c Z n0 y code ml ret T' (cells + R'.cells) (slots + R'.slots) h' → Q' h' → Goes p e below K T' m pc' L rest) : Goes p e below K T m pc L S := w_static X hM w1 w2 w3 w4 hy hst hlen hsz hW hf hl hc hs hd hp g
theorem w_static0P (X : Wk p l e R s m args below meth c Z n0 y code ml ret T cells slots h) {idx : Nat} {y' : MethodName} {bytes : ByteArray} {maxL : Nat} {ret' : Option FieldType} {R' : Room} {argsL rest : List Value} {W : Nat}
    (hM : Con l Z y' bytes maxL ret' R' argsL.toArray h n0 none (fun h' => h' = h)) (w1 : (Jvm.Cond.methodLink y.cls idx y').before a0 Z = true) (w2 : (Jvm.Cond.static y').before a0 Z = true) (w3 : (Jvm.Cond.initialized y'.cls).before a0 Z = true) (w4 : (Jvm.Cond.code y' bytes maxL ret').before a0 Z = true)
    (hy : y'.cls ≠ "java/lang/invoke/MethodHandle" ∧ y'.cls ≠ "java/lang/invoke/VarHandle") (hst : S = argsL.reverse ++ rest) (hlen : ∀ sig, parseMethodDescriptor y'.desc = some sig → argsL.length = sig.parameters.length) (hsz : L.size = ml) (hW : (rest.map fun v => v.category).sum = W) (hf : R'.frames + 1 ≤ R.frames) (hl : W + (maxL + 11) + R'.locals ≤ R.locals)
    (hc : cells + R'.cells ≤ R.cells) (hs : slots + R'.slots ≤ R.slots) (hd : decode code pc = .ok (.invokestatic idx, 3)) (hp : pc + 3 = pc')
    (g : ∀ T', Wk p l e R s m args below meth c Z n0 y code ml ret T' (cells + R'.cells) (slots + R'.slots) h → Goes p e below K T' m pc' L rest) : Goes p e below K T m pc L S := w_static0 X hM w1 w2 w3 w4 hy hst hlen hsz hW hf hl hc hs hd hp (fun T' h' X' q => by subst q; exact g T' X')
theorem w_special (X : Wk p l e R s m args below meth c Z n0 y code ml ret T cells slots h) {idx : Nat} {y' : MethodName} {bytes : ByteArray} {maxL : Nat} {R' : Room} {w' : Option Value} {Q' : Heap → Prop} {a : Addr} {argsL rest : List Value} {W : Nat}
    (hM : Con l Z y' bytes maxL none R' (.ref a :: argsL).toArray h n0 w' Q') (hi : y'.name = "<init>") (w1 : (Jvm.Cond.methodLink y.cls idx y').before a0 Z = true) (w2 : (Jvm.Cond.instanceMethod y').before a0 Z = true) (w3 : (Jvm.Cond.initialized y'.cls).before a0 Z = true) (w4 : (Jvm.Cond.code y' bytes maxL none).before a0 Z = true)
    (hy : y'.cls ≠ "java/lang/invoke/MethodHandle" ∧ y'.cls ≠ "java/lang/invoke/VarHandle") (hst : S = argsL.reverse ++ .ref a :: rest) (hlen : ∀ sig, parseMethodDescriptor y'.desc = some sig → argsL.length = sig.parameters.length) (hsz : L.size = ml) (hW : (rest.map fun v => v.category).sum = W) (hf : R'.frames + 1 ≤ R.frames) (hl : W + (maxL + 11) + R'.locals ≤ R.locals)
    (hc : cells + R'.cells ≤ R.cells) (hs : slots + R'.slots ≤ R.slots) (hd : decode code pc = .ok (.invokespecial idx, 3)) (hp : pc + 3 = pc')
    (g : ∀ T' h', Wk p l e R s m args below meth c Z n0 y code ml ret T' (cells + R'.cells) (slots + R'.slots) h' → Q' h' → Goes p e below K T' m pc' L (w'.toList ++ rest)) : Goes p e below K T m pc L S := by
  obtain ⟨hx, hZ, hby, hml, hown, hnm, hret, hlk, hn, locs, X, eT, N⟩ := X
  subst hp hW
  obtain ⟨_, _, ⟨T1, L1, k1, n1⟩, -, X1, ⟨Lc, hQ, l1, y1, z1⟩, st⟩ := X.specialBack hx (y := y') hi hown (mvT hZ w1) (mvT hZ w2) (mvT hZ w4) hy (backOf (W := (rest.map fun v => v.category).sum) (hM []) hZ w4 w3 hf hl) (g := mkF m pc L S) rfl (by rw [hml]; exact hsz) (Steps.refl _) (a := a) (argsL := argsL) (rest := rest) hlen hst (by show 2 * 0 + _ ≤ _; omega) (hb hby hd) (fun _ _ => ⟨rfl, eT, hc, hs⟩)
  dsimp only [Pt.U, Pt.locs, Pt.cells, Pt.slots] at X1 l1 y1 z1 st hQ
  subst l1 y1 z1
  obtain ⟨rfl, hQ', N', hn'⟩ := hQ
  obtain ⟨u1, a1, b1⟩ := g _ _ ⟨hx, hZ, hby, hml, hown, hnm, hret, hlk, hn', _, X1, rfl, N.app N'⟩ hQ'
  exact ⟨u1, st.trans a1, b1⟩
theorem w_special0 (X : Wk p l e R s m args below meth c Z n0 y code ml ret T cells slots h) {idx : Nat} {y' : MethodName} {bytes : ByteArray} {maxL : Nat} {R' : Room} {Q' : Heap → Prop} {a : Addr} {argsL rest : List Value} {W : Nat}
    (hM : Con l Z y' bytes maxL none R' (.ref a :: argsL).toArray h n0 none Q') (hi : y'.name = "<init>") (w1 : (Jvm.Cond.methodLink y.cls idx y').before a0 Z = true) (w2 : (Jvm.Cond.instanceMethod y').before a0 Z = true) (w3 : (Jvm.Cond.initialized y'.cls).before a0 Z = true) (w4 : (Jvm.Cond.code y' bytes maxL none).before a0 Z = true)
    (hy : y'.cls ≠ "java/lang/invoke/MethodHandle" ∧ y'.cls ≠ "java/lang/invoke/VarHandle") (hst : S = argsL.reverse ++ .ref a :: rest) (hlen : ∀ sig, parseMethodDescriptor y'.desc = some sig → argsL.length = sig.parameters.length) (hsz : L.size = ml) (hW : (rest.map fun v => v.category).sum = W) (hf : R'.frames + 1 ≤ R.frames) (hl : W + (maxL + 11) + R'.locals ≤ R.locals)
    (hc : cells + R'.cells ≤ R.cells) (hs : slots + R'.slots ≤ R.slots) (hd : decode code pc = .ok (.invokespecial idx, 3)) (hp : pc + 3 = pc')
    (g : ∀ T' h', Wk p l e R s m args below meth c Z n0 y code ml ret T' (cells + R'.cells) (slots + R'.slots) h' → Q' h' → Goes p e below K T' m pc' L rest) : Goes p e below K T m pc L S := w_special X hM hi w1 w2 w3 w4 hy hst hlen hsz hW hf hl hc hs hd hp g
theorem w_special0P (X : Wk p l e R s m args below meth c Z n0 y code ml ret T cells slots h) {idx : Nat} {y' : MethodName} {bytes : ByteArray} {maxL : Nat} {R' : Room} {a : Addr} {argsL rest : List Value} {W : Nat}
    (hM : Con l Z y' bytes maxL none R' (.ref a :: argsL).toArray h n0 none (fun h' => h' = h)) (hi : y'.name = "<init>") (w1 : (Jvm.Cond.methodLink y.cls idx y').before a0 Z = true) (w2 : (Jvm.Cond.instanceMethod y').before a0 Z = true) (w3 : (Jvm.Cond.initialized y'.cls).before a0 Z = true) (w4 : (Jvm.Cond.code y' bytes maxL none).before a0 Z = true)
    (hy : y'.cls ≠ "java/lang/invoke/MethodHandle" ∧ y'.cls ≠ "java/lang/invoke/VarHandle") (hst : S = argsL.reverse ++ .ref a :: rest) (hlen : ∀ sig, parseMethodDescriptor y'.desc = some sig → argsL.length = sig.parameters.length) (hsz : L.size = ml) (hW : (rest.map fun v => v.category).sum = W) (hf : R'.frames + 1 ≤ R.frames) (hl : W + (maxL + 11) + R'.locals ≤ R.locals)
    (hc : cells + R'.cells ≤ R.cells) (hs : slots + R'.slots ≤ R.slots) (hd : decode code pc = .ok (.invokespecial idx, 3)) (hp : pc + 3 = pc')
    (g : ∀ T', Wk p l e R s m args below meth c Z n0 y code ml ret T' (cells + R'.cells) (slots + R'.slots) h → Goes p e below K T' m pc' L rest) : Goes p e below K T m pc L S := w_special0 X hM hi w1 w2 w3 w4 hy hst hlen hsz hW hf hl hc hs hd hp (fun T' h' X' q => by subst q; exact g T' X')
theorem w_virtual (X : Wk p l e R s m args below meth c Z n0 y code ml ret T cells slots h) {idx : Nat} {C : String} {y' : MethodName} {bytes : ByteArray} {maxL : Nat} {ret' : Option FieldType} {R' : Room} {w' : Option Value} {Q' : Heap → Prop} {a : Addr} {argsL rest : List Value} {W : Nat}
    (hM : Con l Z y' bytes maxL ret' R' (.ref a :: argsL).toArray h n0 w' Q') (E : Exa Z h a C) (w1 : (Jvm.Cond.methodLink y.cls idx y').before a0 Z = true) (w2 : (Jvm.Cond.declares y').before a0 Z = true) (w5 : (Jvm.Cond.selects C y' y').before a0 Z = true) (w6 : (Jvm.Cond.instanceMethod y').before a0 Z = true) (w3 : (Jvm.Cond.initialized y'.cls).before a0 Z = true) (w4 : (Jvm.Cond.code y' bytes maxL ret').before a0 Z = true)
    (hy : y'.cls ≠ "java/lang/invoke/MethodHandle" ∧ y'.cls ≠ "java/lang/invoke/VarHandle") (hst : S = argsL.reverse ++ .ref a :: rest) (hlen : ∀ sig, parseMethodDescriptor y'.desc = some sig → argsL.length = sig.parameters.length) (hsz : L.size = ml) (hW : (rest.map fun v => v.category).sum = W) (hf : R'.frames + 1 ≤ R.frames) (hl : W + (maxL + 11) + R'.locals ≤ R.locals)
    (hc : cells + R'.cells ≤ R.cells) (hs : slots + R'.slots ≤ R.slots) (hd : decode code pc = .ok (.invokevirtual idx, 3)) (hp : pc + 3 = pc')
    (g : ∀ T' h', Wk p l e R s m args below meth c Z n0 y code ml ret T' (cells + R'.cells) (slots + R'.slots) h' → Q' h' → Goes p e below K T' m pc' L (w'.toList ++ rest)) : Goes p e below K T m pc L S := by
  obtain ⟨hx, hZ, hby, hml, hown, hnm, hret, hlk, hn, locs, X, eT, N⟩ := X
  subst hp hW
  obtain ⟨cq, kq, qa, qb, qc⟩ := isOf hZ eT E
  obtain ⟨_, _, ⟨T1, L1, k1, n1⟩, -, X1, ⟨Lc, hQ, l1, y1, z1⟩, st⟩ := X.virtualBack hx (y := y') (z := y') hown (mvT hZ w1) (mvT hZ w2) (notFace_of_selects (args := #[]) (mvT hZ w5)) (mvT hZ w5) (mvT hZ w6) hy (backOf (W := (rest.map fun v => v.category).sum) (hM []) hZ w4 w3 hf hl) qa qc (g := mkF m pc L S) rfl (by rw [hml]; exact hsz) (Steps.refl _) (argsL := argsL) (rest := rest) hlen hst (by show 2 * 0 + _ ≤ _; omega) (hb hby hd) (fun _ _ => ⟨rfl, eT, hc, hs⟩)
  dsimp only [Pt.U, Pt.locs, Pt.cells, Pt.slots] at X1 l1 y1 z1 st hQ
  subst l1 y1 z1
  obtain ⟨rfl, hQ', N', hn'⟩ := hQ
  obtain ⟨u1, a1, b1⟩ := g _ _ ⟨hx, hZ, hby, hml, hown, hnm, hret, hlk, hn', _, X1, rfl, N.app N'⟩ hQ'
  exact ⟨u1, st.trans a1, b1⟩
theorem w_virtualV (X : Wk p l e R s m args below meth c Z n0 y code ml ret T cells slots h) {idx : Nat} {C : String} {y' : MethodName} {bytes : ByteArray} {maxL : Nat} {ret' : Option FieldType} {R' : Room} {v' : Value} {Q' : Heap → Prop} {a : Addr} {argsL rest : List Value} {W : Nat}
    (hM : Con l Z y' bytes maxL ret' R' (.ref a :: argsL).toArray h n0 (some v') Q') (E : Exa Z h a C) (w1 : (Jvm.Cond.methodLink y.cls idx y').before a0 Z = true) (w2 : (Jvm.Cond.declares y').before a0 Z = true) (w5 : (Jvm.Cond.selects C y' y').before a0 Z = true) (w6 : (Jvm.Cond.instanceMethod y').before a0 Z = true) (w3 : (Jvm.Cond.initialized y'.cls).before a0 Z = true) (w4 : (Jvm.Cond.code y' bytes maxL ret').before a0 Z = true)
    (hy : y'.cls ≠ "java/lang/invoke/MethodHandle" ∧ y'.cls ≠ "java/lang/invoke/VarHandle") (hst : S = argsL.reverse ++ .ref a :: rest) (hlen : ∀ sig, parseMethodDescriptor y'.desc = some sig → argsL.length = sig.parameters.length) (hsz : L.size = ml) (hW : (rest.map fun v => v.category).sum = W) (hf : R'.frames + 1 ≤ R.frames) (hl : W + (maxL + 11) + R'.locals ≤ R.locals)
    (hc : cells + R'.cells ≤ R.cells) (hs : slots + R'.slots ≤ R.slots) (hd : decode code pc = .ok (.invokevirtual idx, 3)) (hp : pc + 3 = pc')
    (g : ∀ T' h', Wk p l e R s m args below meth c Z n0 y code ml ret T' (cells + R'.cells) (slots + R'.slots) h' → Q' h' → Goes p e below K T' m pc' L (v' :: rest)) : Goes p e below K T m pc L S := w_virtual X hM E w1 w2 w5 w6 w3 w4 hy hst hlen hsz hW hf hl hc hs hd hp g
theorem w_virtualVP (X : Wk p l e R s m args below meth c Z n0 y code ml ret T cells slots h) {idx : Nat} {C : String} {y' : MethodName} {bytes : ByteArray} {maxL : Nat} {ret' : Option FieldType} {R' : Room} {v' : Value} {a : Addr} {argsL rest : List Value} {W : Nat}
    (hM : Con l Z y' bytes maxL ret' R' (.ref a :: argsL).toArray h n0 (some v') (fun h' => h' = h)) (E : Exa Z h a C) (w1 : (Jvm.Cond.methodLink y.cls idx y').before a0 Z = true) (w2 : (Jvm.Cond.declares y').before a0 Z = true) (w5 : (Jvm.Cond.selects C y' y').before a0 Z = true) (w6 : (Jvm.Cond.instanceMethod y').before a0 Z = true) (w3 : (Jvm.Cond.initialized y'.cls).before a0 Z = true) (w4 : (Jvm.Cond.code y' bytes maxL ret').before a0 Z = true)
    (hy : y'.cls ≠ "java/lang/invoke/MethodHandle" ∧ y'.cls ≠ "java/lang/invoke/VarHandle") (hst : S = argsL.reverse ++ .ref a :: rest) (hlen : ∀ sig, parseMethodDescriptor y'.desc = some sig → argsL.length = sig.parameters.length) (hsz : L.size = ml) (hW : (rest.map fun v => v.category).sum = W) (hf : R'.frames + 1 ≤ R.frames) (hl : W + (maxL + 11) + R'.locals ≤ R.locals)
    (hc : cells + R'.cells ≤ R.cells) (hs : slots + R'.slots ≤ R.slots) (hd : decode code pc = .ok (.invokevirtual idx, 3)) (hp : pc + 3 = pc')
    (g : ∀ T', Wk p l e R s m args below meth c Z n0 y code ml ret T' (cells + R'.cells) (slots + R'.slots) h → Goes p e below K T' m pc' L (v' :: rest)) : Goes p e below K T m pc L S := w_virtualV X hM E w1 w2 w5 w6 w3 w4 hy hst hlen hsz hW hf hl hc hs hd hp (fun T' h' X' q => by subst q; exact g T' X')
theorem w_virtual0 (X : Wk p l e R s m args below meth c Z n0 y code ml ret T cells slots h) {idx : Nat} {C : String} {y' : MethodName} {bytes : ByteArray} {maxL : Nat} {ret' : Option FieldType} {R' : Room} {Q' : Heap → Prop} {a : Addr} {argsL rest : List Value} {W : Nat}
    (hM : Con l Z y' bytes maxL ret' R' (.ref a :: argsL).toArray h n0 none Q') (E : Exa Z h a C) (w1 : (Jvm.Cond.methodLink y.cls idx y').before a0 Z = true) (w2 : (Jvm.Cond.declares y').before a0 Z = true) (w5 : (Jvm.Cond.selects C y' y').before a0 Z = true) (w6 : (Jvm.Cond.instanceMethod y').before a0 Z = true) (w3 : (Jvm.Cond.initialized y'.cls).before a0 Z = true) (w4 : (Jvm.Cond.code y' bytes maxL ret').before a0 Z = true)
    (hy : y'.cls ≠ "java/lang/invoke/MethodHandle" ∧ y'.cls ≠ "java/lang/invoke/VarHandle") (hst : S = argsL.reverse ++ .ref a :: rest) (hlen : ∀ sig, parseMethodDescriptor y'.desc = some sig → argsL.length = sig.parameters.length) (hsz : L.size = ml) (hW : (rest.map fun v => v.category).sum = W) (hf : R'.frames + 1 ≤ R.frames) (hl : W + (maxL + 11) + R'.locals ≤ R.locals)
    (hc : cells + R'.cells ≤ R.cells) (hs : slots + R'.slots ≤ R.slots) (hd : decode code pc = .ok (.invokevirtual idx, 3)) (hp : pc + 3 = pc')
    (g : ∀ T' h', Wk p l e R s m args below meth c Z n0 y code ml ret T' (cells + R'.cells) (slots + R'.slots) h' → Q' h' → Goes p e below K T' m pc' L rest) : Goes p e below K T m pc L S := w_virtual X hM E w1 w2 w5 w6 w3 w4 hy hst hlen hsz hW hf hl hc hs hd hp g
theorem w_virtual0P (X : Wk p l e R s m args below meth c Z n0 y code ml ret T cells slots h) {idx : Nat} {C : String} {y' : MethodName} {bytes : ByteArray} {maxL : Nat} {ret' : Option FieldType} {R' : Room} {a : Addr} {argsL rest : List Value} {W : Nat}
    (hM : Con l Z y' bytes maxL ret' R' (.ref a :: argsL).toArray h n0 none (fun h' => h' = h)) (E : Exa Z h a C) (w1 : (Jvm.Cond.methodLink y.cls idx y').before a0 Z = true) (w2 : (Jvm.Cond.declares y').before a0 Z = true) (w5 : (Jvm.Cond.selects C y' y').before a0 Z = true) (w6 : (Jvm.Cond.instanceMethod y').before a0 Z = true) (w3 : (Jvm.Cond.initialized y'.cls).before a0 Z = true) (w4 : (Jvm.Cond.code y' bytes maxL ret').before a0 Z = true)
    (hy : y'.cls ≠ "java/lang/invoke/MethodHandle" ∧ y'.cls ≠ "java/lang/invoke/VarHandle") (hst : S = argsL.reverse ++ .ref a :: rest) (hlen : ∀ sig, parseMethodDescriptor y'.desc = some sig → argsL.length = sig.parameters.length) (hsz : L.size = ml) (hW : (rest.map fun v => v.category).sum = W) (hf : R'.frames + 1 ≤ R.frames) (hl : W + (maxL + 11) + R'.locals ≤ R.locals)
    (hc : cells + R'.cells ≤ R.cells) (hs : slots + R'.slots ≤ R.slots) (hd : decode code pc = .ok (.invokevirtual idx, 3)) (hp : pc + 3 = pc')
    (g : ∀ T', Wk p l e R s m args below meth c Z n0 y code ml ret T' (cells + R'.cells) (slots + R'.slots) h → Goes p e below K T' m pc' L rest) : Goes p e below K T m pc L S := w_virtual0 X hM E w1 w2 w5 w6 w3 w4 hy hst hlen hsz hW hf hl hc hs hd hp (fun T' h' X' q => by subst q; exact g T' X')
theorem w_private (X : Wk p l e R s m args below meth c Z n0 y code ml ret T cells slots h) {idx : Nat} {C : String} {y' : MethodName} {bytes : ByteArray} {maxL : Nat} {ret' : Option FieldType} {R' : Room} {w' : Option Value} {Q' : Heap → Prop} {a : Addr} {argsL rest : List Value} {W : Nat}
    (hM : Con l Z y' bytes maxL ret' R' (.ref a :: argsL).toArray h n0 w' Q') (E : Exa Z h a C) (w1 : (Jvm.Cond.methodLink y.cls idx y').before a0 Z = true) (w6 : (Jvm.Cond.instanceMethod y').before a0 Z = true) (w5 : (Jvm.Cond.selects y'.cls y' y').before a0 Z = true) (w7 : (Jvm.Cond.privateMethod y').before a0 Z = true) (w3 : (Jvm.Cond.initialized y'.cls).before a0 Z = true) (w4 : (Jvm.Cond.code y' bytes maxL ret').before a0 Z = true)
    (hy : y'.cls ≠ "java/lang/invoke/MethodHandle" ∧ y'.cls ≠ "java/lang/invoke/VarHandle") (hst : S = argsL.reverse ++ .ref a :: rest) (hlen : ∀ sig, parseMethodDescriptor y'.desc = some sig → argsL.length = sig.parameters.length) (hsz : L.size = ml) (hW : (rest.map fun v => v.category).sum = W) (hf : R'.frames + 1 ≤ R.frames) (hl : W + (maxL + 11) + R'.locals ≤ R.locals)
    (hc : cells + R'.cells ≤ R.cells) (hs : slots + R'.slots ≤ R.slots) (hd : decode code pc = .ok (.invokevirtual idx, 3)) (hp : pc + 3 = pc')
    (g : ∀ T' h', Wk p l e R s m args below meth c Z n0 y code ml ret T' (cells + R'.cells) (slots + R'.slots) h' → Q' h' → Goes p e below K T' m pc' L (w'.toList ++ rest)) : Goes p e below K T m pc L S := by
  obtain ⟨hx, hZ, hby, hml, hown, hnm, hret, hlk, hn, locs, X, eT, N⟩ := X
  subst hp hW
  obtain ⟨cq, q, q'⟩ := E.cell
  obtain ⟨_, _, ⟨T1, L1, k1, n1⟩, -, X1, ⟨Lc, hQ, l1, y1, z1⟩, st⟩ := X.privateBack hx (y := y') hown (mvT hZ w1) (mvT hZ w6) (mvT hZ w5) (Cond.privateMethod_at (mvP hZ w7 (args := #[]))) (mvT hZ w4) hy (backOf (W := (rest.map fun v => v.category).sum) (hM []) hZ w4 w3 hf hl) (g := mkF m pc L S) rfl (by rw [hml]; exact hsz) (Steps.refl _) (a := a) (by rw [eT]; exact q) q' (argsL := argsL) (rest := rest) hlen hst (by show 2 * 0 + _ ≤ _; omega) (hb hby hd) (fun _ _ => ⟨rfl, eT, hc, hs⟩)
  dsimp only [Pt.U, Pt.locs, Pt.cells, Pt.slots] at X1 l1 y1 z1 st hQ
  subst l1 y1 z1
  obtain ⟨rfl, hQ', N', hn'⟩ := hQ
  obtain ⟨u1, a1, b1⟩ := g _ _ ⟨hx, hZ, hby, hml, hown, hnm, hret, hlk, hn', _, X1, rfl, N.app N'⟩ hQ'
  exact ⟨u1, st.trans a1, b1⟩
theorem w_privateV (X : Wk p l e R s m args below meth c Z n0 y code ml ret T cells slots h) {idx : Nat} {C : String} {y' : MethodName} {bytes : ByteArray} {maxL : Nat} {ret' : Option FieldType} {R' : Room} {v' : Value} {Q' : Heap → Prop} {a : Addr} {argsL rest : List Value} {W : Nat}
    (hM : Con l Z y' bytes maxL ret' R' (.ref a :: argsL).toArray h n0 (some v') Q') (E : Exa Z h a C) (w1 : (Jvm.Cond.methodLink y.cls idx y').before a0 Z = true) (w6 : (Jvm.Cond.instanceMethod y').before a0 Z = true) (w5 : (Jvm.Cond.selects y'.cls y' y').before a0 Z = true) (w7 : (Jvm.Cond.privateMethod y').before a0 Z = true) (w3 : (Jvm.Cond.initialized y'.cls).before a0 Z = true) (w4 : (Jvm.Cond.code y' bytes maxL ret').before a0 Z = true)
    (hy : y'.cls ≠ "java/lang/invoke/MethodHandle" ∧ y'.cls ≠ "java/lang/invoke/VarHandle") (hst : S = argsL.reverse ++ .ref a :: rest) (hlen : ∀ sig, parseMethodDescriptor y'.desc = some sig → argsL.length = sig.parameters.length) (hsz : L.size = ml) (hW : (rest.map fun v => v.category).sum = W) (hf : R'.frames + 1 ≤ R.frames) (hl : W + (maxL + 11) + R'.locals ≤ R.locals)
    (hc : cells + R'.cells ≤ R.cells) (hs : slots + R'.slots ≤ R.slots) (hd : decode code pc = .ok (.invokevirtual idx, 3)) (hp : pc + 3 = pc')
    (g : ∀ T' h', Wk p l e R s m args below meth c Z n0 y code ml ret T' (cells + R'.cells) (slots + R'.slots) h' → Q' h' → Goes p e below K T' m pc' L (v' :: rest)) : Goes p e below K T m pc L S := w_private X hM E w1 w6 w5 w7 w3 w4 hy hst hlen hsz hW hf hl hc hs hd hp g
theorem w_privateVP (X : Wk p l e R s m args below meth c Z n0 y code ml ret T cells slots h) {idx : Nat} {C : String} {y' : MethodName} {bytes : ByteArray} {maxL : Nat} {ret' : Option FieldType} {R' : Room} {v' : Value} {a : Addr} {argsL rest : List Value} {W : Nat}
    (hM : Con l Z y' bytes maxL ret' R' (.ref a :: argsL).toArray h n0 (some v') (fun h' => h' = h)) (E : Exa Z h a C) (w1 : (Jvm.Cond.methodLink y.cls idx y').before a0 Z = true) (w6 : (Jvm.Cond.instanceMethod y').before a0 Z = true) (w5 : (Jvm.Cond.selects y'.cls y' y').before a0 Z = true) (w7 : (Jvm.Cond.privateMethod y').before a0 Z = true) (w3 : (Jvm.Cond.initialized y'.cls).before a0 Z = true) (w4 : (Jvm.Cond.code y' bytes maxL ret').before a0 Z = true)
    (hy : y'.cls ≠ "java/lang/invoke/MethodHandle" ∧ y'.cls ≠ "java/lang/invoke/VarHandle") (hst : S = argsL.reverse ++ .ref a :: rest) (hlen : ∀ sig, parseMethodDescriptor y'.desc = some sig → argsL.length = sig.parameters.length) (hsz : L.size = ml) (hW : (rest.map fun v => v.category).sum = W) (hf : R'.frames + 1 ≤ R.frames) (hl : W + (maxL + 11) + R'.locals ≤ R.locals)
    (hc : cells + R'.cells ≤ R.cells) (hs : slots + R'.slots ≤ R.slots) (hd : decode code pc = .ok (.invokevirtual idx, 3)) (hp : pc + 3 = pc')
    (g : ∀ T', Wk p l e R s m args below meth c Z n0 y code ml ret T' (cells + R'.cells) (slots + R'.slots) h → Goes p e below K T' m pc' L (v' :: rest)) : Goes p e below K T m pc L S := w_privateV X hM E w1 w6 w5 w7 w3 w4 hy hst hlen hsz hW hf hl hc hs hd hp (fun T' h' X' q => by subst q; exact g T' X')
theorem w_private0 (X : Wk p l e R s m args below meth c Z n0 y code ml ret T cells slots h) {idx : Nat} {C : String} {y' : MethodName} {bytes : ByteArray} {maxL : Nat} {ret' : Option FieldType} {R' : Room} {Q' : Heap → Prop} {a : Addr} {argsL rest : List Value} {W : Nat}
    (hM : Con l Z y' bytes maxL ret' R' (.ref a :: argsL).toArray h n0 none Q') (E : Exa Z h a C) (w1 : (Jvm.Cond.methodLink y.cls idx y').before a0 Z = true) (w6 : (Jvm.Cond.instanceMethod y').before a0 Z = true) (w5 : (Jvm.Cond.selects y'.cls y' y').before a0 Z = true) (w7 : (Jvm.Cond.privateMethod y').before a0 Z = true) (w3 : (Jvm.Cond.initialized y'.cls).before a0 Z = true) (w4 : (Jvm.Cond.code y' bytes maxL ret').before a0 Z = true)
    (hy : y'.cls ≠ "java/lang/invoke/MethodHandle" ∧ y'.cls ≠ "java/lang/invoke/VarHandle") (hst : S = argsL.reverse ++ .ref a :: rest) (hlen : ∀ sig, parseMethodDescriptor y'.desc = some sig → argsL.length = sig.parameters.length) (hsz : L.size = ml) (hW : (rest.map fun v => v.category).sum = W) (hf : R'.frames + 1 ≤ R.frames) (hl : W + (maxL + 11) + R'.locals ≤ R.locals)
    (hc : cells + R'.cells ≤ R.cells) (hs : slots + R'.slots ≤ R.slots) (hd : decode code pc = .ok (.invokevirtual idx, 3)) (hp : pc + 3 = pc')
    (g : ∀ T' h', Wk p l e R s m args below meth c Z n0 y code ml ret T' (cells + R'.cells) (slots + R'.slots) h' → Q' h' → Goes p e below K T' m pc' L rest) : Goes p e below K T m pc L S := w_private X hM E w1 w6 w5 w7 w3 w4 hy hst hlen hsz hW hf hl hc hs hd hp g
theorem w_private0P (X : Wk p l e R s m args below meth c Z n0 y code ml ret T cells slots h) {idx : Nat} {C : String} {y' : MethodName} {bytes : ByteArray} {maxL : Nat} {ret' : Option FieldType} {R' : Room} {a : Addr} {argsL rest : List Value} {W : Nat}
    (hM : Con l Z y' bytes maxL ret' R' (.ref a :: argsL).toArray h n0 none (fun h' => h' = h)) (E : Exa Z h a C) (w1 : (Jvm.Cond.methodLink y.cls idx y').before a0 Z = true) (w6 : (Jvm.Cond.instanceMethod y').before a0 Z = true) (w5 : (Jvm.Cond.selects y'.cls y' y').before a0 Z = true) (w7 : (Jvm.Cond.privateMethod y').before a0 Z = true) (w3 : (Jvm.Cond.initialized y'.cls).before a0 Z = true) (w4 : (Jvm.Cond.code y' bytes maxL ret').before a0 Z = true)
    (hy : y'.cls ≠ "java/lang/invoke/MethodHandle" ∧ y'.cls ≠ "java/lang/invoke/VarHandle") (hst : S = argsL.reverse ++ .ref a :: rest) (hlen : ∀ sig, parseMethodDescriptor y'.desc = some sig → argsL.length = sig.parameters.length) (hsz : L.size = ml) (hW : (rest.map fun v => v.category).sum = W) (hf : R'.frames + 1 ≤ R.frames) (hl : W + (maxL + 11) + R'.locals ≤ R.locals)
    (hc : cells + R'.cells ≤ R.cells) (hs : slots + R'.slots ≤ R.slots) (hd : decode code pc = .ok (.invokevirtual idx, 3)) (hp : pc + 3 = pc')
    (g : ∀ T', Wk p l e R s m args below meth c Z n0 y code ml ret T' (cells + R'.cells) (slots + R'.slots) h → Goes p e below K T' m pc' L rest) : Goes p e below K T m pc L S := w_private0 X hM E w1 w6 w5 w7 w3 w4 hy hst hlen hsz hW hf hl hc hs hd hp (fun T' h' X' q => by subst q; exact g T' X')
theorem w_initO (X : Wk p l e R s m args below meth c Z n0 y code ml ret T cells slots h) {idx : Nat} {a : Addr} {W : Nat} (w1 : (Jvm.Cond.methodLink y.cls idx Lib.objectInit).before a0 Z = true) (w2 : (Jvm.Cond.instanceMethod Lib.objectInit).before a0 Z = true) (w3 : (Jvm.Cond.code Lib.objectInit ⟨#[0xb1]⟩ 1 none).before a0 Z = true)
    (hsz : L.size = ml) (hW : (S.map fun v => v.category).sum = W) (hf : 1 ≤ R.frames) (hl : W + 12 ≤ R.locals) (hd : decode code pc = .ok (.invokespecial idx, 3)) (hp : pc + 3 = pc')
    (g : ∀ T', Wk p l e R s m args below meth c Z n0 y code ml ret T' cells slots h → Goes p e below K T' m pc' L S) : Goes p e below K T m pc L (.ref a :: S) := by
  obtain ⟨hx, hZ, hby, hml, hown, hnm, hret, hlk, hn, locs, X, eT, N⟩ := X
  subst hp hW
  obtain ⟨T1, X1, e1, st⟩ := initO X hx hZ hown w1 w2 w3 eT (g := mkF m pc L (.ref a :: S)) rfl (by rw [hml]; exact hsz) rfl (hb hby hd) hf (W := (S.map fun v => v.category).sum) (by show 2 * 0 + _ ≤ _; omega) hl
  obtain ⟨u1, a1, b1⟩ := g _ ⟨hx, hZ, hby, hml, hown, hnm, hret, hlk, hn, _, X1, e1, N⟩
  exact ⟨u1, st _ a1, b1⟩
-- fields and objects
theorem w_getF (X : Wk p l e R s m args below meth c Z n0 y code ml ret T cells slots h) {R0 O n d host : String} {idx : Nat} {a : Addr} {v : Value} (w : (Jvm.Cond.fieldLink y.cls idx R0 n d).before a0 Z = true ∨ (Jvm.Cond.fieldLinkNest y.cls idx R0 n d host).before a0 Z = true) (via : Via Z R0 O n d)
    (F : Fld Z h a O n d v) (hd : decode code pc = .ok (.getfield idx, 3)) (hp : pc + 3 = pc') (g : ∀ T', Wk p l e R s m args below meth c Z n0 y code ml ret T' cells slots h → Goes p e below K T' m pc' L (v :: S)) : Goes p e below K T m pc L (.ref a :: S) := by
  obtain ⟨hx, hZ, hby, hml, hown, hnm, hret, hlk, hn, locs, X, eT, N⟩ := X
  subst hp
  obtain ⟨T1, X1, e1, st⟩ := getF X hx hZ hown w via eT F (g := mkF m pc L (.ref a :: S)) rfl rfl (hb hby hd)
  obtain ⟨u1, a1, b1⟩ := g _ ⟨hx, hZ, hby, hml, hown, hnm, hret, hlk, hn, _, X1, e1, N⟩
  exact ⟨u1, st _ a1, b1⟩
theorem w_putF (X : Wk p l e R s m args below meth c Z n0 y code ml ret T cells slots h) {R0 O n d host C : String} {idx kk : Nat} {ty : FieldType} {a : Addr} {v old : Value} (w : (Jvm.Cond.fieldLink y.cls idx R0 n d).before a0 Z = true ∨ (Jvm.Cond.fieldLinkNest y.cls idx R0 n d host).before a0 Z = true) (via : Via Z R0 O n d)
    (F : Fld Z h a O n d old) (E : Exa Z h a C) (Lw : (Jvm.Cond.lays C O n d).before a0 Z = true ∨ ((Jvm.Cond.laysFinal C O n d).before a0 Z = true ∧ y.cls = O ∧ y.name = "<init>")) (wi : (Jvm.Cond.instantiable C kk).before a0 Z = true) (hty : parseFieldDescriptor d = some ty) (hnv : narrow ty v = v) (hfv : fits ty v = true) (ha : n0 ≤ a)
    (hd : decode code pc = .ok (.putfield idx, 3)) (hp : pc + 3 = pc') (g : ∀ T' h', Wk p l e R s m args below meth c Z n0 y code ml ret T' cells slots h' → Wr h h' a (Jvm.RoadKit.slotOf Z O n d) v → Goes p e below K T' m pc' L S) : Goes p e below K T m pc L (v :: .ref a :: S) := by
  obtain ⟨hx, hZ, hby, hml, hown, hnm, hret, hlk, hn, locs, X, eT, N⟩ := X
  subst hp
  obtain ⟨T1, h1, X1, e1, W1, st⟩ := putF X hx hZ hown w via eT F E (Lw.imp id fun q => ⟨q.1, q.2.1, hnm.trans q.2.2⟩) wi hty hnv hfv (g := mkF m pc L (v :: .ref a :: S)) rfl rfl (hb hby hd)
  obtain ⟨u1, a1, b1⟩ := g _ _ ⟨hx, hZ, hby, hml, hown, hnm, hret, hlk, W1.size.symm ▸ hn, _, X1, e1, Fr.snoc X1 N ha⟩ W1
  exact ⟨u1, st _ a1, b1⟩
theorem w_putFN (X : Wk p l e R s m args below meth c Z n0 y code ml ret T cells slots h) {R0 O n d C : String} {idx kk : Nat} {ty : FieldType} {a : Addr} {v v' old : Value} (w : (Jvm.Cond.fieldLink y.cls idx R0 n d).before a0 Z = true) (via : Via Z R0 O n d)
    (F : Fld Z h a O n d old) (E : Exa Z h a C) (Lw : (Jvm.Cond.lays C O n d).before a0 Z = true ∨ ((Jvm.Cond.laysFinal C O n d).before a0 Z = true ∧ y.cls = O ∧ y.name = "<init>")) (wi : (Jvm.Cond.instantiable C kk).before a0 Z = true) (hty : parseFieldDescriptor d = some ty) (hnv : narrow ty v = v') (hfv : fits ty v' = true) (ha : n0 ≤ a)
    (hd : decode code pc = .ok (.putfield idx, 3)) (hp : pc + 3 = pc') (g : ∀ T' h', Wk p l e R s m args below meth c Z n0 y code ml ret T' cells slots h' → Wr h h' a (Jvm.RoadKit.slotOf Z O n d) v' → Goes p e below K T' m pc' L S) : Goes p e below K T m pc L (v :: .ref a :: S) := by
  obtain ⟨hx, hZ, hby, hml, hown, hnm, hret, hlk, hn, locs, X, eT, N⟩ := X
  subst hp
  obtain ⟨T1, h1, X1, e1, W1, st⟩ := putFN X hx hZ hown w via eT F E (Lw.imp id fun q => ⟨q.1, q.2.1, hnm.trans q.2.2⟩) wi hty hnv hfv (g := mkF m pc L (v :: .ref a :: S)) rfl rfl (hb hby hd)
  obtain ⟨u1, a1, b1⟩ := g _ _ ⟨hx, hZ, hby, hml, hown, hnm, hret, hlk, W1.size.symm ▸ hn, _, X1, e1, Fr.snoc X1 N ha⟩ W1
  exact ⟨u1, st _ a1, b1⟩
theorem w_new (X : Wk p l e R s m args below meth c Z n0 y code ml ret T cells slots h) {C : String} {idx n : Nat} (w : (Jvm.Cond.classLink y.cls idx C).before a0 Z = true) (wi : (Jvm.Cond.instantiable C n).before a0 Z = true) (wz : (Jvm.Cond.initialized C).before a0 Z = true) (hc : cells + 1 ≤ R.cells) (hl : slots + n ≤ R.slots) (hd : decode code pc = .ok (.new idx, 3)) (hp : pc + 3 = pc')
    (g : ∀ T' h' a, Wk p l e R s m args below meth c Z n0 y code ml ret T' (cells + 1) (slots + n) h' → a = h.size → n0 ≤ a → Ext h h' → Exa Z h' a C → (∀ {O nm d : String} {ty : FieldType}, Laid Z a0 C O nm d → parseFieldDescriptor d = some ty → Fld Z h' a O nm d (defaultValue ty)) → Goes p e below K T' m pc' L (.ref a :: S)) : Goes p e below K T m pc L S := by
  obtain ⟨hx, hZ, hby, hml, hown, hnm, hret, hlk, hn, locs, X, eT, N⟩ := X
  subst hp
  obtain ⟨T1, h1, X1, e1, E1, A1, D1, -, st⟩ := newO X hx hZ hown w wi wz eT (g := mkF m pc L S) rfl (hb hby hd) hc hl
  obtain ⟨u1, a1, b1⟩ := g _ _ _ ⟨hx, hZ, hby, hml, hown, hnm, hret, hlk, Nat.le_trans hn E1.1, _, X1, e1, N⟩ rfl hn E1 A1 D1
  exact ⟨u1, st _ a1, b1⟩
-- arrays
/-- the array at a holds vs -/
def AV (Z : State) (h : Heap) (a : Addr) (ty : FieldType) (vs : List Value) : Prop := ∃ c : Cell, Arr Z h a c ty ∧ c.slots.toList = vs ∧ vs.length < 2 ^ 31
theorem AV.lt {a : Addr} {ty : FieldType} {vs : List Value} (A : AV Z h a ty vs) : a < h.size := by obtain ⟨c, A, -⟩ := A; exact A.lt
theorem AV.ext {a : Addr} {ty : FieldType} {vs : List Value} {h' : Heap} (A : AV Z h a ty vs) (E : Ext h h') : AV Z h' a ty vs := by obtain ⟨c, A, r⟩ := A; exact ⟨c, A.ext E, r⟩
theorem AV.other {a b : Addr} {ty : FieldType} {vs : List Value} {h' : Heap} {sl : Nat} {v : Value} (A : AV Z h b ty vs) (W : Wr h h' a sl v) (q : b ≠ a) : AV Z h' b ty vs := by obtain ⟨c, A, r⟩ := A; exact ⟨c, A.other W q, r⟩
theorem AV.keep {a : Addr} {ty : FieldType} {vs : List Value} {h' : Heap} {ws : List Addr} (A : AV Z h a ty vs) (Kp : Keep h h' ws) (q : a ∉ ws) : AV Z h' a ty vs := by obtain ⟨c, A, r⟩ := A; exact ⟨c, ⟨Kp.2.1 _ _ A.1 q, A.2⟩, r⟩
theorem AV.set {a : Addr} {ty : FieldType} {vs : List Value} {h' : Heap} {i : Nat} {v : Value} (A : AV Z h a ty vs) (W : Wr h h' a i v) : AV Z h' a ty (vs.set i v) := by
  obtain ⟨c, A, r1, r2⟩ := A
  refine ⟨_, A.same W, ?_, by simpa using r2⟩
  subst r1
  simp [Cell.setSlot]
theorem AV.ne_exa {a b : Addr} {ty : FieldType} {vs : List Value} {C : String} {k : Nat} (A : AV Z h a ty vs) (E : Exa Z h b C) (wi : (Jvm.Cond.instantiable C k).before a0 Z = true) : b ≠ a := by obtain ⟨c, A, -⟩ := A; exact ne_arr E wi A
theorem AV.len {a : Addr} {ty : FieldType} {vs : List Value} (A : AV Z h a ty vs) : vs.length < 2 ^ 31 := by obtain ⟨c, -, -, r⟩ := A; exact r
theorem av_in {c : Cell} {vs : List Value} (r : c.slots.toList = vs) {j : Int32} {i : Nat} (h0 : ¬ j < 0) (hi : j.toNatClampNeg = i) (hlt : i < vs.length) : ¬ (j < 0 ∨ c.slots.size ≤ j.toNatClampNeg) := by
  subst r hi
  rintro (q | q)
  · exact h0 q
  · simp at hlt; omega
theorem av_at {c : Cell} {vs : List Value} (r : c.slots.toList = vs) {i : Nat} {v : Value} (hv : vs[i]? = some v) : c.slots[i]? = some v := by
  subst r
  simpa using hv
theorem w_newP (X : Wk p l e R s m args below meth c Z n0 y code ml ret T cells slots h) {aty : ArrayType} {n : Int32} {k : Nat} (w : (Jvm.Cond.arrayClass (newarray.typeOf aty)).before a0 Z = true) (hn : ¬ n < 0) (hk : n.toNatClampNeg = k) {cap : Nat} (hcap : k ≤ cap) (hb0 : cap * 8 ≤ 536870912) (hc : cells + 1 ≤ R.cells) (hl : slots + cap ≤ R.slots) (hd : decode code pc = .ok (.newarray aty, 2)) (hp : pc + 2 = pc')
    (g : ∀ T' h' a, Wk p l e R s m args below meth c Z n0 y code ml ret T' (cells + 1) (slots + cap) h' → a = h.size → n0 ≤ a → Ext h h' → AV Z h' a (newarray.typeOf aty) (List.replicate k (defaultValue (newarray.typeOf aty))) → Goes p e below K T' m pc' L (.ref a :: S)) : Goes p e below K T m pc L (.int n :: S) := by
  obtain ⟨hx, hZ, hby, hml, hown, hnm, hret, hlk, hn', locs, X, eT, N⟩ := X
  subst hp hk
  obtain ⟨T1, h1, cA, X1, e1, E1, A1, st⟩ := newP X hx hZ w eT (g := mkF m pc L (.int n :: S)) rfl (hb hby hd) rfl hn hcap hb0 hc hl
  obtain ⟨u1, a1, b1⟩ := g _ _ _ ⟨hx, hZ, hby, hml, hown, hnm, hret, hlk, Nat.le_trans hn' E1.1, _, X1, e1, N⟩ rfl hn' E1 ⟨_, A1, (by simp [newA]), (by simp only [List.length_replicate]; exact (back32 hn).2)⟩
  exact ⟨u1, st _ a1, b1⟩
theorem w_iaload (X : Wk p l e R s m args below meth c Z n0 y code ml ret T cells slots h) {a : Addr} {vs : List Value} {j : Int32} {i : Nat} {v : Value} (A : AV Z h a .int vs) (h0 : ¬ j < 0) (hi : j.toNatClampNeg = i) (hv : vs[i]? = some v) (hd : decode code pc = .ok (.iaload, 1)) (hp : pc + 1 = pc') (g : Goes p e below K T m pc' L (v :: S)) : Goes p e below K T m pc L (.int j :: .ref a :: S) := by
  obtain ⟨hx, hZ, hby, hml, hown, hnm, hret, hlk, hn, locs, X, eT, N⟩ := X
  obtain ⟨cl, A, r, -⟩ := A
  subst hp
  obtain ⟨u1, a1, b1⟩ := g
  exact ⟨u1, X.iaload hx (by rw [eT]; exact A.1) (State.isArrayOf_alike hZ.alike A.2.1) A.2.2 (av_in r h0 hi (List.getElem?_eq_some_iff.mp hv).1) (by rw [hi]; exact av_at r hv) (g := mkF m pc L (.int j :: .ref a :: S)) rfl rfl (hb hby hd) _ a1, b1⟩
theorem w_laload (X : Wk p l e R s m args below meth c Z n0 y code ml ret T cells slots h) {a : Addr} {vs : List Value} {j : Int32} {i : Nat} {v : Value} (A : AV Z h a .long vs) (h0 : ¬ j < 0) (hi : j.toNatClampNeg = i) (hv : vs[i]? = some v) (hd : decode code pc = .ok (.laload, 1)) (hp : pc + 1 = pc') (g : Goes p e below K T m pc' L (v :: S)) : Goes p e below K T m pc L (.int j :: .ref a :: S) := by
  obtain ⟨hx, hZ, hby, hml, hown, hnm, hret, hlk, hn, locs, X, eT, N⟩ := X
  obtain ⟨cl, A, r, -⟩ := A
  subst hp
  obtain ⟨u1, a1, b1⟩ := g
  exact ⟨u1, X.laload hx (by rw [eT]; exact A.1) (State.isArrayOf_alike hZ.alike A.2.1) A.2.2 (av_in r h0 hi (List.getElem?_eq_some_iff.mp hv).1) (by rw [hi]; exact av_at r hv) (g := mkF m pc L (.int j :: .ref a :: S)) rfl rfl (hb hby hd) _ a1, b1⟩
theorem w_caload (X : Wk p l e R s m args below meth c Z n0 y code ml ret T cells slots h) {a : Addr} {vs : List Value} {j : Int32} {i : Nat} {v : Value} (A : AV Z h a .char vs) (h0 : ¬ j < 0) (hi : j.toNatClampNeg = i) (hv : vs[i]? = some v) (hd : decode code pc = .ok (.caload, 1)) (hp : pc + 1 = pc') (g : Goes p e below K T m pc' L (v :: S)) : Goes p e below K T m pc L (.int j :: .ref a :: S) := by
  obtain ⟨hx, hZ, hby, hml, hown, hnm, hret, hlk, hn, locs, X, eT, N⟩ := X
  obtain ⟨cl, A, r, -⟩ := A
  subst hp
  obtain ⟨u1, a1, b1⟩ := g
  exact ⟨u1, X.caload hx (by rw [eT]; exact A.1) (State.isArrayOf_alike hZ.alike A.2.1) A.2.2 (av_in r h0 hi (List.getElem?_eq_some_iff.mp hv).1) (by rw [hi]; exact av_at r hv) (g := mkF m pc L (.int j :: .ref a :: S)) rfl rfl (hb hby hd) _ a1, b1⟩
theorem w_baloadB (X : Wk p l e R s m args below meth c Z n0 y code ml ret T cells slots h) {a : Addr} {vs : List Value} {j : Int32} {i : Nat} {v : Value} (A : AV Z h a .byte vs) (h0 : ¬ j < 0) (hi : j.toNatClampNeg = i) (hv : vs[i]? = some v) (hd : decode code pc = .ok (.baload, 1)) (hp : pc + 1 = pc') (g : Goes p e below K T m pc' L (v :: S)) : Goes p e below K T m pc L (.int j :: .ref a :: S) := by
  obtain ⟨hx, hZ, hby, hml, hown, hnm, hret, hlk, hn, locs, X, eT, N⟩ := X
  obtain ⟨cl, A, r, -⟩ := A
  subst hp
  obtain ⟨u1, a1, b1⟩ := g
  exact ⟨u1, X.baloadBytes hx (by rw [eT]; exact A.1) (State.isArrayOf_alike hZ.alike A.2.1) A.2.2 (av_in r h0 hi (List.getElem?_eq_some_iff.mp hv).1) (by rw [hi]; exact av_at r hv) (g := mkF m pc L (.int j :: .ref a :: S)) rfl rfl (hb hby hd) _ a1, b1⟩
theorem w_baloadZ (X : Wk p l e R s m args below meth c Z n0 y code ml ret T cells slots h) {a : Addr} {vs : List Value} {j : Int32} {i : Nat} {v : Value} (A : AV Z h a .boolean vs) (h0 : ¬ j < 0) (hi : j.toNatClampNeg = i) (hv : vs[i]? = some v) (hd : decode code pc = .ok (.baload, 1)) (hp : pc + 1 = pc') (g : Goes p e below K T m pc' L (v :: S)) : Goes p e below K T m pc L (.int j :: .ref a :: S) := by
  obtain ⟨hx, hZ, hby, hml, hown, hnm, hret, hlk, hn, locs, X, eT, N⟩ := X
  obtain ⟨cl, A, r, -⟩ := A
  subst hp
  obtain ⟨u1, a1, b1⟩ := g
  exact ⟨u1, X.baloadBooleans hx (by rw [eT]; exact A.1) (State.isArrayOf_alike hZ.alike A.2.1) A.2.2 (av_in r h0 hi (List.getElem?_eq_some_iff.mp hv).1) (by rw [hi]; exact av_at r hv) (g := mkF m pc L (.int j :: .ref a :: S)) rfl rfl (hb hby hd) _ a1, b1⟩
theorem w_arraylength (X : Wk p l e R s m args below meth c Z n0 y code ml ret T cells slots h) {a : Addr} {ty : FieldType} {vs : List Value} {n : Int32} (A : AV Z h a ty vs) (hn : vs.length.toInt32 = n) (hd : decode code pc = .ok (.arraylength, 1)) (hp : pc + 1 = pc') (g : Goes p e below K T m pc' L (.int n :: S)) : Goes p e below K T m pc L (.ref a :: S) := by
  obtain ⟨hx, hZ, hby, hml, hown, hnm, hret, hlk, hn', locs, X, eT, N⟩ := X
  obtain ⟨cl, A, r, -⟩ := A
  have q : cl.slots.size.toInt32 = n := by rw [← hn, ← r]; simp
  subst hp q
  obtain ⟨u1, a1, b1⟩ := g
  exact ⟨u1, X.arraylength hx (by rw [eT]; exact A.1) (State.isArrayOf_alike hZ.alike A.2.1) (g := mkF m pc L (.ref a :: S)) rfl rfl (hb hby hd) _ a1, b1⟩
theorem w_iastore (X : Wk p l e R s m args below meth c Z n0 y code ml ret T cells slots h) {a : Addr} {vs : List Value} {j : Int32} {i : Nat} {x : Int32} (A : AV Z h a .int vs) (h0 : ¬ j < 0) (hi : j.toNatClampNeg = i) (hlt : i < vs.length) (ha : n0 ≤ a) (hd : decode code pc = .ok (.iastore, 1)) (hp : pc + 1 = pc') (g : ∀ T' h', Wk p l e R s m args below meth c Z n0 y code ml ret T' cells slots h' → Wr h h' a i (.int x) → AV Z h' a .int (vs.set i (.int x)) → Goes p e below K T' m pc' L S) : Goes p e below K T m pc L (.int x :: .int j :: .ref a :: S) := by
  obtain ⟨hx, hZ, hby, hml, hown, hnm, hret, hlk, hn, locs, X, eT, N⟩ := X
  have A0 := A
  obtain ⟨cl, A, r, -⟩ := A
  subst hp hi
  obtain ⟨T1, h1, X1, e1, W1, st⟩ := stI X hx hZ eT A (j := j) (av_in r h0 rfl hlt) (g := mkF m pc L (.int x :: .int j :: .ref a :: S)) rfl rfl (hb hby hd)
  obtain ⟨u1, a1, b1⟩ := g _ _ ⟨hx, hZ, hby, hml, hown, hnm, hret, hlk, W1.size.symm ▸ hn, _, X1, e1, Fr.snoc X1 N ha⟩ W1 (A0.set W1)
  exact ⟨u1, st _ a1, b1⟩
theorem w_lastore (X : Wk p l e R s m args below meth c Z n0 y code ml ret T cells slots h) {a : Addr} {vs : List Value} {j : Int32} {i : Nat} {x : Int64} (A : AV Z h a .long vs) (h0 : ¬ j < 0) (hi : j.toNatClampNeg = i) (hlt : i < vs.length) (ha : n0 ≤ a) (hd : decode code pc = .ok (.lastore, 1)) (hp : pc + 1 = pc') (g : ∀ T' h', Wk p l e R s m args below meth c Z n0 y code ml ret T' cells slots h' → Wr h h' a i (.long x) → AV Z h' a .long (vs.set i (.long x)) → Goes p e below K T' m pc' L S) : Goes p e below K T m pc L (.long x :: .int j :: .ref a :: S) := by
  obtain ⟨hx, hZ, hby, hml, hown, hnm, hret, hlk, hn, locs, X, eT, N⟩ := X
  have A0 := A
  obtain ⟨cl, A, r, -⟩ := A
  subst hp hi
  obtain ⟨T1, h1, X1, e1, W1, st⟩ := stJ X hx hZ eT A (j := j) (av_in r h0 rfl hlt) (g := mkF m pc L (.long x :: .int j :: .ref a :: S)) rfl rfl (hb hby hd)
  obtain ⟨u1, a1, b1⟩ := g _ _ ⟨hx, hZ, hby, hml, hown, hnm, hret, hlk, W1.size.symm ▸ hn, _, X1, e1, Fr.snoc X1 N ha⟩ W1 (A0.set W1)
  exact ⟨u1, st _ a1, b1⟩
theorem w_castore (X : Wk p l e R s m args below meth c Z n0 y code ml ret T cells slots h) {a : Addr} {vs : List Value} {j : Int32} {i : Nat} {x : Int32} (A : AV Z h a .char vs) (h0 : ¬ j < 0) (hi : j.toNatClampNeg = i) (hlt : i < vs.length) (ha : n0 ≤ a) (hd : decode code pc = .ok (.castore, 1)) (hp : pc + 1 = pc') (g : ∀ T' h', Wk p l e R s m args below meth c Z n0 y code ml ret T' cells slots h' → Wr h h' a i (.int (nar .char x)) → AV Z h' a .char (vs.set i (.int (nar .char x))) → Goes p e below K T' m pc' L S) : Goes p e below K T m pc L (.int x :: .int j :: .ref a :: S) := by
  obtain ⟨hx, hZ, hby, hml, hown, hnm, hret, hlk, hn, locs, X, eT, N⟩ := X
  have A0 := A
  obtain ⟨cl, A, r, -⟩ := A
  subst hp hi
  obtain ⟨T1, h1, X1, e1, W1, st⟩ := stC X hx hZ eT A (j := j) (av_in r h0 rfl hlt) (g := mkF m pc L (.int x :: .int j :: .ref a :: S)) rfl rfl (hb hby hd)
  obtain ⟨u1, a1, b1⟩ := g _ _ ⟨hx, hZ, hby, hml, hown, hnm, hret, hlk, W1.size.symm ▸ hn, _, X1, e1, Fr.snoc X1 N ha⟩ W1 (A0.set W1)
  exact ⟨u1, st _ a1, b1⟩
theorem w_bastoreB (X : Wk p l e R s m args below meth c Z n0 y code ml ret T cells slots h) {a : Addr} {vs : List Value} {j : Int32} {i : Nat} {x : Int32} (A : AV Z h a .byte vs) (h0 : ¬ j < 0) (hi : j.toNatClampNeg = i) (hlt : i < vs.length) (ha : n0 ≤ a) (hd : decode code pc = .ok (.bastore, 1)) (hp : pc + 1 = pc') (g : ∀ T' h', Wk p l e R s m args below meth c Z n0 y code ml ret T' cells slots h' → Wr h h' a i (.int (nar .byte x)) → AV Z h' a .byte (vs.set i (.int (nar .byte x))) → Goes p e below K T' m pc' L S) : Goes p e below K T m pc L (.int x :: .int j :: .ref a :: S) := by
  obtain ⟨hx, hZ, hby, hml, hown, hnm, hret, hlk, hn, locs, X, eT, N⟩ := X
  have A0 := A
  obtain ⟨cl, A, r, -⟩ := A
  subst hp hi
  obtain ⟨T1, h1, X1, e1, W1, st⟩ := stB X hx hZ eT A (j := j) (av_in r h0 rfl hlt) (g := mkF m pc L (.int x :: .int j :: .ref a :: S)) rfl rfl (hb hby hd)
  obtain ⟨u1, a1, b1⟩ := g _ _ ⟨hx, hZ, hby, hml, hown, hnm, hret, hlk, W1.size.symm ▸ hn, _, X1, e1, Fr.snoc X1 N ha⟩ W1 (A0.set W1)
  exact ⟨u1, st _ a1, b1⟩
theorem w_bastoreZ (X : Wk p l e R s m args below meth c Z n0 y code ml ret T cells slots h) {a : Addr} {vs : List Value} {j : Int32} {i : Nat} {x : Int32} (A : AV Z h a .boolean vs) (h0 : ¬ j < 0) (hi : j.toNatClampNeg = i) (hlt : i < vs.length) (ha : n0 ≤ a) (hd : decode code pc = .ok (.bastore, 1)) (hp : pc + 1 = pc') (g : ∀ T' h', Wk p l e R s m args below meth c Z n0 y code ml ret T' cells slots h' → Wr h h' a i (.int (nar .boolean x)) → AV Z h' a .boolean (vs.set i (.int (nar .boolean x))) → Goes p e below K T' m pc' L S) : Goes p e below K T m pc L (.int x :: .int j :: .ref a :: S) := by
  obtain ⟨hx, hZ, hby, hml, hown, hnm, hret, hlk, hn, locs, X, eT, N⟩ := X
  have A0 := A
  obtain ⟨cl, A, r, -⟩ := A
  subst hp hi
  obtain ⟨T1, h1, X1, e1, W1, st⟩ := stZ X hx hZ eT A (j := j) (av_in r h0 rfl hlt) (g := mkF m pc L (.int x :: .int j :: .ref a :: S)) rfl rfl (hb hby hd)
  obtain ⟨u1, a1, b1⟩ := g _ _ ⟨hx, hZ, hby, hml, hown, hnm, hret, hlk, W1.size.symm ▸ hn, _, X1, e1, Fr.snoc X1 N ha⟩ W1 (A0.set W1)
  exact ⟨u1, st _ a1, b1⟩
theorem getI {xs : List Int32} {i : Nat} (q : i < xs.length) : (xs.map Value.int)[i]? = some (.int (xs.getD i 0)) := by
  simp [List.getD_eq_getElem?_getD, List.getElem?_eq_getElem q]
theorem getL {xs : List Int64} {i : Nat} (q : i < xs.length) : (xs.map Value.long)[i]? = some (.long (xs.getD i 0)) := by
  simp [List.getD_eq_getElem?_getD, List.getElem?_eq_getElem q]
/-- a new name for a value -/
theorem nameI {K' : Prop} (v : Int32) (g : ∀ z, z = v → K') : K' := g v rfl
theorem nameL {K' : Prop} (v : Int64) (g : ∀ z, z = v → K') : K' := g v rfl
end Rules
end Jvm.Own
namespace Jvm.Pilot.@@N@@
open Jvm Jvm.ClassFile Sem Op Lib Jvm.Free Jvm.Stand Jvm.LawKit Jvm.RoadKit Bundle Jvm.Own Jvm.Pilot.@@N@@.Jvm.D
def f_len (p1 : Int32) : Int32 :=
  (if p1 < (194 : Int32) then (if p1 < (224 : Int32) then (if p1 < (240 : Int32) then (0 : Int32) else (if (244 : Int32) < p1 then (0 : Int32) else (4 : Int32))) else (if (239 : Int32) < p1 then (if p1 < (240 : Int32) then (0 : Int32) else (if (244 : Int32) < p1 then (0 : Int32) else (4 : Int32))) else (3 : Int32))) else (if (223 : Int32) < p1 then (if p1 < (224 : Int32) then (if p1 < (240 : Int32) then (0 : Int32) else (if (244 : Int32) < p1 then (0 : Int32) else (4 : Int32))) else (if (239 : Int32) < p1 then (if p1 < (240 : Int32) then (0 : Int32) else (if (244 : Int32) < p1 then (0 : Int32) else (4 : Int32))) else (3 : Int32))) else (2 : Int32)))
theorem d1_0 : decode prog_77_method_3_code 0 = .ok (.iload_n 0, 1) := by decide +kernel
theorem d1_1 : decode prog_77_method_3_code 1 = .ok (.sipush 194, 3) := by decide +kernel
theorem d1_4 : decode prog_77_method_3_code 4 = .ok (.if_icmp .lt 15, 3) := by decide +kernel
theorem d1_7 : decode prog_77_method_3_code 7 = .ok (.iload_n 0, 1) := by decide +kernel
theorem d1_8 : decode prog_77_method_3_code 8 = .ok (.sipush 223, 3) := by decide +kernel
theorem d1_11 : decode prog_77_method_3_code 11 = .ok (.if_icmp .gt 8, 3) := by decide +kernel
theorem d1_14 : decode prog_77_method_3_code 14 = .ok (.iconst 2, 1) := by decide +kernel
theorem d1_15 : decode prog_77_method_3_code 15 = .ok (.istore_n 1, 1) := by decide +kernel
theorem d1_16 : decode prog_77_method_3_code 16 = .ok (.goto 43, 3) := by decide +kernel
theorem d1_19 : decode prog_77_method_3_code 19 = .ok (.iload_n 0, 1) := by decide +kernel
theorem d1_20 : decode prog_77_method_3_code 20 = .ok (.sipush 224, 3) := by decide +kernel
theorem d1_23 : decode prog_77_method_3_code 23 = .ok (.if_icmp .lt 15, 3) := by decide +kernel
theorem d1_26 : decode prog_77_method_3_code 26 = .ok (.iload_n 0, 1) := by decide +kernel
theorem d1_27 : decode prog_77_method_3_code 27 = .ok (.sipush 239, 3) := by decide +kernel
theorem d1_30 : decode prog_77_method_3_code 30 = .ok (.if_icmp .gt 8, 3) := by decide +kernel
theorem d1_33 : decode prog_77_method_3_code 33 = .ok (.iconst 3, 1) := by decide +kernel
theorem d1_34 : decode prog_77_method_3_code 34 = .ok (.istore_n 1, 1) := by decide +kernel
theorem d1_35 : decode prog_77_method_3_code 35 = .ok (.goto 24, 3) := by decide +kernel
theorem d1_38 : decode prog_77_method_3_code 38 = .ok (.iload_n 0, 1) := by decide +kernel
theorem d1_39 : decode prog_77_method_3_code 39 = .ok (.sipush 240, 3) := by decide +kernel
theorem d1_42 : decode prog_77_method_3_code 42 = .ok (.if_icmp .lt 15, 3) := by decide +kernel
theorem d1_45 : decode prog_77_method_3_code 45 = .ok (.iload_n 0, 1) := by decide +kernel
theorem d1_46 : decode prog_77_method_3_code 46 = .ok (.sipush 244, 3) := by decide +kernel
theorem d1_49 : decode prog_77_method_3_code 49 = .ok (.if_icmp .gt 8, 3) := by decide +kernel
theorem d1_52 : decode prog_77_method_3_code 52 = .ok (.iconst 4, 1) := by decide +kernel
theorem d1_53 : decode prog_77_method_3_code 53 = .ok (.istore_n 1, 1) := by decide +kernel
theorem d1_54 : decode prog_77_method_3_code 54 = .ok (.goto 5, 3) := by decide +kernel
theorem d1_57 : decode prog_77_method_3_code 57 = .ok (.iconst 0, 1) := by decide +kernel
theorem d1_58 : decode prog_77_method_3_code 58 = .ok (.istore_n 1, 1) := by decide +kernel
theorem d1_59 : decode prog_77_method_3_code 59 = .ok (.iload_n 1, 1) := by decide +kernel
theorem d1_60 : decode prog_77_method_3_code 60 = .ok (.ireturn, 1) := by decide +kernel
theorem pn_1 : plainName "com/example/mullion/mullion/cli/Utf8" = true := by first | (simp [plainName, overriddenIn]; done) | decide +kernel
theorem ef_1 (m : MethodId) (p1 : Int32) : entryFrame m #[(.int p1)] 2 = mkF m 0 #[.val (.int p1), .unset] [] := by first | (simp [entryFrame, mkF, argsToLocals, Value.category]; done) | rfl
set_option maxRecDepth 65536 in
set_option maxHeartbeats 4000000 in
theorem rm1 (l : Launch) (Z : State) (a0 : Array Value) (hw : ∀ d ∈ tables_1, d.before a0 Z = true) (p1 : Int32) (h0 : Heap) (n0 : Nat) (Z0 : n0 ≤ h0.size) :
    Con l Z (⟨"com/example/mullion/mullion/cli/Utf8", "length", "(I)I"⟩ : MethodName) prog_77_method_3_code 2 (some .int) ({ frames := 0, cells := 0, slots := 0, locals := 0 } : Room) #[(.int p1)] h0 n0 (some (.int (f_len p1))) (fun h => h = h0) := by
  refine con_of (plainFor_of_name pn_1) Z0 (fun m => ef_1 m p1) ?_
  intro p e s m below meth c T0 X0
  refine w_iloadN X0 d1_0 rfl rfl ?_
  refine w_sipush X0 d1_1 (v := (194 : Int32)) rfl rfl ?_
  suffices j4 : ∀ (T2 : State) (z1 : Int32), (Wk p l e ({ frames := 0, cells := 0, slots := 0, locals := 0 } : Room) s m #[(.int p1)] below meth c Z n0 (⟨"com/example/mullion/mullion/cli/Utf8", "length", "(I)I"⟩ : MethodName) prog_77_method_3_code 2 (some .int) T2 0 0 h0) → (z1 = (if p1 < (194 : Int32) then (if p1 < (224 : Int32) then (if p1 < (240 : Int32) then (0 : Int32) else (if (244 : Int32) < p1 then (0 : Int32) else (4 : Int32))) else (if (239 : Int32) < p1 then (if p1 < (240 : Int32) then (0 : Int32) else (if (244 : Int32) < p1 then (0 : Int32) else (4 : Int32))) else (3 : Int32))) else (if (223 : Int32) < p1 then (if p1 < (224 : Int32) then (if p1 < (240 : Int32) then (0 : Int32) else (if (244 : Int32) < p1 then (0 : Int32) else (4 : Int32))) else (if (239 : Int32) < p1 then (if p1 < (240 : Int32) then (0 : Int32) else (if (244 : Int32) < p1 then (0 : Int32) else (4 : Int32))) else (3 : Int32))) else (2 : Int32)))) → Goes p e below (Done below s n0 ({ frames := 0, cells := 0, slots := 0, locals := 0 } : Room) (some (.int (f_len p1))) (fun h => h = h0)) T2 m 59 #[.val (.int p1), .val (.int z1)] [] by
    refine w_icmp_lt X0 d1_4 (by decide) (pcT := 19) (pcF := 7) (by decide) rfl (fun c5 => ?_) (fun c5 => ?_)
    · refine w_iloadN X0 d1_19 rfl rfl ?_
      refine w_sipush X0 d1_20 (v := (224 : Int32)) rfl rfl ?_
      refine w_icmp_lt X0 d1_23 (by decide) (pcT := 38) (pcF := 26) (by decide) rfl (fun c6 => ?_) (fun c6 => ?_)
      · refine w_iloadN X0 d1_38 rfl rfl ?_
        refine w_sipush X0 d1_39 (v := (240 : Int32)) rfl rfl ?_
        refine w_icmp_lt X0 d1_42 (by decide) (pcT := 57) (pcF := 45) (by decide) rfl (fun c7 => ?_) (fun c7 => ?_)
        · refine w_iconst X0 d1_57 (v := (0 : Int32)) rfl rfl ?_
          refine w_istoreN X0 d1_58 rfl (L' := #[.val (.int p1), .val (.int (0 : Int32))]) rfl ?_
          exact j4 _ _ X0 (by rw [if_pos c5, if_pos c6, if_pos c7])
        · refine w_iloadN X0 d1_45 rfl rfl ?_
          refine w_sipush X0 d1_46 (v := (244 : Int32)) rfl rfl ?_
          refine w_icmp_gt X0 d1_49 (by decide) (pcT := 57) (pcF := 52) (by decide) rfl (fun c8 => ?_) (fun c8 => ?_)
          · refine w_iconst X0 d1_57 (v := (0 : Int32)) rfl rfl ?_
            refine w_istoreN X0 d1_58 rfl (L' := #[.val (.int p1), .val (.int (0 : Int32))]) rfl ?_
            exact j4 _ _ X0 (by rw [if_pos c5, if_pos c6, if_neg c7, if_pos c8])
          · refine w_iconst X0 d1_52 (v := (4 : Int32)) rfl rfl ?_
            refine w_istoreN X0 d1_53 rfl (L' := #[.val (.int p1), .val (.int (4 : Int32))]) rfl ?_
            refine w_goto X0 d1_54 (by decide) (pc' := 59) (by decide) ?_
            exact j4 _ _ X0 (by rw [if_pos c5, if_pos c6, if_neg c7, if_neg c8])
      · refine w_iloadN X0 d1_26 rfl rfl ?_
        refine w_sipush X0 d1_27 (v := (239 : Int32)) rfl rfl ?_
        refine w_icmp_gt X0 d1_30 (by decide) (pcT := 38) (pcF := 33) (by decide) rfl (fun c9 => ?_) (fun c9 => ?_)
        · refine w_iloadN X0 d1_38 rfl rfl ?_
          refine w_sipush X0 d1_39 (v := (240 : Int32)) rfl rfl ?_
          refine w_icmp_lt X0 d1_42 (by decide) (pcT := 57) (pcF := 45) (by decide) rfl (fun c10 => ?_) (fun c10 => ?_)
          · refine w_iconst X0 d1_57 (v := (0 : Int32)) rfl rfl ?_
            refine w_istoreN X0 d1_58 rfl (L' := #[.val (.int p1), .val (.int (0 : Int32))]) rfl ?_
            exact j4 _ _ X0 (by rw [if_pos c5, if_neg c6, if_pos c9, if_pos c10])
          · refine w_iloadN X0 d1_45 rfl rfl ?_
            refine w_sipush X0 d1_46 (v := (244 : Int32)) rfl rfl ?_
            refine w_icmp_gt X0 d1_49 (by decide) (pcT := 57) (pcF := 52) (by decide) rfl (fun c11 => ?_) (fun c11 => ?_)
            · refine w_iconst X0 d1_57 (v := (0 : Int32)) rfl rfl ?_
              refine w_istoreN X0 d1_58 rfl (L' := #[.val (.int p1), .val (.int (0 : Int32))]) rfl ?_
              exact j4 _ _ X0 (by rw [if_pos c5, if_neg c6, if_pos c9, if_neg c10, if_pos c11])
            · refine w_iconst X0 d1_52 (v := (4 : Int32)) rfl rfl ?_
              refine w_istoreN X0 d1_53 rfl (L' := #[.val (.int p1), .val (.int (4 : Int32))]) rfl ?_
              refine w_goto X0 d1_54 (by decide) (pc' := 59) (by decide) ?_
              exact j4 _ _ X0 (by rw [if_pos c5, if_neg c6, if_pos c9, if_neg c10, if_neg c11])
        · refine w_iconst X0 d1_33 (v := (3 : Int32)) rfl rfl ?_
          refine w_istoreN X0 d1_34 rfl (L' := #[.val (.int p1), .val (.int (3 : Int32))]) rfl ?_
          refine w_goto X0 d1_35 (by decide) (pc' := 59) (by decide) ?_
          exact j4 _ _ X0 (by rw [if_pos c5, if_neg c6, if_neg c9])
    · refine w_iloadN X0 d1_7 rfl rfl ?_
      refine w_sipush X0 d1_8 (v := (223 : Int32)) rfl rfl ?_
      refine w_icmp_gt X0 d1_11 (by decide) (pcT := 19) (pcF := 14) (by decide) rfl (fun c12 => ?_) (fun c12 => ?_)
      · refine w_iloadN X0 d1_19 rfl rfl ?_
        refine w_sipush X0 d1_20 (v := (224 : Int32)) rfl rfl ?_
        refine w_icmp_lt X0 d1_23 (by decide) (pcT := 38) (pcF := 26) (by decide) rfl (fun c13 => ?_) (fun c13 => ?_)
        · refine w_iloadN X0 d1_38 rfl rfl ?_
          refine w_sipush X0 d1_39 (v := (240 : Int32)) rfl rfl ?_
          refine w_icmp_lt X0 d1_42 (by decide) (pcT := 57) (pcF := 45) (by decide) rfl (fun c14 => ?_) (fun c14 => ?_)
          · refine w_iconst X0 d1_57 (v := (0 : Int32)) rfl rfl ?_
            refine w_istoreN X0 d1_58 rfl (L' := #[.val (.int p1), .val (.int (0 : Int32))]) rfl ?_
            exact j4 _ _ X0 (by rw [if_neg c5, if_pos c12, if_pos c13, if_pos c14])
          · refine w_iloadN X0 d1_45 rfl rfl ?_
            refine w_sipush X0 d1_46 (v := (244 : Int32)) rfl rfl ?_
            refine w_icmp_gt X0 d1_49 (by decide) (pcT := 57) (pcF := 52) (by decide) rfl (fun c15 => ?_) (fun c15 => ?_)
            · refine w_iconst X0 d1_57 (v := (0 : Int32)) rfl rfl ?_
              refine w_istoreN X0 d1_58 rfl (L' := #[.val (.int p1), .val (.int (0 : Int32))]) rfl ?_
              exact j4 _ _ X0 (by rw [if_neg c5, if_pos c12, if_pos c13, if_neg c14, if_pos c15])
            · refine w_iconst X0 d1_52 (v := (4 : Int32)) rfl rfl ?_
              refine w_istoreN X0 d1_53 rfl (L' := #[.val (.int p1), .val (.int (4 : Int32))]) rfl ?_
              refine w_goto X0 d1_54 (by decide) (pc' := 59) (by decide) ?_
              exact j4 _ _ X0 (by rw [if_neg c5, if_pos c12, if_pos c13, if_neg c14, if_neg c15])
        · refine w_iloadN X0 d1_26 rfl rfl ?_
          refine w_sipush X0 d1_27 (v := (239 : Int32)) rfl rfl ?_
          refine w_icmp_gt X0 d1_30 (by decide) (pcT := 38) (pcF := 33) (by decide) rfl (fun c16 => ?_) (fun c16 => ?_)
          · refine w_iloadN X0 d1_38 rfl rfl ?_
            refine w_sipush X0 d1_39 (v := (240 : Int32)) rfl rfl ?_
            refine w_icmp_lt X0 d1_42 (by decide) (pcT := 57) (pcF := 45) (by decide) rfl (fun c17 => ?_) (fun c17 => ?_)
            · refine w_iconst X0 d1_57 (v := (0 : Int32)) rfl rfl ?_
              refine w_istoreN X0 d1_58 rfl (L' := #[.val (.int p1), .val (.int (0 : Int32))]) rfl ?_
              exact j4 _ _ X0 (by rw [if_neg c5, if_pos c12, if_neg c13, if_pos c16, if_pos c17])
            · refine w_iloadN X0 d1_45 rfl rfl ?_
              refine w_sipush X0 d1_46 (v := (244 : Int32)) rfl rfl ?_
              refine w_icmp_gt X0 d1_49 (by decide) (pcT := 57) (pcF := 52) (by decide) rfl (fun c18 => ?_) (fun c18 => ?_)
              · refine w_iconst X0 d1_57 (v := (0 : Int32)) rfl rfl ?_
                refine w_istoreN X0 d1_58 rfl (L' := #[.val (.int p1), .val (.int (0 : Int32))]) rfl ?_
                exact j4 _ _ X0 (by rw [if_neg c5, if_pos c12, if_neg c13, if_pos c16, if_neg c17, if_pos c18])
              · refine w_iconst X0 d1_52 (v := (4 : Int32)) rfl rfl ?_
                refine w_istoreN X0 d1_53 rfl (L' := #[.val (.int p1), .val (.int (4 : Int32))]) rfl ?_
                refine w_goto X0 d1_54 (by decide) (pc' := 59) (by decide) ?_
                exact j4 _ _ X0 (by rw [if_neg c5, if_pos c12, if_neg c13, if_pos c16, if_neg c17, if_neg c18])
          · refine w_iconst X0 d1_33 (v := (3 : Int32)) rfl rfl ?_
            refine w_istoreN X0 d1_34 rfl (L' := #[.val (.int p1), .val (.int (3 : Int32))]) rfl ?_
            refine w_goto X0 d1_35 (by decide) (pc' := 59) (by decide) ?_
            exact j4 _ _ X0 (by rw [if_neg c5, if_pos c12, if_neg c13, if_neg c16])
      · refine w_iconst X0 d1_14 (v := (2 : Int32)) rfl rfl ?_
        refine w_istoreN X0 d1_15 rfl (L' := #[.val (.int p1), .val (.int (2 : Int32))]) rfl ?_
        refine w_goto X0 d1_16 (by decide) (pc' := 59) (by decide) ?_
        exact j4 _ _ X0 (by rw [if_neg c5, if_neg c12])
  intro T2 z1 X3 hz1
  refine w_iloadN X3 d1_59 rfl rfl ?_
  exact w_ireturn X3 d1_60 (by subst hz1; unfold f_len; rfl) rfl (by decide) (by decide)
def f_exp (p1 : Int32) : Int32 :=
  (if (p1 &&& (224 : Int32)) = (192 : Int32) then (if (((p1 &&& (31 : Int32)) <<< ((6 : Int32) &&& 31)) ||| (63 : Int32)) < (128 : Int32) then (0 : Int32) else (2 : Int32)) else (if (p1 &&& (240 : Int32)) = (224 : Int32) then (if (((p1 &&& (15 : Int32)) <<< ((12 : Int32) &&& 31)) ||| (4095 : Int32)) < (2048 : Int32) then (0 : Int32) else (3 : Int32)) else (if (p1 &&& (248 : Int32)) = (240 : Int32) then (if (1114111 : Int32) < ((p1 &&& (7 : Int32)) <<< ((18 : Int32) &&& 31)) then (0 : Int32) else (4 : Int32)) else (0 : Int32))))
theorem d2_0 : decode method_3_code 0 = .ok (.iload_n 0, 1) := by decide +kernel
theorem d2_1 : decode method_3_code 1 = .ok (.sipush 224, 3) := by decide +kernel
theorem d2_4 : decode method_3_code 4 = .ok (.iand, 1) := by decide +kernel
theorem d2_5 : decode method_3_code 5 = .ok (.sipush 192, 3) := by decide +kernel
theorem d2_8 : decode method_3_code 8 = .ok (.if_icmp .ne 30, 3) := by decide +kernel
theorem d2_11 : decode method_3_code 11 = .ok (.iload_n 0, 1) := by decide +kernel
theorem d2_12 : decode method_3_code 12 = .ok (.bipush 31, 2) := by decide +kernel
theorem d2_14 : decode method_3_code 14 = .ok (.iand, 1) := by decide +kernel
theorem d2_15 : decode method_3_code 15 = .ok (.bipush 6, 2) := by decide +kernel
theorem d2_17 : decode method_3_code 17 = .ok (.ishl, 1) := by decide +kernel
theorem d2_18 : decode method_3_code 18 = .ok (.bipush 63, 2) := by decide +kernel
theorem d2_20 : decode method_3_code 20 = .ok (.ior, 1) := by decide +kernel
theorem d2_21 : decode method_3_code 21 = .ok (.istore_n 2, 1) := by decide +kernel
theorem d2_22 : decode method_3_code 22 = .ok (.iload_n 2, 1) := by decide +kernel
theorem d2_23 : decode method_3_code 23 = .ok (.sipush 128, 3) := by decide +kernel
theorem d2_26 : decode method_3_code 26 = .ok (.if_icmp .lt 7, 3) := by decide +kernel
theorem d2_29 : decode method_3_code 29 = .ok (.iconst 2, 1) := by decide +kernel
theorem d2_30 : decode method_3_code 30 = .ok (.goto 4, 3) := by decide +kernel
theorem d2_33 : decode method_3_code 33 = .ok (.iconst 0, 1) := by decide +kernel
theorem d2_34 : decode method_3_code 34 = .ok (.istore_n 1, 1) := by decide +kernel
theorem d2_35 : decode method_3_code 35 = .ok (.goto 78, 3) := by decide +kernel
theorem d2_38 : decode method_3_code 38 = .ok (.iload_n 0, 1) := by decide +kernel
theorem d2_39 : decode method_3_code 39 = .ok (.sipush 240, 3) := by decide +kernel
theorem d2_42 : decode method_3_code 42 = .ok (.iand, 1) := by decide +kernel
theorem d2_43 : decode method_3_code 43 = .ok (.sipush 224, 3) := by decide +kernel
theorem d2_46 : decode method_3_code 46 = .ok (.if_icmp .ne 31, 3) := by decide +kernel
theorem d2_49 : decode method_3_code 49 = .ok (.iload_n 0, 1) := by decide +kernel
theorem d2_50 : decode method_3_code 50 = .ok (.bipush 15, 2) := by decide +kernel
theorem d2_52 : decode method_3_code 52 = .ok (.iand, 1) := by decide +kernel
theorem d2_53 : decode method_3_code 53 = .ok (.bipush 12, 2) := by decide +kernel
theorem d2_55 : decode method_3_code 55 = .ok (.ishl, 1) := by decide +kernel
theorem d2_56 : decode method_3_code 56 = .ok (.sipush 4095, 3) := by decide +kernel
theorem d2_59 : decode method_3_code 59 = .ok (.ior, 1) := by decide +kernel
theorem d2_60 : decode method_3_code 60 = .ok (.istore_n 2, 1) := by decide +kernel
theorem d2_61 : decode method_3_code 61 = .ok (.iload_n 2, 1) := by decide +kernel
theorem d2_62 : decode method_3_code 62 = .ok (.sipush 2048, 3) := by decide +kernel
theorem d2_65 : decode method_3_code 65 = .ok (.if_icmp .lt 7, 3) := by decide +kernel
theorem d2_68 : decode method_3_code 68 = .ok (.iconst 3, 1) := by decide +kernel
theorem d2_69 : decode method_3_code 69 = .ok (.goto 4, 3) := by decide +kernel
theorem d2_72 : decode method_3_code 72 = .ok (.iconst 0, 1) := by decide +kernel
theorem d2_73 : decode method_3_code 73 = .ok (.istore_n 1, 1) := by decide +kernel
theorem d2_74 : decode method_3_code 74 = .ok (.goto 39, 3) := by decide +kernel
theorem d2_77 : decode method_3_code 77 = .ok (.iload_n 0, 1) := by decide +kernel
theorem d2_78 : decode method_3_code 78 = .ok (.sipush 248, 3) := by decide +kernel
theorem d2_81 : decode method_3_code 81 = .ok (.iand, 1) := by decide +kernel
theorem d2_82 : decode method_3_code 82 = .ok (.sipush 240, 3) := by decide +kernel
theorem d2_85 : decode method_3_code 85 = .ok (.if_icmp .ne 26, 3) := by decide +kernel
theorem d2_88 : decode method_3_code 88 = .ok (.iload_n 0, 1) := by decide +kernel
theorem d2_89 : decode method_3_code 89 = .ok (.bipush 7, 2) := by decide +kernel
theorem d2_91 : decode method_3_code 91 = .ok (.iand, 1) := by decide +kernel
theorem d2_92 : decode method_3_code 92 = .ok (.bipush 18, 2) := by decide +kernel
theorem d2_94 : decode method_3_code 94 = .ok (.ishl, 1) := by decide +kernel
theorem d2_95 : decode method_3_code 95 = .ok (.istore_n 2, 1) := by decide +kernel
theorem d2_96 : decode method_3_code 96 = .ok (.iload_n 2, 1) := by decide +kernel
theorem d2_97 : decode method_3_code 97 = .ok (.ldc 18, 2) := by decide +kernel
theorem d2_99 : decode method_3_code 99 = .ok (.if_icmp .gt 7, 3) := by decide +kernel
theorem d2_102 : decode method_3_code 102 = .ok (.iconst 4, 1) := by decide +kernel
theorem d2_103 : decode method_3_code 103 = .ok (.goto 4, 3) := by decide +kernel
theorem d2_106 : decode method_3_code 106 = .ok (.iconst 0, 1) := by decide +kernel
theorem d2_107 : decode method_3_code 107 = .ok (.istore_n 1, 1) := by decide +kernel
theorem d2_108 : decode method_3_code 108 = .ok (.goto 5, 3) := by decide +kernel
theorem d2_111 : decode method_3_code 111 = .ok (.iconst 0, 1) := by decide +kernel
theorem d2_112 : decode method_3_code 112 = .ok (.istore_n 1, 1) := by decide +kernel
theorem d2_113 : decode method_3_code 113 = .ok (.iload_n 1, 1) := by decide +kernel
theorem d2_114 : decode method_3_code 114 = .ok (.ireturn, 1) := by decide +kernel
theorem pn_2 : plainName "com/example/mullion/mullion/cli/Utf8LengthPinLaw" = true := by first | (simp [plainName, overriddenIn]; done) | decide +kernel
theorem ef_2 (m : MethodId) (p1 : Int32) : entryFrame m #[(.int p1)] 3 = mkF m 0 #[.val (.int p1), .unset, .unset] [] := by first | (simp [entryFrame, mkF, argsToLocals, Value.category]; done) | rfl
set_option maxRecDepth 65536 in
set_option maxHeartbeats 4000000 in
theorem rm2 (l : Launch) (Z : State) (a0 : Array Value) (hw : ∀ d ∈ tables_1, d.before a0 Z = true) (p1 : Int32) (h0 : Heap) (n0 : Nat) (Z0 : n0 ≤ h0.size) :
    Con l Z (⟨"com/example/mullion/mullion/cli/Utf8LengthPinLaw", "expected", "(I)I"⟩ : MethodName) method_3_code 3 (some .int) ({ frames := 0, cells := 0, slots := 0, locals := 0 } : Room) #[(.int p1)] h0 n0 (some (.int (f_exp p1))) (fun h => h = h0) := by
  refine con_of (plainFor_of_name pn_2) Z0 (fun m => ef_2 m p1) ?_
  intro p e s m below meth c T0 X0
  refine w_iloadN X0 d2_0 rfl rfl ?_
  refine w_sipush X0 d2_1 (v := (224 : Int32)) rfl rfl ?_
  refine w_iand X0 d2_4 rfl ?_
  refine w_sipush X0 d2_5 (v := (192 : Int32)) rfl rfl ?_
  suffices j5 : ∀ (T3 : State) (z1 : Int32) (s2 : Slot), (Wk p l e ({ frames := 0, cells := 0, slots := 0, locals := 0 } : Room) s m #[(.int p1)] below meth c Z n0 (⟨"com/example/mullion/mullion/cli/Utf8LengthPinLaw", "expected", "(I)I"⟩ : MethodName) method_3_code 3 (some .int) T3 0 0 h0) → (z1 = (if (p1 &&& (224 : Int32)) = (192 : Int32) then (if (((p1 &&& (31 : Int32)) <<< ((6 : Int32) &&& 31)) ||| (63 : Int32)) < (128 : Int32) then (0 : Int32) else (2 : Int32)) else (if (p1 &&& (240 : Int32)) = (224 : Int32) then (if (((p1 &&& (15 : Int32)) <<< ((12 : Int32) &&& 31)) ||| (4095 : Int32)) < (2048 : Int32) then (0 : Int32) else (3 : Int32)) else (if (p1 &&& (248 : Int32)) = (240 : Int32) then (if (1114111 : Int32) < ((p1 &&& (7 : Int32)) <<< ((18 : Int32) &&& 31)) then (0 : Int32) else (4 : Int32)) else (0 : Int32))))) → (OneS s2) → Goes p e below (Done below s n0 ({ frames := 0, cells := 0, slots := 0, locals := 0 } : Room) (some (.int (f_exp p1))) (fun h => h = h0)) T3 m 113 #[.val (.int p1), .val (.int z1), s2] [] by
    refine w_icmp_ne X0 d2_8 (by decide) (pcT := 38) (pcF := 11) (by decide) rfl (fun c6 => ?_) (fun c6 => ?_)
    · refine w_iloadN X0 d2_38 rfl rfl ?_
      refine w_sipush X0 d2_39 (v := (240 : Int32)) rfl rfl ?_
      refine w_iand X0 d2_42 rfl ?_
      refine w_sipush X0 d2_43 (v := (224 : Int32)) rfl rfl ?_
      refine w_icmp_ne X0 d2_46 (by decide) (pcT := 77) (pcF := 49) (by decide) rfl (fun c7 => ?_) (fun c7 => ?_)
      · refine w_iloadN X0 d2_77 rfl rfl ?_
        refine w_sipush X0 d2_78 (v := (248 : Int32)) rfl rfl ?_
        refine w_iand X0 d2_81 rfl ?_
        refine w_sipush X0 d2_82 (v := (240 : Int32)) rfl rfl ?_
        refine w_icmp_ne X0 d2_85 (by decide) (pcT := 111) (pcF := 88) (by decide) rfl (fun c8 => ?_) (fun c8 => ?_)
        · refine w_iconst X0 d2_111 (v := (0 : Int32)) rfl rfl ?_
          refine w_istoreN X0 d2_112 rfl (L' := #[.val (.int p1), .val (.int (0 : Int32)), .unset]) rfl ?_
          exact j5 _ _ _ X0 (by rw [if_neg c6, if_neg c7, if_neg c8]) OneS.u
        · refine w_iloadN X0 d2_88 rfl rfl ?_
          refine w_bipush X0 d2_89 (v := (7 : Int32)) rfl rfl ?_
          refine w_iand X0 d2_91 rfl ?_
          refine w_bipush X0 d2_92 (v := (18 : Int32)) rfl rfl ?_
          refine w_ishl X0 d2_94 rfl ?_
          refine w_istoreN X0 d2_95 rfl (L' := #[.val (.int p1), .unset, .val (.int ((p1 &&& (7 : Int32)) <<< ((18 : Int32) &&& 31)))]) rfl ?_
          refine w_iloadN X0 d2_96 rfl rfl ?_
          refine w_ldcInt X0 (hw _ (List.mem_of_getElem? (i := 8) rfl)) d2_97 rfl ?_
          suffices j12 : ∀ (T10 : State) (z9 : Int32), (Wk p l e ({ frames := 0, cells := 0, slots := 0, locals := 0 } : Room) s m #[(.int p1)] below meth c Z n0 (⟨"com/example/mullion/mullion/cli/Utf8LengthPinLaw", "expected", "(I)I"⟩ : MethodName) method_3_code 3 (some .int) T10 0 0 h0) → (z9 = (if (1114111 : Int32) < ((p1 &&& (7 : Int32)) <<< ((18 : Int32) &&& 31)) then (0 : Int32) else (4 : Int32))) → Goes p e below (Done below s n0 ({ frames := 0, cells := 0, slots := 0, locals := 0 } : Room) (some (.int (f_exp p1))) (fun h => h = h0)) T10 m 107 #[.val (.int p1), .unset, .val (.int ((p1 &&& (7 : Int32)) <<< ((18 : Int32) &&& 31)))] [(.int z9)] by
            refine w_icmp_gt X0 d2_99 (by decide) (pcT := 106) (pcF := 102) (by decide) rfl (fun c13 => ?_) (fun c13 => ?_)
            · refine w_iconst X0 d2_106 (v := (0 : Int32)) rfl rfl ?_
              exact j12 _ _ X0 (by rw [if_pos c13])
            · refine w_iconst X0 d2_102 (v := (4 : Int32)) rfl rfl ?_
              refine w_goto X0 d2_103 (by decide) (pc' := 107) (by decide) ?_
              exact j12 _ _ X0 (by rw [if_neg c13])
          intro T10 z9 X11 hz9
          refine w_istoreN X11 d2_107 rfl (L' := #[.val (.int p1), .val (.int z9), .val (.int ((p1 &&& (7 : Int32)) <<< ((18 : Int32) &&& 31)))]) rfl ?_
          refine w_goto X11 d2_108 (by decide) (pc' := 113) (by decide) ?_
          exact j5 _ _ _ X11 (by subst hz9; rw [if_neg c6, if_neg c7, if_pos c8]) (OneS.i _)
      · refine w_iloadN X0 d2_49 rfl rfl ?_
        refine w_bipush X0 d2_50 (v := (15 : Int32)) rfl rfl ?_
        refine w_iand X0 d2_52 rfl ?_
        refine w_bipush X0 d2_53 (v := (12 : Int32)) rfl rfl ?_
        refine w_ishl X0 d2_55 rfl ?_
        refine w_sipush X0 d2_56 (v := (4095 : Int32)) rfl rfl ?_
        refine w_ior X0 d2_59 rfl ?_
        refine w_istoreN X0 d2_60 rfl (L' := #[.val (.int p1), .unset, .val (.int (((p1 &&& (15 : Int32)) <<< ((12 : Int32) &&& 31)) ||| (4095 : Int32)))]) rfl ?_
        refine w_iloadN X0 d2_61 rfl rfl ?_
        refine w_sipush X0 d2_62 (v := (2048 : Int32)) rfl rfl ?_
        suffices j17 : ∀ (T15 : State) (z14 : Int32), (Wk p l e ({ frames := 0, cells := 0, slots := 0, locals := 0 } : Room) s m #[(.int p1)] below meth c Z n0 (⟨"com/example/mullion/mullion/cli/Utf8LengthPinLaw", "expected", "(I)I"⟩ : MethodName) method_3_code 3 (some .int) T15 0 0 h0) → (z14 = (if (((p1 &&& (15 : Int32)) <<< ((12 : Int32) &&& 31)) ||| (4095 : Int32)) < (2048 : Int32) then (0 : Int32) else (3 : Int32))) → Goes p e below (Done below s n0 ({ frames := 0, cells := 0, slots := 0, locals := 0 } : Room) (some (.int (f_exp p1))) (fun h => h = h0)) T15 m 73 #[.val (.int p1), .unset, .val (.int (((p1 &&& (15 : Int32)) <<< ((12 : Int32) &&& 31)) ||| (4095 : Int32)))] [(.int z14)] by
          refine w_icmp_lt X0 d2_65 (by decide) (pcT := 72) (pcF := 68) (by decide) rfl (fun c18 => ?_) (fun c18 => ?_)
          · refine w_iconst X0 d2_72 (v := (0 : Int32)) rfl rfl ?_
            exact j17 _ _ X0 (by rw [if_pos c18])
          · refine w_iconst X0 d2_68 (v := (3 : Int32)) rfl rfl ?_
            refine w_goto X0 d2_69 (by decide) (pc' := 73) (by decide) ?_
            exact j17 _ _ X0 (by rw [if_neg c18])
        intro T15 z14 X16 hz14
        refine w_istoreN X16 d2_73 rfl (L' := #[.val (.int p1), .val (.int z14), .val (.int (((p1 &&& (15 : Int32)) <<< ((12 : Int32) &&& 31)) ||| (4095 : Int32)))]) rfl ?_
        refine w_goto X16 d2_74 (by decide) (pc' := 113) (by decide) ?_
        exact j5 _ _ _ X16 (by subst hz14; rw [if_neg c6, if_pos c7]) (OneS.i _)
    · refine w_iloadN X0 d2_11 rfl rfl ?_
      refine w_bipush X0 d2_12 (v := (31 : Int32)) rfl rfl ?_
      refine w_iand X0 d2_14 rfl ?_
      refine w_bipush X0 d2_15 (v := (6 : Int32)) rfl rfl ?_
      refine w_ishl X0 d2_17 rfl ?_
      refine w_bipush X0 d2_18 (v := (63 : Int32)) rfl rfl ?_
      refine w_ior X0 d2_20 rfl ?_
      refine w_istoreN X0 d2_21 rfl (L' := #[.val (.int p1), .unset, .val (.int (((p1 &&& (31 : Int32)) <<< ((6 : Int32) &&& 31)) ||| (63 : Int32)))]) rfl ?_
      refine w_iloadN X0 d2_22 rfl rfl ?_
      refine w_sipush X0 d2_23 (v := (128 : Int32)) rfl rfl ?_
      suffices j22 : ∀ (T20 : State) (z19 : Int32), (Wk p l e ({ frames := 0, cells := 0, slots := 0, locals := 0 } : Room) s m #[(.int p1)] below meth c Z n0 (⟨"com/example/mullion/mullion/cli/Utf8LengthPinLaw", "expected", "(I)I"⟩ : MethodName) method_3_code 3 (some .int) T20 0 0 h0) → (z19 = (if (((p1 &&& (31 : Int32)) <<< ((6 : Int32) &&& 31)) ||| (63 : Int32)) < (128 : Int32) then (0 : Int32) else (2 : Int32))) → Goes p e below (Done below s n0 ({ frames := 0, cells := 0, slots := 0, locals := 0 } : Room) (some (.int (f_exp p1))) (fun h => h = h0)) T20 m 34 #[.val (.int p1), .unset, .val (.int (((p1 &&& (31 : Int32)) <<< ((6 : Int32) &&& 31)) ||| (63 : Int32)))] [(.int z19)] by
        refine w_icmp_lt X0 d2_26 (by decide) (pcT := 33) (pcF := 29) (by decide) rfl (fun c23 => ?_) (fun c23 => ?_)
        · refine w_iconst X0 d2_33 (v := (0 : Int32)) rfl rfl ?_
          exact j22 _ _ X0 (by rw [if_pos c23])
        · refine w_iconst X0 d2_29 (v := (2 : Int32)) rfl rfl ?_
          refine w_goto X0 d2_30 (by decide) (pc' := 34) (by decide) ?_
          exact j22 _ _ X0 (by rw [if_neg c23])
      intro T20 z19 X21 hz19
      refine w_istoreN X21 d2_34 rfl (L' := #[.val (.int p1), .val (.int z19), .val (.int (((p1 &&& (31 : Int32)) <<< ((6 : Int32) &&& 31)) ||| (63 : Int32)))]) rfl ?_
      refine w_goto X21 d2_35 (by decide) (pc' := 113) (by decide) ?_
      exact j5 _ _ _ X21 (by subst hz19; rw [if_pos c6]) (OneS.i _)
  intro T3 z1 s2 X4 hz1 hs2
  refine w_iloadN X4 d2_113 rfl rfl ?_
  exact w_ireturn X4 d2_114 (by subst hz1; unfold f_exp; rfl) rfl (by decide) (by decide)
theorem own_fin (z : Int32) (n : Nat) (h0 : 0 ≤ z.toInt) (h1 : z.toInt < n) : ∃ k : Fin n, z = Int32.ofNat k.val := by
  refine ⟨⟨z.toInt.toNat, by omega⟩, ?_⟩
  apply Int32.toInt_inj.mp
  have := z.toInt_lt
  rw [Int32.toInt_ofNat_of_lt (by show z.toInt.toNat < 2 ^ 31; omega)]
  show z.toInt = ((z.toInt.toNat : Nat) : Int)
  omega
theorem own_all : ∀ k : Fin 128, f_len ((128 : Int32) ||| Int32.ofNat k.val) = f_exp ((128 : Int32) ||| Int32.ofNat k.val) := by decide +kernel
theorem own_law (x : Int32) : f_len ((128 : Int32) ||| (x &&& (127 : Int32))) = f_exp ((128 : Int32) ||| (x &&& (127 : Int32))) := by
  obtain ⟨q1, q2⟩ := c_and x 127 (by decide)
  have e : (127 : Int32).toInt = 127 := by decide
  obtain ⟨k, hk⟩ := own_fin (x &&& 127) 128 q1 (by omega)
  rw [hk]; exact own_all k
theorem pd_0 : parseMethodDescriptor "(I)I" = some ⟨[.int], some .int⟩ := by decide +kernel
theorem pn_0 : plainName "com/example/mullion/mullion/cli/Utf8LengthPinLaw" = true := by first | (simp [plainName, overriddenIn]; done) | decide +kernel
theorem ef_0 (m : MethodId) (p1 : Int32) : entryFrame m #[(.int p1)] maxLocals = mkF m 0 #[.val (.int p1), .unset, .unset] [] := by first | (simp [entryFrame, mkF, argsToLocals, Value.category, maxLocals]; done) | rfl
set_option maxRecDepth 65536 in
set_option maxHeartbeats 40000000 in
theorem rm0 (l : Launch) (Z : State) (a0 : Array Value) (hw : ∀ d ∈ tables_1, d.before a0 Z = true) (p1 : Int32) (h0 : Heap) (n0 : Nat) (Z0 : n0 ≤ h0.size) :
    Con l Z x code maxLocals ret room_1 #[(.int p1)] h0 n0 (some (.int 1)) (fun _ => True) := by
  refine con_of (plainFor_of_name pn_0) Z0 (fun m => ef_0 m p1) ?_
  intro p e s m below meth c T0 X0
  refine w_sipush X0 at_0 (v := (128 : Int32)) rfl rfl ?_
  refine w_iloadN X0 at_3 rfl rfl ?_
  refine w_bipush X0 at_4 (v := (127 : Int32)) rfl rfl ?_
  refine w_iand X0 at_6 rfl ?_
  refine w_ior X0 at_7 rfl ?_
  generalize hz1 : ((128 : Int32) ||| (p1 &&& (127 : Int32))) = z1
  refine w_istoreN X0 at_8 rfl (L' := #[.val (.int p1), .val (.int z1), .unset]) rfl ?_
  refine w_iloadN X0 at_9 rfl rfl ?_
  refine w_staticVP X0 (rm1 l Z a0 hw z1 h0 n0 X0.size ) (hw _ (List.mem_of_getElem? (i := 0) rfl)) (hw _ (List.mem_of_getElem? (i := 1) rfl)) (hw _ (List.mem_of_getElem? (i := 2) rfl)) (hw _ (List.mem_of_getElem? (i := 3) rfl)) (by decide) (argsL := [(.int z1)]) (rest := []) rfl (lenOf pd_0 rfl) rfl (W := 0) rfl (by decide) (by decide) (by decide) (by decide) at_10 rfl fun T2 X3 => ?_
  generalize hz4 : (f_len z1) = z4
  refine w_istoreN X3 at_13 rfl (L' := #[.val (.int p1), .val (.int z1), .val (.int z4)]) rfl ?_
  refine w_iloadN X3 at_14 rfl rfl ?_
  refine w_iloadN X3 at_15 rfl rfl ?_
  refine w_staticVP X3 (rm2 l Z a0 hw z1 h0 n0 X3.size ) (hw _ (List.mem_of_getElem? (i := 4) rfl)) (hw _ (List.mem_of_getElem? (i := 5) rfl)) (hw _ (List.mem_of_getElem? (i := 6) rfl)) (hw _ (List.mem_of_getElem? (i := 7) rfl)) (by decide) (argsL := [(.int z1)]) (rest := [(.int z4)]) rfl (lenOf pd_0 rfl) rfl (W := 1) rfl (by decide) (by decide) (by decide) (by decide) at_16 rfl fun T5 X6 => ?_
  refine w_icmp_ne X6 at_19 (by decide) (pcT := 26) (pcF := 22) (by decide) rfl (fun c7 => ?_) (fun c7 => ?_)
  · refine w_iconst X6 at_26 (v := (0 : Int32)) rfl rfl ?_
    exact False.elim (c7 (by subst hz4 hz1; exact own_law _))
  · refine w_iconst X6 at_22 (v := (1 : Int32)) rfl rfl ?_
    refine w_goto X6 at_23 (by decide) (pc' := 27) (by decide) ?_
    exact w_nreturn X6 (t := .boolean) (by simp) at_27 rfl trivial (by decide) (by decide)
set_option maxRecDepth 65536 in
set_option maxHeartbeats 4000000 in
theorem comes_1 {Post : Tables → Env → Array Value → State → Outcome → State → Prop} (hpost : ∀ tb e args s v u, (limb_1_1.after args s (.returned v) u = true ∧ limb_1_2.after args s (.returned v) u = true ∧ True) → FrameEnd s (.returned v) u (Jvm.fieldLocs frame_1_writes args s ++ Jvm.arrayLocs frame_1_arrays args s ++ Jvm.staticLocs frame_1_statics s) 0 0 → Post tb e args s (.returned v) u) :
    ArmFor flags0 classFile x code maxLocals ret World_1 tables_1 room_1 Calls_1 rest_1 Pre_1 Post := by
  intro l hfl _ _ p e ha hc hk s m args below hf hA hF happ hP
  obtain ⟨hcalls, hrest, hpre⟩ := hP
  obtain ⟨-, -, -, hnamed, -, -, -, hat⟩ := (Spec.applies_iff hf).mp happ
  obtain ⟨hg, hn⟩ := and_e (Cond.before_iff.mp (show (Jvm.Cond.and given_1 narrow_1).before args s = true from hpre))
  obtain ⟨gc, hg⟩ := and_e hg
  have g0 := hg
  obtain ⟨w0, rfl⟩ : ∃ w0 : Value, args = #[w0] := by
    have hs : args.size = 1 := by simpa [Cond.value, given_1] using gc
    obtain ⟨L⟩ := args
    match L, hs with
    | [w0], _ => exact ⟨w0, rfl⟩
  have hw := fun d (hd : d ∈ tables_1) => atoms_spec (ws := Jvm.Cond.code x code maxLocals ret :: tables_1) hat d (List.mem_cons_of_mem _ hd)
  obtain ⟨i0, ei0⟩ := is_v g0
  obtain rfl : w0 = (.int i0) := Option.some.inj ei0
  obtain ⟨n, o, h1, h2, h3, _, L, rfl, ⟨rfl, -, N, -⟩, hq⟩ := rm0 l s _ hw i0 s.heap s.heap.size (Nat.le_refl _) tables_1 p e ha hc hk s m _ below hf ((Spec.applies_iff_loose hf).mp happ).1 ⟨rfl, State.Warmed39.refl s, rfl⟩ trivial
  refine ⟨n, _, h1, h2, h3, hpost _ _ _ _ _ _ ⟨Cond.after_iff.mpr rfl, Cond.after_iff.mpr (eq_i res_at (Term.int_eval (1)) rfl), trivial⟩ ⟨hq.1, hq.2.1, (hq.2.2.sift fun y hy => Or.inr (N y hy)).mono (by decide) (by decide)⟩⟩
theorem main_1_1 : Claimed_1_1 := comes_1 fun _ _ _ _ _ _ h hF => ⟨h.1, hF⟩
theorem main_1_2 : Claimed_1_2 := comes_1 fun _ _ _ _ _ _ h hF => ⟨h.2.1, hF⟩
end Jvm.Pilot.@@N@@
namespace Jvm.Pilot.@@N@@
open Jvm Jvm.ClassFile Sem Op Lib Jvm.Free Jvm.Stand Jvm.Pilot.@@N@@.Jvm.D
/-! MADE BY PROGRAM (witnessworld.py) out of the Statement's table words and the real class files: 9 classes; the members and pool entries that the words name. The judged class is class 1, her method 1. -/
namespace start1
open Jvm.ClassFile
def u (s : String) : CpInfo := .utf8 (stringToUtf16 s)
/-- a pool by its gaps: so many unusable entries, then the entry; so many at the end -/
def gap : Nat → List CpInfo → List CpInfo
  | 0, r => r
  | n + 1, r => .unusable :: gap n r
def poolList (es : List (Nat × CpInfo)) (last : Nat) : List CpInfo := es.foldr (fun e r => gap e.1 (e.2 :: r)) (gap last [])
def pool (es : List (Nat × CpInfo)) (last : Nat) : Array CpInfo := ⟨poolList es last⟩
def fileOf (pool : Array CpInfo) (this : Nat) (attrs : Array Attribute := #[]) (ms : Array MethodInfo := #[]) (fl : Nat := 33) (sup : Nat := 0) (ifs : Array Nat := #[]) (fds : Array FieldInfo := #[]) : ClassFile where
  minorVersion := 0
  majorVersion := 65
  constantPool := pool
  accessFlags := fl
  thisClass := this
  superClass := sup
  interfaces := ifs
  fields := fds
  methods := ms
  attributes := attrs
def plain (name : String) (sup : Option ClassId) : Class where
  name := name
  kind := .ordinary
  loader := none
  accessFlags := 33
  super := sup
  interfaces := #[]
  cf := none
  fields := #[]
  methods := #[]
  instanceTypes := #[]
  staticTypes := #[]
  resolved := #[]
  callSites := []
  init := .initialized
  statics := none
  mirror := none

def pool0 : Array CpInfo := pool [(5, u "<init>"), (0, u "()V"), (1, .class_ 10), (1, u "java/lang/Object")] 113

def k0m0 : Method := { name := "<init>", desc := "()V", sig := { parameters := [], returnType := none }, accessFlags := 1, code := none }
/-- java/lang/Object -/
def k0 : Class := { plain "java/lang/Object" none with
  accessFlags := 33
  interfaces := #[]
  cf := some (fileOf pool0 8 #[] #[{ accessFlags := 1, nameIndex := 5, descriptorIndex := 6, attributes := #[] }] 33 0 #[] #[])
  fields := #[]
  methods := #[k0m0]
  instanceTypes := #[]
  staticTypes := #[]
  resolved := Array.replicate 124 none
  statics := none }

def pool1 : Array CpInfo := pool [(2, .class_ 4), (1, u "java/lang/Object"), (0, u "<init>"), (0, u "()V"), (0, .methodref 8 9), (0, .class_ 10), (0, .nameAndType 11 12), (0, u "com/example/mullion/mullion/cli/Utf8"), (0, u "length"), (0, u "(I)I"), (0, .methodref 14 15), (0, .class_ 16), (0, .nameAndType 17 12), (0, u "com/example/mullion/mullion/cli/Utf8LengthPinLaw"), (0, u "expected"), (0, .integer 1114111), (2, u "law"), (0, u "(I)Z")] 3

def k1m0 : Method := { name := "<init>", desc := "()V", sig := { parameters := [], returnType := none }, accessFlags := 2, code := none }
def k1c1 : Code := { maxStack := 3, maxLocals := 3, code := code, exceptionTable := #[], attributes := #[] }
def k1m1 : Method := { name := "law", desc := "(I)Z", sig := { parameters := [.int], returnType := some .boolean }, accessFlags := 9, code := some k1c1 }
def k1c2 : Code := { maxStack := 2, maxLocals := 3, code := method_3_code, exceptionTable := #[], attributes := #[] }
def k1m2 : Method := { name := "expected", desc := "(I)I", sig := { parameters := [.int], returnType := some .int }, accessFlags := 10, code := some k1c2 }
/-- com/example/mullion/mullion/cli/Utf8LengthPinLaw -/
def k1 : Class := { plain "com/example/mullion/mullion/cli/Utf8LengthPinLaw" (some 0) with
  accessFlags := 49
  interfaces := #[]
  cf := some (fileOf pool1 14 #[] #[{ accessFlags := 2, nameIndex := 5, descriptorIndex := 6, attributes := #[] }, { accessFlags := 9, nameIndex := 21, descriptorIndex := 22, attributes := #[] }, { accessFlags := 10, nameIndex := 17, descriptorIndex := 12, attributes := #[] }] 49 2 #[] #[])
  fields := #[]
  methods := #[k1m0, k1m1, k1m2]
  instanceTypes := #[]
  staticTypes := #[]
  resolved := Array.replicate 26 none
  statics := none }

def pool2 : Array CpInfo := pool [(2, .class_ 4), (1, u "java/lang/Object"), (0, u "<init>"), (0, u "()V"), (1, .class_ 10), (1, u "com/example/mullion/mullion/cli/Utf8"), (0, u "length"), (0, u "(I)I"), (7, .class_ 22), (1, u "com/example/mullion/mullion/cli/Utf8$Lookahead")] 20

def k2m0 : Method := { name := "<init>", desc := "()V", sig := { parameters := [], returnType := none }, accessFlags := 2, code := none }
def k2c1 : Code := { maxStack := 2, maxLocals := 2, code := prog_77_method_3_code, exceptionTable := #[], attributes := #[] }
def k2m1 : Method := { name := "length", desc := "(I)I", sig := { parameters := [.int], returnType := some .int }, accessFlags := 8, code := some k2c1 }
/-- com/example/mullion/mullion/cli/Utf8 -/
def k2 : Class := { plain "com/example/mullion/mullion/cli/Utf8" (some 0) with
  accessFlags := 48
  interfaces := #[]
  cf := some (fileOf pool2 8 #[.nestMembers #[20]] #[{ accessFlags := 2, nameIndex := 5, descriptorIndex := 6, attributes := #[] }, { accessFlags := 8, nameIndex := 11, descriptorIndex := 12, attributes := #[] }] 48 2 #[] #[])
  fields := #[]
  methods := #[k2m0, k2m1]
  instanceTypes := #[]
  staticTypes := #[]
  resolved := Array.replicate 43 none
  statics := none }

def pool3 : Array CpInfo := pool [(1, u "java/lang/Cloneable"), (0, .class_ 1), (0, u "java/lang/Object"), (0, .class_ 3)] 3

/-- java/lang/Cloneable -/
def k3 : Class := { plain "java/lang/Cloneable" (some 0) with
  accessFlags := 1537
  interfaces := #[]
  cf := some (fileOf pool3 2 #[] #[] 1537 4 #[] #[])
  fields := #[]
  methods := #[]
  instanceTypes := #[]
  staticTypes := #[]
  resolved := Array.replicate 8 none
  statics := none }

def pool4 : Array CpInfo := pool [(1, u "java/io/Serializable"), (0, .class_ 1), (0, u "java/lang/Object"), (0, .class_ 3)] 3

/-- java/io/Serializable -/
def k4 : Class := { plain "java/io/Serializable" (some 0) with
  accessFlags := 1537
  interfaces := #[]
  cf := some (fileOf pool4 2 #[] #[] 1537 4 #[] #[])
  fields := #[]
  methods := #[]
  instanceTypes := #[]
  staticTypes := #[]
  resolved := Array.replicate 8 none
  statics := none }

/-- the primitive byte -/
def k5 : Class := { plain "byte" none with kind := .primitive 'B', accessFlags := 0x411 }
/-- [B -/
def k6 : Class := { plain "[B" (some 0) with kind := .array 5 .byte, interfaces := #[3, 4], accessFlags := 1041 }

/-- the primitive int -/
def k7 : Class := { plain "int" none with kind := .primitive 'I', accessFlags := 0x411 }
/-- [I -/
def k8 : Class := { plain "[I" (some 0) with kind := .array 7 .int, interfaces := #[3, 4], accessFlags := 1041 }

def heap : Heap := #[]
def classes : Array Class := #[k0, k1, k2, k3, k4, k5, k6, k7, k8]
def interned : List (Array UInt16 × Addr) := []
def slotsUsed : Nat := 0
def theMethod : MethodId := ⟨1, 1⟩
def args0 : Array Value := #[.int 5]
def aboutOver (below : List Frame) : State where
  vm := { classes := classes, interned := interned.toArray }
  heap := heap
  slotsUsed := slotsUsed
  threads := #[{ frames := .invoking theMethod args0 :: below }]
def below0 : List Frame := [.native { method := ⟨0, 0⟩, args := #[] }]
def about1 : State := aboutOver below0
def p0 : Program := .bare "" "" ""
def e0 : Env := launch0.env 0 0 0
theorem w_frames : about1.frames = Frame.invoking theMethod args0 :: below0 := rfl
set_option maxRecDepth 65536 in
theorem w_args : argsFit about1.vm theMethod args0 = true := by decide +kernel
set_option maxRecDepth 65536 in
theorem w_heap : heapFits about1 = true := by decide +kernel
set_option maxRecDepth 65536 in
theorem w_runnable : about1.curStatus? = some .runnable := by decide +kernel
set_option maxRecDepth 65536 in
theorem w_alone : about1.alone = true := by decide +kernel
set_option maxRecDepth 65536 in
theorem w_named : about1.methodNamed? x = some theMethod := by decide +kernel
set_option maxRecDepth 65536 in
theorem w_hears : about1.hears theMethod below0 = true := by decide +kernel
set_option maxRecDepth 65536 in
theorem w_ripe : about1.ripe theMethod args0 below0 = true := by decide +kernel
theorem w_running : about1.status = .running := rfl
set_option maxRecDepth 65536 in
theorem w_room : about1.hasRoom e0.platform room_1 = true :=
  launch0.hasRoom_least _ room_1 (by decide +kernel) (by decide +kernel) (by decide +kernel) (by decide +kernel) (by decide +kernel) (by decide +kernel)
theorem allAtoms_all (ts : List Jvm.Cond) (a : Array Jvm.Value) (st : Jvm.State) : (allAtoms ts).before a st = ts.all (fun c => c.before a st) := by
  induction ts with
  | nil => rfl
  | cons c t ih =>
    show (Jvm.Cond.and c (allAtoms t)).before a st = _
    rw [Jvm.Cond.before_and, ih, List.all_cons]
def words1 : List Jvm.Cond := Jvm.Cond.code x code maxLocals ret :: tables_1
/-- a 'code' word, met by the world's own term for the bytes: nothing is compared byte by byte -/
theorem code_word {y : MethodName} {bytes : ByteArray} {mx : Nat} {rt : Option FieldType} {a : Array Value} {s : State} {m : MethodId} {meth : Method} {c : Code} (h1 : s.methodNamed? y = some m) (h2 : s.vm.method? m = some meth) (h3 : meth.code = some c) (h4 : c.code = bytes)
    (h5 : (c.maxLocals == mx && c.exceptionTable.isEmpty && decide (c.maxStack ≤ mostOperands) && decide (meth.sig.returnType = rt) && !meth.locks && decide (parseMethodDescriptor y.desc = some meth.sig)) = true) : (Jvm.Cond.code y bytes mx rt).before a s = true := by
  simp only [Bool.and_eq_true, beq_iff_eq, Bool.not_eq_true', decide_eq_true_eq] at h5
  obtain ⟨⟨⟨⟨⟨g1, g2⟩, g3⟩, g4⟩, g5⟩, g6⟩ := h5
  simp [Cond.before, Cond.holds, Cond.value, h1, h2, h3, h4, g1, g2, g3, g4, g5, g6]
def isCode : Jvm.Cond → Bool
  | .code _ _ _ _ => true
  | _ => false
theorem all_split {L : List Jvm.Cond} {P : Jvm.Cond → Bool} (h1 : L.all (fun c => isCode c || P c) = true) (h2 : ∀ c ∈ L.filter isCode, P c = true) : L.all P = true := by
  refine List.all_eq_true.mpr fun c hc => ?_
  have h := List.all_eq_true.mp h1 c hc
  rcases Bool.eq_false_or_eq_true (isCode c) with hi | hi
  · exact h2 c (List.mem_filter.mpr ⟨hc, hi⟩)
  · simpa [hi] using h
set_option maxRecDepth 65536 in
theorem w_c0 : (Jvm.Cond.code x code maxLocals ret).before args0 about1 = true := code_word (m := ⟨1, 1⟩) (meth := k1m1) (c := k1c1) (by decide +kernel) rfl rfl rfl (by decide +kernel)
set_option maxRecDepth 65536 in
theorem w_c1 : (Jvm.Cond.code ({ cls := "com/example/mullion/mullion/cli/Utf8", name := "length", desc := "(I)I" } : Jvm.MethodName) prog_77_method_3_code (2 : Nat) (Option.some Jvm.ClassFile.FieldType.int)).before args0 about1 = true := code_word (m := ⟨2, 1⟩) (meth := k2m1) (c := k2c1) (by decide +kernel) rfl rfl rfl (by decide +kernel)
set_option maxRecDepth 65536 in
theorem w_c2 : (Jvm.Cond.code ({ cls := "com/example/mullion/mullion/cli/Utf8LengthPinLaw", name := "expected", desc := "(I)I" } : Jvm.MethodName) method_3_code (3 : Nat) (Option.some Jvm.ClassFile.FieldType.int)).before args0 about1 = true := code_word (m := ⟨1, 2⟩) (meth := k1m2) (c := k1c2) (by decide +kernel) rfl rfl rfl (by decide +kernel)
def codes1 : List Jvm.Cond := [Jvm.Cond.code x code maxLocals ret, Jvm.Cond.code ({ cls := "com/example/mullion/mullion/cli/Utf8", name := "length", desc := "(I)I" } : Jvm.MethodName) prog_77_method_3_code (2 : Nat) (Option.some Jvm.ClassFile.FieldType.int), Jvm.Cond.code ({ cls := "com/example/mullion/mullion/cli/Utf8LengthPinLaw", name := "expected", desc := "(I)I" } : Jvm.MethodName) method_3_code (3 : Nat) (Option.some Jvm.ClassFile.FieldType.int)]
set_option maxRecDepth 65536 in
theorem codes_eq : words1.filter isCode = codes1 := rfl
theorem w_codes : ∀ c ∈ words1.filter isCode, c.before args0 about1 = true := by
  rw [codes_eq]
  intro c hc
  simp only [codes1, List.mem_cons, List.not_mem_nil, or_false] at hc
  rcases hc with rfl | rfl | rfl
  · exact w_c0
  · exact w_c1
  · exact w_c2
set_option maxRecDepth 65536 in
theorem w_t1 : words1.all (fun c => isCode c || c.before args0 about1) = true := by decide +kernel
theorem w_tables : (allAtoms (Jvm.Cond.code x code maxLocals ret :: tables_1)).before args0 about1 = true := by
  rw [allAtoms_all]
  show words1.all (fun c => c.before args0 about1) = true
  refine all_split ?_ w_codes
  rw [w_t1]
set_option maxRecDepth 65536 in
theorem w_case : (Jvm.Cond.and given_1 narrow_1).before args0 about1 = true := by decide +kernel
theorem w_applies : (headSpec (Jvm.Cond.code x code maxLocals ret :: tables_1) room_1).applies x e0.platform about1 = true :=
  (Spec.applies_iff w_frames).mpr ⟨w_running, w_runnable, w_alone, w_named, w_hears, w_ripe, w_room, w_tables⟩
theorem atStart : AtStart classFile x code maxLocals ret World_1 tables_1 room_1 Calls_1 rest_1 Pre_1 launch0 p0 e0 about1 theMethod args0 below0 :=
  ⟨lists_1, trivial, launch0.admits_env _ _ _, launch0.least_env, fairChoices_fair.cas, fairChoices_fair.clock, w_frames, w_args, w_heap, w_applies, trivial, trivial, w_case⟩
end start1
theorem witness_1 : WitnessClaimed_1 := ⟨start1.p0, start1.e0, start1.about1, start1.theMethod, start1.args0, start1.below0, start1.atStart⟩
end Jvm.Pilot.@@N@@
