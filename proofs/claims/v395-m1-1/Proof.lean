import JvmDerived
import JvmDerived.Pilot.@@N@@Statement
import JvmDerived.Pilot.@@N@@Code
set_option linter.unusedVariables false
set_option linter.unusedSimpArgs false
namespace Jvm.RoadKit
open Sem ClassFile Op Lib Jvm.Stand Jvm.Free Jvm.LawKit
section New
variable {p : Program} {l : Launch} {e : Env} {R : Room} {s : State} {m : MethodId} {args : Array Value} {below : List Frame} {meth : Method} {c : Code} {T : State} {locs : List Loc} {cells slots : Nat}
theorem retI (X : Stand p l e R s m args below meth c T locs cells slots) (hx : p.tables.exec = Jvm.exec) {pc : Nat} {Ls : Array Slot} {z : Int32} {rest : List Value} (hret : meth.sig.returnType = some .int) (hd : decode c.code pc = .ok (.ireturn, 1)) {fs : List Frame}
    (hl : ∀ (f : JFrame) (acts : List Action), f.method = m → f.locked = none → f.entered = [] → (doReturn e (T.setTop f) acts (some (.int z))).1 = T.setFrames fs) : Steps p.tables e below (T.setTop (mkF m pc Ls (.int z :: rest))) (T.setFrames fs) := by
  have hm' : T.vm.method? m = some meth := X.method'
  have hn : narrow .int (.int z) = .int z := rfl
  show Steps p.tables e below (T.setTop { method := m, pc := pc, locals := Ls, stack := _ :: rest, locked := none }) _
  jvm_step X.here [X.here.top, hx, hd, hm', hret, hn]
  first | (intro acts; rw [hl _ acts rfl rfl rfl]) | rw [hl _ _ rfl rfl rfl]
  exact Steps.refl _
end New
end Jvm.RoadKit
namespace Jvm.Own
open Jvm Jvm.ClassFile Sem Op Lib Jvm.Free Jvm.Stand Jvm.LawKit Jvm.RoadKit Bundle
/-! ## A walk by continuations: `Goes` says that the run from here comes to a state with K; each rule takes one instruction off. -/
def Goes (p : Program) (e : Env) (below : List Frame) (K : State → Prop) (T : State) (m : MethodId) (pc : Nat) (L : Array Slot) (S : List Value) : Prop :=
  ∃ u, Steps p.tables e below (T.setTop (mkF m pc L S)) u ∧ K u
/-- where one body's walk stands: the standing facts, the state T with the heap h, what was written lies in new cells -/
def Wk (p : Program) (l : Launch) (e : Env) (R : Room) (s : State) (m : MethodId) (args : Array Value) (below : List Frame) (meth : Method) (c : Code) (Z : State) (n0 : Nat) (y : MethodName) (code : ByteArray) (ml : Nat) (ret : Option FieldType)
    (T : State) (cells slots : Nat) (h : Heap) : Prop :=
  p.tables.exec = Jvm.exec ∧ Z.Warmed39 s.vm ∧ c.code = code ∧ c.maxLocals = ml ∧ s.vm.findClass y.cls = some m.cls ∧ meth.name = y.name ∧ meth.sig.returnType = ret ∧ meth.locks = false ∧ n0 ≤ h.size ∧
  ∃ locs, Stand p l e R s m args below meth c T locs cells slots ∧ T.heap = h ∧ Fr n0 locs
def Qc (n0 : Nat) (w : Option Value) (Q : Heap → Prop) (v : Option Value) (h : Heap) (L : List Loc) : Prop := v = w ∧ Q h ∧ Fr n0 L ∧ n0 ≤ h.size
/-- what a body's end says: it returned w, the heap satisfies Q -/
def Done (below : List Frame) (s : State) (n0 : Nat) (R : Room) (w : Option Value) (Q : Heap → Prop) (u : State) : Prop :=
  ∃ o, u.status = .running ∧ Ended u below o ∧ ∃ v L, o = .returned v ∧ Qc n0 w Q v u.heap L ∧ FrameEnd s o u L R.cells R.slots
/-- a body's contract -/
def Con (l : Launch) (Z : State) (y : MethodName) (code : ByteArray) (ml : Nat) (ret : Option FieldType) (R : Room) (as : Array Value) (h0 : Heap) (n0 : Nat) (w : Option Value) (Q : Heap → Prop) : Prop :=
  ∀ ws, MetFree l y (head1 (Jvm.Cond.code y code ml ret :: ws) R) (fun a U => a = as ∧ Z.Warmed39 U.vm ∧ U.heap = h0) (fun _ _ _ _ _ => True)
    (fun _ U o U' => ∃ v L, o = .returned v ∧ Qc n0 w Q v U'.heap L ∧ FrameEnd U o U' L R.cells R.slots)
theorem con_of {l : Launch} {Z : State} {y : MethodName} {code : ByteArray} {ml : Nat} {ret : Option FieldType} {R : Room} {as : Array Value} {h0 : Heap} {n0 : Nat} {w : Option Value} {Q : Heap → Prop}
    (hpl : plainFor y = true) (hn0 : n0 ≤ h0.size) {L0 : Array Slot} (hL : ∀ m, entryFrame m as ml = mkF m 0 L0 [])
    (body : ∀ (p : Program) (e : Env) (s : State) (m : MethodId) (below : List Frame) (meth : Method) (c : Code) (T : State), Wk p l e R s m as below meth c Z n0 y code ml ret T 0 0 h0 → Goes p e below (Done below s n0 R w Q) T m 0 L0 []) :
    Con l Z y code ml ret R as h0 n0 w Q := by
  intro ws
  refine MetFree.of_bodySF hpl hisR ?_
  intro p e s m args below meth c s₁ Bd hml0 hP hK
  obtain ⟨rfl, hZ, hh⟩ := hP
  have X0 : Stand p l e R s m args below meth c s₁ [] 0 0 := Stand.of_body Bd
  have e0 : s₁.heap = h0 := by rw [← hh, Bd.state]; rfl
  obtain ⟨u, st, o, h1, h2, h3⟩ := body p e s m below meth c s₁ ⟨Bd.exec, hZ, Bd.bytes, hml0, findClass_of_methodNamed Bd.named, (name_of_methodNamed Bd.named Bd.method).1, Bd.returns, Bd.notSynchronized, hn0, [], X0, e0, Fr.nil n0⟩
  exact ⟨u, o, castTop (hL m) st, h1, h2, h3⟩
/-- Java's >>> -/
def ush (a b : Int32) : Int32 := (a.toUInt32 >>> (b &&& 31).toUInt32).toInt32
def ushL (a : Int64) (b : Int32) : Int64 := (a.toUInt64 >>> (b &&& 0x3f).toInt64.toUInt64).toInt64
/-- a local that holds nothing, or one word -/
def OneS (s : Slot) : Prop := s = .unset ∨ ∃ w : Value, s = .val w ∧ w.category = 1
theorem OneS.u : OneS .unset := Or.inl rfl
theorem OneS.i (z : Int32) : OneS (.val (.int z)) := Or.inr ⟨_, rfl, rfl⟩
theorem OneS.r (z : Addr) : OneS (.val (.ref z)) := Or.inr ⟨_, rfl, rfl⟩
section Rules
variable {p : Program} {l : Launch} {e : Env} {R : Room} {s : State} {m : MethodId} {args : Array Value} {below : List Frame} {meth : Method} {c : Code} {Z : State} {n0 : Nat} {y : MethodName} {code : ByteArray} {ml : Nat} {ret : Option FieldType}
  {T : State} {cells slots : Nat} {h : Heap} {K : State → Prop} {L : Array Slot} {S : List Value} {pc pc' : Nat} {a0 : Array Value}
theorem Goes.via {T' : State} {L' : Array Slot} {S' : List Value} (st : ∀ target, Steps p.tables e below (T'.setTop (mkF m pc' L' S')) target → Steps p.tables e below (T.setTop (mkF m pc L S)) target) (g : Goes p e below K T' m pc' L' S') : Goes p e below K T m pc L S := by
  obtain ⟨u, a, b⟩ := g
  exact ⟨u, st _ a, b⟩
theorem Wk.size (X : Wk p l e R s m args below meth c Z n0 y code ml ret T cells slots h) : n0 ≤ h.size := X.2.2.2.2.2.2.2.2.1
-- plain steps
theorem w_iloadN (X : Wk p l e R s m args below meth c Z n0 y code ml ret T cells slots h) {k : Fin 4} {v : Int32} (hd : decode code pc = .ok (.iload_n k, 1)) (hp : pc + 1 = pc') (hl : L[k.val]? = some (.val (.int v))) (g : Goes p e below K T m pc' L (.int v :: S)) : Goes p e below K T m pc L S := by
  obtain ⟨hx, -, hby, -, -, -, -, -, -, locs, X, -, -⟩ := X
  subst hp
  obtain ⟨u1, a1, b1⟩ := g
  exact ⟨u1, XS.iloadN (g := mkF m pc L S) X.here hx rfl (hb hby hd) hl a1, b1⟩
theorem w_iload (X : Wk p l e R s m args below meth c Z n0 y code ml ret T cells slots h) {k : Nat} {v : Int32} (hd : decode code pc = .ok (.iload k, 2)) (hp : pc + 2 = pc') (hl : L[k]? = some (.val (.int v))) (g : Goes p e below K T m pc' L (.int v :: S)) : Goes p e below K T m pc L S := by
  obtain ⟨hx, -, hby, -, -, -, -, -, -, locs, X, -, -⟩ := X
  subst hp
  obtain ⟨u1, a1, b1⟩ := g
  exact ⟨u1, XS.iload (g := mkF m pc L S) X.here hx rfl (hb hby hd) hl a1, b1⟩
theorem w_lloadN (X : Wk p l e R s m args below meth c Z n0 y code ml ret T cells slots h) {k : Fin 4} {v : Int64} (hd : decode code pc = .ok (.lload_n k, 1)) (hp : pc + 1 = pc') (hl : L[k.val]? = some (.val (.long v))) (g : Goes p e below K T m pc' L (.long v :: S)) : Goes p e below K T m pc L S := by
  obtain ⟨hx, -, hby, -, -, -, -, -, -, locs, X, -, -⟩ := X
  subst hp
  obtain ⟨u1, a1, b1⟩ := g
  exact ⟨u1, XS.lloadN (g := mkF m pc L S) X.here hx rfl (hb hby hd) hl a1, b1⟩
theorem w_lload (X : Wk p l e R s m args below meth c Z n0 y code ml ret T cells slots h) {k : Nat} {v : Int64} (hd : decode code pc = .ok (.lload k, 2)) (hp : pc + 2 = pc') (hl : L[k]? = some (.val (.long v))) (g : Goes p e below K T m pc' L (.long v :: S)) : Goes p e below K T m pc L S := by
  obtain ⟨hx, -, hby, -, -, -, -, -, -, locs, X, -, -⟩ := X
  subst hp
  obtain ⟨u1, a1, b1⟩ := g
  exact ⟨u1, XS.lload (g := mkF m pc L S) X.here hx rfl (hb hby hd) hl a1, b1⟩
theorem w_aloadN (X : Wk p l e R s m args below meth c Z n0 y code ml ret T cells slots h) {k : Fin 4} {v : Value} (hd : decode code pc = .ok (.aload_n k, 1)) (hp : pc + 1 = pc') (hl : L[k.val]? = some (.val v)) (hv : v.isRef = true) (g : Goes p e below K T m pc' L (v :: S)) : Goes p e below K T m pc L S := by
  obtain ⟨hx, -, hby, -, -, -, -, -, -, locs, X, -, -⟩ := X
  subst hp
  obtain ⟨u1, a1, b1⟩ := g
  exact ⟨u1, XS.aloadN (g := mkF m pc L S) X.here hx rfl (hb hby hd) hl hv a1, b1⟩
theorem w_aload (X : Wk p l e R s m args below meth c Z n0 y code ml ret T cells slots h) {k : Nat} {v : Value} (hd : decode code pc = .ok (.aload k, 2)) (hp : pc + 2 = pc') (hl : L[k]? = some (.val v)) (hv : v.isRef = true) (g : Goes p e below K T m pc' L (v :: S)) : Goes p e below K T m pc L S := by
  obtain ⟨hx, -, hby, -, -, -, -, -, -, locs, X, -, -⟩ := X
  subst hp
  obtain ⟨u1, a1, b1⟩ := g
  exact ⟨u1, XS.aload (g := mkF m pc L S) X.here hx rfl (hb hby hd) hl hv a1, b1⟩
theorem w_istoreN (X : Wk p l e R s m args below meth c Z n0 y code ml ret T cells slots h) {k : Fin 4} {v : Int32} {L' : Array Slot} (hd : decode code pc = .ok (.istore_n k, 1)) (hp : pc + 1 = pc') (hl : storeLocals L k.val (.int v) = some L') (g : Goes p e below K T m pc' L' S) : Goes p e below K T m pc L (.int v :: S) := by
  obtain ⟨hx, -, hby, -, -, -, -, -, -, locs, X, -, -⟩ := X
  subst hp
  obtain ⟨u1, a1, b1⟩ := g
  exact ⟨u1, XS.istoreN (g := mkF m pc L (.int v :: S)) X.here hx rfl (hb hby hd) rfl hl a1, b1⟩
theorem w_istore (X : Wk p l e R s m args below meth c Z n0 y code ml ret T cells slots h) {k : Nat} {v : Int32} {L' : Array Slot} (hd : decode code pc = .ok (.istore k, 2)) (hp : pc + 2 = pc') (hl : storeLocals L k (.int v) = some L') (g : Goes p e below K T m pc' L' S) : Goes p e below K T m pc L (.int v :: S) := by
  obtain ⟨hx, -, hby, -, -, -, -, -, -, locs, X, -, -⟩ := X
  subst hp
  obtain ⟨u1, a1, b1⟩ := g
  exact ⟨u1, XS.istore (g := mkF m pc L (.int v :: S)) X.here hx rfl (hb hby hd) rfl hl a1, b1⟩
theorem w_lstoreN (X : Wk p l e R s m args below meth c Z n0 y code ml ret T cells slots h) {k : Fin 4} {v : Int64} {L' : Array Slot} (hd : decode code pc = .ok (.lstore_n k, 1)) (hp : pc + 1 = pc') (hl : storeLocals L k.val (.long v) = some L') (g : Goes p e below K T m pc' L' S) : Goes p e below K T m pc L (.long v :: S) := by
  obtain ⟨hx, -, hby, -, -, -, -, -, -, locs, X, -, -⟩ := X
  subst hp
  obtain ⟨u1, a1, b1⟩ := g
  exact ⟨u1, XS.lstoreN (g := mkF m pc L (.long v :: S)) X.here hx rfl (hb hby hd) rfl hl a1, b1⟩
theorem w_lstore (X : Wk p l e R s m args below meth c Z n0 y code ml ret T cells slots h) {k : Nat} {v : Int64} {L' : Array Slot} (hd : decode code pc = .ok (.lstore k, 2)) (hp : pc + 2 = pc') (hl : storeLocals L k (.long v) = some L') (g : Goes p e below K T m pc' L' S) : Goes p e below K T m pc L (.long v :: S) := by
  obtain ⟨hx, -, hby, -, -, -, -, -, -, locs, X, -, -⟩ := X
  subst hp
  obtain ⟨u1, a1, b1⟩ := g
  exact ⟨u1, XS.lstore (g := mkF m pc L (.long v :: S)) X.here hx rfl (hb hby hd) rfl hl a1, b1⟩
theorem w_astoreN (X : Wk p l e R s m args below meth c Z n0 y code ml ret T cells slots h) {k : Fin 4} {v : Value} {L' : Array Slot} (hd : decode code pc = .ok (.astore_n k, 1)) (hp : pc + 1 = pc') (hv : v.isRef = true) (hl : storeLocals L k.val v = some L') (g : Goes p e below K T m pc' L' S) : Goes p e below K T m pc L (v :: S) := by
  obtain ⟨hx, -, hby, -, -, -, -, -, -, locs, X, -, -⟩ := X
  subst hp
  obtain ⟨u1, a1, b1⟩ := g
  exact ⟨u1, XS.astoreN (g := mkF m pc L (v :: S)) X.here hx rfl (hb hby hd) rfl hv hl a1, b1⟩
theorem w_astore (X : Wk p l e R s m args below meth c Z n0 y code ml ret T cells slots h) {k : Nat} {v : Value} {L' : Array Slot} (hd : decode code pc = .ok (.astore k, 2)) (hp : pc + 2 = pc') (hv : v.isRef = true) (hl : storeLocals L k v = some L') (g : Goes p e below K T m pc' L' S) : Goes p e below K T m pc L (v :: S) := by
  obtain ⟨hx, -, hby, -, -, -, -, -, -, locs, X, -, -⟩ := X
  subst hp
  obtain ⟨u1, a1, b1⟩ := g
  exact ⟨u1, XS.astore (g := mkF m pc L (v :: S)) X.here hx rfl (hb hby hd) rfl hv hl a1, b1⟩
theorem w_iconst (X : Wk p l e R s m args below meth c Z n0 y code ml ret T cells slots h) {i : Int} {v : Int32} (hd : decode code pc = .ok (.iconst i, 1)) (hp : pc + 1 = pc') (hv : Int32.ofInt i = v) (g : Goes p e below K T m pc' L (.int v :: S)) : Goes p e below K T m pc L S := by
  obtain ⟨hx, -, hby, -, -, -, -, -, -, locs, X, -, -⟩ := X
  subst hp hv
  obtain ⟨u1, a1, b1⟩ := g
  exact ⟨u1, XS.iconst (g := mkF m pc L S) X.here hx rfl (hb hby hd) a1, b1⟩
theorem w_bipush (X : Wk p l e R s m args below meth c Z n0 y code ml ret T cells slots h) {i : Int} {v : Int32} (hd : decode code pc = .ok (.bipush i, 2)) (hp : pc + 2 = pc') (hv : (Int8.ofInt i).toInt32 = v) (g : Goes p e below K T m pc' L (.int v :: S)) : Goes p e below K T m pc L S := by
  obtain ⟨hx, -, hby, -, -, -, -, -, -, locs, X, -, -⟩ := X
  subst hp hv
  obtain ⟨u1, a1, b1⟩ := g
  exact ⟨u1, XS.bipush (g := mkF m pc L S) X.here hx rfl (hb hby hd) a1, b1⟩
theorem w_sipush (X : Wk p l e R s m args below meth c Z n0 y code ml ret T cells slots h) {i : Int} {v : Int32} (hd : decode code pc = .ok (.sipush i, 3)) (hp : pc + 3 = pc') (hv : (Int16.ofInt i).toInt32 = v) (g : Goes p e below K T m pc' L (.int v :: S)) : Goes p e below K T m pc L S := by
  obtain ⟨hx, -, hby, -, -, -, -, -, -, locs, X, -, -⟩ := X
  subst hp hv
  obtain ⟨u1, a1, b1⟩ := g
  exact ⟨u1, XS.sipush (g := mkF m pc L S) X.here hx rfl (hb hby hd) a1, b1⟩
theorem w_lconst (X : Wk p l e R s m args below meth c Z n0 y code ml ret T cells slots h) {i : Fin 2} {v : Int64} (hd : decode code pc = .ok (.lconst i, 1)) (hp : pc + 1 = pc') (hv : Int64.ofNat i = v) (g : Goes p e below K T m pc' L (.long v :: S)) : Goes p e below K T m pc L S := by
  obtain ⟨hx, -, hby, -, -, -, -, -, -, locs, X, -, -⟩ := X
  subst hp hv
  obtain ⟨u1, a1, b1⟩ := g
  exact ⟨u1, XS.lconst (g := mkF m pc L S) X.here hx rfl (hb hby hd) a1, b1⟩
theorem w_ldcInt (X : Wk p l e R s m args below meth c Z n0 y code ml ret T cells slots h) {i : Nat} {v : Int32} (hc : (Jvm.Cond.constant y.cls i v).before a0 Z = true) (hd : decode code pc = .ok (.ldc i, 2)) (hp : pc + 2 = pc') (g : Goes p e below K T m pc' L (.int v :: S)) : Goes p e below K T m pc L S := by
  obtain ⟨hx, hZ, hby, -, hown, -, -, -, -, locs, X, -, -⟩ := X
  subst hp
  obtain ⟨u1, a1, b1⟩ := g
  exact ⟨u1, X.ldcInt hx hown (mvT hZ hc) (g := mkF m pc L S) rfl (hb hby hd) _ a1, b1⟩
theorem w_ldc2Long (X : Wk p l e R s m args below meth c Z n0 y code ml ret T cells slots h) {i : Nat} {v : Int64} (hc : (Jvm.Cond.constantLong y.cls i v).before a0 Z = true) (hd : decode code pc = .ok (.ldc2_w i, 3)) (hp : pc + 3 = pc') (g : Goes p e below K T m pc' L (.long v :: S)) : Goes p e below K T m pc L S := by
  obtain ⟨hx, hZ, hby, -, hown, -, -, -, -, locs, X, -, -⟩ := X
  subst hp
  obtain ⟨u1, a1, b1⟩ := g
  exact ⟨u1, X.ldc2Long hx hown (mvT hZ hc) (g := mkF m pc L S) rfl (hb hby hd) _ a1, b1⟩
theorem w_iinc (X : Wk p l e R s m args below meth c Z n0 y code ml ret T cells slots h) {k : Nat} {d : Int} {v v' : Int32} {L' : Array Slot} (hd : decode code pc = .ok (.iinc k d, 3)) (hp : pc + 3 = pc') (hl : L[k]? = some (.val (.int v))) (hv : v + Int32.ofInt d = v') (hl' : storeLocals L k (.int v') = some L') (g : Goes p e below K T m pc' L' S) : Goes p e below K T m pc L S := by
  obtain ⟨hx, -, hby, -, -, -, -, -, -, locs, X, -, -⟩ := X
  subst hp hv
  obtain ⟨u1, a1, b1⟩ := g
  exact ⟨u1, XS.iinc (g := mkF m pc L S) X.here hx rfl (hb hby hd) hl hl' a1, b1⟩
theorem w_goto (X : Wk p l e R s m args below meth c Z n0 y code ml ret T cells slots h) {o : Int} (hd : decode code pc = .ok (.goto o, 3)) (ho : 0 ≤ (pc : Int) + o) (hp : ((pc : Int) + o).toNat = pc') (g : Goes p e below K T m pc' L S) : Goes p e below K T m pc L S := by
  obtain ⟨hx, -, hby, -, -, -, -, -, -, locs, X, -, -⟩ := X
  obtain ⟨u1, a1, b1⟩ := g
  exact ⟨u1, XS.goto (g := mkF m pc L S) X.here hx rfl (pc0 := pc) rfl (hb hby hd) ho hp a1, b1⟩
theorem w_dup (X : Wk p l e R s m args below meth c Z n0 y code ml ret T cells slots h) {v : Value} (hd : decode code pc = .ok (.dup, 1)) (hp : pc + 1 = pc') (hv : v.category = 1) (g : Goes p e below K T m pc' L (v :: v :: S)) : Goes p e below K T m pc L (v :: S) := by
  obtain ⟨hx, -, hby, -, -, -, -, -, -, locs, X, -, -⟩ := X
  subst hp
  obtain ⟨u1, a1, b1⟩ := g
  exact ⟨u1, XS.dup (g := mkF m pc L (v :: S)) X.here hx rfl (hb hby hd) rfl hv a1, b1⟩
theorem w_dup2 (X : Wk p l e R s m args below meth c Z n0 y code ml ret T cells slots h) {v w : Value} (hd : decode code pc = .ok (.dup2, 1)) (hp : pc + 1 = pc') (hv : v.category = 1) (hw : w.category = 1) (g : Goes p e below K T m pc' L (v :: w :: v :: w :: S)) : Goes p e below K T m pc L (v :: w :: S) := by
  obtain ⟨hx, -, hby, -, -, -, -, -, -, locs, X, -, -⟩ := X
  subst hp
  obtain ⟨u1, a1, b1⟩ := g
  exact ⟨u1, Jvm.Free.XT.dup2 (g := mkF m pc L (v :: w :: S)) X.here hx rfl (hb hby hd) rfl hv hw a1, b1⟩
theorem w_pop (X : Wk p l e R s m args below meth c Z n0 y code ml ret T cells slots h) {v : Value} (hd : decode code pc = .ok (.pop, 1)) (hp : pc + 1 = pc') (hv : v.category = 1) (g : Goes p e below K T m pc' L S) : Goes p e below K T m pc L (v :: S) := by
  obtain ⟨hx, -, hby, -, -, -, -, -, -, locs, X, -, -⟩ := X
  subst hp
  obtain ⟨u1, a1, b1⟩ := g
  exact ⟨u1, XS.pop (g := mkF m pc L (v :: S)) X.here hx rfl (hb hby hd) rfl hv a1, b1⟩
theorem w_dupX1 (X : Wk p l e R s m args below meth c Z n0 y code ml ret T cells slots h) {v w : Value} (hd : decode code pc = .ok (.dup_x1, 1)) (hp : pc + 1 = pc') (hv : v.category = 1) (hw : w.category = 1) (g : Goes p e below K T m pc' L (v :: w :: v :: S)) : Goes p e below K T m pc L (v :: w :: S) := by
  obtain ⟨hx, -, hby, -, -, -, -, -, -, locs, X, -, -⟩ := X
  subst hp
  obtain ⟨u1, a1, b1⟩ := g
  exact ⟨u1, XS.dupX1 (g := mkF m pc L (v :: w :: S)) X.here hx rfl (hb hby hd) rfl hv hw a1, b1⟩
theorem w_null (X : Wk p l e R s m args below meth c Z n0 y code ml ret T cells slots h) (hd : decode code pc = .ok (.aconst_null, 1)) (hp : pc + 1 = pc') (g : Goes p e below K T m pc' L (.null :: S)) : Goes p e below K T m pc L S := by
  obtain ⟨hx, -, hby, -, -, -, -, -, -, locs, X, -, -⟩ := X
  subst hp
  obtain ⟨u1, a1, b1⟩ := g
  exact ⟨u1, XS.aconstNull (g := mkF m pc L S) X.here hx rfl (hb hby hd) a1, b1⟩
theorem w_ifnullYes (X : Wk p l e R s m args below meth c Z n0 y code ml ret T cells slots h) {o : Int} (hd : decode code pc = .ok (.ifnull o, 3)) (ho : 0 ≤ (pc : Int) + o) (hp : ((pc : Int) + o).toNat = pc') (g : Goes p e below K T m pc' L S) : Goes p e below K T m pc L (.null :: S) := by
  obtain ⟨hx, -, hby, -, -, -, -, -, -, locs, X, -, -⟩ := X
  obtain ⟨u1, a1, b1⟩ := g
  exact ⟨u1, XS.ifnullYes (g := mkF m pc L (.null :: S)) X.here hx rfl (pc0 := pc) rfl (hb hby hd) rfl ho hp a1, b1⟩
theorem w_ifnullNo (X : Wk p l e R s m args below meth c Z n0 y code ml ret T cells slots h) {o : Int} {a : Addr} (hd : decode code pc = .ok (.ifnull o, 3)) (hp : pc + 3 = pc') (g : Goes p e below K T m pc' L S) : Goes p e below K T m pc L (.ref a :: S) := by
  obtain ⟨hx, -, hby, -, -, -, -, -, -, locs, X, -, -⟩ := X
  subst hp
  obtain ⟨u1, a1, b1⟩ := g
  exact ⟨u1, XS.ifnullNo (g := mkF m pc L (.ref a :: S)) X.here hx rfl (hb hby hd) rfl a1, b1⟩
theorem w_ifnonnullYes (X : Wk p l e R s m args below meth c Z n0 y code ml ret T cells slots h) {o : Int} {a : Addr} (hd : decode code pc = .ok (.ifnonnull o, 3)) (ho : 0 ≤ (pc : Int) + o) (hp : ((pc : Int) + o).toNat = pc') (g : Goes p e below K T m pc' L S) : Goes p e below K T m pc L (.ref a :: S) := by
  obtain ⟨hx, -, hby, -, -, -, -, -, -, locs, X, -, -⟩ := X
  obtain ⟨u1, a1, b1⟩ := g
  exact ⟨u1, XS.ifnonnullYes (g := mkF m pc L (.ref a :: S)) X.here hx rfl (pc0 := pc) rfl (hb hby hd) rfl ho hp a1, b1⟩
theorem w_ifnonnullNo (X : Wk p l e R s m args below meth c Z n0 y code ml ret T cells slots h) {o : Int} (hd : decode code pc = .ok (.ifnonnull o, 3)) (hp : pc + 3 = pc') (g : Goes p e below K T m pc' L S) : Goes p e below K T m pc L (.null :: S) := by
  obtain ⟨hx, -, hby, -, -, -, -, -, -, locs, X, -, -⟩ := X
  subst hp
  obtain ⟨u1, a1, b1⟩ := g
  exact ⟨u1, XS.ifnonnullNo (g := mkF m pc L (.null :: S)) X.here hx rfl (hb hby hd) rfl a1, b1⟩
theorem w_iadd (X : Wk p l e R s m args below meth c Z n0 y code ml ret T cells slots h) {a b : Int32} (hd : decode code pc = .ok (.iadd, 1)) (hp : pc + 1 = pc') (g : Goes p e below K T m pc' L (.int (a + b) :: S)) : Goes p e below K T m pc L (.int b :: .int a :: S) := by
  obtain ⟨hx, -, hby, -, -, -, -, -, -, locs, X, -, -⟩ := X
  subst hp
  obtain ⟨u1, a1, b1⟩ := g
  exact ⟨u1, XS.iadd (g := mkF m pc L (.int b :: .int a :: S)) X.here hx rfl (hb hby hd) rfl a1, b1⟩
theorem w_ladd (X : Wk p l e R s m args below meth c Z n0 y code ml ret T cells slots h) {a b : Int64} (hd : decode code pc = .ok (.ladd, 1)) (hp : pc + 1 = pc') (g : Goes p e below K T m pc' L (.long (a + b) :: S)) : Goes p e below K T m pc L (.long b :: .long a :: S) := by
  obtain ⟨hx, -, hby, -, -, -, -, -, -, locs, X, -, -⟩ := X
  subst hp
  obtain ⟨u1, a1, b1⟩ := g
  exact ⟨u1, XS.ladd (g := mkF m pc L (.long b :: .long a :: S)) X.here hx rfl (hb hby hd) rfl a1, b1⟩
theorem w_isub (X : Wk p l e R s m args below meth c Z n0 y code ml ret T cells slots h) {a b : Int32} (hd : decode code pc = .ok (.isub, 1)) (hp : pc + 1 = pc') (g : Goes p e below K T m pc' L (.int (a - b) :: S)) : Goes p e below K T m pc L (.int b :: .int a :: S) := by
  obtain ⟨hx, -, hby, -, -, -, -, -, -, locs, X, -, -⟩ := X
  subst hp
  obtain ⟨u1, a1, b1⟩ := g
  exact ⟨u1, XS.isub (g := mkF m pc L (.int b :: .int a :: S)) X.here hx rfl (hb hby hd) rfl a1, b1⟩
theorem w_lsub (X : Wk p l e R s m args below meth c Z n0 y code ml ret T cells slots h) {a b : Int64} (hd : decode code pc = .ok (.lsub, 1)) (hp : pc + 1 = pc') (g : Goes p e below K T m pc' L (.long (a - b) :: S)) : Goes p e below K T m pc L (.long b :: .long a :: S) := by
  obtain ⟨hx, -, hby, -, -, -, -, -, -, locs, X, -, -⟩ := X
  subst hp
  obtain ⟨u1, a1, b1⟩ := g
  exact ⟨u1, XS.lsub (g := mkF m pc L (.long b :: .long a :: S)) X.here hx rfl (hb hby hd) rfl a1, b1⟩
theorem w_imul (X : Wk p l e R s m args below meth c Z n0 y code ml ret T cells slots h) {a b : Int32} (hd : decode code pc = .ok (.imul, 1)) (hp : pc + 1 = pc') (g : Goes p e below K T m pc' L (.int (a * b) :: S)) : Goes p e below K T m pc L (.int b :: .int a :: S) := by
  obtain ⟨hx, -, hby, -, -, -, -, -, -, locs, X, -, -⟩ := X
  subst hp
  obtain ⟨u1, a1, b1⟩ := g
  exact ⟨u1, XS.imul (g := mkF m pc L (.int b :: .int a :: S)) X.here hx rfl (hb hby hd) rfl a1, b1⟩
theorem w_lmul (X : Wk p l e R s m args below meth c Z n0 y code ml ret T cells slots h) {a b : Int64} (hd : decode code pc = .ok (.lmul, 1)) (hp : pc + 1 = pc') (g : Goes p e below K T m pc' L (.long (a * b) :: S)) : Goes p e below K T m pc L (.long b :: .long a :: S) := by
  obtain ⟨hx, -, hby, -, -, -, -, -, -, locs, X, -, -⟩ := X
  subst hp
  obtain ⟨u1, a1, b1⟩ := g
  exact ⟨u1, XS.lmul (g := mkF m pc L (.long b :: .long a :: S)) X.here hx rfl (hb hby hd) rfl a1, b1⟩
theorem w_iand (X : Wk p l e R s m args below meth c Z n0 y code ml ret T cells slots h) {a b : Int32} (hd : decode code pc = .ok (.iand, 1)) (hp : pc + 1 = pc') (g : Goes p e below K T m pc' L (.int (a &&& b) :: S)) : Goes p e below K T m pc L (.int b :: .int a :: S) := by
  obtain ⟨hx, -, hby, -, -, -, -, -, -, locs, X, -, -⟩ := X
  subst hp
  obtain ⟨u1, a1, b1⟩ := g
  exact ⟨u1, XS.iand (g := mkF m pc L (.int b :: .int a :: S)) X.here hx rfl (hb hby hd) rfl a1, b1⟩
theorem w_land (X : Wk p l e R s m args below meth c Z n0 y code ml ret T cells slots h) {a b : Int64} (hd : decode code pc = .ok (.land, 1)) (hp : pc + 1 = pc') (g : Goes p e below K T m pc' L (.long (a &&& b) :: S)) : Goes p e below K T m pc L (.long b :: .long a :: S) := by
  obtain ⟨hx, -, hby, -, -, -, -, -, -, locs, X, -, -⟩ := X
  subst hp
  obtain ⟨u1, a1, b1⟩ := g
  exact ⟨u1, XS.land (g := mkF m pc L (.long b :: .long a :: S)) X.here hx rfl (hb hby hd) rfl a1, b1⟩
theorem w_ior (X : Wk p l e R s m args below meth c Z n0 y code ml ret T cells slots h) {a b : Int32} (hd : decode code pc = .ok (.ior, 1)) (hp : pc + 1 = pc') (g : Goes p e below K T m pc' L (.int (a ||| b) :: S)) : Goes p e below K T m pc L (.int b :: .int a :: S) := by
  obtain ⟨hx, -, hby, -, -, -, -, -, -, locs, X, -, -⟩ := X
  subst hp
  obtain ⟨u1, a1, b1⟩ := g
  exact ⟨u1, XS.ior (g := mkF m pc L (.int b :: .int a :: S)) X.here hx rfl (hb hby hd) rfl a1, b1⟩
theorem w_lor (X : Wk p l e R s m args below meth c Z n0 y code ml ret T cells slots h) {a b : Int64} (hd : decode code pc = .ok (.lor, 1)) (hp : pc + 1 = pc') (g : Goes p e below K T m pc' L (.long (a ||| b) :: S)) : Goes p e below K T m pc L (.long b :: .long a :: S) := by
  obtain ⟨hx, -, hby, -, -, -, -, -, -, locs, X, -, -⟩ := X
  subst hp
  obtain ⟨u1, a1, b1⟩ := g
  exact ⟨u1, XS.lor (g := mkF m pc L (.long b :: .long a :: S)) X.here hx rfl (hb hby hd) rfl a1, b1⟩
theorem w_ixor (X : Wk p l e R s m args below meth c Z n0 y code ml ret T cells slots h) {a b : Int32} (hd : decode code pc = .ok (.ixor, 1)) (hp : pc + 1 = pc') (g : Goes p e below K T m pc' L (.int (a ^^^ b) :: S)) : Goes p e below K T m pc L (.int b :: .int a :: S) := by
  obtain ⟨hx, -, hby, -, -, -, -, -, -, locs, X, -, -⟩ := X
  subst hp
  obtain ⟨u1, a1, b1⟩ := g
  exact ⟨u1, XS.ixor (g := mkF m pc L (.int b :: .int a :: S)) X.here hx rfl (hb hby hd) rfl a1, b1⟩
theorem w_lxor (X : Wk p l e R s m args below meth c Z n0 y code ml ret T cells slots h) {a b : Int64} (hd : decode code pc = .ok (.lxor, 1)) (hp : pc + 1 = pc') (g : Goes p e below K T m pc' L (.long (a ^^^ b) :: S)) : Goes p e below K T m pc L (.long b :: .long a :: S) := by
  obtain ⟨hx, -, hby, -, -, -, -, -, -, locs, X, -, -⟩ := X
  subst hp
  obtain ⟨u1, a1, b1⟩ := g
  exact ⟨u1, XS.lxor (g := mkF m pc L (.long b :: .long a :: S)) X.here hx rfl (hb hby hd) rfl a1, b1⟩
theorem w_ishl (X : Wk p l e R s m args below meth c Z n0 y code ml ret T cells slots h) {a b : Int32} (hd : decode code pc = .ok (.ishl, 1)) (hp : pc + 1 = pc') (g : Goes p e below K T m pc' L (.int (a <<< (b &&& 31)) :: S)) : Goes p e below K T m pc L (.int b :: .int a :: S) := by
  obtain ⟨hx, -, hby, -, -, -, -, -, -, locs, X, -, -⟩ := X
  subst hp
  obtain ⟨u1, a1, b1⟩ := g
  exact ⟨u1, XS.ishl (g := mkF m pc L (.int b :: .int a :: S)) X.here hx rfl (hb hby hd) rfl a1, b1⟩
theorem w_ishr (X : Wk p l e R s m args below meth c Z n0 y code ml ret T cells slots h) {a b : Int32} (hd : decode code pc = .ok (.ishr, 1)) (hp : pc + 1 = pc') (g : Goes p e below K T m pc' L (.int (a >>> (b &&& 31)) :: S)) : Goes p e below K T m pc L (.int b :: .int a :: S) := by
  obtain ⟨hx, -, hby, -, -, -, -, -, -, locs, X, -, -⟩ := X
  subst hp
  obtain ⟨u1, a1, b1⟩ := g
  exact ⟨u1, XS.ishr (g := mkF m pc L (.int b :: .int a :: S)) X.here hx rfl (hb hby hd) rfl a1, b1⟩
theorem w_iushr (X : Wk p l e R s m args below meth c Z n0 y code ml ret T cells slots h) {a b : Int32} (hd : decode code pc = .ok (.iushr, 1)) (hp : pc + 1 = pc') (g : Goes p e below K T m pc' L (.int (ush a b) :: S)) : Goes p e below K T m pc L (.int b :: .int a :: S) := by
  obtain ⟨hx, -, hby, -, -, -, -, -, -, locs, X, -, -⟩ := X
  subst hp
  obtain ⟨u1, a1, b1⟩ := g
  exact ⟨u1, XS.iushr (g := mkF m pc L (.int b :: .int a :: S)) X.here hx rfl (hb hby hd) rfl a1, b1⟩
theorem w_lshl (X : Wk p l e R s m args below meth c Z n0 y code ml ret T cells slots h) {a : Int64} {b : Int32} (hd : decode code pc = .ok (.lshl, 1)) (hp : pc + 1 = pc') (g : Goes p e below K T m pc' L (.long (a <<< (b &&& 0x3f).toInt64) :: S)) : Goes p e below K T m pc L (.int b :: .long a :: S) := by
  obtain ⟨hx, -, hby, -, -, -, -, -, -, locs, X, -, -⟩ := X
  subst hp
  obtain ⟨u1, a1, b1⟩ := g
  exact ⟨u1, XS.lshl (g := mkF m pc L (.int b :: .long a :: S)) X.here hx rfl (hb hby hd) rfl a1, b1⟩
theorem w_lshr (X : Wk p l e R s m args below meth c Z n0 y code ml ret T cells slots h) {a : Int64} {b : Int32} (hd : decode code pc = .ok (.lshr, 1)) (hp : pc + 1 = pc') (g : Goes p e below K T m pc' L (.long (a >>> (b &&& 0x3f).toInt64) :: S)) : Goes p e below K T m pc L (.int b :: .long a :: S) := by
  obtain ⟨hx, -, hby, -, -, -, -, -, -, locs, X, -, -⟩ := X
  subst hp
  obtain ⟨u1, a1, b1⟩ := g
  exact ⟨u1, XS.lshr (g := mkF m pc L (.int b :: .long a :: S)) X.here hx rfl (hb hby hd) rfl a1, b1⟩
theorem w_lushr (X : Wk p l e R s m args below meth c Z n0 y code ml ret T cells slots h) {a : Int64} {b : Int32} (hd : decode code pc = .ok (.lushr, 1)) (hp : pc + 1 = pc') (g : Goes p e below K T m pc' L (.long (ushL a b) :: S)) : Goes p e below K T m pc L (.int b :: .long a :: S) := by
  obtain ⟨hx, -, hby, -, -, -, -, -, -, locs, X, -, -⟩ := X
  subst hp
  obtain ⟨u1, a1, b1⟩ := g
  exact ⟨u1, XS.lushr (g := mkF m pc L (.int b :: .long a :: S)) X.here hx rfl (hb hby hd) rfl a1, b1⟩
theorem w_ineg (X : Wk p l e R s m args below meth c Z n0 y code ml ret T cells slots h) {a : Int32} (hd : decode code pc = .ok (.ineg, 1)) (hp : pc + 1 = pc') (g : Goes p e below K T m pc' L (.int (-a) :: S)) : Goes p e below K T m pc L (.int a :: S) := by
  obtain ⟨hx, -, hby, -, -, -, -, -, -, locs, X, -, -⟩ := X
  subst hp
  obtain ⟨u1, a1, b1⟩ := g
  exact ⟨u1, XS.ineg (g := mkF m pc L (.int a :: S)) X.here hx rfl (hb hby hd) rfl a1, b1⟩
theorem w_lneg (X : Wk p l e R s m args below meth c Z n0 y code ml ret T cells slots h) {a : Int64} (hd : decode code pc = .ok (.lneg, 1)) (hp : pc + 1 = pc') (g : Goes p e below K T m pc' L (.long (-a) :: S)) : Goes p e below K T m pc L (.long a :: S) := by
  obtain ⟨hx, -, hby, -, -, -, -, -, -, locs, X, -, -⟩ := X
  subst hp
  obtain ⟨u1, a1, b1⟩ := g
  exact ⟨u1, XS.lneg (g := mkF m pc L (.long a :: S)) X.here hx rfl (hb hby hd) rfl a1, b1⟩
theorem w_i2l (X : Wk p l e R s m args below meth c Z n0 y code ml ret T cells slots h) {a : Int32} (hd : decode code pc = .ok (.i2l, 1)) (hp : pc + 1 = pc') (g : Goes p e below K T m pc' L (.long a.toInt64 :: S)) : Goes p e below K T m pc L (.int a :: S) := by
  obtain ⟨hx, -, hby, -, -, -, -, -, -, locs, X, -, -⟩ := X
  subst hp
  obtain ⟨u1, a1, b1⟩ := g
  exact ⟨u1, XS.i2l (g := mkF m pc L (.int a :: S)) X.here hx rfl (hb hby hd) rfl a1, b1⟩
theorem w_l2i (X : Wk p l e R s m args below meth c Z n0 y code ml ret T cells slots h) {a : Int64} (hd : decode code pc = .ok (.l2i, 1)) (hp : pc + 1 = pc') (g : Goes p e below K T m pc' L (.int a.toInt32 :: S)) : Goes p e below K T m pc L (.long a :: S) := by
  obtain ⟨hx, -, hby, -, -, -, -, -, -, locs, X, -, -⟩ := X
  subst hp
  obtain ⟨u1, a1, b1⟩ := g
  exact ⟨u1, XS.l2i (g := mkF m pc L (.long a :: S)) X.here hx rfl (hb hby hd) rfl a1, b1⟩
theorem w_i2b (X : Wk p l e R s m args below meth c Z n0 y code ml ret T cells slots h) {a : Int32} (hd : decode code pc = .ok (.i2b, 1)) (hp : pc + 1 = pc') (g : Goes p e below K T m pc' L (.int a.toInt8.toInt32 :: S)) : Goes p e below K T m pc L (.int a :: S) := by
  obtain ⟨hx, -, hby, -, -, -, -, -, -, locs, X, -, -⟩ := X
  subst hp
  obtain ⟨u1, a1, b1⟩ := g
  exact ⟨u1, XS.i2b (g := mkF m pc L (.int a :: S)) X.here hx rfl (hb hby hd) rfl a1, b1⟩
theorem w_i2s (X : Wk p l e R s m args below meth c Z n0 y code ml ret T cells slots h) {a : Int32} (hd : decode code pc = .ok (.i2s, 1)) (hp : pc + 1 = pc') (g : Goes p e below K T m pc' L (.int a.toInt16.toInt32 :: S)) : Goes p e below K T m pc L (.int a :: S) := by
  obtain ⟨hx, -, hby, -, -, -, -, -, -, locs, X, -, -⟩ := X
  subst hp
  obtain ⟨u1, a1, b1⟩ := g
  exact ⟨u1, XS.i2s (g := mkF m pc L (.int a :: S)) X.here hx rfl (hb hby hd) rfl a1, b1⟩
theorem w_i2c (X : Wk p l e R s m args below meth c Z n0 y code ml ret T cells slots h) {a : Int32} (hd : decode code pc = .ok (.i2c, 1)) (hp : pc + 1 = pc') (g : Goes p e below K T m pc' L (.int a.toUInt32.toUInt16.toUInt32.toInt32 :: S)) : Goes p e below K T m pc L (.int a :: S) := by
  obtain ⟨hx, -, hby, -, -, -, -, -, -, locs, X, -, -⟩ := X
  subst hp
  obtain ⟨u1, a1, b1⟩ := g
  exact ⟨u1, XS.i2c (g := mkF m pc L (.int a :: S)) X.here hx rfl (hb hby hd) rfl a1, b1⟩
theorem w_idiv (X : Wk p l e R s m args below meth c Z n0 y code ml ret T cells slots h) {a b : Int32} (hd : decode code pc = .ok (.idiv, 1)) (hp : pc + 1 = pc') (hb0 : b ≠ 0) (g : Goes p e below K T m pc' L (.int (a / b) :: S)) : Goes p e below K T m pc L (.int b :: .int a :: S) := by
  obtain ⟨hx, -, hby, -, -, -, -, -, -, locs, X, -, -⟩ := X
  subst hp
  obtain ⟨u1, a1, b1⟩ := g
  exact ⟨u1, XS.idiv (g := mkF m pc L (.int b :: .int a :: S)) X.here hx rfl (hb hby hd) rfl hb0 a1, b1⟩
theorem w_irem (X : Wk p l e R s m args below meth c Z n0 y code ml ret T cells slots h) {a b : Int32} (hd : decode code pc = .ok (.irem, 1)) (hp : pc + 1 = pc') (hb0 : b ≠ 0) (g : Goes p e below K T m pc' L (.int (a % b) :: S)) : Goes p e below K T m pc L (.int b :: .int a :: S) := by
  obtain ⟨hx, -, hby, -, -, -, -, -, -, locs, X, -, -⟩ := X
  subst hp
  obtain ⟨u1, a1, b1⟩ := g
  exact ⟨u1, Jvm.RoadKit.iremM (g := mkF m pc L (.int b :: .int a :: S)) X hx rfl (hb hby hd) rfl hb0 a1, b1⟩
theorem w_ldiv (X : Wk p l e R s m args below meth c Z n0 y code ml ret T cells slots h) {a b : Int64} (hd : decode code pc = .ok (.ldiv, 1)) (hp : pc + 1 = pc') (hb0 : b ≠ 0) (g : Goes p e below K T m pc' L (.long (a / b) :: S)) : Goes p e below K T m pc L (.long b :: .long a :: S) := by
  obtain ⟨hx, -, hby, -, -, -, -, -, -, locs, X, -, -⟩ := X
  subst hp
  obtain ⟨u1, a1, b1⟩ := g
  exact ⟨u1, XS.ldiv (g := mkF m pc L (.long b :: .long a :: S)) X.here hx rfl (hb hby hd) rfl hb0 a1, b1⟩
theorem w_lrem (X : Wk p l e R s m args below meth c Z n0 y code ml ret T cells slots h) {a b : Int64} (hd : decode code pc = .ok (.lrem, 1)) (hp : pc + 1 = pc') (hb0 : b ≠ 0) (g : Goes p e below K T m pc' L (.long (a % b) :: S)) : Goes p e below K T m pc L (.long b :: .long a :: S) := by
  obtain ⟨hx, -, hby, -, -, -, -, -, -, locs, X, -, -⟩ := X
  subst hp
  rw [← lrem_mod] at g
  obtain ⟨u1, a1, b1⟩ := g
  exact ⟨u1, XS.lrem (g := mkF m pc L (.long b :: .long a :: S)) X.here hx rfl (hb hby hd) rfl hb0 a1, b1⟩
theorem w_lcmp (X : Wk p l e R s m args below meth c Z n0 y code ml ret T cells slots h) {a b : Int64} (hd : decode code pc = .ok (.lcmp, 1)) (hp : pc + 1 = pc') (g : Goes p e below K T m pc' L (.int (lcmpW a b) :: S)) : Goes p e below K T m pc L (.long b :: .long a :: S) := by
  obtain ⟨hx, -, hby, -, -, -, -, -, -, locs, X, -, -⟩ := X
  subst hp
  obtain ⟨u1, a1, b1⟩ := g
  exact ⟨u1, XS.lcmp (g := mkF m pc L (.long b :: .long a :: S)) X.here hx rfl (hb hby hd) rfl a1, b1⟩
theorem w_icmp_lt (X : Wk p l e R s m args below meth c Z n0 y code ml ret T cells slots h) {a b : Int32} {o : Int} {pcT pcF : Nat} (hd : decode code pc = .ok (.if_icmp .lt o, 3)) (ho : 0 ≤ (pc : Int) + o) (hT : ((pc : Int) + o).toNat = pcT) (hF : pc + 3 = pcF) (gT : a < b → Goes p e below K T m pcT L S) (gF : ¬ a < b → Goes p e below K T m pcF L S) : Goes p e below K T m pc L (.int b :: .int a :: S) := by
  obtain ⟨hx, -, hby, -, -, -, -, -, -, locs, X, -, -⟩ := X
  subst hF
  by_cases q : a < b
  · obtain ⟨u1, a1, b1⟩ := (gT q)
    exact ⟨u1, XS.icmpYes (g := mkF m pc L (.int b :: .int a :: S)) X.here hx rfl (pc0 := pc) rfl (hb hby hd) rfl (tlt q).1 ho hT a1, b1⟩
  · obtain ⟨u1, a1, b1⟩ := (gF q)
    exact ⟨u1, XS.icmpNo (g := mkF m pc L (.int b :: .int a :: S)) X.here hx rfl (hb hby hd) rfl (flt q).1 a1, b1⟩
theorem w_if_lt (X : Wk p l e R s m args below meth c Z n0 y code ml ret T cells slots h) {a : Int32} {o : Int} {pcT pcF : Nat} (hd : decode code pc = .ok (.ifCond .lt o, 3)) (ho : 0 ≤ (pc : Int) + o) (hT : ((pc : Int) + o).toNat = pcT) (hF : pc + 3 = pcF) (gT : a < 0 → Goes p e below K T m pcT L S) (gF : ¬ a < 0 → Goes p e below K T m pcF L S) : Goes p e below K T m pc L (.int a :: S) := by
  obtain ⟨hx, -, hby, -, -, -, -, -, -, locs, X, -, -⟩ := X
  subst hF
  by_cases q : a < 0
  · obtain ⟨u1, a1, b1⟩ := (gT q)
    exact ⟨u1, XS.ifYes (g := mkF m pc L (.int a :: S)) X.here hx rfl (pc0 := pc) rfl (hb hby hd) rfl ((if0 _ _).trans (tlt q).1) ho hT a1, b1⟩
  · obtain ⟨u1, a1, b1⟩ := (gF q)
    exact ⟨u1, XS.ifNo (g := mkF m pc L (.int a :: S)) X.here hx rfl (hb hby hd) rfl ((if0 _ _).trans (flt q).1) a1, b1⟩
theorem w_lcmp_lt (X : Wk p l e R s m args below meth c Z n0 y code ml ret T cells slots h) {a b : Int64} {o : Int} {pcI pcT pcF : Nat} (hd0 : decode code pc = .ok (.lcmp, 1)) (hp : pc + 1 = pcI) (hd : decode code pcI = .ok (.ifCond .lt o, 3)) (ho : 0 ≤ (pcI : Int) + o) (hT : ((pcI : Int) + o).toNat = pcT) (hF : pcI + 3 = pcF) (gT : a < b → Goes p e below K T m pcT L S) (gF : ¬ a < b → Goes p e below K T m pcF L S) : Goes p e below K T m pc L (.long b :: .long a :: S) :=
  w_lcmp X hd0 hp (w_if_lt X hd ho hT hF (fun q => gT ((lw_lt a b).mp q)) (fun q => gF (fun r => q ((lw_lt a b).mpr r))))
theorem w_icmp_ge (X : Wk p l e R s m args below meth c Z n0 y code ml ret T cells slots h) {a b : Int32} {o : Int} {pcT pcF : Nat} (hd : decode code pc = .ok (.if_icmp .ge o, 3)) (ho : 0 ≤ (pc : Int) + o) (hT : ((pc : Int) + o).toNat = pcT) (hF : pc + 3 = pcF) (gT : ¬ a < b → Goes p e below K T m pcT L S) (gF : a < b → Goes p e below K T m pcF L S) : Goes p e below K T m pc L (.int b :: .int a :: S) := by
  obtain ⟨hx, -, hby, -, -, -, -, -, -, locs, X, -, -⟩ := X
  subst hF
  by_cases q : ¬ a < b
  · obtain ⟨u1, a1, b1⟩ := (gT q)
    exact ⟨u1, XS.icmpYes (g := mkF m pc L (.int b :: .int a :: S)) X.here hx rfl (pc0 := pc) rfl (hb hby hd) rfl (flt q).2.1 ho hT a1, b1⟩
  · obtain ⟨u1, a1, b1⟩ := (gF (Classical.not_not.mp q))
    exact ⟨u1, XS.icmpNo (g := mkF m pc L (.int b :: .int a :: S)) X.here hx rfl (hb hby hd) rfl (tlt (Classical.not_not.mp q)).2.1 a1, b1⟩
theorem w_if_ge (X : Wk p l e R s m args below meth c Z n0 y code ml ret T cells slots h) {a : Int32} {o : Int} {pcT pcF : Nat} (hd : decode code pc = .ok (.ifCond .ge o, 3)) (ho : 0 ≤ (pc : Int) + o) (hT : ((pc : Int) + o).toNat = pcT) (hF : pc + 3 = pcF) (gT : ¬ a < 0 → Goes p e below K T m pcT L S) (gF : a < 0 → Goes p e below K T m pcF L S) : Goes p e below K T m pc L (.int a :: S) := by
  obtain ⟨hx, -, hby, -, -, -, -, -, -, locs, X, -, -⟩ := X
  subst hF
  by_cases q : ¬ a < 0
  · obtain ⟨u1, a1, b1⟩ := (gT q)
    exact ⟨u1, XS.ifYes (g := mkF m pc L (.int a :: S)) X.here hx rfl (pc0 := pc) rfl (hb hby hd) rfl ((if0 _ _).trans (flt q).2.1) ho hT a1, b1⟩
  · obtain ⟨u1, a1, b1⟩ := (gF (Classical.not_not.mp q))
    exact ⟨u1, XS.ifNo (g := mkF m pc L (.int a :: S)) X.here hx rfl (hb hby hd) rfl ((if0 _ _).trans (tlt (Classical.not_not.mp q)).2.1) a1, b1⟩
theorem w_lcmp_ge (X : Wk p l e R s m args below meth c Z n0 y code ml ret T cells slots h) {a b : Int64} {o : Int} {pcI pcT pcF : Nat} (hd0 : decode code pc = .ok (.lcmp, 1)) (hp : pc + 1 = pcI) (hd : decode code pcI = .ok (.ifCond .ge o, 3)) (ho : 0 ≤ (pcI : Int) + o) (hT : ((pcI : Int) + o).toNat = pcT) (hF : pcI + 3 = pcF) (gT : ¬ a < b → Goes p e below K T m pcT L S) (gF : a < b → Goes p e below K T m pcF L S) : Goes p e below K T m pc L (.long b :: .long a :: S) :=
  w_lcmp X hd0 hp (w_if_ge X hd ho hT hF (fun q => gT (fun r => q ((lw_lt a b).mpr r))) (fun q => gF ((lw_lt a b).mp q)))
theorem w_icmp_gt (X : Wk p l e R s m args below meth c Z n0 y code ml ret T cells slots h) {a b : Int32} {o : Int} {pcT pcF : Nat} (hd : decode code pc = .ok (.if_icmp .gt o, 3)) (ho : 0 ≤ (pc : Int) + o) (hT : ((pc : Int) + o).toNat = pcT) (hF : pc + 3 = pcF) (gT : b < a → Goes p e below K T m pcT L S) (gF : ¬ b < a → Goes p e below K T m pcF L S) : Goes p e below K T m pc L (.int b :: .int a :: S) := by
  obtain ⟨hx, -, hby, -, -, -, -, -, -, locs, X, -, -⟩ := X
  subst hF
  by_cases q : b < a
  · obtain ⟨u1, a1, b1⟩ := (gT q)
    exact ⟨u1, XS.icmpYes (g := mkF m pc L (.int b :: .int a :: S)) X.here hx rfl (pc0 := pc) rfl (hb hby hd) rfl (tlt q).2.2.1 ho hT a1, b1⟩
  · obtain ⟨u1, a1, b1⟩ := (gF q)
    exact ⟨u1, XS.icmpNo (g := mkF m pc L (.int b :: .int a :: S)) X.here hx rfl (hb hby hd) rfl (flt q).2.2.1 a1, b1⟩
theorem w_if_gt (X : Wk p l e R s m args below meth c Z n0 y code ml ret T cells slots h) {a : Int32} {o : Int} {pcT pcF : Nat} (hd : decode code pc = .ok (.ifCond .gt o, 3)) (ho : 0 ≤ (pc : Int) + o) (hT : ((pc : Int) + o).toNat = pcT) (hF : pc + 3 = pcF) (gT : 0 < a → Goes p e below K T m pcT L S) (gF : ¬ 0 < a → Goes p e below K T m pcF L S) : Goes p e below K T m pc L (.int a :: S) := by
  obtain ⟨hx, -, hby, -, -, -, -, -, -, locs, X, -, -⟩ := X
  subst hF
  by_cases q : 0 < a
  · obtain ⟨u1, a1, b1⟩ := (gT q)
    exact ⟨u1, XS.ifYes (g := mkF m pc L (.int a :: S)) X.here hx rfl (pc0 := pc) rfl (hb hby hd) rfl ((if0 _ _).trans (tlt q).2.2.1) ho hT a1, b1⟩
  · obtain ⟨u1, a1, b1⟩ := (gF q)
    exact ⟨u1, XS.ifNo (g := mkF m pc L (.int a :: S)) X.here hx rfl (hb hby hd) rfl ((if0 _ _).trans (flt q).2.2.1) a1, b1⟩
theorem w_lcmp_gt (X : Wk p l e R s m args below meth c Z n0 y code ml ret T cells slots h) {a b : Int64} {o : Int} {pcI pcT pcF : Nat} (hd0 : decode code pc = .ok (.lcmp, 1)) (hp : pc + 1 = pcI) (hd : decode code pcI = .ok (.ifCond .gt o, 3)) (ho : 0 ≤ (pcI : Int) + o) (hT : ((pcI : Int) + o).toNat = pcT) (hF : pcI + 3 = pcF) (gT : b < a → Goes p e below K T m pcT L S) (gF : ¬ b < a → Goes p e below K T m pcF L S) : Goes p e below K T m pc L (.long b :: .long a :: S) :=
  w_lcmp X hd0 hp (w_if_gt X hd ho hT hF (fun q => gT ((lw_gt a b).mp q)) (fun q => gF (fun r => q ((lw_gt a b).mpr r))))
theorem w_icmp_le (X : Wk p l e R s m args below meth c Z n0 y code ml ret T cells slots h) {a b : Int32} {o : Int} {pcT pcF : Nat} (hd : decode code pc = .ok (.if_icmp .le o, 3)) (ho : 0 ≤ (pc : Int) + o) (hT : ((pc : Int) + o).toNat = pcT) (hF : pc + 3 = pcF) (gT : ¬ b < a → Goes p e below K T m pcT L S) (gF : b < a → Goes p e below K T m pcF L S) : Goes p e below K T m pc L (.int b :: .int a :: S) := by
  obtain ⟨hx, -, hby, -, -, -, -, -, -, locs, X, -, -⟩ := X
  subst hF
  by_cases q : ¬ b < a
  · obtain ⟨u1, a1, b1⟩ := (gT q)
    exact ⟨u1, XS.icmpYes (g := mkF m pc L (.int b :: .int a :: S)) X.here hx rfl (pc0 := pc) rfl (hb hby hd) rfl (flt q).2.2.2 ho hT a1, b1⟩
  · obtain ⟨u1, a1, b1⟩ := (gF (Classical.not_not.mp q))
    exact ⟨u1, XS.icmpNo (g := mkF m pc L (.int b :: .int a :: S)) X.here hx rfl (hb hby hd) rfl (tlt (Classical.not_not.mp q)).2.2.2 a1, b1⟩
theorem w_if_le (X : Wk p l e R s m args below meth c Z n0 y code ml ret T cells slots h) {a : Int32} {o : Int} {pcT pcF : Nat} (hd : decode code pc = .ok (.ifCond .le o, 3)) (ho : 0 ≤ (pc : Int) + o) (hT : ((pc : Int) + o).toNat = pcT) (hF : pc + 3 = pcF) (gT : ¬ 0 < a → Goes p e below K T m pcT L S) (gF : 0 < a → Goes p e below K T m pcF L S) : Goes p e below K T m pc L (.int a :: S) := by
  obtain ⟨hx, -, hby, -, -, -, -, -, -, locs, X, -, -⟩ := X
  subst hF
  by_cases q : ¬ 0 < a
  · obtain ⟨u1, a1, b1⟩ := (gT q)
    exact ⟨u1, XS.ifYes (g := mkF m pc L (.int a :: S)) X.here hx rfl (pc0 := pc) rfl (hb hby hd) rfl ((if0 _ _).trans (flt q).2.2.2) ho hT a1, b1⟩
  · obtain ⟨u1, a1, b1⟩ := (gF (Classical.not_not.mp q))
    exact ⟨u1, XS.ifNo (g := mkF m pc L (.int a :: S)) X.here hx rfl (hb hby hd) rfl ((if0 _ _).trans (tlt (Classical.not_not.mp q)).2.2.2) a1, b1⟩
theorem w_lcmp_le (X : Wk p l e R s m args below meth c Z n0 y code ml ret T cells slots h) {a b : Int64} {o : Int} {pcI pcT pcF : Nat} (hd0 : decode code pc = .ok (.lcmp, 1)) (hp : pc + 1 = pcI) (hd : decode code pcI = .ok (.ifCond .le o, 3)) (ho : 0 ≤ (pcI : Int) + o) (hT : ((pcI : Int) + o).toNat = pcT) (hF : pcI + 3 = pcF) (gT : ¬ b < a → Goes p e below K T m pcT L S) (gF : b < a → Goes p e below K T m pcF L S) : Goes p e below K T m pc L (.long b :: .long a :: S) :=
  w_lcmp X hd0 hp (w_if_le X hd ho hT hF (fun q => gT (fun r => q ((lw_gt a b).mpr r))) (fun q => gF ((lw_gt a b).mp q)))
theorem w_icmp_eq (X : Wk p l e R s m args below meth c Z n0 y code ml ret T cells slots h) {a b : Int32} {o : Int} {pcT pcF : Nat} (hd : decode code pc = .ok (.if_icmp .eq o, 3)) (ho : 0 ≤ (pc : Int) + o) (hT : ((pc : Int) + o).toNat = pcT) (hF : pc + 3 = pcF) (gT : a = b → Goes p e below K T m pcT L S) (gF : ¬ a = b → Goes p e below K T m pcF L S) : Goes p e below K T m pc L (.int b :: .int a :: S) := by
  obtain ⟨hx, -, hby, -, -, -, -, -, -, locs, X, -, -⟩ := X
  subst hF
  by_cases q : a = b
  · obtain ⟨u1, a1, b1⟩ := (gT q)
    exact ⟨u1, XS.icmpYes (g := mkF m pc L (.int b :: .int a :: S)) X.here hx rfl (pc0 := pc) rfl (hb hby hd) rfl (teq q).1 ho hT a1, b1⟩
  · obtain ⟨u1, a1, b1⟩ := (gF q)
    exact ⟨u1, XS.icmpNo (g := mkF m pc L (.int b :: .int a :: S)) X.here hx rfl (hb hby hd) rfl (feq q).1 a1, b1⟩
theorem w_if_eq (X : Wk p l e R s m args below meth c Z n0 y code ml ret T cells slots h) {a : Int32} {o : Int} {pcT pcF : Nat} (hd : decode code pc = .ok (.ifCond .eq o, 3)) (ho : 0 ≤ (pc : Int) + o) (hT : ((pc : Int) + o).toNat = pcT) (hF : pc + 3 = pcF) (gT : a = 0 → Goes p e below K T m pcT L S) (gF : ¬ a = 0 → Goes p e below K T m pcF L S) : Goes p e below K T m pc L (.int a :: S) := by
  obtain ⟨hx, -, hby, -, -, -, -, -, -, locs, X, -, -⟩ := X
  subst hF
  by_cases q : a = 0
  · obtain ⟨u1, a1, b1⟩ := (gT q)
    exact ⟨u1, XS.ifYes (g := mkF m pc L (.int a :: S)) X.here hx rfl (pc0 := pc) rfl (hb hby hd) rfl ((if0 _ _).trans (teq q).1) ho hT a1, b1⟩
  · obtain ⟨u1, a1, b1⟩ := (gF q)
    exact ⟨u1, XS.ifNo (g := mkF m pc L (.int a :: S)) X.here hx rfl (hb hby hd) rfl ((if0 _ _).trans (feq q).1) a1, b1⟩
theorem w_lcmp_eq (X : Wk p l e R s m args below meth c Z n0 y code ml ret T cells slots h) {a b : Int64} {o : Int} {pcI pcT pcF : Nat} (hd0 : decode code pc = .ok (.lcmp, 1)) (hp : pc + 1 = pcI) (hd : decode code pcI = .ok (.ifCond .eq o, 3)) (ho : 0 ≤ (pcI : Int) + o) (hT : ((pcI : Int) + o).toNat = pcT) (hF : pcI + 3 = pcF) (gT : a = b → Goes p e below K T m pcT L S) (gF : ¬ a = b → Goes p e below K T m pcF L S) : Goes p e below K T m pc L (.long b :: .long a :: S) :=
  w_lcmp X hd0 hp (w_if_eq X hd ho hT hF (fun q => gT ((lw_eq a b).mp q)) (fun q => gF (fun r => q ((lw_eq a b).mpr r))))
theorem w_icmp_ne (X : Wk p l e R s m args below meth c Z n0 y code ml ret T cells slots h) {a b : Int32} {o : Int} {pcT pcF : Nat} (hd : decode code pc = .ok (.if_icmp .ne o, 3)) (ho : 0 ≤ (pc : Int) + o) (hT : ((pc : Int) + o).toNat = pcT) (hF : pc + 3 = pcF) (gT : ¬ a = b → Goes p e below K T m pcT L S) (gF : a = b → Goes p e below K T m pcF L S) : Goes p e below K T m pc L (.int b :: .int a :: S) := by
  obtain ⟨hx, -, hby, -, -, -, -, -, -, locs, X, -, -⟩ := X
  subst hF
  by_cases q : ¬ a = b
  · obtain ⟨u1, a1, b1⟩ := (gT q)
    exact ⟨u1, XS.icmpYes (g := mkF m pc L (.int b :: .int a :: S)) X.here hx rfl (pc0 := pc) rfl (hb hby hd) rfl (feq q).2 ho hT a1, b1⟩
  · obtain ⟨u1, a1, b1⟩ := (gF (Classical.not_not.mp q))
    exact ⟨u1, XS.icmpNo (g := mkF m pc L (.int b :: .int a :: S)) X.here hx rfl (hb hby hd) rfl (teq (Classical.not_not.mp q)).2 a1, b1⟩
theorem w_if_ne (X : Wk p l e R s m args below meth c Z n0 y code ml ret T cells slots h) {a : Int32} {o : Int} {pcT pcF : Nat} (hd : decode code pc = .ok (.ifCond .ne o, 3)) (ho : 0 ≤ (pc : Int) + o) (hT : ((pc : Int) + o).toNat = pcT) (hF : pc + 3 = pcF) (gT : ¬ a = 0 → Goes p e below K T m pcT L S) (gF : a = 0 → Goes p e below K T m pcF L S) : Goes p e below K T m pc L (.int a :: S) := by
  obtain ⟨hx, -, hby, -, -, -, -, -, -, locs, X, -, -⟩ := X
  subst hF
  by_cases q : ¬ a = 0
  · obtain ⟨u1, a1, b1⟩ := (gT q)
    exact ⟨u1, XS.ifYes (g := mkF m pc L (.int a :: S)) X.here hx rfl (pc0 := pc) rfl (hb hby hd) rfl ((if0 _ _).trans (feq q).2) ho hT a1, b1⟩
  · obtain ⟨u1, a1, b1⟩ := (gF (Classical.not_not.mp q))
    exact ⟨u1, XS.ifNo (g := mkF m pc L (.int a :: S)) X.here hx rfl (hb hby hd) rfl ((if0 _ _).trans (teq (Classical.not_not.mp q)).2) a1, b1⟩
theorem w_lcmp_ne (X : Wk p l e R s m args below meth c Z n0 y code ml ret T cells slots h) {a b : Int64} {o : Int} {pcI pcT pcF : Nat} (hd0 : decode code pc = .ok (.lcmp, 1)) (hp : pc + 1 = pcI) (hd : decode code pcI = .ok (.ifCond .ne o, 3)) (ho : 0 ≤ (pcI : Int) + o) (hT : ((pcI : Int) + o).toNat = pcT) (hF : pcI + 3 = pcF) (gT : ¬ a = b → Goes p e below K T m pcT L S) (gF : a = b → Goes p e below K T m pcF L S) : Goes p e below K T m pc L (.long b :: .long a :: S) :=
  w_lcmp X hd0 hp (w_if_ne X hd ho hT hF (fun q => gT (fun r => q ((lw_eq a b).mpr r))) (fun q => gF ((lw_eq a b).mp q)))
-- returns
theorem w_ireturn (X : Wk p l e R s m args below meth c Z n0 y code ml (some .int) T cells slots h) {w : Option Value} {Q : Heap → Prop} {z : Int32} (hd : decode code pc = .ok (.ireturn, 1)) (hw : w = some (.int z)) (hq : Q h) (hc : cells ≤ R.cells) (hs : slots ≤ R.slots) : Goes p e below (Done below s n0 R w Q) T m pc L (.int z :: S) := by
  obtain ⟨hx, hZ, hby, hml, hown, hnm, hret, hlk, hn, locs, X, eT, N⟩ := X
  obtain ⟨fs, hr, hrun, hended, hW, hsame⟩ := X.leave (v := some (.int z)) (fun h => by rw [hret] at h; cases h) hlk
  exact ⟨_, Jvm.RoadKit.retI X hx hret (hb hby hd) hr, _, hrun, hended, _, locs, rfl, ⟨hw.symm, (by show Q T.heap; rw [eT]; exact hq), N, (by show n0 ≤ T.heap.size; rw [eT]; exact hn)⟩, ⟨_, rfl⟩, hW, hsame.mono hc hs⟩
theorem w_nreturn {t : FieldType} (X : Wk p l e R s m args below meth c Z n0 y code ml (some t) T cells slots h) {w : Option Value} {Q : Heap → Prop} {z : Int32} (ht : t = .boolean ∨ t = .byte ∨ t = .char ∨ t = .short) (hd : decode code pc = .ok (.ireturn, 1)) (hw : w = some (.int (nar t z))) (hq : Q h) (hc : cells ≤ R.cells) (hs : slots ≤ R.slots) : Goes p e below (Done below s n0 R w Q) T m pc L (.int z :: S) := by
  obtain ⟨hx, hZ, hby, hml, hown, hnm, hret, hlk, hn, locs, X, eT, N⟩ := X
  obtain ⟨fs, hr, hrun, hended, hW, hsame⟩ := X.leave (v := some (.int (nar t z))) (fun h => by rw [hret] at h; cases h) hlk
  exact ⟨_, retN X hx hret ht (hb hby hd) hr, _, hrun, hended, _, locs, rfl, ⟨hw.symm, (by show Q T.heap; rw [eT]; exact hq), N, (by show n0 ≤ T.heap.size; rw [eT]; exact hn)⟩, ⟨_, rfl⟩, hW, hsame.mono hc hs⟩
theorem w_lreturn (X : Wk p l e R s m args below meth c Z n0 y code ml (some .long) T cells slots h) {w : Option Value} {Q : Heap → Prop} {z : Int64} (hd : decode code pc = .ok (.lreturn, 1)) (hw : w = some (.long z)) (hq : Q h) (hc : cells ≤ R.cells) (hs : slots ≤ R.slots) : Goes p e below (Done below s n0 R w Q) T m pc L [.long z] := by
  obtain ⟨hx, hZ, hby, hml, hown, hnm, hret, hlk, hn, locs, X, eT, N⟩ := X
  obtain ⟨fs, hr, hrun, hended, hW, hsame⟩ := X.leave (v := some (.long z)) (fun h => by rw [hret] at h; cases h) hlk
  exact ⟨_, X.lreturnOut hx hret (hb hby hd) hr, _, hrun, hended, _, locs, rfl, ⟨hw.symm, (by show Q T.heap; rw [eT]; exact hq), N, (by show n0 ≤ T.heap.size; rw [eT]; exact hn)⟩, ⟨_, rfl⟩, hW, hsame.mono hc hs⟩
theorem w_return (X : Wk p l e R s m args below meth c Z n0 y code ml none T cells slots h) {w : Option Value} {Q : Heap → Prop} (hd : decode code pc = .ok (.return_, 1)) (hw : w = none) (hq : Q h) (hc : cells ≤ R.cells) (hs : slots ≤ R.slots) : Goes p e below (Done below s n0 R w Q) T m pc L [] := by
  obtain ⟨hx, hZ, hby, hml, hown, hnm, hret, hlk, hn, locs, X, eT, N⟩ := X
  obtain ⟨fs, hr, hrun, hended, hW, hsame⟩ := X.leave (v := none) (fun _ => rfl) hlk
  exact ⟨_, X.returnOut hx hret (hb hby hd) hr, _, hrun, hended, _, locs, rfl, ⟨hw.symm, (by show Q T.heap; rw [eT]; exact hq), N, (by show n0 ≤ T.heap.size; rw [eT]; exact hn)⟩, ⟨_, rfl⟩, hW, hsame.mono hc hs⟩
-- calls
theorem w_static (X : Wk p l e R s m args below meth c Z n0 y code ml ret T cells slots h) {idx : Nat} {y' : MethodName} {bytes : ByteArray} {maxL : Nat} {ret' : Option FieldType} {R' : Room} {w' : Option Value} {Q' : Heap → Prop} {argsL rest : List Value} {W : Nat}
    (hM : Con l Z y' bytes maxL ret' R' argsL.toArray h n0 w' Q') (w1 : (Jvm.Cond.methodLink y.cls idx y').before a0 Z = true) (w2 : (Jvm.Cond.static y').before a0 Z = true) (w3 : (Jvm.Cond.initialized y'.cls).before a0 Z = true) (w4 : (Jvm.Cond.code y' bytes maxL ret').before a0 Z = true)
    (hy : y'.cls ≠ "java/lang/invoke/MethodHandle" ∧ y'.cls ≠ "java/lang/invoke/VarHandle") (hst : S = argsL.reverse ++ rest) (hlen : ∀ sig, parseMethodDescriptor y'.desc = some sig → argsL.length = sig.parameters.length) (hsz : L.size = ml) (hW : (rest.map fun v => v.category).sum = W) (hf : R'.frames + 1 ≤ R.frames) (hl : W + (maxL + 11) + R'.locals ≤ R.locals)
    (hc : cells + R'.cells ≤ R.cells) (hs : slots + R'.slots ≤ R.slots) (hd : decode code pc = .ok (.invokestatic idx, 3)) (hp : pc + 3 = pc')
    (g : ∀ T' h', Wk p l e R s m args below meth c Z n0 y code ml ret T' (cells + R'.cells) (slots + R'.slots) h' → Q' h' → Goes p e below K T' m pc' L (w'.toList ++ rest)) : Goes p e below K T m pc L S := by
  obtain ⟨hx, hZ, hby, hml, hown, hnm, hret, hlk, hn, locs, X, eT, N⟩ := X
  subst hp hW
  obtain ⟨_, _, ⟨T1, L1, k1, n1⟩, -, X1, ⟨Lc, hQ, l1, y1, z1⟩, st⟩ := Jvm.LawKit.callS X hx (y := y') hown (mvT hZ w1) (mvT hZ w2) (mvT hZ w3) (mvT hZ w4) hy (backOf (W := (rest.map fun v => v.category).sum) (hM []) hZ w4 w3 hf hl) (g := mkF m pc L S) rfl (by rw [hml]; exact hsz) (argsL := argsL) (rest := rest) hlen hst (by show 2 * 0 + _ ≤ _; omega) (hb hby hd) (fun _ _ => ⟨rfl, eT, hc, hs⟩)
  dsimp only [Pt.U, Pt.locs, Pt.cells, Pt.slots] at X1 l1 y1 z1 st hQ
  subst l1 y1 z1
  obtain ⟨rfl, hQ', N', hn'⟩ := hQ
  obtain ⟨u1, a1, b1⟩ := g _ _ ⟨hx, hZ, hby, hml, hown, hnm, hret, hlk, hn', _, X1, rfl, N.app N'⟩ hQ'
  exact ⟨u1, st _ a1, b1⟩
theorem w_staticV (X : Wk p l e R s m args below meth c Z n0 y code ml ret T cells slots h) {idx : Nat} {y' : MethodName} {bytes : ByteArray} {maxL : Nat} {ret' : Option FieldType} {R' : Room} {v' : Value} {Q' : Heap → Prop} {argsL rest : List Value} {W : Nat}
    (hM : Con l Z y' bytes maxL ret' R' argsL.toArray h n0 (some v') Q') (w1 : (Jvm.Cond.methodLink y.cls idx y').before a0 Z = true) (w2 : (Jvm.Cond.static y').before a0 Z = true) (w3 : (Jvm.Cond.initialized y'.cls).before a0 Z = true) (w4 : (Jvm.Cond.code y' bytes maxL ret').before a0 Z = true)
    (hy : y'.cls ≠ "java/lang/invoke/MethodHandle" ∧ y'.cls ≠ "java/lang/invoke/VarHandle") (hst : S = argsL.reverse ++ rest) (hlen : ∀ sig, parseMethodDescriptor y'.desc = some sig → argsL.length = sig.parameters.length) (hsz : L.size = ml) (hW : (rest.map fun v => v.category).sum = W) (hf : R'.frames + 1 ≤ R.frames) (hl : W + (maxL + 11) + R'.locals ≤ R.locals)
    (hc : cells + R'.cells ≤ R.cells) (hs : slots + R'.slots ≤ R.slots) (hd : decode code pc = .ok (.invokestatic idx, 3)) (hp : pc + 3 = pc')
    (g : ∀ T' h', Wk p l e R s m args below meth c Z n0 y code ml ret T' (cells + R'.cells) (slots + R'.slots) h' → Q' h' → Goes p e below K T' m pc' L (v' :: rest)) : Goes p e below K T m pc L S := w_static X hM w1 w2 w3 w4 hy hst hlen hsz hW hf hl hc hs hd hp g
theorem w_staticVP (X : Wk p l e R s m args below meth c Z n0 y code ml ret T cells slots h) {idx : Nat} {y' : MethodName} {bytes : ByteArray} {maxL : Nat} {ret' : Option FieldType} {R' : Room} {v' : Value} {argsL rest : List Value} {W : Nat}
    (hM : Con l Z y' bytes maxL ret' R' argsL.toArray h n0 (some v') (fun h' => h' = h)) (w1 : (Jvm.Cond.methodLink y.cls idx y').before a0 Z = true) (w2 : (Jvm.Cond.static y').before a0 Z = true) (w3 : (Jvm.Cond.initialized y'.cls).before a0 Z = true) (w4 : (Jvm.Cond.code y' bytes maxL ret').before a0 Z = true)
    (hy : y'.cls ≠ "java/lang/invoke/MethodHandle" ∧ y'.cls ≠ "java/lang/invoke/VarHandle") (hst : S = argsL.reverse ++ rest) (hlen : ∀ sig, parseMethodDescriptor y'.desc = some sig → argsL.length = sig.parameters.length) (hsz : L.size = ml) (hW : (rest.map fun v => v.category).sum = W) (hf : R'.frames + 1 ≤ R.frames) (hl : W + (maxL + 11) + R'.locals ≤ R.locals)
    (hc : cells + R'.cells ≤ R.cells) (hs : slots + R'.slots ≤ R.slots) (hd : decode code pc = .ok (.invokestatic idx, 3)) (hp : pc + 3 = pc')
    (g : ∀ T', Wk p l e R s m args below meth c Z n0 y code ml ret T' (cells + R'.cells) (slots + R'.slots) h → Goes p e below K T' m pc' L (v' :: rest)) : Goes p e below K T m pc L S := w_staticV X hM w1 w2 w3 w4 hy hst hlen hsz hW hf hl hc hs hd hp (fun T' h' X' q => by subst q; exact g T' X')
theorem w_static0 (X : Wk p l e R s m args below meth c Z n0 y code ml ret T cells slots h) {idx : Nat} {y' : MethodName} {bytes : ByteArray} {maxL : Nat} {ret' : Option FieldType} {R' : Room} {Q' : Heap → Prop} {argsL rest : List Value} {W : Nat}
    (hM : Con l Z y' bytes maxL ret' R' argsL.toArray h n0 none Q') (w1 : (Jvm.Cond.methodLink y.cls idx y').before a0 Z = true) (w2 : (Jvm.Cond.static y').before a0 Z = true) (w3 : (Jvm.Cond.initialized y'.cls).before a0 Z = true) (w4 : (Jvm.Cond.code y' bytes maxL ret').before a0 Z = true)
    (hy : y'.cls ≠ "java/lang/invoke/MethodHandle" ∧ y'.cls ≠ "java/lang/invoke/VarHandle") (hst : S = argsL.reverse ++ rest) (hlen : ∀ sig, parseMethodDescriptor y'.desc = some sig → argsL.length = sig.parameters.length) (hsz : L.size = ml) (hW : (rest.map fun v => v.category).sum = W) (hf : R'.frames + 1 ≤ R.frames) (hl : W + (maxL + 11) + R'.locals ≤ R.locals)
    (hc : cells + R'.cells ≤ R.cells) (hs : slots + R'.slots ≤ R.slots) (hd : decode code pc = .ok (.invokestatic idx, 3)) (hp : pc + 3 = pc')
    (g : ∀ T' h', Wk p l e R s m args below meth c Z n0 y code ml ret T' (cells + R'.cells) (slots + R'.slots) h' → Q' h' → Goes p e below K T' m pc' L rest) : Goes p e below K T m pc L S := w_static X hM w1 w2 w3 w4 hy hst hlen hsz hW hf hl hc hs hd hp g
theorem w_static0P (X : Wk p l e R s m args below meth c Z n0 y code ml ret T cells slots h) {idx : Nat} {y' : MethodName} {bytes : ByteArray} {maxL : Nat} {ret' : Option FieldType} {R' : Room} {argsL rest : List Value} {W : Nat}
    (hM : Con l Z y' bytes maxL ret' R' argsL.toArray h n0 none (fun h' => h' = h)) (w1 : (Jvm.Cond.methodLink y.cls idx y').before a0 Z = true) (w2 : (Jvm.Cond.static y').before a0 Z = true) (w3 : (Jvm.Cond.initialized y'.cls).before a0 Z = true) (w4 : (Jvm.Cond.code y' bytes maxL ret').before a0 Z = true)
    (hy : y'.cls ≠ "java/lang/invoke/MethodHandle" ∧ y'.cls ≠ "java/lang/invoke/VarHandle") (hst : S = argsL.reverse ++ rest) (hlen : ∀ sig, parseMethodDescriptor y'.desc = some sig → argsL.length = sig.parameters.length) (hsz : L.size = ml) (hW : (rest.map fun v => v.category).sum = W) (hf : R'.frames + 1 ≤ R.frames) (hl : W + (maxL + 11) + R'.locals ≤ R.locals)
    (hc : cells + R'.cells ≤ R.cells) (hs : slots + R'.slots ≤ R.slots) (hd : decode code pc = .ok (.invokestatic idx, 3)) (hp : pc + 3 = pc')
    (g : ∀ T', Wk p l e R s m args below meth c Z n0 y code ml ret T' (cells + R'.cells) (slots + R'.slots) h → Goes p e below K T' m pc' L rest) : Goes p e below K T m pc L S := w_static0 X hM w1 w2 w3 w4 hy hst hlen hsz hW hf hl hc hs hd hp (fun T' h' X' q => by subst q; exact g T' X')
theorem w_special (X : Wk p l e R s m args below meth c Z n0 y code ml ret T cells slots h) {idx : Nat} {y' : MethodName} {bytes : ByteArray} {maxL : Nat} {R' : Room} {w' : Option Value} {Q' : Heap → Prop} {a : Addr} {argsL rest : List Value} {W : Nat}
    (hM : Con l Z y' bytes maxL none R' (.ref a :: argsL).toArray h n0 w' Q') (hi : y'.name = "<init>") (w1 : (Jvm.Cond.methodLink y.cls idx y').before a0 Z = true) (w2 : (Jvm.Cond.instanceMethod y').before a0 Z = true) (w3 : (Jvm.Cond.initialized y'.cls).before a0 Z = true) (w4 : (Jvm.Cond.code y' bytes maxL none).before a0 Z = true)
    (hy : y'.cls ≠ "java/lang/invoke/MethodHandle" ∧ y'.cls ≠ "java/lang/invoke/VarHandle") (hst : S = argsL.reverse ++ .ref a :: rest) (hlen : ∀ sig, parseMethodDescriptor y'.desc = some sig → argsL.length = sig.parameters.length) (hsz : L.size = ml) (hW : (rest.map fun v => v.category).sum = W) (hf : R'.frames + 1 ≤ R.frames) (hl : W + (maxL + 11) + R'.locals ≤ R.locals)
    (hc : cells + R'.cells ≤ R.cells) (hs : slots + R'.slots ≤ R.slots) (hd : decode code pc = .ok (.invokespecial idx, 3)) (hp : pc + 3 = pc')
    (g : ∀ T' h', Wk p l e R s m args below meth c Z n0 y code ml ret T' (cells + R'.cells) (slots + R'.slots) h' → Q' h' → Goes p e below K T' m pc' L (w'.toList ++ rest)) : Goes p e below K T m pc L S := by
  obtain ⟨hx, hZ, hby, hml, hown, hnm, hret, hlk, hn, locs, X, eT, N⟩ := X
  subst hp hW
  obtain ⟨_, _, ⟨T1, L1, k1, n1⟩, -, X1, ⟨Lc, hQ, l1, y1, z1⟩, st⟩ := X.specialBack hx (y := y') hi hown (mvT hZ w1) (mvT hZ w2) (mvT hZ w4) hy (backOf (W := (rest.map fun v => v.category).sum) (hM []) hZ w4 w3 hf hl) (g := mkF m pc L S) rfl (by rw [hml]; exact hsz) (Steps.refl _) (a := a) (argsL := argsL) (rest := rest) hlen hst (by show 2 * 0 + _ ≤ _; omega) (hb hby hd) (fun _ _ => ⟨rfl, eT, hc, hs⟩)
  dsimp only [Pt.U, Pt.locs, Pt.cells, Pt.slots] at X1 l1 y1 z1 st hQ
  subst l1 y1 z1
  obtain ⟨rfl, hQ', N', hn'⟩ := hQ
  obtain ⟨u1, a1, b1⟩ := g _ _ ⟨hx, hZ, hby, hml, hown, hnm, hret, hlk, hn', _, X1, rfl, N.app N'⟩ hQ'
  exact ⟨u1, st.trans a1, b1⟩
theorem w_special0 (X : Wk p l e R s m args below meth c Z n0 y code ml ret T cells slots h) {idx : Nat} {y' : MethodName} {bytes : ByteArray} {maxL : Nat} {R' : Room} {Q' : Heap → Prop} {a : Addr} {argsL rest : List Value} {W : Nat}
    (hM : Con l Z y' bytes maxL none R' (.ref a :: argsL).toArray h n0 none Q') (hi : y'.name = "<init>") (w1 : (Jvm.Cond.methodLink y.cls idx y').before a0 Z = true) (w2 : (Jvm.Cond.instanceMethod y').before a0 Z = true) (w3 : (Jvm.Cond.initialized y'.cls).before a0 Z = true) (w4 : (Jvm.Cond.code y' bytes maxL none).before a0 Z = true)
    (hy : y'.cls ≠ "java/lang/invoke/MethodHandle" ∧ y'.cls ≠ "java/lang/invoke/VarHandle") (hst : S = argsL.reverse ++ .ref a :: rest) (hlen : ∀ sig, parseMethodDescriptor y'.desc = some sig → argsL.length = sig.parameters.length) (hsz : L.size = ml) (hW : (rest.map fun v => v.category).sum = W) (hf : R'.frames + 1 ≤ R.frames) (hl : W + (maxL + 11) + R'.locals ≤ R.locals)
    (hc : cells + R'.cells ≤ R.cells) (hs : slots + R'.slots ≤ R.slots) (hd : decode code pc = .ok (.invokespecial idx, 3)) (hp : pc + 3 = pc')
    (g : ∀ T' h', Wk p l e R s m args below meth c Z n0 y code ml ret T' (cells + R'.cells) (slots + R'.slots) h' → Q' h' → Goes p e below K T' m pc' L rest) : Goes p e below K T m pc L S := w_special X hM hi w1 w2 w3 w4 hy hst hlen hsz hW hf hl hc hs hd hp g
theorem w_special0P (X : Wk p l e R s m args below meth c Z n0 y code ml ret T cells slots h) {idx : Nat} {y' : MethodName} {bytes : ByteArray} {maxL : Nat} {R' : Room} {a : Addr} {argsL rest : List Value} {W : Nat}
    (hM : Con l Z y' bytes maxL none R' (.ref a :: argsL).toArray h n0 none (fun h' => h' = h)) (hi : y'.name = "<init>") (w1 : (Jvm.Cond.methodLink y.cls idx y').before a0 Z = true) (w2 : (Jvm.Cond.instanceMethod y').before a0 Z = true) (w3 : (Jvm.Cond.initialized y'.cls).before a0 Z = true) (w4 : (Jvm.Cond.code y' bytes maxL none).before a0 Z = true)
    (hy : y'.cls ≠ "java/lang/invoke/MethodHandle" ∧ y'.cls ≠ "java/lang/invoke/VarHandle") (hst : S = argsL.reverse ++ .ref a :: rest) (hlen : ∀ sig, parseMethodDescriptor y'.desc = some sig → argsL.length = sig.parameters.length) (hsz : L.size = ml) (hW : (rest.map fun v => v.category).sum = W) (hf : R'.frames + 1 ≤ R.frames) (hl : W + (maxL + 11) + R'.locals ≤ R.locals)
    (hc : cells + R'.cells ≤ R.cells) (hs : slots + R'.slots ≤ R.slots) (hd : decode code pc = .ok (.invokespecial idx, 3)) (hp : pc + 3 = pc')
    (g : ∀ T', Wk p l e R s m args below meth c Z n0 y code ml ret T' (cells + R'.cells) (slots + R'.slots) h → Goes p e below K T' m pc' L rest) : Goes p e below K T m pc L S := w_special0 X hM hi w1 w2 w3 w4 hy hst hlen hsz hW hf hl hc hs hd hp (fun T' h' X' q => by subst q; exact g T' X')
theorem w_virtual (X : Wk p l e R s m args below meth c Z n0 y code ml ret T cells slots h) {idx : Nat} {C : String} {y' : MethodName} {bytes : ByteArray} {maxL : Nat} {ret' : Option FieldType} {R' : Room} {w' : Option Value} {Q' : Heap → Prop} {a : Addr} {argsL rest : List Value} {W : Nat}
    (hM : Con l Z y' bytes maxL ret' R' (.ref a :: argsL).toArray h n0 w' Q') (E : Exa Z h a C) (w1 : (Jvm.Cond.methodLink y.cls idx y').before a0 Z = true) (w2 : (Jvm.Cond.declares y').before a0 Z = true) (w5 : (Jvm.Cond.selects C y' y').before a0 Z = true) (w6 : (Jvm.Cond.instanceMethod y').before a0 Z = true) (w3 : (Jvm.Cond.initialized y'.cls).before a0 Z = true) (w4 : (Jvm.Cond.code y' bytes maxL ret').before a0 Z = true)
    (hy : y'.cls ≠ "java/lang/invoke/MethodHandle" ∧ y'.cls ≠ "java/lang/invoke/VarHandle") (hst : S = argsL.reverse ++ .ref a :: rest) (hlen : ∀ sig, parseMethodDescriptor y'.desc = some sig → argsL.length = sig.parameters.length) (hsz : L.size = ml) (hW : (rest.map fun v => v.category).sum = W) (hf : R'.frames + 1 ≤ R.frames) (hl : W + (maxL + 11) + R'.locals ≤ R.locals)
    (hc : cells + R'.cells ≤ R.cells) (hs : slots + R'.slots ≤ R.slots) (hd : decode code pc = .ok (.invokevirtual idx, 3)) (hp : pc + 3 = pc')
    (g : ∀ T' h', Wk p l e R s m args below meth c Z n0 y code ml ret T' (cells + R'.cells) (slots + R'.slots) h' → Q' h' → Goes p e below K T' m pc' L (w'.toList ++ rest)) : Goes p e below K T m pc L S := by
  obtain ⟨hx, hZ, hby, hml, hown, hnm, hret, hlk, hn, locs, X, eT, N⟩ := X
  subst hp hW
  obtain ⟨cq, kq, qa, qb, qc⟩ := isOf hZ eT E
  obtain ⟨_, _, ⟨T1, L1, k1, n1⟩, -, X1, ⟨Lc, hQ, l1, y1, z1⟩, st⟩ := X.virtualBack hx (y := y') (z := y') hown (mvT hZ w1) (mvT hZ w2) (notFace_of_selects (args := #[]) (mvT hZ w5)) (mvT hZ w5) (mvT hZ w6) hy (backOf (W := (rest.map fun v => v.category).sum) (hM []) hZ w4 w3 hf hl) qa qc (g := mkF m pc L S) rfl (by rw [hml]; exact hsz) (Steps.refl _) (argsL := argsL) (rest := rest) hlen hst (by show 2 * 0 + _ ≤ _; omega) (hb hby hd) (fun _ _ => ⟨rfl, eT, hc, hs⟩)
  dsimp only [Pt.U, Pt.locs, Pt.cells, Pt.slots] at X1 l1 y1 z1 st hQ
  subst l1 y1 z1
  obtain ⟨rfl, hQ', N', hn'⟩ := hQ
  obtain ⟨u1, a1, b1⟩ := g _ _ ⟨hx, hZ, hby, hml, hown, hnm, hret, hlk, hn', _, X1, rfl, N.app N'⟩ hQ'
  exact ⟨u1, st.trans a1, b1⟩
theorem w_virtualV (X : Wk p l e R s m args below meth c Z n0 y code ml ret T cells slots h) {idx : Nat} {C : String} {y' : MethodName} {bytes : ByteArray} {maxL : Nat} {ret' : Option FieldType} {R' : Room} {v' : Value} {Q' : Heap → Prop} {a : Addr} {argsL rest : List Value} {W : Nat}
    (hM : Con l Z y' bytes maxL ret' R' (.ref a :: argsL).toArray h n0 (some v') Q') (E : Exa Z h a C) (w1 : (Jvm.Cond.methodLink y.cls idx y').before a0 Z = true) (w2 : (Jvm.Cond.declares y').before a0 Z = true) (w5 : (Jvm.Cond.selects C y' y').before a0 Z = true) (w6 : (Jvm.Cond.instanceMethod y').before a0 Z = true) (w3 : (Jvm.Cond.initialized y'.cls).before a0 Z = true) (w4 : (Jvm.Cond.code y' bytes maxL ret').before a0 Z = true)
    (hy : y'.cls ≠ "java/lang/invoke/MethodHandle" ∧ y'.cls ≠ "java/lang/invoke/VarHandle") (hst : S = argsL.reverse ++ .ref a :: rest) (hlen : ∀ sig, parseMethodDescriptor y'.desc = some sig → argsL.length = sig.parameters.length) (hsz : L.size = ml) (hW : (rest.map fun v => v.category).sum = W) (hf : R'.frames + 1 ≤ R.frames) (hl : W + (maxL + 11) + R'.locals ≤ R.locals)
    (hc : cells + R'.cells ≤ R.cells) (hs : slots + R'.slots ≤ R.slots) (hd : decode code pc = .ok (.invokevirtual idx, 3)) (hp : pc + 3 = pc')
    (g : ∀ T' h', Wk p l e R s m args below meth c Z n0 y code ml ret T' (cells + R'.cells) (slots + R'.slots) h' → Q' h' → Goes p e below K T' m pc' L (v' :: rest)) : Goes p e below K T m pc L S := w_virtual X hM E w1 w2 w5 w6 w3 w4 hy hst hlen hsz hW hf hl hc hs hd hp g
theorem w_virtualVP (X : Wk p l e R s m args below meth c Z n0 y code ml ret T cells slots h) {idx : Nat} {C : String} {y' : MethodName} {bytes : ByteArray} {maxL : Nat} {ret' : Option FieldType} {R' : Room} {v' : Value} {a : Addr} {argsL rest : List Value} {W : Nat}
    (hM : Con l Z y' bytes maxL ret' R' (.ref a :: argsL).toArray h n0 (some v') (fun h' => h' = h)) (E : Exa Z h a C) (w1 : (Jvm.Cond.methodLink y.cls idx y').before a0 Z = true) (w2 : (Jvm.Cond.declares y').before a0 Z = true) (w5 : (Jvm.Cond.selects C y' y').before a0 Z = true) (w6 : (Jvm.Cond.instanceMethod y').before a0 Z = true) (w3 : (Jvm.Cond.initialized y'.cls).before a0 Z = true) (w4 : (Jvm.Cond.code y' bytes maxL ret').before a0 Z = true)
    (hy : y'.cls ≠ "java/lang/invoke/MethodHandle" ∧ y'.cls ≠ "java/lang/invoke/VarHandle") (hst : S = argsL.reverse ++ .ref a :: rest) (hlen : ∀ sig, parseMethodDescriptor y'.desc = some sig → argsL.length = sig.parameters.length) (hsz : L.size = ml) (hW : (rest.map fun v => v.category).sum = W) (hf : R'.frames + 1 ≤ R.frames) (hl : W + (maxL + 11) + R'.locals ≤ R.locals)
    (hc : cells + R'.cells ≤ R.cells) (hs : slots + R'.slots ≤ R.slots) (hd : decode code pc = .ok (.invokevirtual idx, 3)) (hp : pc + 3 = pc')
    (g : ∀ T', Wk p l e R s m args below meth c Z n0 y code ml ret T' (cells + R'.cells) (slots + R'.slots) h → Goes p e below K T' m pc' L (v' :: rest)) : Goes p e below K T m pc L S := w_virtualV X hM E w1 w2 w5 w6 w3 w4 hy hst hlen hsz hW hf hl hc hs hd hp (fun T' h' X' q => by subst q; exact g T' X')
theorem w_virtual0 (X : Wk p l e R s m args below meth c Z n0 y code ml ret T cells slots h) {idx : Nat} {C : String} {y' : MethodName} {bytes : ByteArray} {maxL : Nat} {ret' : Option FieldType} {R' : Room} {Q' : Heap → Prop} {a : Addr} {argsL rest : List Value} {W : Nat}
    (hM : Con l Z y' bytes maxL ret' R' (.ref a :: argsL).toArray h n0 none Q') (E : Exa Z h a C) (w1 : (Jvm.Cond.methodLink y.cls idx y').before a0 Z = true) (w2 : (Jvm.Cond.declares y').before a0 Z = true) (w5 : (Jvm.Cond.selects C y' y').before a0 Z = true) (w6 : (Jvm.Cond.instanceMethod y').before a0 Z = true) (w3 : (Jvm.Cond.initialized y'.cls).before a0 Z = true) (w4 : (Jvm.Cond.code y' bytes maxL ret').before a0 Z = true)
    (hy : y'.cls ≠ "java/lang/invoke/MethodHandle" ∧ y'.cls ≠ "java/lang/invoke/VarHandle") (hst : S = argsL.reverse ++ .ref a :: rest) (hlen : ∀ sig, parseMethodDescriptor y'.desc = some sig → argsL.length = sig.parameters.length) (hsz : L.size = ml) (hW : (rest.map fun v => v.category).sum = W) (hf : R'.frames + 1 ≤ R.frames) (hl : W + (maxL + 11) + R'.locals ≤ R.locals)
    (hc : cells + R'.cells ≤ R.cells) (hs : slots + R'.slots ≤ R.slots) (hd : decode code pc = .ok (.invokevirtual idx, 3)) (hp : pc + 3 = pc')
    (g : ∀ T' h', Wk p l e R s m args below meth c Z n0 y code ml ret T' (cells + R'.cells) (slots + R'.slots) h' → Q' h' → Goes p e below K T' m pc' L rest) : Goes p e below K T m pc L S := w_virtual X hM E w1 w2 w5 w6 w3 w4 hy hst hlen hsz hW hf hl hc hs hd hp g
theorem w_virtual0P (X : Wk p l e R s m args below meth c Z n0 y code ml ret T cells slots h) {idx : Nat} {C : String} {y' : MethodName} {bytes : ByteArray} {maxL : Nat} {ret' : Option FieldType} {R' : Room} {a : Addr} {argsL rest : List Value} {W : Nat}
    (hM : Con l Z y' bytes maxL ret' R' (.ref a :: argsL).toArray h n0 none (fun h' => h' = h)) (E : Exa Z h a C) (w1 : (Jvm.Cond.methodLink y.cls idx y').before a0 Z = true) (w2 : (Jvm.Cond.declares y').before a0 Z = true) (w5 : (Jvm.Cond.selects C y' y').before a0 Z = true) (w6 : (Jvm.Cond.instanceMethod y').before a0 Z = true) (w3 : (Jvm.Cond.initialized y'.cls).before a0 Z = true) (w4 : (Jvm.Cond.code y' bytes maxL ret').before a0 Z = true)
    (hy : y'.cls ≠ "java/lang/invoke/MethodHandle" ∧ y'.cls ≠ "java/lang/invoke/VarHandle") (hst : S = argsL.reverse ++ .ref a :: rest) (hlen : ∀ sig, parseMethodDescriptor y'.desc = some sig → argsL.length = sig.parameters.length) (hsz : L.size = ml) (hW : (rest.map fun v => v.category).sum = W) (hf : R'.frames + 1 ≤ R.frames) (hl : W + (maxL + 11) + R'.locals ≤ R.locals)
    (hc : cells + R'.cells ≤ R.cells) (hs : slots + R'.slots ≤ R.slots) (hd : decode code pc = .ok (.invokevirtual idx, 3)) (hp : pc + 3 = pc')
    (g : ∀ T', Wk p l e R s m args below meth c Z n0 y code ml ret T' (cells + R'.cells) (slots + R'.slots) h → Goes p e below K T' m pc' L rest) : Goes p e below K T m pc L S := w_virtual0 X hM E w1 w2 w5 w6 w3 w4 hy hst hlen hsz hW hf hl hc hs hd hp (fun T' h' X' q => by subst q; exact g T' X')
theorem w_private (X : Wk p l e R s m args below meth c Z n0 y code ml ret T cells slots h) {idx : Nat} {C : String} {y' : MethodName} {bytes : ByteArray} {maxL : Nat} {ret' : Option FieldType} {R' : Room} {w' : Option Value} {Q' : Heap → Prop} {a : Addr} {argsL rest : List Value} {W : Nat}
    (hM : Con l Z y' bytes maxL ret' R' (.ref a :: argsL).toArray h n0 w' Q') (E : Exa Z h a C) (w1 : (Jvm.Cond.methodLink y.cls idx y').before a0 Z = true) (w6 : (Jvm.Cond.instanceMethod y').before a0 Z = true) (w5 : (Jvm.Cond.selects y'.cls y' y').before a0 Z = true) (w7 : (Jvm.Cond.privateMethod y').before a0 Z = true) (w3 : (Jvm.Cond.initialized y'.cls).before a0 Z = true) (w4 : (Jvm.Cond.code y' bytes maxL ret').before a0 Z = true)
    (hy : y'.cls ≠ "java/lang/invoke/MethodHandle" ∧ y'.cls ≠ "java/lang/invoke/VarHandle") (hst : S = argsL.reverse ++ .ref a :: rest) (hlen : ∀ sig, parseMethodDescriptor y'.desc = some sig → argsL.length = sig.parameters.length) (hsz : L.size = ml) (hW : (rest.map fun v => v.category).sum = W) (hf : R'.frames + 1 ≤ R.frames) (hl : W + (maxL + 11) + R'.locals ≤ R.locals)
    (hc : cells + R'.cells ≤ R.cells) (hs : slots + R'.slots ≤ R.slots) (hd : decode code pc = .ok (.invokevirtual idx, 3)) (hp : pc + 3 = pc')
    (g : ∀ T' h', Wk p l e R s m args below meth c Z n0 y code ml ret T' (cells + R'.cells) (slots + R'.slots) h' → Q' h' → Goes p e below K T' m pc' L (w'.toList ++ rest)) : Goes p e below K T m pc L S := by
  obtain ⟨hx, hZ, hby, hml, hown, hnm, hret, hlk, hn, locs, X, eT, N⟩ := X
  subst hp hW
  obtain ⟨cq, q, q'⟩ := E.cell
  obtain ⟨_, _, ⟨T1, L1, k1, n1⟩, -, X1, ⟨Lc, hQ, l1, y1, z1⟩, st⟩ := X.privateBack hx (y := y') hown (mvT hZ w1) (mvT hZ w6) (mvT hZ w5) (Cond.privateMethod_at (mvP hZ w7 (args := #[]))) (mvT hZ w4) hy (backOf (W := (rest.map fun v => v.category).sum) (hM []) hZ w4 w3 hf hl) (g := mkF m pc L S) rfl (by rw [hml]; exact hsz) (Steps.refl _) (a := a) (by rw [eT]; exact q) q' (argsL := argsL) (rest := rest) hlen hst (by show 2 * 0 + _ ≤ _; omega) (hb hby hd) (fun _ _ => ⟨rfl, eT, hc, hs⟩)
  dsimp only [Pt.U, Pt.locs, Pt.cells, Pt.slots] at X1 l1 y1 z1 st hQ
  subst l1 y1 z1
  obtain ⟨rfl, hQ', N', hn'⟩ := hQ
  obtain ⟨u1, a1, b1⟩ := g _ _ ⟨hx, hZ, hby, hml, hown, hnm, hret, hlk, hn', _, X1, rfl, N.app N'⟩ hQ'
  exact ⟨u1, st.trans a1, b1⟩
theorem w_privateV (X : Wk p l e R s m args below meth c Z n0 y code ml ret T cells slots h) {idx : Nat} {C : String} {y' : MethodName} {bytes : ByteArray} {maxL : Nat} {ret' : Option FieldType} {R' : Room} {v' : Value} {Q' : Heap → Prop} {a : Addr} {argsL rest : List Value} {W : Nat}
    (hM : Con l Z y' bytes maxL ret' R' (.ref a :: argsL).toArray h n0 (some v') Q') (E : Exa Z h a C) (w1 : (Jvm.Cond.methodLink y.cls idx y').before a0 Z = true) (w6 : (Jvm.Cond.instanceMethod y').before a0 Z = true) (w5 : (Jvm.Cond.selects y'.cls y' y').before a0 Z = true) (w7 : (Jvm.Cond.privateMethod y').before a0 Z = true) (w3 : (Jvm.Cond.initialized y'.cls).before a0 Z = true) (w4 : (Jvm.Cond.code y' bytes maxL ret').before a0 Z = true)
    (hy : y'.cls ≠ "java/lang/invoke/MethodHandle" ∧ y'.cls ≠ "java/lang/invoke/VarHandle") (hst : S = argsL.reverse ++ .ref a :: rest) (hlen : ∀ sig, parseMethodDescriptor y'.desc = some sig → argsL.length = sig.parameters.length) (hsz : L.size = ml) (hW : (rest.map fun v => v.category).sum = W) (hf : R'.frames + 1 ≤ R.frames) (hl : W + (maxL + 11) + R'.locals ≤ R.locals)
    (hc : cells + R'.cells ≤ R.cells) (hs : slots + R'.slots ≤ R.slots) (hd : decode code pc = .ok (.invokevirtual idx, 3)) (hp : pc + 3 = pc')
    (g : ∀ T' h', Wk p l e R s m args below meth c Z n0 y code ml ret T' (cells + R'.cells) (slots + R'.slots) h' → Q' h' → Goes p e below K T' m pc' L (v' :: rest)) : Goes p e below K T m pc L S := w_private X hM E w1 w6 w5 w7 w3 w4 hy hst hlen hsz hW hf hl hc hs hd hp g
theorem w_privateVP (X : Wk p l e R s m args below meth c Z n0 y code ml ret T cells slots h) {idx : Nat} {C : String} {y' : MethodName} {bytes : ByteArray} {maxL : Nat} {ret' : Option FieldType} {R' : Room} {v' : Value} {a : Addr} {argsL rest : List Value} {W : Nat}
    (hM : Con l Z y' bytes maxL ret' R' (.ref a :: argsL).toArray h n0 (some v') (fun h' => h' = h)) (E : Exa Z h a C) (w1 : (Jvm.Cond.methodLink y.cls idx y').before a0 Z = true) (w6 : (Jvm.Cond.instanceMethod y').before a0 Z = true) (w5 : (Jvm.Cond.selects y'.cls y' y').before a0 Z = true) (w7 : (Jvm.Cond.privateMethod y').before a0 Z = true) (w3 : (Jvm.Cond.initialized y'.cls).before a0 Z = true) (w4 : (Jvm.Cond.code y' bytes maxL ret').before a0 Z = true)
    (hy : y'.cls ≠ "java/lang/invoke/MethodHandle" ∧ y'.cls ≠ "java/lang/invoke/VarHandle") (hst : S = argsL.reverse ++ .ref a :: rest) (hlen : ∀ sig, parseMethodDescriptor y'.desc = some sig → argsL.length = sig.parameters.length) (hsz : L.size = ml) (hW : (rest.map fun v => v.category).sum = W) (hf : R'.frames + 1 ≤ R.frames) (hl : W + (maxL + 11) + R'.locals ≤ R.locals)
    (hc : cells + R'.cells ≤ R.cells) (hs : slots + R'.slots ≤ R.slots) (hd : decode code pc = .ok (.invokevirtual idx, 3)) (hp : pc + 3 = pc')
    (g : ∀ T', Wk p l e R s m args below meth c Z n0 y code ml ret T' (cells + R'.cells) (slots + R'.slots) h → Goes p e below K T' m pc' L (v' :: rest)) : Goes p e below K T m pc L S := w_privateV X hM E w1 w6 w5 w7 w3 w4 hy hst hlen hsz hW hf hl hc hs hd hp (fun T' h' X' q => by subst q; exact g T' X')
theorem w_private0 (X : Wk p l e R s m args below meth c Z n0 y code ml ret T cells slots h) {idx : Nat} {C : String} {y' : MethodName} {bytes : ByteArray} {maxL : Nat} {ret' : Option FieldType} {R' : Room} {Q' : Heap → Prop} {a : Addr} {argsL rest : List Value} {W : Nat}
    (hM : Con l Z y' bytes maxL ret' R' (.ref a :: argsL).toArray h n0 none Q') (E : Exa Z h a C) (w1 : (Jvm.Cond.methodLink y.cls idx y').before a0 Z = true) (w6 : (Jvm.Cond.instanceMethod y').before a0 Z = true) (w5 : (Jvm.Cond.selects y'.cls y' y').before a0 Z = true) (w7 : (Jvm.Cond.privateMethod y').before a0 Z = true) (w3 : (Jvm.Cond.initialized y'.cls).before a0 Z = true) (w4 : (Jvm.Cond.code y' bytes maxL ret').before a0 Z = true)
    (hy : y'.cls ≠ "java/lang/invoke/MethodHandle" ∧ y'.cls ≠ "java/lang/invoke/VarHandle") (hst : S = argsL.reverse ++ .ref a :: rest) (hlen : ∀ sig, parseMethodDescriptor y'.desc = some sig → argsL.length = sig.parameters.length) (hsz : L.size = ml) (hW : (rest.map fun v => v.category).sum = W) (hf : R'.frames + 1 ≤ R.frames) (hl : W + (maxL + 11) + R'.locals ≤ R.locals)
    (hc : cells + R'.cells ≤ R.cells) (hs : slots + R'.slots ≤ R.slots) (hd : decode code pc = .ok (.invokevirtual idx, 3)) (hp : pc + 3 = pc')
    (g : ∀ T' h', Wk p l e R s m args below meth c Z n0 y code ml ret T' (cells + R'.cells) (slots + R'.slots) h' → Q' h' → Goes p e below K T' m pc' L rest) : Goes p e below K T m pc L S := w_private X hM E w1 w6 w5 w7 w3 w4 hy hst hlen hsz hW hf hl hc hs hd hp g
theorem w_private0P (X : Wk p l e R s m args below meth c Z n0 y code ml ret T cells slots h) {idx : Nat} {C : String} {y' : MethodName} {bytes : ByteArray} {maxL : Nat} {ret' : Option FieldType} {R' : Room} {a : Addr} {argsL rest : List Value} {W : Nat}
    (hM : Con l Z y' bytes maxL ret' R' (.ref a :: argsL).toArray h n0 none (fun h' => h' = h)) (E : Exa Z h a C) (w1 : (Jvm.Cond.methodLink y.cls idx y').before a0 Z = true) (w6 : (Jvm.Cond.instanceMethod y').before a0 Z = true) (w5 : (Jvm.Cond.selects y'.cls y' y').before a0 Z = true) (w7 : (Jvm.Cond.privateMethod y').before a0 Z = true) (w3 : (Jvm.Cond.initialized y'.cls).before a0 Z = true) (w4 : (Jvm.Cond.code y' bytes maxL ret').before a0 Z = true)
    (hy : y'.cls ≠ "java/lang/invoke/MethodHandle" ∧ y'.cls ≠ "java/lang/invoke/VarHandle") (hst : S = argsL.reverse ++ .ref a :: rest) (hlen : ∀ sig, parseMethodDescriptor y'.desc = some sig → argsL.length = sig.parameters.length) (hsz : L.size = ml) (hW : (rest.map fun v => v.category).sum = W) (hf : R'.frames + 1 ≤ R.frames) (hl : W + (maxL + 11) + R'.locals ≤ R.locals)
    (hc : cells + R'.cells ≤ R.cells) (hs : slots + R'.slots ≤ R.slots) (hd : decode code pc = .ok (.invokevirtual idx, 3)) (hp : pc + 3 = pc')
    (g : ∀ T', Wk p l e R s m args below meth c Z n0 y code ml ret T' (cells + R'.cells) (slots + R'.slots) h → Goes p e below K T' m pc' L rest) : Goes p e below K T m pc L S := w_private0 X hM E w1 w6 w5 w7 w3 w4 hy hst hlen hsz hW hf hl hc hs hd hp (fun T' h' X' q => by subst q; exact g T' X')
theorem w_initO (X : Wk p l e R s m args below meth c Z n0 y code ml ret T cells slots h) {idx : Nat} {a : Addr} {W : Nat} (w1 : (Jvm.Cond.methodLink y.cls idx Lib.objectInit).before a0 Z = true) (w2 : (Jvm.Cond.instanceMethod Lib.objectInit).before a0 Z = true) (w3 : (Jvm.Cond.code Lib.objectInit ⟨#[0xb1]⟩ 1 none).before a0 Z = true)
    (hsz : L.size = ml) (hW : (S.map fun v => v.category).sum = W) (hf : 1 ≤ R.frames) (hl : W + 12 ≤ R.locals) (hd : decode code pc = .ok (.invokespecial idx, 3)) (hp : pc + 3 = pc')
    (g : ∀ T', Wk p l e R s m args below meth c Z n0 y code ml ret T' cells slots h → Goes p e below K T' m pc' L S) : Goes p e below K T m pc L (.ref a :: S) := by
  obtain ⟨hx, hZ, hby, hml, hown, hnm, hret, hlk, hn, locs, X, eT, N⟩ := X
  subst hp hW
  obtain ⟨T1, X1, e1, st⟩ := initO X hx hZ hown w1 w2 w3 eT (g := mkF m pc L (.ref a :: S)) rfl (by rw [hml]; exact hsz) rfl (hb hby hd) hf (W := (S.map fun v => v.category).sum) (by show 2 * 0 + _ ≤ _; omega) hl
  obtain ⟨u1, a1, b1⟩ := g _ ⟨hx, hZ, hby, hml, hown, hnm, hret, hlk, hn, _, X1, e1, N⟩
  exact ⟨u1, st _ a1, b1⟩
-- fields and objects
theorem w_getF (X : Wk p l e R s m args below meth c Z n0 y code ml ret T cells slots h) {R0 O n d host : String} {idx : Nat} {a : Addr} {v : Value} (w : (Jvm.Cond.fieldLink y.cls idx R0 n d).before a0 Z = true ∨ (Jvm.Cond.fieldLinkNest y.cls idx R0 n d host).before a0 Z = true) (via : Via Z R0 O n d)
    (F : Fld Z h a O n d v) (hd : decode code pc = .ok (.getfield idx, 3)) (hp : pc + 3 = pc') (g : ∀ T', Wk p l e R s m args below meth c Z n0 y code ml ret T' cells slots h → Goes p e below K T' m pc' L (v :: S)) : Goes p e below K T m pc L (.ref a :: S) := by
  obtain ⟨hx, hZ, hby, hml, hown, hnm, hret, hlk, hn, locs, X, eT, N⟩ := X
  subst hp
  obtain ⟨T1, X1, e1, st⟩ := getF X hx hZ hown w via eT F (g := mkF m pc L (.ref a :: S)) rfl rfl (hb hby hd)
  obtain ⟨u1, a1, b1⟩ := g _ ⟨hx, hZ, hby, hml, hown, hnm, hret, hlk, hn, _, X1, e1, N⟩
  exact ⟨u1, st _ a1, b1⟩
theorem w_putF (X : Wk p l e R s m args below meth c Z n0 y code ml ret T cells slots h) {R0 O n d host C : String} {idx kk : Nat} {ty : FieldType} {a : Addr} {v old : Value} (w : (Jvm.Cond.fieldLink y.cls idx R0 n d).before a0 Z = true ∨ (Jvm.Cond.fieldLinkNest y.cls idx R0 n d host).before a0 Z = true) (via : Via Z R0 O n d)
    (F : Fld Z h a O n d old) (E : Exa Z h a C) (Lw : (Jvm.Cond.lays C O n d).before a0 Z = true ∨ ((Jvm.Cond.laysFinal C O n d).before a0 Z = true ∧ y.cls = O ∧ y.name = "<init>")) (wi : (Jvm.Cond.instantiable C kk).before a0 Z = true) (hty : parseFieldDescriptor d = some ty) (hnv : narrow ty v = v) (hfv : fits ty v = true) (ha : n0 ≤ a)
    (hd : decode code pc = .ok (.putfield idx, 3)) (hp : pc + 3 = pc') (g : ∀ T' h', Wk p l e R s m args below meth c Z n0 y code ml ret T' cells slots h' → Wr h h' a (Jvm.RoadKit.slotOf Z O n d) v → Goes p e below K T' m pc' L S) : Goes p e below K T m pc L (v :: .ref a :: S) := by
  obtain ⟨hx, hZ, hby, hml, hown, hnm, hret, hlk, hn, locs, X, eT, N⟩ := X
  subst hp
  obtain ⟨T1, h1, X1, e1, W1, st⟩ := putF X hx hZ hown w via eT F E (Lw.imp id fun q => ⟨q.1, q.2.1, hnm.trans q.2.2⟩) wi hty hnv hfv (g := mkF m pc L (v :: .ref a :: S)) rfl rfl (hb hby hd)
  obtain ⟨u1, a1, b1⟩ := g _ _ ⟨hx, hZ, hby, hml, hown, hnm, hret, hlk, W1.size.symm ▸ hn, _, X1, e1, Fr.snoc X1 N ha⟩ W1
  exact ⟨u1, st _ a1, b1⟩
theorem w_putFN (X : Wk p l e R s m args below meth c Z n0 y code ml ret T cells slots h) {R0 O n d C : String} {idx kk : Nat} {ty : FieldType} {a : Addr} {v v' old : Value} (w : (Jvm.Cond.fieldLink y.cls idx R0 n d).before a0 Z = true) (via : Via Z R0 O n d)
    (F : Fld Z h a O n d old) (E : Exa Z h a C) (Lw : (Jvm.Cond.lays C O n d).before a0 Z = true ∨ ((Jvm.Cond.laysFinal C O n d).before a0 Z = true ∧ y.cls = O ∧ y.name = "<init>")) (wi : (Jvm.Cond.instantiable C kk).before a0 Z = true) (hty : parseFieldDescriptor d = some ty) (hnv : narrow ty v = v') (hfv : fits ty v' = true) (ha : n0 ≤ a)
    (hd : decode code pc = .ok (.putfield idx, 3)) (hp : pc + 3 = pc') (g : ∀ T' h', Wk p l e R s m args below meth c Z n0 y code ml ret T' cells slots h' → Wr h h' a (Jvm.RoadKit.slotOf Z O n d) v' → Goes p e below K T' m pc' L S) : Goes p e below K T m pc L (v :: .ref a :: S) := by
  obtain ⟨hx, hZ, hby, hml, hown, hnm, hret, hlk, hn, locs, X, eT, N⟩ := X
  subst hp
  obtain ⟨T1, h1, X1, e1, W1, st⟩ := putFN X hx hZ hown w via eT F E (Lw.imp id fun q => ⟨q.1, q.2.1, hnm.trans q.2.2⟩) wi hty hnv hfv (g := mkF m pc L (v :: .ref a :: S)) rfl rfl (hb hby hd)
  obtain ⟨u1, a1, b1⟩ := g _ _ ⟨hx, hZ, hby, hml, hown, hnm, hret, hlk, W1.size.symm ▸ hn, _, X1, e1, Fr.snoc X1 N ha⟩ W1
  exact ⟨u1, st _ a1, b1⟩
theorem w_new (X : Wk p l e R s m args below meth c Z n0 y code ml ret T cells slots h) {C : String} {idx n : Nat} (w : (Jvm.Cond.classLink y.cls idx C).before a0 Z = true) (wi : (Jvm.Cond.instantiable C n).before a0 Z = true) (wz : (Jvm.Cond.initialized C).before a0 Z = true) (hc : cells + 1 ≤ R.cells) (hl : slots + n ≤ R.slots) (hd : decode code pc = .ok (.new idx, 3)) (hp : pc + 3 = pc')
    (g : ∀ T' h' a, Wk p l e R s m args below meth c Z n0 y code ml ret T' (cells + 1) (slots + n) h' → a = h.size → n0 ≤ a → Ext h h' → Exa Z h' a C → (∀ {O nm d : String} {ty : FieldType}, Laid Z a0 C O nm d → parseFieldDescriptor d = some ty → Fld Z h' a O nm d (defaultValue ty)) → Goes p e below K T' m pc' L (.ref a :: S)) : Goes p e below K T m pc L S := by
  obtain ⟨hx, hZ, hby, hml, hown, hnm, hret, hlk, hn, locs, X, eT, N⟩ := X
  subst hp
  obtain ⟨T1, h1, X1, e1, E1, A1, D1, -, st⟩ := newO X hx hZ hown w wi wz eT (g := mkF m pc L S) rfl (hb hby hd) hc hl
  obtain ⟨u1, a1, b1⟩ := g _ _ _ ⟨hx, hZ, hby, hml, hown, hnm, hret, hlk, Nat.le_trans hn E1.1, _, X1, e1, N⟩ rfl hn E1 A1 D1
  exact ⟨u1, st _ a1, b1⟩
-- arrays
/-- the array at a holds vs -/
def AV (Z : State) (h : Heap) (a : Addr) (ty : FieldType) (vs : List Value) : Prop := ∃ c : Cell, Arr Z h a c ty ∧ c.slots.toList = vs ∧ vs.length < 2 ^ 31
theorem AV.lt {a : Addr} {ty : FieldType} {vs : List Value} (A : AV Z h a ty vs) : a < h.size := by obtain ⟨c, A, -⟩ := A; exact A.lt
theorem AV.ext {a : Addr} {ty : FieldType} {vs : List Value} {h' : Heap} (A : AV Z h a ty vs) (E : Ext h h') : AV Z h' a ty vs := by obtain ⟨c, A, r⟩ := A; exact ⟨c, A.ext E, r⟩
theorem AV.other {a b : Addr} {ty : FieldType} {vs : List Value} {h' : Heap} {sl : Nat} {v : Value} (A : AV Z h b ty vs) (W : Wr h h' a sl v) (q : b ≠ a) : AV Z h' b ty vs := by obtain ⟨c, A, r⟩ := A; exact ⟨c, A.other W q, r⟩
theorem AV.keep {a : Addr} {ty : FieldType} {vs : List Value} {h' : Heap} {ws : List Addr} (A : AV Z h a ty vs) (Kp : Keep h h' ws) (q : a ∉ ws) : AV Z h' a ty vs := by obtain ⟨c, A, r⟩ := A; exact ⟨c, ⟨Kp.2.1 _ _ A.1 q, A.2⟩, r⟩
theorem AV.set {a : Addr} {ty : FieldType} {vs : List Value} {h' : Heap} {i : Nat} {v : Value} (A : AV Z h a ty vs) (W : Wr h h' a i v) : AV Z h' a ty (vs.set i v) := by
  obtain ⟨c, A, r1, r2⟩ := A
  refine ⟨_, A.same W, ?_, by simpa using r2⟩
  subst r1
  simp [Cell.setSlot]
theorem AV.ne_exa {a b : Addr} {ty : FieldType} {vs : List Value} {C : String} {k : Nat} (A : AV Z h a ty vs) (E : Exa Z h b C) (wi : (Jvm.Cond.instantiable C k).before a0 Z = true) : b ≠ a := by obtain ⟨c, A, -⟩ := A; exact ne_arr E wi A
theorem AV.len {a : Addr} {ty : FieldType} {vs : List Value} (A : AV Z h a ty vs) : vs.length < 2 ^ 31 := by obtain ⟨c, -, -, r⟩ := A; exact r
theorem av_in {c : Cell} {vs : List Value} (r : c.slots.toList = vs) {j : Int32} {i : Nat} (h0 : ¬ j < 0) (hi : j.toNatClampNeg = i) (hlt : i < vs.length) : ¬ (j < 0 ∨ c.slots.size ≤ j.toNatClampNeg) := by
  subst r hi
  rintro (q | q)
  · exact h0 q
  · simp at hlt; omega
theorem av_at {c : Cell} {vs : List Value} (r : c.slots.toList = vs) {i : Nat} {v : Value} (hv : vs[i]? = some v) : c.slots[i]? = some v := by
  subst r
  simpa using hv
theorem w_newP (X : Wk p l e R s m args below meth c Z n0 y code ml ret T cells slots h) {aty : ArrayType} {n : Int32} {k : Nat} (w : (Jvm.Cond.arrayClass (newarray.typeOf aty)).before a0 Z = true) (hn : ¬ n < 0) (hk : n.toNatClampNeg = k) {cap : Nat} (hcap : k ≤ cap) (hb0 : cap * 8 ≤ 536870912) (hc : cells + 1 ≤ R.cells) (hl : slots + cap ≤ R.slots) (hd : decode code pc = .ok (.newarray aty, 2)) (hp : pc + 2 = pc')
    (g : ∀ T' h' a, Wk p l e R s m args below meth c Z n0 y code ml ret T' (cells + 1) (slots + cap) h' → a = h.size → n0 ≤ a → Ext h h' → AV Z h' a (newarray.typeOf aty) (List.replicate k (defaultValue (newarray.typeOf aty))) → Goes p e below K T' m pc' L (.ref a :: S)) : Goes p e below K T m pc L (.int n :: S) := by
  obtain ⟨hx, hZ, hby, hml, hown, hnm, hret, hlk, hn', locs, X, eT, N⟩ := X
  subst hp hk
  obtain ⟨T1, h1, cA, X1, e1, E1, A1, st⟩ := newP X hx hZ w eT (g := mkF m pc L (.int n :: S)) rfl (hb hby hd) rfl hn hcap hb0 hc hl
  obtain ⟨u1, a1, b1⟩ := g _ _ _ ⟨hx, hZ, hby, hml, hown, hnm, hret, hlk, Nat.le_trans hn' E1.1, _, X1, e1, N⟩ rfl hn' E1 ⟨_, A1, (by simp [newA]), (by simp only [List.length_replicate]; exact (back32 hn).2)⟩
  exact ⟨u1, st _ a1, b1⟩
theorem w_iaload (X : Wk p l e R s m args below meth c Z n0 y code ml ret T cells slots h) {a : Addr} {vs : List Value} {j : Int32} {i : Nat} {v : Value} (A : AV Z h a .int vs) (h0 : ¬ j < 0) (hi : j.toNatClampNeg = i) (hv : vs[i]? = some v) (hd : decode code pc = .ok (.iaload, 1)) (hp : pc + 1 = pc') (g : Goes p e below K T m pc' L (v :: S)) : Goes p e below K T m pc L (.int j :: .ref a :: S) := by
  obtain ⟨hx, hZ, hby, hml, hown, hnm, hret, hlk, hn, locs, X, eT, N⟩ := X
  obtain ⟨cl, A, r, -⟩ := A
  subst hp
  obtain ⟨u1, a1, b1⟩ := g
  exact ⟨u1, X.iaload hx (by rw [eT]; exact A.1) (State.isArrayOf_alike hZ.alike A.2.1) A.2.2 (av_in r h0 hi (List.getElem?_eq_some_iff.mp hv).1) (by rw [hi]; exact av_at r hv) (g := mkF m pc L (.int j :: .ref a :: S)) rfl rfl (hb hby hd) _ a1, b1⟩
theorem w_laload (X : Wk p l e R s m args below meth c Z n0 y code ml ret T cells slots h) {a : Addr} {vs : List Value} {j : Int32} {i : Nat} {v : Value} (A : AV Z h a .long vs) (h0 : ¬ j < 0) (hi : j.toNatClampNeg = i) (hv : vs[i]? = some v) (hd : decode code pc = .ok (.laload, 1)) (hp : pc + 1 = pc') (g : Goes p e below K T m pc' L (v :: S)) : Goes p e below K T m pc L (.int j :: .ref a :: S) := by
  obtain ⟨hx, hZ, hby, hml, hown, hnm, hret, hlk, hn, locs, X, eT, N⟩ := X
  obtain ⟨cl, A, r, -⟩ := A
  subst hp
  obtain ⟨u1, a1, b1⟩ := g
  exact ⟨u1, X.laload hx (by rw [eT]; exact A.1) (State.isArrayOf_alike hZ.alike A.2.1) A.2.2 (av_in r h0 hi (List.getElem?_eq_some_iff.mp hv).1) (by rw [hi]; exact av_at r hv) (g := mkF m pc L (.int j :: .ref a :: S)) rfl rfl (hb hby hd) _ a1, b1⟩
theorem w_caload (X : Wk p l e R s m args below meth c Z n0 y code ml ret T cells slots h) {a : Addr} {vs : List Value} {j : Int32} {i : Nat} {v : Value} (A : AV Z h a .char vs) (h0 : ¬ j < 0) (hi : j.toNatClampNeg = i) (hv : vs[i]? = some v) (hd : decode code pc = .ok (.caload, 1)) (hp : pc + 1 = pc') (g : Goes p e below K T m pc' L (v :: S)) : Goes p e below K T m pc L (.int j :: .ref a :: S) := by
  obtain ⟨hx, hZ, hby, hml, hown, hnm, hret, hlk, hn, locs, X, eT, N⟩ := X
  obtain ⟨cl, A, r, -⟩ := A
  subst hp
  obtain ⟨u1, a1, b1⟩ := g
  exact ⟨u1, X.caload hx (by rw [eT]; exact A.1) (State.isArrayOf_alike hZ.alike A.2.1) A.2.2 (av_in r h0 hi (List.getElem?_eq_some_iff.mp hv).1) (by rw [hi]; exact av_at r hv) (g := mkF m pc L (.int j :: .ref a :: S)) rfl rfl (hb hby hd) _ a1, b1⟩
theorem w_baloadB (X : Wk p l e R s m args below meth c Z n0 y code ml ret T cells slots h) {a : Addr} {vs : List Value} {j : Int32} {i : Nat} {v : Value} (A : AV Z h a .byte vs) (h0 : ¬ j < 0) (hi : j.toNatClampNeg = i) (hv : vs[i]? = some v) (hd : decode code pc = .ok (.baload, 1)) (hp : pc + 1 = pc') (g : Goes p e below K T m pc' L (v :: S)) : Goes p e below K T m pc L (.int j :: .ref a :: S) := by
  obtain ⟨hx, hZ, hby, hml, hown, hnm, hret, hlk, hn, locs, X, eT, N⟩ := X
  obtain ⟨cl, A, r, -⟩ := A
  subst hp
  obtain ⟨u1, a1, b1⟩ := g
  exact ⟨u1, X.baloadBytes hx (by rw [eT]; exact A.1) (State.isArrayOf_alike hZ.alike A.2.1) A.2.2 (av_in r h0 hi (List.getElem?_eq_some_iff.mp hv).1) (by rw [hi]; exact av_at r hv) (g := mkF m pc L (.int j :: .ref a :: S)) rfl rfl (hb hby hd) _ a1, b1⟩
theorem w_baloadZ (X : Wk p l e R s m args below meth c Z n0 y code ml ret T cells slots h) {a : Addr} {vs : List Value} {j : Int32} {i : Nat} {v : Value} (A : AV Z h a .boolean vs) (h0 : ¬ j < 0) (hi : j.toNatClampNeg = i) (hv : vs[i]? = some v) (hd : decode code pc = .ok (.baload, 1)) (hp : pc + 1 = pc') (g : Goes p e below K T m pc' L (v :: S)) : Goes p e below K T m pc L (.int j :: .ref a :: S) := by
  obtain ⟨hx, hZ, hby, hml, hown, hnm, hret, hlk, hn, locs, X, eT, N⟩ := X
  obtain ⟨cl, A, r, -⟩ := A
  subst hp
  obtain ⟨u1, a1, b1⟩ := g
  exact ⟨u1, X.baloadBooleans hx (by rw [eT]; exact A.1) (State.isArrayOf_alike hZ.alike A.2.1) A.2.2 (av_in r h0 hi (List.getElem?_eq_some_iff.mp hv).1) (by rw [hi]; exact av_at r hv) (g := mkF m pc L (.int j :: .ref a :: S)) rfl rfl (hb hby hd) _ a1, b1⟩
theorem w_arraylength (X : Wk p l e R s m args below meth c Z n0 y code ml ret T cells slots h) {a : Addr} {ty : FieldType} {vs : List Value} {n : Int32} (A : AV Z h a ty vs) (hn : vs.length.toInt32 = n) (hd : decode code pc = .ok (.arraylength, 1)) (hp : pc + 1 = pc') (g : Goes p e below K T m pc' L (.int n :: S)) : Goes p e below K T m pc L (.ref a :: S) := by
  obtain ⟨hx, hZ, hby, hml, hown, hnm, hret, hlk, hn', locs, X, eT, N⟩ := X
  obtain ⟨cl, A, r, -⟩ := A
  have q : cl.slots.size.toInt32 = n := by rw [← hn, ← r]; simp
  subst hp q
  obtain ⟨u1, a1, b1⟩ := g
  exact ⟨u1, X.arraylength hx (by rw [eT]; exact A.1) (State.isArrayOf_alike hZ.alike A.2.1) (g := mkF m pc L (.ref a :: S)) rfl rfl (hb hby hd) _ a1, b1⟩
theorem w_iastore (X : Wk p l e R s m args below meth c Z n0 y code ml ret T cells slots h) {a : Addr} {vs : List Value} {j : Int32} {i : Nat} {x : Int32} (A : AV Z h a .int vs) (h0 : ¬ j < 0) (hi : j.toNatClampNeg = i) (hlt : i < vs.length) (ha : n0 ≤ a) (hd : decode code pc = .ok (.iastore, 1)) (hp : pc + 1 = pc') (g : ∀ T' h', Wk p l e R s m args below meth c Z n0 y code ml ret T' cells slots h' → Wr h h' a i (.int x) → AV Z h' a .int (vs.set i (.int x)) → Goes p e below K T' m pc' L S) : Goes p e below K T m pc L (.int x :: .int j :: .ref a :: S) := by
  obtain ⟨hx, hZ, hby, hml, hown, hnm, hret, hlk, hn, locs, X, eT, N⟩ := X
  have A0 := A
  obtain ⟨cl, A, r, -⟩ := A
  subst hp hi
  obtain ⟨T1, h1, X1, e1, W1, st⟩ := stI X hx hZ eT A (j := j) (av_in r h0 rfl hlt) (g := mkF m pc L (.int x :: .int j :: .ref a :: S)) rfl rfl (hb hby hd)
  obtain ⟨u1, a1, b1⟩ := g _ _ ⟨hx, hZ, hby, hml, hown, hnm, hret, hlk, W1.size.symm ▸ hn, _, X1, e1, Fr.snoc X1 N ha⟩ W1 (A0.set W1)
  exact ⟨u1, st _ a1, b1⟩
theorem w_lastore (X : Wk p l e R s m args below meth c Z n0 y code ml ret T cells slots h) {a : Addr} {vs : List Value} {j : Int32} {i : Nat} {x : Int64} (A : AV Z h a .long vs) (h0 : ¬ j < 0) (hi : j.toNatClampNeg = i) (hlt : i < vs.length) (ha : n0 ≤ a) (hd : decode code pc = .ok (.lastore, 1)) (hp : pc + 1 = pc') (g : ∀ T' h', Wk p l e R s m args below meth c Z n0 y code ml ret T' cells slots h' → Wr h h' a i (.long x) → AV Z h' a .long (vs.set i (.long x)) → Goes p e below K T' m pc' L S) : Goes p e below K T m pc L (.long x :: .int j :: .ref a :: S) := by
  obtain ⟨hx, hZ, hby, hml, hown, hnm, hret, hlk, hn, locs, X, eT, N⟩ := X
  have A0 := A
  obtain ⟨cl, A, r, -⟩ := A
  subst hp hi
  obtain ⟨T1, h1, X1, e1, W1, st⟩ := stJ X hx hZ eT A (j := j) (av_in r h0 rfl hlt) (g := mkF m pc L (.long x :: .int j :: .ref a :: S)) rfl rfl (hb hby hd)
  obtain ⟨u1, a1, b1⟩ := g _ _ ⟨hx, hZ, hby, hml, hown, hnm, hret, hlk, W1.size.symm ▸ hn, _, X1, e1, Fr.snoc X1 N ha⟩ W1 (A0.set W1)
  exact ⟨u1, st _ a1, b1⟩
theorem w_castore (X : Wk p l e R s m args below meth c Z n0 y code ml ret T cells slots h) {a : Addr} {vs : List Value} {j : Int32} {i : Nat} {x : Int32} (A : AV Z h a .char vs) (h0 : ¬ j < 0) (hi : j.toNatClampNeg = i) (hlt : i < vs.length) (ha : n0 ≤ a) (hd : decode code pc = .ok (.castore, 1)) (hp : pc + 1 = pc') (g : ∀ T' h', Wk p l e R s m args below meth c Z n0 y code ml ret T' cells slots h' → Wr h h' a i (.int (nar .char x)) → AV Z h' a .char (vs.set i (.int (nar .char x))) → Goes p e below K T' m pc' L S) : Goes p e below K T m pc L (.int x :: .int j :: .ref a :: S) := by
  obtain ⟨hx, hZ, hby, hml, hown, hnm, hret, hlk, hn, locs, X, eT, N⟩ := X
  have A0 := A
  obtain ⟨cl, A, r, -⟩ := A
  subst hp hi
  obtain ⟨T1, h1, X1, e1, W1, st⟩ := stC X hx hZ eT A (j := j) (av_in r h0 rfl hlt) (g := mkF m pc L (.int x :: .int j :: .ref a :: S)) rfl rfl (hb hby hd)
  obtain ⟨u1, a1, b1⟩ := g _ _ ⟨hx, hZ, hby, hml, hown, hnm, hret, hlk, W1.size.symm ▸ hn, _, X1, e1, Fr.snoc X1 N ha⟩ W1 (A0.set W1)
  exact ⟨u1, st _ a1, b1⟩
theorem w_bastoreB (X : Wk p l e R s m args below meth c Z n0 y code ml ret T cells slots h) {a : Addr} {vs : List Value} {j : Int32} {i : Nat} {x : Int32} (A : AV Z h a .byte vs) (h0 : ¬ j < 0) (hi : j.toNatClampNeg = i) (hlt : i < vs.length) (ha : n0 ≤ a) (hd : decode code pc = .ok (.bastore, 1)) (hp : pc + 1 = pc') (g : ∀ T' h', Wk p l e R s m args below meth c Z n0 y code ml ret T' cells slots h' → Wr h h' a i (.int (nar .byte x)) → AV Z h' a .byte (vs.set i (.int (nar .byte x))) → Goes p e below K T' m pc' L S) : Goes p e below K T m pc L (.int x :: .int j :: .ref a :: S) := by
  obtain ⟨hx, hZ, hby, hml, hown, hnm, hret, hlk, hn, locs, X, eT, N⟩ := X
  have A0 := A
  obtain ⟨cl, A, r, -⟩ := A
  subst hp hi
  obtain ⟨T1, h1, X1, e1, W1, st⟩ := stB X hx hZ eT A (j := j) (av_in r h0 rfl hlt) (g := mkF m pc L (.int x :: .int j :: .ref a :: S)) rfl rfl (hb hby hd)
  obtain ⟨u1, a1, b1⟩ := g _ _ ⟨hx, hZ, hby, hml, hown, hnm, hret, hlk, W1.size.symm ▸ hn, _, X1, e1, Fr.snoc X1 N ha⟩ W1 (A0.set W1)
  exact ⟨u1, st _ a1, b1⟩
theorem w_bastoreZ (X : Wk p l e R s m args below meth c Z n0 y code ml ret T cells slots h) {a : Addr} {vs : List Value} {j : Int32} {i : Nat} {x : Int32} (A : AV Z h a .boolean vs) (h0 : ¬ j < 0) (hi : j.toNatClampNeg = i) (hlt : i < vs.length) (ha : n0 ≤ a) (hd : decode code pc = .ok (.bastore, 1)) (hp : pc + 1 = pc') (g : ∀ T' h', Wk p l e R s m args below meth c Z n0 y code ml ret T' cells slots h' → Wr h h' a i (.int (nar .boolean x)) → AV Z h' a .boolean (vs.set i (.int (nar .boolean x))) → Goes p e below K T' m pc' L S) : Goes p e below K T m pc L (.int x :: .int j :: .ref a :: S) := by
  obtain ⟨hx, hZ, hby, hml, hown, hnm, hret, hlk, hn, locs, X, eT, N⟩ := X
  have A0 := A
  obtain ⟨cl, A, r, -⟩ := A
  subst hp hi
  obtain ⟨T1, h1, X1, e1, W1, st⟩ := stZ X hx hZ eT A (j := j) (av_in r h0 rfl hlt) (g := mkF m pc L (.int x :: .int j :: .ref a :: S)) rfl rfl (hb hby hd)
  obtain ⟨u1, a1, b1⟩ := g _ _ ⟨hx, hZ, hby, hml, hown, hnm, hret, hlk, W1.size.symm ▸ hn, _, X1, e1, Fr.snoc X1 N ha⟩ W1 (A0.set W1)
  exact ⟨u1, st _ a1, b1⟩
theorem getI {xs : List Int32} {i : Nat} (q : i < xs.length) : (xs.map Value.int)[i]? = some (.int (xs.getD i 0)) := by
  simp [List.getD_eq_getElem?_getD, List.getElem?_eq_getElem q]
theorem getL {xs : List Int64} {i : Nat} (q : i < xs.length) : (xs.map Value.long)[i]? = some (.long (xs.getD i 0)) := by
  simp [List.getD_eq_getElem?_getD, List.getElem?_eq_getElem q]
/-- a new name for a value -/
theorem nameI {K' : Prop} (v : Int32) (g : ∀ z, z = v → K') : K' := g v rfl
theorem nameL {K' : Prop} (v : Int64) (g : ∀ z, z = v → K') : K' := g v rfl
end Rules
end Jvm.Own
namespace Jvm.Pilot.@@N@@
open Jvm Jvm.ClassFile Sem Op Lib Jvm.Free Jvm.Stand Jvm.LawKit Jvm.RoadKit Bundle Jvm.Own Jvm.Pilot.@@N@@.Jvm.D
def f_dig (q1 : Int64) (q2 : Int64) : Int32 :=
  (nar .char (((48 : Int32) + (((q1 / q2) % (10 : Int64)).toInt32)).toUInt32.toUInt16.toUInt32.toInt32))
theorem d1_0 : decode method_3_code 0 = .ok (.bipush 48, 2) := by decide +kernel
theorem d1_2 : decode method_3_code 2 = .ok (.lload_n 0, 1) := by decide +kernel
theorem d1_3 : decode method_3_code 3 = .ok (.lload_n 2, 1) := by decide +kernel
theorem d1_4 : decode method_3_code 4 = .ok (.ldiv, 1) := by decide +kernel
theorem d1_5 : decode method_3_code 5 = .ok (.ldc2_w 9, 3) := by decide +kernel
theorem d1_8 : decode method_3_code 8 = .ok (.lrem, 1) := by decide +kernel
theorem d1_9 : decode method_3_code 9 = .ok (.l2i, 1) := by decide +kernel
theorem d1_10 : decode method_3_code 10 = .ok (.iadd, 1) := by decide +kernel
theorem d1_11 : decode method_3_code 11 = .ok (.i2c, 1) := by decide +kernel
theorem d1_12 : decode method_3_code 12 = .ok (.ireturn, 1) := by decide +kernel
theorem pn_1 : plainName "com/example/driftwalk/driftwalk/graph/EdgeListReaderParseNumberPinLaw" = true := by first | (simp [plainName, overriddenIn]; done) | decide +kernel
theorem ef_1 (m : MethodId) (q1 : Int64) (q2 : Int64) : entryFrame m #[(.long q1), (.long q2)] 4 = mkF m 0 #[.val (.long q1), .second, .val (.long q2), .second] [] := by first | (simp [entryFrame, mkF, argsToLocals, Value.category]; done) | rfl
set_option maxRecDepth 65536 in
set_option maxHeartbeats 4000000 in
theorem rm1 (l : Launch) (Z : State) (a0 : Array Value) (hw : ∀ d ∈ tables_1, d.before a0 Z = true) (q1 : Int64) (q2 : Int64) (h0 : Heap) (n0 : Nat) (Z0 : n0 ≤ h0.size) (hnz : q2 ≠ 0) :
    Con l Z (⟨"com/example/driftwalk/driftwalk/graph/EdgeListReaderParseNumberPinLaw", "digitOf", "(JJ)C"⟩ : MethodName) method_3_code 4 (some .char) ({ frames := 0, cells := 0, slots := 0, locals := 0 } : Room) #[(.long q1), (.long q2)] h0 n0 (some (.int (f_dig q1 q2))) (fun h => h = h0) := by
  refine con_of (plainFor_of_name pn_1) Z0 (fun m => ef_1 m q1 q2) ?_
  intro p e s m below meth c T0 X0
  refine w_bipush X0 d1_0 (v := (48 : Int32)) rfl rfl ?_
  refine w_lloadN X0 d1_2 rfl rfl ?_
  refine w_lloadN X0 d1_3 rfl rfl ?_
  refine w_ldiv X0 d1_4 rfl hnz ?_
  refine w_ldc2Long X0 (hw _ (List.mem_of_getElem? (i := 2) rfl)) d1_5 rfl ?_
  refine w_lrem X0 d1_8 rfl (by decide) ?_
  refine w_l2i X0 d1_9 rfl ?_
  refine w_iadd X0 d1_10 rfl ?_
  refine w_i2c X0 d1_11 rfl ?_
  exact w_nreturn X0 (t := .char) (by simp) d1_12 (by unfold f_dig; rfl) rfl (by decide) (by decide)
def f_drawn (q1 : Int64) : Int32 :=
  if (q1 &&& (3 : Int64)) = (0 : Int64) then (nar .char ((((ushL q1 (2 : Int32)) &&& (65535 : Int64)).toInt32).toUInt32.toUInt16.toUInt32.toInt32)) else (nar .char (((48 : Int32) + ((((ushL q1 (2 : Int32)) &&& (65535 : Int64)) % (10 : Int64)).toInt32)).toUInt32.toUInt16.toUInt32.toInt32))
theorem d2_0 : decode method_4_code 0 = .ok (.lload_n 0, 1) := by decide +kernel
theorem d2_1 : decode method_4_code 1 = .ok (.ldc2_w 81, 3) := by decide +kernel
theorem d2_4 : decode method_4_code 4 = .ok (.land, 1) := by decide +kernel
theorem d2_5 : decode method_4_code 5 = .ok (.lconst 0, 1) := by decide +kernel
theorem d2_6 : decode method_4_code 6 = .ok (.lcmp, 1) := by decide +kernel
theorem d2_7 : decode method_4_code 7 = .ok (.ifCond .eq 20, 3) := by decide +kernel
theorem d2_10 : decode method_4_code 10 = .ok (.bipush 48, 2) := by decide +kernel
theorem d2_12 : decode method_4_code 12 = .ok (.lload_n 0, 1) := by decide +kernel
theorem d2_13 : decode method_4_code 13 = .ok (.iconst 2, 1) := by decide +kernel
theorem d2_14 : decode method_4_code 14 = .ok (.lushr, 1) := by decide +kernel
theorem d2_15 : decode method_4_code 15 = .ok (.ldc2_w 83, 3) := by decide +kernel
theorem d2_18 : decode method_4_code 18 = .ok (.land, 1) := by decide +kernel
theorem d2_19 : decode method_4_code 19 = .ok (.ldc2_w 9, 3) := by decide +kernel
theorem d2_22 : decode method_4_code 22 = .ok (.lrem, 1) := by decide +kernel
theorem d2_23 : decode method_4_code 23 = .ok (.l2i, 1) := by decide +kernel
theorem d2_24 : decode method_4_code 24 = .ok (.iadd, 1) := by decide +kernel
theorem d2_25 : decode method_4_code 25 = .ok (.i2c, 1) := by decide +kernel
theorem d2_26 : decode method_4_code 26 = .ok (.ireturn, 1) := by decide +kernel
theorem d2_27 : decode method_4_code 27 = .ok (.lload_n 0, 1) := by decide +kernel
theorem d2_28 : decode method_4_code 28 = .ok (.iconst 2, 1) := by decide +kernel
theorem d2_29 : decode method_4_code 29 = .ok (.lushr, 1) := by decide +kernel
theorem d2_30 : decode method_4_code 30 = .ok (.ldc2_w 83, 3) := by decide +kernel
theorem d2_33 : decode method_4_code 33 = .ok (.land, 1) := by decide +kernel
theorem d2_34 : decode method_4_code 34 = .ok (.l2i, 1) := by decide +kernel
theorem d2_35 : decode method_4_code 35 = .ok (.i2c, 1) := by decide +kernel
theorem d2_36 : decode method_4_code 36 = .ok (.ireturn, 1) := by decide +kernel
theorem pn_2 : plainName "com/example/driftwalk/driftwalk/graph/EdgeListReaderParseNumberPinLaw" = true := by first | (simp [plainName, overriddenIn]; done) | decide +kernel
theorem ef_2 (m : MethodId) (q1 : Int64) : entryFrame m #[(.long q1)] 2 = mkF m 0 #[.val (.long q1), .second] [] := by first | (simp [entryFrame, mkF, argsToLocals, Value.category]; done) | rfl
set_option maxRecDepth 65536 in
set_option maxHeartbeats 4000000 in
theorem rm2 (l : Launch) (Z : State) (a0 : Array Value) (hw : ∀ d ∈ tables_1, d.before a0 Z = true) (q1 : Int64) (h0 : Heap) (n0 : Nat) (Z0 : n0 ≤ h0.size) :
    Con l Z (⟨"com/example/driftwalk/driftwalk/graph/EdgeListReaderParseNumberPinLaw", "drawn", "(J)C"⟩ : MethodName) method_4_code 2 (some .char) ({ frames := 0, cells := 0, slots := 0, locals := 0 } : Room) #[(.long q1)] h0 n0 (some (.int (f_drawn q1))) (fun h => h = h0) := by
  refine con_of (plainFor_of_name pn_2) Z0 (fun m => ef_2 m q1) ?_
  intro p e s m below meth c T0 X0
  refine w_lloadN X0 d2_0 rfl rfl ?_
  refine w_ldc2Long X0 (hw _ (List.mem_of_getElem? (i := 28) rfl)) d2_1 rfl ?_
  refine w_land X0 d2_4 rfl ?_
  refine w_lconst X0 d2_5 (v := (0 : Int64)) rfl rfl ?_
  refine w_lcmp_eq X0 d2_6 rfl d2_7 (by decide) (pcT := 27) (pcF := 10) (by decide) rfl (fun c1 => ?_) (fun c1 => ?_)
  · refine w_lloadN X0 d2_27 rfl rfl ?_
    refine w_iconst X0 d2_28 (v := (2 : Int32)) rfl rfl ?_
    refine w_lushr X0 d2_29 rfl ?_
    refine w_ldc2Long X0 (hw _ (List.mem_of_getElem? (i := 29) rfl)) d2_30 rfl ?_
    refine w_land X0 d2_33 rfl ?_
    refine w_l2i X0 d2_34 rfl ?_
    refine w_i2c X0 d2_35 rfl ?_
    exact w_nreturn X0 (t := .char) (by simp) d2_36 (by unfold f_drawn; rw [if_pos c1]) rfl (by decide) (by decide)
  · refine w_bipush X0 d2_10 (v := (48 : Int32)) rfl rfl ?_
    refine w_lloadN X0 d2_12 rfl rfl ?_
    refine w_iconst X0 d2_13 (v := (2 : Int32)) rfl rfl ?_
    refine w_lushr X0 d2_14 rfl ?_
    refine w_ldc2Long X0 (hw _ (List.mem_of_getElem? (i := 29) rfl)) d2_15 rfl ?_
    refine w_land X0 d2_18 rfl ?_
    refine w_ldc2Long X0 (hw _ (List.mem_of_getElem? (i := 2) rfl)) d2_19 rfl ?_
    refine w_lrem X0 d2_22 rfl (by decide) ?_
    refine w_l2i X0 d2_23 rfl ?_
    refine w_iadd X0 d2_24 rfl ?_
    refine w_i2c X0 d2_25 rfl ?_
    exact w_nreturn X0 (t := .char) (by simp) d2_26 (by unfold f_drawn; rw [if_neg c1]) rfl (by decide) (by decide)
def f_min (p1 : Int32) (p2 : Int32) : Int32 :=
  (if p2 < p1 then p2 else p1)
theorem d3_0 : decode jdk_29_method_69_code 0 = .ok (.iload_n 0, 1) := by decide +kernel
theorem d3_1 : decode jdk_29_method_69_code 1 = .ok (.iload_n 1, 1) := by decide +kernel
theorem d3_2 : decode jdk_29_method_69_code 2 = .ok (.if_icmp .gt 7, 3) := by decide +kernel
theorem d3_5 : decode jdk_29_method_69_code 5 = .ok (.iload_n 0, 1) := by decide +kernel
theorem d3_6 : decode jdk_29_method_69_code 6 = .ok (.goto 4, 3) := by decide +kernel
theorem d3_9 : decode jdk_29_method_69_code 9 = .ok (.iload_n 1, 1) := by decide +kernel
theorem d3_10 : decode jdk_29_method_69_code 10 = .ok (.ireturn, 1) := by decide +kernel
theorem ef_3 (m : MethodId) (p1 : Int32) (p2 : Int32) : entryFrame m #[(.int p1), (.int p2)] 2 = mkF m 0 #[.val (.int p1), .val (.int p2)] [] := by first | (simp [entryFrame, mkF, argsToLocals, Value.category]; done) | rfl
set_option maxRecDepth 65536 in
set_option maxHeartbeats 4000000 in
theorem rm3 (l : Launch) (Z : State) (a0 : Array Value) (hw : ∀ d ∈ tables_1, d.before a0 Z = true) (p1 : Int32) (p2 : Int32) (h0 : Heap) (n0 : Nat) (Z0 : n0 ≤ h0.size) :
    Con l Z (⟨"java/lang/Math", "min", "(II)I"⟩ : MethodName) jdk_29_method_69_code 2 (some .int) ({ frames := 0, cells := 0, slots := 0, locals := 0 } : Room) #[(.int p1), (.int p2)] h0 n0 (some (.int (f_min p1 p2))) (fun h => h = h0) := by
  refine con_of (Jvm.Free.JP.mathPlain rfl (by decide +kernel)) Z0 (fun m => ef_3 m p1 p2) ?_
  intro p e s m below meth c T0 X0
  refine w_iloadN X0 d3_0 rfl rfl ?_
  refine w_iloadN X0 d3_1 rfl rfl ?_
  suffices j4 : ∀ (T2 : State) (z1 : Int32), (Wk p l e ({ frames := 0, cells := 0, slots := 0, locals := 0 } : Room) s m #[(.int p1), (.int p2)] below meth c Z n0 (⟨"java/lang/Math", "min", "(II)I"⟩ : MethodName) jdk_29_method_69_code 2 (some .int) T2 0 0 h0) → (z1 = (if p2 < p1 then p2 else p1)) → Goes p e below (Done below s n0 ({ frames := 0, cells := 0, slots := 0, locals := 0 } : Room) (some (.int (f_min p1 p2))) (fun h => h = h0)) T2 m 10 #[.val (.int p1), .val (.int p2)] [(.int z1)] by
    refine w_icmp_gt X0 d3_2 (by decide) (pcT := 9) (pcF := 5) (by decide) rfl (fun c5 => ?_) (fun c5 => ?_)
    · refine w_iloadN X0 d3_9 rfl rfl ?_
      exact j4 _ _ X0 (by rw [if_pos c5])
    · refine w_iloadN X0 d3_5 rfl rfl ?_
      refine w_goto X0 d3_6 (by decide) (pc' := 10) (by decide) ?_
      exact j4 _ _ X0 (by rw [if_neg c5])
  intro T2 z1 X3 hz1
  exact w_ireturn X3 d3_10 (by subst hz1; unfold f_min; rfl) rfl (by decide) (by decide)
def f_max (p1 : Int32) (p2 : Int32) : Int32 :=
  (if p1 < p2 then p2 else p1)
theorem d4_0 : decode jdk_29_method_65_code 0 = .ok (.iload_n 0, 1) := by decide +kernel
theorem d4_1 : decode jdk_29_method_65_code 1 = .ok (.iload_n 1, 1) := by decide +kernel
theorem d4_2 : decode jdk_29_method_65_code 2 = .ok (.if_icmp .lt 7, 3) := by decide +kernel
theorem d4_5 : decode jdk_29_method_65_code 5 = .ok (.iload_n 0, 1) := by decide +kernel
theorem d4_6 : decode jdk_29_method_65_code 6 = .ok (.goto 4, 3) := by decide +kernel
theorem d4_9 : decode jdk_29_method_65_code 9 = .ok (.iload_n 1, 1) := by decide +kernel
theorem d4_10 : decode jdk_29_method_65_code 10 = .ok (.ireturn, 1) := by decide +kernel
theorem ef_4 (m : MethodId) (p1 : Int32) (p2 : Int32) : entryFrame m #[(.int p1), (.int p2)] 2 = mkF m 0 #[.val (.int p1), .val (.int p2)] [] := by first | (simp [entryFrame, mkF, argsToLocals, Value.category]; done) | rfl
set_option maxRecDepth 65536 in
set_option maxHeartbeats 4000000 in
theorem rm4 (l : Launch) (Z : State) (a0 : Array Value) (hw : ∀ d ∈ tables_1, d.before a0 Z = true) (p1 : Int32) (p2 : Int32) (h0 : Heap) (n0 : Nat) (Z0 : n0 ≤ h0.size) :
    Con l Z (⟨"java/lang/Math", "max", "(II)I"⟩ : MethodName) jdk_29_method_65_code 2 (some .int) ({ frames := 0, cells := 0, slots := 0, locals := 0 } : Room) #[(.int p1), (.int p2)] h0 n0 (some (.int (f_max p1 p2))) (fun h => h = h0) := by
  refine con_of (Jvm.Free.JP.mathPlain rfl (by decide +kernel)) Z0 (fun m => ef_4 m p1 p2) ?_
  intro p e s m below meth c T0 X0
  refine w_iloadN X0 d4_0 rfl rfl ?_
  refine w_iloadN X0 d4_1 rfl rfl ?_
  suffices j4 : ∀ (T2 : State) (z1 : Int32), (Wk p l e ({ frames := 0, cells := 0, slots := 0, locals := 0 } : Room) s m #[(.int p1), (.int p2)] below meth c Z n0 (⟨"java/lang/Math", "max", "(II)I"⟩ : MethodName) jdk_29_method_65_code 2 (some .int) T2 0 0 h0) → (z1 = (if p1 < p2 then p2 else p1)) → Goes p e below (Done below s n0 ({ frames := 0, cells := 0, slots := 0, locals := 0 } : Room) (some (.int (f_max p1 p2))) (fun h => h = h0)) T2 m 10 #[.val (.int p1), .val (.int p2)] [(.int z1)] by
    refine w_icmp_lt X0 d4_2 (by decide) (pcT := 9) (pcF := 5) (by decide) rfl (fun c5 => ?_) (fun c5 => ?_)
    · refine w_iloadN X0 d4_9 rfl rfl ?_
      exact j4 _ _ X0 (by rw [if_pos c5])
    · refine w_iloadN X0 d4_5 rfl rfl ?_
      refine w_goto X0 d4_6 (by decide) (pc' := 10) (by decide) ?_
      exact j4 _ _ X0 (by rw [if_neg c5])
  intro T2 z1 X3 hz1
  exact w_ireturn X3 d4_10 (by subst hz1; unfold f_max; rfl) rfl (by decide) (by decide)
def f_isd (p1 : Int32) : Int32 :=
  if p1 < (48 : Int32) then (0 : Int32) else (if (57 : Int32) < p1 then (0 : Int32) else (1 : Int32))
theorem d5_0 : decode method_5_code 0 = .ok (.iload_n 0, 1) := by decide +kernel
theorem d5_1 : decode method_5_code 1 = .ok (.bipush 48, 2) := by decide +kernel
theorem d5_3 : decode method_5_code 3 = .ok (.if_icmp .lt 13, 3) := by decide +kernel
theorem d5_6 : decode method_5_code 6 = .ok (.iload_n 0, 1) := by decide +kernel
theorem d5_7 : decode method_5_code 7 = .ok (.bipush 57, 2) := by decide +kernel
theorem d5_9 : decode method_5_code 9 = .ok (.if_icmp .gt 7, 3) := by decide +kernel
theorem d5_12 : decode method_5_code 12 = .ok (.iconst 1, 1) := by decide +kernel
theorem d5_13 : decode method_5_code 13 = .ok (.goto 4, 3) := by decide +kernel
theorem d5_16 : decode method_5_code 16 = .ok (.iconst 0, 1) := by decide +kernel
theorem d5_17 : decode method_5_code 17 = .ok (.ireturn, 1) := by decide +kernel
theorem pn_5 : plainName "com/example/driftwalk/driftwalk/graph/EdgeListReaderParseNumberPinLaw" = true := by first | (simp [plainName, overriddenIn]; done) | decide +kernel
theorem ef_5 (m : MethodId) (p1 : Int32) : entryFrame m #[(.int p1)] 1 = mkF m 0 #[.val (.int p1)] [] := by first | (simp [entryFrame, mkF, argsToLocals, Value.category]; done) | rfl
set_option maxRecDepth 65536 in
set_option maxHeartbeats 4000000 in
theorem rm5 (l : Launch) (Z : State) (a0 : Array Value) (hw : ∀ d ∈ tables_1, d.before a0 Z = true) (p1 : Int32) (h0 : Heap) (n0 : Nat) (Z0 : n0 ≤ h0.size) :
    Con l Z (⟨"com/example/driftwalk/driftwalk/graph/EdgeListReaderParseNumberPinLaw", "isDigit", "(C)Z"⟩ : MethodName) method_5_code 1 (some .boolean) ({ frames := 0, cells := 0, slots := 0, locals := 0 } : Room) #[(.int p1)] h0 n0 (some (.int (f_isd p1))) (fun h => h = h0) := by
  refine con_of (plainFor_of_name pn_5) Z0 (fun m => ef_5 m p1) ?_
  intro p e s m below meth c T0 X0
  refine w_iloadN X0 d5_0 rfl rfl ?_
  refine w_bipush X0 d5_1 (v := (48 : Int32)) rfl rfl ?_
  refine w_icmp_lt X0 d5_3 (by decide) (pcT := 16) (pcF := 6) (by decide) rfl (fun c1 => ?_) (fun c1 => ?_)
  · refine w_iconst X0 d5_16 (v := (0 : Int32)) rfl rfl ?_
    exact w_nreturn X0 (t := .boolean) (by simp) d5_17 (by unfold f_isd; rw [if_pos c1]; rfl) rfl (by decide) (by decide)
  · refine w_iloadN X0 d5_6 rfl rfl ?_
    refine w_bipush X0 d5_7 (v := (57 : Int32)) rfl rfl ?_
    refine w_icmp_gt X0 d5_9 (by decide) (pcT := 16) (pcF := 12) (by decide) rfl (fun c2 => ?_) (fun c2 => ?_)
    · refine w_iconst X0 d5_16 (v := (0 : Int32)) rfl rfl ?_
      exact w_nreturn X0 (t := .boolean) (by simp) d5_17 (by unfold f_isd; rw [if_neg c1, if_pos c2]; rfl) rfl (by decide) (by decide)
    · refine w_iconst X0 d5_12 (v := (1 : Int32)) rfl rfl ?_
      refine w_goto X0 d5_13 (by decide) (pc' := 17) (by decide) ?_
      exact w_nreturn X0 (t := .boolean) (by simp) d5_17 (by unfold f_isd; rw [if_neg c1, if_neg c2]; rfl) rfl (by decide) (by decide)
def f_step (q1 : Int64) (p2 : Int32) : Int64 :=
  if q1 < (0 : Int64) then (-1 : Int64) else (if (f_isd p2) = 0 then (-1 : Int64) else (if (((9223372036854775807 : Int64) - ((p2 - (48 : Int32)).toInt64)) / (10 : Int64)) < q1 then (-1 : Int64) else ((q1 * (10 : Int64)) + ((p2 - (48 : Int32)).toInt64))))
theorem d7_0 : decode method_6_code 0 = .ok (.lload_n 0, 1) := by decide +kernel
theorem d7_1 : decode method_6_code 1 = .ok (.lconst 0, 1) := by decide +kernel
theorem d7_2 : decode method_6_code 2 = .ok (.lcmp, 1) := by decide +kernel
theorem d7_3 : decode method_6_code 3 = .ok (.ifCond .lt 10, 3) := by decide +kernel
theorem d7_6 : decode method_6_code 6 = .ok (.iload_n 2, 1) := by decide +kernel
theorem d7_7 : decode method_6_code 7 = .ok (.invokestatic 65, 3) := by decide +kernel
theorem d7_10 : decode method_6_code 10 = .ok (.ifCond .ne 7, 3) := by decide +kernel
theorem d7_13 : decode method_6_code 13 = .ok (.ldc2_w 75, 3) := by decide +kernel
theorem d7_16 : decode method_6_code 16 = .ok (.lreturn, 1) := by decide +kernel
theorem d7_17 : decode method_6_code 17 = .ok (.iload_n 2, 1) := by decide +kernel
theorem d7_18 : decode method_6_code 18 = .ok (.bipush 48, 2) := by decide +kernel
theorem d7_20 : decode method_6_code 20 = .ok (.isub, 1) := by decide +kernel
theorem d7_21 : decode method_6_code 21 = .ok (.i2l, 1) := by decide +kernel
theorem d7_22 : decode method_6_code 22 = .ok (.lstore_n 3, 1) := by decide +kernel
theorem d7_23 : decode method_6_code 23 = .ok (.lload_n 0, 1) := by decide +kernel
theorem d7_24 : decode method_6_code 24 = .ok (.ldc2_w 7, 3) := by decide +kernel
theorem d7_27 : decode method_6_code 27 = .ok (.lload_n 3, 1) := by decide +kernel
theorem d7_28 : decode method_6_code 28 = .ok (.lsub, 1) := by decide +kernel
theorem d7_29 : decode method_6_code 29 = .ok (.ldc2_w 9, 3) := by decide +kernel
theorem d7_32 : decode method_6_code 32 = .ok (.ldiv, 1) := by decide +kernel
theorem d7_33 : decode method_6_code 33 = .ok (.lcmp, 1) := by decide +kernel
theorem d7_34 : decode method_6_code 34 = .ok (.ifCond .le 7, 3) := by decide +kernel
theorem d7_37 : decode method_6_code 37 = .ok (.ldc2_w 75, 3) := by decide +kernel
theorem d7_40 : decode method_6_code 40 = .ok (.lreturn, 1) := by decide +kernel
theorem d7_41 : decode method_6_code 41 = .ok (.lload_n 0, 1) := by decide +kernel
theorem d7_42 : decode method_6_code 42 = .ok (.ldc2_w 9, 3) := by decide +kernel
theorem d7_45 : decode method_6_code 45 = .ok (.lmul, 1) := by decide +kernel
theorem d7_46 : decode method_6_code 46 = .ok (.lload_n 3, 1) := by decide +kernel
theorem d7_47 : decode method_6_code 47 = .ok (.ladd, 1) := by decide +kernel
theorem d7_48 : decode method_6_code 48 = .ok (.lreturn, 1) := by decide +kernel
theorem pd_0 : parseMethodDescriptor "(C)Z" = some ⟨[.char], some .boolean⟩ := by decide +kernel
theorem pn_7 : plainName "com/example/driftwalk/driftwalk/graph/EdgeListReaderParseNumberPinLaw" = true := by first | (simp [plainName, overriddenIn]; done) | decide +kernel
theorem ef_7 (m : MethodId) (q1 : Int64) (p2 : Int32) : entryFrame m #[(.long q1), (.int p2)] 5 = mkF m 0 #[.val (.long q1), .second, .val (.int p2), .unset, .unset] [] := by first | (simp [entryFrame, mkF, argsToLocals, Value.category]; done) | rfl
set_option maxRecDepth 65536 in
set_option maxHeartbeats 4000000 in
theorem rm7 (l : Launch) (Z : State) (a0 : Array Value) (hw : ∀ d ∈ tables_1, d.before a0 Z = true) (q1 : Int64) (p2 : Int32) (h0 : Heap) (n0 : Nat) (Z0 : n0 ≤ h0.size) :
    Con l Z (⟨"com/example/driftwalk/driftwalk/graph/EdgeListReaderParseNumberPinLaw", "step", "(JC)J"⟩ : MethodName) method_6_code 5 (some .long) ({ frames := 1, cells := 0, slots := 0, locals := 12 } : Room) #[(.long q1), (.int p2)] h0 n0 (some (.long (f_step q1 p2))) (fun h => h = h0) := by
  refine con_of (plainFor_of_name pn_7) Z0 (fun m => ef_7 m q1 p2) ?_
  intro p e s m below meth c T0 X0
  refine w_lloadN X0 d7_0 rfl rfl ?_
  refine w_lconst X0 d7_1 (v := (0 : Int64)) rfl rfl ?_
  refine w_lcmp_lt X0 d7_2 rfl d7_3 (by decide) (pcT := 13) (pcF := 6) (by decide) rfl (fun c1 => ?_) (fun c1 => ?_)
  · refine w_ldc2Long X0 (hw _ (List.mem_of_getElem? (i := 48) rfl)) d7_13 rfl ?_
    exact w_lreturn X0 d7_16 (by unfold f_step; rw [if_pos c1]) rfl (by decide) (by decide)
  · refine w_iloadN X0 d7_6 rfl rfl ?_
    refine w_staticVP X0 (rm5 l Z a0 hw p2 h0 n0 X0.size ) (hw _ (List.mem_of_getElem? (i := 38) rfl)) (hw _ (List.mem_of_getElem? (i := 39) rfl)) (hw _ (List.mem_of_getElem? (i := 23) rfl)) (hw _ (List.mem_of_getElem? (i := 40) rfl)) (by decide) (argsL := [(.int p2)]) (rest := []) rfl (lenOf pd_0 rfl) rfl (W := 0) rfl (by decide) (by decide) (by decide) (by decide) d7_7 rfl fun T2 X3 => ?_
    refine w_if_ne X3 d7_10 (by decide) (pcT := 17) (pcF := 13) (by decide) rfl (fun c4 => ?_) (fun c4 => ?_)
    · refine w_iloadN X3 d7_17 rfl rfl ?_
      refine w_bipush X3 d7_18 (v := (48 : Int32)) rfl rfl ?_
      refine w_isub X3 d7_20 rfl ?_
      refine w_i2l X3 d7_21 rfl ?_
      refine w_lstoreN X3 d7_22 rfl (L' := #[.val (.long q1), .second, .val (.int p2), .val (.long ((p2 - (48 : Int32)).toInt64)), .second]) rfl ?_
      refine w_lloadN X3 d7_23 rfl rfl ?_
      refine w_ldc2Long X3 (hw _ (List.mem_of_getElem? (i := 0) rfl)) d7_24 rfl ?_
      refine w_lloadN X3 d7_27 rfl rfl ?_
      refine w_lsub X3 d7_28 rfl ?_
      refine w_ldc2Long X3 (hw _ (List.mem_of_getElem? (i := 2) rfl)) d7_29 rfl ?_
      refine w_ldiv X3 d7_32 rfl (by decide) ?_
      refine w_lcmp_le X3 d7_33 rfl d7_34 (by decide) (pcT := 41) (pcF := 37) (by decide) rfl (fun c5 => ?_) (fun c5 => ?_)
      · refine w_lloadN X3 d7_41 rfl rfl ?_
        refine w_ldc2Long X3 (hw _ (List.mem_of_getElem? (i := 2) rfl)) d7_42 rfl ?_
        refine w_lmul X3 d7_45 rfl ?_
        refine w_lloadN X3 d7_46 rfl rfl ?_
        refine w_ladd X3 d7_47 rfl ?_
        exact w_lreturn X3 d7_48 (by unfold f_step; rw [if_neg c1, if_neg c4, if_neg c5]) rfl (by decide) (by decide)
      · refine w_ldc2Long X3 (hw _ (List.mem_of_getElem? (i := 48) rfl)) d7_37 rfl ?_
        exact w_lreturn X3 d7_40 (by unfold f_step; rw [if_neg c1, if_neg c4, if_pos c5]) rfl (by decide) (by decide)
    · refine w_ldc2Long X3 (hw _ (List.mem_of_getElem? (i := 48) rfl)) d7_13 rfl ?_
      exact w_lreturn X3 d7_16 (by unfold f_step; rw [if_neg c1, if_pos c4]) rfl (by decide) (by decide)
theorem own_inc (i t : Int32) (h : i < t) : (i + 1).toInt = i.toInt + 1 := by
  rw [Int32.lt_iff_toInt_lt] at h
  have h1 := t.toInt_lt; have h2 := i.le_toInt
  have e1 : (1 : Int32).toInt = 1 := by decide
  rw [Int32.toInt_add, e1]
  exact Int.bmod_eq_of_le (by show -(2:Int)^32/2 ≤ _; omega) (by show _ < ((2:Int)^32+1)/2; omega)
theorem own_nn (i : Int32) (h : 0 ≤ i.toInt) : ¬ i < 0 := by rw [Int32.lt_iff_toInt_lt]; have e : (0 : Int32).toInt = 0 := by decide
                                                             omega
theorem own_cl (i : Int32) (h0 : 0 ≤ i.toInt) : i.toNatClampNeg = i.toInt.toNat := rfl
theorem own_bd (i t : Int32) (n : Nat) (h0 : 0 ≤ i.toInt) (h : i < t) (ht : t.toInt ≤ n) : i.toNatClampNeg < n := by
  rw [Int32.lt_iff_toInt_lt] at h
  have e : (i.toNatClampNeg : Int) = i.toInt := by rw [Int32.toNatClampNeg]; omega
  omega
def run (xs : List Int32) : Nat → Nat → Int64 → Int64
  | 0, _, w => w
  | k + 1, i, w => run xs k (i + 1) (f_step w (xs.getD i 0))
def f_par (xs : List Int32) (f t : Int32) : Int64 := if f = t then (-1 : Int64) else run xs (t.toInt.toNat - f.toInt.toNat) f.toInt.toNat 0
theorem own_done (i t : Int32) (h0 : 0 ≤ i.toInt) (hb : i.toInt ≤ t.toInt) (h : ¬ i < t) : t.toInt.toNat - i.toInt.toNat = 0 := by
  rw [Int32.lt_iff_toInt_lt] at h; omega
theorem own_more (i t : Int32) (h0 : 0 ≤ i.toInt) (h : i < t) : t.toInt.toNat - i.toInt.toNat = (t.toInt.toNat - (i.toInt + 1).toNat) + 1 := by
  rw [Int32.lt_iff_toInt_lt] at h; omega
theorem own_s (i : Int32) (h0 : 0 ≤ i.toInt) : (i.toInt + 1).toNat = i.toInt.toNat + 1 := by omega
theorem step_neg (c : Int32) : f_step (-1) c = -1 := by
  unfold f_step; rw [if_pos (by decide)]
theorem run_neg (xs : List Int32) (k i : Nat) : run xs k i (-1) = -1 := by
  induction k generalizing i with
  | zero => rfl
  | succ k ih => rw [run, step_neg, ih]
theorem own_d (c : Int32) (h0 : 0 ≤ c.toInt) (h1 : c.toInt ≤ 65535) : (c - (48 : Int32)).toInt = c.toInt - 48 := by
  have e1 : (48 : Int32).toInt = 48 := by decide
  rw [Int32.toInt_sub, e1]
  exact Int.bmod_eq_of_le (by show -(2:Int)^32/2 ≤ _; omega) (by show _ < ((2:Int)^32+1)/2; omega)
theorem isd_no (c : Int32) (h0 : 0 ≤ c.toInt) (h1 : c.toInt ≤ 65535) (h : (c - (48 : Int32)) < 0 ∨ (9 : Int32) < (c - (48 : Int32))) : f_isd c = 0 := by
  have d := own_d c h0 h1
  have e0 : (0 : Int32).toInt = 0 := by decide
  have e9 : (9 : Int32).toInt = 9 := by decide
  have e48 : (48 : Int32).toInt = 48 := by decide
  have e57 : (57 : Int32).toInt = 57 := by decide
  unfold f_isd
  simp only [Int32.lt_iff_toInt_lt, d, e0, e9, e48, e57] at h ⊢
  by_cases q : c.toInt < 48
  · rw [if_pos q]
  · rw [if_neg q, if_pos (by omega)]
theorem isd_yes (c : Int32) (h0 : 0 ≤ c.toInt) (h1 : c.toInt ≤ 65535) (h : ¬ (c - (48 : Int32)) < 0) (h' : ¬ (9 : Int32) < (c - (48 : Int32))) : f_isd c = 1 ∧ 0 ≤ (c - (48 : Int32)).toInt ∧ (c - (48 : Int32)).toInt ≤ 9 := by
  have d := own_d c h0 h1
  have e0 : (0 : Int32).toInt = 0 := by decide
  have e9 : (9 : Int32).toInt = 9 := by decide
  have e48 : (48 : Int32).toInt = 48 := by decide
  have e57 : (57 : Int32).toInt = 57 := by decide
  unfold f_isd
  simp only [Int32.lt_iff_toInt_lt, d, e0, e9, e48, e57] at h h' ⊢
  rw [if_neg (by omega), if_neg (by omega)]
  exact ⟨rfl, by omega, by omega⟩
theorem step_no (w : Int64) (c : Int32) (h : f_isd c = 0) : f_step w c = -1 := by
  unfold f_step
  by_cases q : w < (0 : Int64)
  · rw [if_pos q]
  · rw [if_neg q, if_pos h]
theorem st1 (w : Int64) (c : Int32) (h0 : 0 ≤ c.toInt) (h1 : c.toInt ≤ 65535) (hw : 0 ≤ w.toInt) (q : (c - (48 : Int32)) < 0) : f_step w c = -1 := step_no w c (isd_no c h0 h1 (Or.inl q))
theorem st2 (w : Int64) (c : Int32) (h0 : 0 ≤ c.toInt) (h1 : c.toInt ≤ 65535) (hw : 0 ≤ w.toInt) (_ : ¬ (c - (48 : Int32)) < 0) (q : (9 : Int32) < (c - (48 : Int32))) : f_step w c = -1 := step_no w c (isd_no c h0 h1 (Or.inr q))
theorem step_dig (w : Int64) (c : Int32) (h0 : 0 ≤ c.toInt) (h1 : c.toInt ≤ 65535) (hw : 0 ≤ w.toInt) (h : ¬ (c - (48 : Int32)) < 0) (h' : ¬ (9 : Int32) < (c - (48 : Int32))) :
    (9223372036854775807 < w.toInt * 10 + (c - (48 : Int32)).toInt → f_step w c = -1) ∧ (w.toInt * 10 + (c - (48 : Int32)).toInt ≤ 9223372036854775807 → f_step w c = w * (10 : Int64) + (c - (48 : Int32)).toInt64 ∧ (w * (10 : Int64) + (c - (48 : Int32)).toInt64).toInt = w.toInt * 10 + (c - (48 : Int32)).toInt) := by
  obtain ⟨i1, d0, d9⟩ := isd_yes c h0 h1 h h'
  have e0 : (0 : Int64).toInt = 0 := by decide
  have e10 : (10 : Int64).toInt = 10 := by decide
  have eM : (9223372036854775807 : Int64).toInt = 9223372036854775807 := by decide
  have hd : ((c - (48 : Int32)).toInt64).toInt = (c - (48 : Int32)).toInt := Int32.toInt_toInt64 _
  have hs : ((9223372036854775807 : Int64) - (c - (48 : Int32)).toInt64).toInt = 9223372036854775807 - (c - (48 : Int32)).toInt := by
    rw [Int64.toInt_sub, hd, eM]
    exact Int.bmod_eq_of_le (by show -(2:Int)^64/2 ≤ _; omega) (by show _ < ((2:Int)^64+1)/2; omega)
  have hq := (c_ldiv ((9223372036854775807 : Int64) - (c - (48 : Int32)).toInt64) (10 : Int64) 10 e10 (by decide)).1 (by omega)
  rw [hs] at hq
  have n1 : ¬ w < (0 : Int64) := by rw [Int64.lt_iff_toInt_lt]; omega
  have n2 : ¬ f_isd c = 0 := by rw [i1]; decide
  unfold f_step
  rw [if_neg n1, if_neg n2]
  simp only [Int64.lt_iff_toInt_lt, hq]
  constructor
  · intro q; rw [if_pos (by omega)]
  · intro q; rw [if_neg (by omega)]
    refine ⟨rfl, ?_⟩
    have hm : (w * (10 : Int64)).toInt = w.toInt * 10 := by
      rw [Int64.toInt_mul, e10]
      exact Int.bmod_eq_of_le (by show -(2:Int)^64/2 ≤ _; omega) (by show _ < ((2:Int)^64+1)/2; omega)
    rw [Int64.toInt_add, hm, hd]
    exact Int.bmod_eq_of_le (by show -(2:Int)^64/2 ≤ _; omega) (by show _ < ((2:Int)^64+1)/2; omega)
theorem eLT : (922337203685477580 : Int64).toInt = 922337203685477580 := by decide
theorem e7 : (7 : Int32).toInt = 7 := by decide
theorem st3 (w : Int64) (c : Int32) (h0 : 0 ≤ c.toInt) (h1 : c.toInt ≤ 65535) (hw : 0 ≤ w.toInt) (h : ¬ (c - (48 : Int32)) < 0) (h' : ¬ (9 : Int32) < (c - (48 : Int32))) (_ : ¬ w < (922337203685477580 : Int64)) (q : (922337203685477580 : Int64) < w) : f_step w c = -1 := by
  obtain ⟨i1, d0, d9⟩ := isd_yes c h0 h1 h h'
  rw [Int64.lt_iff_toInt_lt, eLT] at q
  exact (step_dig w c h0 h1 hw h h').1 (by omega)
theorem st4 (w : Int64) (c : Int32) (h0 : 0 ≤ c.toInt) (h1 : c.toInt ≤ 65535) (hw : 0 ≤ w.toInt) (h : ¬ (c - (48 : Int32)) < 0) (h' : ¬ (9 : Int32) < (c - (48 : Int32))) (a : ¬ w < (922337203685477580 : Int64)) (_ : ¬ (922337203685477580 : Int64) < w) (q : (7 : Int32) < (c - (48 : Int32))) : f_step w c = -1 := by
  rw [Int64.lt_iff_toInt_lt, eLT] at a
  rw [Int32.lt_iff_toInt_lt, e7] at q
  exact (step_dig w c h0 h1 hw h h').1 (by omega)
theorem st5 (w : Int64) (c : Int32) (h0 : 0 ≤ c.toInt) (h1 : c.toInt ≤ 65535) (hw : 0 ≤ w.toInt) (h : ¬ (c - (48 : Int32)) < 0) (h' : ¬ (9 : Int32) < (c - (48 : Int32))) (a : w < (922337203685477580 : Int64)) : f_step w c = w * (10 : Int64) + (c - (48 : Int32)).toInt64 ∧ 0 ≤ (w * (10 : Int64) + (c - (48 : Int32)).toInt64).toInt := by
  obtain ⟨i1, d0, d9⟩ := isd_yes c h0 h1 h h'
  rw [Int64.lt_iff_toInt_lt, eLT] at a
  obtain ⟨x1, x2⟩ := (step_dig w c h0 h1 hw h h').2 (by omega)
  exact ⟨x1, by omega⟩
theorem st6 (w : Int64) (c : Int32) (h0 : 0 ≤ c.toInt) (h1 : c.toInt ≤ 65535) (hw : 0 ≤ w.toInt) (h : ¬ (c - (48 : Int32)) < 0) (h' : ¬ (9 : Int32) < (c - (48 : Int32))) (_ : ¬ w < (922337203685477580 : Int64)) (b : ¬ (922337203685477580 : Int64) < w) (q : ¬ (7 : Int32) < (c - (48 : Int32))) : f_step w c = w * (10 : Int64) + (c - (48 : Int32)).toInt64 ∧ 0 ≤ (w * (10 : Int64) + (c - (48 : Int32)).toInt64).toInt := by
  obtain ⟨i1, d0, d9⟩ := isd_yes c h0 h1 h h'
  rw [Int64.lt_iff_toInt_lt, eLT] at b
  rw [Int32.lt_iff_toInt_lt, e7] at q
  obtain ⟨x1, x2⟩ := (step_dig w c h0 h1 hw h h').2 (by omega)
  exact ⟨x1, by omega⟩
theorem d6_0 : decode prog_48_method_8_code 0 = .ok (.iload_n 1, 1) := by decide +kernel
theorem d6_1 : decode prog_48_method_8_code 1 = .ok (.iload_n 2, 1) := by decide +kernel
theorem d6_2 : decode prog_48_method_8_code 2 = .ok (.if_icmp .ne 7, 3) := by decide +kernel
theorem d6_5 : decode prog_48_method_8_code 5 = .ok (.ldc2_w 104, 3) := by decide +kernel
theorem d6_8 : decode prog_48_method_8_code 8 = .ok (.lreturn, 1) := by decide +kernel
theorem d6_9 : decode prog_48_method_8_code 9 = .ok (.lconst 0, 1) := by decide +kernel
theorem d6_10 : decode prog_48_method_8_code 10 = .ok (.lstore_n 3, 1) := by decide +kernel
theorem d6_11 : decode prog_48_method_8_code 11 = .ok (.iload_n 1, 1) := by decide +kernel
theorem d6_12 : decode prog_48_method_8_code 12 = .ok (.istore 5, 2) := by decide +kernel
theorem d6_14 : decode prog_48_method_8_code 14 = .ok (.iload 5, 2) := by decide +kernel
theorem d6_16 : decode prog_48_method_8_code 16 = .ok (.iload_n 2, 1) := by decide +kernel
theorem d6_17 : decode prog_48_method_8_code 17 = .ok (.if_icmp .ge 71, 3) := by decide +kernel
theorem d6_20 : decode prog_48_method_8_code 20 = .ok (.aload_n 0, 1) := by decide +kernel
theorem d6_21 : decode prog_48_method_8_code 21 = .ok (.iload 5, 2) := by decide +kernel
theorem d6_23 : decode prog_48_method_8_code 23 = .ok (.caload, 1) := by decide +kernel
theorem d6_24 : decode prog_48_method_8_code 24 = .ok (.bipush 48, 2) := by decide +kernel
theorem d6_26 : decode prog_48_method_8_code 26 = .ok (.isub, 1) := by decide +kernel
theorem d6_27 : decode prog_48_method_8_code 27 = .ok (.istore 6, 2) := by decide +kernel
theorem d6_29 : decode prog_48_method_8_code 29 = .ok (.iload 6, 2) := by decide +kernel
theorem d6_31 : decode prog_48_method_8_code 31 = .ok (.ifCond .lt 10, 3) := by decide +kernel
theorem d6_34 : decode prog_48_method_8_code 34 = .ok (.iload 6, 2) := by decide +kernel
theorem d6_36 : decode prog_48_method_8_code 36 = .ok (.bipush 9, 2) := by decide +kernel
theorem d6_38 : decode prog_48_method_8_code 38 = .ok (.if_icmp .le 7, 3) := by decide +kernel
theorem d6_41 : decode prog_48_method_8_code 41 = .ok (.ldc2_w 104, 3) := by decide +kernel
theorem d6_44 : decode prog_48_method_8_code 44 = .ok (.lreturn, 1) := by decide +kernel
theorem d6_45 : decode prog_48_method_8_code 45 = .ok (.lload_n 3, 1) := by decide +kernel
theorem d6_46 : decode prog_48_method_8_code 46 = .ok (.ldc2_w 106, 3) := by decide +kernel
theorem d6_49 : decode prog_48_method_8_code 49 = .ok (.lcmp, 1) := by decide +kernel
theorem d6_50 : decode prog_48_method_8_code 50 = .ok (.ifCond .lt 22, 3) := by decide +kernel
theorem d6_53 : decode prog_48_method_8_code 53 = .ok (.lload_n 3, 1) := by decide +kernel
theorem d6_54 : decode prog_48_method_8_code 54 = .ok (.ldc2_w 106, 3) := by decide +kernel
theorem d6_57 : decode prog_48_method_8_code 57 = .ok (.lcmp, 1) := by decide +kernel
theorem d6_58 : decode prog_48_method_8_code 58 = .ok (.ifCond .gt 10, 3) := by decide +kernel
theorem d6_61 : decode prog_48_method_8_code 61 = .ok (.iload 6, 2) := by decide +kernel
theorem d6_63 : decode prog_48_method_8_code 63 = .ok (.bipush 7, 2) := by decide +kernel
theorem d6_65 : decode prog_48_method_8_code 65 = .ok (.if_icmp .le 7, 3) := by decide +kernel
theorem d6_68 : decode prog_48_method_8_code 68 = .ok (.ldc2_w 104, 3) := by decide +kernel
theorem d6_71 : decode prog_48_method_8_code 71 = .ok (.lreturn, 1) := by decide +kernel
theorem d6_72 : decode prog_48_method_8_code 72 = .ok (.lload_n 3, 1) := by decide +kernel
theorem d6_73 : decode prog_48_method_8_code 73 = .ok (.ldc2_w 108, 3) := by decide +kernel
theorem d6_76 : decode prog_48_method_8_code 76 = .ok (.lmul, 1) := by decide +kernel
theorem d6_77 : decode prog_48_method_8_code 77 = .ok (.iload 6, 2) := by decide +kernel
theorem d6_79 : decode prog_48_method_8_code 79 = .ok (.i2l, 1) := by decide +kernel
theorem d6_80 : decode prog_48_method_8_code 80 = .ok (.ladd, 1) := by decide +kernel
theorem d6_81 : decode prog_48_method_8_code 81 = .ok (.lstore_n 3, 1) := by decide +kernel
theorem d6_82 : decode prog_48_method_8_code 82 = .ok (.iinc 5 1, 3) := by decide +kernel
theorem d6_85 : decode prog_48_method_8_code 85 = .ok (.goto (-71), 3) := by decide +kernel
theorem d6_88 : decode prog_48_method_8_code 88 = .ok (.lload_n 3, 1) := by decide +kernel
theorem d6_89 : decode prog_48_method_8_code 89 = .ok (.lreturn, 1) := by decide +kernel
theorem pn_6 : plainName "com/example/driftwalk/driftwalk/graph/EdgeListReader" = true := by first | (simp [plainName, overriddenIn]; done) | decide +kernel
theorem ef_6 (m : MethodId) (o1 : Addr) (p2 : Int32) (p3 : Int32) : entryFrame m #[(.ref o1), (.int p2), (.int p3)] 7 = mkF m 0 #[.val (.ref o1), .val (.int p2), .val (.int p3), .unset, .unset, .unset, .unset] [] := by first | (simp [entryFrame, mkF, argsToLocals, Value.category]; done) | rfl
set_option maxRecDepth 65536 in
set_option maxHeartbeats 4000000 in
theorem rm6 (l : Launch) (Z : State) (a0 : Array Value) (hw : ∀ d ∈ tables_1, d.before a0 Z = true) (o1 : Addr) (p2 : Int32) (p3 : Int32) (xs_o1 : List Int32) (h0 : Heap) (n0 : Nat) (Z0 : n0 ≤ h0.size) (A_o1 : AV Z h0 o1 .char (xs_o1.map Value.int)) (hf : 0 ≤ p2.toInt) (hft : p2.toInt ≤ p3.toInt) (ht : p3.toInt ≤ xs_o1.length) (hch : ∀ i, 0 ≤ (xs_o1.getD i 0).toInt ∧ (xs_o1.getD i 0).toInt ≤ 65535) :
    Con l Z (⟨"com/example/driftwalk/driftwalk/graph/EdgeListReader", "parseNumber", "([CII)J"⟩ : MethodName) prog_48_method_8_code 7 (some .long) ({ frames := 0, cells := 0, slots := 0, locals := 0 } : Room) #[(.ref o1), (.int p2), (.int p3)] h0 n0 (some (.long (f_par xs_o1 p2 p3))) (fun h => h = h0) := by
  refine con_of (plainFor_of_name pn_6) Z0 (fun m => ef_6 m o1 p2 p3) ?_
  intro p e s m below meth c T0 X0
  refine w_iloadN X0 d6_0 rfl rfl ?_
  refine w_iloadN X0 d6_1 rfl rfl ?_
  refine w_icmp_ne X0 d6_2 (by decide) (pcT := 9) (pcF := 5) (by decide) rfl (fun c1 => ?_) (fun c1 => ?_)
  · refine w_lconst X0 d6_9 (v := (0 : Int64)) rfl rfl ?_
    refine w_lstoreN X0 d6_10 rfl (L' := #[.val (.ref o1), .val (.int p2), .val (.int p3), .val (.long (0 : Int64)), .second, .unset, .unset]) rfl ?_
    refine w_iloadN X0 d6_11 rfl rfl ?_
    refine w_istore X0 d6_12 rfl (L' := #[.val (.ref o1), .val (.int p2), .val (.int p3), .val (.long (0 : Int64)), .second, .val (.int p2), .unset]) rfl ?_
    have cne := c1
    have loop : ∀ (k : Nat) (i : Int32) (w : Int64) (s6 : Slot) (T1 : State), Wk p l e ({ frames := 0, cells := 0, slots := 0, locals := 0 } : Room) s m #[(.ref o1), (.int p2), (.int p3)] below meth c Z n0 (⟨"com/example/driftwalk/driftwalk/graph/EdgeListReader", "parseNumber", "([CII)J"⟩ : MethodName) prog_48_method_8_code 7 (some .long) T1 0 0 h0 → 0 ≤ i.toInt → i.toInt ≤ p3.toInt → 0 ≤ w.toInt → p3.toInt - i.toInt < k → run xs_o1 (p3.toInt.toNat - p2.toInt.toNat) p2.toInt.toNat 0 = run xs_o1 (p3.toInt.toNat - i.toInt.toNat) i.toInt.toNat w → OneS s6 → Goes p e below (Done below s n0 ({ frames := 0, cells := 0, slots := 0, locals := 0 } : Room) (some (.long (f_par xs_o1 p2 p3))) (fun h => h = h0)) T1 m 14 #[.val (.ref o1), .val (.int p2), .val (.int p3), .val (.long w), .second, .val (.int i), s6] [] := by
      intro k
      induction k with
      | zero => intro i w s6 T1 X1 a1 b1 v1 g1; exact absurd g1 (by omega)
      | succ k ih =>
        intro i w s6 T1 X1 a1 b1 v1 g1 e1 hs6
        refine w_iload X1 d6_14 rfl rfl ?_
        refine w_iloadN X1 d6_16 rfl rfl ?_
        refine w_icmp_ge X1 d6_17 (by decide) (pcT := 88) (pcF := 20) (by decide) rfl (fun c2 => ?_) (fun c2 => ?_)
        · refine w_lloadN X1 d6_88 rfl rfl ?_
          exact w_lreturn X1 d6_89 (by unfold f_par; rw [if_neg cne, e1, own_done i p3 a1 b1 c2]; rfl) rfl (by decide) (by decide)
        · refine w_aloadN X1 d6_20 rfl rfl rfl ?_
          refine w_iload X1 d6_21 rfl rfl ?_
          refine w_caload X1 A_o1 (own_nn i a1) rfl (getI (own_bd i p3 _ a1 c2 ht)) d6_23 rfl ?_
          refine w_bipush X1 d6_24 (v := (48 : Int32)) rfl rfl ?_
          refine w_isub X1 d6_26 rfl ?_
          refine w_istore X1 d6_27 rfl (L' := #[.val (.ref o1), .val (.int p2), .val (.int p3), .val (.long w), .second, .val (.int i), .val (.int ((xs_o1.getD (i).toNatClampNeg 0) - (48 : Int32)))]) (XS.store1 (o := s6) rfl hs6 rfl) ?_
          refine w_iload X1 d6_29 rfl rfl ?_
          refine w_if_lt X1 d6_31 (by decide) (pcT := 41) (pcF := 34) (by decide) rfl (fun c3 => ?_) (fun c3 => ?_)
          · refine w_ldc2Long X1 (hw _ (List.mem_of_getElem? (i := 47) rfl)) d6_41 rfl ?_
            exact w_lreturn X1 d6_44 (by unfold f_par; rw [if_neg cne, e1, own_more i p3 a1 c2, run, show xs_o1.getD i.toInt.toNat 0 = xs_o1.getD i.toNatClampNeg 0 from rfl, st1 _ _ (hch _).1 (hch _).2 v1 c3, run_neg]) rfl (by decide) (by decide)
          · refine w_iload X1 d6_34 rfl rfl ?_
            refine w_bipush X1 d6_36 (v := (9 : Int32)) rfl rfl ?_
            refine w_icmp_le X1 d6_38 (by decide) (pcT := 45) (pcF := 41) (by decide) rfl (fun c4 => ?_) (fun c4 => ?_)
            · refine w_lloadN X1 d6_45 rfl rfl ?_
              refine w_ldc2Long X1 (hw _ (List.mem_of_getElem? (i := 45) rfl)) d6_46 rfl ?_
              refine w_lcmp_lt X1 d6_49 rfl d6_50 (by decide) (pcT := 72) (pcF := 53) (by decide) rfl (fun c5 => ?_) (fun c5 => ?_)
              · refine w_lloadN X1 d6_72 rfl rfl ?_
                refine w_ldc2Long X1 (hw _ (List.mem_of_getElem? (i := 46) rfl)) d6_73 rfl ?_
                refine w_lmul X1 d6_76 rfl ?_
                refine w_iload X1 d6_77 rfl rfl ?_
                refine w_i2l X1 d6_79 rfl ?_
                refine w_ladd X1 d6_80 rfl ?_
                refine w_lstoreN X1 d6_81 rfl (L' := #[.val (.ref o1), .val (.int p2), .val (.int p3), .val (.long ((w * (10 : Int64)) + (((xs_o1.getD (i).toNatClampNeg 0) - (48 : Int32)).toInt64))), .second, .val (.int i), .val (.int ((xs_o1.getD (i).toNatClampNeg 0) - (48 : Int32)))]) rfl ?_
                refine w_iinc X1 d6_82 rfl rfl (v' := (i + (1 : Int32))) rfl (L' := #[.val (.ref o1), .val (.int p2), .val (.int p3), .val (.long ((w * (10 : Int64)) + (((xs_o1.getD (i).toNatClampNeg 0) - (48 : Int32)).toInt64))), .second, .val (.int (i + (1 : Int32))), .val (.int ((xs_o1.getD (i).toNatClampNeg 0) - (48 : Int32)))]) rfl ?_
                refine w_goto X1 d6_85 (by decide) (pc' := 14) (by decide) ?_
                have u1 := own_inc i p3 c2
                have u2 := Int32.lt_iff_toInt_lt.mp c2
                have u3 := st5 _ _ (hch i.toNatClampNeg).1 (hch i.toNatClampNeg).2 v1 c3 c4 c5
                exact ih (i + 1) _ _ _ X1 (by omega) (by omega) u3.2 (by omega) (by rw [e1, own_more i p3 a1 c2, run, show xs_o1.getD i.toInt.toNat 0 = xs_o1.getD i.toNatClampNeg 0 from rfl, u3.1, u1, own_s i a1]) (OneS.i _)
              · refine w_lloadN X1 d6_53 rfl rfl ?_
                refine w_ldc2Long X1 (hw _ (List.mem_of_getElem? (i := 45) rfl)) d6_54 rfl ?_
                refine w_lcmp_gt X1 d6_57 rfl d6_58 (by decide) (pcT := 68) (pcF := 61) (by decide) rfl (fun c6 => ?_) (fun c6 => ?_)
                · refine w_ldc2Long X1 (hw _ (List.mem_of_getElem? (i := 47) rfl)) d6_68 rfl ?_
                  exact w_lreturn X1 d6_71 (by unfold f_par; rw [if_neg cne, e1, own_more i p3 a1 c2, run, show xs_o1.getD i.toInt.toNat 0 = xs_o1.getD i.toNatClampNeg 0 from rfl, st3 _ _ (hch _).1 (hch _).2 v1 c3 c4 c5 c6, run_neg]) rfl (by decide) (by decide)
                · refine w_iload X1 d6_61 rfl rfl ?_
                  refine w_bipush X1 d6_63 (v := (7 : Int32)) rfl rfl ?_
                  refine w_icmp_le X1 d6_65 (by decide) (pcT := 72) (pcF := 68) (by decide) rfl (fun c7 => ?_) (fun c7 => ?_)
                  · refine w_lloadN X1 d6_72 rfl rfl ?_
                    refine w_ldc2Long X1 (hw _ (List.mem_of_getElem? (i := 46) rfl)) d6_73 rfl ?_
                    refine w_lmul X1 d6_76 rfl ?_
                    refine w_iload X1 d6_77 rfl rfl ?_
                    refine w_i2l X1 d6_79 rfl ?_
                    refine w_ladd X1 d6_80 rfl ?_
                    refine w_lstoreN X1 d6_81 rfl (L' := #[.val (.ref o1), .val (.int p2), .val (.int p3), .val (.long ((w * (10 : Int64)) + (((xs_o1.getD (i).toNatClampNeg 0) - (48 : Int32)).toInt64))), .second, .val (.int i), .val (.int ((xs_o1.getD (i).toNatClampNeg 0) - (48 : Int32)))]) rfl ?_
                    refine w_iinc X1 d6_82 rfl rfl (v' := (i + (1 : Int32))) rfl (L' := #[.val (.ref o1), .val (.int p2), .val (.int p3), .val (.long ((w * (10 : Int64)) + (((xs_o1.getD (i).toNatClampNeg 0) - (48 : Int32)).toInt64))), .second, .val (.int (i + (1 : Int32))), .val (.int ((xs_o1.getD (i).toNatClampNeg 0) - (48 : Int32)))]) rfl ?_
                    refine w_goto X1 d6_85 (by decide) (pc' := 14) (by decide) ?_
                    have u1 := own_inc i p3 c2
                    have u2 := Int32.lt_iff_toInt_lt.mp c2
                    have u3 := st6 _ _ (hch i.toNatClampNeg).1 (hch i.toNatClampNeg).2 v1 c3 c4 c5 c6 c7
                    exact ih (i + 1) _ _ _ X1 (by omega) (by omega) u3.2 (by omega) (by rw [e1, own_more i p3 a1 c2, run, show xs_o1.getD i.toInt.toNat 0 = xs_o1.getD i.toNatClampNeg 0 from rfl, u3.1, u1, own_s i a1]) (OneS.i _)
                  · refine w_ldc2Long X1 (hw _ (List.mem_of_getElem? (i := 47) rfl)) d6_68 rfl ?_
                    exact w_lreturn X1 d6_71 (by unfold f_par; rw [if_neg cne, e1, own_more i p3 a1 c2, run, show xs_o1.getD i.toInt.toNat 0 = xs_o1.getD i.toNatClampNeg 0 from rfl, st4 _ _ (hch _).1 (hch _).2 v1 c3 c4 c5 c6 c7, run_neg]) rfl (by decide) (by decide)
            · refine w_ldc2Long X1 (hw _ (List.mem_of_getElem? (i := 47) rfl)) d6_41 rfl ?_
              exact w_lreturn X1 d6_44 (by unfold f_par; rw [if_neg cne, e1, own_more i p3 a1 c2, run, show xs_o1.getD i.toInt.toNat 0 = xs_o1.getD i.toNatClampNeg 0 from rfl, st2 _ _ (hch _).1 (hch _).2 v1 c3 c4, run_neg]) rfl (by decide) (by decide)
    exact loop (p3.toInt.toNat + 1) p2 0 _ _ X0 hf hft (by decide) (by omega) rfl OneS.u
  · refine w_ldc2Long X0 (hw _ (List.mem_of_getElem? (i := 47) rfl)) d6_5 rfl ?_
    exact w_lreturn X0 d6_8 (by unfold f_par; rw [if_pos c1]) rfl (by decide) (by decide)
def P10 : List Int64 := [1, 10, 100, 1000, 10000, 100000, 1000000, 10000000, 100000000, 1000000000, 10000000000, 100000000000, 1000000000000, 10000000000000, 100000000000000, 1000000000000000, 10000000000000000, 100000000000000000, 1000000000000000000]
theorem run_add (xs : List Int32) (k1 k2 i : Nat) (w : Int64) : run xs (k1 + k2) i w = run xs k2 (i + k1) (run xs k1 i w) := by
  induction k1 generalizing i w with
  | zero => rw [Nat.zero_add]; rfl
  | succ k1 ih => rw [Nat.succ_add, run, ih, run, Nat.add_assoc, Nat.add_comm 1 k1]
theorem run_congr (xs ys : List Int32) (k i : Nat) (w : Int64) (h : ∀ j, i ≤ j → j < i + k → xs.getD j 0 = ys.getD j 0) : run xs k i w = run ys k i w := by
  induction k generalizing i w with
  | zero => rfl
  | succ k ih => rw [run, run, h i (Nat.le_refl i) (by omega)]; exact ih _ _ (fun j a b => h j (by omega) (by omega))
theorem run_bad (xs : List Int32) (k i p : Nat) (w : Int64) (h1 : i ≤ p) (h2 : p < i + k) (hb : f_isd (xs.getD p 0) = 0) : run xs k i w = -1 := by
  obtain ⟨a, rfl⟩ : ∃ a, p = i + a := ⟨p - i, by omega⟩
  obtain ⟨b, rfl⟩ : ∃ b, k = a + (b + 1) := ⟨k - a - 1, by omega⟩
  rw [run_add, run, step_no _ _ hb, run_neg]
theorem own_pw (m : Nat) (h : m ≤ 18) : (10 : Nat) ^ m < 2 ^ 63 := Nat.lt_of_le_of_lt (Nat.pow_le_pow_right (by decide) h) (by decide)
theorem own_dstep (V j m : Nat) (hj : j < 19) : (V / 10 ^ (19 - (j + 1))) % 10 ^ (m + 1) = ((V / 10 ^ (19 - j)) % 10 ^ m) * 10 + (V / 10 ^ (18 - j)) % 10 := by
  have e1 : 19 - (j + 1) = 18 - j := by omega
  have e2 : 19 - j = (18 - j) + 1 := by omega
  have a : 10 ^ (18 - j + 1) = 10 ^ (18 - j) * 10 := Nat.pow_succ ..
  rw [e1, e2, a, ← Nat.div_div_eq_div_mul, Nat.pow_succ, Nat.mul_comm (10 ^ m) 10, Nat.mod_mul]
  omega
theorem own_i64 (n : Nat) (h : n < 2 ^ 63) : (Int64.ofNat n).toInt = n := Int64.toInt_ofNat_of_lt h
theorem own_i32 (n : Nat) (h : n < 2 ^ 31) : (Int32.ofNat n).toInt = n := Int32.toInt_ofNat_of_lt h
theorem run_dig (V : Nat) (hV : V < 2 ^ 63) (xs : List Int32) (hx : ∀ i, i < 19 → xs.getD i 0 = Int32.ofNat (48 + (V / 10 ^ (18 - i)) % 10)) (f m : Nat) (h : f + m ≤ 19) : run xs m f 0 = Int64.ofNat ((V / 10 ^ (19 - (f + m))) % 10 ^ m) := by
  induction m with
  | zero => rw [run, Nat.pow_zero, Nat.mod_one]; rfl
  | succ m ih =>
    rw [run_add, ih (by omega), run, run, hx (f + m) (by omega), ← Nat.add_assoc, own_dstep V (f + m) m (by omega)]
    have hA : (V / 10 ^ (19 - (f + m))) % 10 ^ m ≤ V / 10 ^ (19 - (f + m)) := Nat.mod_le _ _
    have hS := own_dstep V (f + m) m (by omega)
    have hB : (V / 10 ^ (19 - (f + m + 1))) % 10 ^ (m + 1) ≤ V := Nat.le_trans (Nat.mod_le _ _) (Nat.div_le_self _ _)
    have hA2 : V / 10 ^ (19 - (f + m)) ≤ V := Nat.div_le_self _ _
    generalize (V / 10 ^ (19 - (f + m))) % 10 ^ m = A at *
    have hD : (V / 10 ^ (18 - (f + m))) % 10 < 10 := Nat.mod_lt _ (by decide)
    generalize (V / 10 ^ (18 - (f + m))) % 10 = D at *
    have c1 : (Int32.ofNat (48 + D)).toInt = 48 + D := by rw [own_i32 _ (by omega)]; omega
    have c2 := own_d (Int32.ofNat (48 + D)) (by omega) (by omega)
    have w1 : (Int64.ofNat A).toInt = A := own_i64 A (by omega)
    have e0 : (0 : Int32).toInt = 0 := by decide
    have e9 : (9 : Int32).toInt = 9 := by decide
    obtain ⟨s1, s2⟩ := (step_dig (Int64.ofNat A) (Int32.ofNat (48 + D)) (by omega) (by omega) (by omega) (by rw [Int32.lt_iff_toInt_lt]; omega) (by rw [Int32.lt_iff_toInt_lt]; omega)).2 (by omega)
    rw [s1]
    apply Int64.toInt_inj.mp
    rw [s2, own_i64 (A * 10 + D) (by omega), w1, c2, c1]
    omega
theorem own_P10 : ∀ i : Fin 19, (P10.getD i.val 0).toInt = 10 ^ i.val ∧ P10.getD i.val 0 ≠ -1 ∧ P10.getD i.val 0 ≠ 0 := by decide +kernel
def gw0 (v : Int64) (f hi : Int32) : Int64 := if f < hi then (if (hi - f) = (19 : Int32) then (v / (P10.getD (((19 : Int32) - hi)).toNatClampNeg 0)) else ((v / (P10.getD (((19 : Int32) - hi)).toNatClampNeg 0)) % (P10.getD ((hi - f)).toNatClampNeg 0))) else (0 : Int64)
def gw1 (v : Int64) (f t c1 : Int32) : Int64 := if t < (20 : Int32) then gw0 v f (f_min t (19 : Int32)) else (if (19 : Int32) < f then gw0 v f (f_min t (19 : Int32)) else f_step (gw0 v f (f_min t (19 : Int32))) c1)
def gw2 (v : Int64) (f t c1 c2 : Int32) : Int64 := if t = (21 : Int32) then f_step (gw1 v f t c1) c2 else gw1 v f t c1
theorem own_sub32 (a b : Int32) (h1 : -2147483648 ≤ a.toInt - b.toInt) (h2 : a.toInt - b.toInt < 2147483648) : (a - b).toInt = a.toInt - b.toInt := by
  rw [Int32.toInt_sub]
  exact Int.bmod_eq_of_le (by show -(2:Int)^32/2 ≤ _; omega) (by show _ < ((2:Int)^32+1)/2; omega)
theorem own_fmin (a b : Int32) : (f_min a b).toInt = min a.toInt b.toInt := by
  unfold f_min; split <;> (rename_i q; rw [Int32.lt_iff_toInt_lt] at q; omega)
theorem own_fmax (a b : Int32) : (f_max a b).toInt = max a.toInt b.toInt := by
  unfold f_max; split <;> (rename_i q; rw [Int32.lt_iff_toInt_lt] at q; omega)
theorem own_gw0 (V : Nat) (hV : V < 2 ^ 63) (v : Int64) (hv : v.toInt = V) (f hi : Int32) (F H : Nat) (hf : f.toInt = F) (hh : hi.toInt = H) (hH : H ≤ 19) (hFH : F < H) : gw0 v f hi = Int64.ofNat ((V / 10 ^ (19 - H)) % 10 ^ (H - F)) := by
  have e19 : (19 : Int32).toInt = 19 := by decide
  have c : f < hi := by rw [Int32.lt_iff_toInt_lt]; omega
  have s1 : ((19 : Int32) - hi).toInt = 19 - hi.toInt := by rw [own_sub32 _ _ (by omega) (by omega), e19]
  have s2 : (hi - f).toInt = hi.toInt - f.toInt := own_sub32 _ _ (by omega) (by omega)
  have n1 : ((19 : Int32) - hi).toNatClampNeg = 19 - H := by show ((19 : Int32) - hi).toInt.toNat = _; omega
  have n2 : (hi - f).toNatClampNeg = H - F := by show (hi - f).toInt.toNat = _; omega
  unfold gw0
  rw [if_pos c, n1, n2]
  obtain ⟨p1, p2, p3⟩ := own_P10 ⟨19 - H, by omega⟩
  have q1 := (c_ldiv v (P10.getD (19 - H) 0) (10 ^ (19 - H)) p1 p2).1 (by omega)
  have cast : ((10 : Int) ^ (19 - H)) = ((10 ^ (19 - H) : Nat) : Int) := by norm_cast
  have q2 : (v / P10.getD (19 - H) 0).toInt = ((V / 10 ^ (19 - H) : Nat) : Int) := by rw [q1, hv, cast]; norm_cast
  have b1 : V / 10 ^ (19 - H) ≤ V := Nat.div_le_self _ _
  have b2 : (V / 10 ^ (19 - H)) % 10 ^ (H - F) ≤ V / 10 ^ (19 - H) := Nat.mod_le _ _
  apply Int64.toInt_inj.mp
  rw [own_i64 _ (by omega)]
  by_cases d : hi - f = (19 : Int32)
  · rw [if_pos d, q2]
    have : (hi - f).toInt = 19 := by rw [d]; exact e19
    have hm : H - F = 19 := by omega
    rw [hm, Nat.mod_eq_of_lt (Nat.lt_of_le_of_lt b1 (Nat.lt_trans hV (by decide)))]
  · rw [if_neg d]
    have hm : H - F < 19 := by
      have : H - F ≠ 19 := fun q => d (Int32.toInt_inj.mp (by rw [s2, e19]; omega))
      omega
    obtain ⟨r1, r2, r3⟩ := own_P10 ⟨H - F, hm⟩
    have q3 := (c_lrem (v / P10.getD (19 - H) 0) (P10.getD (H - F) 0) (10 ^ (H - F)) r1).1 (by omega)
    rw [lrem_mod] at q3
    have cast2 : ((10 : Int) ^ (H - F)) = ((10 ^ (H - F) : Nat) : Int) := by norm_cast
    rw [q3, q2, cast2]; norm_cast
theorem own_gz (v : Int64) (f hi : Int32) (h : ¬ f < hi) : gw0 v f hi = 0 := by unfold gw0; rw [if_neg h]
theorem own_law (V : Nat) (hV : V < 2 ^ 63) (v : Int64) (hv : v.toInt = V) (xs : List Int32) (hx : ∀ i, i < 19 → xs.getD i 0 = Int32.ofNat (48 + (V / 10 ^ (18 - i)) % 10)) (f t c1 c2 : Int32) (h19 : xs.getD 19 0 = c1) (h20 : xs.getD 20 0 = c2) (hf : 0 ≤ f.toInt) (hft : f.toInt ≤ t.toInt) (ht : t.toInt ≤ 21) (hne : ¬ f = t) : f_par xs f t = gw2 v f t c1 c2 := by
  have hne' : f.toInt ≠ t.toInt := fun q => hne (Int32.toInt_inj.mp q)
  obtain ⟨F, hF⟩ : ∃ F : Nat, f.toInt = F := ⟨f.toInt.toNat, by omega⟩
  obtain ⟨T, hT⟩ : ∃ T : Nat, t.toInt = T := ⟨t.toInt.toNat, by omega⟩
  have e19 : (19 : Int32).toInt = 19 := by decide
  have e20 : (20 : Int32).toInt = 20 := by decide
  have e21 : (21 : Int32).toInt = 21 := by decide
  have hm := own_fmin t 19
  unfold f_par
  rw [if_neg hne, hF, hT, Int.toNat_natCast, Int.toNat_natCast]
  have g0 : ∀ H : Nat, (f_min t (19 : Int32)).toInt = H → H ≤ 19 → F ≤ H → run xs (H - F) F 0 = gw0 v f (f_min t (19 : Int32)) := by
    intro H h1 h2 h3
    by_cases c : F < H
    · rw [own_gw0 V hV v hv f _ F H hF h1 h2 c, run_dig V hV xs hx F (H - F) (by omega)]
      rw [show F + (H - F) = H by omega]
    · rw [own_gz _ _ _ (by rw [Int32.lt_iff_toInt_lt]; omega), show H - F = 0 by omega]; rfl
  unfold gw2 gw1
  by_cases k1 : T ≤ 19
  · rw [if_neg (fun q => by rw [q, e21] at hT; omega), if_pos (by rw [Int32.lt_iff_toInt_lt]; omega)]
    exact g0 T (by omega) k1 (by omega)
  · have n20 : ¬ t < (20 : Int32) := by rw [Int32.lt_iff_toInt_lt]; omega
    rw [if_neg n20]
    by_cases k2 : F ≤ 19
    · have n19 : ¬ (19 : Int32) < f := by rw [Int32.lt_iff_toInt_lt]; omega
      rw [if_neg n19]
      have g1 : run xs (20 - F) F 0 = f_step (gw0 v f (f_min t (19 : Int32))) c1 := by
        rw [show 20 - F = (19 - F) + 1 by omega, run_add, g0 19 (by omega) (by omega) k2, show F + (19 - F) = 19 by omega, run, run, h19]
      by_cases k3 : T = 20
      · rw [if_neg (fun q => by rw [q, e21] at hT; omega), k3, g1]
      · have : T = 21 := by omega
        rw [if_pos (Int32.toInt_inj.mp (by omega)), this, show 21 - F = (20 - F) + 1 by omega, run_add, g1, show F + (20 - F) = 20 by omega, run, run, h20]
    · have y19 : (19 : Int32) < f := by rw [Int32.lt_iff_toInt_lt]; omega
      have hF2 : F = 20 := by omega
      have hT2 : T = 21 := by omega
      rw [if_pos y19, if_pos (Int32.toInt_inj.mp (by omega)), own_gz _ _ _ (by rw [Int32.lt_iff_toInt_lt]; omega), hF2, hT2]
      show run xs 1 20 0 = _
      rw [run, run, h20]
theorem own_sp1 (xs : List Int32) (f t p s : Int32) (hf : 0 ≤ f.toInt) (hft : f.toInt ≤ t.toInt) (hne : ¬ f = t) (hl : t.toInt ≤ xs.length) (h1 : ¬ p < f) (h2 : p < t) (hs : f_isd s = 0) : f_par (xs.set (p).toNatClampNeg s) f t = -1 := by
  rw [Int32.lt_iff_toInt_lt] at h1 h2
  unfold f_par
  rw [if_neg hne]
  have e : p.toNatClampNeg = p.toInt.toNat := rfl
  refine run_bad _ _ _ p.toNatClampNeg _ (by omega) (by omega) ?_
  rw [List.getD_eq_getElem?_getD, List.getElem?_set_self (by omega)]; exact hs
theorem own_sp2 (xs : List Int32) (f t p s : Int32) (hf : 0 ≤ f.toInt) (hp : 0 ≤ p.toInt) (h : p < f ∨ ¬ p < t) : f_par (xs.set (p).toNatClampNeg s) f t = f_par xs f t := by
  rw [Int32.lt_iff_toInt_lt, Int32.lt_iff_toInt_lt] at h
  have e : p.toNatClampNeg = p.toInt.toNat := rfl
  unfold f_par
  by_cases c : f = t
  · rw [if_pos c, if_pos c]
  · rw [if_neg c, if_neg c]
    refine run_congr _ _ _ _ _ fun j a b => ?_
    rw [List.getD_eq_getElem?_getD, List.getElem?_set_ne (by omega), ← List.getD_eq_getElem?_getD]
theorem own_chr (x : Int32) : 0 ≤ (nar .char x).toInt ∧ (nar .char x).toInt ≤ 65535 := by
  have h := rng_char (fits_nar_char x)
  simp only [Int32.lt_iff_toInt_lt] at h
  have e0 : (0 : Int32).toInt = 0 := by decide
  have e1 : (65535 : Int32).toInt = 65535 := by decide
  omega
theorem own_idem (x : Int32) (h0 : 0 ≤ x.toInt) (h1 : x.toInt ≤ 65535) : nar .char x = x := by
  have h := c_i2c x
  apply Int32.toInt_inj.mp
  show x.toUInt32.toUInt16.toUInt32.toInt32.toInt = x.toInt
  omega
theorem own_nn2 (x : Int32) : nar .char (nar .char x) = nar .char x := own_idem _ (own_chr x).1 (own_chr x).2
theorem own_drawn (q : Int64) : nar .char (f_drawn q) = f_drawn q := by
  unfold f_drawn; split <;> exact own_nn2 _
theorem own_dig (v P : Int64) (k : Nat) (hv : 0 ≤ v.toInt) (hP : P.toInt = ((10 ^ k : Nat) : Int)) (hn : P ≠ -1) : nar .char (f_dig v P) = Int32.ofNat (48 + (v.toInt.toNat / 10 ^ k) % 10) := by
  have e10 : (10 : Int64).toInt = 10 := by decide
  have q1 := (c_ldiv v P _ hP hn).1 hv
  have q2 : (v / P).toInt = ((v.toInt.toNat / 10 ^ k : Nat) : Int) := by rw [q1]; conv => lhs; rw [← Int.toNat_of_nonneg hv]
                                                                         norm_cast
  have q3 := (c_lrem (v / P) 10 10 e10).1 (by rw [q2]; exact Int.natCast_nonneg _)
  rw [lrem_mod, q2] at q3
  have hD : (v.toInt.toNat / 10 ^ k) % 10 < 10 := Nat.mod_lt _ (by decide)
  have q4 : ((v / P) % 10).toInt = (((v.toInt.toNat / 10 ^ k) % 10 : Nat) : Int) := by rw [q3]; norm_cast
  generalize (v.toInt.toNat / 10 ^ k) % 10 = D at *
  have q5 : ((v / P) % 10).toInt32 = Int32.ofNat D := by
    have : (v / P) % 10 = Int64.ofNat D := Int64.toInt_inj.mp (by rw [q4, own_i64 _ (by omega)])
    rw [this]
    have : ∀ d : Fin 10, (Int64.ofNat d.val).toInt32 = Int32.ofNat d.val := by decide
    exact this ⟨D, hD⟩
  unfold f_dig
  rw [q5]
  have : ∀ d : Fin 10, nar .char (nar .char (((48 : Int32) + (Int32.ofNat d.val)).toUInt32.toUInt16.toUInt32.toInt32)) = Int32.ofNat (48 + d.val) := by decide +kernel
  exact this ⟨D, hD⟩
theorem own_rng (xs : List Int32) (h : ∀ z ∈ xs, ∃ y, z = nar .char y) (i : Nat) : 0 ≤ (xs.getD i 0).toInt ∧ (xs.getD i 0).toInt ≤ 65535 := by
  rw [List.getD_eq_getElem?_getD]
  cases e : xs[i]? with
  | none => exact ⟨by decide, by decide⟩
  | some z => obtain ⟨y, rfl⟩ := h z (List.mem_of_getElem? e); exact own_chr y
theorem own_rngS (xs : List Int32) (h : ∀ i, 0 ≤ (xs.getD i 0).toInt ∧ (xs.getD i 0).toInt ≤ 65535) (p : Nat) (y : Int32) (i : Nat) : 0 ≤ ((xs.set p (nar .char y)).getD i 0).toInt ∧ ((xs.set p (nar .char y)).getD i 0).toInt ≤ 65535 := by
  rw [List.getD_eq_getElem?_getD, List.getElem?_set]
  by_cases c : p = i
  · rw [if_pos c]
    by_cases c2 : p < xs.length
    · rw [if_pos c2]; exact own_chr y
    · rw [if_neg c2]; exact ⟨by decide, by decide⟩
  · rw [if_neg c, ← List.getD_eq_getElem?_getD]; exact h i
theorem own_r22 (x z : Int32) (h : (x &&& (255 : Int32)) % (22 : Int32) = z) : 0 ≤ z.toInt ∧ z.toInt ≤ 21 := by
  obtain ⟨q1, q2⟩ := c_and x 255 (by decide)
  have e : (22 : Int32).toInt = 22 := by decide
  have q := (c_iremV (x &&& (255 : Int32)) 22).1 q1 (by omega)
  rw [h] at q; omega
theorem own_r19 (x z : Int32) (h : (x &&& (31 : Int32)) % (19 : Int32) = z) : 0 ≤ z.toInt ∧ z.toInt ≤ 18 := by
  obtain ⟨q1, q2⟩ := c_and x 31 (by decide)
  have e : (19 : Int32).toInt = 19 := by decide
  have q := (c_iremV (x &&& (31 : Int32)) 19).1 q1 (by omega)
  rw [h] at q; omega
theorem own_ft (x y a b f t : Int32) (h1 : (x &&& (255 : Int32)) % (22 : Int32) = a) (h2 : (y &&& (255 : Int32)) % (22 : Int32) = b) (h3 : f_min a b = f) (h4 : f_max a b = t) : 0 ≤ f.toInt ∧ f.toInt ≤ t.toInt ∧ t.toInt ≤ 21 := by
  have p1 := own_r22 _ _ h1; have p2 := own_r22 _ _ h2
  rw [← h3, ← h4, own_fmin, own_fmax]; omega
theorem own_hi (f t hi : Int32) (hf : 0 ≤ f.toInt) (h : f_min t (19 : Int32) = hi) (c : f < hi) : ((19 : Int32) - hi).toInt = 19 - hi.toInt ∧ (hi - f).toInt = hi.toInt - f.toInt ∧ hi.toInt ≤ 19 ∧ f.toInt < hi.toInt := by
  have e19 : (19 : Int32).toInt = 19 := by decide
  have m := own_fmin t 19
  rw [h] at m
  rw [Int32.lt_iff_toInt_lt] at c
  exact ⟨by rw [own_sub32 _ _ (by omega) (by omega), e19], own_sub32 _ _ (by omega) (by omega), by omega, c⟩
theorem own_i0 (f t hi : Int32) (hf : 0 ≤ f.toInt) (h : f_min t (19 : Int32) = hi) (c : f < hi) : ¬ ((19 : Int32) - hi) < 0 := by
  obtain ⟨a, b, d, g⟩ := own_hi f t hi hf h c
  exact own_nn _ (by omega)
theorem own_i1 (f t hi : Int32) (hf : 0 ≤ f.toInt) (h : f_min t (19 : Int32) = hi) (c : f < hi) : ((19 : Int32) - hi).toNatClampNeg < 19 := by
  obtain ⟨a, b, d, g⟩ := own_hi f t hi hf h c
  show ((19 : Int32) - hi).toInt.toNat < 19
  omega
theorem own_j0 (f t hi : Int32) (hf : 0 ≤ f.toInt) (h : f_min t (19 : Int32) = hi) (c : f < hi) : ¬ (hi - f) < 0 := by
  obtain ⟨a, b, d, g⟩ := own_hi f t hi hf h c
  exact own_nn _ (by omega)
theorem own_j1 (f t hi : Int32) (hf : 0 ≤ f.toInt) (h : f_min t (19 : Int32) = hi) (c : f < hi) (d : ¬ (hi - f) = (19 : Int32)) : (hi - f).toNatClampNeg < 19 := by
  obtain ⟨a, b, e, g⟩ := own_hi f t hi hf h c
  have e19 : (19 : Int32).toInt = 19 := by decide
  have : (hi - f).toInt ≠ 19 := fun q => d (Int32.toInt_inj.mp (by rw [q, e19]))
  show (hi - f).toInt.toNat < 19
  omega
theorem own_nz (k : Nat) (h : k < 19) : P10.getD k 0 ≠ 0 := (own_P10 ⟨k, h⟩).2.2
theorem own_v (a z : Int64) (h : a &&& (9223372036854775807 : Int64) = z) : 0 ≤ z.toInt := by
  rw [← h]; exact (c_andSL a (9223372036854775807 : Int64)).2.2 (by decide)
theorem own_s0 (x z : Int32) (h : ((x &&& (65535 : Int32)).toUInt32.toUInt16.toUInt32.toInt32) = z) : 0 ≤ z.toInt := by rw [← h]; exact (own_chr _).1
theorem own_s1 (x z : Int32) (h : ((x &&& (65535 : Int32)).toUInt32.toUInt16.toUInt32.toInt32) = z) : z.toInt ≤ 65535 := by rw [← h]; exact (own_chr _).2
theorem pd_1 : parseMethodDescriptor "(JJ)C" = some ⟨[.long, .long], some .char⟩ := by decide +kernel
theorem pd_2 : parseMethodDescriptor "(J)C" = some ⟨[.long], some .char⟩ := by decide +kernel
theorem pd_3 : parseMethodDescriptor "(II)I" = some ⟨[.int, .int], some .int⟩ := by decide +kernel
theorem pd_4 : parseMethodDescriptor "([CII)J" = some ⟨[(.array .char), .int, .int], some .long⟩ := by decide +kernel
theorem pd_5 : parseMethodDescriptor "(JC)J" = some ⟨[.long, .char], some .long⟩ := by decide +kernel
theorem pn_0 : plainName "com/example/driftwalk/driftwalk/graph/EdgeListReaderParseNumberPinLaw" = true := by first | (simp [plainName, overriddenIn]; done) | decide +kernel
theorem ef_0 (m : MethodId) (q1 : Int64) (q2 : Int64) (q3 : Int64) (p4 : Int32) (p5 : Int32) : entryFrame m #[(.long q1), (.long q2), (.long q3), (.int p4), (.int p5)] maxLocals = mkF m 0 #[.val (.long q1), .second, .val (.long q2), .second, .val (.long q3), .second, .val (.int p4), .val (.int p5), .unset, .unset, .unset, .unset, .unset, .unset, .unset, .unset, .unset, .unset, .unset, .unset, .unset, .unset, .unset, .unset, .unset, .unset, .unset, .unset, .unset, .unset, .unset] [] := by first | (simp [entryFrame, mkF, argsToLocals, Value.category, maxLocals]; done) | rfl
set_option maxRecDepth 65536 in
set_option maxHeartbeats 40000000 in
theorem rm0 (l : Launch) (Z : State) (a0 : Array Value) (hw : ∀ d ∈ tables_1, d.before a0 Z = true) (q1 : Int64) (q2 : Int64) (q3 : Int64) (p4 : Int32) (p5 : Int32) (h0 : Heap) (n0 : Nat) (Z0 : n0 ≤ h0.size) :
    Con l Z x code maxLocals ret room_1 #[(.long q1), (.long q2), (.long q3), (.int p4), (.int p5)] h0 n0 (some (.int 1)) (fun _ => True) := by
  refine con_of (plainFor_of_name pn_0) Z0 (fun m => ef_0 m q1 q2 q3 p4 p5) ?_
  intro p e s m below meth c T0 X0
  refine w_lloadN X0 at_0 rfl rfl ?_
  refine w_ldc2Long X0 (hw _ (List.mem_of_getElem? (i := 0) rfl)) at_1 rfl ?_
  refine w_land X0 at_4 rfl ?_
  generalize hz1 : (q1 &&& (9223372036854775807 : Int64)) = z1
  refine w_lstore X0 at_5 rfl (L' := #[.val (.long q1), .second, .val (.long q2), .second, .val (.long q3), .second, .val (.int p4), .val (.int p5), .val (.long z1), .second, .unset, .unset, .unset, .unset, .unset, .unset, .unset, .unset, .unset, .unset, .unset, .unset, .unset, .unset, .unset, .unset, .unset, .unset, .unset, .unset, .unset]) rfl ?_
  refine w_bipush X0 at_7 (v := (19 : Int32)) rfl rfl ?_
  refine w_newP X0 (hw _ (List.mem_of_getElem? (i := 1) rfl)) (by decide) (k := 19) (by decide) (cap := 19) (by decide) (by decide) (by decide) (by decide) at_9 rfl fun T2 h4 a5 X3 ga6 gn7 E8 A9 => ?_
  have g010 : h0.size ≤ a5 := by rw [ga6]; exact (Keep.refl h0 []).1
  have k11 : Keep h0 h4 [] := (Keep.refl h0 []).ext E8
  have f12 : AV Z h4 a5 .long [(.long (0 : Int64)), (.long (0 : Int64)), (.long (0 : Int64)), (.long (0 : Int64)), (.long (0 : Int64)), (.long (0 : Int64)), (.long (0 : Int64)), (.long (0 : Int64)), (.long (0 : Int64)), (.long (0 : Int64)), (.long (0 : Int64)), (.long (0 : Int64)), (.long (0 : Int64)), (.long (0 : Int64)), (.long (0 : Int64)), (.long (0 : Int64)), (.long (0 : Int64)), (.long (0 : Int64)), (.long (0 : Int64))] := A9
  refine w_dup X3 at_11 rfl rfl ?_
  refine w_iconst X3 at_12 (v := (0 : Int32)) rfl rfl ?_
  refine w_lconst X3 at_13 (v := (1 : Int64)) rfl rfl ?_
  refine w_lastore X3 f12 (by decide) (i := 0) (by decide) (Nat.le_of_ble_eq_true rfl) gn7 at_14 rfl fun T13 h16 X14 W15 A17 => ?_
  have f18 : AV Z h16 a5 .long [(.long (1 : Int64)), (.long (0 : Int64)), (.long (0 : Int64)), (.long (0 : Int64)), (.long (0 : Int64)), (.long (0 : Int64)), (.long (0 : Int64)), (.long (0 : Int64)), (.long (0 : Int64)), (.long (0 : Int64)), (.long (0 : Int64)), (.long (0 : Int64)), (.long (0 : Int64)), (.long (0 : Int64)), (.long (0 : Int64)), (.long (0 : Int64)), (.long (0 : Int64)), (.long (0 : Int64)), (.long (0 : Int64))] := A17
  have k19 : Keep h0 h16 [] := k11.wr W15 (Or.inr g010)
  refine w_dup X14 at_15 rfl rfl ?_
  refine w_iconst X14 at_16 (v := (1 : Int32)) rfl rfl ?_
  refine w_ldc2Long X14 (hw _ (List.mem_of_getElem? (i := 2) rfl)) at_17 rfl ?_
  refine w_lastore X14 f18 (by decide) (i := 1) (by decide) (Nat.le_of_ble_eq_true rfl) gn7 at_20 rfl fun T20 h23 X21 W22 A24 => ?_
  have f25 : AV Z h23 a5 .long [(.long (1 : Int64)), (.long (10 : Int64)), (.long (0 : Int64)), (.long (0 : Int64)), (.long (0 : Int64)), (.long (0 : Int64)), (.long (0 : Int64)), (.long (0 : Int64)), (.long (0 : Int64)), (.long (0 : Int64)), (.long (0 : Int64)), (.long (0 : Int64)), (.long (0 : Int64)), (.long (0 : Int64)), (.long (0 : Int64)), (.long (0 : Int64)), (.long (0 : Int64)), (.long (0 : Int64)), (.long (0 : Int64))] := A24
  have k26 : Keep h0 h23 [] := k19.wr W22 (Or.inr g010)
  refine w_dup X21 at_21 rfl rfl ?_
  refine w_iconst X21 at_22 (v := (2 : Int32)) rfl rfl ?_
  refine w_ldc2Long X21 (hw _ (List.mem_of_getElem? (i := 3) rfl)) at_23 rfl ?_
  refine w_lastore X21 f25 (by decide) (i := 2) (by decide) (Nat.le_of_ble_eq_true rfl) gn7 at_26 rfl fun T27 h30 X28 W29 A31 => ?_
  have f32 : AV Z h30 a5 .long [(.long (1 : Int64)), (.long (10 : Int64)), (.long (100 : Int64)), (.long (0 : Int64)), (.long (0 : Int64)), (.long (0 : Int64)), (.long (0 : Int64)), (.long (0 : Int64)), (.long (0 : Int64)), (.long (0 : Int64)), (.long (0 : Int64)), (.long (0 : Int64)), (.long (0 : Int64)), (.long (0 : Int64)), (.long (0 : Int64)), (.long (0 : Int64)), (.long (0 : Int64)), (.long (0 : Int64)), (.long (0 : Int64))] := A31
  have k33 : Keep h0 h30 [] := k26.wr W29 (Or.inr g010)
  refine w_dup X28 at_27 rfl rfl ?_
  refine w_iconst X28 at_28 (v := (3 : Int32)) rfl rfl ?_
  refine w_ldc2Long X28 (hw _ (List.mem_of_getElem? (i := 4) rfl)) at_29 rfl ?_
  refine w_lastore X28 f32 (by decide) (i := 3) (by decide) (Nat.le_of_ble_eq_true rfl) gn7 at_32 rfl fun T34 h37 X35 W36 A38 => ?_
  have f39 : AV Z h37 a5 .long [(.long (1 : Int64)), (.long (10 : Int64)), (.long (100 : Int64)), (.long (1000 : Int64)), (.long (0 : Int64)), (.long (0 : Int64)), (.long (0 : Int64)), (.long (0 : Int64)), (.long (0 : Int64)), (.long (0 : Int64)), (.long (0 : Int64)), (.long (0 : Int64)), (.long (0 : Int64)), (.long (0 : Int64)), (.long (0 : Int64)), (.long (0 : Int64)), (.long (0 : Int64)), (.long (0 : Int64)), (.long (0 : Int64))] := A38
  have k40 : Keep h0 h37 [] := k33.wr W36 (Or.inr g010)
  refine w_dup X35 at_33 rfl rfl ?_
  refine w_iconst X35 at_34 (v := (4 : Int32)) rfl rfl ?_
  refine w_ldc2Long X35 (hw _ (List.mem_of_getElem? (i := 5) rfl)) at_35 rfl ?_
  refine w_lastore X35 f39 (by decide) (i := 4) (by decide) (Nat.le_of_ble_eq_true rfl) gn7 at_38 rfl fun T41 h44 X42 W43 A45 => ?_
  have f46 : AV Z h44 a5 .long [(.long (1 : Int64)), (.long (10 : Int64)), (.long (100 : Int64)), (.long (1000 : Int64)), (.long (10000 : Int64)), (.long (0 : Int64)), (.long (0 : Int64)), (.long (0 : Int64)), (.long (0 : Int64)), (.long (0 : Int64)), (.long (0 : Int64)), (.long (0 : Int64)), (.long (0 : Int64)), (.long (0 : Int64)), (.long (0 : Int64)), (.long (0 : Int64)), (.long (0 : Int64)), (.long (0 : Int64)), (.long (0 : Int64))] := A45
  have k47 : Keep h0 h44 [] := k40.wr W43 (Or.inr g010)
  refine w_dup X42 at_39 rfl rfl ?_
  refine w_iconst X42 at_40 (v := (5 : Int32)) rfl rfl ?_
  refine w_ldc2Long X42 (hw _ (List.mem_of_getElem? (i := 6) rfl)) at_41 rfl ?_
  refine w_lastore X42 f46 (by decide) (i := 5) (by decide) (Nat.le_of_ble_eq_true rfl) gn7 at_44 rfl fun T48 h51 X49 W50 A52 => ?_
  have f53 : AV Z h51 a5 .long [(.long (1 : Int64)), (.long (10 : Int64)), (.long (100 : Int64)), (.long (1000 : Int64)), (.long (10000 : Int64)), (.long (100000 : Int64)), (.long (0 : Int64)), (.long (0 : Int64)), (.long (0 : Int64)), (.long (0 : Int64)), (.long (0 : Int64)), (.long (0 : Int64)), (.long (0 : Int64)), (.long (0 : Int64)), (.long (0 : Int64)), (.long (0 : Int64)), (.long (0 : Int64)), (.long (0 : Int64)), (.long (0 : Int64))] := A52
  have k54 : Keep h0 h51 [] := k47.wr W50 (Or.inr g010)
  refine w_dup X49 at_45 rfl rfl ?_
  refine w_bipush X49 at_46 (v := (6 : Int32)) rfl rfl ?_
  refine w_ldc2Long X49 (hw _ (List.mem_of_getElem? (i := 7) rfl)) at_48 rfl ?_
  refine w_lastore X49 f53 (by decide) (i := 6) (by decide) (Nat.le_of_ble_eq_true rfl) gn7 at_51 rfl fun T55 h58 X56 W57 A59 => ?_
  have f60 : AV Z h58 a5 .long [(.long (1 : Int64)), (.long (10 : Int64)), (.long (100 : Int64)), (.long (1000 : Int64)), (.long (10000 : Int64)), (.long (100000 : Int64)), (.long (1000000 : Int64)), (.long (0 : Int64)), (.long (0 : Int64)), (.long (0 : Int64)), (.long (0 : Int64)), (.long (0 : Int64)), (.long (0 : Int64)), (.long (0 : Int64)), (.long (0 : Int64)), (.long (0 : Int64)), (.long (0 : Int64)), (.long (0 : Int64)), (.long (0 : Int64))] := A59
  have k61 : Keep h0 h58 [] := k54.wr W57 (Or.inr g010)
  refine w_dup X56 at_52 rfl rfl ?_
  refine w_bipush X56 at_53 (v := (7 : Int32)) rfl rfl ?_
  refine w_ldc2Long X56 (hw _ (List.mem_of_getElem? (i := 8) rfl)) at_55 rfl ?_
  refine w_lastore X56 f60 (by decide) (i := 7) (by decide) (Nat.le_of_ble_eq_true rfl) gn7 at_58 rfl fun T62 h65 X63 W64 A66 => ?_
  have f67 : AV Z h65 a5 .long [(.long (1 : Int64)), (.long (10 : Int64)), (.long (100 : Int64)), (.long (1000 : Int64)), (.long (10000 : Int64)), (.long (100000 : Int64)), (.long (1000000 : Int64)), (.long (10000000 : Int64)), (.long (0 : Int64)), (.long (0 : Int64)), (.long (0 : Int64)), (.long (0 : Int64)), (.long (0 : Int64)), (.long (0 : Int64)), (.long (0 : Int64)), (.long (0 : Int64)), (.long (0 : Int64)), (.long (0 : Int64)), (.long (0 : Int64))] := A66
  have k68 : Keep h0 h65 [] := k61.wr W64 (Or.inr g010)
  refine w_dup X63 at_59 rfl rfl ?_
  refine w_bipush X63 at_60 (v := (8 : Int32)) rfl rfl ?_
  refine w_ldc2Long X63 (hw _ (List.mem_of_getElem? (i := 9) rfl)) at_62 rfl ?_
  refine w_lastore X63 f67 (by decide) (i := 8) (by decide) (Nat.le_of_ble_eq_true rfl) gn7 at_65 rfl fun T69 h72 X70 W71 A73 => ?_
  have f74 : AV Z h72 a5 .long [(.long (1 : Int64)), (.long (10 : Int64)), (.long (100 : Int64)), (.long (1000 : Int64)), (.long (10000 : Int64)), (.long (100000 : Int64)), (.long (1000000 : Int64)), (.long (10000000 : Int64)), (.long (100000000 : Int64)), (.long (0 : Int64)), (.long (0 : Int64)), (.long (0 : Int64)), (.long (0 : Int64)), (.long (0 : Int64)), (.long (0 : Int64)), (.long (0 : Int64)), (.long (0 : Int64)), (.long (0 : Int64)), (.long (0 : Int64))] := A73
  have k75 : Keep h0 h72 [] := k68.wr W71 (Or.inr g010)
  refine w_dup X70 at_66 rfl rfl ?_
  refine w_bipush X70 at_67 (v := (9 : Int32)) rfl rfl ?_
  refine w_ldc2Long X70 (hw _ (List.mem_of_getElem? (i := 10) rfl)) at_69 rfl ?_
  refine w_lastore X70 f74 (by decide) (i := 9) (by decide) (Nat.le_of_ble_eq_true rfl) gn7 at_72 rfl fun T76 h79 X77 W78 A80 => ?_
  have f81 : AV Z h79 a5 .long [(.long (1 : Int64)), (.long (10 : Int64)), (.long (100 : Int64)), (.long (1000 : Int64)), (.long (10000 : Int64)), (.long (100000 : Int64)), (.long (1000000 : Int64)), (.long (10000000 : Int64)), (.long (100000000 : Int64)), (.long (1000000000 : Int64)), (.long (0 : Int64)), (.long (0 : Int64)), (.long (0 : Int64)), (.long (0 : Int64)), (.long (0 : Int64)), (.long (0 : Int64)), (.long (0 : Int64)), (.long (0 : Int64)), (.long (0 : Int64))] := A80
  have k82 : Keep h0 h79 [] := k75.wr W78 (Or.inr g010)
  refine w_dup X77 at_73 rfl rfl ?_
  refine w_bipush X77 at_74 (v := (10 : Int32)) rfl rfl ?_
  refine w_ldc2Long X77 (hw _ (List.mem_of_getElem? (i := 11) rfl)) at_76 rfl ?_
  refine w_lastore X77 f81 (by decide) (i := 10) (by decide) (Nat.le_of_ble_eq_true rfl) gn7 at_79 rfl fun T83 h86 X84 W85 A87 => ?_
  have f88 : AV Z h86 a5 .long [(.long (1 : Int64)), (.long (10 : Int64)), (.long (100 : Int64)), (.long (1000 : Int64)), (.long (10000 : Int64)), (.long (100000 : Int64)), (.long (1000000 : Int64)), (.long (10000000 : Int64)), (.long (100000000 : Int64)), (.long (1000000000 : Int64)), (.long (10000000000 : Int64)), (.long (0 : Int64)), (.long (0 : Int64)), (.long (0 : Int64)), (.long (0 : Int64)), (.long (0 : Int64)), (.long (0 : Int64)), (.long (0 : Int64)), (.long (0 : Int64))] := A87
  have k89 : Keep h0 h86 [] := k82.wr W85 (Or.inr g010)
  refine w_dup X84 at_80 rfl rfl ?_
  refine w_bipush X84 at_81 (v := (11 : Int32)) rfl rfl ?_
  refine w_ldc2Long X84 (hw _ (List.mem_of_getElem? (i := 12) rfl)) at_83 rfl ?_
  refine w_lastore X84 f88 (by decide) (i := 11) (by decide) (Nat.le_of_ble_eq_true rfl) gn7 at_86 rfl fun T90 h93 X91 W92 A94 => ?_
  have f95 : AV Z h93 a5 .long [(.long (1 : Int64)), (.long (10 : Int64)), (.long (100 : Int64)), (.long (1000 : Int64)), (.long (10000 : Int64)), (.long (100000 : Int64)), (.long (1000000 : Int64)), (.long (10000000 : Int64)), (.long (100000000 : Int64)), (.long (1000000000 : Int64)), (.long (10000000000 : Int64)), (.long (100000000000 : Int64)), (.long (0 : Int64)), (.long (0 : Int64)), (.long (0 : Int64)), (.long (0 : Int64)), (.long (0 : Int64)), (.long (0 : Int64)), (.long (0 : Int64))] := A94
  have k96 : Keep h0 h93 [] := k89.wr W92 (Or.inr g010)
  refine w_dup X91 at_87 rfl rfl ?_
  refine w_bipush X91 at_88 (v := (12 : Int32)) rfl rfl ?_
  refine w_ldc2Long X91 (hw _ (List.mem_of_getElem? (i := 13) rfl)) at_90 rfl ?_
  refine w_lastore X91 f95 (by decide) (i := 12) (by decide) (Nat.le_of_ble_eq_true rfl) gn7 at_93 rfl fun T97 h100 X98 W99 A101 => ?_
  have f102 : AV Z h100 a5 .long [(.long (1 : Int64)), (.long (10 : Int64)), (.long (100 : Int64)), (.long (1000 : Int64)), (.long (10000 : Int64)), (.long (100000 : Int64)), (.long (1000000 : Int64)), (.long (10000000 : Int64)), (.long (100000000 : Int64)), (.long (1000000000 : Int64)), (.long (10000000000 : Int64)), (.long (100000000000 : Int64)), (.long (1000000000000 : Int64)), (.long (0 : Int64)), (.long (0 : Int64)), (.long (0 : Int64)), (.long (0 : Int64)), (.long (0 : Int64)), (.long (0 : Int64))] := A101
  have k103 : Keep h0 h100 [] := k96.wr W99 (Or.inr g010)
  refine w_dup X98 at_94 rfl rfl ?_
  refine w_bipush X98 at_95 (v := (13 : Int32)) rfl rfl ?_
  refine w_ldc2Long X98 (hw _ (List.mem_of_getElem? (i := 14) rfl)) at_97 rfl ?_
  refine w_lastore X98 f102 (by decide) (i := 13) (by decide) (Nat.le_of_ble_eq_true rfl) gn7 at_100 rfl fun T104 h107 X105 W106 A108 => ?_
  have f109 : AV Z h107 a5 .long [(.long (1 : Int64)), (.long (10 : Int64)), (.long (100 : Int64)), (.long (1000 : Int64)), (.long (10000 : Int64)), (.long (100000 : Int64)), (.long (1000000 : Int64)), (.long (10000000 : Int64)), (.long (100000000 : Int64)), (.long (1000000000 : Int64)), (.long (10000000000 : Int64)), (.long (100000000000 : Int64)), (.long (1000000000000 : Int64)), (.long (10000000000000 : Int64)), (.long (0 : Int64)), (.long (0 : Int64)), (.long (0 : Int64)), (.long (0 : Int64)), (.long (0 : Int64))] := A108
  have k110 : Keep h0 h107 [] := k103.wr W106 (Or.inr g010)
  refine w_dup X105 at_101 rfl rfl ?_
  refine w_bipush X105 at_102 (v := (14 : Int32)) rfl rfl ?_
  refine w_ldc2Long X105 (hw _ (List.mem_of_getElem? (i := 15) rfl)) at_104 rfl ?_
  refine w_lastore X105 f109 (by decide) (i := 14) (by decide) (Nat.le_of_ble_eq_true rfl) gn7 at_107 rfl fun T111 h114 X112 W113 A115 => ?_
  have f116 : AV Z h114 a5 .long [(.long (1 : Int64)), (.long (10 : Int64)), (.long (100 : Int64)), (.long (1000 : Int64)), (.long (10000 : Int64)), (.long (100000 : Int64)), (.long (1000000 : Int64)), (.long (10000000 : Int64)), (.long (100000000 : Int64)), (.long (1000000000 : Int64)), (.long (10000000000 : Int64)), (.long (100000000000 : Int64)), (.long (1000000000000 : Int64)), (.long (10000000000000 : Int64)), (.long (100000000000000 : Int64)), (.long (0 : Int64)), (.long (0 : Int64)), (.long (0 : Int64)), (.long (0 : Int64))] := A115
  have k117 : Keep h0 h114 [] := k110.wr W113 (Or.inr g010)
  refine w_dup X112 at_108 rfl rfl ?_
  refine w_bipush X112 at_109 (v := (15 : Int32)) rfl rfl ?_
  refine w_ldc2Long X112 (hw _ (List.mem_of_getElem? (i := 16) rfl)) at_111 rfl ?_
  refine w_lastore X112 f116 (by decide) (i := 15) (by decide) (Nat.le_of_ble_eq_true rfl) gn7 at_114 rfl fun T118 h121 X119 W120 A122 => ?_
  have f123 : AV Z h121 a5 .long [(.long (1 : Int64)), (.long (10 : Int64)), (.long (100 : Int64)), (.long (1000 : Int64)), (.long (10000 : Int64)), (.long (100000 : Int64)), (.long (1000000 : Int64)), (.long (10000000 : Int64)), (.long (100000000 : Int64)), (.long (1000000000 : Int64)), (.long (10000000000 : Int64)), (.long (100000000000 : Int64)), (.long (1000000000000 : Int64)), (.long (10000000000000 : Int64)), (.long (100000000000000 : Int64)), (.long (1000000000000000 : Int64)), (.long (0 : Int64)), (.long (0 : Int64)), (.long (0 : Int64))] := A122
  have k124 : Keep h0 h121 [] := k117.wr W120 (Or.inr g010)
  refine w_dup X119 at_115 rfl rfl ?_
  refine w_bipush X119 at_116 (v := (16 : Int32)) rfl rfl ?_
  refine w_ldc2Long X119 (hw _ (List.mem_of_getElem? (i := 17) rfl)) at_118 rfl ?_
  refine w_lastore X119 f123 (by decide) (i := 16) (by decide) (Nat.le_of_ble_eq_true rfl) gn7 at_121 rfl fun T125 h128 X126 W127 A129 => ?_
  have f130 : AV Z h128 a5 .long [(.long (1 : Int64)), (.long (10 : Int64)), (.long (100 : Int64)), (.long (1000 : Int64)), (.long (10000 : Int64)), (.long (100000 : Int64)), (.long (1000000 : Int64)), (.long (10000000 : Int64)), (.long (100000000 : Int64)), (.long (1000000000 : Int64)), (.long (10000000000 : Int64)), (.long (100000000000 : Int64)), (.long (1000000000000 : Int64)), (.long (10000000000000 : Int64)), (.long (100000000000000 : Int64)), (.long (1000000000000000 : Int64)), (.long (10000000000000000 : Int64)), (.long (0 : Int64)), (.long (0 : Int64))] := A129
  have k131 : Keep h0 h128 [] := k124.wr W127 (Or.inr g010)
  refine w_dup X126 at_122 rfl rfl ?_
  refine w_bipush X126 at_123 (v := (17 : Int32)) rfl rfl ?_
  refine w_ldc2Long X126 (hw _ (List.mem_of_getElem? (i := 18) rfl)) at_125 rfl ?_
  refine w_lastore X126 f130 (by decide) (i := 17) (by decide) (Nat.le_of_ble_eq_true rfl) gn7 at_128 rfl fun T132 h135 X133 W134 A136 => ?_
  have f137 : AV Z h135 a5 .long [(.long (1 : Int64)), (.long (10 : Int64)), (.long (100 : Int64)), (.long (1000 : Int64)), (.long (10000 : Int64)), (.long (100000 : Int64)), (.long (1000000 : Int64)), (.long (10000000 : Int64)), (.long (100000000 : Int64)), (.long (1000000000 : Int64)), (.long (10000000000 : Int64)), (.long (100000000000 : Int64)), (.long (1000000000000 : Int64)), (.long (10000000000000 : Int64)), (.long (100000000000000 : Int64)), (.long (1000000000000000 : Int64)), (.long (10000000000000000 : Int64)), (.long (100000000000000000 : Int64)), (.long (0 : Int64))] := A136
  have k138 : Keep h0 h135 [] := k131.wr W134 (Or.inr g010)
  refine w_dup X133 at_129 rfl rfl ?_
  refine w_bipush X133 at_130 (v := (18 : Int32)) rfl rfl ?_
  refine w_ldc2Long X133 (hw _ (List.mem_of_getElem? (i := 19) rfl)) at_132 rfl ?_
  refine w_lastore X133 f137 (by decide) (i := 18) (by decide) (Nat.le_of_ble_eq_true rfl) gn7 at_135 rfl fun T139 h142 X140 W141 A143 => ?_
  have f144 : AV Z h142 a5 .long [(.long (1 : Int64)), (.long (10 : Int64)), (.long (100 : Int64)), (.long (1000 : Int64)), (.long (10000 : Int64)), (.long (100000 : Int64)), (.long (1000000 : Int64)), (.long (10000000 : Int64)), (.long (100000000 : Int64)), (.long (1000000000 : Int64)), (.long (10000000000 : Int64)), (.long (100000000000 : Int64)), (.long (1000000000000 : Int64)), (.long (10000000000000 : Int64)), (.long (100000000000000 : Int64)), (.long (1000000000000000 : Int64)), (.long (10000000000000000 : Int64)), (.long (100000000000000000 : Int64)), (.long (1000000000000000000 : Int64))] := A143
  have k145 : Keep h0 h142 [] := k138.wr W141 (Or.inr g010)
  refine w_astore X140 at_136 rfl rfl (L' := #[.val (.long q1), .second, .val (.long q2), .second, .val (.long q3), .second, .val (.int p4), .val (.int p5), .val (.long z1), .second, .val (.ref a5), .unset, .unset, .unset, .unset, .unset, .unset, .unset, .unset, .unset, .unset, .unset, .unset, .unset, .unset, .unset, .unset, .unset, .unset, .unset, .unset]) rfl ?_
  refine w_bipush X140 at_138 (v := (21 : Int32)) rfl rfl ?_
  refine w_newP X140 (hw _ (List.mem_of_getElem? (i := 20) rfl)) (by decide) (k := 21) (by decide) (cap := 21) (by decide) (by decide) (by decide) (by decide) at_140 rfl fun T146 h148 a149 X147 ga150 gn151 E152 A153 => ?_
  have ne154 : a5 ≠ a149 := by rw [ga150]; exact Nat.ne_of_lt f144.lt
  have g0155 : h0.size ≤ a149 := by rw [ga150]; exact k145.1
  have f156 : AV Z h148 a5 .long [(.long (1 : Int64)), (.long (10 : Int64)), (.long (100 : Int64)), (.long (1000 : Int64)), (.long (10000 : Int64)), (.long (100000 : Int64)), (.long (1000000 : Int64)), (.long (10000000 : Int64)), (.long (100000000 : Int64)), (.long (1000000000 : Int64)), (.long (10000000000 : Int64)), (.long (100000000000 : Int64)), (.long (1000000000000 : Int64)), (.long (10000000000000 : Int64)), (.long (100000000000000 : Int64)), (.long (1000000000000000 : Int64)), (.long (10000000000000000 : Int64)), (.long (100000000000000000 : Int64)), (.long (1000000000000000000 : Int64))] := f144.ext E152
  have k157 : Keep h0 h148 [] := k145.ext E152
  have f158 : AV Z h148 a149 .char [(.int (0 : Int32)), (.int (0 : Int32)), (.int (0 : Int32)), (.int (0 : Int32)), (.int (0 : Int32)), (.int (0 : Int32)), (.int (0 : Int32)), (.int (0 : Int32)), (.int (0 : Int32)), (.int (0 : Int32)), (.int (0 : Int32)), (.int (0 : Int32)), (.int (0 : Int32)), (.int (0 : Int32)), (.int (0 : Int32)), (.int (0 : Int32)), (.int (0 : Int32)), (.int (0 : Int32)), (.int (0 : Int32)), (.int (0 : Int32)), (.int (0 : Int32))] := A153
  refine w_astore X147 at_142 rfl rfl (L' := #[.val (.long q1), .second, .val (.long q2), .second, .val (.long q3), .second, .val (.int p4), .val (.int p5), .val (.long z1), .second, .val (.ref a5), .val (.ref a149), .unset, .unset, .unset, .unset, .unset, .unset, .unset, .unset, .unset, .unset, .unset, .unset, .unset, .unset, .unset, .unset, .unset, .unset, .unset]) rfl ?_
  refine w_aload X147 at_144 rfl rfl rfl ?_
  refine w_iconst X147 at_146 (v := (0 : Int32)) rfl rfl ?_
  refine w_lload X147 at_147 rfl rfl ?_
  refine w_aload X147 at_149 rfl rfl rfl ?_
  refine w_bipush X147 at_151 (v := (18 : Int32)) rfl rfl ?_
  refine w_laload X147 f156 (by decide) (i := 18) (by decide) rfl at_153 rfl ?_
  refine w_staticVP X147 (rm1 l Z a0 hw z1 (1000000000000000000 : Int64) h148 n0 X147.size (by decide)) (hw _ (List.mem_of_getElem? (i := 21) rfl)) (hw _ (List.mem_of_getElem? (i := 22) rfl)) (hw _ (List.mem_of_getElem? (i := 23) rfl)) (hw _ (List.mem_of_getElem? (i := 24) rfl)) (by decide) (argsL := [(.long z1), (.long (1000000000000000000 : Int64))]) (rest := [(.int (0 : Int32)), (.ref a149)]) rfl (lenOf pd_1 rfl) rfl (W := 2) rfl (by decide) (by decide) (by decide) (by decide) at_154 rfl fun T159 X160 => ?_
  refine w_castore X160 f158 (by decide) (i := 0) (by decide) (Nat.le_of_ble_eq_true rfl) gn151 at_157 rfl fun T161 h164 X162 W163 A165 => ?_
  obtain ⟨z166, hz166⟩ : ∃ z, z = (nar .char (f_dig z1 (1000000000000000000 : Int64))) := ⟨_, rfl⟩
  have f167 : AV Z h164 a5 .long [(.long (1 : Int64)), (.long (10 : Int64)), (.long (100 : Int64)), (.long (1000 : Int64)), (.long (10000 : Int64)), (.long (100000 : Int64)), (.long (1000000 : Int64)), (.long (10000000 : Int64)), (.long (100000000 : Int64)), (.long (1000000000 : Int64)), (.long (10000000000 : Int64)), (.long (100000000000 : Int64)), (.long (1000000000000 : Int64)), (.long (10000000000000 : Int64)), (.long (100000000000000 : Int64)), (.long (1000000000000000 : Int64)), (.long (10000000000000000 : Int64)), (.long (100000000000000000 : Int64)), (.long (1000000000000000000 : Int64))] := f156.other W163 ne154
  have f168 : AV Z h164 a149 .char [(.int z166), (.int (0 : Int32)), (.int (0 : Int32)), (.int (0 : Int32)), (.int (0 : Int32)), (.int (0 : Int32)), (.int (0 : Int32)), (.int (0 : Int32)), (.int (0 : Int32)), (.int (0 : Int32)), (.int (0 : Int32)), (.int (0 : Int32)), (.int (0 : Int32)), (.int (0 : Int32)), (.int (0 : Int32)), (.int (0 : Int32)), (.int (0 : Int32)), (.int (0 : Int32)), (.int (0 : Int32)), (.int (0 : Int32)), (.int (0 : Int32))] := (by subst hz166; exact A165)
  have k169 : Keep h0 h164 [] := k157.wr W163 (Or.inr g0155)
  refine w_aload X162 at_158 rfl rfl rfl ?_
  refine w_iconst X162 at_160 (v := (1 : Int32)) rfl rfl ?_
  refine w_lload X162 at_161 rfl rfl ?_
  refine w_aload X162 at_163 rfl rfl rfl ?_
  refine w_bipush X162 at_165 (v := (17 : Int32)) rfl rfl ?_
  refine w_laload X162 f167 (by decide) (i := 17) (by decide) rfl at_167 rfl ?_
  refine w_staticVP X162 (rm1 l Z a0 hw z1 (100000000000000000 : Int64) h164 n0 X162.size (by decide)) (hw _ (List.mem_of_getElem? (i := 21) rfl)) (hw _ (List.mem_of_getElem? (i := 22) rfl)) (hw _ (List.mem_of_getElem? (i := 23) rfl)) (hw _ (List.mem_of_getElem? (i := 24) rfl)) (by decide) (argsL := [(.long z1), (.long (100000000000000000 : Int64))]) (rest := [(.int (1 : Int32)), (.ref a149)]) rfl (lenOf pd_1 rfl) rfl (W := 2) rfl (by decide) (by decide) (by decide) (by decide) at_168 rfl fun T170 X171 => ?_
  refine w_castore X171 f168 (by decide) (i := 1) (by decide) (Nat.le_of_ble_eq_true rfl) gn151 at_171 rfl fun T172 h175 X173 W174 A176 => ?_
  obtain ⟨z177, hz177⟩ : ∃ z, z = (nar .char (f_dig z1 (100000000000000000 : Int64))) := ⟨_, rfl⟩
  have f178 : AV Z h175 a5 .long [(.long (1 : Int64)), (.long (10 : Int64)), (.long (100 : Int64)), (.long (1000 : Int64)), (.long (10000 : Int64)), (.long (100000 : Int64)), (.long (1000000 : Int64)), (.long (10000000 : Int64)), (.long (100000000 : Int64)), (.long (1000000000 : Int64)), (.long (10000000000 : Int64)), (.long (100000000000 : Int64)), (.long (1000000000000 : Int64)), (.long (10000000000000 : Int64)), (.long (100000000000000 : Int64)), (.long (1000000000000000 : Int64)), (.long (10000000000000000 : Int64)), (.long (100000000000000000 : Int64)), (.long (1000000000000000000 : Int64))] := f167.other W174 ne154
  have f179 : AV Z h175 a149 .char [(.int z166), (.int z177), (.int (0 : Int32)), (.int (0 : Int32)), (.int (0 : Int32)), (.int (0 : Int32)), (.int (0 : Int32)), (.int (0 : Int32)), (.int (0 : Int32)), (.int (0 : Int32)), (.int (0 : Int32)), (.int (0 : Int32)), (.int (0 : Int32)), (.int (0 : Int32)), (.int (0 : Int32)), (.int (0 : Int32)), (.int (0 : Int32)), (.int (0 : Int32)), (.int (0 : Int32)), (.int (0 : Int32)), (.int (0 : Int32))] := (by subst hz177; exact A176)
  have k180 : Keep h0 h175 [] := k169.wr W174 (Or.inr g0155)
  refine w_aload X173 at_172 rfl rfl rfl ?_
  refine w_iconst X173 at_174 (v := (2 : Int32)) rfl rfl ?_
  refine w_lload X173 at_175 rfl rfl ?_
  refine w_aload X173 at_177 rfl rfl rfl ?_
  refine w_bipush X173 at_179 (v := (16 : Int32)) rfl rfl ?_
  refine w_laload X173 f178 (by decide) (i := 16) (by decide) rfl at_181 rfl ?_
  refine w_staticVP X173 (rm1 l Z a0 hw z1 (10000000000000000 : Int64) h175 n0 X173.size (by decide)) (hw _ (List.mem_of_getElem? (i := 21) rfl)) (hw _ (List.mem_of_getElem? (i := 22) rfl)) (hw _ (List.mem_of_getElem? (i := 23) rfl)) (hw _ (List.mem_of_getElem? (i := 24) rfl)) (by decide) (argsL := [(.long z1), (.long (10000000000000000 : Int64))]) (rest := [(.int (2 : Int32)), (.ref a149)]) rfl (lenOf pd_1 rfl) rfl (W := 2) rfl (by decide) (by decide) (by decide) (by decide) at_182 rfl fun T181 X182 => ?_
  refine w_castore X182 f179 (by decide) (i := 2) (by decide) (Nat.le_of_ble_eq_true rfl) gn151 at_185 rfl fun T183 h186 X184 W185 A187 => ?_
  obtain ⟨z188, hz188⟩ : ∃ z, z = (nar .char (f_dig z1 (10000000000000000 : Int64))) := ⟨_, rfl⟩
  have f189 : AV Z h186 a5 .long [(.long (1 : Int64)), (.long (10 : Int64)), (.long (100 : Int64)), (.long (1000 : Int64)), (.long (10000 : Int64)), (.long (100000 : Int64)), (.long (1000000 : Int64)), (.long (10000000 : Int64)), (.long (100000000 : Int64)), (.long (1000000000 : Int64)), (.long (10000000000 : Int64)), (.long (100000000000 : Int64)), (.long (1000000000000 : Int64)), (.long (10000000000000 : Int64)), (.long (100000000000000 : Int64)), (.long (1000000000000000 : Int64)), (.long (10000000000000000 : Int64)), (.long (100000000000000000 : Int64)), (.long (1000000000000000000 : Int64))] := f178.other W185 ne154
  have f190 : AV Z h186 a149 .char [(.int z166), (.int z177), (.int z188), (.int (0 : Int32)), (.int (0 : Int32)), (.int (0 : Int32)), (.int (0 : Int32)), (.int (0 : Int32)), (.int (0 : Int32)), (.int (0 : Int32)), (.int (0 : Int32)), (.int (0 : Int32)), (.int (0 : Int32)), (.int (0 : Int32)), (.int (0 : Int32)), (.int (0 : Int32)), (.int (0 : Int32)), (.int (0 : Int32)), (.int (0 : Int32)), (.int (0 : Int32)), (.int (0 : Int32))] := (by subst hz188; exact A187)
  have k191 : Keep h0 h186 [] := k180.wr W185 (Or.inr g0155)
  refine w_aload X184 at_186 rfl rfl rfl ?_
  refine w_iconst X184 at_188 (v := (3 : Int32)) rfl rfl ?_
  refine w_lload X184 at_189 rfl rfl ?_
  refine w_aload X184 at_191 rfl rfl rfl ?_
  refine w_bipush X184 at_193 (v := (15 : Int32)) rfl rfl ?_
  refine w_laload X184 f189 (by decide) (i := 15) (by decide) rfl at_195 rfl ?_
  refine w_staticVP X184 (rm1 l Z a0 hw z1 (1000000000000000 : Int64) h186 n0 X184.size (by decide)) (hw _ (List.mem_of_getElem? (i := 21) rfl)) (hw _ (List.mem_of_getElem? (i := 22) rfl)) (hw _ (List.mem_of_getElem? (i := 23) rfl)) (hw _ (List.mem_of_getElem? (i := 24) rfl)) (by decide) (argsL := [(.long z1), (.long (1000000000000000 : Int64))]) (rest := [(.int (3 : Int32)), (.ref a149)]) rfl (lenOf pd_1 rfl) rfl (W := 2) rfl (by decide) (by decide) (by decide) (by decide) at_196 rfl fun T192 X193 => ?_
  refine w_castore X193 f190 (by decide) (i := 3) (by decide) (Nat.le_of_ble_eq_true rfl) gn151 at_199 rfl fun T194 h197 X195 W196 A198 => ?_
  obtain ⟨z199, hz199⟩ : ∃ z, z = (nar .char (f_dig z1 (1000000000000000 : Int64))) := ⟨_, rfl⟩
  have f200 : AV Z h197 a5 .long [(.long (1 : Int64)), (.long (10 : Int64)), (.long (100 : Int64)), (.long (1000 : Int64)), (.long (10000 : Int64)), (.long (100000 : Int64)), (.long (1000000 : Int64)), (.long (10000000 : Int64)), (.long (100000000 : Int64)), (.long (1000000000 : Int64)), (.long (10000000000 : Int64)), (.long (100000000000 : Int64)), (.long (1000000000000 : Int64)), (.long (10000000000000 : Int64)), (.long (100000000000000 : Int64)), (.long (1000000000000000 : Int64)), (.long (10000000000000000 : Int64)), (.long (100000000000000000 : Int64)), (.long (1000000000000000000 : Int64))] := f189.other W196 ne154
  have f201 : AV Z h197 a149 .char [(.int z166), (.int z177), (.int z188), (.int z199), (.int (0 : Int32)), (.int (0 : Int32)), (.int (0 : Int32)), (.int (0 : Int32)), (.int (0 : Int32)), (.int (0 : Int32)), (.int (0 : Int32)), (.int (0 : Int32)), (.int (0 : Int32)), (.int (0 : Int32)), (.int (0 : Int32)), (.int (0 : Int32)), (.int (0 : Int32)), (.int (0 : Int32)), (.int (0 : Int32)), (.int (0 : Int32)), (.int (0 : Int32))] := (by subst hz199; exact A198)
  have k202 : Keep h0 h197 [] := k191.wr W196 (Or.inr g0155)
  refine w_aload X195 at_200 rfl rfl rfl ?_
  refine w_iconst X195 at_202 (v := (4 : Int32)) rfl rfl ?_
  refine w_lload X195 at_203 rfl rfl ?_
  refine w_aload X195 at_205 rfl rfl rfl ?_
  refine w_bipush X195 at_207 (v := (14 : Int32)) rfl rfl ?_
  refine w_laload X195 f200 (by decide) (i := 14) (by decide) rfl at_209 rfl ?_
  refine w_staticVP X195 (rm1 l Z a0 hw z1 (100000000000000 : Int64) h197 n0 X195.size (by decide)) (hw _ (List.mem_of_getElem? (i := 21) rfl)) (hw _ (List.mem_of_getElem? (i := 22) rfl)) (hw _ (List.mem_of_getElem? (i := 23) rfl)) (hw _ (List.mem_of_getElem? (i := 24) rfl)) (by decide) (argsL := [(.long z1), (.long (100000000000000 : Int64))]) (rest := [(.int (4 : Int32)), (.ref a149)]) rfl (lenOf pd_1 rfl) rfl (W := 2) rfl (by decide) (by decide) (by decide) (by decide) at_210 rfl fun T203 X204 => ?_
  refine w_castore X204 f201 (by decide) (i := 4) (by decide) (Nat.le_of_ble_eq_true rfl) gn151 at_213 rfl fun T205 h208 X206 W207 A209 => ?_
  obtain ⟨z210, hz210⟩ : ∃ z, z = (nar .char (f_dig z1 (100000000000000 : Int64))) := ⟨_, rfl⟩
  have f211 : AV Z h208 a5 .long [(.long (1 : Int64)), (.long (10 : Int64)), (.long (100 : Int64)), (.long (1000 : Int64)), (.long (10000 : Int64)), (.long (100000 : Int64)), (.long (1000000 : Int64)), (.long (10000000 : Int64)), (.long (100000000 : Int64)), (.long (1000000000 : Int64)), (.long (10000000000 : Int64)), (.long (100000000000 : Int64)), (.long (1000000000000 : Int64)), (.long (10000000000000 : Int64)), (.long (100000000000000 : Int64)), (.long (1000000000000000 : Int64)), (.long (10000000000000000 : Int64)), (.long (100000000000000000 : Int64)), (.long (1000000000000000000 : Int64))] := f200.other W207 ne154
  have f212 : AV Z h208 a149 .char [(.int z166), (.int z177), (.int z188), (.int z199), (.int z210), (.int (0 : Int32)), (.int (0 : Int32)), (.int (0 : Int32)), (.int (0 : Int32)), (.int (0 : Int32)), (.int (0 : Int32)), (.int (0 : Int32)), (.int (0 : Int32)), (.int (0 : Int32)), (.int (0 : Int32)), (.int (0 : Int32)), (.int (0 : Int32)), (.int (0 : Int32)), (.int (0 : Int32)), (.int (0 : Int32)), (.int (0 : Int32))] := (by subst hz210; exact A209)
  have k213 : Keep h0 h208 [] := k202.wr W207 (Or.inr g0155)
  refine w_aload X206 at_214 rfl rfl rfl ?_
  refine w_iconst X206 at_216 (v := (5 : Int32)) rfl rfl ?_
  refine w_lload X206 at_217 rfl rfl ?_
  refine w_aload X206 at_219 rfl rfl rfl ?_
  refine w_bipush X206 at_221 (v := (13 : Int32)) rfl rfl ?_
  refine w_laload X206 f211 (by decide) (i := 13) (by decide) rfl at_223 rfl ?_
  refine w_staticVP X206 (rm1 l Z a0 hw z1 (10000000000000 : Int64) h208 n0 X206.size (by decide)) (hw _ (List.mem_of_getElem? (i := 21) rfl)) (hw _ (List.mem_of_getElem? (i := 22) rfl)) (hw _ (List.mem_of_getElem? (i := 23) rfl)) (hw _ (List.mem_of_getElem? (i := 24) rfl)) (by decide) (argsL := [(.long z1), (.long (10000000000000 : Int64))]) (rest := [(.int (5 : Int32)), (.ref a149)]) rfl (lenOf pd_1 rfl) rfl (W := 2) rfl (by decide) (by decide) (by decide) (by decide) at_224 rfl fun T214 X215 => ?_
  refine w_castore X215 f212 (by decide) (i := 5) (by decide) (Nat.le_of_ble_eq_true rfl) gn151 at_227 rfl fun T216 h219 X217 W218 A220 => ?_
  obtain ⟨z221, hz221⟩ : ∃ z, z = (nar .char (f_dig z1 (10000000000000 : Int64))) := ⟨_, rfl⟩
  have f222 : AV Z h219 a5 .long [(.long (1 : Int64)), (.long (10 : Int64)), (.long (100 : Int64)), (.long (1000 : Int64)), (.long (10000 : Int64)), (.long (100000 : Int64)), (.long (1000000 : Int64)), (.long (10000000 : Int64)), (.long (100000000 : Int64)), (.long (1000000000 : Int64)), (.long (10000000000 : Int64)), (.long (100000000000 : Int64)), (.long (1000000000000 : Int64)), (.long (10000000000000 : Int64)), (.long (100000000000000 : Int64)), (.long (1000000000000000 : Int64)), (.long (10000000000000000 : Int64)), (.long (100000000000000000 : Int64)), (.long (1000000000000000000 : Int64))] := f211.other W218 ne154
  have f223 : AV Z h219 a149 .char [(.int z166), (.int z177), (.int z188), (.int z199), (.int z210), (.int z221), (.int (0 : Int32)), (.int (0 : Int32)), (.int (0 : Int32)), (.int (0 : Int32)), (.int (0 : Int32)), (.int (0 : Int32)), (.int (0 : Int32)), (.int (0 : Int32)), (.int (0 : Int32)), (.int (0 : Int32)), (.int (0 : Int32)), (.int (0 : Int32)), (.int (0 : Int32)), (.int (0 : Int32)), (.int (0 : Int32))] := (by subst hz221; exact A220)
  have k224 : Keep h0 h219 [] := k213.wr W218 (Or.inr g0155)
  refine w_aload X217 at_228 rfl rfl rfl ?_
  refine w_bipush X217 at_230 (v := (6 : Int32)) rfl rfl ?_
  refine w_lload X217 at_232 rfl rfl ?_
  refine w_aload X217 at_234 rfl rfl rfl ?_
  refine w_bipush X217 at_236 (v := (12 : Int32)) rfl rfl ?_
  refine w_laload X217 f222 (by decide) (i := 12) (by decide) rfl at_238 rfl ?_
  refine w_staticVP X217 (rm1 l Z a0 hw z1 (1000000000000 : Int64) h219 n0 X217.size (by decide)) (hw _ (List.mem_of_getElem? (i := 21) rfl)) (hw _ (List.mem_of_getElem? (i := 22) rfl)) (hw _ (List.mem_of_getElem? (i := 23) rfl)) (hw _ (List.mem_of_getElem? (i := 24) rfl)) (by decide) (argsL := [(.long z1), (.long (1000000000000 : Int64))]) (rest := [(.int (6 : Int32)), (.ref a149)]) rfl (lenOf pd_1 rfl) rfl (W := 2) rfl (by decide) (by decide) (by decide) (by decide) at_239 rfl fun T225 X226 => ?_
  refine w_castore X226 f223 (by decide) (i := 6) (by decide) (Nat.le_of_ble_eq_true rfl) gn151 at_242 rfl fun T227 h230 X228 W229 A231 => ?_
  obtain ⟨z232, hz232⟩ : ∃ z, z = (nar .char (f_dig z1 (1000000000000 : Int64))) := ⟨_, rfl⟩
  have f233 : AV Z h230 a5 .long [(.long (1 : Int64)), (.long (10 : Int64)), (.long (100 : Int64)), (.long (1000 : Int64)), (.long (10000 : Int64)), (.long (100000 : Int64)), (.long (1000000 : Int64)), (.long (10000000 : Int64)), (.long (100000000 : Int64)), (.long (1000000000 : Int64)), (.long (10000000000 : Int64)), (.long (100000000000 : Int64)), (.long (1000000000000 : Int64)), (.long (10000000000000 : Int64)), (.long (100000000000000 : Int64)), (.long (1000000000000000 : Int64)), (.long (10000000000000000 : Int64)), (.long (100000000000000000 : Int64)), (.long (1000000000000000000 : Int64))] := f222.other W229 ne154
  have f234 : AV Z h230 a149 .char [(.int z166), (.int z177), (.int z188), (.int z199), (.int z210), (.int z221), (.int z232), (.int (0 : Int32)), (.int (0 : Int32)), (.int (0 : Int32)), (.int (0 : Int32)), (.int (0 : Int32)), (.int (0 : Int32)), (.int (0 : Int32)), (.int (0 : Int32)), (.int (0 : Int32)), (.int (0 : Int32)), (.int (0 : Int32)), (.int (0 : Int32)), (.int (0 : Int32)), (.int (0 : Int32))] := (by subst hz232; exact A231)
  have k235 : Keep h0 h230 [] := k224.wr W229 (Or.inr g0155)
  refine w_aload X228 at_243 rfl rfl rfl ?_
  refine w_bipush X228 at_245 (v := (7 : Int32)) rfl rfl ?_
  refine w_lload X228 at_247 rfl rfl ?_
  refine w_aload X228 at_249 rfl rfl rfl ?_
  refine w_bipush X228 at_251 (v := (11 : Int32)) rfl rfl ?_
  refine w_laload X228 f233 (by decide) (i := 11) (by decide) rfl at_253 rfl ?_
  refine w_staticVP X228 (rm1 l Z a0 hw z1 (100000000000 : Int64) h230 n0 X228.size (by decide)) (hw _ (List.mem_of_getElem? (i := 21) rfl)) (hw _ (List.mem_of_getElem? (i := 22) rfl)) (hw _ (List.mem_of_getElem? (i := 23) rfl)) (hw _ (List.mem_of_getElem? (i := 24) rfl)) (by decide) (argsL := [(.long z1), (.long (100000000000 : Int64))]) (rest := [(.int (7 : Int32)), (.ref a149)]) rfl (lenOf pd_1 rfl) rfl (W := 2) rfl (by decide) (by decide) (by decide) (by decide) at_254 rfl fun T236 X237 => ?_
  refine w_castore X237 f234 (by decide) (i := 7) (by decide) (Nat.le_of_ble_eq_true rfl) gn151 at_257 rfl fun T238 h241 X239 W240 A242 => ?_
  obtain ⟨z243, hz243⟩ : ∃ z, z = (nar .char (f_dig z1 (100000000000 : Int64))) := ⟨_, rfl⟩
  have f244 : AV Z h241 a5 .long [(.long (1 : Int64)), (.long (10 : Int64)), (.long (100 : Int64)), (.long (1000 : Int64)), (.long (10000 : Int64)), (.long (100000 : Int64)), (.long (1000000 : Int64)), (.long (10000000 : Int64)), (.long (100000000 : Int64)), (.long (1000000000 : Int64)), (.long (10000000000 : Int64)), (.long (100000000000 : Int64)), (.long (1000000000000 : Int64)), (.long (10000000000000 : Int64)), (.long (100000000000000 : Int64)), (.long (1000000000000000 : Int64)), (.long (10000000000000000 : Int64)), (.long (100000000000000000 : Int64)), (.long (1000000000000000000 : Int64))] := f233.other W240 ne154
  have f245 : AV Z h241 a149 .char [(.int z166), (.int z177), (.int z188), (.int z199), (.int z210), (.int z221), (.int z232), (.int z243), (.int (0 : Int32)), (.int (0 : Int32)), (.int (0 : Int32)), (.int (0 : Int32)), (.int (0 : Int32)), (.int (0 : Int32)), (.int (0 : Int32)), (.int (0 : Int32)), (.int (0 : Int32)), (.int (0 : Int32)), (.int (0 : Int32)), (.int (0 : Int32)), (.int (0 : Int32))] := (by subst hz243; exact A242)
  have k246 : Keep h0 h241 [] := k235.wr W240 (Or.inr g0155)
  refine w_aload X239 at_258 rfl rfl rfl ?_
  refine w_bipush X239 at_260 (v := (8 : Int32)) rfl rfl ?_
  refine w_lload X239 at_262 rfl rfl ?_
  refine w_aload X239 at_264 rfl rfl rfl ?_
  refine w_bipush X239 at_266 (v := (10 : Int32)) rfl rfl ?_
  refine w_laload X239 f244 (by decide) (i := 10) (by decide) rfl at_268 rfl ?_
  refine w_staticVP X239 (rm1 l Z a0 hw z1 (10000000000 : Int64) h241 n0 X239.size (by decide)) (hw _ (List.mem_of_getElem? (i := 21) rfl)) (hw _ (List.mem_of_getElem? (i := 22) rfl)) (hw _ (List.mem_of_getElem? (i := 23) rfl)) (hw _ (List.mem_of_getElem? (i := 24) rfl)) (by decide) (argsL := [(.long z1), (.long (10000000000 : Int64))]) (rest := [(.int (8 : Int32)), (.ref a149)]) rfl (lenOf pd_1 rfl) rfl (W := 2) rfl (by decide) (by decide) (by decide) (by decide) at_269 rfl fun T247 X248 => ?_
  refine w_castore X248 f245 (by decide) (i := 8) (by decide) (Nat.le_of_ble_eq_true rfl) gn151 at_272 rfl fun T249 h252 X250 W251 A253 => ?_
  obtain ⟨z254, hz254⟩ : ∃ z, z = (nar .char (f_dig z1 (10000000000 : Int64))) := ⟨_, rfl⟩
  have f255 : AV Z h252 a5 .long [(.long (1 : Int64)), (.long (10 : Int64)), (.long (100 : Int64)), (.long (1000 : Int64)), (.long (10000 : Int64)), (.long (100000 : Int64)), (.long (1000000 : Int64)), (.long (10000000 : Int64)), (.long (100000000 : Int64)), (.long (1000000000 : Int64)), (.long (10000000000 : Int64)), (.long (100000000000 : Int64)), (.long (1000000000000 : Int64)), (.long (10000000000000 : Int64)), (.long (100000000000000 : Int64)), (.long (1000000000000000 : Int64)), (.long (10000000000000000 : Int64)), (.long (100000000000000000 : Int64)), (.long (1000000000000000000 : Int64))] := f244.other W251 ne154
  have f256 : AV Z h252 a149 .char [(.int z166), (.int z177), (.int z188), (.int z199), (.int z210), (.int z221), (.int z232), (.int z243), (.int z254), (.int (0 : Int32)), (.int (0 : Int32)), (.int (0 : Int32)), (.int (0 : Int32)), (.int (0 : Int32)), (.int (0 : Int32)), (.int (0 : Int32)), (.int (0 : Int32)), (.int (0 : Int32)), (.int (0 : Int32)), (.int (0 : Int32)), (.int (0 : Int32))] := (by subst hz254; exact A253)
  have k257 : Keep h0 h252 [] := k246.wr W251 (Or.inr g0155)
  refine w_aload X250 at_273 rfl rfl rfl ?_
  refine w_bipush X250 at_275 (v := (9 : Int32)) rfl rfl ?_
  refine w_lload X250 at_277 rfl rfl ?_
  refine w_aload X250 at_279 rfl rfl rfl ?_
  refine w_bipush X250 at_281 (v := (9 : Int32)) rfl rfl ?_
  refine w_laload X250 f255 (by decide) (i := 9) (by decide) rfl at_283 rfl ?_
  refine w_staticVP X250 (rm1 l Z a0 hw z1 (1000000000 : Int64) h252 n0 X250.size (by decide)) (hw _ (List.mem_of_getElem? (i := 21) rfl)) (hw _ (List.mem_of_getElem? (i := 22) rfl)) (hw _ (List.mem_of_getElem? (i := 23) rfl)) (hw _ (List.mem_of_getElem? (i := 24) rfl)) (by decide) (argsL := [(.long z1), (.long (1000000000 : Int64))]) (rest := [(.int (9 : Int32)), (.ref a149)]) rfl (lenOf pd_1 rfl) rfl (W := 2) rfl (by decide) (by decide) (by decide) (by decide) at_284 rfl fun T258 X259 => ?_
  refine w_castore X259 f256 (by decide) (i := 9) (by decide) (Nat.le_of_ble_eq_true rfl) gn151 at_287 rfl fun T260 h263 X261 W262 A264 => ?_
  obtain ⟨z265, hz265⟩ : ∃ z, z = (nar .char (f_dig z1 (1000000000 : Int64))) := ⟨_, rfl⟩
  have f266 : AV Z h263 a5 .long [(.long (1 : Int64)), (.long (10 : Int64)), (.long (100 : Int64)), (.long (1000 : Int64)), (.long (10000 : Int64)), (.long (100000 : Int64)), (.long (1000000 : Int64)), (.long (10000000 : Int64)), (.long (100000000 : Int64)), (.long (1000000000 : Int64)), (.long (10000000000 : Int64)), (.long (100000000000 : Int64)), (.long (1000000000000 : Int64)), (.long (10000000000000 : Int64)), (.long (100000000000000 : Int64)), (.long (1000000000000000 : Int64)), (.long (10000000000000000 : Int64)), (.long (100000000000000000 : Int64)), (.long (1000000000000000000 : Int64))] := f255.other W262 ne154
  have f267 : AV Z h263 a149 .char [(.int z166), (.int z177), (.int z188), (.int z199), (.int z210), (.int z221), (.int z232), (.int z243), (.int z254), (.int z265), (.int (0 : Int32)), (.int (0 : Int32)), (.int (0 : Int32)), (.int (0 : Int32)), (.int (0 : Int32)), (.int (0 : Int32)), (.int (0 : Int32)), (.int (0 : Int32)), (.int (0 : Int32)), (.int (0 : Int32)), (.int (0 : Int32))] := (by subst hz265; exact A264)
  have k268 : Keep h0 h263 [] := k257.wr W262 (Or.inr g0155)
  refine w_aload X261 at_288 rfl rfl rfl ?_
  refine w_bipush X261 at_290 (v := (10 : Int32)) rfl rfl ?_
  refine w_lload X261 at_292 rfl rfl ?_
  refine w_aload X261 at_294 rfl rfl rfl ?_
  refine w_bipush X261 at_296 (v := (8 : Int32)) rfl rfl ?_
  refine w_laload X261 f266 (by decide) (i := 8) (by decide) rfl at_298 rfl ?_
  refine w_staticVP X261 (rm1 l Z a0 hw z1 (100000000 : Int64) h263 n0 X261.size (by decide)) (hw _ (List.mem_of_getElem? (i := 21) rfl)) (hw _ (List.mem_of_getElem? (i := 22) rfl)) (hw _ (List.mem_of_getElem? (i := 23) rfl)) (hw _ (List.mem_of_getElem? (i := 24) rfl)) (by decide) (argsL := [(.long z1), (.long (100000000 : Int64))]) (rest := [(.int (10 : Int32)), (.ref a149)]) rfl (lenOf pd_1 rfl) rfl (W := 2) rfl (by decide) (by decide) (by decide) (by decide) at_299 rfl fun T269 X270 => ?_
  refine w_castore X270 f267 (by decide) (i := 10) (by decide) (Nat.le_of_ble_eq_true rfl) gn151 at_302 rfl fun T271 h274 X272 W273 A275 => ?_
  obtain ⟨z276, hz276⟩ : ∃ z, z = (nar .char (f_dig z1 (100000000 : Int64))) := ⟨_, rfl⟩
  have f277 : AV Z h274 a5 .long [(.long (1 : Int64)), (.long (10 : Int64)), (.long (100 : Int64)), (.long (1000 : Int64)), (.long (10000 : Int64)), (.long (100000 : Int64)), (.long (1000000 : Int64)), (.long (10000000 : Int64)), (.long (100000000 : Int64)), (.long (1000000000 : Int64)), (.long (10000000000 : Int64)), (.long (100000000000 : Int64)), (.long (1000000000000 : Int64)), (.long (10000000000000 : Int64)), (.long (100000000000000 : Int64)), (.long (1000000000000000 : Int64)), (.long (10000000000000000 : Int64)), (.long (100000000000000000 : Int64)), (.long (1000000000000000000 : Int64))] := f266.other W273 ne154
  have f278 : AV Z h274 a149 .char [(.int z166), (.int z177), (.int z188), (.int z199), (.int z210), (.int z221), (.int z232), (.int z243), (.int z254), (.int z265), (.int z276), (.int (0 : Int32)), (.int (0 : Int32)), (.int (0 : Int32)), (.int (0 : Int32)), (.int (0 : Int32)), (.int (0 : Int32)), (.int (0 : Int32)), (.int (0 : Int32)), (.int (0 : Int32)), (.int (0 : Int32))] := (by subst hz276; exact A275)
  have k279 : Keep h0 h274 [] := k268.wr W273 (Or.inr g0155)
  refine w_aload X272 at_303 rfl rfl rfl ?_
  refine w_bipush X272 at_305 (v := (11 : Int32)) rfl rfl ?_
  refine w_lload X272 at_307 rfl rfl ?_
  refine w_aload X272 at_309 rfl rfl rfl ?_
  refine w_bipush X272 at_311 (v := (7 : Int32)) rfl rfl ?_
  refine w_laload X272 f277 (by decide) (i := 7) (by decide) rfl at_313 rfl ?_
  refine w_staticVP X272 (rm1 l Z a0 hw z1 (10000000 : Int64) h274 n0 X272.size (by decide)) (hw _ (List.mem_of_getElem? (i := 21) rfl)) (hw _ (List.mem_of_getElem? (i := 22) rfl)) (hw _ (List.mem_of_getElem? (i := 23) rfl)) (hw _ (List.mem_of_getElem? (i := 24) rfl)) (by decide) (argsL := [(.long z1), (.long (10000000 : Int64))]) (rest := [(.int (11 : Int32)), (.ref a149)]) rfl (lenOf pd_1 rfl) rfl (W := 2) rfl (by decide) (by decide) (by decide) (by decide) at_314 rfl fun T280 X281 => ?_
  refine w_castore X281 f278 (by decide) (i := 11) (by decide) (Nat.le_of_ble_eq_true rfl) gn151 at_317 rfl fun T282 h285 X283 W284 A286 => ?_
  obtain ⟨z287, hz287⟩ : ∃ z, z = (nar .char (f_dig z1 (10000000 : Int64))) := ⟨_, rfl⟩
  have f288 : AV Z h285 a5 .long [(.long (1 : Int64)), (.long (10 : Int64)), (.long (100 : Int64)), (.long (1000 : Int64)), (.long (10000 : Int64)), (.long (100000 : Int64)), (.long (1000000 : Int64)), (.long (10000000 : Int64)), (.long (100000000 : Int64)), (.long (1000000000 : Int64)), (.long (10000000000 : Int64)), (.long (100000000000 : Int64)), (.long (1000000000000 : Int64)), (.long (10000000000000 : Int64)), (.long (100000000000000 : Int64)), (.long (1000000000000000 : Int64)), (.long (10000000000000000 : Int64)), (.long (100000000000000000 : Int64)), (.long (1000000000000000000 : Int64))] := f277.other W284 ne154
  have f289 : AV Z h285 a149 .char [(.int z166), (.int z177), (.int z188), (.int z199), (.int z210), (.int z221), (.int z232), (.int z243), (.int z254), (.int z265), (.int z276), (.int z287), (.int (0 : Int32)), (.int (0 : Int32)), (.int (0 : Int32)), (.int (0 : Int32)), (.int (0 : Int32)), (.int (0 : Int32)), (.int (0 : Int32)), (.int (0 : Int32)), (.int (0 : Int32))] := (by subst hz287; exact A286)
  have k290 : Keep h0 h285 [] := k279.wr W284 (Or.inr g0155)
  refine w_aload X283 at_318 rfl rfl rfl ?_
  refine w_bipush X283 at_320 (v := (12 : Int32)) rfl rfl ?_
  refine w_lload X283 at_322 rfl rfl ?_
  refine w_aload X283 at_324 rfl rfl rfl ?_
  refine w_bipush X283 at_326 (v := (6 : Int32)) rfl rfl ?_
  refine w_laload X283 f288 (by decide) (i := 6) (by decide) rfl at_328 rfl ?_
  refine w_staticVP X283 (rm1 l Z a0 hw z1 (1000000 : Int64) h285 n0 X283.size (by decide)) (hw _ (List.mem_of_getElem? (i := 21) rfl)) (hw _ (List.mem_of_getElem? (i := 22) rfl)) (hw _ (List.mem_of_getElem? (i := 23) rfl)) (hw _ (List.mem_of_getElem? (i := 24) rfl)) (by decide) (argsL := [(.long z1), (.long (1000000 : Int64))]) (rest := [(.int (12 : Int32)), (.ref a149)]) rfl (lenOf pd_1 rfl) rfl (W := 2) rfl (by decide) (by decide) (by decide) (by decide) at_329 rfl fun T291 X292 => ?_
  refine w_castore X292 f289 (by decide) (i := 12) (by decide) (Nat.le_of_ble_eq_true rfl) gn151 at_332 rfl fun T293 h296 X294 W295 A297 => ?_
  obtain ⟨z298, hz298⟩ : ∃ z, z = (nar .char (f_dig z1 (1000000 : Int64))) := ⟨_, rfl⟩
  have f299 : AV Z h296 a5 .long [(.long (1 : Int64)), (.long (10 : Int64)), (.long (100 : Int64)), (.long (1000 : Int64)), (.long (10000 : Int64)), (.long (100000 : Int64)), (.long (1000000 : Int64)), (.long (10000000 : Int64)), (.long (100000000 : Int64)), (.long (1000000000 : Int64)), (.long (10000000000 : Int64)), (.long (100000000000 : Int64)), (.long (1000000000000 : Int64)), (.long (10000000000000 : Int64)), (.long (100000000000000 : Int64)), (.long (1000000000000000 : Int64)), (.long (10000000000000000 : Int64)), (.long (100000000000000000 : Int64)), (.long (1000000000000000000 : Int64))] := f288.other W295 ne154
  have f300 : AV Z h296 a149 .char [(.int z166), (.int z177), (.int z188), (.int z199), (.int z210), (.int z221), (.int z232), (.int z243), (.int z254), (.int z265), (.int z276), (.int z287), (.int z298), (.int (0 : Int32)), (.int (0 : Int32)), (.int (0 : Int32)), (.int (0 : Int32)), (.int (0 : Int32)), (.int (0 : Int32)), (.int (0 : Int32)), (.int (0 : Int32))] := (by subst hz298; exact A297)
  have k301 : Keep h0 h296 [] := k290.wr W295 (Or.inr g0155)
  refine w_aload X294 at_333 rfl rfl rfl ?_
  refine w_bipush X294 at_335 (v := (13 : Int32)) rfl rfl ?_
  refine w_lload X294 at_337 rfl rfl ?_
  refine w_aload X294 at_339 rfl rfl rfl ?_
  refine w_iconst X294 at_341 (v := (5 : Int32)) rfl rfl ?_
  refine w_laload X294 f299 (by decide) (i := 5) (by decide) rfl at_342 rfl ?_
  refine w_staticVP X294 (rm1 l Z a0 hw z1 (100000 : Int64) h296 n0 X294.size (by decide)) (hw _ (List.mem_of_getElem? (i := 21) rfl)) (hw _ (List.mem_of_getElem? (i := 22) rfl)) (hw _ (List.mem_of_getElem? (i := 23) rfl)) (hw _ (List.mem_of_getElem? (i := 24) rfl)) (by decide) (argsL := [(.long z1), (.long (100000 : Int64))]) (rest := [(.int (13 : Int32)), (.ref a149)]) rfl (lenOf pd_1 rfl) rfl (W := 2) rfl (by decide) (by decide) (by decide) (by decide) at_343 rfl fun T302 X303 => ?_
  refine w_castore X303 f300 (by decide) (i := 13) (by decide) (Nat.le_of_ble_eq_true rfl) gn151 at_346 rfl fun T304 h307 X305 W306 A308 => ?_
  obtain ⟨z309, hz309⟩ : ∃ z, z = (nar .char (f_dig z1 (100000 : Int64))) := ⟨_, rfl⟩
  have f310 : AV Z h307 a5 .long [(.long (1 : Int64)), (.long (10 : Int64)), (.long (100 : Int64)), (.long (1000 : Int64)), (.long (10000 : Int64)), (.long (100000 : Int64)), (.long (1000000 : Int64)), (.long (10000000 : Int64)), (.long (100000000 : Int64)), (.long (1000000000 : Int64)), (.long (10000000000 : Int64)), (.long (100000000000 : Int64)), (.long (1000000000000 : Int64)), (.long (10000000000000 : Int64)), (.long (100000000000000 : Int64)), (.long (1000000000000000 : Int64)), (.long (10000000000000000 : Int64)), (.long (100000000000000000 : Int64)), (.long (1000000000000000000 : Int64))] := f299.other W306 ne154
  have f311 : AV Z h307 a149 .char [(.int z166), (.int z177), (.int z188), (.int z199), (.int z210), (.int z221), (.int z232), (.int z243), (.int z254), (.int z265), (.int z276), (.int z287), (.int z298), (.int z309), (.int (0 : Int32)), (.int (0 : Int32)), (.int (0 : Int32)), (.int (0 : Int32)), (.int (0 : Int32)), (.int (0 : Int32)), (.int (0 : Int32))] := (by subst hz309; exact A308)
  have k312 : Keep h0 h307 [] := k301.wr W306 (Or.inr g0155)
  refine w_aload X305 at_347 rfl rfl rfl ?_
  refine w_bipush X305 at_349 (v := (14 : Int32)) rfl rfl ?_
  refine w_lload X305 at_351 rfl rfl ?_
  refine w_aload X305 at_353 rfl rfl rfl ?_
  refine w_iconst X305 at_355 (v := (4 : Int32)) rfl rfl ?_
  refine w_laload X305 f310 (by decide) (i := 4) (by decide) rfl at_356 rfl ?_
  refine w_staticVP X305 (rm1 l Z a0 hw z1 (10000 : Int64) h307 n0 X305.size (by decide)) (hw _ (List.mem_of_getElem? (i := 21) rfl)) (hw _ (List.mem_of_getElem? (i := 22) rfl)) (hw _ (List.mem_of_getElem? (i := 23) rfl)) (hw _ (List.mem_of_getElem? (i := 24) rfl)) (by decide) (argsL := [(.long z1), (.long (10000 : Int64))]) (rest := [(.int (14 : Int32)), (.ref a149)]) rfl (lenOf pd_1 rfl) rfl (W := 2) rfl (by decide) (by decide) (by decide) (by decide) at_357 rfl fun T313 X314 => ?_
  refine w_castore X314 f311 (by decide) (i := 14) (by decide) (Nat.le_of_ble_eq_true rfl) gn151 at_360 rfl fun T315 h318 X316 W317 A319 => ?_
  obtain ⟨z320, hz320⟩ : ∃ z, z = (nar .char (f_dig z1 (10000 : Int64))) := ⟨_, rfl⟩
  have f321 : AV Z h318 a5 .long [(.long (1 : Int64)), (.long (10 : Int64)), (.long (100 : Int64)), (.long (1000 : Int64)), (.long (10000 : Int64)), (.long (100000 : Int64)), (.long (1000000 : Int64)), (.long (10000000 : Int64)), (.long (100000000 : Int64)), (.long (1000000000 : Int64)), (.long (10000000000 : Int64)), (.long (100000000000 : Int64)), (.long (1000000000000 : Int64)), (.long (10000000000000 : Int64)), (.long (100000000000000 : Int64)), (.long (1000000000000000 : Int64)), (.long (10000000000000000 : Int64)), (.long (100000000000000000 : Int64)), (.long (1000000000000000000 : Int64))] := f310.other W317 ne154
  have f322 : AV Z h318 a149 .char [(.int z166), (.int z177), (.int z188), (.int z199), (.int z210), (.int z221), (.int z232), (.int z243), (.int z254), (.int z265), (.int z276), (.int z287), (.int z298), (.int z309), (.int z320), (.int (0 : Int32)), (.int (0 : Int32)), (.int (0 : Int32)), (.int (0 : Int32)), (.int (0 : Int32)), (.int (0 : Int32))] := (by subst hz320; exact A319)
  have k323 : Keep h0 h318 [] := k312.wr W317 (Or.inr g0155)
  refine w_aload X316 at_361 rfl rfl rfl ?_
  refine w_bipush X316 at_363 (v := (15 : Int32)) rfl rfl ?_
  refine w_lload X316 at_365 rfl rfl ?_
  refine w_aload X316 at_367 rfl rfl rfl ?_
  refine w_iconst X316 at_369 (v := (3 : Int32)) rfl rfl ?_
  refine w_laload X316 f321 (by decide) (i := 3) (by decide) rfl at_370 rfl ?_
  refine w_staticVP X316 (rm1 l Z a0 hw z1 (1000 : Int64) h318 n0 X316.size (by decide)) (hw _ (List.mem_of_getElem? (i := 21) rfl)) (hw _ (List.mem_of_getElem? (i := 22) rfl)) (hw _ (List.mem_of_getElem? (i := 23) rfl)) (hw _ (List.mem_of_getElem? (i := 24) rfl)) (by decide) (argsL := [(.long z1), (.long (1000 : Int64))]) (rest := [(.int (15 : Int32)), (.ref a149)]) rfl (lenOf pd_1 rfl) rfl (W := 2) rfl (by decide) (by decide) (by decide) (by decide) at_371 rfl fun T324 X325 => ?_
  refine w_castore X325 f322 (by decide) (i := 15) (by decide) (Nat.le_of_ble_eq_true rfl) gn151 at_374 rfl fun T326 h329 X327 W328 A330 => ?_
  obtain ⟨z331, hz331⟩ : ∃ z, z = (nar .char (f_dig z1 (1000 : Int64))) := ⟨_, rfl⟩
  have f332 : AV Z h329 a5 .long [(.long (1 : Int64)), (.long (10 : Int64)), (.long (100 : Int64)), (.long (1000 : Int64)), (.long (10000 : Int64)), (.long (100000 : Int64)), (.long (1000000 : Int64)), (.long (10000000 : Int64)), (.long (100000000 : Int64)), (.long (1000000000 : Int64)), (.long (10000000000 : Int64)), (.long (100000000000 : Int64)), (.long (1000000000000 : Int64)), (.long (10000000000000 : Int64)), (.long (100000000000000 : Int64)), (.long (1000000000000000 : Int64)), (.long (10000000000000000 : Int64)), (.long (100000000000000000 : Int64)), (.long (1000000000000000000 : Int64))] := f321.other W328 ne154
  have f333 : AV Z h329 a149 .char [(.int z166), (.int z177), (.int z188), (.int z199), (.int z210), (.int z221), (.int z232), (.int z243), (.int z254), (.int z265), (.int z276), (.int z287), (.int z298), (.int z309), (.int z320), (.int z331), (.int (0 : Int32)), (.int (0 : Int32)), (.int (0 : Int32)), (.int (0 : Int32)), (.int (0 : Int32))] := (by subst hz331; exact A330)
  have k334 : Keep h0 h329 [] := k323.wr W328 (Or.inr g0155)
  refine w_aload X327 at_375 rfl rfl rfl ?_
  refine w_bipush X327 at_377 (v := (16 : Int32)) rfl rfl ?_
  refine w_lload X327 at_379 rfl rfl ?_
  refine w_aload X327 at_381 rfl rfl rfl ?_
  refine w_iconst X327 at_383 (v := (2 : Int32)) rfl rfl ?_
  refine w_laload X327 f332 (by decide) (i := 2) (by decide) rfl at_384 rfl ?_
  refine w_staticVP X327 (rm1 l Z a0 hw z1 (100 : Int64) h329 n0 X327.size (by decide)) (hw _ (List.mem_of_getElem? (i := 21) rfl)) (hw _ (List.mem_of_getElem? (i := 22) rfl)) (hw _ (List.mem_of_getElem? (i := 23) rfl)) (hw _ (List.mem_of_getElem? (i := 24) rfl)) (by decide) (argsL := [(.long z1), (.long (100 : Int64))]) (rest := [(.int (16 : Int32)), (.ref a149)]) rfl (lenOf pd_1 rfl) rfl (W := 2) rfl (by decide) (by decide) (by decide) (by decide) at_385 rfl fun T335 X336 => ?_
  refine w_castore X336 f333 (by decide) (i := 16) (by decide) (Nat.le_of_ble_eq_true rfl) gn151 at_388 rfl fun T337 h340 X338 W339 A341 => ?_
  obtain ⟨z342, hz342⟩ : ∃ z, z = (nar .char (f_dig z1 (100 : Int64))) := ⟨_, rfl⟩
  have f343 : AV Z h340 a5 .long [(.long (1 : Int64)), (.long (10 : Int64)), (.long (100 : Int64)), (.long (1000 : Int64)), (.long (10000 : Int64)), (.long (100000 : Int64)), (.long (1000000 : Int64)), (.long (10000000 : Int64)), (.long (100000000 : Int64)), (.long (1000000000 : Int64)), (.long (10000000000 : Int64)), (.long (100000000000 : Int64)), (.long (1000000000000 : Int64)), (.long (10000000000000 : Int64)), (.long (100000000000000 : Int64)), (.long (1000000000000000 : Int64)), (.long (10000000000000000 : Int64)), (.long (100000000000000000 : Int64)), (.long (1000000000000000000 : Int64))] := f332.other W339 ne154
  have f344 : AV Z h340 a149 .char [(.int z166), (.int z177), (.int z188), (.int z199), (.int z210), (.int z221), (.int z232), (.int z243), (.int z254), (.int z265), (.int z276), (.int z287), (.int z298), (.int z309), (.int z320), (.int z331), (.int z342), (.int (0 : Int32)), (.int (0 : Int32)), (.int (0 : Int32)), (.int (0 : Int32))] := (by subst hz342; exact A341)
  have k345 : Keep h0 h340 [] := k334.wr W339 (Or.inr g0155)
  refine w_aload X338 at_389 rfl rfl rfl ?_
  refine w_bipush X338 at_391 (v := (17 : Int32)) rfl rfl ?_
  refine w_lload X338 at_393 rfl rfl ?_
  refine w_aload X338 at_395 rfl rfl rfl ?_
  refine w_iconst X338 at_397 (v := (1 : Int32)) rfl rfl ?_
  refine w_laload X338 f343 (by decide) (i := 1) (by decide) rfl at_398 rfl ?_
  refine w_staticVP X338 (rm1 l Z a0 hw z1 (10 : Int64) h340 n0 X338.size (by decide)) (hw _ (List.mem_of_getElem? (i := 21) rfl)) (hw _ (List.mem_of_getElem? (i := 22) rfl)) (hw _ (List.mem_of_getElem? (i := 23) rfl)) (hw _ (List.mem_of_getElem? (i := 24) rfl)) (by decide) (argsL := [(.long z1), (.long (10 : Int64))]) (rest := [(.int (17 : Int32)), (.ref a149)]) rfl (lenOf pd_1 rfl) rfl (W := 2) rfl (by decide) (by decide) (by decide) (by decide) at_399 rfl fun T346 X347 => ?_
  refine w_castore X347 f344 (by decide) (i := 17) (by decide) (Nat.le_of_ble_eq_true rfl) gn151 at_402 rfl fun T348 h351 X349 W350 A352 => ?_
  obtain ⟨z353, hz353⟩ : ∃ z, z = (nar .char (f_dig z1 (10 : Int64))) := ⟨_, rfl⟩
  have f354 : AV Z h351 a5 .long [(.long (1 : Int64)), (.long (10 : Int64)), (.long (100 : Int64)), (.long (1000 : Int64)), (.long (10000 : Int64)), (.long (100000 : Int64)), (.long (1000000 : Int64)), (.long (10000000 : Int64)), (.long (100000000 : Int64)), (.long (1000000000 : Int64)), (.long (10000000000 : Int64)), (.long (100000000000 : Int64)), (.long (1000000000000 : Int64)), (.long (10000000000000 : Int64)), (.long (100000000000000 : Int64)), (.long (1000000000000000 : Int64)), (.long (10000000000000000 : Int64)), (.long (100000000000000000 : Int64)), (.long (1000000000000000000 : Int64))] := f343.other W350 ne154
  have f355 : AV Z h351 a149 .char [(.int z166), (.int z177), (.int z188), (.int z199), (.int z210), (.int z221), (.int z232), (.int z243), (.int z254), (.int z265), (.int z276), (.int z287), (.int z298), (.int z309), (.int z320), (.int z331), (.int z342), (.int z353), (.int (0 : Int32)), (.int (0 : Int32)), (.int (0 : Int32))] := (by subst hz353; exact A352)
  have k356 : Keep h0 h351 [] := k345.wr W350 (Or.inr g0155)
  refine w_aload X349 at_403 rfl rfl rfl ?_
  refine w_bipush X349 at_405 (v := (18 : Int32)) rfl rfl ?_
  refine w_lload X349 at_407 rfl rfl ?_
  refine w_aload X349 at_409 rfl rfl rfl ?_
  refine w_iconst X349 at_411 (v := (0 : Int32)) rfl rfl ?_
  refine w_laload X349 f354 (by decide) (i := 0) (by decide) rfl at_412 rfl ?_
  refine w_staticVP X349 (rm1 l Z a0 hw z1 (1 : Int64) h351 n0 X349.size (by decide)) (hw _ (List.mem_of_getElem? (i := 21) rfl)) (hw _ (List.mem_of_getElem? (i := 22) rfl)) (hw _ (List.mem_of_getElem? (i := 23) rfl)) (hw _ (List.mem_of_getElem? (i := 24) rfl)) (by decide) (argsL := [(.long z1), (.long (1 : Int64))]) (rest := [(.int (18 : Int32)), (.ref a149)]) rfl (lenOf pd_1 rfl) rfl (W := 2) rfl (by decide) (by decide) (by decide) (by decide) at_413 rfl fun T357 X358 => ?_
  refine w_castore X358 f355 (by decide) (i := 18) (by decide) (Nat.le_of_ble_eq_true rfl) gn151 at_416 rfl fun T359 h362 X360 W361 A363 => ?_
  obtain ⟨z364, hz364⟩ : ∃ z, z = (nar .char (f_dig z1 (1 : Int64))) := ⟨_, rfl⟩
  have f365 : AV Z h362 a5 .long [(.long (1 : Int64)), (.long (10 : Int64)), (.long (100 : Int64)), (.long (1000 : Int64)), (.long (10000 : Int64)), (.long (100000 : Int64)), (.long (1000000 : Int64)), (.long (10000000 : Int64)), (.long (100000000 : Int64)), (.long (1000000000 : Int64)), (.long (10000000000 : Int64)), (.long (100000000000 : Int64)), (.long (1000000000000 : Int64)), (.long (10000000000000 : Int64)), (.long (100000000000000 : Int64)), (.long (1000000000000000 : Int64)), (.long (10000000000000000 : Int64)), (.long (100000000000000000 : Int64)), (.long (1000000000000000000 : Int64))] := f354.other W361 ne154
  have f366 : AV Z h362 a149 .char [(.int z166), (.int z177), (.int z188), (.int z199), (.int z210), (.int z221), (.int z232), (.int z243), (.int z254), (.int z265), (.int z276), (.int z287), (.int z298), (.int z309), (.int z320), (.int z331), (.int z342), (.int z353), (.int z364), (.int (0 : Int32)), (.int (0 : Int32))] := (by subst hz364; exact A363)
  have k367 : Keep h0 h362 [] := k356.wr W361 (Or.inr g0155)
  refine w_lloadN X360 at_417 rfl rfl ?_
  refine w_staticVP X360 (rm2 l Z a0 hw q2 h362 n0 X360.size ) (hw _ (List.mem_of_getElem? (i := 25) rfl)) (hw _ (List.mem_of_getElem? (i := 26) rfl)) (hw _ (List.mem_of_getElem? (i := 23) rfl)) (hw _ (List.mem_of_getElem? (i := 27) rfl)) (by decide) (argsL := [(.long q2)]) (rest := []) rfl (lenOf pd_2 rfl) rfl (W := 0) rfl (by decide) (by decide) (by decide) (by decide) at_418 rfl fun T368 X369 => ?_
  generalize hz370 : (f_drawn q2) = z370
  refine w_istore X369 at_421 rfl (L' := #[.val (.long q1), .second, .val (.long q2), .second, .val (.long q3), .second, .val (.int p4), .val (.int p5), .val (.long z1), .second, .val (.ref a5), .val (.ref a149), .val (.int z370), .unset, .unset, .unset, .unset, .unset, .unset, .unset, .unset, .unset, .unset, .unset, .unset, .unset, .unset, .unset, .unset, .unset, .unset]) rfl ?_
  refine w_lload X369 at_423 rfl rfl ?_
  refine w_staticVP X369 (rm2 l Z a0 hw q3 h362 n0 X369.size ) (hw _ (List.mem_of_getElem? (i := 25) rfl)) (hw _ (List.mem_of_getElem? (i := 26) rfl)) (hw _ (List.mem_of_getElem? (i := 23) rfl)) (hw _ (List.mem_of_getElem? (i := 27) rfl)) (by decide) (argsL := [(.long q3)]) (rest := []) rfl (lenOf pd_2 rfl) rfl (W := 0) rfl (by decide) (by decide) (by decide) (by decide) at_425 rfl fun T371 X372 => ?_
  generalize hz373 : (f_drawn q3) = z373
  refine w_istore X372 at_428 rfl (L' := #[.val (.long q1), .second, .val (.long q2), .second, .val (.long q3), .second, .val (.int p4), .val (.int p5), .val (.long z1), .second, .val (.ref a5), .val (.ref a149), .val (.int z370), .val (.int z373), .unset, .unset, .unset, .unset, .unset, .unset, .unset, .unset, .unset, .unset, .unset, .unset, .unset, .unset, .unset, .unset, .unset]) rfl ?_
  refine w_aload X372 at_430 rfl rfl rfl ?_
  refine w_bipush X372 at_432 (v := (19 : Int32)) rfl rfl ?_
  refine w_iload X372 at_434 rfl rfl ?_
  refine w_castore X372 f366 (by decide) (i := 19) (by decide) (Nat.le_of_ble_eq_true rfl) gn151 at_436 rfl fun T374 h377 X375 W376 A378 => ?_
  obtain ⟨z379, hz379⟩ : ∃ z, z = (nar .char z370) := ⟨_, rfl⟩
  have f380 : AV Z h377 a5 .long [(.long (1 : Int64)), (.long (10 : Int64)), (.long (100 : Int64)), (.long (1000 : Int64)), (.long (10000 : Int64)), (.long (100000 : Int64)), (.long (1000000 : Int64)), (.long (10000000 : Int64)), (.long (100000000 : Int64)), (.long (1000000000 : Int64)), (.long (10000000000 : Int64)), (.long (100000000000 : Int64)), (.long (1000000000000 : Int64)), (.long (10000000000000 : Int64)), (.long (100000000000000 : Int64)), (.long (1000000000000000 : Int64)), (.long (10000000000000000 : Int64)), (.long (100000000000000000 : Int64)), (.long (1000000000000000000 : Int64))] := f365.other W376 ne154
  have f381 : AV Z h377 a149 .char [(.int z166), (.int z177), (.int z188), (.int z199), (.int z210), (.int z221), (.int z232), (.int z243), (.int z254), (.int z265), (.int z276), (.int z287), (.int z298), (.int z309), (.int z320), (.int z331), (.int z342), (.int z353), (.int z364), (.int z379), (.int (0 : Int32))] := (by subst hz379; exact A378)
  have k382 : Keep h0 h377 [] := k367.wr W376 (Or.inr g0155)
  refine w_aload X375 at_437 rfl rfl rfl ?_
  refine w_bipush X375 at_439 (v := (20 : Int32)) rfl rfl ?_
  refine w_iload X375 at_441 rfl rfl ?_
  refine w_castore X375 f381 (by decide) (i := 20) (by decide) (Nat.le_of_ble_eq_true rfl) gn151 at_443 rfl fun T383 h386 X384 W385 A387 => ?_
  obtain ⟨z388, hz388⟩ : ∃ z, z = (nar .char z373) := ⟨_, rfl⟩
  have f389 : AV Z h386 a5 .long [(.long (1 : Int64)), (.long (10 : Int64)), (.long (100 : Int64)), (.long (1000 : Int64)), (.long (10000 : Int64)), (.long (100000 : Int64)), (.long (1000000 : Int64)), (.long (10000000 : Int64)), (.long (100000000 : Int64)), (.long (1000000000 : Int64)), (.long (10000000000 : Int64)), (.long (100000000000 : Int64)), (.long (1000000000000 : Int64)), (.long (10000000000000 : Int64)), (.long (100000000000000 : Int64)), (.long (1000000000000000 : Int64)), (.long (10000000000000000 : Int64)), (.long (100000000000000000 : Int64)), (.long (1000000000000000000 : Int64))] := f380.other W385 ne154
  have f390 : AV Z h386 a149 .char [(.int z166), (.int z177), (.int z188), (.int z199), (.int z210), (.int z221), (.int z232), (.int z243), (.int z254), (.int z265), (.int z276), (.int z287), (.int z298), (.int z309), (.int z320), (.int z331), (.int z342), (.int z353), (.int z364), (.int z379), (.int z388)] := (by subst hz388; exact A387)
  have k391 : Keep h0 h386 [] := k382.wr W385 (Or.inr g0155)
  obtain ⟨xs0, hxs0⟩ : ∃ z : List Int32, z = [z166, z177, z188, z199, z210, z221, z232, z243, z254, z265, z276, z287, z298, z309, z320, z331, z342, z353, z364, z379, z388] := ⟨_, rfl⟩
  have f392 : AV Z h386 a149 .char (xs0.map Value.int) := by rw [hxs0]; exact f390
  have f393 : AV Z h386 a5 .long (P10.map Value.long) := f389
  have hl0 : xs0.length = 21 := by rw [hxs0]; rfl
  have hv0 := own_v _ _ hz1
  have hx0 : ∀ i, i < 19 → xs0.getD i 0 = Int32.ofNat (48 + (z1.toInt.toNat / 10 ^ (18 - i)) % 10) := by
    intro i hi
    rw [hxs0]
    match i, hi with
    | 0, _ => exact hz166.trans (own_dig z1 _ 18 hv0 (by decide) (by decide))
    | 1, _ => exact hz177.trans (own_dig z1 _ 17 hv0 (by decide) (by decide))
    | 2, _ => exact hz188.trans (own_dig z1 _ 16 hv0 (by decide) (by decide))
    | 3, _ => exact hz199.trans (own_dig z1 _ 15 hv0 (by decide) (by decide))
    | 4, _ => exact hz210.trans (own_dig z1 _ 14 hv0 (by decide) (by decide))
    | 5, _ => exact hz221.trans (own_dig z1 _ 13 hv0 (by decide) (by decide))
    | 6, _ => exact hz232.trans (own_dig z1 _ 12 hv0 (by decide) (by decide))
    | 7, _ => exact hz243.trans (own_dig z1 _ 11 hv0 (by decide) (by decide))
    | 8, _ => exact hz254.trans (own_dig z1 _ 10 hv0 (by decide) (by decide))
    | 9, _ => exact hz265.trans (own_dig z1 _ 9 hv0 (by decide) (by decide))
    | 10, _ => exact hz276.trans (own_dig z1 _ 8 hv0 (by decide) (by decide))
    | 11, _ => exact hz287.trans (own_dig z1 _ 7 hv0 (by decide) (by decide))
    | 12, _ => exact hz298.trans (own_dig z1 _ 6 hv0 (by decide) (by decide))
    | 13, _ => exact hz309.trans (own_dig z1 _ 5 hv0 (by decide) (by decide))
    | 14, _ => exact hz320.trans (own_dig z1 _ 4 hv0 (by decide) (by decide))
    | 15, _ => exact hz331.trans (own_dig z1 _ 3 hv0 (by decide) (by decide))
    | 16, _ => exact hz342.trans (own_dig z1 _ 2 hv0 (by decide) (by decide))
    | 17, _ => exact hz353.trans (own_dig z1 _ 1 hv0 (by decide) (by decide))
    | 18, _ => exact hz364.trans (own_dig z1 _ 0 hv0 (by decide) (by decide))
    | n + 19, h => exact absurd h (by omega)
  have hc0 : ∀ i, 0 ≤ (xs0.getD i 0).toInt ∧ (xs0.getD i 0).toInt ≤ 65535 := own_rng xs0 (by rw [hxs0]; exact (List.forall_mem_cons.mpr ⟨⟨_, hz166⟩, (List.forall_mem_cons.mpr ⟨⟨_, hz177⟩, (List.forall_mem_cons.mpr ⟨⟨_, hz188⟩, (List.forall_mem_cons.mpr ⟨⟨_, hz199⟩, (List.forall_mem_cons.mpr ⟨⟨_, hz210⟩, (List.forall_mem_cons.mpr ⟨⟨_, hz221⟩, (List.forall_mem_cons.mpr ⟨⟨_, hz232⟩, (List.forall_mem_cons.mpr ⟨⟨_, hz243⟩, (List.forall_mem_cons.mpr ⟨⟨_, hz254⟩, (List.forall_mem_cons.mpr ⟨⟨_, hz265⟩, (List.forall_mem_cons.mpr ⟨⟨_, hz276⟩, (List.forall_mem_cons.mpr ⟨⟨_, hz287⟩, (List.forall_mem_cons.mpr ⟨⟨_, hz298⟩, (List.forall_mem_cons.mpr ⟨⟨_, hz309⟩, (List.forall_mem_cons.mpr ⟨⟨_, hz320⟩, (List.forall_mem_cons.mpr ⟨⟨_, hz331⟩, (List.forall_mem_cons.mpr ⟨⟨_, hz342⟩, (List.forall_mem_cons.mpr ⟨⟨_, hz353⟩, (List.forall_mem_cons.mpr ⟨⟨_, hz364⟩, (List.forall_mem_cons.mpr ⟨⟨_, hz379⟩, (List.forall_mem_cons.mpr ⟨⟨_, hz388⟩, (List.forall_mem_nil _)⟩)⟩)⟩)⟩)⟩)⟩)⟩)⟩)⟩)⟩)⟩)⟩)⟩)⟩)⟩)⟩)⟩)⟩)⟩)⟩)⟩))
  have h19 : xs0.getD 19 0 = z370 := by rw [hxs0]; show z379 = z370; rw [hz379, ← hz370, own_drawn]
  have h20 : xs0.getD 20 0 = z373 := by rw [hxs0]; show z388 = z373; rw [hz388, ← hz373, own_drawn]
  refine w_iload X384 at_444 rfl rfl ?_
  refine w_sipush X384 at_446 (v := (255 : Int32)) rfl rfl ?_
  refine w_iand X384 at_449 rfl ?_
  refine w_bipush X384 at_450 (v := (22 : Int32)) rfl rfl ?_
  refine w_irem X384 at_452 rfl (by decide) ?_
  generalize hz394 : ((p4 &&& (255 : Int32)) % (22 : Int32)) = z394
  refine w_istore X384 at_453 rfl (L' := #[.val (.long q1), .second, .val (.long q2), .second, .val (.long q3), .second, .val (.int p4), .val (.int p5), .val (.long z1), .second, .val (.ref a5), .val (.ref a149), .val (.int z370), .val (.int z373), .val (.int z394), .unset, .unset, .unset, .unset, .unset, .unset, .unset, .unset, .unset, .unset, .unset, .unset, .unset, .unset, .unset, .unset]) rfl ?_
  refine w_iload X384 at_455 rfl rfl ?_
  refine w_bipush X384 at_457 (v := (8 : Int32)) rfl rfl ?_
  refine w_iushr X384 at_459 rfl ?_
  refine w_sipush X384 at_460 (v := (255 : Int32)) rfl rfl ?_
  refine w_iand X384 at_463 rfl ?_
  refine w_bipush X384 at_464 (v := (22 : Int32)) rfl rfl ?_
  refine w_irem X384 at_466 rfl (by decide) ?_
  generalize hz395 : (((ush p4 (8 : Int32)) &&& (255 : Int32)) % (22 : Int32)) = z395
  refine w_istore X384 at_467 rfl (L' := #[.val (.long q1), .second, .val (.long q2), .second, .val (.long q3), .second, .val (.int p4), .val (.int p5), .val (.long z1), .second, .val (.ref a5), .val (.ref a149), .val (.int z370), .val (.int z373), .val (.int z394), .val (.int z395), .unset, .unset, .unset, .unset, .unset, .unset, .unset, .unset, .unset, .unset, .unset, .unset, .unset, .unset, .unset]) rfl ?_
  refine w_iload X384 at_469 rfl rfl ?_
  refine w_iload X384 at_471 rfl rfl ?_
  refine w_staticVP X384 (rm3 l Z a0 hw z394 z395 h386 n0 X384.size ) (hw _ (List.mem_of_getElem? (i := 30) rfl)) (hw _ (List.mem_of_getElem? (i := 31) rfl)) (hw _ (List.mem_of_getElem? (i := 32) rfl)) (hw _ (List.mem_of_getElem? (i := 33) rfl)) (by decide) (argsL := [(.int z394), (.int z395)]) (rest := []) rfl (lenOf pd_3 rfl) rfl (W := 0) rfl (by decide) (by decide) (by decide) (by decide) at_473 rfl fun T396 X397 => ?_
  generalize hz398 : (f_min z394 z395) = z398
  refine w_istore X397 at_476 rfl (L' := #[.val (.long q1), .second, .val (.long q2), .second, .val (.long q3), .second, .val (.int p4), .val (.int p5), .val (.long z1), .second, .val (.ref a5), .val (.ref a149), .val (.int z370), .val (.int z373), .val (.int z394), .val (.int z395), .val (.int z398), .unset, .unset, .unset, .unset, .unset, .unset, .unset, .unset, .unset, .unset, .unset, .unset, .unset, .unset]) rfl ?_
  refine w_iload X397 at_478 rfl rfl ?_
  refine w_iload X397 at_480 rfl rfl ?_
  refine w_staticVP X397 (rm4 l Z a0 hw z394 z395 h386 n0 X397.size ) (hw _ (List.mem_of_getElem? (i := 34) rfl)) (hw _ (List.mem_of_getElem? (i := 35) rfl)) (hw _ (List.mem_of_getElem? (i := 32) rfl)) (hw _ (List.mem_of_getElem? (i := 36) rfl)) (by decide) (argsL := [(.int z394), (.int z395)]) (rest := []) rfl (lenOf pd_3 rfl) rfl (W := 0) rfl (by decide) (by decide) (by decide) (by decide) at_482 rfl fun T399 X400 => ?_
  generalize hz401 : (f_max z394 z395) = z401
  refine w_istore X400 at_485 rfl (L' := #[.val (.long q1), .second, .val (.long q2), .second, .val (.long q3), .second, .val (.int p4), .val (.int p5), .val (.long z1), .second, .val (.ref a5), .val (.ref a149), .val (.int z370), .val (.int z373), .val (.int z394), .val (.int z395), .val (.int z398), .val (.int z401), .unset, .unset, .unset, .unset, .unset, .unset, .unset, .unset, .unset, .unset, .unset, .unset, .unset]) rfl ?_
  obtain ⟨F0, FT, T21⟩ := own_ft _ _ _ _ _ _ hz394 hz395 hz398 hz401
  refine w_iload X400 at_487 rfl rfl ?_
  refine w_iconst X400 at_489 (v := (1 : Int32)) rfl rfl ?_
  refine w_iushr X400 at_490 rfl ?_
  refine w_bipush X400 at_491 (v := (31 : Int32)) rfl rfl ?_
  refine w_iand X400 at_493 rfl ?_
  refine w_bipush X400 at_494 (v := (19 : Int32)) rfl rfl ?_
  refine w_irem X400 at_496 rfl (by decide) ?_
  generalize hz402 : (((ush p5 (1 : Int32)) &&& (31 : Int32)) % (19 : Int32)) = z402
  refine w_istore X400 at_497 rfl (L' := #[.val (.long q1), .second, .val (.long q2), .second, .val (.long q3), .second, .val (.int p4), .val (.int p5), .val (.long z1), .second, .val (.ref a5), .val (.ref a149), .val (.int z370), .val (.int z373), .val (.int z394), .val (.int z395), .val (.int z398), .val (.int z401), .val (.int z402), .unset, .unset, .unset, .unset, .unset, .unset, .unset, .unset, .unset, .unset, .unset, .unset]) rfl ?_
  refine w_iload X400 at_499 rfl rfl ?_
  refine w_bipush X400 at_501 (v := (6 : Int32)) rfl rfl ?_
  refine w_iushr X400 at_503 rfl ?_
  refine w_ldcInt X400 (hw _ (List.mem_of_getElem? (i := 37) rfl)) at_504 rfl ?_
  refine w_iand X400 at_506 rfl ?_
  refine w_i2c X400 at_507 rfl ?_
  generalize hz403 : (((ush p5 (6 : Int32)) &&& (65535 : Int32)).toUInt32.toUInt16.toUInt32.toInt32) = z403
  refine w_istore X400 at_508 rfl (L' := #[.val (.long q1), .second, .val (.long q2), .second, .val (.long q3), .second, .val (.int p4), .val (.int p5), .val (.long z1), .second, .val (.ref a5), .val (.ref a149), .val (.int z370), .val (.int z373), .val (.int z394), .val (.int z395), .val (.int z398), .val (.int z401), .val (.int z402), .val (.int z403), .unset, .unset, .unset, .unset, .unset, .unset, .unset, .unset, .unset, .unset, .unset]) rfl ?_
  refine w_iload X400 at_510 rfl rfl ?_
  refine w_iconst X400 at_512 (v := (1 : Int32)) rfl rfl ?_
  refine w_iand X400 at_513 rfl ?_
  refine w_if_eq X400 at_514 (by decide) (pcT := 529) (pcF := 517) (by decide) rfl (fun c404 => ?_) (fun c404 => ?_)
  · refine w_iconst X400 at_529 (v := (0 : Int32)) rfl rfl ?_
    refine w_istore X400 at_530 rfl (L' := #[.val (.long q1), .second, .val (.long q2), .second, .val (.long q3), .second, .val (.int p4), .val (.int p5), .val (.long z1), .second, .val (.ref a5), .val (.ref a149), .val (.int z370), .val (.int z373), .val (.int z394), .val (.int z395), .val (.int z398), .val (.int z401), .val (.int z402), .val (.int z403), .val (.int (0 : Int32)), .unset, .unset, .unset, .unset, .unset, .unset, .unset, .unset, .unset, .unset]) rfl ?_
    refine w_iload X400 at_532 rfl rfl ?_
    refine w_if_eq X400 at_534 (by decide) (pcT := 544) (pcF := 537) (by decide) rfl (fun c405 => ?_) (fun c405 => absurd c405 (by decide))
    refine w_aload X400 at_544 rfl rfl rfl ?_
    refine w_iload X400 at_546 rfl rfl ?_
    refine w_iload X400 at_548 rfl rfl ?_
    refine w_staticVP X400 (rm6 l Z a0 hw a149 z398 z401 xs0 h386 n0 X400.size f392 F0 FT (by omega) hc0) (hw _ (List.mem_of_getElem? (i := 41) rfl)) (hw _ (List.mem_of_getElem? (i := 42) rfl)) (hw _ (List.mem_of_getElem? (i := 43) rfl)) (hw _ (List.mem_of_getElem? (i := 44) rfl)) (by decide) (argsL := [(.ref a149), (.int z398), (.int z401)]) (rest := []) rfl (lenOf pd_4 rfl) rfl (W := 0) rfl (by decide) (by decide) (by decide) (by decide) at_550 rfl fun T406 X407 => ?_
    generalize hz408 : (f_par xs0 z398 z401) = z408
    refine w_lstore X407 at_553 rfl (L' := #[.val (.long q1), .second, .val (.long q2), .second, .val (.long q3), .second, .val (.int p4), .val (.int p5), .val (.long z1), .second, .val (.ref a5), .val (.ref a149), .val (.int z370), .val (.int z373), .val (.int z394), .val (.int z395), .val (.int z398), .val (.int z401), .val (.int z402), .val (.int z403), .val (.int (0 : Int32)), .val (.long z408), .second, .unset, .unset, .unset, .unset, .unset, .unset, .unset, .unset]) rfl ?_
    refine w_iload X407 at_555 rfl rfl ?_
    refine w_iload X407 at_557 rfl rfl ?_
    refine w_icmp_ne X407 at_559 (by decide) (pcT := 570) (pcF := 562) (by decide) rfl (fun c409 => ?_) (fun c409 => ?_)
    · refine w_iload X407 at_570 rfl rfl ?_
      refine w_if_eq X407 at_572 (by decide) (pcT := 597) (pcF := 575) (by decide) rfl (fun c410 => ?_) (fun c410 => absurd c410 (by decide))
      refine w_iload X407 at_597 rfl rfl ?_
      refine w_bipush X407 at_599 (v := (19 : Int32)) rfl rfl ?_
      refine w_staticVP X407 (rm3 l Z a0 hw z401 (19 : Int32) h386 n0 X407.size ) (hw _ (List.mem_of_getElem? (i := 30) rfl)) (hw _ (List.mem_of_getElem? (i := 31) rfl)) (hw _ (List.mem_of_getElem? (i := 32) rfl)) (hw _ (List.mem_of_getElem? (i := 33) rfl)) (by decide) (argsL := [(.int z401), (.int (19 : Int32))]) (rest := []) rfl (lenOf pd_3 rfl) rfl (W := 0) rfl (by decide) (by decide) (by decide) (by decide) at_601 rfl fun T411 X412 => ?_
      generalize hz413 : (f_min z401 (19 : Int32)) = z413
      refine w_istore X412 at_604 rfl (L' := #[.val (.long q1), .second, .val (.long q2), .second, .val (.long q3), .second, .val (.int p4), .val (.int p5), .val (.long z1), .second, .val (.ref a5), .val (.ref a149), .val (.int z370), .val (.int z373), .val (.int z394), .val (.int z395), .val (.int z398), .val (.int z401), .val (.int z402), .val (.int z403), .val (.int (0 : Int32)), .val (.long z408), .second, .unset, .unset, .val (.int z413), .unset, .unset, .unset, .unset, .unset]) rfl ?_
      refine w_iload X412 at_606 rfl rfl ?_
      refine w_iload X412 at_608 rfl rfl ?_
      refine w_icmp_lt X412 at_610 (by decide) (pcT := 619) (pcF := 613) (by decide) rfl (fun c414 => ?_) (fun c414 => ?_)
      · refine w_iload X412 at_619 rfl rfl ?_
        refine w_iload X412 at_621 rfl rfl ?_
        refine w_isub X412 at_623 rfl ?_
        generalize hz415 : (z413 - z398) = z415
        refine w_istore X412 at_624 rfl (L' := #[.val (.long q1), .second, .val (.long q2), .second, .val (.long q3), .second, .val (.int p4), .val (.int p5), .val (.long z1), .second, .val (.ref a5), .val (.ref a149), .val (.int z370), .val (.int z373), .val (.int z394), .val (.int z395), .val (.int z398), .val (.int z401), .val (.int z402), .val (.int z403), .val (.int (0 : Int32)), .val (.long z408), .second, .unset, .unset, .val (.int z413), .unset, .unset, .val (.int z415), .unset, .unset]) rfl ?_
        refine w_lload X412 at_626 rfl rfl ?_
        refine w_aload X412 at_628 rfl rfl rfl ?_
        refine w_bipush X412 at_630 (v := (19 : Int32)) rfl rfl ?_
        refine w_iload X412 at_632 rfl rfl ?_
        refine w_isub X412 at_634 rfl ?_
        refine w_laload X412 f393 (own_i0 _ _ _ F0 hz413 c414) rfl (getL (own_i1 _ _ _ F0 hz413 c414)) at_635 rfl ?_
        refine w_ldiv X412 at_636 rfl (own_nz _ (own_i1 _ _ _ F0 hz413 c414)) ?_
        generalize hz416 : (z1 / (P10.getD (((19 : Int32) - z413)).toNatClampNeg 0)) = z416
        refine w_lstore X412 at_637 rfl (L' := #[.val (.long q1), .second, .val (.long q2), .second, .val (.long q3), .second, .val (.int p4), .val (.int p5), .val (.long z1), .second, .val (.ref a5), .val (.ref a149), .val (.int z370), .val (.int z373), .val (.int z394), .val (.int z395), .val (.int z398), .val (.int z401), .val (.int z402), .val (.int z403), .val (.int (0 : Int32)), .val (.long z408), .second, .unset, .unset, .val (.int z413), .unset, .unset, .val (.int z415), .val (.long z416), .second]) rfl ?_
        refine w_iload X412 at_639 rfl rfl ?_
        refine w_bipush X412 at_641 (v := (19 : Int32)) rfl rfl ?_
        refine w_icmp_ne X412 at_643 (by decide) (pcT := 651) (pcF := 646) (by decide) rfl (fun c417 => ?_) (fun c417 => ?_)
        · refine w_lload X412 at_651 rfl rfl ?_
          refine w_aload X412 at_653 rfl rfl rfl ?_
          refine w_iload X412 at_655 rfl rfl ?_
          refine w_laload X412 f393 (by rw [← hz415]; exact own_j0 _ _ _ F0 hz413 c414) rfl (getL (by rw [← hz415]; exact own_j1 _ _ _ F0 hz413 c414 (by rw [hz415]; exact c417))) at_657 rfl ?_
          refine w_lrem X412 at_658 rfl (own_nz _ (by rw [← hz415]; exact own_j1 _ _ _ F0 hz413 c414 (by rw [hz415]; exact c417))) ?_
          generalize hz418 : (z416 % (P10.getD (z415).toNatClampNeg 0)) = z418
          refine w_lstore X412 at_659 rfl (L' := #[.val (.long q1), .second, .val (.long q2), .second, .val (.long q3), .second, .val (.int p4), .val (.int p5), .val (.long z1), .second, .val (.ref a5), .val (.ref a149), .val (.int z370), .val (.int z373), .val (.int z394), .val (.int z395), .val (.int z398), .val (.int z401), .val (.int z402), .val (.int z403), .val (.int (0 : Int32)), .val (.long z408), .second, .unset, .unset, .val (.int z413), .val (.long z418), .second, .val (.int z415), .val (.long z416), .second]) rfl ?_
          refine w_iload X412 at_661 rfl rfl ?_
          refine w_bipush X412 at_663 (v := (20 : Int32)) rfl rfl ?_
          refine w_icmp_lt X412 at_665 (by decide) (pcT := 684) (pcF := 668) (by decide) rfl (fun c419 => ?_) (fun c419 => ?_)
          · refine w_iload X412 at_684 rfl rfl ?_
            refine w_bipush X412 at_686 (v := (21 : Int32)) rfl rfl ?_
            refine w_icmp_ne X412 at_688 (by decide) (pcT := 700) (pcF := 691) (by decide) rfl (fun c420 => ?_) (fun c420 => ?_)
            · refine w_lload X412 at_700 rfl rfl ?_
              refine w_lstore X412 at_702 rfl (L' := #[.val (.long q1), .second, .val (.long q2), .second, .val (.long q3), .second, .val (.int p4), .val (.int p5), .val (.long z1), .second, .val (.ref a5), .val (.ref a149), .val (.int z370), .val (.int z373), .val (.int z394), .val (.int z395), .val (.int z398), .val (.int z401), .val (.int z402), .val (.int z403), .val (.int (0 : Int32)), .val (.long z408), .second, .val (.long z418), .second, .val (.int z413), .val (.long z418), .second, .val (.int z415), .val (.long z416), .second]) rfl ?_
              refine w_lload X412 at_704 rfl rfl ?_
              refine w_lload X412 at_706 rfl rfl ?_
              refine w_lcmp_ne X412 at_708 rfl at_709 (by decide) (pcT := 716) (pcF := 712) (by decide) rfl (fun c421 => ?_) (fun c421 => ?_)
              · refine w_iconst X412 at_716 (v := (0 : Int32)) rfl rfl ?_
                exact False.elim (c421 (by subst hz418 hz416 hz415 hz413 hz408; rw [own_law z1.toInt.toNat (by have := z1.toInt_lt; omega) z1 (by omega) xs0 hx0 _ _ _ _ h19 h20 F0 FT T21 c409]; simp only [gw2, gw1, gw0, if_pos c414, if_neg c417, if_pos c419, if_neg c420]))
              · refine w_iconst X412 at_712 (v := (1 : Int32)) rfl rfl ?_
                refine w_goto X412 at_713 (by decide) (pc' := 717) (by decide) ?_
                exact w_nreturn X412 (t := .boolean) (by simp) at_717 rfl trivial (by decide) (by decide)
            · refine w_lload X412 at_691 rfl rfl ?_
              refine w_iload X412 at_693 rfl rfl ?_
              refine w_staticVP X412 (rm7 l Z a0 hw z418 z373 h386 n0 X412.size ) (hw _ (List.mem_of_getElem? (i := 49) rfl)) (hw _ (List.mem_of_getElem? (i := 50) rfl)) (hw _ (List.mem_of_getElem? (i := 23) rfl)) (hw _ (List.mem_of_getElem? (i := 51) rfl)) (by decide) (argsL := [(.long z418), (.int z373)]) (rest := []) rfl (lenOf pd_5 rfl) rfl (W := 0) rfl (by decide) (by decide) (by decide) (by decide) at_695 rfl fun T422 X423 => ?_
              generalize hz424 : (f_step z418 z373) = z424
              refine w_lstore X423 at_698 rfl (L' := #[.val (.long q1), .second, .val (.long q2), .second, .val (.long q3), .second, .val (.int p4), .val (.int p5), .val (.long z1), .second, .val (.ref a5), .val (.ref a149), .val (.int z370), .val (.int z373), .val (.int z394), .val (.int z395), .val (.int z398), .val (.int z401), .val (.int z402), .val (.int z403), .val (.int (0 : Int32)), .val (.long z408), .second, .unset, .unset, .val (.int z413), .val (.long z424), .second, .val (.int z415), .val (.long z416), .second]) rfl ?_
              refine w_lload X423 at_700 rfl rfl ?_
              refine w_lstore X423 at_702 rfl (L' := #[.val (.long q1), .second, .val (.long q2), .second, .val (.long q3), .second, .val (.int p4), .val (.int p5), .val (.long z1), .second, .val (.ref a5), .val (.ref a149), .val (.int z370), .val (.int z373), .val (.int z394), .val (.int z395), .val (.int z398), .val (.int z401), .val (.int z402), .val (.int z403), .val (.int (0 : Int32)), .val (.long z408), .second, .val (.long z424), .second, .val (.int z413), .val (.long z424), .second, .val (.int z415), .val (.long z416), .second]) rfl ?_
              refine w_lload X423 at_704 rfl rfl ?_
              refine w_lload X423 at_706 rfl rfl ?_
              refine w_lcmp_ne X423 at_708 rfl at_709 (by decide) (pcT := 716) (pcF := 712) (by decide) rfl (fun c425 => ?_) (fun c425 => ?_)
              · refine w_iconst X423 at_716 (v := (0 : Int32)) rfl rfl ?_
                exact False.elim (c425 (by subst hz424 hz418 hz416 hz415 hz413 hz408; rw [own_law z1.toInt.toNat (by have := z1.toInt_lt; omega) z1 (by omega) xs0 hx0 _ _ _ _ h19 h20 F0 FT T21 c409]; simp only [gw2, gw1, gw0, if_pos c414, if_neg c417, if_pos c419, if_pos c420]))
              · refine w_iconst X423 at_712 (v := (1 : Int32)) rfl rfl ?_
                refine w_goto X423 at_713 (by decide) (pc' := 717) (by decide) ?_
                exact w_nreturn X423 (t := .boolean) (by simp) at_717 rfl trivial (by decide) (by decide)
          · refine w_iload X412 at_668 rfl rfl ?_
            refine w_bipush X412 at_670 (v := (19 : Int32)) rfl rfl ?_
            refine w_icmp_gt X412 at_672 (by decide) (pcT := 684) (pcF := 675) (by decide) rfl (fun c426 => ?_) (fun c426 => ?_)
            · refine w_iload X412 at_684 rfl rfl ?_
              refine w_bipush X412 at_686 (v := (21 : Int32)) rfl rfl ?_
              refine w_icmp_ne X412 at_688 (by decide) (pcT := 700) (pcF := 691) (by decide) rfl (fun c427 => ?_) (fun c427 => ?_)
              · refine w_lload X412 at_700 rfl rfl ?_
                refine w_lstore X412 at_702 rfl (L' := #[.val (.long q1), .second, .val (.long q2), .second, .val (.long q3), .second, .val (.int p4), .val (.int p5), .val (.long z1), .second, .val (.ref a5), .val (.ref a149), .val (.int z370), .val (.int z373), .val (.int z394), .val (.int z395), .val (.int z398), .val (.int z401), .val (.int z402), .val (.int z403), .val (.int (0 : Int32)), .val (.long z408), .second, .val (.long z418), .second, .val (.int z413), .val (.long z418), .second, .val (.int z415), .val (.long z416), .second]) rfl ?_
                refine w_lload X412 at_704 rfl rfl ?_
                refine w_lload X412 at_706 rfl rfl ?_
                refine w_lcmp_ne X412 at_708 rfl at_709 (by decide) (pcT := 716) (pcF := 712) (by decide) rfl (fun c428 => ?_) (fun c428 => ?_)
                · refine w_iconst X412 at_716 (v := (0 : Int32)) rfl rfl ?_
                  exact False.elim (c428 (by subst hz418 hz416 hz415 hz413 hz408; rw [own_law z1.toInt.toNat (by have := z1.toInt_lt; omega) z1 (by omega) xs0 hx0 _ _ _ _ h19 h20 F0 FT T21 c409]; simp only [gw2, gw1, gw0, if_pos c414, if_neg c417, if_neg c419, if_pos c426, if_neg c427]))
                · refine w_iconst X412 at_712 (v := (1 : Int32)) rfl rfl ?_
                  refine w_goto X412 at_713 (by decide) (pc' := 717) (by decide) ?_
                  exact w_nreturn X412 (t := .boolean) (by simp) at_717 rfl trivial (by decide) (by decide)
              · refine w_lload X412 at_691 rfl rfl ?_
                refine w_iload X412 at_693 rfl rfl ?_
                refine w_staticVP X412 (rm7 l Z a0 hw z418 z373 h386 n0 X412.size ) (hw _ (List.mem_of_getElem? (i := 49) rfl)) (hw _ (List.mem_of_getElem? (i := 50) rfl)) (hw _ (List.mem_of_getElem? (i := 23) rfl)) (hw _ (List.mem_of_getElem? (i := 51) rfl)) (by decide) (argsL := [(.long z418), (.int z373)]) (rest := []) rfl (lenOf pd_5 rfl) rfl (W := 0) rfl (by decide) (by decide) (by decide) (by decide) at_695 rfl fun T429 X430 => ?_
                generalize hz431 : (f_step z418 z373) = z431
                refine w_lstore X430 at_698 rfl (L' := #[.val (.long q1), .second, .val (.long q2), .second, .val (.long q3), .second, .val (.int p4), .val (.int p5), .val (.long z1), .second, .val (.ref a5), .val (.ref a149), .val (.int z370), .val (.int z373), .val (.int z394), .val (.int z395), .val (.int z398), .val (.int z401), .val (.int z402), .val (.int z403), .val (.int (0 : Int32)), .val (.long z408), .second, .unset, .unset, .val (.int z413), .val (.long z431), .second, .val (.int z415), .val (.long z416), .second]) rfl ?_
                refine w_lload X430 at_700 rfl rfl ?_
                refine w_lstore X430 at_702 rfl (L' := #[.val (.long q1), .second, .val (.long q2), .second, .val (.long q3), .second, .val (.int p4), .val (.int p5), .val (.long z1), .second, .val (.ref a5), .val (.ref a149), .val (.int z370), .val (.int z373), .val (.int z394), .val (.int z395), .val (.int z398), .val (.int z401), .val (.int z402), .val (.int z403), .val (.int (0 : Int32)), .val (.long z408), .second, .val (.long z431), .second, .val (.int z413), .val (.long z431), .second, .val (.int z415), .val (.long z416), .second]) rfl ?_
                refine w_lload X430 at_704 rfl rfl ?_
                refine w_lload X430 at_706 rfl rfl ?_
                refine w_lcmp_ne X430 at_708 rfl at_709 (by decide) (pcT := 716) (pcF := 712) (by decide) rfl (fun c432 => ?_) (fun c432 => ?_)
                · refine w_iconst X430 at_716 (v := (0 : Int32)) rfl rfl ?_
                  exact False.elim (c432 (by subst hz431 hz418 hz416 hz415 hz413 hz408; rw [own_law z1.toInt.toNat (by have := z1.toInt_lt; omega) z1 (by omega) xs0 hx0 _ _ _ _ h19 h20 F0 FT T21 c409]; simp only [gw2, gw1, gw0, if_pos c414, if_neg c417, if_neg c419, if_pos c426, if_pos c427]))
                · refine w_iconst X430 at_712 (v := (1 : Int32)) rfl rfl ?_
                  refine w_goto X430 at_713 (by decide) (pc' := 717) (by decide) ?_
                  exact w_nreturn X430 (t := .boolean) (by simp) at_717 rfl trivial (by decide) (by decide)
            · refine w_lload X412 at_675 rfl rfl ?_
              refine w_iload X412 at_677 rfl rfl ?_
              refine w_staticVP X412 (rm7 l Z a0 hw z418 z370 h386 n0 X412.size ) (hw _ (List.mem_of_getElem? (i := 49) rfl)) (hw _ (List.mem_of_getElem? (i := 50) rfl)) (hw _ (List.mem_of_getElem? (i := 23) rfl)) (hw _ (List.mem_of_getElem? (i := 51) rfl)) (by decide) (argsL := [(.long z418), (.int z370)]) (rest := []) rfl (lenOf pd_5 rfl) rfl (W := 0) rfl (by decide) (by decide) (by decide) (by decide) at_679 rfl fun T433 X434 => ?_
              generalize hz435 : (f_step z418 z370) = z435
              refine w_lstore X434 at_682 rfl (L' := #[.val (.long q1), .second, .val (.long q2), .second, .val (.long q3), .second, .val (.int p4), .val (.int p5), .val (.long z1), .second, .val (.ref a5), .val (.ref a149), .val (.int z370), .val (.int z373), .val (.int z394), .val (.int z395), .val (.int z398), .val (.int z401), .val (.int z402), .val (.int z403), .val (.int (0 : Int32)), .val (.long z408), .second, .unset, .unset, .val (.int z413), .val (.long z435), .second, .val (.int z415), .val (.long z416), .second]) rfl ?_
              refine w_iload X434 at_684 rfl rfl ?_
              refine w_bipush X434 at_686 (v := (21 : Int32)) rfl rfl ?_
              refine w_icmp_ne X434 at_688 (by decide) (pcT := 700) (pcF := 691) (by decide) rfl (fun c436 => ?_) (fun c436 => ?_)
              · refine w_lload X434 at_700 rfl rfl ?_
                refine w_lstore X434 at_702 rfl (L' := #[.val (.long q1), .second, .val (.long q2), .second, .val (.long q3), .second, .val (.int p4), .val (.int p5), .val (.long z1), .second, .val (.ref a5), .val (.ref a149), .val (.int z370), .val (.int z373), .val (.int z394), .val (.int z395), .val (.int z398), .val (.int z401), .val (.int z402), .val (.int z403), .val (.int (0 : Int32)), .val (.long z408), .second, .val (.long z435), .second, .val (.int z413), .val (.long z435), .second, .val (.int z415), .val (.long z416), .second]) rfl ?_
                refine w_lload X434 at_704 rfl rfl ?_
                refine w_lload X434 at_706 rfl rfl ?_
                refine w_lcmp_ne X434 at_708 rfl at_709 (by decide) (pcT := 716) (pcF := 712) (by decide) rfl (fun c437 => ?_) (fun c437 => ?_)
                · refine w_iconst X434 at_716 (v := (0 : Int32)) rfl rfl ?_
                  exact False.elim (c437 (by subst hz435 hz418 hz416 hz415 hz413 hz408; rw [own_law z1.toInt.toNat (by have := z1.toInt_lt; omega) z1 (by omega) xs0 hx0 _ _ _ _ h19 h20 F0 FT T21 c409]; simp only [gw2, gw1, gw0, if_pos c414, if_neg c417, if_neg c419, if_neg c426, if_neg c436]))
                · refine w_iconst X434 at_712 (v := (1 : Int32)) rfl rfl ?_
                  refine w_goto X434 at_713 (by decide) (pc' := 717) (by decide) ?_
                  exact w_nreturn X434 (t := .boolean) (by simp) at_717 rfl trivial (by decide) (by decide)
              · refine w_lload X434 at_691 rfl rfl ?_
                refine w_iload X434 at_693 rfl rfl ?_
                refine w_staticVP X434 (rm7 l Z a0 hw z435 z373 h386 n0 X434.size ) (hw _ (List.mem_of_getElem? (i := 49) rfl)) (hw _ (List.mem_of_getElem? (i := 50) rfl)) (hw _ (List.mem_of_getElem? (i := 23) rfl)) (hw _ (List.mem_of_getElem? (i := 51) rfl)) (by decide) (argsL := [(.long z435), (.int z373)]) (rest := []) rfl (lenOf pd_5 rfl) rfl (W := 0) rfl (by decide) (by decide) (by decide) (by decide) at_695 rfl fun T438 X439 => ?_
                generalize hz440 : (f_step z435 z373) = z440
                refine w_lstore X439 at_698 rfl (L' := #[.val (.long q1), .second, .val (.long q2), .second, .val (.long q3), .second, .val (.int p4), .val (.int p5), .val (.long z1), .second, .val (.ref a5), .val (.ref a149), .val (.int z370), .val (.int z373), .val (.int z394), .val (.int z395), .val (.int z398), .val (.int z401), .val (.int z402), .val (.int z403), .val (.int (0 : Int32)), .val (.long z408), .second, .unset, .unset, .val (.int z413), .val (.long z440), .second, .val (.int z415), .val (.long z416), .second]) rfl ?_
                refine w_lload X439 at_700 rfl rfl ?_
                refine w_lstore X439 at_702 rfl (L' := #[.val (.long q1), .second, .val (.long q2), .second, .val (.long q3), .second, .val (.int p4), .val (.int p5), .val (.long z1), .second, .val (.ref a5), .val (.ref a149), .val (.int z370), .val (.int z373), .val (.int z394), .val (.int z395), .val (.int z398), .val (.int z401), .val (.int z402), .val (.int z403), .val (.int (0 : Int32)), .val (.long z408), .second, .val (.long z440), .second, .val (.int z413), .val (.long z440), .second, .val (.int z415), .val (.long z416), .second]) rfl ?_
                refine w_lload X439 at_704 rfl rfl ?_
                refine w_lload X439 at_706 rfl rfl ?_
                refine w_lcmp_ne X439 at_708 rfl at_709 (by decide) (pcT := 716) (pcF := 712) (by decide) rfl (fun c441 => ?_) (fun c441 => ?_)
                · refine w_iconst X439 at_716 (v := (0 : Int32)) rfl rfl ?_
                  exact False.elim (c441 (by subst hz440 hz435 hz418 hz416 hz415 hz413 hz408; rw [own_law z1.toInt.toNat (by have := z1.toInt_lt; omega) z1 (by omega) xs0 hx0 _ _ _ _ h19 h20 F0 FT T21 c409]; simp only [gw2, gw1, gw0, if_pos c414, if_neg c417, if_neg c419, if_neg c426, if_pos c436]))
                · refine w_iconst X439 at_712 (v := (1 : Int32)) rfl rfl ?_
                  refine w_goto X439 at_713 (by decide) (pc' := 717) (by decide) ?_
                  exact w_nreturn X439 (t := .boolean) (by simp) at_717 rfl trivial (by decide) (by decide)
        · refine w_lload X412 at_646 rfl rfl ?_
          refine w_goto X412 at_648 (by decide) (pc' := 659) (by decide) ?_
          refine w_lstore X412 at_659 rfl (L' := #[.val (.long q1), .second, .val (.long q2), .second, .val (.long q3), .second, .val (.int p4), .val (.int p5), .val (.long z1), .second, .val (.ref a5), .val (.ref a149), .val (.int z370), .val (.int z373), .val (.int z394), .val (.int z395), .val (.int z398), .val (.int z401), .val (.int z402), .val (.int z403), .val (.int (0 : Int32)), .val (.long z408), .second, .unset, .unset, .val (.int z413), .val (.long z416), .second, .val (.int z415), .val (.long z416), .second]) rfl ?_
          refine w_iload X412 at_661 rfl rfl ?_
          refine w_bipush X412 at_663 (v := (20 : Int32)) rfl rfl ?_
          refine w_icmp_lt X412 at_665 (by decide) (pcT := 684) (pcF := 668) (by decide) rfl (fun c442 => ?_) (fun c442 => ?_)
          · refine w_iload X412 at_684 rfl rfl ?_
            refine w_bipush X412 at_686 (v := (21 : Int32)) rfl rfl ?_
            refine w_icmp_ne X412 at_688 (by decide) (pcT := 700) (pcF := 691) (by decide) rfl (fun c443 => ?_) (fun c443 => ?_)
            · refine w_lload X412 at_700 rfl rfl ?_
              refine w_lstore X412 at_702 rfl (L' := #[.val (.long q1), .second, .val (.long q2), .second, .val (.long q3), .second, .val (.int p4), .val (.int p5), .val (.long z1), .second, .val (.ref a5), .val (.ref a149), .val (.int z370), .val (.int z373), .val (.int z394), .val (.int z395), .val (.int z398), .val (.int z401), .val (.int z402), .val (.int z403), .val (.int (0 : Int32)), .val (.long z408), .second, .val (.long z416), .second, .val (.int z413), .val (.long z416), .second, .val (.int z415), .val (.long z416), .second]) rfl ?_
              refine w_lload X412 at_704 rfl rfl ?_
              refine w_lload X412 at_706 rfl rfl ?_
              refine w_lcmp_ne X412 at_708 rfl at_709 (by decide) (pcT := 716) (pcF := 712) (by decide) rfl (fun c444 => ?_) (fun c444 => ?_)
              · refine w_iconst X412 at_716 (v := (0 : Int32)) rfl rfl ?_
                exact False.elim (c444 (by subst hz416 hz415 hz413 hz408; rw [own_law z1.toInt.toNat (by have := z1.toInt_lt; omega) z1 (by omega) xs0 hx0 _ _ _ _ h19 h20 F0 FT T21 c409]; simp only [gw2, gw1, gw0, if_pos c414, if_pos c417, if_pos c442, if_neg c443]))
              · refine w_iconst X412 at_712 (v := (1 : Int32)) rfl rfl ?_
                refine w_goto X412 at_713 (by decide) (pc' := 717) (by decide) ?_
                exact w_nreturn X412 (t := .boolean) (by simp) at_717 rfl trivial (by decide) (by decide)
            · refine w_lload X412 at_691 rfl rfl ?_
              refine w_iload X412 at_693 rfl rfl ?_
              refine w_staticVP X412 (rm7 l Z a0 hw z416 z373 h386 n0 X412.size ) (hw _ (List.mem_of_getElem? (i := 49) rfl)) (hw _ (List.mem_of_getElem? (i := 50) rfl)) (hw _ (List.mem_of_getElem? (i := 23) rfl)) (hw _ (List.mem_of_getElem? (i := 51) rfl)) (by decide) (argsL := [(.long z416), (.int z373)]) (rest := []) rfl (lenOf pd_5 rfl) rfl (W := 0) rfl (by decide) (by decide) (by decide) (by decide) at_695 rfl fun T445 X446 => ?_
              generalize hz447 : (f_step z416 z373) = z447
              refine w_lstore X446 at_698 rfl (L' := #[.val (.long q1), .second, .val (.long q2), .second, .val (.long q3), .second, .val (.int p4), .val (.int p5), .val (.long z1), .second, .val (.ref a5), .val (.ref a149), .val (.int z370), .val (.int z373), .val (.int z394), .val (.int z395), .val (.int z398), .val (.int z401), .val (.int z402), .val (.int z403), .val (.int (0 : Int32)), .val (.long z408), .second, .unset, .unset, .val (.int z413), .val (.long z447), .second, .val (.int z415), .val (.long z416), .second]) rfl ?_
              refine w_lload X446 at_700 rfl rfl ?_
              refine w_lstore X446 at_702 rfl (L' := #[.val (.long q1), .second, .val (.long q2), .second, .val (.long q3), .second, .val (.int p4), .val (.int p5), .val (.long z1), .second, .val (.ref a5), .val (.ref a149), .val (.int z370), .val (.int z373), .val (.int z394), .val (.int z395), .val (.int z398), .val (.int z401), .val (.int z402), .val (.int z403), .val (.int (0 : Int32)), .val (.long z408), .second, .val (.long z447), .second, .val (.int z413), .val (.long z447), .second, .val (.int z415), .val (.long z416), .second]) rfl ?_
              refine w_lload X446 at_704 rfl rfl ?_
              refine w_lload X446 at_706 rfl rfl ?_
              refine w_lcmp_ne X446 at_708 rfl at_709 (by decide) (pcT := 716) (pcF := 712) (by decide) rfl (fun c448 => ?_) (fun c448 => ?_)
              · refine w_iconst X446 at_716 (v := (0 : Int32)) rfl rfl ?_
                exact False.elim (c448 (by subst hz447 hz416 hz415 hz413 hz408; rw [own_law z1.toInt.toNat (by have := z1.toInt_lt; omega) z1 (by omega) xs0 hx0 _ _ _ _ h19 h20 F0 FT T21 c409]; simp only [gw2, gw1, gw0, if_pos c414, if_pos c417, if_pos c442, if_pos c443]))
              · refine w_iconst X446 at_712 (v := (1 : Int32)) rfl rfl ?_
                refine w_goto X446 at_713 (by decide) (pc' := 717) (by decide) ?_
                exact w_nreturn X446 (t := .boolean) (by simp) at_717 rfl trivial (by decide) (by decide)
          · refine w_iload X412 at_668 rfl rfl ?_
            refine w_bipush X412 at_670 (v := (19 : Int32)) rfl rfl ?_
            refine w_icmp_gt X412 at_672 (by decide) (pcT := 684) (pcF := 675) (by decide) rfl (fun c449 => ?_) (fun c449 => ?_)
            · refine w_iload X412 at_684 rfl rfl ?_
              refine w_bipush X412 at_686 (v := (21 : Int32)) rfl rfl ?_
              refine w_icmp_ne X412 at_688 (by decide) (pcT := 700) (pcF := 691) (by decide) rfl (fun c450 => ?_) (fun c450 => ?_)
              · refine w_lload X412 at_700 rfl rfl ?_
                refine w_lstore X412 at_702 rfl (L' := #[.val (.long q1), .second, .val (.long q2), .second, .val (.long q3), .second, .val (.int p4), .val (.int p5), .val (.long z1), .second, .val (.ref a5), .val (.ref a149), .val (.int z370), .val (.int z373), .val (.int z394), .val (.int z395), .val (.int z398), .val (.int z401), .val (.int z402), .val (.int z403), .val (.int (0 : Int32)), .val (.long z408), .second, .val (.long z416), .second, .val (.int z413), .val (.long z416), .second, .val (.int z415), .val (.long z416), .second]) rfl ?_
                refine w_lload X412 at_704 rfl rfl ?_
                refine w_lload X412 at_706 rfl rfl ?_
                refine w_lcmp_ne X412 at_708 rfl at_709 (by decide) (pcT := 716) (pcF := 712) (by decide) rfl (fun c451 => ?_) (fun c451 => ?_)
                · refine w_iconst X412 at_716 (v := (0 : Int32)) rfl rfl ?_
                  exact False.elim (c451 (by subst hz416 hz415 hz413 hz408; rw [own_law z1.toInt.toNat (by have := z1.toInt_lt; omega) z1 (by omega) xs0 hx0 _ _ _ _ h19 h20 F0 FT T21 c409]; simp only [gw2, gw1, gw0, if_pos c414, if_pos c417, if_neg c442, if_pos c449, if_neg c450]))
                · refine w_iconst X412 at_712 (v := (1 : Int32)) rfl rfl ?_
                  refine w_goto X412 at_713 (by decide) (pc' := 717) (by decide) ?_
                  exact w_nreturn X412 (t := .boolean) (by simp) at_717 rfl trivial (by decide) (by decide)
              · refine w_lload X412 at_691 rfl rfl ?_
                refine w_iload X412 at_693 rfl rfl ?_
                refine w_staticVP X412 (rm7 l Z a0 hw z416 z373 h386 n0 X412.size ) (hw _ (List.mem_of_getElem? (i := 49) rfl)) (hw _ (List.mem_of_getElem? (i := 50) rfl)) (hw _ (List.mem_of_getElem? (i := 23) rfl)) (hw _ (List.mem_of_getElem? (i := 51) rfl)) (by decide) (argsL := [(.long z416), (.int z373)]) (rest := []) rfl (lenOf pd_5 rfl) rfl (W := 0) rfl (by decide) (by decide) (by decide) (by decide) at_695 rfl fun T452 X453 => ?_
                generalize hz454 : (f_step z416 z373) = z454
                refine w_lstore X453 at_698 rfl (L' := #[.val (.long q1), .second, .val (.long q2), .second, .val (.long q3), .second, .val (.int p4), .val (.int p5), .val (.long z1), .second, .val (.ref a5), .val (.ref a149), .val (.int z370), .val (.int z373), .val (.int z394), .val (.int z395), .val (.int z398), .val (.int z401), .val (.int z402), .val (.int z403), .val (.int (0 : Int32)), .val (.long z408), .second, .unset, .unset, .val (.int z413), .val (.long z454), .second, .val (.int z415), .val (.long z416), .second]) rfl ?_
                refine w_lload X453 at_700 rfl rfl ?_
                refine w_lstore X453 at_702 rfl (L' := #[.val (.long q1), .second, .val (.long q2), .second, .val (.long q3), .second, .val (.int p4), .val (.int p5), .val (.long z1), .second, .val (.ref a5), .val (.ref a149), .val (.int z370), .val (.int z373), .val (.int z394), .val (.int z395), .val (.int z398), .val (.int z401), .val (.int z402), .val (.int z403), .val (.int (0 : Int32)), .val (.long z408), .second, .val (.long z454), .second, .val (.int z413), .val (.long z454), .second, .val (.int z415), .val (.long z416), .second]) rfl ?_
                refine w_lload X453 at_704 rfl rfl ?_
                refine w_lload X453 at_706 rfl rfl ?_
                refine w_lcmp_ne X453 at_708 rfl at_709 (by decide) (pcT := 716) (pcF := 712) (by decide) rfl (fun c455 => ?_) (fun c455 => ?_)
                · refine w_iconst X453 at_716 (v := (0 : Int32)) rfl rfl ?_
                  exact False.elim (c455 (by subst hz454 hz416 hz415 hz413 hz408; rw [own_law z1.toInt.toNat (by have := z1.toInt_lt; omega) z1 (by omega) xs0 hx0 _ _ _ _ h19 h20 F0 FT T21 c409]; simp only [gw2, gw1, gw0, if_pos c414, if_pos c417, if_neg c442, if_pos c449, if_pos c450]))
                · refine w_iconst X453 at_712 (v := (1 : Int32)) rfl rfl ?_
                  refine w_goto X453 at_713 (by decide) (pc' := 717) (by decide) ?_
                  exact w_nreturn X453 (t := .boolean) (by simp) at_717 rfl trivial (by decide) (by decide)
            · refine w_lload X412 at_675 rfl rfl ?_
              refine w_iload X412 at_677 rfl rfl ?_
              refine w_staticVP X412 (rm7 l Z a0 hw z416 z370 h386 n0 X412.size ) (hw _ (List.mem_of_getElem? (i := 49) rfl)) (hw _ (List.mem_of_getElem? (i := 50) rfl)) (hw _ (List.mem_of_getElem? (i := 23) rfl)) (hw _ (List.mem_of_getElem? (i := 51) rfl)) (by decide) (argsL := [(.long z416), (.int z370)]) (rest := []) rfl (lenOf pd_5 rfl) rfl (W := 0) rfl (by decide) (by decide) (by decide) (by decide) at_679 rfl fun T456 X457 => ?_
              generalize hz458 : (f_step z416 z370) = z458
              refine w_lstore X457 at_682 rfl (L' := #[.val (.long q1), .second, .val (.long q2), .second, .val (.long q3), .second, .val (.int p4), .val (.int p5), .val (.long z1), .second, .val (.ref a5), .val (.ref a149), .val (.int z370), .val (.int z373), .val (.int z394), .val (.int z395), .val (.int z398), .val (.int z401), .val (.int z402), .val (.int z403), .val (.int (0 : Int32)), .val (.long z408), .second, .unset, .unset, .val (.int z413), .val (.long z458), .second, .val (.int z415), .val (.long z416), .second]) rfl ?_
              refine w_iload X457 at_684 rfl rfl ?_
              refine w_bipush X457 at_686 (v := (21 : Int32)) rfl rfl ?_
              refine w_icmp_ne X457 at_688 (by decide) (pcT := 700) (pcF := 691) (by decide) rfl (fun c459 => ?_) (fun c459 => ?_)
              · refine w_lload X457 at_700 rfl rfl ?_
                refine w_lstore X457 at_702 rfl (L' := #[.val (.long q1), .second, .val (.long q2), .second, .val (.long q3), .second, .val (.int p4), .val (.int p5), .val (.long z1), .second, .val (.ref a5), .val (.ref a149), .val (.int z370), .val (.int z373), .val (.int z394), .val (.int z395), .val (.int z398), .val (.int z401), .val (.int z402), .val (.int z403), .val (.int (0 : Int32)), .val (.long z408), .second, .val (.long z458), .second, .val (.int z413), .val (.long z458), .second, .val (.int z415), .val (.long z416), .second]) rfl ?_
                refine w_lload X457 at_704 rfl rfl ?_
                refine w_lload X457 at_706 rfl rfl ?_
                refine w_lcmp_ne X457 at_708 rfl at_709 (by decide) (pcT := 716) (pcF := 712) (by decide) rfl (fun c460 => ?_) (fun c460 => ?_)
                · refine w_iconst X457 at_716 (v := (0 : Int32)) rfl rfl ?_
                  exact False.elim (c460 (by subst hz458 hz416 hz415 hz413 hz408; rw [own_law z1.toInt.toNat (by have := z1.toInt_lt; omega) z1 (by omega) xs0 hx0 _ _ _ _ h19 h20 F0 FT T21 c409]; simp only [gw2, gw1, gw0, if_pos c414, if_pos c417, if_neg c442, if_neg c449, if_neg c459]))
                · refine w_iconst X457 at_712 (v := (1 : Int32)) rfl rfl ?_
                  refine w_goto X457 at_713 (by decide) (pc' := 717) (by decide) ?_
                  exact w_nreturn X457 (t := .boolean) (by simp) at_717 rfl trivial (by decide) (by decide)
              · refine w_lload X457 at_691 rfl rfl ?_
                refine w_iload X457 at_693 rfl rfl ?_
                refine w_staticVP X457 (rm7 l Z a0 hw z458 z373 h386 n0 X457.size ) (hw _ (List.mem_of_getElem? (i := 49) rfl)) (hw _ (List.mem_of_getElem? (i := 50) rfl)) (hw _ (List.mem_of_getElem? (i := 23) rfl)) (hw _ (List.mem_of_getElem? (i := 51) rfl)) (by decide) (argsL := [(.long z458), (.int z373)]) (rest := []) rfl (lenOf pd_5 rfl) rfl (W := 0) rfl (by decide) (by decide) (by decide) (by decide) at_695 rfl fun T461 X462 => ?_
                generalize hz463 : (f_step z458 z373) = z463
                refine w_lstore X462 at_698 rfl (L' := #[.val (.long q1), .second, .val (.long q2), .second, .val (.long q3), .second, .val (.int p4), .val (.int p5), .val (.long z1), .second, .val (.ref a5), .val (.ref a149), .val (.int z370), .val (.int z373), .val (.int z394), .val (.int z395), .val (.int z398), .val (.int z401), .val (.int z402), .val (.int z403), .val (.int (0 : Int32)), .val (.long z408), .second, .unset, .unset, .val (.int z413), .val (.long z463), .second, .val (.int z415), .val (.long z416), .second]) rfl ?_
                refine w_lload X462 at_700 rfl rfl ?_
                refine w_lstore X462 at_702 rfl (L' := #[.val (.long q1), .second, .val (.long q2), .second, .val (.long q3), .second, .val (.int p4), .val (.int p5), .val (.long z1), .second, .val (.ref a5), .val (.ref a149), .val (.int z370), .val (.int z373), .val (.int z394), .val (.int z395), .val (.int z398), .val (.int z401), .val (.int z402), .val (.int z403), .val (.int (0 : Int32)), .val (.long z408), .second, .val (.long z463), .second, .val (.int z413), .val (.long z463), .second, .val (.int z415), .val (.long z416), .second]) rfl ?_
                refine w_lload X462 at_704 rfl rfl ?_
                refine w_lload X462 at_706 rfl rfl ?_
                refine w_lcmp_ne X462 at_708 rfl at_709 (by decide) (pcT := 716) (pcF := 712) (by decide) rfl (fun c464 => ?_) (fun c464 => ?_)
                · refine w_iconst X462 at_716 (v := (0 : Int32)) rfl rfl ?_
                  exact False.elim (c464 (by subst hz463 hz458 hz416 hz415 hz413 hz408; rw [own_law z1.toInt.toNat (by have := z1.toInt_lt; omega) z1 (by omega) xs0 hx0 _ _ _ _ h19 h20 F0 FT T21 c409]; simp only [gw2, gw1, gw0, if_pos c414, if_pos c417, if_neg c442, if_neg c449, if_pos c459]))
                · refine w_iconst X462 at_712 (v := (1 : Int32)) rfl rfl ?_
                  refine w_goto X462 at_713 (by decide) (pc' := 717) (by decide) ?_
                  exact w_nreturn X462 (t := .boolean) (by simp) at_717 rfl trivial (by decide) (by decide)
      · refine w_lconst X412 at_613 (v := (0 : Int64)) rfl rfl ?_
        refine w_lstore X412 at_614 rfl (L' := #[.val (.long q1), .second, .val (.long q2), .second, .val (.long q3), .second, .val (.int p4), .val (.int p5), .val (.long z1), .second, .val (.ref a5), .val (.ref a149), .val (.int z370), .val (.int z373), .val (.int z394), .val (.int z395), .val (.int z398), .val (.int z401), .val (.int z402), .val (.int z403), .val (.int (0 : Int32)), .val (.long z408), .second, .unset, .unset, .val (.int z413), .val (.long (0 : Int64)), .second, .unset, .unset, .unset]) rfl ?_
        refine w_goto X412 at_616 (by decide) (pc' := 661) (by decide) ?_
        refine w_iload X412 at_661 rfl rfl ?_
        refine w_bipush X412 at_663 (v := (20 : Int32)) rfl rfl ?_
        refine w_icmp_lt X412 at_665 (by decide) (pcT := 684) (pcF := 668) (by decide) rfl (fun c465 => ?_) (fun c465 => ?_)
        · refine w_iload X412 at_684 rfl rfl ?_
          refine w_bipush X412 at_686 (v := (21 : Int32)) rfl rfl ?_
          refine w_icmp_ne X412 at_688 (by decide) (pcT := 700) (pcF := 691) (by decide) rfl (fun c466 => ?_) (fun c466 => ?_)
          · refine w_lload X412 at_700 rfl rfl ?_
            refine w_lstore X412 at_702 rfl (L' := #[.val (.long q1), .second, .val (.long q2), .second, .val (.long q3), .second, .val (.int p4), .val (.int p5), .val (.long z1), .second, .val (.ref a5), .val (.ref a149), .val (.int z370), .val (.int z373), .val (.int z394), .val (.int z395), .val (.int z398), .val (.int z401), .val (.int z402), .val (.int z403), .val (.int (0 : Int32)), .val (.long z408), .second, .val (.long (0 : Int64)), .second, .val (.int z413), .val (.long (0 : Int64)), .second, .unset, .unset, .unset]) rfl ?_
            refine w_lload X412 at_704 rfl rfl ?_
            refine w_lload X412 at_706 rfl rfl ?_
            refine w_lcmp_ne X412 at_708 rfl at_709 (by decide) (pcT := 716) (pcF := 712) (by decide) rfl (fun c467 => ?_) (fun c467 => ?_)
            · refine w_iconst X412 at_716 (v := (0 : Int32)) rfl rfl ?_
              exact False.elim (c467 (by subst hz413 hz408; rw [own_law z1.toInt.toNat (by have := z1.toInt_lt; omega) z1 (by omega) xs0 hx0 _ _ _ _ h19 h20 F0 FT T21 c409]; simp only [gw2, gw1, gw0, if_neg c414, if_pos c465, if_neg c466]))
            · refine w_iconst X412 at_712 (v := (1 : Int32)) rfl rfl ?_
              refine w_goto X412 at_713 (by decide) (pc' := 717) (by decide) ?_
              exact w_nreturn X412 (t := .boolean) (by simp) at_717 rfl trivial (by decide) (by decide)
          · refine w_lload X412 at_691 rfl rfl ?_
            refine w_iload X412 at_693 rfl rfl ?_
            refine w_staticVP X412 (rm7 l Z a0 hw (0 : Int64) z373 h386 n0 X412.size ) (hw _ (List.mem_of_getElem? (i := 49) rfl)) (hw _ (List.mem_of_getElem? (i := 50) rfl)) (hw _ (List.mem_of_getElem? (i := 23) rfl)) (hw _ (List.mem_of_getElem? (i := 51) rfl)) (by decide) (argsL := [(.long (0 : Int64)), (.int z373)]) (rest := []) rfl (lenOf pd_5 rfl) rfl (W := 0) rfl (by decide) (by decide) (by decide) (by decide) at_695 rfl fun T468 X469 => ?_
            generalize hz470 : (f_step (0 : Int64) z373) = z470
            refine w_lstore X469 at_698 rfl (L' := #[.val (.long q1), .second, .val (.long q2), .second, .val (.long q3), .second, .val (.int p4), .val (.int p5), .val (.long z1), .second, .val (.ref a5), .val (.ref a149), .val (.int z370), .val (.int z373), .val (.int z394), .val (.int z395), .val (.int z398), .val (.int z401), .val (.int z402), .val (.int z403), .val (.int (0 : Int32)), .val (.long z408), .second, .unset, .unset, .val (.int z413), .val (.long z470), .second, .unset, .unset, .unset]) rfl ?_
            refine w_lload X469 at_700 rfl rfl ?_
            refine w_lstore X469 at_702 rfl (L' := #[.val (.long q1), .second, .val (.long q2), .second, .val (.long q3), .second, .val (.int p4), .val (.int p5), .val (.long z1), .second, .val (.ref a5), .val (.ref a149), .val (.int z370), .val (.int z373), .val (.int z394), .val (.int z395), .val (.int z398), .val (.int z401), .val (.int z402), .val (.int z403), .val (.int (0 : Int32)), .val (.long z408), .second, .val (.long z470), .second, .val (.int z413), .val (.long z470), .second, .unset, .unset, .unset]) rfl ?_
            refine w_lload X469 at_704 rfl rfl ?_
            refine w_lload X469 at_706 rfl rfl ?_
            refine w_lcmp_ne X469 at_708 rfl at_709 (by decide) (pcT := 716) (pcF := 712) (by decide) rfl (fun c471 => ?_) (fun c471 => ?_)
            · refine w_iconst X469 at_716 (v := (0 : Int32)) rfl rfl ?_
              exact False.elim (c471 (by subst hz470 hz413 hz408; rw [own_law z1.toInt.toNat (by have := z1.toInt_lt; omega) z1 (by omega) xs0 hx0 _ _ _ _ h19 h20 F0 FT T21 c409]; simp only [gw2, gw1, gw0, if_neg c414, if_pos c465, if_pos c466]))
            · refine w_iconst X469 at_712 (v := (1 : Int32)) rfl rfl ?_
              refine w_goto X469 at_713 (by decide) (pc' := 717) (by decide) ?_
              exact w_nreturn X469 (t := .boolean) (by simp) at_717 rfl trivial (by decide) (by decide)
        · refine w_iload X412 at_668 rfl rfl ?_
          refine w_bipush X412 at_670 (v := (19 : Int32)) rfl rfl ?_
          refine w_icmp_gt X412 at_672 (by decide) (pcT := 684) (pcF := 675) (by decide) rfl (fun c472 => ?_) (fun c472 => ?_)
          · refine w_iload X412 at_684 rfl rfl ?_
            refine w_bipush X412 at_686 (v := (21 : Int32)) rfl rfl ?_
            refine w_icmp_ne X412 at_688 (by decide) (pcT := 700) (pcF := 691) (by decide) rfl (fun c473 => ?_) (fun c473 => ?_)
            · refine w_lload X412 at_700 rfl rfl ?_
              refine w_lstore X412 at_702 rfl (L' := #[.val (.long q1), .second, .val (.long q2), .second, .val (.long q3), .second, .val (.int p4), .val (.int p5), .val (.long z1), .second, .val (.ref a5), .val (.ref a149), .val (.int z370), .val (.int z373), .val (.int z394), .val (.int z395), .val (.int z398), .val (.int z401), .val (.int z402), .val (.int z403), .val (.int (0 : Int32)), .val (.long z408), .second, .val (.long (0 : Int64)), .second, .val (.int z413), .val (.long (0 : Int64)), .second, .unset, .unset, .unset]) rfl ?_
              refine w_lload X412 at_704 rfl rfl ?_
              refine w_lload X412 at_706 rfl rfl ?_
              refine w_lcmp_ne X412 at_708 rfl at_709 (by decide) (pcT := 716) (pcF := 712) (by decide) rfl (fun c474 => ?_) (fun c474 => ?_)
              · refine w_iconst X412 at_716 (v := (0 : Int32)) rfl rfl ?_
                exact False.elim (c474 (by subst hz413 hz408; rw [own_law z1.toInt.toNat (by have := z1.toInt_lt; omega) z1 (by omega) xs0 hx0 _ _ _ _ h19 h20 F0 FT T21 c409]; simp only [gw2, gw1, gw0, if_neg c414, if_neg c465, if_pos c472, if_neg c473]))
              · refine w_iconst X412 at_712 (v := (1 : Int32)) rfl rfl ?_
                refine w_goto X412 at_713 (by decide) (pc' := 717) (by decide) ?_
                exact w_nreturn X412 (t := .boolean) (by simp) at_717 rfl trivial (by decide) (by decide)
            · refine w_lload X412 at_691 rfl rfl ?_
              refine w_iload X412 at_693 rfl rfl ?_
              refine w_staticVP X412 (rm7 l Z a0 hw (0 : Int64) z373 h386 n0 X412.size ) (hw _ (List.mem_of_getElem? (i := 49) rfl)) (hw _ (List.mem_of_getElem? (i := 50) rfl)) (hw _ (List.mem_of_getElem? (i := 23) rfl)) (hw _ (List.mem_of_getElem? (i := 51) rfl)) (by decide) (argsL := [(.long (0 : Int64)), (.int z373)]) (rest := []) rfl (lenOf pd_5 rfl) rfl (W := 0) rfl (by decide) (by decide) (by decide) (by decide) at_695 rfl fun T475 X476 => ?_
              generalize hz477 : (f_step (0 : Int64) z373) = z477
              refine w_lstore X476 at_698 rfl (L' := #[.val (.long q1), .second, .val (.long q2), .second, .val (.long q3), .second, .val (.int p4), .val (.int p5), .val (.long z1), .second, .val (.ref a5), .val (.ref a149), .val (.int z370), .val (.int z373), .val (.int z394), .val (.int z395), .val (.int z398), .val (.int z401), .val (.int z402), .val (.int z403), .val (.int (0 : Int32)), .val (.long z408), .second, .unset, .unset, .val (.int z413), .val (.long z477), .second, .unset, .unset, .unset]) rfl ?_
              refine w_lload X476 at_700 rfl rfl ?_
              refine w_lstore X476 at_702 rfl (L' := #[.val (.long q1), .second, .val (.long q2), .second, .val (.long q3), .second, .val (.int p4), .val (.int p5), .val (.long z1), .second, .val (.ref a5), .val (.ref a149), .val (.int z370), .val (.int z373), .val (.int z394), .val (.int z395), .val (.int z398), .val (.int z401), .val (.int z402), .val (.int z403), .val (.int (0 : Int32)), .val (.long z408), .second, .val (.long z477), .second, .val (.int z413), .val (.long z477), .second, .unset, .unset, .unset]) rfl ?_
              refine w_lload X476 at_704 rfl rfl ?_
              refine w_lload X476 at_706 rfl rfl ?_
              refine w_lcmp_ne X476 at_708 rfl at_709 (by decide) (pcT := 716) (pcF := 712) (by decide) rfl (fun c478 => ?_) (fun c478 => ?_)
              · refine w_iconst X476 at_716 (v := (0 : Int32)) rfl rfl ?_
                exact False.elim (c478 (by subst hz477 hz413 hz408; rw [own_law z1.toInt.toNat (by have := z1.toInt_lt; omega) z1 (by omega) xs0 hx0 _ _ _ _ h19 h20 F0 FT T21 c409]; simp only [gw2, gw1, gw0, if_neg c414, if_neg c465, if_pos c472, if_pos c473]))
              · refine w_iconst X476 at_712 (v := (1 : Int32)) rfl rfl ?_
                refine w_goto X476 at_713 (by decide) (pc' := 717) (by decide) ?_
                exact w_nreturn X476 (t := .boolean) (by simp) at_717 rfl trivial (by decide) (by decide)
          · refine w_lload X412 at_675 rfl rfl ?_
            refine w_iload X412 at_677 rfl rfl ?_
            refine w_staticVP X412 (rm7 l Z a0 hw (0 : Int64) z370 h386 n0 X412.size ) (hw _ (List.mem_of_getElem? (i := 49) rfl)) (hw _ (List.mem_of_getElem? (i := 50) rfl)) (hw _ (List.mem_of_getElem? (i := 23) rfl)) (hw _ (List.mem_of_getElem? (i := 51) rfl)) (by decide) (argsL := [(.long (0 : Int64)), (.int z370)]) (rest := []) rfl (lenOf pd_5 rfl) rfl (W := 0) rfl (by decide) (by decide) (by decide) (by decide) at_679 rfl fun T479 X480 => ?_
            generalize hz481 : (f_step (0 : Int64) z370) = z481
            refine w_lstore X480 at_682 rfl (L' := #[.val (.long q1), .second, .val (.long q2), .second, .val (.long q3), .second, .val (.int p4), .val (.int p5), .val (.long z1), .second, .val (.ref a5), .val (.ref a149), .val (.int z370), .val (.int z373), .val (.int z394), .val (.int z395), .val (.int z398), .val (.int z401), .val (.int z402), .val (.int z403), .val (.int (0 : Int32)), .val (.long z408), .second, .unset, .unset, .val (.int z413), .val (.long z481), .second, .unset, .unset, .unset]) rfl ?_
            refine w_iload X480 at_684 rfl rfl ?_
            refine w_bipush X480 at_686 (v := (21 : Int32)) rfl rfl ?_
            refine w_icmp_ne X480 at_688 (by decide) (pcT := 700) (pcF := 691) (by decide) rfl (fun c482 => ?_) (fun c482 => ?_)
            · refine w_lload X480 at_700 rfl rfl ?_
              refine w_lstore X480 at_702 rfl (L' := #[.val (.long q1), .second, .val (.long q2), .second, .val (.long q3), .second, .val (.int p4), .val (.int p5), .val (.long z1), .second, .val (.ref a5), .val (.ref a149), .val (.int z370), .val (.int z373), .val (.int z394), .val (.int z395), .val (.int z398), .val (.int z401), .val (.int z402), .val (.int z403), .val (.int (0 : Int32)), .val (.long z408), .second, .val (.long z481), .second, .val (.int z413), .val (.long z481), .second, .unset, .unset, .unset]) rfl ?_
              refine w_lload X480 at_704 rfl rfl ?_
              refine w_lload X480 at_706 rfl rfl ?_
              refine w_lcmp_ne X480 at_708 rfl at_709 (by decide) (pcT := 716) (pcF := 712) (by decide) rfl (fun c483 => ?_) (fun c483 => ?_)
              · refine w_iconst X480 at_716 (v := (0 : Int32)) rfl rfl ?_
                exact False.elim (c483 (by subst hz481 hz413 hz408; rw [own_law z1.toInt.toNat (by have := z1.toInt_lt; omega) z1 (by omega) xs0 hx0 _ _ _ _ h19 h20 F0 FT T21 c409]; simp only [gw2, gw1, gw0, if_neg c414, if_neg c465, if_neg c472, if_neg c482]))
              · refine w_iconst X480 at_712 (v := (1 : Int32)) rfl rfl ?_
                refine w_goto X480 at_713 (by decide) (pc' := 717) (by decide) ?_
                exact w_nreturn X480 (t := .boolean) (by simp) at_717 rfl trivial (by decide) (by decide)
            · refine w_lload X480 at_691 rfl rfl ?_
              refine w_iload X480 at_693 rfl rfl ?_
              refine w_staticVP X480 (rm7 l Z a0 hw z481 z373 h386 n0 X480.size ) (hw _ (List.mem_of_getElem? (i := 49) rfl)) (hw _ (List.mem_of_getElem? (i := 50) rfl)) (hw _ (List.mem_of_getElem? (i := 23) rfl)) (hw _ (List.mem_of_getElem? (i := 51) rfl)) (by decide) (argsL := [(.long z481), (.int z373)]) (rest := []) rfl (lenOf pd_5 rfl) rfl (W := 0) rfl (by decide) (by decide) (by decide) (by decide) at_695 rfl fun T484 X485 => ?_
              generalize hz486 : (f_step z481 z373) = z486
              refine w_lstore X485 at_698 rfl (L' := #[.val (.long q1), .second, .val (.long q2), .second, .val (.long q3), .second, .val (.int p4), .val (.int p5), .val (.long z1), .second, .val (.ref a5), .val (.ref a149), .val (.int z370), .val (.int z373), .val (.int z394), .val (.int z395), .val (.int z398), .val (.int z401), .val (.int z402), .val (.int z403), .val (.int (0 : Int32)), .val (.long z408), .second, .unset, .unset, .val (.int z413), .val (.long z486), .second, .unset, .unset, .unset]) rfl ?_
              refine w_lload X485 at_700 rfl rfl ?_
              refine w_lstore X485 at_702 rfl (L' := #[.val (.long q1), .second, .val (.long q2), .second, .val (.long q3), .second, .val (.int p4), .val (.int p5), .val (.long z1), .second, .val (.ref a5), .val (.ref a149), .val (.int z370), .val (.int z373), .val (.int z394), .val (.int z395), .val (.int z398), .val (.int z401), .val (.int z402), .val (.int z403), .val (.int (0 : Int32)), .val (.long z408), .second, .val (.long z486), .second, .val (.int z413), .val (.long z486), .second, .unset, .unset, .unset]) rfl ?_
              refine w_lload X485 at_704 rfl rfl ?_
              refine w_lload X485 at_706 rfl rfl ?_
              refine w_lcmp_ne X485 at_708 rfl at_709 (by decide) (pcT := 716) (pcF := 712) (by decide) rfl (fun c487 => ?_) (fun c487 => ?_)
              · refine w_iconst X485 at_716 (v := (0 : Int32)) rfl rfl ?_
                exact False.elim (c487 (by subst hz486 hz481 hz413 hz408; rw [own_law z1.toInt.toNat (by have := z1.toInt_lt; omega) z1 (by omega) xs0 hx0 _ _ _ _ h19 h20 F0 FT T21 c409]; simp only [gw2, gw1, gw0, if_neg c414, if_neg c465, if_neg c472, if_pos c482]))
              · refine w_iconst X485 at_712 (v := (1 : Int32)) rfl rfl ?_
                refine w_goto X485 at_713 (by decide) (pc' := 717) (by decide) ?_
                exact w_nreturn X485 (t := .boolean) (by simp) at_717 rfl trivial (by decide) (by decide)
    · refine w_ldc2Long X407 (hw _ (List.mem_of_getElem? (i := 48) rfl)) at_562 rfl ?_
      refine w_lstore X407 at_565 rfl (L' := #[.val (.long q1), .second, .val (.long q2), .second, .val (.long q3), .second, .val (.int p4), .val (.int p5), .val (.long z1), .second, .val (.ref a5), .val (.ref a149), .val (.int z370), .val (.int z373), .val (.int z394), .val (.int z395), .val (.int z398), .val (.int z401), .val (.int z402), .val (.int z403), .val (.int (0 : Int32)), .val (.long z408), .second, .val (.long (-1 : Int64)), .second, .unset, .unset, .unset, .unset, .unset, .unset]) rfl ?_
      refine w_goto X407 at_567 (by decide) (pc' := 704) (by decide) ?_
      refine w_lload X407 at_704 rfl rfl ?_
      refine w_lload X407 at_706 rfl rfl ?_
      refine w_lcmp_ne X407 at_708 rfl at_709 (by decide) (pcT := 716) (pcF := 712) (by decide) rfl (fun c488 => ?_) (fun c488 => ?_)
      · refine w_iconst X407 at_716 (v := (0 : Int32)) rfl rfl ?_
        exact False.elim (c488 (by subst hz408; unfold f_par; rw [if_pos c409]))
      · refine w_iconst X407 at_712 (v := (1 : Int32)) rfl rfl ?_
        refine w_goto X407 at_713 (by decide) (pc' := 717) (by decide) ?_
        exact w_nreturn X407 (t := .boolean) (by simp) at_717 rfl trivial (by decide) (by decide)
  · refine w_iload X400 at_517 rfl rfl ?_
    refine w_staticVP X400 (rm5 l Z a0 hw z403 h386 n0 X400.size ) (hw _ (List.mem_of_getElem? (i := 38) rfl)) (hw _ (List.mem_of_getElem? (i := 39) rfl)) (hw _ (List.mem_of_getElem? (i := 23) rfl)) (hw _ (List.mem_of_getElem? (i := 40) rfl)) (by decide) (argsL := [(.int z403)]) (rest := []) rfl (lenOf pd_0 rfl) rfl (W := 0) rfl (by decide) (by decide) (by decide) (by decide) at_519 rfl fun T489 X490 => ?_
    refine w_if_ne X490 at_522 (by decide) (pcT := 529) (pcF := 525) (by decide) rfl (fun c491 => ?_) (fun c491 => ?_)
    · refine w_iconst X490 at_529 (v := (0 : Int32)) rfl rfl ?_
      refine w_istore X490 at_530 rfl (L' := #[.val (.long q1), .second, .val (.long q2), .second, .val (.long q3), .second, .val (.int p4), .val (.int p5), .val (.long z1), .second, .val (.ref a5), .val (.ref a149), .val (.int z370), .val (.int z373), .val (.int z394), .val (.int z395), .val (.int z398), .val (.int z401), .val (.int z402), .val (.int z403), .val (.int (0 : Int32)), .unset, .unset, .unset, .unset, .unset, .unset, .unset, .unset, .unset, .unset]) rfl ?_
      refine w_iload X490 at_532 rfl rfl ?_
      refine w_if_eq X490 at_534 (by decide) (pcT := 544) (pcF := 537) (by decide) rfl (fun c492 => ?_) (fun c492 => absurd c492 (by decide))
      refine w_aload X490 at_544 rfl rfl rfl ?_
      refine w_iload X490 at_546 rfl rfl ?_
      refine w_iload X490 at_548 rfl rfl ?_
      refine w_staticVP X490 (rm6 l Z a0 hw a149 z398 z401 xs0 h386 n0 X490.size f392 F0 FT (by omega) hc0) (hw _ (List.mem_of_getElem? (i := 41) rfl)) (hw _ (List.mem_of_getElem? (i := 42) rfl)) (hw _ (List.mem_of_getElem? (i := 43) rfl)) (hw _ (List.mem_of_getElem? (i := 44) rfl)) (by decide) (argsL := [(.ref a149), (.int z398), (.int z401)]) (rest := []) rfl (lenOf pd_4 rfl) rfl (W := 0) rfl (by decide) (by decide) (by decide) (by decide) at_550 rfl fun T493 X494 => ?_
      generalize hz495 : (f_par xs0 z398 z401) = z495
      refine w_lstore X494 at_553 rfl (L' := #[.val (.long q1), .second, .val (.long q2), .second, .val (.long q3), .second, .val (.int p4), .val (.int p5), .val (.long z1), .second, .val (.ref a5), .val (.ref a149), .val (.int z370), .val (.int z373), .val (.int z394), .val (.int z395), .val (.int z398), .val (.int z401), .val (.int z402), .val (.int z403), .val (.int (0 : Int32)), .val (.long z495), .second, .unset, .unset, .unset, .unset, .unset, .unset, .unset, .unset]) rfl ?_
      refine w_iload X494 at_555 rfl rfl ?_
      refine w_iload X494 at_557 rfl rfl ?_
      refine w_icmp_ne X494 at_559 (by decide) (pcT := 570) (pcF := 562) (by decide) rfl (fun c496 => ?_) (fun c496 => ?_)
      · refine w_iload X494 at_570 rfl rfl ?_
        refine w_if_eq X494 at_572 (by decide) (pcT := 597) (pcF := 575) (by decide) rfl (fun c497 => ?_) (fun c497 => absurd c497 (by decide))
        refine w_iload X494 at_597 rfl rfl ?_
        refine w_bipush X494 at_599 (v := (19 : Int32)) rfl rfl ?_
        refine w_staticVP X494 (rm3 l Z a0 hw z401 (19 : Int32) h386 n0 X494.size ) (hw _ (List.mem_of_getElem? (i := 30) rfl)) (hw _ (List.mem_of_getElem? (i := 31) rfl)) (hw _ (List.mem_of_getElem? (i := 32) rfl)) (hw _ (List.mem_of_getElem? (i := 33) rfl)) (by decide) (argsL := [(.int z401), (.int (19 : Int32))]) (rest := []) rfl (lenOf pd_3 rfl) rfl (W := 0) rfl (by decide) (by decide) (by decide) (by decide) at_601 rfl fun T498 X499 => ?_
        generalize hz500 : (f_min z401 (19 : Int32)) = z500
        refine w_istore X499 at_604 rfl (L' := #[.val (.long q1), .second, .val (.long q2), .second, .val (.long q3), .second, .val (.int p4), .val (.int p5), .val (.long z1), .second, .val (.ref a5), .val (.ref a149), .val (.int z370), .val (.int z373), .val (.int z394), .val (.int z395), .val (.int z398), .val (.int z401), .val (.int z402), .val (.int z403), .val (.int (0 : Int32)), .val (.long z495), .second, .unset, .unset, .val (.int z500), .unset, .unset, .unset, .unset, .unset]) rfl ?_
        refine w_iload X499 at_606 rfl rfl ?_
        refine w_iload X499 at_608 rfl rfl ?_
        refine w_icmp_lt X499 at_610 (by decide) (pcT := 619) (pcF := 613) (by decide) rfl (fun c501 => ?_) (fun c501 => ?_)
        · refine w_iload X499 at_619 rfl rfl ?_
          refine w_iload X499 at_621 rfl rfl ?_
          refine w_isub X499 at_623 rfl ?_
          generalize hz502 : (z500 - z398) = z502
          refine w_istore X499 at_624 rfl (L' := #[.val (.long q1), .second, .val (.long q2), .second, .val (.long q3), .second, .val (.int p4), .val (.int p5), .val (.long z1), .second, .val (.ref a5), .val (.ref a149), .val (.int z370), .val (.int z373), .val (.int z394), .val (.int z395), .val (.int z398), .val (.int z401), .val (.int z402), .val (.int z403), .val (.int (0 : Int32)), .val (.long z495), .second, .unset, .unset, .val (.int z500), .unset, .unset, .val (.int z502), .unset, .unset]) rfl ?_
          refine w_lload X499 at_626 rfl rfl ?_
          refine w_aload X499 at_628 rfl rfl rfl ?_
          refine w_bipush X499 at_630 (v := (19 : Int32)) rfl rfl ?_
          refine w_iload X499 at_632 rfl rfl ?_
          refine w_isub X499 at_634 rfl ?_
          refine w_laload X499 f393 (own_i0 _ _ _ F0 hz500 c501) rfl (getL (own_i1 _ _ _ F0 hz500 c501)) at_635 rfl ?_
          refine w_ldiv X499 at_636 rfl (own_nz _ (own_i1 _ _ _ F0 hz500 c501)) ?_
          generalize hz503 : (z1 / (P10.getD (((19 : Int32) - z500)).toNatClampNeg 0)) = z503
          refine w_lstore X499 at_637 rfl (L' := #[.val (.long q1), .second, .val (.long q2), .second, .val (.long q3), .second, .val (.int p4), .val (.int p5), .val (.long z1), .second, .val (.ref a5), .val (.ref a149), .val (.int z370), .val (.int z373), .val (.int z394), .val (.int z395), .val (.int z398), .val (.int z401), .val (.int z402), .val (.int z403), .val (.int (0 : Int32)), .val (.long z495), .second, .unset, .unset, .val (.int z500), .unset, .unset, .val (.int z502), .val (.long z503), .second]) rfl ?_
          refine w_iload X499 at_639 rfl rfl ?_
          refine w_bipush X499 at_641 (v := (19 : Int32)) rfl rfl ?_
          refine w_icmp_ne X499 at_643 (by decide) (pcT := 651) (pcF := 646) (by decide) rfl (fun c504 => ?_) (fun c504 => ?_)
          · refine w_lload X499 at_651 rfl rfl ?_
            refine w_aload X499 at_653 rfl rfl rfl ?_
            refine w_iload X499 at_655 rfl rfl ?_
            refine w_laload X499 f393 (by rw [← hz502]; exact own_j0 _ _ _ F0 hz500 c501) rfl (getL (by rw [← hz502]; exact own_j1 _ _ _ F0 hz500 c501 (by rw [hz502]; exact c504))) at_657 rfl ?_
            refine w_lrem X499 at_658 rfl (own_nz _ (by rw [← hz502]; exact own_j1 _ _ _ F0 hz500 c501 (by rw [hz502]; exact c504))) ?_
            generalize hz505 : (z503 % (P10.getD (z502).toNatClampNeg 0)) = z505
            refine w_lstore X499 at_659 rfl (L' := #[.val (.long q1), .second, .val (.long q2), .second, .val (.long q3), .second, .val (.int p4), .val (.int p5), .val (.long z1), .second, .val (.ref a5), .val (.ref a149), .val (.int z370), .val (.int z373), .val (.int z394), .val (.int z395), .val (.int z398), .val (.int z401), .val (.int z402), .val (.int z403), .val (.int (0 : Int32)), .val (.long z495), .second, .unset, .unset, .val (.int z500), .val (.long z505), .second, .val (.int z502), .val (.long z503), .second]) rfl ?_
            refine w_iload X499 at_661 rfl rfl ?_
            refine w_bipush X499 at_663 (v := (20 : Int32)) rfl rfl ?_
            refine w_icmp_lt X499 at_665 (by decide) (pcT := 684) (pcF := 668) (by decide) rfl (fun c506 => ?_) (fun c506 => ?_)
            · refine w_iload X499 at_684 rfl rfl ?_
              refine w_bipush X499 at_686 (v := (21 : Int32)) rfl rfl ?_
              refine w_icmp_ne X499 at_688 (by decide) (pcT := 700) (pcF := 691) (by decide) rfl (fun c507 => ?_) (fun c507 => ?_)
              · refine w_lload X499 at_700 rfl rfl ?_
                refine w_lstore X499 at_702 rfl (L' := #[.val (.long q1), .second, .val (.long q2), .second, .val (.long q3), .second, .val (.int p4), .val (.int p5), .val (.long z1), .second, .val (.ref a5), .val (.ref a149), .val (.int z370), .val (.int z373), .val (.int z394), .val (.int z395), .val (.int z398), .val (.int z401), .val (.int z402), .val (.int z403), .val (.int (0 : Int32)), .val (.long z495), .second, .val (.long z505), .second, .val (.int z500), .val (.long z505), .second, .val (.int z502), .val (.long z503), .second]) rfl ?_
                refine w_lload X499 at_704 rfl rfl ?_
                refine w_lload X499 at_706 rfl rfl ?_
                refine w_lcmp_ne X499 at_708 rfl at_709 (by decide) (pcT := 716) (pcF := 712) (by decide) rfl (fun c508 => ?_) (fun c508 => ?_)
                · refine w_iconst X499 at_716 (v := (0 : Int32)) rfl rfl ?_
                  exact False.elim (c508 (by subst hz505 hz503 hz502 hz500 hz495; rw [own_law z1.toInt.toNat (by have := z1.toInt_lt; omega) z1 (by omega) xs0 hx0 _ _ _ _ h19 h20 F0 FT T21 c496]; simp only [gw2, gw1, gw0, if_pos c501, if_neg c504, if_pos c506, if_neg c507]))
                · refine w_iconst X499 at_712 (v := (1 : Int32)) rfl rfl ?_
                  refine w_goto X499 at_713 (by decide) (pc' := 717) (by decide) ?_
                  exact w_nreturn X499 (t := .boolean) (by simp) at_717 rfl trivial (by decide) (by decide)
              · refine w_lload X499 at_691 rfl rfl ?_
                refine w_iload X499 at_693 rfl rfl ?_
                refine w_staticVP X499 (rm7 l Z a0 hw z505 z373 h386 n0 X499.size ) (hw _ (List.mem_of_getElem? (i := 49) rfl)) (hw _ (List.mem_of_getElem? (i := 50) rfl)) (hw _ (List.mem_of_getElem? (i := 23) rfl)) (hw _ (List.mem_of_getElem? (i := 51) rfl)) (by decide) (argsL := [(.long z505), (.int z373)]) (rest := []) rfl (lenOf pd_5 rfl) rfl (W := 0) rfl (by decide) (by decide) (by decide) (by decide) at_695 rfl fun T509 X510 => ?_
                generalize hz511 : (f_step z505 z373) = z511
                refine w_lstore X510 at_698 rfl (L' := #[.val (.long q1), .second, .val (.long q2), .second, .val (.long q3), .second, .val (.int p4), .val (.int p5), .val (.long z1), .second, .val (.ref a5), .val (.ref a149), .val (.int z370), .val (.int z373), .val (.int z394), .val (.int z395), .val (.int z398), .val (.int z401), .val (.int z402), .val (.int z403), .val (.int (0 : Int32)), .val (.long z495), .second, .unset, .unset, .val (.int z500), .val (.long z511), .second, .val (.int z502), .val (.long z503), .second]) rfl ?_
                refine w_lload X510 at_700 rfl rfl ?_
                refine w_lstore X510 at_702 rfl (L' := #[.val (.long q1), .second, .val (.long q2), .second, .val (.long q3), .second, .val (.int p4), .val (.int p5), .val (.long z1), .second, .val (.ref a5), .val (.ref a149), .val (.int z370), .val (.int z373), .val (.int z394), .val (.int z395), .val (.int z398), .val (.int z401), .val (.int z402), .val (.int z403), .val (.int (0 : Int32)), .val (.long z495), .second, .val (.long z511), .second, .val (.int z500), .val (.long z511), .second, .val (.int z502), .val (.long z503), .second]) rfl ?_
                refine w_lload X510 at_704 rfl rfl ?_
                refine w_lload X510 at_706 rfl rfl ?_
                refine w_lcmp_ne X510 at_708 rfl at_709 (by decide) (pcT := 716) (pcF := 712) (by decide) rfl (fun c512 => ?_) (fun c512 => ?_)
                · refine w_iconst X510 at_716 (v := (0 : Int32)) rfl rfl ?_
                  exact False.elim (c512 (by subst hz511 hz505 hz503 hz502 hz500 hz495; rw [own_law z1.toInt.toNat (by have := z1.toInt_lt; omega) z1 (by omega) xs0 hx0 _ _ _ _ h19 h20 F0 FT T21 c496]; simp only [gw2, gw1, gw0, if_pos c501, if_neg c504, if_pos c506, if_pos c507]))
                · refine w_iconst X510 at_712 (v := (1 : Int32)) rfl rfl ?_
                  refine w_goto X510 at_713 (by decide) (pc' := 717) (by decide) ?_
                  exact w_nreturn X510 (t := .boolean) (by simp) at_717 rfl trivial (by decide) (by decide)
            · refine w_iload X499 at_668 rfl rfl ?_
              refine w_bipush X499 at_670 (v := (19 : Int32)) rfl rfl ?_
              refine w_icmp_gt X499 at_672 (by decide) (pcT := 684) (pcF := 675) (by decide) rfl (fun c513 => ?_) (fun c513 => ?_)
              · refine w_iload X499 at_684 rfl rfl ?_
                refine w_bipush X499 at_686 (v := (21 : Int32)) rfl rfl ?_
                refine w_icmp_ne X499 at_688 (by decide) (pcT := 700) (pcF := 691) (by decide) rfl (fun c514 => ?_) (fun c514 => ?_)
                · refine w_lload X499 at_700 rfl rfl ?_
                  refine w_lstore X499 at_702 rfl (L' := #[.val (.long q1), .second, .val (.long q2), .second, .val (.long q3), .second, .val (.int p4), .val (.int p5), .val (.long z1), .second, .val (.ref a5), .val (.ref a149), .val (.int z370), .val (.int z373), .val (.int z394), .val (.int z395), .val (.int z398), .val (.int z401), .val (.int z402), .val (.int z403), .val (.int (0 : Int32)), .val (.long z495), .second, .val (.long z505), .second, .val (.int z500), .val (.long z505), .second, .val (.int z502), .val (.long z503), .second]) rfl ?_
                  refine w_lload X499 at_704 rfl rfl ?_
                  refine w_lload X499 at_706 rfl rfl ?_
                  refine w_lcmp_ne X499 at_708 rfl at_709 (by decide) (pcT := 716) (pcF := 712) (by decide) rfl (fun c515 => ?_) (fun c515 => ?_)
                  · refine w_iconst X499 at_716 (v := (0 : Int32)) rfl rfl ?_
                    exact False.elim (c515 (by subst hz505 hz503 hz502 hz500 hz495; rw [own_law z1.toInt.toNat (by have := z1.toInt_lt; omega) z1 (by omega) xs0 hx0 _ _ _ _ h19 h20 F0 FT T21 c496]; simp only [gw2, gw1, gw0, if_pos c501, if_neg c504, if_neg c506, if_pos c513, if_neg c514]))
                  · refine w_iconst X499 at_712 (v := (1 : Int32)) rfl rfl ?_
                    refine w_goto X499 at_713 (by decide) (pc' := 717) (by decide) ?_
                    exact w_nreturn X499 (t := .boolean) (by simp) at_717 rfl trivial (by decide) (by decide)
                · refine w_lload X499 at_691 rfl rfl ?_
                  refine w_iload X499 at_693 rfl rfl ?_
                  refine w_staticVP X499 (rm7 l Z a0 hw z505 z373 h386 n0 X499.size ) (hw _ (List.mem_of_getElem? (i := 49) rfl)) (hw _ (List.mem_of_getElem? (i := 50) rfl)) (hw _ (List.mem_of_getElem? (i := 23) rfl)) (hw _ (List.mem_of_getElem? (i := 51) rfl)) (by decide) (argsL := [(.long z505), (.int z373)]) (rest := []) rfl (lenOf pd_5 rfl) rfl (W := 0) rfl (by decide) (by decide) (by decide) (by decide) at_695 rfl fun T516 X517 => ?_
                  generalize hz518 : (f_step z505 z373) = z518
                  refine w_lstore X517 at_698 rfl (L' := #[.val (.long q1), .second, .val (.long q2), .second, .val (.long q3), .second, .val (.int p4), .val (.int p5), .val (.long z1), .second, .val (.ref a5), .val (.ref a149), .val (.int z370), .val (.int z373), .val (.int z394), .val (.int z395), .val (.int z398), .val (.int z401), .val (.int z402), .val (.int z403), .val (.int (0 : Int32)), .val (.long z495), .second, .unset, .unset, .val (.int z500), .val (.long z518), .second, .val (.int z502), .val (.long z503), .second]) rfl ?_
                  refine w_lload X517 at_700 rfl rfl ?_
                  refine w_lstore X517 at_702 rfl (L' := #[.val (.long q1), .second, .val (.long q2), .second, .val (.long q3), .second, .val (.int p4), .val (.int p5), .val (.long z1), .second, .val (.ref a5), .val (.ref a149), .val (.int z370), .val (.int z373), .val (.int z394), .val (.int z395), .val (.int z398), .val (.int z401), .val (.int z402), .val (.int z403), .val (.int (0 : Int32)), .val (.long z495), .second, .val (.long z518), .second, .val (.int z500), .val (.long z518), .second, .val (.int z502), .val (.long z503), .second]) rfl ?_
                  refine w_lload X517 at_704 rfl rfl ?_
                  refine w_lload X517 at_706 rfl rfl ?_
                  refine w_lcmp_ne X517 at_708 rfl at_709 (by decide) (pcT := 716) (pcF := 712) (by decide) rfl (fun c519 => ?_) (fun c519 => ?_)
                  · refine w_iconst X517 at_716 (v := (0 : Int32)) rfl rfl ?_
                    exact False.elim (c519 (by subst hz518 hz505 hz503 hz502 hz500 hz495; rw [own_law z1.toInt.toNat (by have := z1.toInt_lt; omega) z1 (by omega) xs0 hx0 _ _ _ _ h19 h20 F0 FT T21 c496]; simp only [gw2, gw1, gw0, if_pos c501, if_neg c504, if_neg c506, if_pos c513, if_pos c514]))
                  · refine w_iconst X517 at_712 (v := (1 : Int32)) rfl rfl ?_
                    refine w_goto X517 at_713 (by decide) (pc' := 717) (by decide) ?_
                    exact w_nreturn X517 (t := .boolean) (by simp) at_717 rfl trivial (by decide) (by decide)
              · refine w_lload X499 at_675 rfl rfl ?_
                refine w_iload X499 at_677 rfl rfl ?_
                refine w_staticVP X499 (rm7 l Z a0 hw z505 z370 h386 n0 X499.size ) (hw _ (List.mem_of_getElem? (i := 49) rfl)) (hw _ (List.mem_of_getElem? (i := 50) rfl)) (hw _ (List.mem_of_getElem? (i := 23) rfl)) (hw _ (List.mem_of_getElem? (i := 51) rfl)) (by decide) (argsL := [(.long z505), (.int z370)]) (rest := []) rfl (lenOf pd_5 rfl) rfl (W := 0) rfl (by decide) (by decide) (by decide) (by decide) at_679 rfl fun T520 X521 => ?_
                generalize hz522 : (f_step z505 z370) = z522
                refine w_lstore X521 at_682 rfl (L' := #[.val (.long q1), .second, .val (.long q2), .second, .val (.long q3), .second, .val (.int p4), .val (.int p5), .val (.long z1), .second, .val (.ref a5), .val (.ref a149), .val (.int z370), .val (.int z373), .val (.int z394), .val (.int z395), .val (.int z398), .val (.int z401), .val (.int z402), .val (.int z403), .val (.int (0 : Int32)), .val (.long z495), .second, .unset, .unset, .val (.int z500), .val (.long z522), .second, .val (.int z502), .val (.long z503), .second]) rfl ?_
                refine w_iload X521 at_684 rfl rfl ?_
                refine w_bipush X521 at_686 (v := (21 : Int32)) rfl rfl ?_
                refine w_icmp_ne X521 at_688 (by decide) (pcT := 700) (pcF := 691) (by decide) rfl (fun c523 => ?_) (fun c523 => ?_)
                · refine w_lload X521 at_700 rfl rfl ?_
                  refine w_lstore X521 at_702 rfl (L' := #[.val (.long q1), .second, .val (.long q2), .second, .val (.long q3), .second, .val (.int p4), .val (.int p5), .val (.long z1), .second, .val (.ref a5), .val (.ref a149), .val (.int z370), .val (.int z373), .val (.int z394), .val (.int z395), .val (.int z398), .val (.int z401), .val (.int z402), .val (.int z403), .val (.int (0 : Int32)), .val (.long z495), .second, .val (.long z522), .second, .val (.int z500), .val (.long z522), .second, .val (.int z502), .val (.long z503), .second]) rfl ?_
                  refine w_lload X521 at_704 rfl rfl ?_
                  refine w_lload X521 at_706 rfl rfl ?_
                  refine w_lcmp_ne X521 at_708 rfl at_709 (by decide) (pcT := 716) (pcF := 712) (by decide) rfl (fun c524 => ?_) (fun c524 => ?_)
                  · refine w_iconst X521 at_716 (v := (0 : Int32)) rfl rfl ?_
                    exact False.elim (c524 (by subst hz522 hz505 hz503 hz502 hz500 hz495; rw [own_law z1.toInt.toNat (by have := z1.toInt_lt; omega) z1 (by omega) xs0 hx0 _ _ _ _ h19 h20 F0 FT T21 c496]; simp only [gw2, gw1, gw0, if_pos c501, if_neg c504, if_neg c506, if_neg c513, if_neg c523]))
                  · refine w_iconst X521 at_712 (v := (1 : Int32)) rfl rfl ?_
                    refine w_goto X521 at_713 (by decide) (pc' := 717) (by decide) ?_
                    exact w_nreturn X521 (t := .boolean) (by simp) at_717 rfl trivial (by decide) (by decide)
                · refine w_lload X521 at_691 rfl rfl ?_
                  refine w_iload X521 at_693 rfl rfl ?_
                  refine w_staticVP X521 (rm7 l Z a0 hw z522 z373 h386 n0 X521.size ) (hw _ (List.mem_of_getElem? (i := 49) rfl)) (hw _ (List.mem_of_getElem? (i := 50) rfl)) (hw _ (List.mem_of_getElem? (i := 23) rfl)) (hw _ (List.mem_of_getElem? (i := 51) rfl)) (by decide) (argsL := [(.long z522), (.int z373)]) (rest := []) rfl (lenOf pd_5 rfl) rfl (W := 0) rfl (by decide) (by decide) (by decide) (by decide) at_695 rfl fun T525 X526 => ?_
                  generalize hz527 : (f_step z522 z373) = z527
                  refine w_lstore X526 at_698 rfl (L' := #[.val (.long q1), .second, .val (.long q2), .second, .val (.long q3), .second, .val (.int p4), .val (.int p5), .val (.long z1), .second, .val (.ref a5), .val (.ref a149), .val (.int z370), .val (.int z373), .val (.int z394), .val (.int z395), .val (.int z398), .val (.int z401), .val (.int z402), .val (.int z403), .val (.int (0 : Int32)), .val (.long z495), .second, .unset, .unset, .val (.int z500), .val (.long z527), .second, .val (.int z502), .val (.long z503), .second]) rfl ?_
                  refine w_lload X526 at_700 rfl rfl ?_
                  refine w_lstore X526 at_702 rfl (L' := #[.val (.long q1), .second, .val (.long q2), .second, .val (.long q3), .second, .val (.int p4), .val (.int p5), .val (.long z1), .second, .val (.ref a5), .val (.ref a149), .val (.int z370), .val (.int z373), .val (.int z394), .val (.int z395), .val (.int z398), .val (.int z401), .val (.int z402), .val (.int z403), .val (.int (0 : Int32)), .val (.long z495), .second, .val (.long z527), .second, .val (.int z500), .val (.long z527), .second, .val (.int z502), .val (.long z503), .second]) rfl ?_
                  refine w_lload X526 at_704 rfl rfl ?_
                  refine w_lload X526 at_706 rfl rfl ?_
                  refine w_lcmp_ne X526 at_708 rfl at_709 (by decide) (pcT := 716) (pcF := 712) (by decide) rfl (fun c528 => ?_) (fun c528 => ?_)
                  · refine w_iconst X526 at_716 (v := (0 : Int32)) rfl rfl ?_
                    exact False.elim (c528 (by subst hz527 hz522 hz505 hz503 hz502 hz500 hz495; rw [own_law z1.toInt.toNat (by have := z1.toInt_lt; omega) z1 (by omega) xs0 hx0 _ _ _ _ h19 h20 F0 FT T21 c496]; simp only [gw2, gw1, gw0, if_pos c501, if_neg c504, if_neg c506, if_neg c513, if_pos c523]))
                  · refine w_iconst X526 at_712 (v := (1 : Int32)) rfl rfl ?_
                    refine w_goto X526 at_713 (by decide) (pc' := 717) (by decide) ?_
                    exact w_nreturn X526 (t := .boolean) (by simp) at_717 rfl trivial (by decide) (by decide)
          · refine w_lload X499 at_646 rfl rfl ?_
            refine w_goto X499 at_648 (by decide) (pc' := 659) (by decide) ?_
            refine w_lstore X499 at_659 rfl (L' := #[.val (.long q1), .second, .val (.long q2), .second, .val (.long q3), .second, .val (.int p4), .val (.int p5), .val (.long z1), .second, .val (.ref a5), .val (.ref a149), .val (.int z370), .val (.int z373), .val (.int z394), .val (.int z395), .val (.int z398), .val (.int z401), .val (.int z402), .val (.int z403), .val (.int (0 : Int32)), .val (.long z495), .second, .unset, .unset, .val (.int z500), .val (.long z503), .second, .val (.int z502), .val (.long z503), .second]) rfl ?_
            refine w_iload X499 at_661 rfl rfl ?_
            refine w_bipush X499 at_663 (v := (20 : Int32)) rfl rfl ?_
            refine w_icmp_lt X499 at_665 (by decide) (pcT := 684) (pcF := 668) (by decide) rfl (fun c529 => ?_) (fun c529 => ?_)
            · refine w_iload X499 at_684 rfl rfl ?_
              refine w_bipush X499 at_686 (v := (21 : Int32)) rfl rfl ?_
              refine w_icmp_ne X499 at_688 (by decide) (pcT := 700) (pcF := 691) (by decide) rfl (fun c530 => ?_) (fun c530 => ?_)
              · refine w_lload X499 at_700 rfl rfl ?_
                refine w_lstore X499 at_702 rfl (L' := #[.val (.long q1), .second, .val (.long q2), .second, .val (.long q3), .second, .val (.int p4), .val (.int p5), .val (.long z1), .second, .val (.ref a5), .val (.ref a149), .val (.int z370), .val (.int z373), .val (.int z394), .val (.int z395), .val (.int z398), .val (.int z401), .val (.int z402), .val (.int z403), .val (.int (0 : Int32)), .val (.long z495), .second, .val (.long z503), .second, .val (.int z500), .val (.long z503), .second, .val (.int z502), .val (.long z503), .second]) rfl ?_
                refine w_lload X499 at_704 rfl rfl ?_
                refine w_lload X499 at_706 rfl rfl ?_
                refine w_lcmp_ne X499 at_708 rfl at_709 (by decide) (pcT := 716) (pcF := 712) (by decide) rfl (fun c531 => ?_) (fun c531 => ?_)
                · refine w_iconst X499 at_716 (v := (0 : Int32)) rfl rfl ?_
                  exact False.elim (c531 (by subst hz503 hz502 hz500 hz495; rw [own_law z1.toInt.toNat (by have := z1.toInt_lt; omega) z1 (by omega) xs0 hx0 _ _ _ _ h19 h20 F0 FT T21 c496]; simp only [gw2, gw1, gw0, if_pos c501, if_pos c504, if_pos c529, if_neg c530]))
                · refine w_iconst X499 at_712 (v := (1 : Int32)) rfl rfl ?_
                  refine w_goto X499 at_713 (by decide) (pc' := 717) (by decide) ?_
                  exact w_nreturn X499 (t := .boolean) (by simp) at_717 rfl trivial (by decide) (by decide)
              · refine w_lload X499 at_691 rfl rfl ?_
                refine w_iload X499 at_693 rfl rfl ?_
                refine w_staticVP X499 (rm7 l Z a0 hw z503 z373 h386 n0 X499.size ) (hw _ (List.mem_of_getElem? (i := 49) rfl)) (hw _ (List.mem_of_getElem? (i := 50) rfl)) (hw _ (List.mem_of_getElem? (i := 23) rfl)) (hw _ (List.mem_of_getElem? (i := 51) rfl)) (by decide) (argsL := [(.long z503), (.int z373)]) (rest := []) rfl (lenOf pd_5 rfl) rfl (W := 0) rfl (by decide) (by decide) (by decide) (by decide) at_695 rfl fun T532 X533 => ?_
                generalize hz534 : (f_step z503 z373) = z534
                refine w_lstore X533 at_698 rfl (L' := #[.val (.long q1), .second, .val (.long q2), .second, .val (.long q3), .second, .val (.int p4), .val (.int p5), .val (.long z1), .second, .val (.ref a5), .val (.ref a149), .val (.int z370), .val (.int z373), .val (.int z394), .val (.int z395), .val (.int z398), .val (.int z401), .val (.int z402), .val (.int z403), .val (.int (0 : Int32)), .val (.long z495), .second, .unset, .unset, .val (.int z500), .val (.long z534), .second, .val (.int z502), .val (.long z503), .second]) rfl ?_
                refine w_lload X533 at_700 rfl rfl ?_
                refine w_lstore X533 at_702 rfl (L' := #[.val (.long q1), .second, .val (.long q2), .second, .val (.long q3), .second, .val (.int p4), .val (.int p5), .val (.long z1), .second, .val (.ref a5), .val (.ref a149), .val (.int z370), .val (.int z373), .val (.int z394), .val (.int z395), .val (.int z398), .val (.int z401), .val (.int z402), .val (.int z403), .val (.int (0 : Int32)), .val (.long z495), .second, .val (.long z534), .second, .val (.int z500), .val (.long z534), .second, .val (.int z502), .val (.long z503), .second]) rfl ?_
                refine w_lload X533 at_704 rfl rfl ?_
                refine w_lload X533 at_706 rfl rfl ?_
                refine w_lcmp_ne X533 at_708 rfl at_709 (by decide) (pcT := 716) (pcF := 712) (by decide) rfl (fun c535 => ?_) (fun c535 => ?_)
                · refine w_iconst X533 at_716 (v := (0 : Int32)) rfl rfl ?_
                  exact False.elim (c535 (by subst hz534 hz503 hz502 hz500 hz495; rw [own_law z1.toInt.toNat (by have := z1.toInt_lt; omega) z1 (by omega) xs0 hx0 _ _ _ _ h19 h20 F0 FT T21 c496]; simp only [gw2, gw1, gw0, if_pos c501, if_pos c504, if_pos c529, if_pos c530]))
                · refine w_iconst X533 at_712 (v := (1 : Int32)) rfl rfl ?_
                  refine w_goto X533 at_713 (by decide) (pc' := 717) (by decide) ?_
                  exact w_nreturn X533 (t := .boolean) (by simp) at_717 rfl trivial (by decide) (by decide)
            · refine w_iload X499 at_668 rfl rfl ?_
              refine w_bipush X499 at_670 (v := (19 : Int32)) rfl rfl ?_
              refine w_icmp_gt X499 at_672 (by decide) (pcT := 684) (pcF := 675) (by decide) rfl (fun c536 => ?_) (fun c536 => ?_)
              · refine w_iload X499 at_684 rfl rfl ?_
                refine w_bipush X499 at_686 (v := (21 : Int32)) rfl rfl ?_
                refine w_icmp_ne X499 at_688 (by decide) (pcT := 700) (pcF := 691) (by decide) rfl (fun c537 => ?_) (fun c537 => ?_)
                · refine w_lload X499 at_700 rfl rfl ?_
                  refine w_lstore X499 at_702 rfl (L' := #[.val (.long q1), .second, .val (.long q2), .second, .val (.long q3), .second, .val (.int p4), .val (.int p5), .val (.long z1), .second, .val (.ref a5), .val (.ref a149), .val (.int z370), .val (.int z373), .val (.int z394), .val (.int z395), .val (.int z398), .val (.int z401), .val (.int z402), .val (.int z403), .val (.int (0 : Int32)), .val (.long z495), .second, .val (.long z503), .second, .val (.int z500), .val (.long z503), .second, .val (.int z502), .val (.long z503), .second]) rfl ?_
                  refine w_lload X499 at_704 rfl rfl ?_
                  refine w_lload X499 at_706 rfl rfl ?_
                  refine w_lcmp_ne X499 at_708 rfl at_709 (by decide) (pcT := 716) (pcF := 712) (by decide) rfl (fun c538 => ?_) (fun c538 => ?_)
                  · refine w_iconst X499 at_716 (v := (0 : Int32)) rfl rfl ?_
                    exact False.elim (c538 (by subst hz503 hz502 hz500 hz495; rw [own_law z1.toInt.toNat (by have := z1.toInt_lt; omega) z1 (by omega) xs0 hx0 _ _ _ _ h19 h20 F0 FT T21 c496]; simp only [gw2, gw1, gw0, if_pos c501, if_pos c504, if_neg c529, if_pos c536, if_neg c537]))
                  · refine w_iconst X499 at_712 (v := (1 : Int32)) rfl rfl ?_
                    refine w_goto X499 at_713 (by decide) (pc' := 717) (by decide) ?_
                    exact w_nreturn X499 (t := .boolean) (by simp) at_717 rfl trivial (by decide) (by decide)
                · refine w_lload X499 at_691 rfl rfl ?_
                  refine w_iload X499 at_693 rfl rfl ?_
                  refine w_staticVP X499 (rm7 l Z a0 hw z503 z373 h386 n0 X499.size ) (hw _ (List.mem_of_getElem? (i := 49) rfl)) (hw _ (List.mem_of_getElem? (i := 50) rfl)) (hw _ (List.mem_of_getElem? (i := 23) rfl)) (hw _ (List.mem_of_getElem? (i := 51) rfl)) (by decide) (argsL := [(.long z503), (.int z373)]) (rest := []) rfl (lenOf pd_5 rfl) rfl (W := 0) rfl (by decide) (by decide) (by decide) (by decide) at_695 rfl fun T539 X540 => ?_
                  generalize hz541 : (f_step z503 z373) = z541
                  refine w_lstore X540 at_698 rfl (L' := #[.val (.long q1), .second, .val (.long q2), .second, .val (.long q3), .second, .val (.int p4), .val (.int p5), .val (.long z1), .second, .val (.ref a5), .val (.ref a149), .val (.int z370), .val (.int z373), .val (.int z394), .val (.int z395), .val (.int z398), .val (.int z401), .val (.int z402), .val (.int z403), .val (.int (0 : Int32)), .val (.long z495), .second, .unset, .unset, .val (.int z500), .val (.long z541), .second, .val (.int z502), .val (.long z503), .second]) rfl ?_
                  refine w_lload X540 at_700 rfl rfl ?_
                  refine w_lstore X540 at_702 rfl (L' := #[.val (.long q1), .second, .val (.long q2), .second, .val (.long q3), .second, .val (.int p4), .val (.int p5), .val (.long z1), .second, .val (.ref a5), .val (.ref a149), .val (.int z370), .val (.int z373), .val (.int z394), .val (.int z395), .val (.int z398), .val (.int z401), .val (.int z402), .val (.int z403), .val (.int (0 : Int32)), .val (.long z495), .second, .val (.long z541), .second, .val (.int z500), .val (.long z541), .second, .val (.int z502), .val (.long z503), .second]) rfl ?_
                  refine w_lload X540 at_704 rfl rfl ?_
                  refine w_lload X540 at_706 rfl rfl ?_
                  refine w_lcmp_ne X540 at_708 rfl at_709 (by decide) (pcT := 716) (pcF := 712) (by decide) rfl (fun c542 => ?_) (fun c542 => ?_)
                  · refine w_iconst X540 at_716 (v := (0 : Int32)) rfl rfl ?_
                    exact False.elim (c542 (by subst hz541 hz503 hz502 hz500 hz495; rw [own_law z1.toInt.toNat (by have := z1.toInt_lt; omega) z1 (by omega) xs0 hx0 _ _ _ _ h19 h20 F0 FT T21 c496]; simp only [gw2, gw1, gw0, if_pos c501, if_pos c504, if_neg c529, if_pos c536, if_pos c537]))
                  · refine w_iconst X540 at_712 (v := (1 : Int32)) rfl rfl ?_
                    refine w_goto X540 at_713 (by decide) (pc' := 717) (by decide) ?_
                    exact w_nreturn X540 (t := .boolean) (by simp) at_717 rfl trivial (by decide) (by decide)
              · refine w_lload X499 at_675 rfl rfl ?_
                refine w_iload X499 at_677 rfl rfl ?_
                refine w_staticVP X499 (rm7 l Z a0 hw z503 z370 h386 n0 X499.size ) (hw _ (List.mem_of_getElem? (i := 49) rfl)) (hw _ (List.mem_of_getElem? (i := 50) rfl)) (hw _ (List.mem_of_getElem? (i := 23) rfl)) (hw _ (List.mem_of_getElem? (i := 51) rfl)) (by decide) (argsL := [(.long z503), (.int z370)]) (rest := []) rfl (lenOf pd_5 rfl) rfl (W := 0) rfl (by decide) (by decide) (by decide) (by decide) at_679 rfl fun T543 X544 => ?_
                generalize hz545 : (f_step z503 z370) = z545
                refine w_lstore X544 at_682 rfl (L' := #[.val (.long q1), .second, .val (.long q2), .second, .val (.long q3), .second, .val (.int p4), .val (.int p5), .val (.long z1), .second, .val (.ref a5), .val (.ref a149), .val (.int z370), .val (.int z373), .val (.int z394), .val (.int z395), .val (.int z398), .val (.int z401), .val (.int z402), .val (.int z403), .val (.int (0 : Int32)), .val (.long z495), .second, .unset, .unset, .val (.int z500), .val (.long z545), .second, .val (.int z502), .val (.long z503), .second]) rfl ?_
                refine w_iload X544 at_684 rfl rfl ?_
                refine w_bipush X544 at_686 (v := (21 : Int32)) rfl rfl ?_
                refine w_icmp_ne X544 at_688 (by decide) (pcT := 700) (pcF := 691) (by decide) rfl (fun c546 => ?_) (fun c546 => ?_)
                · refine w_lload X544 at_700 rfl rfl ?_
                  refine w_lstore X544 at_702 rfl (L' := #[.val (.long q1), .second, .val (.long q2), .second, .val (.long q3), .second, .val (.int p4), .val (.int p5), .val (.long z1), .second, .val (.ref a5), .val (.ref a149), .val (.int z370), .val (.int z373), .val (.int z394), .val (.int z395), .val (.int z398), .val (.int z401), .val (.int z402), .val (.int z403), .val (.int (0 : Int32)), .val (.long z495), .second, .val (.long z545), .second, .val (.int z500), .val (.long z545), .second, .val (.int z502), .val (.long z503), .second]) rfl ?_
                  refine w_lload X544 at_704 rfl rfl ?_
                  refine w_lload X544 at_706 rfl rfl ?_
                  refine w_lcmp_ne X544 at_708 rfl at_709 (by decide) (pcT := 716) (pcF := 712) (by decide) rfl (fun c547 => ?_) (fun c547 => ?_)
                  · refine w_iconst X544 at_716 (v := (0 : Int32)) rfl rfl ?_
                    exact False.elim (c547 (by subst hz545 hz503 hz502 hz500 hz495; rw [own_law z1.toInt.toNat (by have := z1.toInt_lt; omega) z1 (by omega) xs0 hx0 _ _ _ _ h19 h20 F0 FT T21 c496]; simp only [gw2, gw1, gw0, if_pos c501, if_pos c504, if_neg c529, if_neg c536, if_neg c546]))
                  · refine w_iconst X544 at_712 (v := (1 : Int32)) rfl rfl ?_
                    refine w_goto X544 at_713 (by decide) (pc' := 717) (by decide) ?_
                    exact w_nreturn X544 (t := .boolean) (by simp) at_717 rfl trivial (by decide) (by decide)
                · refine w_lload X544 at_691 rfl rfl ?_
                  refine w_iload X544 at_693 rfl rfl ?_
                  refine w_staticVP X544 (rm7 l Z a0 hw z545 z373 h386 n0 X544.size ) (hw _ (List.mem_of_getElem? (i := 49) rfl)) (hw _ (List.mem_of_getElem? (i := 50) rfl)) (hw _ (List.mem_of_getElem? (i := 23) rfl)) (hw _ (List.mem_of_getElem? (i := 51) rfl)) (by decide) (argsL := [(.long z545), (.int z373)]) (rest := []) rfl (lenOf pd_5 rfl) rfl (W := 0) rfl (by decide) (by decide) (by decide) (by decide) at_695 rfl fun T548 X549 => ?_
                  generalize hz550 : (f_step z545 z373) = z550
                  refine w_lstore X549 at_698 rfl (L' := #[.val (.long q1), .second, .val (.long q2), .second, .val (.long q3), .second, .val (.int p4), .val (.int p5), .val (.long z1), .second, .val (.ref a5), .val (.ref a149), .val (.int z370), .val (.int z373), .val (.int z394), .val (.int z395), .val (.int z398), .val (.int z401), .val (.int z402), .val (.int z403), .val (.int (0 : Int32)), .val (.long z495), .second, .unset, .unset, .val (.int z500), .val (.long z550), .second, .val (.int z502), .val (.long z503), .second]) rfl ?_
                  refine w_lload X549 at_700 rfl rfl ?_
                  refine w_lstore X549 at_702 rfl (L' := #[.val (.long q1), .second, .val (.long q2), .second, .val (.long q3), .second, .val (.int p4), .val (.int p5), .val (.long z1), .second, .val (.ref a5), .val (.ref a149), .val (.int z370), .val (.int z373), .val (.int z394), .val (.int z395), .val (.int z398), .val (.int z401), .val (.int z402), .val (.int z403), .val (.int (0 : Int32)), .val (.long z495), .second, .val (.long z550), .second, .val (.int z500), .val (.long z550), .second, .val (.int z502), .val (.long z503), .second]) rfl ?_
                  refine w_lload X549 at_704 rfl rfl ?_
                  refine w_lload X549 at_706 rfl rfl ?_
                  refine w_lcmp_ne X549 at_708 rfl at_709 (by decide) (pcT := 716) (pcF := 712) (by decide) rfl (fun c551 => ?_) (fun c551 => ?_)
                  · refine w_iconst X549 at_716 (v := (0 : Int32)) rfl rfl ?_
                    exact False.elim (c551 (by subst hz550 hz545 hz503 hz502 hz500 hz495; rw [own_law z1.toInt.toNat (by have := z1.toInt_lt; omega) z1 (by omega) xs0 hx0 _ _ _ _ h19 h20 F0 FT T21 c496]; simp only [gw2, gw1, gw0, if_pos c501, if_pos c504, if_neg c529, if_neg c536, if_pos c546]))
                  · refine w_iconst X549 at_712 (v := (1 : Int32)) rfl rfl ?_
                    refine w_goto X549 at_713 (by decide) (pc' := 717) (by decide) ?_
                    exact w_nreturn X549 (t := .boolean) (by simp) at_717 rfl trivial (by decide) (by decide)
        · refine w_lconst X499 at_613 (v := (0 : Int64)) rfl rfl ?_
          refine w_lstore X499 at_614 rfl (L' := #[.val (.long q1), .second, .val (.long q2), .second, .val (.long q3), .second, .val (.int p4), .val (.int p5), .val (.long z1), .second, .val (.ref a5), .val (.ref a149), .val (.int z370), .val (.int z373), .val (.int z394), .val (.int z395), .val (.int z398), .val (.int z401), .val (.int z402), .val (.int z403), .val (.int (0 : Int32)), .val (.long z495), .second, .unset, .unset, .val (.int z500), .val (.long (0 : Int64)), .second, .unset, .unset, .unset]) rfl ?_
          refine w_goto X499 at_616 (by decide) (pc' := 661) (by decide) ?_
          refine w_iload X499 at_661 rfl rfl ?_
          refine w_bipush X499 at_663 (v := (20 : Int32)) rfl rfl ?_
          refine w_icmp_lt X499 at_665 (by decide) (pcT := 684) (pcF := 668) (by decide) rfl (fun c552 => ?_) (fun c552 => ?_)
          · refine w_iload X499 at_684 rfl rfl ?_
            refine w_bipush X499 at_686 (v := (21 : Int32)) rfl rfl ?_
            refine w_icmp_ne X499 at_688 (by decide) (pcT := 700) (pcF := 691) (by decide) rfl (fun c553 => ?_) (fun c553 => ?_)
            · refine w_lload X499 at_700 rfl rfl ?_
              refine w_lstore X499 at_702 rfl (L' := #[.val (.long q1), .second, .val (.long q2), .second, .val (.long q3), .second, .val (.int p4), .val (.int p5), .val (.long z1), .second, .val (.ref a5), .val (.ref a149), .val (.int z370), .val (.int z373), .val (.int z394), .val (.int z395), .val (.int z398), .val (.int z401), .val (.int z402), .val (.int z403), .val (.int (0 : Int32)), .val (.long z495), .second, .val (.long (0 : Int64)), .second, .val (.int z500), .val (.long (0 : Int64)), .second, .unset, .unset, .unset]) rfl ?_
              refine w_lload X499 at_704 rfl rfl ?_
              refine w_lload X499 at_706 rfl rfl ?_
              refine w_lcmp_ne X499 at_708 rfl at_709 (by decide) (pcT := 716) (pcF := 712) (by decide) rfl (fun c554 => ?_) (fun c554 => ?_)
              · refine w_iconst X499 at_716 (v := (0 : Int32)) rfl rfl ?_
                exact False.elim (c554 (by subst hz500 hz495; rw [own_law z1.toInt.toNat (by have := z1.toInt_lt; omega) z1 (by omega) xs0 hx0 _ _ _ _ h19 h20 F0 FT T21 c496]; simp only [gw2, gw1, gw0, if_neg c501, if_pos c552, if_neg c553]))
              · refine w_iconst X499 at_712 (v := (1 : Int32)) rfl rfl ?_
                refine w_goto X499 at_713 (by decide) (pc' := 717) (by decide) ?_
                exact w_nreturn X499 (t := .boolean) (by simp) at_717 rfl trivial (by decide) (by decide)
            · refine w_lload X499 at_691 rfl rfl ?_
              refine w_iload X499 at_693 rfl rfl ?_
              refine w_staticVP X499 (rm7 l Z a0 hw (0 : Int64) z373 h386 n0 X499.size ) (hw _ (List.mem_of_getElem? (i := 49) rfl)) (hw _ (List.mem_of_getElem? (i := 50) rfl)) (hw _ (List.mem_of_getElem? (i := 23) rfl)) (hw _ (List.mem_of_getElem? (i := 51) rfl)) (by decide) (argsL := [(.long (0 : Int64)), (.int z373)]) (rest := []) rfl (lenOf pd_5 rfl) rfl (W := 0) rfl (by decide) (by decide) (by decide) (by decide) at_695 rfl fun T555 X556 => ?_
              generalize hz557 : (f_step (0 : Int64) z373) = z557
              refine w_lstore X556 at_698 rfl (L' := #[.val (.long q1), .second, .val (.long q2), .second, .val (.long q3), .second, .val (.int p4), .val (.int p5), .val (.long z1), .second, .val (.ref a5), .val (.ref a149), .val (.int z370), .val (.int z373), .val (.int z394), .val (.int z395), .val (.int z398), .val (.int z401), .val (.int z402), .val (.int z403), .val (.int (0 : Int32)), .val (.long z495), .second, .unset, .unset, .val (.int z500), .val (.long z557), .second, .unset, .unset, .unset]) rfl ?_
              refine w_lload X556 at_700 rfl rfl ?_
              refine w_lstore X556 at_702 rfl (L' := #[.val (.long q1), .second, .val (.long q2), .second, .val (.long q3), .second, .val (.int p4), .val (.int p5), .val (.long z1), .second, .val (.ref a5), .val (.ref a149), .val (.int z370), .val (.int z373), .val (.int z394), .val (.int z395), .val (.int z398), .val (.int z401), .val (.int z402), .val (.int z403), .val (.int (0 : Int32)), .val (.long z495), .second, .val (.long z557), .second, .val (.int z500), .val (.long z557), .second, .unset, .unset, .unset]) rfl ?_
              refine w_lload X556 at_704 rfl rfl ?_
              refine w_lload X556 at_706 rfl rfl ?_
              refine w_lcmp_ne X556 at_708 rfl at_709 (by decide) (pcT := 716) (pcF := 712) (by decide) rfl (fun c558 => ?_) (fun c558 => ?_)
              · refine w_iconst X556 at_716 (v := (0 : Int32)) rfl rfl ?_
                exact False.elim (c558 (by subst hz557 hz500 hz495; rw [own_law z1.toInt.toNat (by have := z1.toInt_lt; omega) z1 (by omega) xs0 hx0 _ _ _ _ h19 h20 F0 FT T21 c496]; simp only [gw2, gw1, gw0, if_neg c501, if_pos c552, if_pos c553]))
              · refine w_iconst X556 at_712 (v := (1 : Int32)) rfl rfl ?_
                refine w_goto X556 at_713 (by decide) (pc' := 717) (by decide) ?_
                exact w_nreturn X556 (t := .boolean) (by simp) at_717 rfl trivial (by decide) (by decide)
          · refine w_iload X499 at_668 rfl rfl ?_
            refine w_bipush X499 at_670 (v := (19 : Int32)) rfl rfl ?_
            refine w_icmp_gt X499 at_672 (by decide) (pcT := 684) (pcF := 675) (by decide) rfl (fun c559 => ?_) (fun c559 => ?_)
            · refine w_iload X499 at_684 rfl rfl ?_
              refine w_bipush X499 at_686 (v := (21 : Int32)) rfl rfl ?_
              refine w_icmp_ne X499 at_688 (by decide) (pcT := 700) (pcF := 691) (by decide) rfl (fun c560 => ?_) (fun c560 => ?_)
              · refine w_lload X499 at_700 rfl rfl ?_
                refine w_lstore X499 at_702 rfl (L' := #[.val (.long q1), .second, .val (.long q2), .second, .val (.long q3), .second, .val (.int p4), .val (.int p5), .val (.long z1), .second, .val (.ref a5), .val (.ref a149), .val (.int z370), .val (.int z373), .val (.int z394), .val (.int z395), .val (.int z398), .val (.int z401), .val (.int z402), .val (.int z403), .val (.int (0 : Int32)), .val (.long z495), .second, .val (.long (0 : Int64)), .second, .val (.int z500), .val (.long (0 : Int64)), .second, .unset, .unset, .unset]) rfl ?_
                refine w_lload X499 at_704 rfl rfl ?_
                refine w_lload X499 at_706 rfl rfl ?_
                refine w_lcmp_ne X499 at_708 rfl at_709 (by decide) (pcT := 716) (pcF := 712) (by decide) rfl (fun c561 => ?_) (fun c561 => ?_)
                · refine w_iconst X499 at_716 (v := (0 : Int32)) rfl rfl ?_
                  exact False.elim (c561 (by subst hz500 hz495; rw [own_law z1.toInt.toNat (by have := z1.toInt_lt; omega) z1 (by omega) xs0 hx0 _ _ _ _ h19 h20 F0 FT T21 c496]; simp only [gw2, gw1, gw0, if_neg c501, if_neg c552, if_pos c559, if_neg c560]))
                · refine w_iconst X499 at_712 (v := (1 : Int32)) rfl rfl ?_
                  refine w_goto X499 at_713 (by decide) (pc' := 717) (by decide) ?_
                  exact w_nreturn X499 (t := .boolean) (by simp) at_717 rfl trivial (by decide) (by decide)
              · refine w_lload X499 at_691 rfl rfl ?_
                refine w_iload X499 at_693 rfl rfl ?_
                refine w_staticVP X499 (rm7 l Z a0 hw (0 : Int64) z373 h386 n0 X499.size ) (hw _ (List.mem_of_getElem? (i := 49) rfl)) (hw _ (List.mem_of_getElem? (i := 50) rfl)) (hw _ (List.mem_of_getElem? (i := 23) rfl)) (hw _ (List.mem_of_getElem? (i := 51) rfl)) (by decide) (argsL := [(.long (0 : Int64)), (.int z373)]) (rest := []) rfl (lenOf pd_5 rfl) rfl (W := 0) rfl (by decide) (by decide) (by decide) (by decide) at_695 rfl fun T562 X563 => ?_
                generalize hz564 : (f_step (0 : Int64) z373) = z564
                refine w_lstore X563 at_698 rfl (L' := #[.val (.long q1), .second, .val (.long q2), .second, .val (.long q3), .second, .val (.int p4), .val (.int p5), .val (.long z1), .second, .val (.ref a5), .val (.ref a149), .val (.int z370), .val (.int z373), .val (.int z394), .val (.int z395), .val (.int z398), .val (.int z401), .val (.int z402), .val (.int z403), .val (.int (0 : Int32)), .val (.long z495), .second, .unset, .unset, .val (.int z500), .val (.long z564), .second, .unset, .unset, .unset]) rfl ?_
                refine w_lload X563 at_700 rfl rfl ?_
                refine w_lstore X563 at_702 rfl (L' := #[.val (.long q1), .second, .val (.long q2), .second, .val (.long q3), .second, .val (.int p4), .val (.int p5), .val (.long z1), .second, .val (.ref a5), .val (.ref a149), .val (.int z370), .val (.int z373), .val (.int z394), .val (.int z395), .val (.int z398), .val (.int z401), .val (.int z402), .val (.int z403), .val (.int (0 : Int32)), .val (.long z495), .second, .val (.long z564), .second, .val (.int z500), .val (.long z564), .second, .unset, .unset, .unset]) rfl ?_
                refine w_lload X563 at_704 rfl rfl ?_
                refine w_lload X563 at_706 rfl rfl ?_
                refine w_lcmp_ne X563 at_708 rfl at_709 (by decide) (pcT := 716) (pcF := 712) (by decide) rfl (fun c565 => ?_) (fun c565 => ?_)
                · refine w_iconst X563 at_716 (v := (0 : Int32)) rfl rfl ?_
                  exact False.elim (c565 (by subst hz564 hz500 hz495; rw [own_law z1.toInt.toNat (by have := z1.toInt_lt; omega) z1 (by omega) xs0 hx0 _ _ _ _ h19 h20 F0 FT T21 c496]; simp only [gw2, gw1, gw0, if_neg c501, if_neg c552, if_pos c559, if_pos c560]))
                · refine w_iconst X563 at_712 (v := (1 : Int32)) rfl rfl ?_
                  refine w_goto X563 at_713 (by decide) (pc' := 717) (by decide) ?_
                  exact w_nreturn X563 (t := .boolean) (by simp) at_717 rfl trivial (by decide) (by decide)
            · refine w_lload X499 at_675 rfl rfl ?_
              refine w_iload X499 at_677 rfl rfl ?_
              refine w_staticVP X499 (rm7 l Z a0 hw (0 : Int64) z370 h386 n0 X499.size ) (hw _ (List.mem_of_getElem? (i := 49) rfl)) (hw _ (List.mem_of_getElem? (i := 50) rfl)) (hw _ (List.mem_of_getElem? (i := 23) rfl)) (hw _ (List.mem_of_getElem? (i := 51) rfl)) (by decide) (argsL := [(.long (0 : Int64)), (.int z370)]) (rest := []) rfl (lenOf pd_5 rfl) rfl (W := 0) rfl (by decide) (by decide) (by decide) (by decide) at_679 rfl fun T566 X567 => ?_
              generalize hz568 : (f_step (0 : Int64) z370) = z568
              refine w_lstore X567 at_682 rfl (L' := #[.val (.long q1), .second, .val (.long q2), .second, .val (.long q3), .second, .val (.int p4), .val (.int p5), .val (.long z1), .second, .val (.ref a5), .val (.ref a149), .val (.int z370), .val (.int z373), .val (.int z394), .val (.int z395), .val (.int z398), .val (.int z401), .val (.int z402), .val (.int z403), .val (.int (0 : Int32)), .val (.long z495), .second, .unset, .unset, .val (.int z500), .val (.long z568), .second, .unset, .unset, .unset]) rfl ?_
              refine w_iload X567 at_684 rfl rfl ?_
              refine w_bipush X567 at_686 (v := (21 : Int32)) rfl rfl ?_
              refine w_icmp_ne X567 at_688 (by decide) (pcT := 700) (pcF := 691) (by decide) rfl (fun c569 => ?_) (fun c569 => ?_)
              · refine w_lload X567 at_700 rfl rfl ?_
                refine w_lstore X567 at_702 rfl (L' := #[.val (.long q1), .second, .val (.long q2), .second, .val (.long q3), .second, .val (.int p4), .val (.int p5), .val (.long z1), .second, .val (.ref a5), .val (.ref a149), .val (.int z370), .val (.int z373), .val (.int z394), .val (.int z395), .val (.int z398), .val (.int z401), .val (.int z402), .val (.int z403), .val (.int (0 : Int32)), .val (.long z495), .second, .val (.long z568), .second, .val (.int z500), .val (.long z568), .second, .unset, .unset, .unset]) rfl ?_
                refine w_lload X567 at_704 rfl rfl ?_
                refine w_lload X567 at_706 rfl rfl ?_
                refine w_lcmp_ne X567 at_708 rfl at_709 (by decide) (pcT := 716) (pcF := 712) (by decide) rfl (fun c570 => ?_) (fun c570 => ?_)
                · refine w_iconst X567 at_716 (v := (0 : Int32)) rfl rfl ?_
                  exact False.elim (c570 (by subst hz568 hz500 hz495; rw [own_law z1.toInt.toNat (by have := z1.toInt_lt; omega) z1 (by omega) xs0 hx0 _ _ _ _ h19 h20 F0 FT T21 c496]; simp only [gw2, gw1, gw0, if_neg c501, if_neg c552, if_neg c559, if_neg c569]))
                · refine w_iconst X567 at_712 (v := (1 : Int32)) rfl rfl ?_
                  refine w_goto X567 at_713 (by decide) (pc' := 717) (by decide) ?_
                  exact w_nreturn X567 (t := .boolean) (by simp) at_717 rfl trivial (by decide) (by decide)
              · refine w_lload X567 at_691 rfl rfl ?_
                refine w_iload X567 at_693 rfl rfl ?_
                refine w_staticVP X567 (rm7 l Z a0 hw z568 z373 h386 n0 X567.size ) (hw _ (List.mem_of_getElem? (i := 49) rfl)) (hw _ (List.mem_of_getElem? (i := 50) rfl)) (hw _ (List.mem_of_getElem? (i := 23) rfl)) (hw _ (List.mem_of_getElem? (i := 51) rfl)) (by decide) (argsL := [(.long z568), (.int z373)]) (rest := []) rfl (lenOf pd_5 rfl) rfl (W := 0) rfl (by decide) (by decide) (by decide) (by decide) at_695 rfl fun T571 X572 => ?_
                generalize hz573 : (f_step z568 z373) = z573
                refine w_lstore X572 at_698 rfl (L' := #[.val (.long q1), .second, .val (.long q2), .second, .val (.long q3), .second, .val (.int p4), .val (.int p5), .val (.long z1), .second, .val (.ref a5), .val (.ref a149), .val (.int z370), .val (.int z373), .val (.int z394), .val (.int z395), .val (.int z398), .val (.int z401), .val (.int z402), .val (.int z403), .val (.int (0 : Int32)), .val (.long z495), .second, .unset, .unset, .val (.int z500), .val (.long z573), .second, .unset, .unset, .unset]) rfl ?_
                refine w_lload X572 at_700 rfl rfl ?_
                refine w_lstore X572 at_702 rfl (L' := #[.val (.long q1), .second, .val (.long q2), .second, .val (.long q3), .second, .val (.int p4), .val (.int p5), .val (.long z1), .second, .val (.ref a5), .val (.ref a149), .val (.int z370), .val (.int z373), .val (.int z394), .val (.int z395), .val (.int z398), .val (.int z401), .val (.int z402), .val (.int z403), .val (.int (0 : Int32)), .val (.long z495), .second, .val (.long z573), .second, .val (.int z500), .val (.long z573), .second, .unset, .unset, .unset]) rfl ?_
                refine w_lload X572 at_704 rfl rfl ?_
                refine w_lload X572 at_706 rfl rfl ?_
                refine w_lcmp_ne X572 at_708 rfl at_709 (by decide) (pcT := 716) (pcF := 712) (by decide) rfl (fun c574 => ?_) (fun c574 => ?_)
                · refine w_iconst X572 at_716 (v := (0 : Int32)) rfl rfl ?_
                  exact False.elim (c574 (by subst hz573 hz568 hz500 hz495; rw [own_law z1.toInt.toNat (by have := z1.toInt_lt; omega) z1 (by omega) xs0 hx0 _ _ _ _ h19 h20 F0 FT T21 c496]; simp only [gw2, gw1, gw0, if_neg c501, if_neg c552, if_neg c559, if_pos c569]))
                · refine w_iconst X572 at_712 (v := (1 : Int32)) rfl rfl ?_
                  refine w_goto X572 at_713 (by decide) (pc' := 717) (by decide) ?_
                  exact w_nreturn X572 (t := .boolean) (by simp) at_717 rfl trivial (by decide) (by decide)
      · refine w_ldc2Long X494 (hw _ (List.mem_of_getElem? (i := 48) rfl)) at_562 rfl ?_
        refine w_lstore X494 at_565 rfl (L' := #[.val (.long q1), .second, .val (.long q2), .second, .val (.long q3), .second, .val (.int p4), .val (.int p5), .val (.long z1), .second, .val (.ref a5), .val (.ref a149), .val (.int z370), .val (.int z373), .val (.int z394), .val (.int z395), .val (.int z398), .val (.int z401), .val (.int z402), .val (.int z403), .val (.int (0 : Int32)), .val (.long z495), .second, .val (.long (-1 : Int64)), .second, .unset, .unset, .unset, .unset, .unset, .unset]) rfl ?_
        refine w_goto X494 at_567 (by decide) (pc' := 704) (by decide) ?_
        refine w_lload X494 at_704 rfl rfl ?_
        refine w_lload X494 at_706 rfl rfl ?_
        refine w_lcmp_ne X494 at_708 rfl at_709 (by decide) (pcT := 716) (pcF := 712) (by decide) rfl (fun c575 => ?_) (fun c575 => ?_)
        · refine w_iconst X494 at_716 (v := (0 : Int32)) rfl rfl ?_
          exact False.elim (c575 (by subst hz495; unfold f_par; rw [if_pos c496]))
        · refine w_iconst X494 at_712 (v := (1 : Int32)) rfl rfl ?_
          refine w_goto X494 at_713 (by decide) (pc' := 717) (by decide) ?_
          exact w_nreturn X494 (t := .boolean) (by simp) at_717 rfl trivial (by decide) (by decide)
    · refine w_iconst X490 at_525 (v := (1 : Int32)) rfl rfl ?_
      refine w_goto X490 at_526 (by decide) (pc' := 530) (by decide) ?_
      refine w_istore X490 at_530 rfl (L' := #[.val (.long q1), .second, .val (.long q2), .second, .val (.long q3), .second, .val (.int p4), .val (.int p5), .val (.long z1), .second, .val (.ref a5), .val (.ref a149), .val (.int z370), .val (.int z373), .val (.int z394), .val (.int z395), .val (.int z398), .val (.int z401), .val (.int z402), .val (.int z403), .val (.int (1 : Int32)), .unset, .unset, .unset, .unset, .unset, .unset, .unset, .unset, .unset, .unset]) rfl ?_
      refine w_iload X490 at_532 rfl rfl ?_
      refine w_if_eq X490 at_534 (by decide) (pcT := 544) (pcF := 537) (by decide) rfl (fun c576 => absurd c576 (by decide)) (fun c576 => ?_)
      refine w_aload X490 at_537 rfl rfl rfl ?_
      refine w_iload X490 at_539 rfl rfl ?_
      refine w_iload X490 at_541 rfl rfl ?_
      refine w_castore X490 f392 (own_nn _ (own_r19 _ _ hz402).1) rfl (by rw [List.length_map]; exact (by rw [hl0]; have := own_r19 _ _ hz402; show (z402).toInt.toNat < 21; omega)) gn151 at_543 rfl fun T577 h580 X578 W579 A581 => ?_
      rw [← List.map_set] at A581
      obtain ⟨xs582, hxs582⟩ : ∃ z, z = (xs0.set (z402).toNatClampNeg (nar .char z403)) := ⟨_, rfl⟩
      rw [← hxs582] at A581
      have f583 : AV Z h580 a5 .long (P10.map Value.long) := f393.other W579 ne154
      have f584 : AV Z h580 a149 .char (xs582.map Value.int) := A581
      have k585 : Keep h0 h580 [] := k391.wr W579 (Or.inr g0155)
      refine w_aload X578 at_544 rfl rfl rfl ?_
      refine w_iload X578 at_546 rfl rfl ?_
      refine w_iload X578 at_548 rfl rfl ?_
      refine w_staticVP X578 (rm6 l Z a0 hw a149 z398 z401 xs582 h580 n0 X578.size f584 F0 FT (by rw [hxs582, List.length_set]; omega) (by rw [hxs582]; exact own_rngS xs0 hc0 _ _)) (hw _ (List.mem_of_getElem? (i := 41) rfl)) (hw _ (List.mem_of_getElem? (i := 42) rfl)) (hw _ (List.mem_of_getElem? (i := 43) rfl)) (hw _ (List.mem_of_getElem? (i := 44) rfl)) (by decide) (argsL := [(.ref a149), (.int z398), (.int z401)]) (rest := []) rfl (lenOf pd_4 rfl) rfl (W := 0) rfl (by decide) (by decide) (by decide) (by decide) at_550 rfl fun T586 X587 => ?_
      generalize hz588 : (f_par xs582 z398 z401) = z588
      refine w_lstore X587 at_553 rfl (L' := #[.val (.long q1), .second, .val (.long q2), .second, .val (.long q3), .second, .val (.int p4), .val (.int p5), .val (.long z1), .second, .val (.ref a5), .val (.ref a149), .val (.int z370), .val (.int z373), .val (.int z394), .val (.int z395), .val (.int z398), .val (.int z401), .val (.int z402), .val (.int z403), .val (.int (1 : Int32)), .val (.long z588), .second, .unset, .unset, .unset, .unset, .unset, .unset, .unset, .unset]) rfl ?_
      refine w_iload X587 at_555 rfl rfl ?_
      refine w_iload X587 at_557 rfl rfl ?_
      refine w_icmp_ne X587 at_559 (by decide) (pcT := 570) (pcF := 562) (by decide) rfl (fun c589 => ?_) (fun c589 => ?_)
      · refine w_iload X587 at_570 rfl rfl ?_
        refine w_if_eq X587 at_572 (by decide) (pcT := 597) (pcF := 575) (by decide) rfl (fun c590 => absurd c590 (by decide)) (fun c590 => ?_)
        refine w_iload X587 at_575 rfl rfl ?_
        refine w_iload X587 at_577 rfl rfl ?_
        refine w_icmp_gt X587 at_579 (by decide) (pcT := 597) (pcF := 582) (by decide) rfl (fun c591 => ?_) (fun c591 => ?_)
        · refine w_iload X587 at_597 rfl rfl ?_
          refine w_bipush X587 at_599 (v := (19 : Int32)) rfl rfl ?_
          refine w_staticVP X587 (rm3 l Z a0 hw z401 (19 : Int32) h580 n0 X587.size ) (hw _ (List.mem_of_getElem? (i := 30) rfl)) (hw _ (List.mem_of_getElem? (i := 31) rfl)) (hw _ (List.mem_of_getElem? (i := 32) rfl)) (hw _ (List.mem_of_getElem? (i := 33) rfl)) (by decide) (argsL := [(.int z401), (.int (19 : Int32))]) (rest := []) rfl (lenOf pd_3 rfl) rfl (W := 0) rfl (by decide) (by decide) (by decide) (by decide) at_601 rfl fun T592 X593 => ?_
          generalize hz594 : (f_min z401 (19 : Int32)) = z594
          refine w_istore X593 at_604 rfl (L' := #[.val (.long q1), .second, .val (.long q2), .second, .val (.long q3), .second, .val (.int p4), .val (.int p5), .val (.long z1), .second, .val (.ref a5), .val (.ref a149), .val (.int z370), .val (.int z373), .val (.int z394), .val (.int z395), .val (.int z398), .val (.int z401), .val (.int z402), .val (.int z403), .val (.int (1 : Int32)), .val (.long z588), .second, .unset, .unset, .val (.int z594), .unset, .unset, .unset, .unset, .unset]) rfl ?_
          refine w_iload X593 at_606 rfl rfl ?_
          refine w_iload X593 at_608 rfl rfl ?_
          refine w_icmp_lt X593 at_610 (by decide) (pcT := 619) (pcF := 613) (by decide) rfl (fun c595 => ?_) (fun c595 => ?_)
          · refine w_iload X593 at_619 rfl rfl ?_
            refine w_iload X593 at_621 rfl rfl ?_
            refine w_isub X593 at_623 rfl ?_
            generalize hz596 : (z594 - z398) = z596
            refine w_istore X593 at_624 rfl (L' := #[.val (.long q1), .second, .val (.long q2), .second, .val (.long q3), .second, .val (.int p4), .val (.int p5), .val (.long z1), .second, .val (.ref a5), .val (.ref a149), .val (.int z370), .val (.int z373), .val (.int z394), .val (.int z395), .val (.int z398), .val (.int z401), .val (.int z402), .val (.int z403), .val (.int (1 : Int32)), .val (.long z588), .second, .unset, .unset, .val (.int z594), .unset, .unset, .val (.int z596), .unset, .unset]) rfl ?_
            refine w_lload X593 at_626 rfl rfl ?_
            refine w_aload X593 at_628 rfl rfl rfl ?_
            refine w_bipush X593 at_630 (v := (19 : Int32)) rfl rfl ?_
            refine w_iload X593 at_632 rfl rfl ?_
            refine w_isub X593 at_634 rfl ?_
            refine w_laload X593 f583 (own_i0 _ _ _ F0 hz594 c595) rfl (getL (own_i1 _ _ _ F0 hz594 c595)) at_635 rfl ?_
            refine w_ldiv X593 at_636 rfl (own_nz _ (own_i1 _ _ _ F0 hz594 c595)) ?_
            generalize hz597 : (z1 / (P10.getD (((19 : Int32) - z594)).toNatClampNeg 0)) = z597
            refine w_lstore X593 at_637 rfl (L' := #[.val (.long q1), .second, .val (.long q2), .second, .val (.long q3), .second, .val (.int p4), .val (.int p5), .val (.long z1), .second, .val (.ref a5), .val (.ref a149), .val (.int z370), .val (.int z373), .val (.int z394), .val (.int z395), .val (.int z398), .val (.int z401), .val (.int z402), .val (.int z403), .val (.int (1 : Int32)), .val (.long z588), .second, .unset, .unset, .val (.int z594), .unset, .unset, .val (.int z596), .val (.long z597), .second]) rfl ?_
            refine w_iload X593 at_639 rfl rfl ?_
            refine w_bipush X593 at_641 (v := (19 : Int32)) rfl rfl ?_
            refine w_icmp_ne X593 at_643 (by decide) (pcT := 651) (pcF := 646) (by decide) rfl (fun c598 => ?_) (fun c598 => ?_)
            · refine w_lload X593 at_651 rfl rfl ?_
              refine w_aload X593 at_653 rfl rfl rfl ?_
              refine w_iload X593 at_655 rfl rfl ?_
              refine w_laload X593 f583 (by rw [← hz596]; exact own_j0 _ _ _ F0 hz594 c595) rfl (getL (by rw [← hz596]; exact own_j1 _ _ _ F0 hz594 c595 (by rw [hz596]; exact c598))) at_657 rfl ?_
              refine w_lrem X593 at_658 rfl (own_nz _ (by rw [← hz596]; exact own_j1 _ _ _ F0 hz594 c595 (by rw [hz596]; exact c598))) ?_
              generalize hz599 : (z597 % (P10.getD (z596).toNatClampNeg 0)) = z599
              refine w_lstore X593 at_659 rfl (L' := #[.val (.long q1), .second, .val (.long q2), .second, .val (.long q3), .second, .val (.int p4), .val (.int p5), .val (.long z1), .second, .val (.ref a5), .val (.ref a149), .val (.int z370), .val (.int z373), .val (.int z394), .val (.int z395), .val (.int z398), .val (.int z401), .val (.int z402), .val (.int z403), .val (.int (1 : Int32)), .val (.long z588), .second, .unset, .unset, .val (.int z594), .val (.long z599), .second, .val (.int z596), .val (.long z597), .second]) rfl ?_
              refine w_iload X593 at_661 rfl rfl ?_
              refine w_bipush X593 at_663 (v := (20 : Int32)) rfl rfl ?_
              refine w_icmp_lt X593 at_665 (by decide) (pcT := 684) (pcF := 668) (by decide) rfl (fun c600 => ?_) (fun c600 => ?_)
              · refine w_iload X593 at_684 rfl rfl ?_
                refine w_bipush X593 at_686 (v := (21 : Int32)) rfl rfl ?_
                refine w_icmp_ne X593 at_688 (by decide) (pcT := 700) (pcF := 691) (by decide) rfl (fun c601 => ?_) (fun c601 => ?_)
                · refine w_lload X593 at_700 rfl rfl ?_
                  refine w_lstore X593 at_702 rfl (L' := #[.val (.long q1), .second, .val (.long q2), .second, .val (.long q3), .second, .val (.int p4), .val (.int p5), .val (.long z1), .second, .val (.ref a5), .val (.ref a149), .val (.int z370), .val (.int z373), .val (.int z394), .val (.int z395), .val (.int z398), .val (.int z401), .val (.int z402), .val (.int z403), .val (.int (1 : Int32)), .val (.long z588), .second, .val (.long z599), .second, .val (.int z594), .val (.long z599), .second, .val (.int z596), .val (.long z597), .second]) rfl ?_
                  refine w_lload X593 at_704 rfl rfl ?_
                  refine w_lload X593 at_706 rfl rfl ?_
                  refine w_lcmp_ne X593 at_708 rfl at_709 (by decide) (pcT := 716) (pcF := 712) (by decide) rfl (fun c602 => ?_) (fun c602 => ?_)
                  · refine w_iconst X593 at_716 (v := (0 : Int32)) rfl rfl ?_
                    exact False.elim (c602 (by subst hz599 hz597 hz596 hz594 hz588; rw [hxs582, own_sp2 xs0 _ _ _ _ F0 (own_r19 _ _ hz402).1 (Or.inl c591)]; rw [own_law z1.toInt.toNat (by have := z1.toInt_lt; omega) z1 (by omega) xs0 hx0 _ _ _ _ h19 h20 F0 FT T21 c589]; simp only [gw2, gw1, gw0, if_pos c595, if_neg c598, if_pos c600, if_neg c601]))
                  · refine w_iconst X593 at_712 (v := (1 : Int32)) rfl rfl ?_
                    refine w_goto X593 at_713 (by decide) (pc' := 717) (by decide) ?_
                    exact w_nreturn X593 (t := .boolean) (by simp) at_717 rfl trivial (by decide) (by decide)
                · refine w_lload X593 at_691 rfl rfl ?_
                  refine w_iload X593 at_693 rfl rfl ?_
                  refine w_staticVP X593 (rm7 l Z a0 hw z599 z373 h580 n0 X593.size ) (hw _ (List.mem_of_getElem? (i := 49) rfl)) (hw _ (List.mem_of_getElem? (i := 50) rfl)) (hw _ (List.mem_of_getElem? (i := 23) rfl)) (hw _ (List.mem_of_getElem? (i := 51) rfl)) (by decide) (argsL := [(.long z599), (.int z373)]) (rest := []) rfl (lenOf pd_5 rfl) rfl (W := 0) rfl (by decide) (by decide) (by decide) (by decide) at_695 rfl fun T603 X604 => ?_
                  generalize hz605 : (f_step z599 z373) = z605
                  refine w_lstore X604 at_698 rfl (L' := #[.val (.long q1), .second, .val (.long q2), .second, .val (.long q3), .second, .val (.int p4), .val (.int p5), .val (.long z1), .second, .val (.ref a5), .val (.ref a149), .val (.int z370), .val (.int z373), .val (.int z394), .val (.int z395), .val (.int z398), .val (.int z401), .val (.int z402), .val (.int z403), .val (.int (1 : Int32)), .val (.long z588), .second, .unset, .unset, .val (.int z594), .val (.long z605), .second, .val (.int z596), .val (.long z597), .second]) rfl ?_
                  refine w_lload X604 at_700 rfl rfl ?_
                  refine w_lstore X604 at_702 rfl (L' := #[.val (.long q1), .second, .val (.long q2), .second, .val (.long q3), .second, .val (.int p4), .val (.int p5), .val (.long z1), .second, .val (.ref a5), .val (.ref a149), .val (.int z370), .val (.int z373), .val (.int z394), .val (.int z395), .val (.int z398), .val (.int z401), .val (.int z402), .val (.int z403), .val (.int (1 : Int32)), .val (.long z588), .second, .val (.long z605), .second, .val (.int z594), .val (.long z605), .second, .val (.int z596), .val (.long z597), .second]) rfl ?_
                  refine w_lload X604 at_704 rfl rfl ?_
                  refine w_lload X604 at_706 rfl rfl ?_
                  refine w_lcmp_ne X604 at_708 rfl at_709 (by decide) (pcT := 716) (pcF := 712) (by decide) rfl (fun c606 => ?_) (fun c606 => ?_)
                  · refine w_iconst X604 at_716 (v := (0 : Int32)) rfl rfl ?_
                    exact False.elim (c606 (by subst hz605 hz599 hz597 hz596 hz594 hz588; rw [hxs582, own_sp2 xs0 _ _ _ _ F0 (own_r19 _ _ hz402).1 (Or.inl c591)]; rw [own_law z1.toInt.toNat (by have := z1.toInt_lt; omega) z1 (by omega) xs0 hx0 _ _ _ _ h19 h20 F0 FT T21 c589]; simp only [gw2, gw1, gw0, if_pos c595, if_neg c598, if_pos c600, if_pos c601]))
                  · refine w_iconst X604 at_712 (v := (1 : Int32)) rfl rfl ?_
                    refine w_goto X604 at_713 (by decide) (pc' := 717) (by decide) ?_
                    exact w_nreturn X604 (t := .boolean) (by simp) at_717 rfl trivial (by decide) (by decide)
              · refine w_iload X593 at_668 rfl rfl ?_
                refine w_bipush X593 at_670 (v := (19 : Int32)) rfl rfl ?_
                refine w_icmp_gt X593 at_672 (by decide) (pcT := 684) (pcF := 675) (by decide) rfl (fun c607 => ?_) (fun c607 => ?_)
                · refine w_iload X593 at_684 rfl rfl ?_
                  refine w_bipush X593 at_686 (v := (21 : Int32)) rfl rfl ?_
                  refine w_icmp_ne X593 at_688 (by decide) (pcT := 700) (pcF := 691) (by decide) rfl (fun c608 => ?_) (fun c608 => ?_)
                  · refine w_lload X593 at_700 rfl rfl ?_
                    refine w_lstore X593 at_702 rfl (L' := #[.val (.long q1), .second, .val (.long q2), .second, .val (.long q3), .second, .val (.int p4), .val (.int p5), .val (.long z1), .second, .val (.ref a5), .val (.ref a149), .val (.int z370), .val (.int z373), .val (.int z394), .val (.int z395), .val (.int z398), .val (.int z401), .val (.int z402), .val (.int z403), .val (.int (1 : Int32)), .val (.long z588), .second, .val (.long z599), .second, .val (.int z594), .val (.long z599), .second, .val (.int z596), .val (.long z597), .second]) rfl ?_
                    refine w_lload X593 at_704 rfl rfl ?_
                    refine w_lload X593 at_706 rfl rfl ?_
                    refine w_lcmp_ne X593 at_708 rfl at_709 (by decide) (pcT := 716) (pcF := 712) (by decide) rfl (fun c609 => ?_) (fun c609 => ?_)
                    · refine w_iconst X593 at_716 (v := (0 : Int32)) rfl rfl ?_
                      exact False.elim (c609 (by subst hz599 hz597 hz596 hz594 hz588; rw [hxs582, own_sp2 xs0 _ _ _ _ F0 (own_r19 _ _ hz402).1 (Or.inl c591)]; rw [own_law z1.toInt.toNat (by have := z1.toInt_lt; omega) z1 (by omega) xs0 hx0 _ _ _ _ h19 h20 F0 FT T21 c589]; simp only [gw2, gw1, gw0, if_pos c595, if_neg c598, if_neg c600, if_pos c607, if_neg c608]))
                    · refine w_iconst X593 at_712 (v := (1 : Int32)) rfl rfl ?_
                      refine w_goto X593 at_713 (by decide) (pc' := 717) (by decide) ?_
                      exact w_nreturn X593 (t := .boolean) (by simp) at_717 rfl trivial (by decide) (by decide)
                  · refine w_lload X593 at_691 rfl rfl ?_
                    refine w_iload X593 at_693 rfl rfl ?_
                    refine w_staticVP X593 (rm7 l Z a0 hw z599 z373 h580 n0 X593.size ) (hw _ (List.mem_of_getElem? (i := 49) rfl)) (hw _ (List.mem_of_getElem? (i := 50) rfl)) (hw _ (List.mem_of_getElem? (i := 23) rfl)) (hw _ (List.mem_of_getElem? (i := 51) rfl)) (by decide) (argsL := [(.long z599), (.int z373)]) (rest := []) rfl (lenOf pd_5 rfl) rfl (W := 0) rfl (by decide) (by decide) (by decide) (by decide) at_695 rfl fun T610 X611 => ?_
                    generalize hz612 : (f_step z599 z373) = z612
                    refine w_lstore X611 at_698 rfl (L' := #[.val (.long q1), .second, .val (.long q2), .second, .val (.long q3), .second, .val (.int p4), .val (.int p5), .val (.long z1), .second, .val (.ref a5), .val (.ref a149), .val (.int z370), .val (.int z373), .val (.int z394), .val (.int z395), .val (.int z398), .val (.int z401), .val (.int z402), .val (.int z403), .val (.int (1 : Int32)), .val (.long z588), .second, .unset, .unset, .val (.int z594), .val (.long z612), .second, .val (.int z596), .val (.long z597), .second]) rfl ?_
                    refine w_lload X611 at_700 rfl rfl ?_
                    refine w_lstore X611 at_702 rfl (L' := #[.val (.long q1), .second, .val (.long q2), .second, .val (.long q3), .second, .val (.int p4), .val (.int p5), .val (.long z1), .second, .val (.ref a5), .val (.ref a149), .val (.int z370), .val (.int z373), .val (.int z394), .val (.int z395), .val (.int z398), .val (.int z401), .val (.int z402), .val (.int z403), .val (.int (1 : Int32)), .val (.long z588), .second, .val (.long z612), .second, .val (.int z594), .val (.long z612), .second, .val (.int z596), .val (.long z597), .second]) rfl ?_
                    refine w_lload X611 at_704 rfl rfl ?_
                    refine w_lload X611 at_706 rfl rfl ?_
                    refine w_lcmp_ne X611 at_708 rfl at_709 (by decide) (pcT := 716) (pcF := 712) (by decide) rfl (fun c613 => ?_) (fun c613 => ?_)
                    · refine w_iconst X611 at_716 (v := (0 : Int32)) rfl rfl ?_
                      exact False.elim (c613 (by subst hz612 hz599 hz597 hz596 hz594 hz588; rw [hxs582, own_sp2 xs0 _ _ _ _ F0 (own_r19 _ _ hz402).1 (Or.inl c591)]; rw [own_law z1.toInt.toNat (by have := z1.toInt_lt; omega) z1 (by omega) xs0 hx0 _ _ _ _ h19 h20 F0 FT T21 c589]; simp only [gw2, gw1, gw0, if_pos c595, if_neg c598, if_neg c600, if_pos c607, if_pos c608]))
                    · refine w_iconst X611 at_712 (v := (1 : Int32)) rfl rfl ?_
                      refine w_goto X611 at_713 (by decide) (pc' := 717) (by decide) ?_
                      exact w_nreturn X611 (t := .boolean) (by simp) at_717 rfl trivial (by decide) (by decide)
                · refine w_lload X593 at_675 rfl rfl ?_
                  refine w_iload X593 at_677 rfl rfl ?_
                  refine w_staticVP X593 (rm7 l Z a0 hw z599 z370 h580 n0 X593.size ) (hw _ (List.mem_of_getElem? (i := 49) rfl)) (hw _ (List.mem_of_getElem? (i := 50) rfl)) (hw _ (List.mem_of_getElem? (i := 23) rfl)) (hw _ (List.mem_of_getElem? (i := 51) rfl)) (by decide) (argsL := [(.long z599), (.int z370)]) (rest := []) rfl (lenOf pd_5 rfl) rfl (W := 0) rfl (by decide) (by decide) (by decide) (by decide) at_679 rfl fun T614 X615 => ?_
                  generalize hz616 : (f_step z599 z370) = z616
                  refine w_lstore X615 at_682 rfl (L' := #[.val (.long q1), .second, .val (.long q2), .second, .val (.long q3), .second, .val (.int p4), .val (.int p5), .val (.long z1), .second, .val (.ref a5), .val (.ref a149), .val (.int z370), .val (.int z373), .val (.int z394), .val (.int z395), .val (.int z398), .val (.int z401), .val (.int z402), .val (.int z403), .val (.int (1 : Int32)), .val (.long z588), .second, .unset, .unset, .val (.int z594), .val (.long z616), .second, .val (.int z596), .val (.long z597), .second]) rfl ?_
                  refine w_iload X615 at_684 rfl rfl ?_
                  refine w_bipush X615 at_686 (v := (21 : Int32)) rfl rfl ?_
                  refine w_icmp_ne X615 at_688 (by decide) (pcT := 700) (pcF := 691) (by decide) rfl (fun c617 => ?_) (fun c617 => ?_)
                  · refine w_lload X615 at_700 rfl rfl ?_
                    refine w_lstore X615 at_702 rfl (L' := #[.val (.long q1), .second, .val (.long q2), .second, .val (.long q3), .second, .val (.int p4), .val (.int p5), .val (.long z1), .second, .val (.ref a5), .val (.ref a149), .val (.int z370), .val (.int z373), .val (.int z394), .val (.int z395), .val (.int z398), .val (.int z401), .val (.int z402), .val (.int z403), .val (.int (1 : Int32)), .val (.long z588), .second, .val (.long z616), .second, .val (.int z594), .val (.long z616), .second, .val (.int z596), .val (.long z597), .second]) rfl ?_
                    refine w_lload X615 at_704 rfl rfl ?_
                    refine w_lload X615 at_706 rfl rfl ?_
                    refine w_lcmp_ne X615 at_708 rfl at_709 (by decide) (pcT := 716) (pcF := 712) (by decide) rfl (fun c618 => ?_) (fun c618 => ?_)
                    · refine w_iconst X615 at_716 (v := (0 : Int32)) rfl rfl ?_
                      exact False.elim (c618 (by subst hz616 hz599 hz597 hz596 hz594 hz588; rw [hxs582, own_sp2 xs0 _ _ _ _ F0 (own_r19 _ _ hz402).1 (Or.inl c591)]; rw [own_law z1.toInt.toNat (by have := z1.toInt_lt; omega) z1 (by omega) xs0 hx0 _ _ _ _ h19 h20 F0 FT T21 c589]; simp only [gw2, gw1, gw0, if_pos c595, if_neg c598, if_neg c600, if_neg c607, if_neg c617]))
                    · refine w_iconst X615 at_712 (v := (1 : Int32)) rfl rfl ?_
                      refine w_goto X615 at_713 (by decide) (pc' := 717) (by decide) ?_
                      exact w_nreturn X615 (t := .boolean) (by simp) at_717 rfl trivial (by decide) (by decide)
                  · refine w_lload X615 at_691 rfl rfl ?_
                    refine w_iload X615 at_693 rfl rfl ?_
                    refine w_staticVP X615 (rm7 l Z a0 hw z616 z373 h580 n0 X615.size ) (hw _ (List.mem_of_getElem? (i := 49) rfl)) (hw _ (List.mem_of_getElem? (i := 50) rfl)) (hw _ (List.mem_of_getElem? (i := 23) rfl)) (hw _ (List.mem_of_getElem? (i := 51) rfl)) (by decide) (argsL := [(.long z616), (.int z373)]) (rest := []) rfl (lenOf pd_5 rfl) rfl (W := 0) rfl (by decide) (by decide) (by decide) (by decide) at_695 rfl fun T619 X620 => ?_
                    generalize hz621 : (f_step z616 z373) = z621
                    refine w_lstore X620 at_698 rfl (L' := #[.val (.long q1), .second, .val (.long q2), .second, .val (.long q3), .second, .val (.int p4), .val (.int p5), .val (.long z1), .second, .val (.ref a5), .val (.ref a149), .val (.int z370), .val (.int z373), .val (.int z394), .val (.int z395), .val (.int z398), .val (.int z401), .val (.int z402), .val (.int z403), .val (.int (1 : Int32)), .val (.long z588), .second, .unset, .unset, .val (.int z594), .val (.long z621), .second, .val (.int z596), .val (.long z597), .second]) rfl ?_
                    refine w_lload X620 at_700 rfl rfl ?_
                    refine w_lstore X620 at_702 rfl (L' := #[.val (.long q1), .second, .val (.long q2), .second, .val (.long q3), .second, .val (.int p4), .val (.int p5), .val (.long z1), .second, .val (.ref a5), .val (.ref a149), .val (.int z370), .val (.int z373), .val (.int z394), .val (.int z395), .val (.int z398), .val (.int z401), .val (.int z402), .val (.int z403), .val (.int (1 : Int32)), .val (.long z588), .second, .val (.long z621), .second, .val (.int z594), .val (.long z621), .second, .val (.int z596), .val (.long z597), .second]) rfl ?_
                    refine w_lload X620 at_704 rfl rfl ?_
                    refine w_lload X620 at_706 rfl rfl ?_
                    refine w_lcmp_ne X620 at_708 rfl at_709 (by decide) (pcT := 716) (pcF := 712) (by decide) rfl (fun c622 => ?_) (fun c622 => ?_)
                    · refine w_iconst X620 at_716 (v := (0 : Int32)) rfl rfl ?_
                      exact False.elim (c622 (by subst hz621 hz616 hz599 hz597 hz596 hz594 hz588; rw [hxs582, own_sp2 xs0 _ _ _ _ F0 (own_r19 _ _ hz402).1 (Or.inl c591)]; rw [own_law z1.toInt.toNat (by have := z1.toInt_lt; omega) z1 (by omega) xs0 hx0 _ _ _ _ h19 h20 F0 FT T21 c589]; simp only [gw2, gw1, gw0, if_pos c595, if_neg c598, if_neg c600, if_neg c607, if_pos c617]))
                    · refine w_iconst X620 at_712 (v := (1 : Int32)) rfl rfl ?_
                      refine w_goto X620 at_713 (by decide) (pc' := 717) (by decide) ?_
                      exact w_nreturn X620 (t := .boolean) (by simp) at_717 rfl trivial (by decide) (by decide)
            · refine w_lload X593 at_646 rfl rfl ?_
              refine w_goto X593 at_648 (by decide) (pc' := 659) (by decide) ?_
              refine w_lstore X593 at_659 rfl (L' := #[.val (.long q1), .second, .val (.long q2), .second, .val (.long q3), .second, .val (.int p4), .val (.int p5), .val (.long z1), .second, .val (.ref a5), .val (.ref a149), .val (.int z370), .val (.int z373), .val (.int z394), .val (.int z395), .val (.int z398), .val (.int z401), .val (.int z402), .val (.int z403), .val (.int (1 : Int32)), .val (.long z588), .second, .unset, .unset, .val (.int z594), .val (.long z597), .second, .val (.int z596), .val (.long z597), .second]) rfl ?_
              refine w_iload X593 at_661 rfl rfl ?_
              refine w_bipush X593 at_663 (v := (20 : Int32)) rfl rfl ?_
              refine w_icmp_lt X593 at_665 (by decide) (pcT := 684) (pcF := 668) (by decide) rfl (fun c623 => ?_) (fun c623 => ?_)
              · refine w_iload X593 at_684 rfl rfl ?_
                refine w_bipush X593 at_686 (v := (21 : Int32)) rfl rfl ?_
                refine w_icmp_ne X593 at_688 (by decide) (pcT := 700) (pcF := 691) (by decide) rfl (fun c624 => ?_) (fun c624 => ?_)
                · refine w_lload X593 at_700 rfl rfl ?_
                  refine w_lstore X593 at_702 rfl (L' := #[.val (.long q1), .second, .val (.long q2), .second, .val (.long q3), .second, .val (.int p4), .val (.int p5), .val (.long z1), .second, .val (.ref a5), .val (.ref a149), .val (.int z370), .val (.int z373), .val (.int z394), .val (.int z395), .val (.int z398), .val (.int z401), .val (.int z402), .val (.int z403), .val (.int (1 : Int32)), .val (.long z588), .second, .val (.long z597), .second, .val (.int z594), .val (.long z597), .second, .val (.int z596), .val (.long z597), .second]) rfl ?_
                  refine w_lload X593 at_704 rfl rfl ?_
                  refine w_lload X593 at_706 rfl rfl ?_
                  refine w_lcmp_ne X593 at_708 rfl at_709 (by decide) (pcT := 716) (pcF := 712) (by decide) rfl (fun c625 => ?_) (fun c625 => ?_)
                  · refine w_iconst X593 at_716 (v := (0 : Int32)) rfl rfl ?_
                    exact False.elim (c625 (by subst hz597 hz596 hz594 hz588; rw [hxs582, own_sp2 xs0 _ _ _ _ F0 (own_r19 _ _ hz402).1 (Or.inl c591)]; rw [own_law z1.toInt.toNat (by have := z1.toInt_lt; omega) z1 (by omega) xs0 hx0 _ _ _ _ h19 h20 F0 FT T21 c589]; simp only [gw2, gw1, gw0, if_pos c595, if_pos c598, if_pos c623, if_neg c624]))
                  · refine w_iconst X593 at_712 (v := (1 : Int32)) rfl rfl ?_
                    refine w_goto X593 at_713 (by decide) (pc' := 717) (by decide) ?_
                    exact w_nreturn X593 (t := .boolean) (by simp) at_717 rfl trivial (by decide) (by decide)
                · refine w_lload X593 at_691 rfl rfl ?_
                  refine w_iload X593 at_693 rfl rfl ?_
                  refine w_staticVP X593 (rm7 l Z a0 hw z597 z373 h580 n0 X593.size ) (hw _ (List.mem_of_getElem? (i := 49) rfl)) (hw _ (List.mem_of_getElem? (i := 50) rfl)) (hw _ (List.mem_of_getElem? (i := 23) rfl)) (hw _ (List.mem_of_getElem? (i := 51) rfl)) (by decide) (argsL := [(.long z597), (.int z373)]) (rest := []) rfl (lenOf pd_5 rfl) rfl (W := 0) rfl (by decide) (by decide) (by decide) (by decide) at_695 rfl fun T626 X627 => ?_
                  generalize hz628 : (f_step z597 z373) = z628
                  refine w_lstore X627 at_698 rfl (L' := #[.val (.long q1), .second, .val (.long q2), .second, .val (.long q3), .second, .val (.int p4), .val (.int p5), .val (.long z1), .second, .val (.ref a5), .val (.ref a149), .val (.int z370), .val (.int z373), .val (.int z394), .val (.int z395), .val (.int z398), .val (.int z401), .val (.int z402), .val (.int z403), .val (.int (1 : Int32)), .val (.long z588), .second, .unset, .unset, .val (.int z594), .val (.long z628), .second, .val (.int z596), .val (.long z597), .second]) rfl ?_
                  refine w_lload X627 at_700 rfl rfl ?_
                  refine w_lstore X627 at_702 rfl (L' := #[.val (.long q1), .second, .val (.long q2), .second, .val (.long q3), .second, .val (.int p4), .val (.int p5), .val (.long z1), .second, .val (.ref a5), .val (.ref a149), .val (.int z370), .val (.int z373), .val (.int z394), .val (.int z395), .val (.int z398), .val (.int z401), .val (.int z402), .val (.int z403), .val (.int (1 : Int32)), .val (.long z588), .second, .val (.long z628), .second, .val (.int z594), .val (.long z628), .second, .val (.int z596), .val (.long z597), .second]) rfl ?_
                  refine w_lload X627 at_704 rfl rfl ?_
                  refine w_lload X627 at_706 rfl rfl ?_
                  refine w_lcmp_ne X627 at_708 rfl at_709 (by decide) (pcT := 716) (pcF := 712) (by decide) rfl (fun c629 => ?_) (fun c629 => ?_)
                  · refine w_iconst X627 at_716 (v := (0 : Int32)) rfl rfl ?_
                    exact False.elim (c629 (by subst hz628 hz597 hz596 hz594 hz588; rw [hxs582, own_sp2 xs0 _ _ _ _ F0 (own_r19 _ _ hz402).1 (Or.inl c591)]; rw [own_law z1.toInt.toNat (by have := z1.toInt_lt; omega) z1 (by omega) xs0 hx0 _ _ _ _ h19 h20 F0 FT T21 c589]; simp only [gw2, gw1, gw0, if_pos c595, if_pos c598, if_pos c623, if_pos c624]))
                  · refine w_iconst X627 at_712 (v := (1 : Int32)) rfl rfl ?_
                    refine w_goto X627 at_713 (by decide) (pc' := 717) (by decide) ?_
                    exact w_nreturn X627 (t := .boolean) (by simp) at_717 rfl trivial (by decide) (by decide)
              · refine w_iload X593 at_668 rfl rfl ?_
                refine w_bipush X593 at_670 (v := (19 : Int32)) rfl rfl ?_
                refine w_icmp_gt X593 at_672 (by decide) (pcT := 684) (pcF := 675) (by decide) rfl (fun c630 => ?_) (fun c630 => ?_)
                · refine w_iload X593 at_684 rfl rfl ?_
                  refine w_bipush X593 at_686 (v := (21 : Int32)) rfl rfl ?_
                  refine w_icmp_ne X593 at_688 (by decide) (pcT := 700) (pcF := 691) (by decide) rfl (fun c631 => ?_) (fun c631 => ?_)
                  · refine w_lload X593 at_700 rfl rfl ?_
                    refine w_lstore X593 at_702 rfl (L' := #[.val (.long q1), .second, .val (.long q2), .second, .val (.long q3), .second, .val (.int p4), .val (.int p5), .val (.long z1), .second, .val (.ref a5), .val (.ref a149), .val (.int z370), .val (.int z373), .val (.int z394), .val (.int z395), .val (.int z398), .val (.int z401), .val (.int z402), .val (.int z403), .val (.int (1 : Int32)), .val (.long z588), .second, .val (.long z597), .second, .val (.int z594), .val (.long z597), .second, .val (.int z596), .val (.long z597), .second]) rfl ?_
                    refine w_lload X593 at_704 rfl rfl ?_
                    refine w_lload X593 at_706 rfl rfl ?_
                    refine w_lcmp_ne X593 at_708 rfl at_709 (by decide) (pcT := 716) (pcF := 712) (by decide) rfl (fun c632 => ?_) (fun c632 => ?_)
                    · refine w_iconst X593 at_716 (v := (0 : Int32)) rfl rfl ?_
                      exact False.elim (c632 (by subst hz597 hz596 hz594 hz588; rw [hxs582, own_sp2 xs0 _ _ _ _ F0 (own_r19 _ _ hz402).1 (Or.inl c591)]; rw [own_law z1.toInt.toNat (by have := z1.toInt_lt; omega) z1 (by omega) xs0 hx0 _ _ _ _ h19 h20 F0 FT T21 c589]; simp only [gw2, gw1, gw0, if_pos c595, if_pos c598, if_neg c623, if_pos c630, if_neg c631]))
                    · refine w_iconst X593 at_712 (v := (1 : Int32)) rfl rfl ?_
                      refine w_goto X593 at_713 (by decide) (pc' := 717) (by decide) ?_
                      exact w_nreturn X593 (t := .boolean) (by simp) at_717 rfl trivial (by decide) (by decide)
                  · refine w_lload X593 at_691 rfl rfl ?_
                    refine w_iload X593 at_693 rfl rfl ?_
                    refine w_staticVP X593 (rm7 l Z a0 hw z597 z373 h580 n0 X593.size ) (hw _ (List.mem_of_getElem? (i := 49) rfl)) (hw _ (List.mem_of_getElem? (i := 50) rfl)) (hw _ (List.mem_of_getElem? (i := 23) rfl)) (hw _ (List.mem_of_getElem? (i := 51) rfl)) (by decide) (argsL := [(.long z597), (.int z373)]) (rest := []) rfl (lenOf pd_5 rfl) rfl (W := 0) rfl (by decide) (by decide) (by decide) (by decide) at_695 rfl fun T633 X634 => ?_
                    generalize hz635 : (f_step z597 z373) = z635
                    refine w_lstore X634 at_698 rfl (L' := #[.val (.long q1), .second, .val (.long q2), .second, .val (.long q3), .second, .val (.int p4), .val (.int p5), .val (.long z1), .second, .val (.ref a5), .val (.ref a149), .val (.int z370), .val (.int z373), .val (.int z394), .val (.int z395), .val (.int z398), .val (.int z401), .val (.int z402), .val (.int z403), .val (.int (1 : Int32)), .val (.long z588), .second, .unset, .unset, .val (.int z594), .val (.long z635), .second, .val (.int z596), .val (.long z597), .second]) rfl ?_
                    refine w_lload X634 at_700 rfl rfl ?_
                    refine w_lstore X634 at_702 rfl (L' := #[.val (.long q1), .second, .val (.long q2), .second, .val (.long q3), .second, .val (.int p4), .val (.int p5), .val (.long z1), .second, .val (.ref a5), .val (.ref a149), .val (.int z370), .val (.int z373), .val (.int z394), .val (.int z395), .val (.int z398), .val (.int z401), .val (.int z402), .val (.int z403), .val (.int (1 : Int32)), .val (.long z588), .second, .val (.long z635), .second, .val (.int z594), .val (.long z635), .second, .val (.int z596), .val (.long z597), .second]) rfl ?_
                    refine w_lload X634 at_704 rfl rfl ?_
                    refine w_lload X634 at_706 rfl rfl ?_
                    refine w_lcmp_ne X634 at_708 rfl at_709 (by decide) (pcT := 716) (pcF := 712) (by decide) rfl (fun c636 => ?_) (fun c636 => ?_)
                    · refine w_iconst X634 at_716 (v := (0 : Int32)) rfl rfl ?_
                      exact False.elim (c636 (by subst hz635 hz597 hz596 hz594 hz588; rw [hxs582, own_sp2 xs0 _ _ _ _ F0 (own_r19 _ _ hz402).1 (Or.inl c591)]; rw [own_law z1.toInt.toNat (by have := z1.toInt_lt; omega) z1 (by omega) xs0 hx0 _ _ _ _ h19 h20 F0 FT T21 c589]; simp only [gw2, gw1, gw0, if_pos c595, if_pos c598, if_neg c623, if_pos c630, if_pos c631]))
                    · refine w_iconst X634 at_712 (v := (1 : Int32)) rfl rfl ?_
                      refine w_goto X634 at_713 (by decide) (pc' := 717) (by decide) ?_
                      exact w_nreturn X634 (t := .boolean) (by simp) at_717 rfl trivial (by decide) (by decide)
                · refine w_lload X593 at_675 rfl rfl ?_
                  refine w_iload X593 at_677 rfl rfl ?_
                  refine w_staticVP X593 (rm7 l Z a0 hw z597 z370 h580 n0 X593.size ) (hw _ (List.mem_of_getElem? (i := 49) rfl)) (hw _ (List.mem_of_getElem? (i := 50) rfl)) (hw _ (List.mem_of_getElem? (i := 23) rfl)) (hw _ (List.mem_of_getElem? (i := 51) rfl)) (by decide) (argsL := [(.long z597), (.int z370)]) (rest := []) rfl (lenOf pd_5 rfl) rfl (W := 0) rfl (by decide) (by decide) (by decide) (by decide) at_679 rfl fun T637 X638 => ?_
                  generalize hz639 : (f_step z597 z370) = z639
                  refine w_lstore X638 at_682 rfl (L' := #[.val (.long q1), .second, .val (.long q2), .second, .val (.long q3), .second, .val (.int p4), .val (.int p5), .val (.long z1), .second, .val (.ref a5), .val (.ref a149), .val (.int z370), .val (.int z373), .val (.int z394), .val (.int z395), .val (.int z398), .val (.int z401), .val (.int z402), .val (.int z403), .val (.int (1 : Int32)), .val (.long z588), .second, .unset, .unset, .val (.int z594), .val (.long z639), .second, .val (.int z596), .val (.long z597), .second]) rfl ?_
                  refine w_iload X638 at_684 rfl rfl ?_
                  refine w_bipush X638 at_686 (v := (21 : Int32)) rfl rfl ?_
                  refine w_icmp_ne X638 at_688 (by decide) (pcT := 700) (pcF := 691) (by decide) rfl (fun c640 => ?_) (fun c640 => ?_)
                  · refine w_lload X638 at_700 rfl rfl ?_
                    refine w_lstore X638 at_702 rfl (L' := #[.val (.long q1), .second, .val (.long q2), .second, .val (.long q3), .second, .val (.int p4), .val (.int p5), .val (.long z1), .second, .val (.ref a5), .val (.ref a149), .val (.int z370), .val (.int z373), .val (.int z394), .val (.int z395), .val (.int z398), .val (.int z401), .val (.int z402), .val (.int z403), .val (.int (1 : Int32)), .val (.long z588), .second, .val (.long z639), .second, .val (.int z594), .val (.long z639), .second, .val (.int z596), .val (.long z597), .second]) rfl ?_
                    refine w_lload X638 at_704 rfl rfl ?_
                    refine w_lload X638 at_706 rfl rfl ?_
                    refine w_lcmp_ne X638 at_708 rfl at_709 (by decide) (pcT := 716) (pcF := 712) (by decide) rfl (fun c641 => ?_) (fun c641 => ?_)
                    · refine w_iconst X638 at_716 (v := (0 : Int32)) rfl rfl ?_
                      exact False.elim (c641 (by subst hz639 hz597 hz596 hz594 hz588; rw [hxs582, own_sp2 xs0 _ _ _ _ F0 (own_r19 _ _ hz402).1 (Or.inl c591)]; rw [own_law z1.toInt.toNat (by have := z1.toInt_lt; omega) z1 (by omega) xs0 hx0 _ _ _ _ h19 h20 F0 FT T21 c589]; simp only [gw2, gw1, gw0, if_pos c595, if_pos c598, if_neg c623, if_neg c630, if_neg c640]))
                    · refine w_iconst X638 at_712 (v := (1 : Int32)) rfl rfl ?_
                      refine w_goto X638 at_713 (by decide) (pc' := 717) (by decide) ?_
                      exact w_nreturn X638 (t := .boolean) (by simp) at_717 rfl trivial (by decide) (by decide)
                  · refine w_lload X638 at_691 rfl rfl ?_
                    refine w_iload X638 at_693 rfl rfl ?_
                    refine w_staticVP X638 (rm7 l Z a0 hw z639 z373 h580 n0 X638.size ) (hw _ (List.mem_of_getElem? (i := 49) rfl)) (hw _ (List.mem_of_getElem? (i := 50) rfl)) (hw _ (List.mem_of_getElem? (i := 23) rfl)) (hw _ (List.mem_of_getElem? (i := 51) rfl)) (by decide) (argsL := [(.long z639), (.int z373)]) (rest := []) rfl (lenOf pd_5 rfl) rfl (W := 0) rfl (by decide) (by decide) (by decide) (by decide) at_695 rfl fun T642 X643 => ?_
                    generalize hz644 : (f_step z639 z373) = z644
                    refine w_lstore X643 at_698 rfl (L' := #[.val (.long q1), .second, .val (.long q2), .second, .val (.long q3), .second, .val (.int p4), .val (.int p5), .val (.long z1), .second, .val (.ref a5), .val (.ref a149), .val (.int z370), .val (.int z373), .val (.int z394), .val (.int z395), .val (.int z398), .val (.int z401), .val (.int z402), .val (.int z403), .val (.int (1 : Int32)), .val (.long z588), .second, .unset, .unset, .val (.int z594), .val (.long z644), .second, .val (.int z596), .val (.long z597), .second]) rfl ?_
                    refine w_lload X643 at_700 rfl rfl ?_
                    refine w_lstore X643 at_702 rfl (L' := #[.val (.long q1), .second, .val (.long q2), .second, .val (.long q3), .second, .val (.int p4), .val (.int p5), .val (.long z1), .second, .val (.ref a5), .val (.ref a149), .val (.int z370), .val (.int z373), .val (.int z394), .val (.int z395), .val (.int z398), .val (.int z401), .val (.int z402), .val (.int z403), .val (.int (1 : Int32)), .val (.long z588), .second, .val (.long z644), .second, .val (.int z594), .val (.long z644), .second, .val (.int z596), .val (.long z597), .second]) rfl ?_
                    refine w_lload X643 at_704 rfl rfl ?_
                    refine w_lload X643 at_706 rfl rfl ?_
                    refine w_lcmp_ne X643 at_708 rfl at_709 (by decide) (pcT := 716) (pcF := 712) (by decide) rfl (fun c645 => ?_) (fun c645 => ?_)
                    · refine w_iconst X643 at_716 (v := (0 : Int32)) rfl rfl ?_
                      exact False.elim (c645 (by subst hz644 hz639 hz597 hz596 hz594 hz588; rw [hxs582, own_sp2 xs0 _ _ _ _ F0 (own_r19 _ _ hz402).1 (Or.inl c591)]; rw [own_law z1.toInt.toNat (by have := z1.toInt_lt; omega) z1 (by omega) xs0 hx0 _ _ _ _ h19 h20 F0 FT T21 c589]; simp only [gw2, gw1, gw0, if_pos c595, if_pos c598, if_neg c623, if_neg c630, if_pos c640]))
                    · refine w_iconst X643 at_712 (v := (1 : Int32)) rfl rfl ?_
                      refine w_goto X643 at_713 (by decide) (pc' := 717) (by decide) ?_
                      exact w_nreturn X643 (t := .boolean) (by simp) at_717 rfl trivial (by decide) (by decide)
          · refine w_lconst X593 at_613 (v := (0 : Int64)) rfl rfl ?_
            refine w_lstore X593 at_614 rfl (L' := #[.val (.long q1), .second, .val (.long q2), .second, .val (.long q3), .second, .val (.int p4), .val (.int p5), .val (.long z1), .second, .val (.ref a5), .val (.ref a149), .val (.int z370), .val (.int z373), .val (.int z394), .val (.int z395), .val (.int z398), .val (.int z401), .val (.int z402), .val (.int z403), .val (.int (1 : Int32)), .val (.long z588), .second, .unset, .unset, .val (.int z594), .val (.long (0 : Int64)), .second, .unset, .unset, .unset]) rfl ?_
            refine w_goto X593 at_616 (by decide) (pc' := 661) (by decide) ?_
            refine w_iload X593 at_661 rfl rfl ?_
            refine w_bipush X593 at_663 (v := (20 : Int32)) rfl rfl ?_
            refine w_icmp_lt X593 at_665 (by decide) (pcT := 684) (pcF := 668) (by decide) rfl (fun c646 => ?_) (fun c646 => ?_)
            · refine w_iload X593 at_684 rfl rfl ?_
              refine w_bipush X593 at_686 (v := (21 : Int32)) rfl rfl ?_
              refine w_icmp_ne X593 at_688 (by decide) (pcT := 700) (pcF := 691) (by decide) rfl (fun c647 => ?_) (fun c647 => ?_)
              · refine w_lload X593 at_700 rfl rfl ?_
                refine w_lstore X593 at_702 rfl (L' := #[.val (.long q1), .second, .val (.long q2), .second, .val (.long q3), .second, .val (.int p4), .val (.int p5), .val (.long z1), .second, .val (.ref a5), .val (.ref a149), .val (.int z370), .val (.int z373), .val (.int z394), .val (.int z395), .val (.int z398), .val (.int z401), .val (.int z402), .val (.int z403), .val (.int (1 : Int32)), .val (.long z588), .second, .val (.long (0 : Int64)), .second, .val (.int z594), .val (.long (0 : Int64)), .second, .unset, .unset, .unset]) rfl ?_
                refine w_lload X593 at_704 rfl rfl ?_
                refine w_lload X593 at_706 rfl rfl ?_
                refine w_lcmp_ne X593 at_708 rfl at_709 (by decide) (pcT := 716) (pcF := 712) (by decide) rfl (fun c648 => ?_) (fun c648 => ?_)
                · refine w_iconst X593 at_716 (v := (0 : Int32)) rfl rfl ?_
                  exact False.elim (c648 (by subst hz594 hz588; rw [hxs582, own_sp2 xs0 _ _ _ _ F0 (own_r19 _ _ hz402).1 (Or.inl c591)]; rw [own_law z1.toInt.toNat (by have := z1.toInt_lt; omega) z1 (by omega) xs0 hx0 _ _ _ _ h19 h20 F0 FT T21 c589]; simp only [gw2, gw1, gw0, if_neg c595, if_pos c646, if_neg c647]))
                · refine w_iconst X593 at_712 (v := (1 : Int32)) rfl rfl ?_
                  refine w_goto X593 at_713 (by decide) (pc' := 717) (by decide) ?_
                  exact w_nreturn X593 (t := .boolean) (by simp) at_717 rfl trivial (by decide) (by decide)
              · refine w_lload X593 at_691 rfl rfl ?_
                refine w_iload X593 at_693 rfl rfl ?_
                refine w_staticVP X593 (rm7 l Z a0 hw (0 : Int64) z373 h580 n0 X593.size ) (hw _ (List.mem_of_getElem? (i := 49) rfl)) (hw _ (List.mem_of_getElem? (i := 50) rfl)) (hw _ (List.mem_of_getElem? (i := 23) rfl)) (hw _ (List.mem_of_getElem? (i := 51) rfl)) (by decide) (argsL := [(.long (0 : Int64)), (.int z373)]) (rest := []) rfl (lenOf pd_5 rfl) rfl (W := 0) rfl (by decide) (by decide) (by decide) (by decide) at_695 rfl fun T649 X650 => ?_
                generalize hz651 : (f_step (0 : Int64) z373) = z651
                refine w_lstore X650 at_698 rfl (L' := #[.val (.long q1), .second, .val (.long q2), .second, .val (.long q3), .second, .val (.int p4), .val (.int p5), .val (.long z1), .second, .val (.ref a5), .val (.ref a149), .val (.int z370), .val (.int z373), .val (.int z394), .val (.int z395), .val (.int z398), .val (.int z401), .val (.int z402), .val (.int z403), .val (.int (1 : Int32)), .val (.long z588), .second, .unset, .unset, .val (.int z594), .val (.long z651), .second, .unset, .unset, .unset]) rfl ?_
                refine w_lload X650 at_700 rfl rfl ?_
                refine w_lstore X650 at_702 rfl (L' := #[.val (.long q1), .second, .val (.long q2), .second, .val (.long q3), .second, .val (.int p4), .val (.int p5), .val (.long z1), .second, .val (.ref a5), .val (.ref a149), .val (.int z370), .val (.int z373), .val (.int z394), .val (.int z395), .val (.int z398), .val (.int z401), .val (.int z402), .val (.int z403), .val (.int (1 : Int32)), .val (.long z588), .second, .val (.long z651), .second, .val (.int z594), .val (.long z651), .second, .unset, .unset, .unset]) rfl ?_
                refine w_lload X650 at_704 rfl rfl ?_
                refine w_lload X650 at_706 rfl rfl ?_
                refine w_lcmp_ne X650 at_708 rfl at_709 (by decide) (pcT := 716) (pcF := 712) (by decide) rfl (fun c652 => ?_) (fun c652 => ?_)
                · refine w_iconst X650 at_716 (v := (0 : Int32)) rfl rfl ?_
                  exact False.elim (c652 (by subst hz651 hz594 hz588; rw [hxs582, own_sp2 xs0 _ _ _ _ F0 (own_r19 _ _ hz402).1 (Or.inl c591)]; rw [own_law z1.toInt.toNat (by have := z1.toInt_lt; omega) z1 (by omega) xs0 hx0 _ _ _ _ h19 h20 F0 FT T21 c589]; simp only [gw2, gw1, gw0, if_neg c595, if_pos c646, if_pos c647]))
                · refine w_iconst X650 at_712 (v := (1 : Int32)) rfl rfl ?_
                  refine w_goto X650 at_713 (by decide) (pc' := 717) (by decide) ?_
                  exact w_nreturn X650 (t := .boolean) (by simp) at_717 rfl trivial (by decide) (by decide)
            · refine w_iload X593 at_668 rfl rfl ?_
              refine w_bipush X593 at_670 (v := (19 : Int32)) rfl rfl ?_
              refine w_icmp_gt X593 at_672 (by decide) (pcT := 684) (pcF := 675) (by decide) rfl (fun c653 => ?_) (fun c653 => ?_)
              · refine w_iload X593 at_684 rfl rfl ?_
                refine w_bipush X593 at_686 (v := (21 : Int32)) rfl rfl ?_
                refine w_icmp_ne X593 at_688 (by decide) (pcT := 700) (pcF := 691) (by decide) rfl (fun c654 => ?_) (fun c654 => ?_)
                · refine w_lload X593 at_700 rfl rfl ?_
                  refine w_lstore X593 at_702 rfl (L' := #[.val (.long q1), .second, .val (.long q2), .second, .val (.long q3), .second, .val (.int p4), .val (.int p5), .val (.long z1), .second, .val (.ref a5), .val (.ref a149), .val (.int z370), .val (.int z373), .val (.int z394), .val (.int z395), .val (.int z398), .val (.int z401), .val (.int z402), .val (.int z403), .val (.int (1 : Int32)), .val (.long z588), .second, .val (.long (0 : Int64)), .second, .val (.int z594), .val (.long (0 : Int64)), .second, .unset, .unset, .unset]) rfl ?_
                  refine w_lload X593 at_704 rfl rfl ?_
                  refine w_lload X593 at_706 rfl rfl ?_
                  refine w_lcmp_ne X593 at_708 rfl at_709 (by decide) (pcT := 716) (pcF := 712) (by decide) rfl (fun c655 => ?_) (fun c655 => ?_)
                  · refine w_iconst X593 at_716 (v := (0 : Int32)) rfl rfl ?_
                    exact False.elim (c655 (by subst hz594 hz588; rw [hxs582, own_sp2 xs0 _ _ _ _ F0 (own_r19 _ _ hz402).1 (Or.inl c591)]; rw [own_law z1.toInt.toNat (by have := z1.toInt_lt; omega) z1 (by omega) xs0 hx0 _ _ _ _ h19 h20 F0 FT T21 c589]; simp only [gw2, gw1, gw0, if_neg c595, if_neg c646, if_pos c653, if_neg c654]))
                  · refine w_iconst X593 at_712 (v := (1 : Int32)) rfl rfl ?_
                    refine w_goto X593 at_713 (by decide) (pc' := 717) (by decide) ?_
                    exact w_nreturn X593 (t := .boolean) (by simp) at_717 rfl trivial (by decide) (by decide)
                · refine w_lload X593 at_691 rfl rfl ?_
                  refine w_iload X593 at_693 rfl rfl ?_
                  refine w_staticVP X593 (rm7 l Z a0 hw (0 : Int64) z373 h580 n0 X593.size ) (hw _ (List.mem_of_getElem? (i := 49) rfl)) (hw _ (List.mem_of_getElem? (i := 50) rfl)) (hw _ (List.mem_of_getElem? (i := 23) rfl)) (hw _ (List.mem_of_getElem? (i := 51) rfl)) (by decide) (argsL := [(.long (0 : Int64)), (.int z373)]) (rest := []) rfl (lenOf pd_5 rfl) rfl (W := 0) rfl (by decide) (by decide) (by decide) (by decide) at_695 rfl fun T656 X657 => ?_
                  generalize hz658 : (f_step (0 : Int64) z373) = z658
                  refine w_lstore X657 at_698 rfl (L' := #[.val (.long q1), .second, .val (.long q2), .second, .val (.long q3), .second, .val (.int p4), .val (.int p5), .val (.long z1), .second, .val (.ref a5), .val (.ref a149), .val (.int z370), .val (.int z373), .val (.int z394), .val (.int z395), .val (.int z398), .val (.int z401), .val (.int z402), .val (.int z403), .val (.int (1 : Int32)), .val (.long z588), .second, .unset, .unset, .val (.int z594), .val (.long z658), .second, .unset, .unset, .unset]) rfl ?_
                  refine w_lload X657 at_700 rfl rfl ?_
                  refine w_lstore X657 at_702 rfl (L' := #[.val (.long q1), .second, .val (.long q2), .second, .val (.long q3), .second, .val (.int p4), .val (.int p5), .val (.long z1), .second, .val (.ref a5), .val (.ref a149), .val (.int z370), .val (.int z373), .val (.int z394), .val (.int z395), .val (.int z398), .val (.int z401), .val (.int z402), .val (.int z403), .val (.int (1 : Int32)), .val (.long z588), .second, .val (.long z658), .second, .val (.int z594), .val (.long z658), .second, .unset, .unset, .unset]) rfl ?_
                  refine w_lload X657 at_704 rfl rfl ?_
                  refine w_lload X657 at_706 rfl rfl ?_
                  refine w_lcmp_ne X657 at_708 rfl at_709 (by decide) (pcT := 716) (pcF := 712) (by decide) rfl (fun c659 => ?_) (fun c659 => ?_)
                  · refine w_iconst X657 at_716 (v := (0 : Int32)) rfl rfl ?_
                    exact False.elim (c659 (by subst hz658 hz594 hz588; rw [hxs582, own_sp2 xs0 _ _ _ _ F0 (own_r19 _ _ hz402).1 (Or.inl c591)]; rw [own_law z1.toInt.toNat (by have := z1.toInt_lt; omega) z1 (by omega) xs0 hx0 _ _ _ _ h19 h20 F0 FT T21 c589]; simp only [gw2, gw1, gw0, if_neg c595, if_neg c646, if_pos c653, if_pos c654]))
                  · refine w_iconst X657 at_712 (v := (1 : Int32)) rfl rfl ?_
                    refine w_goto X657 at_713 (by decide) (pc' := 717) (by decide) ?_
                    exact w_nreturn X657 (t := .boolean) (by simp) at_717 rfl trivial (by decide) (by decide)
              · refine w_lload X593 at_675 rfl rfl ?_
                refine w_iload X593 at_677 rfl rfl ?_
                refine w_staticVP X593 (rm7 l Z a0 hw (0 : Int64) z370 h580 n0 X593.size ) (hw _ (List.mem_of_getElem? (i := 49) rfl)) (hw _ (List.mem_of_getElem? (i := 50) rfl)) (hw _ (List.mem_of_getElem? (i := 23) rfl)) (hw _ (List.mem_of_getElem? (i := 51) rfl)) (by decide) (argsL := [(.long (0 : Int64)), (.int z370)]) (rest := []) rfl (lenOf pd_5 rfl) rfl (W := 0) rfl (by decide) (by decide) (by decide) (by decide) at_679 rfl fun T660 X661 => ?_
                generalize hz662 : (f_step (0 : Int64) z370) = z662
                refine w_lstore X661 at_682 rfl (L' := #[.val (.long q1), .second, .val (.long q2), .second, .val (.long q3), .second, .val (.int p4), .val (.int p5), .val (.long z1), .second, .val (.ref a5), .val (.ref a149), .val (.int z370), .val (.int z373), .val (.int z394), .val (.int z395), .val (.int z398), .val (.int z401), .val (.int z402), .val (.int z403), .val (.int (1 : Int32)), .val (.long z588), .second, .unset, .unset, .val (.int z594), .val (.long z662), .second, .unset, .unset, .unset]) rfl ?_
                refine w_iload X661 at_684 rfl rfl ?_
                refine w_bipush X661 at_686 (v := (21 : Int32)) rfl rfl ?_
                refine w_icmp_ne X661 at_688 (by decide) (pcT := 700) (pcF := 691) (by decide) rfl (fun c663 => ?_) (fun c663 => ?_)
                · refine w_lload X661 at_700 rfl rfl ?_
                  refine w_lstore X661 at_702 rfl (L' := #[.val (.long q1), .second, .val (.long q2), .second, .val (.long q3), .second, .val (.int p4), .val (.int p5), .val (.long z1), .second, .val (.ref a5), .val (.ref a149), .val (.int z370), .val (.int z373), .val (.int z394), .val (.int z395), .val (.int z398), .val (.int z401), .val (.int z402), .val (.int z403), .val (.int (1 : Int32)), .val (.long z588), .second, .val (.long z662), .second, .val (.int z594), .val (.long z662), .second, .unset, .unset, .unset]) rfl ?_
                  refine w_lload X661 at_704 rfl rfl ?_
                  refine w_lload X661 at_706 rfl rfl ?_
                  refine w_lcmp_ne X661 at_708 rfl at_709 (by decide) (pcT := 716) (pcF := 712) (by decide) rfl (fun c664 => ?_) (fun c664 => ?_)
                  · refine w_iconst X661 at_716 (v := (0 : Int32)) rfl rfl ?_
                    exact False.elim (c664 (by subst hz662 hz594 hz588; rw [hxs582, own_sp2 xs0 _ _ _ _ F0 (own_r19 _ _ hz402).1 (Or.inl c591)]; rw [own_law z1.toInt.toNat (by have := z1.toInt_lt; omega) z1 (by omega) xs0 hx0 _ _ _ _ h19 h20 F0 FT T21 c589]; simp only [gw2, gw1, gw0, if_neg c595, if_neg c646, if_neg c653, if_neg c663]))
                  · refine w_iconst X661 at_712 (v := (1 : Int32)) rfl rfl ?_
                    refine w_goto X661 at_713 (by decide) (pc' := 717) (by decide) ?_
                    exact w_nreturn X661 (t := .boolean) (by simp) at_717 rfl trivial (by decide) (by decide)
                · refine w_lload X661 at_691 rfl rfl ?_
                  refine w_iload X661 at_693 rfl rfl ?_
                  refine w_staticVP X661 (rm7 l Z a0 hw z662 z373 h580 n0 X661.size ) (hw _ (List.mem_of_getElem? (i := 49) rfl)) (hw _ (List.mem_of_getElem? (i := 50) rfl)) (hw _ (List.mem_of_getElem? (i := 23) rfl)) (hw _ (List.mem_of_getElem? (i := 51) rfl)) (by decide) (argsL := [(.long z662), (.int z373)]) (rest := []) rfl (lenOf pd_5 rfl) rfl (W := 0) rfl (by decide) (by decide) (by decide) (by decide) at_695 rfl fun T665 X666 => ?_
                  generalize hz667 : (f_step z662 z373) = z667
                  refine w_lstore X666 at_698 rfl (L' := #[.val (.long q1), .second, .val (.long q2), .second, .val (.long q3), .second, .val (.int p4), .val (.int p5), .val (.long z1), .second, .val (.ref a5), .val (.ref a149), .val (.int z370), .val (.int z373), .val (.int z394), .val (.int z395), .val (.int z398), .val (.int z401), .val (.int z402), .val (.int z403), .val (.int (1 : Int32)), .val (.long z588), .second, .unset, .unset, .val (.int z594), .val (.long z667), .second, .unset, .unset, .unset]) rfl ?_
                  refine w_lload X666 at_700 rfl rfl ?_
                  refine w_lstore X666 at_702 rfl (L' := #[.val (.long q1), .second, .val (.long q2), .second, .val (.long q3), .second, .val (.int p4), .val (.int p5), .val (.long z1), .second, .val (.ref a5), .val (.ref a149), .val (.int z370), .val (.int z373), .val (.int z394), .val (.int z395), .val (.int z398), .val (.int z401), .val (.int z402), .val (.int z403), .val (.int (1 : Int32)), .val (.long z588), .second, .val (.long z667), .second, .val (.int z594), .val (.long z667), .second, .unset, .unset, .unset]) rfl ?_
                  refine w_lload X666 at_704 rfl rfl ?_
                  refine w_lload X666 at_706 rfl rfl ?_
                  refine w_lcmp_ne X666 at_708 rfl at_709 (by decide) (pcT := 716) (pcF := 712) (by decide) rfl (fun c668 => ?_) (fun c668 => ?_)
                  · refine w_iconst X666 at_716 (v := (0 : Int32)) rfl rfl ?_
                    exact False.elim (c668 (by subst hz667 hz662 hz594 hz588; rw [hxs582, own_sp2 xs0 _ _ _ _ F0 (own_r19 _ _ hz402).1 (Or.inl c591)]; rw [own_law z1.toInt.toNat (by have := z1.toInt_lt; omega) z1 (by omega) xs0 hx0 _ _ _ _ h19 h20 F0 FT T21 c589]; simp only [gw2, gw1, gw0, if_neg c595, if_neg c646, if_neg c653, if_pos c663]))
                  · refine w_iconst X666 at_712 (v := (1 : Int32)) rfl rfl ?_
                    refine w_goto X666 at_713 (by decide) (pc' := 717) (by decide) ?_
                    exact w_nreturn X666 (t := .boolean) (by simp) at_717 rfl trivial (by decide) (by decide)
        · refine w_iload X587 at_582 rfl rfl ?_
          refine w_iload X587 at_584 rfl rfl ?_
          refine w_icmp_ge X587 at_586 (by decide) (pcT := 597) (pcF := 589) (by decide) rfl (fun c669 => ?_) (fun c669 => ?_)
          · refine w_iload X587 at_597 rfl rfl ?_
            refine w_bipush X587 at_599 (v := (19 : Int32)) rfl rfl ?_
            refine w_staticVP X587 (rm3 l Z a0 hw z401 (19 : Int32) h580 n0 X587.size ) (hw _ (List.mem_of_getElem? (i := 30) rfl)) (hw _ (List.mem_of_getElem? (i := 31) rfl)) (hw _ (List.mem_of_getElem? (i := 32) rfl)) (hw _ (List.mem_of_getElem? (i := 33) rfl)) (by decide) (argsL := [(.int z401), (.int (19 : Int32))]) (rest := []) rfl (lenOf pd_3 rfl) rfl (W := 0) rfl (by decide) (by decide) (by decide) (by decide) at_601 rfl fun T670 X671 => ?_
            generalize hz672 : (f_min z401 (19 : Int32)) = z672
            refine w_istore X671 at_604 rfl (L' := #[.val (.long q1), .second, .val (.long q2), .second, .val (.long q3), .second, .val (.int p4), .val (.int p5), .val (.long z1), .second, .val (.ref a5), .val (.ref a149), .val (.int z370), .val (.int z373), .val (.int z394), .val (.int z395), .val (.int z398), .val (.int z401), .val (.int z402), .val (.int z403), .val (.int (1 : Int32)), .val (.long z588), .second, .unset, .unset, .val (.int z672), .unset, .unset, .unset, .unset, .unset]) rfl ?_
            refine w_iload X671 at_606 rfl rfl ?_
            refine w_iload X671 at_608 rfl rfl ?_
            refine w_icmp_lt X671 at_610 (by decide) (pcT := 619) (pcF := 613) (by decide) rfl (fun c673 => ?_) (fun c673 => ?_)
            · refine w_iload X671 at_619 rfl rfl ?_
              refine w_iload X671 at_621 rfl rfl ?_
              refine w_isub X671 at_623 rfl ?_
              generalize hz674 : (z672 - z398) = z674
              refine w_istore X671 at_624 rfl (L' := #[.val (.long q1), .second, .val (.long q2), .second, .val (.long q3), .second, .val (.int p4), .val (.int p5), .val (.long z1), .second, .val (.ref a5), .val (.ref a149), .val (.int z370), .val (.int z373), .val (.int z394), .val (.int z395), .val (.int z398), .val (.int z401), .val (.int z402), .val (.int z403), .val (.int (1 : Int32)), .val (.long z588), .second, .unset, .unset, .val (.int z672), .unset, .unset, .val (.int z674), .unset, .unset]) rfl ?_
              refine w_lload X671 at_626 rfl rfl ?_
              refine w_aload X671 at_628 rfl rfl rfl ?_
              refine w_bipush X671 at_630 (v := (19 : Int32)) rfl rfl ?_
              refine w_iload X671 at_632 rfl rfl ?_
              refine w_isub X671 at_634 rfl ?_
              refine w_laload X671 f583 (own_i0 _ _ _ F0 hz672 c673) rfl (getL (own_i1 _ _ _ F0 hz672 c673)) at_635 rfl ?_
              refine w_ldiv X671 at_636 rfl (own_nz _ (own_i1 _ _ _ F0 hz672 c673)) ?_
              generalize hz675 : (z1 / (P10.getD (((19 : Int32) - z672)).toNatClampNeg 0)) = z675
              refine w_lstore X671 at_637 rfl (L' := #[.val (.long q1), .second, .val (.long q2), .second, .val (.long q3), .second, .val (.int p4), .val (.int p5), .val (.long z1), .second, .val (.ref a5), .val (.ref a149), .val (.int z370), .val (.int z373), .val (.int z394), .val (.int z395), .val (.int z398), .val (.int z401), .val (.int z402), .val (.int z403), .val (.int (1 : Int32)), .val (.long z588), .second, .unset, .unset, .val (.int z672), .unset, .unset, .val (.int z674), .val (.long z675), .second]) rfl ?_
              refine w_iload X671 at_639 rfl rfl ?_
              refine w_bipush X671 at_641 (v := (19 : Int32)) rfl rfl ?_
              refine w_icmp_ne X671 at_643 (by decide) (pcT := 651) (pcF := 646) (by decide) rfl (fun c676 => ?_) (fun c676 => ?_)
              · refine w_lload X671 at_651 rfl rfl ?_
                refine w_aload X671 at_653 rfl rfl rfl ?_
                refine w_iload X671 at_655 rfl rfl ?_
                refine w_laload X671 f583 (by rw [← hz674]; exact own_j0 _ _ _ F0 hz672 c673) rfl (getL (by rw [← hz674]; exact own_j1 _ _ _ F0 hz672 c673 (by rw [hz674]; exact c676))) at_657 rfl ?_
                refine w_lrem X671 at_658 rfl (own_nz _ (by rw [← hz674]; exact own_j1 _ _ _ F0 hz672 c673 (by rw [hz674]; exact c676))) ?_
                generalize hz677 : (z675 % (P10.getD (z674).toNatClampNeg 0)) = z677
                refine w_lstore X671 at_659 rfl (L' := #[.val (.long q1), .second, .val (.long q2), .second, .val (.long q3), .second, .val (.int p4), .val (.int p5), .val (.long z1), .second, .val (.ref a5), .val (.ref a149), .val (.int z370), .val (.int z373), .val (.int z394), .val (.int z395), .val (.int z398), .val (.int z401), .val (.int z402), .val (.int z403), .val (.int (1 : Int32)), .val (.long z588), .second, .unset, .unset, .val (.int z672), .val (.long z677), .second, .val (.int z674), .val (.long z675), .second]) rfl ?_
                refine w_iload X671 at_661 rfl rfl ?_
                refine w_bipush X671 at_663 (v := (20 : Int32)) rfl rfl ?_
                refine w_icmp_lt X671 at_665 (by decide) (pcT := 684) (pcF := 668) (by decide) rfl (fun c678 => ?_) (fun c678 => ?_)
                · refine w_iload X671 at_684 rfl rfl ?_
                  refine w_bipush X671 at_686 (v := (21 : Int32)) rfl rfl ?_
                  refine w_icmp_ne X671 at_688 (by decide) (pcT := 700) (pcF := 691) (by decide) rfl (fun c679 => ?_) (fun c679 => ?_)
                  · refine w_lload X671 at_700 rfl rfl ?_
                    refine w_lstore X671 at_702 rfl (L' := #[.val (.long q1), .second, .val (.long q2), .second, .val (.long q3), .second, .val (.int p4), .val (.int p5), .val (.long z1), .second, .val (.ref a5), .val (.ref a149), .val (.int z370), .val (.int z373), .val (.int z394), .val (.int z395), .val (.int z398), .val (.int z401), .val (.int z402), .val (.int z403), .val (.int (1 : Int32)), .val (.long z588), .second, .val (.long z677), .second, .val (.int z672), .val (.long z677), .second, .val (.int z674), .val (.long z675), .second]) rfl ?_
                    refine w_lload X671 at_704 rfl rfl ?_
                    refine w_lload X671 at_706 rfl rfl ?_
                    refine w_lcmp_ne X671 at_708 rfl at_709 (by decide) (pcT := 716) (pcF := 712) (by decide) rfl (fun c680 => ?_) (fun c680 => ?_)
                    · refine w_iconst X671 at_716 (v := (0 : Int32)) rfl rfl ?_
                      exact False.elim (c680 (by subst hz677 hz675 hz674 hz672 hz588; rw [hxs582, own_sp2 xs0 _ _ _ _ F0 (own_r19 _ _ hz402).1 (Or.inr c669)]; rw [own_law z1.toInt.toNat (by have := z1.toInt_lt; omega) z1 (by omega) xs0 hx0 _ _ _ _ h19 h20 F0 FT T21 c589]; simp only [gw2, gw1, gw0, if_pos c673, if_neg c676, if_pos c678, if_neg c679]))
                    · refine w_iconst X671 at_712 (v := (1 : Int32)) rfl rfl ?_
                      refine w_goto X671 at_713 (by decide) (pc' := 717) (by decide) ?_
                      exact w_nreturn X671 (t := .boolean) (by simp) at_717 rfl trivial (by decide) (by decide)
                  · refine w_lload X671 at_691 rfl rfl ?_
                    refine w_iload X671 at_693 rfl rfl ?_
                    refine w_staticVP X671 (rm7 l Z a0 hw z677 z373 h580 n0 X671.size ) (hw _ (List.mem_of_getElem? (i := 49) rfl)) (hw _ (List.mem_of_getElem? (i := 50) rfl)) (hw _ (List.mem_of_getElem? (i := 23) rfl)) (hw _ (List.mem_of_getElem? (i := 51) rfl)) (by decide) (argsL := [(.long z677), (.int z373)]) (rest := []) rfl (lenOf pd_5 rfl) rfl (W := 0) rfl (by decide) (by decide) (by decide) (by decide) at_695 rfl fun T681 X682 => ?_
                    generalize hz683 : (f_step z677 z373) = z683
                    refine w_lstore X682 at_698 rfl (L' := #[.val (.long q1), .second, .val (.long q2), .second, .val (.long q3), .second, .val (.int p4), .val (.int p5), .val (.long z1), .second, .val (.ref a5), .val (.ref a149), .val (.int z370), .val (.int z373), .val (.int z394), .val (.int z395), .val (.int z398), .val (.int z401), .val (.int z402), .val (.int z403), .val (.int (1 : Int32)), .val (.long z588), .second, .unset, .unset, .val (.int z672), .val (.long z683), .second, .val (.int z674), .val (.long z675), .second]) rfl ?_
                    refine w_lload X682 at_700 rfl rfl ?_
                    refine w_lstore X682 at_702 rfl (L' := #[.val (.long q1), .second, .val (.long q2), .second, .val (.long q3), .second, .val (.int p4), .val (.int p5), .val (.long z1), .second, .val (.ref a5), .val (.ref a149), .val (.int z370), .val (.int z373), .val (.int z394), .val (.int z395), .val (.int z398), .val (.int z401), .val (.int z402), .val (.int z403), .val (.int (1 : Int32)), .val (.long z588), .second, .val (.long z683), .second, .val (.int z672), .val (.long z683), .second, .val (.int z674), .val (.long z675), .second]) rfl ?_
                    refine w_lload X682 at_704 rfl rfl ?_
                    refine w_lload X682 at_706 rfl rfl ?_
                    refine w_lcmp_ne X682 at_708 rfl at_709 (by decide) (pcT := 716) (pcF := 712) (by decide) rfl (fun c684 => ?_) (fun c684 => ?_)
                    · refine w_iconst X682 at_716 (v := (0 : Int32)) rfl rfl ?_
                      exact False.elim (c684 (by subst hz683 hz677 hz675 hz674 hz672 hz588; rw [hxs582, own_sp2 xs0 _ _ _ _ F0 (own_r19 _ _ hz402).1 (Or.inr c669)]; rw [own_law z1.toInt.toNat (by have := z1.toInt_lt; omega) z1 (by omega) xs0 hx0 _ _ _ _ h19 h20 F0 FT T21 c589]; simp only [gw2, gw1, gw0, if_pos c673, if_neg c676, if_pos c678, if_pos c679]))
                    · refine w_iconst X682 at_712 (v := (1 : Int32)) rfl rfl ?_
                      refine w_goto X682 at_713 (by decide) (pc' := 717) (by decide) ?_
                      exact w_nreturn X682 (t := .boolean) (by simp) at_717 rfl trivial (by decide) (by decide)
                · refine w_iload X671 at_668 rfl rfl ?_
                  refine w_bipush X671 at_670 (v := (19 : Int32)) rfl rfl ?_
                  refine w_icmp_gt X671 at_672 (by decide) (pcT := 684) (pcF := 675) (by decide) rfl (fun c685 => ?_) (fun c685 => ?_)
                  · refine w_iload X671 at_684 rfl rfl ?_
                    refine w_bipush X671 at_686 (v := (21 : Int32)) rfl rfl ?_
                    refine w_icmp_ne X671 at_688 (by decide) (pcT := 700) (pcF := 691) (by decide) rfl (fun c686 => ?_) (fun c686 => ?_)
                    · refine w_lload X671 at_700 rfl rfl ?_
                      refine w_lstore X671 at_702 rfl (L' := #[.val (.long q1), .second, .val (.long q2), .second, .val (.long q3), .second, .val (.int p4), .val (.int p5), .val (.long z1), .second, .val (.ref a5), .val (.ref a149), .val (.int z370), .val (.int z373), .val (.int z394), .val (.int z395), .val (.int z398), .val (.int z401), .val (.int z402), .val (.int z403), .val (.int (1 : Int32)), .val (.long z588), .second, .val (.long z677), .second, .val (.int z672), .val (.long z677), .second, .val (.int z674), .val (.long z675), .second]) rfl ?_
                      refine w_lload X671 at_704 rfl rfl ?_
                      refine w_lload X671 at_706 rfl rfl ?_
                      refine w_lcmp_ne X671 at_708 rfl at_709 (by decide) (pcT := 716) (pcF := 712) (by decide) rfl (fun c687 => ?_) (fun c687 => ?_)
                      · refine w_iconst X671 at_716 (v := (0 : Int32)) rfl rfl ?_
                        exact False.elim (c687 (by subst hz677 hz675 hz674 hz672 hz588; rw [hxs582, own_sp2 xs0 _ _ _ _ F0 (own_r19 _ _ hz402).1 (Or.inr c669)]; rw [own_law z1.toInt.toNat (by have := z1.toInt_lt; omega) z1 (by omega) xs0 hx0 _ _ _ _ h19 h20 F0 FT T21 c589]; simp only [gw2, gw1, gw0, if_pos c673, if_neg c676, if_neg c678, if_pos c685, if_neg c686]))
                      · refine w_iconst X671 at_712 (v := (1 : Int32)) rfl rfl ?_
                        refine w_goto X671 at_713 (by decide) (pc' := 717) (by decide) ?_
                        exact w_nreturn X671 (t := .boolean) (by simp) at_717 rfl trivial (by decide) (by decide)
                    · refine w_lload X671 at_691 rfl rfl ?_
                      refine w_iload X671 at_693 rfl rfl ?_
                      refine w_staticVP X671 (rm7 l Z a0 hw z677 z373 h580 n0 X671.size ) (hw _ (List.mem_of_getElem? (i := 49) rfl)) (hw _ (List.mem_of_getElem? (i := 50) rfl)) (hw _ (List.mem_of_getElem? (i := 23) rfl)) (hw _ (List.mem_of_getElem? (i := 51) rfl)) (by decide) (argsL := [(.long z677), (.int z373)]) (rest := []) rfl (lenOf pd_5 rfl) rfl (W := 0) rfl (by decide) (by decide) (by decide) (by decide) at_695 rfl fun T688 X689 => ?_
                      generalize hz690 : (f_step z677 z373) = z690
                      refine w_lstore X689 at_698 rfl (L' := #[.val (.long q1), .second, .val (.long q2), .second, .val (.long q3), .second, .val (.int p4), .val (.int p5), .val (.long z1), .second, .val (.ref a5), .val (.ref a149), .val (.int z370), .val (.int z373), .val (.int z394), .val (.int z395), .val (.int z398), .val (.int z401), .val (.int z402), .val (.int z403), .val (.int (1 : Int32)), .val (.long z588), .second, .unset, .unset, .val (.int z672), .val (.long z690), .second, .val (.int z674), .val (.long z675), .second]) rfl ?_
                      refine w_lload X689 at_700 rfl rfl ?_
                      refine w_lstore X689 at_702 rfl (L' := #[.val (.long q1), .second, .val (.long q2), .second, .val (.long q3), .second, .val (.int p4), .val (.int p5), .val (.long z1), .second, .val (.ref a5), .val (.ref a149), .val (.int z370), .val (.int z373), .val (.int z394), .val (.int z395), .val (.int z398), .val (.int z401), .val (.int z402), .val (.int z403), .val (.int (1 : Int32)), .val (.long z588), .second, .val (.long z690), .second, .val (.int z672), .val (.long z690), .second, .val (.int z674), .val (.long z675), .second]) rfl ?_
                      refine w_lload X689 at_704 rfl rfl ?_
                      refine w_lload X689 at_706 rfl rfl ?_
                      refine w_lcmp_ne X689 at_708 rfl at_709 (by decide) (pcT := 716) (pcF := 712) (by decide) rfl (fun c691 => ?_) (fun c691 => ?_)
                      · refine w_iconst X689 at_716 (v := (0 : Int32)) rfl rfl ?_
                        exact False.elim (c691 (by subst hz690 hz677 hz675 hz674 hz672 hz588; rw [hxs582, own_sp2 xs0 _ _ _ _ F0 (own_r19 _ _ hz402).1 (Or.inr c669)]; rw [own_law z1.toInt.toNat (by have := z1.toInt_lt; omega) z1 (by omega) xs0 hx0 _ _ _ _ h19 h20 F0 FT T21 c589]; simp only [gw2, gw1, gw0, if_pos c673, if_neg c676, if_neg c678, if_pos c685, if_pos c686]))
                      · refine w_iconst X689 at_712 (v := (1 : Int32)) rfl rfl ?_
                        refine w_goto X689 at_713 (by decide) (pc' := 717) (by decide) ?_
                        exact w_nreturn X689 (t := .boolean) (by simp) at_717 rfl trivial (by decide) (by decide)
                  · refine w_lload X671 at_675 rfl rfl ?_
                    refine w_iload X671 at_677 rfl rfl ?_
                    refine w_staticVP X671 (rm7 l Z a0 hw z677 z370 h580 n0 X671.size ) (hw _ (List.mem_of_getElem? (i := 49) rfl)) (hw _ (List.mem_of_getElem? (i := 50) rfl)) (hw _ (List.mem_of_getElem? (i := 23) rfl)) (hw _ (List.mem_of_getElem? (i := 51) rfl)) (by decide) (argsL := [(.long z677), (.int z370)]) (rest := []) rfl (lenOf pd_5 rfl) rfl (W := 0) rfl (by decide) (by decide) (by decide) (by decide) at_679 rfl fun T692 X693 => ?_
                    generalize hz694 : (f_step z677 z370) = z694
                    refine w_lstore X693 at_682 rfl (L' := #[.val (.long q1), .second, .val (.long q2), .second, .val (.long q3), .second, .val (.int p4), .val (.int p5), .val (.long z1), .second, .val (.ref a5), .val (.ref a149), .val (.int z370), .val (.int z373), .val (.int z394), .val (.int z395), .val (.int z398), .val (.int z401), .val (.int z402), .val (.int z403), .val (.int (1 : Int32)), .val (.long z588), .second, .unset, .unset, .val (.int z672), .val (.long z694), .second, .val (.int z674), .val (.long z675), .second]) rfl ?_
                    refine w_iload X693 at_684 rfl rfl ?_
                    refine w_bipush X693 at_686 (v := (21 : Int32)) rfl rfl ?_
                    refine w_icmp_ne X693 at_688 (by decide) (pcT := 700) (pcF := 691) (by decide) rfl (fun c695 => ?_) (fun c695 => ?_)
                    · refine w_lload X693 at_700 rfl rfl ?_
                      refine w_lstore X693 at_702 rfl (L' := #[.val (.long q1), .second, .val (.long q2), .second, .val (.long q3), .second, .val (.int p4), .val (.int p5), .val (.long z1), .second, .val (.ref a5), .val (.ref a149), .val (.int z370), .val (.int z373), .val (.int z394), .val (.int z395), .val (.int z398), .val (.int z401), .val (.int z402), .val (.int z403), .val (.int (1 : Int32)), .val (.long z588), .second, .val (.long z694), .second, .val (.int z672), .val (.long z694), .second, .val (.int z674), .val (.long z675), .second]) rfl ?_
                      refine w_lload X693 at_704 rfl rfl ?_
                      refine w_lload X693 at_706 rfl rfl ?_
                      refine w_lcmp_ne X693 at_708 rfl at_709 (by decide) (pcT := 716) (pcF := 712) (by decide) rfl (fun c696 => ?_) (fun c696 => ?_)
                      · refine w_iconst X693 at_716 (v := (0 : Int32)) rfl rfl ?_
                        exact False.elim (c696 (by subst hz694 hz677 hz675 hz674 hz672 hz588; rw [hxs582, own_sp2 xs0 _ _ _ _ F0 (own_r19 _ _ hz402).1 (Or.inr c669)]; rw [own_law z1.toInt.toNat (by have := z1.toInt_lt; omega) z1 (by omega) xs0 hx0 _ _ _ _ h19 h20 F0 FT T21 c589]; simp only [gw2, gw1, gw0, if_pos c673, if_neg c676, if_neg c678, if_neg c685, if_neg c695]))
                      · refine w_iconst X693 at_712 (v := (1 : Int32)) rfl rfl ?_
                        refine w_goto X693 at_713 (by decide) (pc' := 717) (by decide) ?_
                        exact w_nreturn X693 (t := .boolean) (by simp) at_717 rfl trivial (by decide) (by decide)
                    · refine w_lload X693 at_691 rfl rfl ?_
                      refine w_iload X693 at_693 rfl rfl ?_
                      refine w_staticVP X693 (rm7 l Z a0 hw z694 z373 h580 n0 X693.size ) (hw _ (List.mem_of_getElem? (i := 49) rfl)) (hw _ (List.mem_of_getElem? (i := 50) rfl)) (hw _ (List.mem_of_getElem? (i := 23) rfl)) (hw _ (List.mem_of_getElem? (i := 51) rfl)) (by decide) (argsL := [(.long z694), (.int z373)]) (rest := []) rfl (lenOf pd_5 rfl) rfl (W := 0) rfl (by decide) (by decide) (by decide) (by decide) at_695 rfl fun T697 X698 => ?_
                      generalize hz699 : (f_step z694 z373) = z699
                      refine w_lstore X698 at_698 rfl (L' := #[.val (.long q1), .second, .val (.long q2), .second, .val (.long q3), .second, .val (.int p4), .val (.int p5), .val (.long z1), .second, .val (.ref a5), .val (.ref a149), .val (.int z370), .val (.int z373), .val (.int z394), .val (.int z395), .val (.int z398), .val (.int z401), .val (.int z402), .val (.int z403), .val (.int (1 : Int32)), .val (.long z588), .second, .unset, .unset, .val (.int z672), .val (.long z699), .second, .val (.int z674), .val (.long z675), .second]) rfl ?_
                      refine w_lload X698 at_700 rfl rfl ?_
                      refine w_lstore X698 at_702 rfl (L' := #[.val (.long q1), .second, .val (.long q2), .second, .val (.long q3), .second, .val (.int p4), .val (.int p5), .val (.long z1), .second, .val (.ref a5), .val (.ref a149), .val (.int z370), .val (.int z373), .val (.int z394), .val (.int z395), .val (.int z398), .val (.int z401), .val (.int z402), .val (.int z403), .val (.int (1 : Int32)), .val (.long z588), .second, .val (.long z699), .second, .val (.int z672), .val (.long z699), .second, .val (.int z674), .val (.long z675), .second]) rfl ?_
                      refine w_lload X698 at_704 rfl rfl ?_
                      refine w_lload X698 at_706 rfl rfl ?_
                      refine w_lcmp_ne X698 at_708 rfl at_709 (by decide) (pcT := 716) (pcF := 712) (by decide) rfl (fun c700 => ?_) (fun c700 => ?_)
                      · refine w_iconst X698 at_716 (v := (0 : Int32)) rfl rfl ?_
                        exact False.elim (c700 (by subst hz699 hz694 hz677 hz675 hz674 hz672 hz588; rw [hxs582, own_sp2 xs0 _ _ _ _ F0 (own_r19 _ _ hz402).1 (Or.inr c669)]; rw [own_law z1.toInt.toNat (by have := z1.toInt_lt; omega) z1 (by omega) xs0 hx0 _ _ _ _ h19 h20 F0 FT T21 c589]; simp only [gw2, gw1, gw0, if_pos c673, if_neg c676, if_neg c678, if_neg c685, if_pos c695]))
                      · refine w_iconst X698 at_712 (v := (1 : Int32)) rfl rfl ?_
                        refine w_goto X698 at_713 (by decide) (pc' := 717) (by decide) ?_
                        exact w_nreturn X698 (t := .boolean) (by simp) at_717 rfl trivial (by decide) (by decide)
              · refine w_lload X671 at_646 rfl rfl ?_
                refine w_goto X671 at_648 (by decide) (pc' := 659) (by decide) ?_
                refine w_lstore X671 at_659 rfl (L' := #[.val (.long q1), .second, .val (.long q2), .second, .val (.long q3), .second, .val (.int p4), .val (.int p5), .val (.long z1), .second, .val (.ref a5), .val (.ref a149), .val (.int z370), .val (.int z373), .val (.int z394), .val (.int z395), .val (.int z398), .val (.int z401), .val (.int z402), .val (.int z403), .val (.int (1 : Int32)), .val (.long z588), .second, .unset, .unset, .val (.int z672), .val (.long z675), .second, .val (.int z674), .val (.long z675), .second]) rfl ?_
                refine w_iload X671 at_661 rfl rfl ?_
                refine w_bipush X671 at_663 (v := (20 : Int32)) rfl rfl ?_
                refine w_icmp_lt X671 at_665 (by decide) (pcT := 684) (pcF := 668) (by decide) rfl (fun c701 => ?_) (fun c701 => ?_)
                · refine w_iload X671 at_684 rfl rfl ?_
                  refine w_bipush X671 at_686 (v := (21 : Int32)) rfl rfl ?_
                  refine w_icmp_ne X671 at_688 (by decide) (pcT := 700) (pcF := 691) (by decide) rfl (fun c702 => ?_) (fun c702 => ?_)
                  · refine w_lload X671 at_700 rfl rfl ?_
                    refine w_lstore X671 at_702 rfl (L' := #[.val (.long q1), .second, .val (.long q2), .second, .val (.long q3), .second, .val (.int p4), .val (.int p5), .val (.long z1), .second, .val (.ref a5), .val (.ref a149), .val (.int z370), .val (.int z373), .val (.int z394), .val (.int z395), .val (.int z398), .val (.int z401), .val (.int z402), .val (.int z403), .val (.int (1 : Int32)), .val (.long z588), .second, .val (.long z675), .second, .val (.int z672), .val (.long z675), .second, .val (.int z674), .val (.long z675), .second]) rfl ?_
                    refine w_lload X671 at_704 rfl rfl ?_
                    refine w_lload X671 at_706 rfl rfl ?_
                    refine w_lcmp_ne X671 at_708 rfl at_709 (by decide) (pcT := 716) (pcF := 712) (by decide) rfl (fun c703 => ?_) (fun c703 => ?_)
                    · refine w_iconst X671 at_716 (v := (0 : Int32)) rfl rfl ?_
                      exact False.elim (c703 (by subst hz675 hz674 hz672 hz588; rw [hxs582, own_sp2 xs0 _ _ _ _ F0 (own_r19 _ _ hz402).1 (Or.inr c669)]; rw [own_law z1.toInt.toNat (by have := z1.toInt_lt; omega) z1 (by omega) xs0 hx0 _ _ _ _ h19 h20 F0 FT T21 c589]; simp only [gw2, gw1, gw0, if_pos c673, if_pos c676, if_pos c701, if_neg c702]))
                    · refine w_iconst X671 at_712 (v := (1 : Int32)) rfl rfl ?_
                      refine w_goto X671 at_713 (by decide) (pc' := 717) (by decide) ?_
                      exact w_nreturn X671 (t := .boolean) (by simp) at_717 rfl trivial (by decide) (by decide)
                  · refine w_lload X671 at_691 rfl rfl ?_
                    refine w_iload X671 at_693 rfl rfl ?_
                    refine w_staticVP X671 (rm7 l Z a0 hw z675 z373 h580 n0 X671.size ) (hw _ (List.mem_of_getElem? (i := 49) rfl)) (hw _ (List.mem_of_getElem? (i := 50) rfl)) (hw _ (List.mem_of_getElem? (i := 23) rfl)) (hw _ (List.mem_of_getElem? (i := 51) rfl)) (by decide) (argsL := [(.long z675), (.int z373)]) (rest := []) rfl (lenOf pd_5 rfl) rfl (W := 0) rfl (by decide) (by decide) (by decide) (by decide) at_695 rfl fun T704 X705 => ?_
                    generalize hz706 : (f_step z675 z373) = z706
                    refine w_lstore X705 at_698 rfl (L' := #[.val (.long q1), .second, .val (.long q2), .second, .val (.long q3), .second, .val (.int p4), .val (.int p5), .val (.long z1), .second, .val (.ref a5), .val (.ref a149), .val (.int z370), .val (.int z373), .val (.int z394), .val (.int z395), .val (.int z398), .val (.int z401), .val (.int z402), .val (.int z403), .val (.int (1 : Int32)), .val (.long z588), .second, .unset, .unset, .val (.int z672), .val (.long z706), .second, .val (.int z674), .val (.long z675), .second]) rfl ?_
                    refine w_lload X705 at_700 rfl rfl ?_
                    refine w_lstore X705 at_702 rfl (L' := #[.val (.long q1), .second, .val (.long q2), .second, .val (.long q3), .second, .val (.int p4), .val (.int p5), .val (.long z1), .second, .val (.ref a5), .val (.ref a149), .val (.int z370), .val (.int z373), .val (.int z394), .val (.int z395), .val (.int z398), .val (.int z401), .val (.int z402), .val (.int z403), .val (.int (1 : Int32)), .val (.long z588), .second, .val (.long z706), .second, .val (.int z672), .val (.long z706), .second, .val (.int z674), .val (.long z675), .second]) rfl ?_
                    refine w_lload X705 at_704 rfl rfl ?_
                    refine w_lload X705 at_706 rfl rfl ?_
                    refine w_lcmp_ne X705 at_708 rfl at_709 (by decide) (pcT := 716) (pcF := 712) (by decide) rfl (fun c707 => ?_) (fun c707 => ?_)
                    · refine w_iconst X705 at_716 (v := (0 : Int32)) rfl rfl ?_
                      exact False.elim (c707 (by subst hz706 hz675 hz674 hz672 hz588; rw [hxs582, own_sp2 xs0 _ _ _ _ F0 (own_r19 _ _ hz402).1 (Or.inr c669)]; rw [own_law z1.toInt.toNat (by have := z1.toInt_lt; omega) z1 (by omega) xs0 hx0 _ _ _ _ h19 h20 F0 FT T21 c589]; simp only [gw2, gw1, gw0, if_pos c673, if_pos c676, if_pos c701, if_pos c702]))
                    · refine w_iconst X705 at_712 (v := (1 : Int32)) rfl rfl ?_
                      refine w_goto X705 at_713 (by decide) (pc' := 717) (by decide) ?_
                      exact w_nreturn X705 (t := .boolean) (by simp) at_717 rfl trivial (by decide) (by decide)
                · refine w_iload X671 at_668 rfl rfl ?_
                  refine w_bipush X671 at_670 (v := (19 : Int32)) rfl rfl ?_
                  refine w_icmp_gt X671 at_672 (by decide) (pcT := 684) (pcF := 675) (by decide) rfl (fun c708 => ?_) (fun c708 => ?_)
                  · refine w_iload X671 at_684 rfl rfl ?_
                    refine w_bipush X671 at_686 (v := (21 : Int32)) rfl rfl ?_
                    refine w_icmp_ne X671 at_688 (by decide) (pcT := 700) (pcF := 691) (by decide) rfl (fun c709 => ?_) (fun c709 => ?_)
                    · refine w_lload X671 at_700 rfl rfl ?_
                      refine w_lstore X671 at_702 rfl (L' := #[.val (.long q1), .second, .val (.long q2), .second, .val (.long q3), .second, .val (.int p4), .val (.int p5), .val (.long z1), .second, .val (.ref a5), .val (.ref a149), .val (.int z370), .val (.int z373), .val (.int z394), .val (.int z395), .val (.int z398), .val (.int z401), .val (.int z402), .val (.int z403), .val (.int (1 : Int32)), .val (.long z588), .second, .val (.long z675), .second, .val (.int z672), .val (.long z675), .second, .val (.int z674), .val (.long z675), .second]) rfl ?_
                      refine w_lload X671 at_704 rfl rfl ?_
                      refine w_lload X671 at_706 rfl rfl ?_
                      refine w_lcmp_ne X671 at_708 rfl at_709 (by decide) (pcT := 716) (pcF := 712) (by decide) rfl (fun c710 => ?_) (fun c710 => ?_)
                      · refine w_iconst X671 at_716 (v := (0 : Int32)) rfl rfl ?_
                        exact False.elim (c710 (by subst hz675 hz674 hz672 hz588; rw [hxs582, own_sp2 xs0 _ _ _ _ F0 (own_r19 _ _ hz402).1 (Or.inr c669)]; rw [own_law z1.toInt.toNat (by have := z1.toInt_lt; omega) z1 (by omega) xs0 hx0 _ _ _ _ h19 h20 F0 FT T21 c589]; simp only [gw2, gw1, gw0, if_pos c673, if_pos c676, if_neg c701, if_pos c708, if_neg c709]))
                      · refine w_iconst X671 at_712 (v := (1 : Int32)) rfl rfl ?_
                        refine w_goto X671 at_713 (by decide) (pc' := 717) (by decide) ?_
                        exact w_nreturn X671 (t := .boolean) (by simp) at_717 rfl trivial (by decide) (by decide)
                    · refine w_lload X671 at_691 rfl rfl ?_
                      refine w_iload X671 at_693 rfl rfl ?_
                      refine w_staticVP X671 (rm7 l Z a0 hw z675 z373 h580 n0 X671.size ) (hw _ (List.mem_of_getElem? (i := 49) rfl)) (hw _ (List.mem_of_getElem? (i := 50) rfl)) (hw _ (List.mem_of_getElem? (i := 23) rfl)) (hw _ (List.mem_of_getElem? (i := 51) rfl)) (by decide) (argsL := [(.long z675), (.int z373)]) (rest := []) rfl (lenOf pd_5 rfl) rfl (W := 0) rfl (by decide) (by decide) (by decide) (by decide) at_695 rfl fun T711 X712 => ?_
                      generalize hz713 : (f_step z675 z373) = z713
                      refine w_lstore X712 at_698 rfl (L' := #[.val (.long q1), .second, .val (.long q2), .second, .val (.long q3), .second, .val (.int p4), .val (.int p5), .val (.long z1), .second, .val (.ref a5), .val (.ref a149), .val (.int z370), .val (.int z373), .val (.int z394), .val (.int z395), .val (.int z398), .val (.int z401), .val (.int z402), .val (.int z403), .val (.int (1 : Int32)), .val (.long z588), .second, .unset, .unset, .val (.int z672), .val (.long z713), .second, .val (.int z674), .val (.long z675), .second]) rfl ?_
                      refine w_lload X712 at_700 rfl rfl ?_
                      refine w_lstore X712 at_702 rfl (L' := #[.val (.long q1), .second, .val (.long q2), .second, .val (.long q3), .second, .val (.int p4), .val (.int p5), .val (.long z1), .second, .val (.ref a5), .val (.ref a149), .val (.int z370), .val (.int z373), .val (.int z394), .val (.int z395), .val (.int z398), .val (.int z401), .val (.int z402), .val (.int z403), .val (.int (1 : Int32)), .val (.long z588), .second, .val (.long z713), .second, .val (.int z672), .val (.long z713), .second, .val (.int z674), .val (.long z675), .second]) rfl ?_
                      refine w_lload X712 at_704 rfl rfl ?_
                      refine w_lload X712 at_706 rfl rfl ?_
                      refine w_lcmp_ne X712 at_708 rfl at_709 (by decide) (pcT := 716) (pcF := 712) (by decide) rfl (fun c714 => ?_) (fun c714 => ?_)
                      · refine w_iconst X712 at_716 (v := (0 : Int32)) rfl rfl ?_
                        exact False.elim (c714 (by subst hz713 hz675 hz674 hz672 hz588; rw [hxs582, own_sp2 xs0 _ _ _ _ F0 (own_r19 _ _ hz402).1 (Or.inr c669)]; rw [own_law z1.toInt.toNat (by have := z1.toInt_lt; omega) z1 (by omega) xs0 hx0 _ _ _ _ h19 h20 F0 FT T21 c589]; simp only [gw2, gw1, gw0, if_pos c673, if_pos c676, if_neg c701, if_pos c708, if_pos c709]))
                      · refine w_iconst X712 at_712 (v := (1 : Int32)) rfl rfl ?_
                        refine w_goto X712 at_713 (by decide) (pc' := 717) (by decide) ?_
                        exact w_nreturn X712 (t := .boolean) (by simp) at_717 rfl trivial (by decide) (by decide)
                  · refine w_lload X671 at_675 rfl rfl ?_
                    refine w_iload X671 at_677 rfl rfl ?_
                    refine w_staticVP X671 (rm7 l Z a0 hw z675 z370 h580 n0 X671.size ) (hw _ (List.mem_of_getElem? (i := 49) rfl)) (hw _ (List.mem_of_getElem? (i := 50) rfl)) (hw _ (List.mem_of_getElem? (i := 23) rfl)) (hw _ (List.mem_of_getElem? (i := 51) rfl)) (by decide) (argsL := [(.long z675), (.int z370)]) (rest := []) rfl (lenOf pd_5 rfl) rfl (W := 0) rfl (by decide) (by decide) (by decide) (by decide) at_679 rfl fun T715 X716 => ?_
                    generalize hz717 : (f_step z675 z370) = z717
                    refine w_lstore X716 at_682 rfl (L' := #[.val (.long q1), .second, .val (.long q2), .second, .val (.long q3), .second, .val (.int p4), .val (.int p5), .val (.long z1), .second, .val (.ref a5), .val (.ref a149), .val (.int z370), .val (.int z373), .val (.int z394), .val (.int z395), .val (.int z398), .val (.int z401), .val (.int z402), .val (.int z403), .val (.int (1 : Int32)), .val (.long z588), .second, .unset, .unset, .val (.int z672), .val (.long z717), .second, .val (.int z674), .val (.long z675), .second]) rfl ?_
                    refine w_iload X716 at_684 rfl rfl ?_
                    refine w_bipush X716 at_686 (v := (21 : Int32)) rfl rfl ?_
                    refine w_icmp_ne X716 at_688 (by decide) (pcT := 700) (pcF := 691) (by decide) rfl (fun c718 => ?_) (fun c718 => ?_)
                    · refine w_lload X716 at_700 rfl rfl ?_
                      refine w_lstore X716 at_702 rfl (L' := #[.val (.long q1), .second, .val (.long q2), .second, .val (.long q3), .second, .val (.int p4), .val (.int p5), .val (.long z1), .second, .val (.ref a5), .val (.ref a149), .val (.int z370), .val (.int z373), .val (.int z394), .val (.int z395), .val (.int z398), .val (.int z401), .val (.int z402), .val (.int z403), .val (.int (1 : Int32)), .val (.long z588), .second, .val (.long z717), .second, .val (.int z672), .val (.long z717), .second, .val (.int z674), .val (.long z675), .second]) rfl ?_
                      refine w_lload X716 at_704 rfl rfl ?_
                      refine w_lload X716 at_706 rfl rfl ?_
                      refine w_lcmp_ne X716 at_708 rfl at_709 (by decide) (pcT := 716) (pcF := 712) (by decide) rfl (fun c719 => ?_) (fun c719 => ?_)
                      · refine w_iconst X716 at_716 (v := (0 : Int32)) rfl rfl ?_
                        exact False.elim (c719 (by subst hz717 hz675 hz674 hz672 hz588; rw [hxs582, own_sp2 xs0 _ _ _ _ F0 (own_r19 _ _ hz402).1 (Or.inr c669)]; rw [own_law z1.toInt.toNat (by have := z1.toInt_lt; omega) z1 (by omega) xs0 hx0 _ _ _ _ h19 h20 F0 FT T21 c589]; simp only [gw2, gw1, gw0, if_pos c673, if_pos c676, if_neg c701, if_neg c708, if_neg c718]))
                      · refine w_iconst X716 at_712 (v := (1 : Int32)) rfl rfl ?_
                        refine w_goto X716 at_713 (by decide) (pc' := 717) (by decide) ?_
                        exact w_nreturn X716 (t := .boolean) (by simp) at_717 rfl trivial (by decide) (by decide)
                    · refine w_lload X716 at_691 rfl rfl ?_
                      refine w_iload X716 at_693 rfl rfl ?_
                      refine w_staticVP X716 (rm7 l Z a0 hw z717 z373 h580 n0 X716.size ) (hw _ (List.mem_of_getElem? (i := 49) rfl)) (hw _ (List.mem_of_getElem? (i := 50) rfl)) (hw _ (List.mem_of_getElem? (i := 23) rfl)) (hw _ (List.mem_of_getElem? (i := 51) rfl)) (by decide) (argsL := [(.long z717), (.int z373)]) (rest := []) rfl (lenOf pd_5 rfl) rfl (W := 0) rfl (by decide) (by decide) (by decide) (by decide) at_695 rfl fun T720 X721 => ?_
                      generalize hz722 : (f_step z717 z373) = z722
                      refine w_lstore X721 at_698 rfl (L' := #[.val (.long q1), .second, .val (.long q2), .second, .val (.long q3), .second, .val (.int p4), .val (.int p5), .val (.long z1), .second, .val (.ref a5), .val (.ref a149), .val (.int z370), .val (.int z373), .val (.int z394), .val (.int z395), .val (.int z398), .val (.int z401), .val (.int z402), .val (.int z403), .val (.int (1 : Int32)), .val (.long z588), .second, .unset, .unset, .val (.int z672), .val (.long z722), .second, .val (.int z674), .val (.long z675), .second]) rfl ?_
                      refine w_lload X721 at_700 rfl rfl ?_
                      refine w_lstore X721 at_702 rfl (L' := #[.val (.long q1), .second, .val (.long q2), .second, .val (.long q3), .second, .val (.int p4), .val (.int p5), .val (.long z1), .second, .val (.ref a5), .val (.ref a149), .val (.int z370), .val (.int z373), .val (.int z394), .val (.int z395), .val (.int z398), .val (.int z401), .val (.int z402), .val (.int z403), .val (.int (1 : Int32)), .val (.long z588), .second, .val (.long z722), .second, .val (.int z672), .val (.long z722), .second, .val (.int z674), .val (.long z675), .second]) rfl ?_
                      refine w_lload X721 at_704 rfl rfl ?_
                      refine w_lload X721 at_706 rfl rfl ?_
                      refine w_lcmp_ne X721 at_708 rfl at_709 (by decide) (pcT := 716) (pcF := 712) (by decide) rfl (fun c723 => ?_) (fun c723 => ?_)
                      · refine w_iconst X721 at_716 (v := (0 : Int32)) rfl rfl ?_
                        exact False.elim (c723 (by subst hz722 hz717 hz675 hz674 hz672 hz588; rw [hxs582, own_sp2 xs0 _ _ _ _ F0 (own_r19 _ _ hz402).1 (Or.inr c669)]; rw [own_law z1.toInt.toNat (by have := z1.toInt_lt; omega) z1 (by omega) xs0 hx0 _ _ _ _ h19 h20 F0 FT T21 c589]; simp only [gw2, gw1, gw0, if_pos c673, if_pos c676, if_neg c701, if_neg c708, if_pos c718]))
                      · refine w_iconst X721 at_712 (v := (1 : Int32)) rfl rfl ?_
                        refine w_goto X721 at_713 (by decide) (pc' := 717) (by decide) ?_
                        exact w_nreturn X721 (t := .boolean) (by simp) at_717 rfl trivial (by decide) (by decide)
            · refine w_lconst X671 at_613 (v := (0 : Int64)) rfl rfl ?_
              refine w_lstore X671 at_614 rfl (L' := #[.val (.long q1), .second, .val (.long q2), .second, .val (.long q3), .second, .val (.int p4), .val (.int p5), .val (.long z1), .second, .val (.ref a5), .val (.ref a149), .val (.int z370), .val (.int z373), .val (.int z394), .val (.int z395), .val (.int z398), .val (.int z401), .val (.int z402), .val (.int z403), .val (.int (1 : Int32)), .val (.long z588), .second, .unset, .unset, .val (.int z672), .val (.long (0 : Int64)), .second, .unset, .unset, .unset]) rfl ?_
              refine w_goto X671 at_616 (by decide) (pc' := 661) (by decide) ?_
              refine w_iload X671 at_661 rfl rfl ?_
              refine w_bipush X671 at_663 (v := (20 : Int32)) rfl rfl ?_
              refine w_icmp_lt X671 at_665 (by decide) (pcT := 684) (pcF := 668) (by decide) rfl (fun c724 => ?_) (fun c724 => ?_)
              · refine w_iload X671 at_684 rfl rfl ?_
                refine w_bipush X671 at_686 (v := (21 : Int32)) rfl rfl ?_
                refine w_icmp_ne X671 at_688 (by decide) (pcT := 700) (pcF := 691) (by decide) rfl (fun c725 => ?_) (fun c725 => ?_)
                · refine w_lload X671 at_700 rfl rfl ?_
                  refine w_lstore X671 at_702 rfl (L' := #[.val (.long q1), .second, .val (.long q2), .second, .val (.long q3), .second, .val (.int p4), .val (.int p5), .val (.long z1), .second, .val (.ref a5), .val (.ref a149), .val (.int z370), .val (.int z373), .val (.int z394), .val (.int z395), .val (.int z398), .val (.int z401), .val (.int z402), .val (.int z403), .val (.int (1 : Int32)), .val (.long z588), .second, .val (.long (0 : Int64)), .second, .val (.int z672), .val (.long (0 : Int64)), .second, .unset, .unset, .unset]) rfl ?_
                  refine w_lload X671 at_704 rfl rfl ?_
                  refine w_lload X671 at_706 rfl rfl ?_
                  refine w_lcmp_ne X671 at_708 rfl at_709 (by decide) (pcT := 716) (pcF := 712) (by decide) rfl (fun c726 => ?_) (fun c726 => ?_)
                  · refine w_iconst X671 at_716 (v := (0 : Int32)) rfl rfl ?_
                    exact False.elim (c726 (by subst hz672 hz588; rw [hxs582, own_sp2 xs0 _ _ _ _ F0 (own_r19 _ _ hz402).1 (Or.inr c669)]; rw [own_law z1.toInt.toNat (by have := z1.toInt_lt; omega) z1 (by omega) xs0 hx0 _ _ _ _ h19 h20 F0 FT T21 c589]; simp only [gw2, gw1, gw0, if_neg c673, if_pos c724, if_neg c725]))
                  · refine w_iconst X671 at_712 (v := (1 : Int32)) rfl rfl ?_
                    refine w_goto X671 at_713 (by decide) (pc' := 717) (by decide) ?_
                    exact w_nreturn X671 (t := .boolean) (by simp) at_717 rfl trivial (by decide) (by decide)
                · refine w_lload X671 at_691 rfl rfl ?_
                  refine w_iload X671 at_693 rfl rfl ?_
                  refine w_staticVP X671 (rm7 l Z a0 hw (0 : Int64) z373 h580 n0 X671.size ) (hw _ (List.mem_of_getElem? (i := 49) rfl)) (hw _ (List.mem_of_getElem? (i := 50) rfl)) (hw _ (List.mem_of_getElem? (i := 23) rfl)) (hw _ (List.mem_of_getElem? (i := 51) rfl)) (by decide) (argsL := [(.long (0 : Int64)), (.int z373)]) (rest := []) rfl (lenOf pd_5 rfl) rfl (W := 0) rfl (by decide) (by decide) (by decide) (by decide) at_695 rfl fun T727 X728 => ?_
                  generalize hz729 : (f_step (0 : Int64) z373) = z729
                  refine w_lstore X728 at_698 rfl (L' := #[.val (.long q1), .second, .val (.long q2), .second, .val (.long q3), .second, .val (.int p4), .val (.int p5), .val (.long z1), .second, .val (.ref a5), .val (.ref a149), .val (.int z370), .val (.int z373), .val (.int z394), .val (.int z395), .val (.int z398), .val (.int z401), .val (.int z402), .val (.int z403), .val (.int (1 : Int32)), .val (.long z588), .second, .unset, .unset, .val (.int z672), .val (.long z729), .second, .unset, .unset, .unset]) rfl ?_
                  refine w_lload X728 at_700 rfl rfl ?_
                  refine w_lstore X728 at_702 rfl (L' := #[.val (.long q1), .second, .val (.long q2), .second, .val (.long q3), .second, .val (.int p4), .val (.int p5), .val (.long z1), .second, .val (.ref a5), .val (.ref a149), .val (.int z370), .val (.int z373), .val (.int z394), .val (.int z395), .val (.int z398), .val (.int z401), .val (.int z402), .val (.int z403), .val (.int (1 : Int32)), .val (.long z588), .second, .val (.long z729), .second, .val (.int z672), .val (.long z729), .second, .unset, .unset, .unset]) rfl ?_
                  refine w_lload X728 at_704 rfl rfl ?_
                  refine w_lload X728 at_706 rfl rfl ?_
                  refine w_lcmp_ne X728 at_708 rfl at_709 (by decide) (pcT := 716) (pcF := 712) (by decide) rfl (fun c730 => ?_) (fun c730 => ?_)
                  · refine w_iconst X728 at_716 (v := (0 : Int32)) rfl rfl ?_
                    exact False.elim (c730 (by subst hz729 hz672 hz588; rw [hxs582, own_sp2 xs0 _ _ _ _ F0 (own_r19 _ _ hz402).1 (Or.inr c669)]; rw [own_law z1.toInt.toNat (by have := z1.toInt_lt; omega) z1 (by omega) xs0 hx0 _ _ _ _ h19 h20 F0 FT T21 c589]; simp only [gw2, gw1, gw0, if_neg c673, if_pos c724, if_pos c725]))
                  · refine w_iconst X728 at_712 (v := (1 : Int32)) rfl rfl ?_
                    refine w_goto X728 at_713 (by decide) (pc' := 717) (by decide) ?_
                    exact w_nreturn X728 (t := .boolean) (by simp) at_717 rfl trivial (by decide) (by decide)
              · refine w_iload X671 at_668 rfl rfl ?_
                refine w_bipush X671 at_670 (v := (19 : Int32)) rfl rfl ?_
                refine w_icmp_gt X671 at_672 (by decide) (pcT := 684) (pcF := 675) (by decide) rfl (fun c731 => ?_) (fun c731 => ?_)
                · refine w_iload X671 at_684 rfl rfl ?_
                  refine w_bipush X671 at_686 (v := (21 : Int32)) rfl rfl ?_
                  refine w_icmp_ne X671 at_688 (by decide) (pcT := 700) (pcF := 691) (by decide) rfl (fun c732 => ?_) (fun c732 => ?_)
                  · refine w_lload X671 at_700 rfl rfl ?_
                    refine w_lstore X671 at_702 rfl (L' := #[.val (.long q1), .second, .val (.long q2), .second, .val (.long q3), .second, .val (.int p4), .val (.int p5), .val (.long z1), .second, .val (.ref a5), .val (.ref a149), .val (.int z370), .val (.int z373), .val (.int z394), .val (.int z395), .val (.int z398), .val (.int z401), .val (.int z402), .val (.int z403), .val (.int (1 : Int32)), .val (.long z588), .second, .val (.long (0 : Int64)), .second, .val (.int z672), .val (.long (0 : Int64)), .second, .unset, .unset, .unset]) rfl ?_
                    refine w_lload X671 at_704 rfl rfl ?_
                    refine w_lload X671 at_706 rfl rfl ?_
                    refine w_lcmp_ne X671 at_708 rfl at_709 (by decide) (pcT := 716) (pcF := 712) (by decide) rfl (fun c733 => ?_) (fun c733 => ?_)
                    · refine w_iconst X671 at_716 (v := (0 : Int32)) rfl rfl ?_
                      exact False.elim (c733 (by subst hz672 hz588; rw [hxs582, own_sp2 xs0 _ _ _ _ F0 (own_r19 _ _ hz402).1 (Or.inr c669)]; rw [own_law z1.toInt.toNat (by have := z1.toInt_lt; omega) z1 (by omega) xs0 hx0 _ _ _ _ h19 h20 F0 FT T21 c589]; simp only [gw2, gw1, gw0, if_neg c673, if_neg c724, if_pos c731, if_neg c732]))
                    · refine w_iconst X671 at_712 (v := (1 : Int32)) rfl rfl ?_
                      refine w_goto X671 at_713 (by decide) (pc' := 717) (by decide) ?_
                      exact w_nreturn X671 (t := .boolean) (by simp) at_717 rfl trivial (by decide) (by decide)
                  · refine w_lload X671 at_691 rfl rfl ?_
                    refine w_iload X671 at_693 rfl rfl ?_
                    refine w_staticVP X671 (rm7 l Z a0 hw (0 : Int64) z373 h580 n0 X671.size ) (hw _ (List.mem_of_getElem? (i := 49) rfl)) (hw _ (List.mem_of_getElem? (i := 50) rfl)) (hw _ (List.mem_of_getElem? (i := 23) rfl)) (hw _ (List.mem_of_getElem? (i := 51) rfl)) (by decide) (argsL := [(.long (0 : Int64)), (.int z373)]) (rest := []) rfl (lenOf pd_5 rfl) rfl (W := 0) rfl (by decide) (by decide) (by decide) (by decide) at_695 rfl fun T734 X735 => ?_
                    generalize hz736 : (f_step (0 : Int64) z373) = z736
                    refine w_lstore X735 at_698 rfl (L' := #[.val (.long q1), .second, .val (.long q2), .second, .val (.long q3), .second, .val (.int p4), .val (.int p5), .val (.long z1), .second, .val (.ref a5), .val (.ref a149), .val (.int z370), .val (.int z373), .val (.int z394), .val (.int z395), .val (.int z398), .val (.int z401), .val (.int z402), .val (.int z403), .val (.int (1 : Int32)), .val (.long z588), .second, .unset, .unset, .val (.int z672), .val (.long z736), .second, .unset, .unset, .unset]) rfl ?_
                    refine w_lload X735 at_700 rfl rfl ?_
                    refine w_lstore X735 at_702 rfl (L' := #[.val (.long q1), .second, .val (.long q2), .second, .val (.long q3), .second, .val (.int p4), .val (.int p5), .val (.long z1), .second, .val (.ref a5), .val (.ref a149), .val (.int z370), .val (.int z373), .val (.int z394), .val (.int z395), .val (.int z398), .val (.int z401), .val (.int z402), .val (.int z403), .val (.int (1 : Int32)), .val (.long z588), .second, .val (.long z736), .second, .val (.int z672), .val (.long z736), .second, .unset, .unset, .unset]) rfl ?_
                    refine w_lload X735 at_704 rfl rfl ?_
                    refine w_lload X735 at_706 rfl rfl ?_
                    refine w_lcmp_ne X735 at_708 rfl at_709 (by decide) (pcT := 716) (pcF := 712) (by decide) rfl (fun c737 => ?_) (fun c737 => ?_)
                    · refine w_iconst X735 at_716 (v := (0 : Int32)) rfl rfl ?_
                      exact False.elim (c737 (by subst hz736 hz672 hz588; rw [hxs582, own_sp2 xs0 _ _ _ _ F0 (own_r19 _ _ hz402).1 (Or.inr c669)]; rw [own_law z1.toInt.toNat (by have := z1.toInt_lt; omega) z1 (by omega) xs0 hx0 _ _ _ _ h19 h20 F0 FT T21 c589]; simp only [gw2, gw1, gw0, if_neg c673, if_neg c724, if_pos c731, if_pos c732]))
                    · refine w_iconst X735 at_712 (v := (1 : Int32)) rfl rfl ?_
                      refine w_goto X735 at_713 (by decide) (pc' := 717) (by decide) ?_
                      exact w_nreturn X735 (t := .boolean) (by simp) at_717 rfl trivial (by decide) (by decide)
                · refine w_lload X671 at_675 rfl rfl ?_
                  refine w_iload X671 at_677 rfl rfl ?_
                  refine w_staticVP X671 (rm7 l Z a0 hw (0 : Int64) z370 h580 n0 X671.size ) (hw _ (List.mem_of_getElem? (i := 49) rfl)) (hw _ (List.mem_of_getElem? (i := 50) rfl)) (hw _ (List.mem_of_getElem? (i := 23) rfl)) (hw _ (List.mem_of_getElem? (i := 51) rfl)) (by decide) (argsL := [(.long (0 : Int64)), (.int z370)]) (rest := []) rfl (lenOf pd_5 rfl) rfl (W := 0) rfl (by decide) (by decide) (by decide) (by decide) at_679 rfl fun T738 X739 => ?_
                  generalize hz740 : (f_step (0 : Int64) z370) = z740
                  refine w_lstore X739 at_682 rfl (L' := #[.val (.long q1), .second, .val (.long q2), .second, .val (.long q3), .second, .val (.int p4), .val (.int p5), .val (.long z1), .second, .val (.ref a5), .val (.ref a149), .val (.int z370), .val (.int z373), .val (.int z394), .val (.int z395), .val (.int z398), .val (.int z401), .val (.int z402), .val (.int z403), .val (.int (1 : Int32)), .val (.long z588), .second, .unset, .unset, .val (.int z672), .val (.long z740), .second, .unset, .unset, .unset]) rfl ?_
                  refine w_iload X739 at_684 rfl rfl ?_
                  refine w_bipush X739 at_686 (v := (21 : Int32)) rfl rfl ?_
                  refine w_icmp_ne X739 at_688 (by decide) (pcT := 700) (pcF := 691) (by decide) rfl (fun c741 => ?_) (fun c741 => ?_)
                  · refine w_lload X739 at_700 rfl rfl ?_
                    refine w_lstore X739 at_702 rfl (L' := #[.val (.long q1), .second, .val (.long q2), .second, .val (.long q3), .second, .val (.int p4), .val (.int p5), .val (.long z1), .second, .val (.ref a5), .val (.ref a149), .val (.int z370), .val (.int z373), .val (.int z394), .val (.int z395), .val (.int z398), .val (.int z401), .val (.int z402), .val (.int z403), .val (.int (1 : Int32)), .val (.long z588), .second, .val (.long z740), .second, .val (.int z672), .val (.long z740), .second, .unset, .unset, .unset]) rfl ?_
                    refine w_lload X739 at_704 rfl rfl ?_
                    refine w_lload X739 at_706 rfl rfl ?_
                    refine w_lcmp_ne X739 at_708 rfl at_709 (by decide) (pcT := 716) (pcF := 712) (by decide) rfl (fun c742 => ?_) (fun c742 => ?_)
                    · refine w_iconst X739 at_716 (v := (0 : Int32)) rfl rfl ?_
                      exact False.elim (c742 (by subst hz740 hz672 hz588; rw [hxs582, own_sp2 xs0 _ _ _ _ F0 (own_r19 _ _ hz402).1 (Or.inr c669)]; rw [own_law z1.toInt.toNat (by have := z1.toInt_lt; omega) z1 (by omega) xs0 hx0 _ _ _ _ h19 h20 F0 FT T21 c589]; simp only [gw2, gw1, gw0, if_neg c673, if_neg c724, if_neg c731, if_neg c741]))
                    · refine w_iconst X739 at_712 (v := (1 : Int32)) rfl rfl ?_
                      refine w_goto X739 at_713 (by decide) (pc' := 717) (by decide) ?_
                      exact w_nreturn X739 (t := .boolean) (by simp) at_717 rfl trivial (by decide) (by decide)
                  · refine w_lload X739 at_691 rfl rfl ?_
                    refine w_iload X739 at_693 rfl rfl ?_
                    refine w_staticVP X739 (rm7 l Z a0 hw z740 z373 h580 n0 X739.size ) (hw _ (List.mem_of_getElem? (i := 49) rfl)) (hw _ (List.mem_of_getElem? (i := 50) rfl)) (hw _ (List.mem_of_getElem? (i := 23) rfl)) (hw _ (List.mem_of_getElem? (i := 51) rfl)) (by decide) (argsL := [(.long z740), (.int z373)]) (rest := []) rfl (lenOf pd_5 rfl) rfl (W := 0) rfl (by decide) (by decide) (by decide) (by decide) at_695 rfl fun T743 X744 => ?_
                    generalize hz745 : (f_step z740 z373) = z745
                    refine w_lstore X744 at_698 rfl (L' := #[.val (.long q1), .second, .val (.long q2), .second, .val (.long q3), .second, .val (.int p4), .val (.int p5), .val (.long z1), .second, .val (.ref a5), .val (.ref a149), .val (.int z370), .val (.int z373), .val (.int z394), .val (.int z395), .val (.int z398), .val (.int z401), .val (.int z402), .val (.int z403), .val (.int (1 : Int32)), .val (.long z588), .second, .unset, .unset, .val (.int z672), .val (.long z745), .second, .unset, .unset, .unset]) rfl ?_
                    refine w_lload X744 at_700 rfl rfl ?_
                    refine w_lstore X744 at_702 rfl (L' := #[.val (.long q1), .second, .val (.long q2), .second, .val (.long q3), .second, .val (.int p4), .val (.int p5), .val (.long z1), .second, .val (.ref a5), .val (.ref a149), .val (.int z370), .val (.int z373), .val (.int z394), .val (.int z395), .val (.int z398), .val (.int z401), .val (.int z402), .val (.int z403), .val (.int (1 : Int32)), .val (.long z588), .second, .val (.long z745), .second, .val (.int z672), .val (.long z745), .second, .unset, .unset, .unset]) rfl ?_
                    refine w_lload X744 at_704 rfl rfl ?_
                    refine w_lload X744 at_706 rfl rfl ?_
                    refine w_lcmp_ne X744 at_708 rfl at_709 (by decide) (pcT := 716) (pcF := 712) (by decide) rfl (fun c746 => ?_) (fun c746 => ?_)
                    · refine w_iconst X744 at_716 (v := (0 : Int32)) rfl rfl ?_
                      exact False.elim (c746 (by subst hz745 hz740 hz672 hz588; rw [hxs582, own_sp2 xs0 _ _ _ _ F0 (own_r19 _ _ hz402).1 (Or.inr c669)]; rw [own_law z1.toInt.toNat (by have := z1.toInt_lt; omega) z1 (by omega) xs0 hx0 _ _ _ _ h19 h20 F0 FT T21 c589]; simp only [gw2, gw1, gw0, if_neg c673, if_neg c724, if_neg c731, if_pos c741]))
                    · refine w_iconst X744 at_712 (v := (1 : Int32)) rfl rfl ?_
                      refine w_goto X744 at_713 (by decide) (pc' := 717) (by decide) ?_
                      exact w_nreturn X744 (t := .boolean) (by simp) at_717 rfl trivial (by decide) (by decide)
          · refine w_ldc2Long X587 (hw _ (List.mem_of_getElem? (i := 48) rfl)) at_589 rfl ?_
            refine w_lstore X587 at_592 rfl (L' := #[.val (.long q1), .second, .val (.long q2), .second, .val (.long q3), .second, .val (.int p4), .val (.int p5), .val (.long z1), .second, .val (.ref a5), .val (.ref a149), .val (.int z370), .val (.int z373), .val (.int z394), .val (.int z395), .val (.int z398), .val (.int z401), .val (.int z402), .val (.int z403), .val (.int (1 : Int32)), .val (.long z588), .second, .val (.long (-1 : Int64)), .second, .unset, .unset, .unset, .unset, .unset, .unset]) rfl ?_
            refine w_goto X587 at_594 (by decide) (pc' := 704) (by decide) ?_
            refine w_lload X587 at_704 rfl rfl ?_
            refine w_lload X587 at_706 rfl rfl ?_
            refine w_lcmp_ne X587 at_708 rfl at_709 (by decide) (pcT := 716) (pcF := 712) (by decide) rfl (fun c747 => ?_) (fun c747 => ?_)
            · refine w_iconst X587 at_716 (v := (0 : Int32)) rfl rfl ?_
              exact False.elim (c747 (by subst hz588; rw [hxs582]; exact own_sp1 xs0 _ _ _ _ F0 FT c589 (by omega) c591 c669 (by show f_isd (nar .char z403) = 0; rw [own_idem _ (own_s0 _ _ hz403) (own_s1 _ _ hz403)]; exact c491)))
            · refine w_iconst X587 at_712 (v := (1 : Int32)) rfl rfl ?_
              refine w_goto X587 at_713 (by decide) (pc' := 717) (by decide) ?_
              exact w_nreturn X587 (t := .boolean) (by simp) at_717 rfl trivial (by decide) (by decide)
      · refine w_ldc2Long X587 (hw _ (List.mem_of_getElem? (i := 48) rfl)) at_562 rfl ?_
        refine w_lstore X587 at_565 rfl (L' := #[.val (.long q1), .second, .val (.long q2), .second, .val (.long q3), .second, .val (.int p4), .val (.int p5), .val (.long z1), .second, .val (.ref a5), .val (.ref a149), .val (.int z370), .val (.int z373), .val (.int z394), .val (.int z395), .val (.int z398), .val (.int z401), .val (.int z402), .val (.int z403), .val (.int (1 : Int32)), .val (.long z588), .second, .val (.long (-1 : Int64)), .second, .unset, .unset, .unset, .unset, .unset, .unset]) rfl ?_
        refine w_goto X587 at_567 (by decide) (pc' := 704) (by decide) ?_
        refine w_lload X587 at_704 rfl rfl ?_
        refine w_lload X587 at_706 rfl rfl ?_
        refine w_lcmp_ne X587 at_708 rfl at_709 (by decide) (pcT := 716) (pcF := 712) (by decide) rfl (fun c748 => ?_) (fun c748 => ?_)
        · refine w_iconst X587 at_716 (v := (0 : Int32)) rfl rfl ?_
          exact False.elim (c748 (by subst hz588; unfold f_par; rw [if_pos c589]))
        · refine w_iconst X587 at_712 (v := (1 : Int32)) rfl rfl ?_
          refine w_goto X587 at_713 (by decide) (pc' := 717) (by decide) ?_
          exact w_nreturn X587 (t := .boolean) (by simp) at_717 rfl trivial (by decide) (by decide)
set_option maxRecDepth 65536 in
set_option maxHeartbeats 4000000 in
theorem comes_1 {Post : Tables → Env → Array Value → State → Outcome → State → Prop} (hpost : ∀ tb e args s v u, (limb_1_1.after args s (.returned v) u = true ∧ limb_1_2.after args s (.returned v) u = true ∧ True) → FrameEnd s (.returned v) u (Jvm.fieldLocs frame_1_writes args s ++ Jvm.arrayLocs frame_1_arrays args s ++ Jvm.staticLocs frame_1_statics s) 16 192 → Post tb e args s (.returned v) u) :
    ArmFor flags0 classFile x code maxLocals ret World_1 tables_1 room_1 Calls_1 rest_1 Pre_1 Post := by
  intro l hfl _ _ p e ha hc hk s m args below hf hA hF happ hP
  obtain ⟨hcalls, hrest, hpre⟩ := hP
  obtain ⟨-, -, -, hnamed, -, -, -, hat⟩ := (Spec.applies_iff hf).mp happ
  obtain ⟨hg, hn⟩ := and_e (Cond.before_iff.mp (show (Jvm.Cond.and given_1 narrow_1).before args s = true from hpre))
  obtain ⟨gc, hg⟩ := and_e hg
  obtain ⟨g0, hg⟩ := and_e hg
  obtain ⟨g1, hg⟩ := and_e hg
  obtain ⟨g2, hg⟩ := and_e hg
  obtain ⟨g3, hg⟩ := and_e hg
  have g4 := hg
  obtain ⟨w0, w1, w2, w3, w4, rfl⟩ : ∃ w0 w1 w2 w3 w4 : Value, args = #[w0, w1, w2, w3, w4] := by
    have hs : args.size = 5 := by simpa [Cond.value, given_1] using gc
    obtain ⟨L⟩ := args
    match L, hs with
    | [w0, w1, w2, w3, w4], _ => exact ⟨w0, w1, w2, w3, w4, rfl⟩
  have hw := fun d (hd : d ∈ tables_1) => atoms_spec (ws := Jvm.Cond.code x code maxLocals ret :: tables_1) hat d (List.mem_cons_of_mem _ hd)
  obtain ⟨i0, ei0⟩ := isL_v g0
  obtain rfl : w0 = (.long i0) := Option.some.inj ei0
  obtain ⟨i1, ei1⟩ := isL_v g1
  obtain rfl : w1 = (.long i1) := Option.some.inj ei1
  obtain ⟨i2, ei2⟩ := isL_v g2
  obtain rfl : w2 = (.long i2) := Option.some.inj ei2
  obtain ⟨i3, ei3⟩ := is_v g3
  obtain rfl : w3 = (.int i3) := Option.some.inj ei3
  obtain ⟨i4, ei4⟩ := is_v g4
  obtain rfl : w4 = (.int i4) := Option.some.inj ei4
  obtain ⟨n, o, h1, h2, h3, _, L, rfl, ⟨rfl, -, N, -⟩, hq⟩ := rm0 l s _ hw i0 i1 i2 i3 i4 s.heap s.heap.size (Nat.le_refl _) tables_1 p e ha hc hk s m _ below hf ((Spec.applies_iff_loose hf).mp happ).1 ⟨rfl, State.Warmed39.refl s, rfl⟩ trivial
  refine ⟨n, _, h1, h2, h3, hpost _ _ _ _ _ _ ⟨Cond.after_iff.mpr rfl, Cond.after_iff.mpr (eq_i res_at (Term.int_eval (1)) rfl), trivial⟩ ⟨hq.1, hq.2.1, (hq.2.2.sift fun y hy => Or.inr (N y hy)).mono (by decide) (by decide)⟩⟩
theorem main_1_1 : Claimed_1_1 := comes_1 fun _ _ _ _ _ _ h hF => ⟨h.1, hF⟩
theorem main_1_2 : Claimed_1_2 := comes_1 fun _ _ _ _ _ _ h hF => ⟨h.2.1, hF⟩
end Jvm.Pilot.@@N@@
namespace Jvm.Pilot.@@N@@
open Jvm Jvm.ClassFile Sem Op Lib Jvm.Free Jvm.Stand Jvm.Pilot.@@N@@.Jvm.D
/-! MADE BY PROGRAM (witnessworld.py) out of the Statement's table words and the real class files: 14 classes; the members and pool entries that the words name. The judged class is class 1, her method 1. -/
namespace start1
open Jvm.ClassFile
def u (s : String) : CpInfo := .utf8 (stringToUtf16 s)
/-- a pool by its gaps: so many unusable entries, then the entry; so many at the end -/
def gap : Nat → List CpInfo → List CpInfo
  | 0, r => r
  | n + 1, r => .unusable :: gap n r
def poolList (es : List (Nat × CpInfo)) (last : Nat) : List CpInfo := es.foldr (fun e r => gap e.1 (e.2 :: r)) (gap last [])
def pool (es : List (Nat × CpInfo)) (last : Nat) : Array CpInfo := ⟨poolList es last⟩
def fileOf (pool : Array CpInfo) (this : Nat) (attrs : Array Attribute := #[]) (ms : Array MethodInfo := #[]) (fl : Nat := 33) (sup : Nat := 0) (ifs : Array Nat := #[]) (fds : Array FieldInfo := #[]) : ClassFile where
  minorVersion := 0
  majorVersion := 65
  constantPool := pool
  accessFlags := fl
  thisClass := this
  superClass := sup
  interfaces := ifs
  fields := fds
  methods := ms
  attributes := attrs
def plain (name : String) (sup : Option ClassId) : Class where
  name := name
  kind := .ordinary
  loader := none
  accessFlags := 33
  super := sup
  interfaces := #[]
  cf := none
  fields := #[]
  methods := #[]
  instanceTypes := #[]
  staticTypes := #[]
  resolved := #[]
  callSites := []
  init := .initialized
  statics := none
  mirror := none

def pool0 : Array CpInfo := pool [(5, u "<init>"), (0, u "()V"), (1, .class_ 10), (1, u "java/lang/Object")] 113

def k0m0 : Method := { name := "<init>", desc := "()V", sig := { parameters := [], returnType := none }, accessFlags := 1, code := none }
/-- java/lang/Object -/
def k0 : Class := { plain "java/lang/Object" none with
  accessFlags := 33
  interfaces := #[]
  cf := some (fileOf pool0 8 #[] #[{ accessFlags := 1, nameIndex := 5, descriptorIndex := 6, attributes := #[] }] 33 0 #[] #[])
  fields := #[]
  methods := #[k0m0]
  instanceTypes := #[]
  staticTypes := #[]
  resolved := Array.replicate 124 none
  statics := none }

def pool1 : Array CpInfo := pool [(2, .class_ 4), (1, u "java/lang/Object"), (0, u "<init>"), (0, u "()V"), (0, .long 9223372036854775807), (1, .long 10), (1, .long 100), (1, .long 1000), (1, .long 10000), (1, .long 100000), (1, .long 1000000), (1, .long 10000000), (1, .long 100000000), (1, .long 1000000000), (1, .long 10000000000), (1, .long 100000000000), (1, .long 1000000000000), (1, .long 10000000000000), (1, .long 100000000000000), (1, .long 1000000000000000), (1, .long 10000000000000000), (1, .long 100000000000000000), (1, .long 1000000000000000000), (1, .methodref 46 47), (0, .class_ 48), (0, .nameAndType 49 50), (0, u "com/example/driftwalk/driftwalk/graph/EdgeListReaderParseNumberPinLaw"), (0, u "digitOf"), (0, u "(JJ)C"), (0, .methodref 46 52), (0, .nameAndType 53 54), (0, u "drawn"), (0, u "(J)C"), (0, .methodref 56 57), (0, .class_ 58), (0, .nameAndType 59 60), (0, u "java/lang/Math"), (0, u "min"), (0, u "(II)I"), (0, .methodref 56 62), (0, .nameAndType 63 60), (0, u "max"), (0, .integer 65535), (0, .methodref 46 66), (0, .nameAndType 67 68), (0, u "isDigit"), (0, u "(C)Z"), (0, .methodref 70 71), (0, .class_ 72), (0, .nameAndType 73 74), (0, u "com/example/driftwalk/driftwalk/graph/EdgeListReader"), (0, u "parseNumber"), (0, u "([CII)J"), (0, .long 18446744073709551615), (1, .methodref 46 78), (0, .nameAndType 79 80), (0, u "step"), (0, u "(JC)J"), (0, .long 3), (1, .long 65535), (3, u "law"), (0, u "(JJJII)Z")] 7

def k1m0 : Method := { name := "<init>", desc := "()V", sig := { parameters := [], returnType := none }, accessFlags := 2, code := none }
def k1c1 : Code := { maxStack := 6, maxLocals := 31, code := code, exceptionTable := #[], attributes := #[] }
def k1m1 : Method := { name := "law", desc := "(JJJII)Z", sig := { parameters := [.long, .long, .long, .int, .int], returnType := some .boolean }, accessFlags := 9, code := some k1c1 }
def k1c2 : Code := { maxStack := 5, maxLocals := 4, code := method_3_code, exceptionTable := #[], attributes := #[] }
def k1m2 : Method := { name := "digitOf", desc := "(JJ)C", sig := { parameters := [.long, .long], returnType := some .char }, accessFlags := 10, code := some k1c2 }
def k1c3 : Code := { maxStack := 5, maxLocals := 2, code := method_4_code, exceptionTable := #[], attributes := #[] }
def k1m3 : Method := { name := "drawn", desc := "(J)C", sig := { parameters := [.long], returnType := some .char }, accessFlags := 10, code := some k1c3 }
def k1c4 : Code := { maxStack := 2, maxLocals := 1, code := method_5_code, exceptionTable := #[], attributes := #[] }
def k1m4 : Method := { name := "isDigit", desc := "(C)Z", sig := { parameters := [.char], returnType := some .boolean }, accessFlags := 10, code := some k1c4 }
def k1c5 : Code := { maxStack := 6, maxLocals := 5, code := method_6_code, exceptionTable := #[], attributes := #[] }
def k1m5 : Method := { name := "step", desc := "(JC)J", sig := { parameters := [.long, .char], returnType := some .long }, accessFlags := 10, code := some k1c5 }
/-- com/example/driftwalk/driftwalk/graph/EdgeListReaderParseNumberPinLaw -/
def k1 : Class := { plain "com/example/driftwalk/driftwalk/graph/EdgeListReaderParseNumberPinLaw" (some 0) with
  accessFlags := 49
  interfaces := #[]
  cf := some (fileOf pool1 46 #[] #[{ accessFlags := 2, nameIndex := 5, descriptorIndex := 6, attributes := #[] }, { accessFlags := 9, nameIndex := 87, descriptorIndex := 88, attributes := #[] }, { accessFlags := 10, nameIndex := 49, descriptorIndex := 50, attributes := #[] }, { accessFlags := 10, nameIndex := 53, descriptorIndex := 54, attributes := #[] }, { accessFlags := 10, nameIndex := 67, descriptorIndex := 68, attributes := #[] }, { accessFlags := 10, nameIndex := 79, descriptorIndex := 80, attributes := #[] }] 49 2 #[] #[])
  fields := #[]
  methods := #[k1m0, k1m1, k1m2, k1m3, k1m4, k1m5]
  instanceTypes := #[]
  staticTypes := #[]
  resolved := Array.replicate 96 none
  statics := none }

def pool2 : Array CpInfo := pool [(1, .class_ 2), (0, u "java/lang/Math"), (1, .class_ 6), (1, u "java/lang/Object"), (0, u "<init>"), (0, u "()V"), (89, .class_ 100), (1, u "java/lang/Math$RandomNumberGeneratorHolder"), (71, u "negativeZeroFloatBits"), (0, u "J"), (2, u "negativeZeroDoubleBits"), (21, u "max"), (2, u "min"), (43, u "$assertionsDisabled"), (0, u "Z"), (88, u "(II)I"), (2, u "twoToTheDoubleScaleDown"), (0, u "D"), (4, u "twoToTheDoubleScaleUp"), (9, u "E"), (3, u "PI"), (2, u "TAU"), (2, u "DEGREES_TO_RADIANS"), (0, u "RADIANS_TO_DEGREES")] 94

def k2m0 : Method := { name := "<init>", desc := "()V", sig := { parameters := [], returnType := none }, accessFlags := 2, code := none }
def k2c1 : Code := { maxStack := 2, maxLocals := 2, code := jdk_29_method_65_code, exceptionTable := #[], attributes := #[] }
def k2m1 : Method := { name := "max", desc := "(II)I", sig := { parameters := [.int, .int], returnType := some .int }, accessFlags := 9, code := some k2c1 }
def k2c2 : Code := { maxStack := 2, maxLocals := 2, code := jdk_29_method_69_code, exceptionTable := #[], attributes := #[] }
def k2m2 : Method := { name := "min", desc := "(II)I", sig := { parameters := [.int, .int], returnType := some .int }, accessFlags := 9, code := some k2c2 }
/-- java/lang/Math -/
def k2 : Class := { plain "java/lang/Math" (some 0) with
  accessFlags := 49
  interfaces := #[]
  cf := some (fileOf pool2 1 #[.nestMembers #[98]] #[{ accessFlags := 2, nameIndex := 7, descriptorIndex := 8, attributes := #[] }, { accessFlags := 9, nameIndex := 198, descriptorIndex := 335, attributes := #[] }, { accessFlags := 9, nameIndex := 201, descriptorIndex := 335, attributes := #[] }] 49 4 #[] #[{ accessFlags := 25, nameIndex := 354, descriptorIndex := 339, attributes := #[] }, { accessFlags := 25, nameIndex := 358, descriptorIndex := 339, attributes := #[] }, { accessFlags := 25, nameIndex := 361, descriptorIndex := 339, attributes := #[] }, { accessFlags := 26, nameIndex := 364, descriptorIndex := 339, attributes := #[] }, { accessFlags := 26, nameIndex := 365, descriptorIndex := 339, attributes := #[] }, { accessFlags := 26, nameIndex := 172, descriptorIndex := 173, attributes := #[] }, { accessFlags := 26, nameIndex := 176, descriptorIndex := 173, attributes := #[] }, { accessFlags := 8, nameIndex := 344, descriptorIndex := 339, attributes := #[] }, { accessFlags := 8, nameIndex := 338, descriptorIndex := 339, attributes := #[] }, { accessFlags := 4120, nameIndex := 245, descriptorIndex := 246, attributes := #[] }])
  fields := #[{ name := "E", type := .double, accessFlags := 25, slot := 0, constantValue := 0 }, { name := "PI", type := .double, accessFlags := 25, slot := 1, constantValue := 0 }, { name := "TAU", type := .double, accessFlags := 25, slot := 2, constantValue := 0 }, { name := "DEGREES_TO_RADIANS", type := .double, accessFlags := 26, slot := 3, constantValue := 0 }, { name := "RADIANS_TO_DEGREES", type := .double, accessFlags := 26, slot := 4, constantValue := 0 }, { name := "negativeZeroFloatBits", type := .long, accessFlags := 26, slot := 5, constantValue := 0 }, { name := "negativeZeroDoubleBits", type := .long, accessFlags := 26, slot := 6, constantValue := 0 }, { name := "twoToTheDoubleScaleUp", type := .double, accessFlags := 8, slot := 7, constantValue := 0 }, { name := "twoToTheDoubleScaleDown", type := .double, accessFlags := 8, slot := 8, constantValue := 0 }, { name := "$assertionsDisabled", type := .boolean, accessFlags := 4120, slot := 9, constantValue := 0 }]
  methods := #[k2m0, k2m1, k2m2]
  instanceTypes := #[]
  staticTypes := #[.double, .double, .double, .double, .double, .long, .long, .double, .double, .boolean]
  resolved := Array.replicate 460 none
  statics := none }

def pool3 : Array CpInfo := pool [(4, .class_ 6), (1, u "java/lang/Object"), (0, u "<init>"), (0, u "()V"), (1, .class_ 12), (1, u "com/example/driftwalk/driftwalk/graph/EdgeListReader"), (11, u "CHARSET"), (0, u "Ljava/nio/charset/Charset;"), (56, .class_ 83), (0, u "com/example/driftwalk/driftwalk/graph/EdgeListReader$Lines"), (20, .long 18446744073709551615), (1, .long 922337203685477580), (1, .long 10), (7, u "parseNumber"), (0, u "([CII)J"), (38, u "NO_TIMESTAMP"), (0, u "J"), (1, u "NUMBER_FORM"), (0, u "Ljava/lang/String;"), (2, u "LARGEST_TENTH"), (0, u "LARGEST_LAST_DIGIT"), (0, u "I"), (1, u "BLOCK"), (10, .class_ 179), (0, u "com/example/driftwalk/driftwalk/graph/EdgeListReader$Sink")] 34

def k3m0 : Method := { name := "<init>", desc := "()V", sig := { parameters := [], returnType := none }, accessFlags := 2, code := none }
def k3c1 : Code := { maxStack := 4, maxLocals := 7, code := prog_48_method_8_code, exceptionTable := #[], attributes := #[] }
def k3m1 : Method := { name := "parseNumber", desc := "([CII)J", sig := { parameters := [(.array .char), .int, .int], returnType := some .long }, accessFlags := 8, code := some k3c1 }
/-- com/example/driftwalk/driftwalk/graph/EdgeListReader -/
def k3 : Class := { plain "com/example/driftwalk/driftwalk/graph/EdgeListReader" (some 0) with
  accessFlags := 49
  interfaces := #[]
  cf := some (fileOf pool3 10 #[.nestMembers #[82, 178]] #[{ accessFlags := 2, nameIndex := 7, descriptorIndex := 8, attributes := #[] }, { accessFlags := 8, nameIndex := 116, descriptorIndex := 117, attributes := #[] }] 49 4 #[] #[{ accessFlags := 25, nameIndex := 24, descriptorIndex := 25, attributes := #[] }, { accessFlags := 24, nameIndex := 156, descriptorIndex := 157, attributes := #[] }, { accessFlags := 24, nameIndex := 159, descriptorIndex := 160, attributes := #[] }, { accessFlags := 26, nameIndex := 163, descriptorIndex := 157, attributes := #[] }, { accessFlags := 26, nameIndex := 164, descriptorIndex := 165, attributes := #[] }, { accessFlags := 26, nameIndex := 167, descriptorIndex := 165, attributes := #[] }])
  fields := #[{ name := "CHARSET", type := (.object "java/nio/charset/Charset"), accessFlags := 25, slot := 0, constantValue := 0 }, { name := "NO_TIMESTAMP", type := .long, accessFlags := 24, slot := 1, constantValue := 0 }, { name := "NUMBER_FORM", type := (.object "java/lang/String"), accessFlags := 24, slot := 2, constantValue := 0 }, { name := "LARGEST_TENTH", type := .long, accessFlags := 26, slot := 3, constantValue := 0 }, { name := "LARGEST_LAST_DIGIT", type := .int, accessFlags := 26, slot := 4, constantValue := 0 }, { name := "BLOCK", type := .int, accessFlags := 26, slot := 5, constantValue := 0 }]
  methods := #[k3m0, k3m1]
  instanceTypes := #[]
  staticTypes := #[(.object "java/nio/charset/Charset"), .long, (.object "java/lang/String"), .long, .int, .int]
  resolved := Array.replicate 214 none
  statics := none }

def pool4 : Array CpInfo := pool [(1, u "java/lang/Cloneable"), (0, .class_ 1), (0, u "java/lang/Object"), (0, .class_ 3)] 3

/-- java/lang/Cloneable -/
def k4 : Class := { plain "java/lang/Cloneable" (some 0) with
  accessFlags := 1537
  interfaces := #[]
  cf := some (fileOf pool4 2 #[] #[] 1537 4 #[] #[])
  fields := #[]
  methods := #[]
  instanceTypes := #[]
  staticTypes := #[]
  resolved := Array.replicate 8 none
  statics := none }

def pool5 : Array CpInfo := pool [(1, u "java/io/Serializable"), (0, .class_ 1), (0, u "java/lang/Object"), (0, .class_ 3)] 3

/-- java/io/Serializable -/
def k5 : Class := { plain "java/io/Serializable" (some 0) with
  accessFlags := 1537
  interfaces := #[]
  cf := some (fileOf pool5 2 #[] #[] 1537 4 #[] #[])
  fields := #[]
  methods := #[]
  instanceTypes := #[]
  staticTypes := #[]
  resolved := Array.replicate 8 none
  statics := none }

/-- the primitive byte -/
def k6 : Class := { plain "byte" none with kind := .primitive 'B', accessFlags := 0x411 }
/-- [B -/
def k7 : Class := { plain "[B" (some 0) with kind := .array 6 .byte, interfaces := #[4, 5], accessFlags := 1041 }

/-- the primitive char -/
def k8 : Class := { plain "char" none with kind := .primitive 'C', accessFlags := 0x411 }
/-- [C -/
def k9 : Class := { plain "[C" (some 0) with kind := .array 8 .char, interfaces := #[4, 5], accessFlags := 1041 }

/-- the primitive int -/
def k10 : Class := { plain "int" none with kind := .primitive 'I', accessFlags := 0x411 }
/-- [I -/
def k11 : Class := { plain "[I" (some 0) with kind := .array 10 .int, interfaces := #[4, 5], accessFlags := 1041 }

/-- the primitive long -/
def k12 : Class := { plain "long" none with kind := .primitive 'J', accessFlags := 0x411 }
/-- [J -/
def k13 : Class := { plain "[J" (some 0) with kind := .array 12 .long, interfaces := #[4, 5], accessFlags := 1041 }

def heap : Heap := #[]
def classes : Array Class := #[k0, k1, k2, k3, k4, k5, k6, k7, k8, k9, k10, k11, k12, k13]
def interned : List (Array UInt16 × Addr) := []
def slotsUsed : Nat := 0
def theMethod : MethodId := ⟨1, 1⟩
def args0 : Array Value := #[.long 12345, .long 5, .long 6, .int 5, .int 7]
def aboutOver (below : List Frame) : State where
  vm := { classes := classes, interned := interned.toArray }
  heap := heap
  slotsUsed := slotsUsed
  threads := #[{ frames := .invoking theMethod args0 :: below }]
def below0 : List Frame := [.native { method := ⟨0, 0⟩, args := #[] }]
def about1 : State := aboutOver below0
def p0 : Program := .bare "" "" ""
def e0 : Env := launch0.env 0 0 0
theorem w_frames : about1.frames = Frame.invoking theMethod args0 :: below0 := rfl
set_option maxRecDepth 65536 in
theorem w_args : argsFit about1.vm theMethod args0 = true := by decide +kernel
set_option maxRecDepth 65536 in
theorem w_heap : heapFits about1 = true := by decide +kernel
set_option maxRecDepth 65536 in
theorem w_runnable : about1.curStatus? = some .runnable := by decide +kernel
set_option maxRecDepth 65536 in
theorem w_alone : about1.alone = true := by decide +kernel
set_option maxRecDepth 65536 in
theorem w_named : about1.methodNamed? x = some theMethod := by decide +kernel
set_option maxRecDepth 65536 in
theorem w_hears : about1.hears theMethod below0 = true := by decide +kernel
set_option maxRecDepth 65536 in
theorem w_ripe : about1.ripe theMethod args0 below0 = true := by decide +kernel
theorem w_running : about1.status = .running := rfl
set_option maxRecDepth 65536 in
theorem w_room : about1.hasRoom e0.platform room_1 = true :=
  launch0.hasRoom_least _ room_1 (by decide +kernel) (by decide +kernel) (by decide +kernel) (by decide +kernel) (by decide +kernel) (by decide +kernel)
theorem allAtoms_all (ts : List Jvm.Cond) (a : Array Jvm.Value) (st : Jvm.State) : (allAtoms ts).before a st = ts.all (fun c => c.before a st) := by
  induction ts with
  | nil => rfl
  | cons c t ih =>
    show (Jvm.Cond.and c (allAtoms t)).before a st = _
    rw [Jvm.Cond.before_and, ih, List.all_cons]
def words1 : List Jvm.Cond := Jvm.Cond.code x code maxLocals ret :: tables_1
/-- a 'code' word, met by the world's own term for the bytes: nothing is compared byte by byte -/
theorem code_word {y : MethodName} {bytes : ByteArray} {mx : Nat} {rt : Option FieldType} {a : Array Value} {s : State} {m : MethodId} {meth : Method} {c : Code} (h1 : s.methodNamed? y = some m) (h2 : s.vm.method? m = some meth) (h3 : meth.code = some c) (h4 : c.code = bytes)
    (h5 : (c.maxLocals == mx && c.exceptionTable.isEmpty && decide (c.maxStack ≤ mostOperands) && decide (meth.sig.returnType = rt) && !meth.locks && decide (parseMethodDescriptor y.desc = some meth.sig)) = true) : (Jvm.Cond.code y bytes mx rt).before a s = true := by
  simp only [Bool.and_eq_true, beq_iff_eq, Bool.not_eq_true', decide_eq_true_eq] at h5
  obtain ⟨⟨⟨⟨⟨g1, g2⟩, g3⟩, g4⟩, g5⟩, g6⟩ := h5
  simp [Cond.before, Cond.holds, Cond.value, h1, h2, h3, h4, g1, g2, g3, g4, g5, g6]
def isCode : Jvm.Cond → Bool
  | .code _ _ _ _ => true
  | _ => false
theorem all_split {L : List Jvm.Cond} {P : Jvm.Cond → Bool} (h1 : L.all (fun c => isCode c || P c) = true) (h2 : ∀ c ∈ L.filter isCode, P c = true) : L.all P = true := by
  refine List.all_eq_true.mpr fun c hc => ?_
  have h := List.all_eq_true.mp h1 c hc
  rcases Bool.eq_false_or_eq_true (isCode c) with hi | hi
  · exact h2 c (List.mem_filter.mpr ⟨hc, hi⟩)
  · simpa [hi] using h
set_option maxRecDepth 65536 in
theorem w_c0 : (Jvm.Cond.code x code maxLocals ret).before args0 about1 = true := code_word (m := ⟨1, 1⟩) (meth := k1m1) (c := k1c1) (by decide +kernel) rfl rfl rfl (by decide +kernel)
set_option maxRecDepth 65536 in
theorem w_c1 : (Jvm.Cond.code ({ cls := "com/example/driftwalk/driftwalk/graph/EdgeListReaderParseNumberPinLaw", name := "digitOf", desc := "(JJ)C" } : Jvm.MethodName) method_3_code (4 : Nat) (Option.some Jvm.ClassFile.FieldType.char)).before args0 about1 = true := code_word (m := ⟨1, 2⟩) (meth := k1m2) (c := k1c2) (by decide +kernel) rfl rfl rfl (by decide +kernel)
set_option maxRecDepth 65536 in
theorem w_c2 : (Jvm.Cond.code ({ cls := "com/example/driftwalk/driftwalk/graph/EdgeListReaderParseNumberPinLaw", name := "drawn", desc := "(J)C" } : Jvm.MethodName) method_4_code (2 : Nat) (Option.some Jvm.ClassFile.FieldType.char)).before args0 about1 = true := code_word (m := ⟨1, 3⟩) (meth := k1m3) (c := k1c3) (by decide +kernel) rfl rfl rfl (by decide +kernel)
set_option maxRecDepth 65536 in
theorem w_c3 : (Jvm.Cond.code ({ cls := "java/lang/Math", name := "min", desc := "(II)I" } : Jvm.MethodName) jdk_29_method_69_code (2 : Nat) (Option.some Jvm.ClassFile.FieldType.int)).before args0 about1 = true := code_word (m := ⟨2, 2⟩) (meth := k2m2) (c := k2c2) (by decide +kernel) rfl rfl rfl (by decide +kernel)
set_option maxRecDepth 65536 in
theorem w_c4 : (Jvm.Cond.code ({ cls := "java/lang/Math", name := "max", desc := "(II)I" } : Jvm.MethodName) jdk_29_method_65_code (2 : Nat) (Option.some Jvm.ClassFile.FieldType.int)).before args0 about1 = true := code_word (m := ⟨2, 1⟩) (meth := k2m1) (c := k2c1) (by decide +kernel) rfl rfl rfl (by decide +kernel)
set_option maxRecDepth 65536 in
theorem w_c5 : (Jvm.Cond.code ({ cls := "com/example/driftwalk/driftwalk/graph/EdgeListReaderParseNumberPinLaw", name := "isDigit", desc := "(C)Z" } : Jvm.MethodName) method_5_code (1 : Nat) (Option.some Jvm.ClassFile.FieldType.boolean)).before args0 about1 = true := code_word (m := ⟨1, 4⟩) (meth := k1m4) (c := k1c4) (by decide +kernel) rfl rfl rfl (by decide +kernel)
set_option maxRecDepth 65536 in
theorem w_c6 : (Jvm.Cond.code ({ cls := "com/example/driftwalk/driftwalk/graph/EdgeListReader", name := "parseNumber", desc := "([CII)J" } : Jvm.MethodName) prog_48_method_8_code (7 : Nat) (Option.some Jvm.ClassFile.FieldType.long)).before args0 about1 = true := code_word (m := ⟨3, 1⟩) (meth := k3m1) (c := k3c1) (by decide +kernel) rfl rfl rfl (by decide +kernel)
set_option maxRecDepth 65536 in
theorem w_c7 : (Jvm.Cond.code ({ cls := "com/example/driftwalk/driftwalk/graph/EdgeListReaderParseNumberPinLaw", name := "step", desc := "(JC)J" } : Jvm.MethodName) method_6_code (5 : Nat) (Option.some Jvm.ClassFile.FieldType.long)).before args0 about1 = true := code_word (m := ⟨1, 5⟩) (meth := k1m5) (c := k1c5) (by decide +kernel) rfl rfl rfl (by decide +kernel)
def codes1 : List Jvm.Cond := [Jvm.Cond.code x code maxLocals ret, Jvm.Cond.code ({ cls := "com/example/driftwalk/driftwalk/graph/EdgeListReaderParseNumberPinLaw", name := "digitOf", desc := "(JJ)C" } : Jvm.MethodName) method_3_code (4 : Nat) (Option.some Jvm.ClassFile.FieldType.char), Jvm.Cond.code ({ cls := "com/example/driftwalk/driftwalk/graph/EdgeListReaderParseNumberPinLaw", name := "drawn", desc := "(J)C" } : Jvm.MethodName) method_4_code (2 : Nat) (Option.some Jvm.ClassFile.FieldType.char), Jvm.Cond.code ({ cls := "java/lang/Math", name := "min", desc := "(II)I" } : Jvm.MethodName) jdk_29_method_69_code (2 : Nat) (Option.some Jvm.ClassFile.FieldType.int), Jvm.Cond.code ({ cls := "java/lang/Math", name := "max", desc := "(II)I" } : Jvm.MethodName) jdk_29_method_65_code (2 : Nat) (Option.some Jvm.ClassFile.FieldType.int), Jvm.Cond.code ({ cls := "com/example/driftwalk/driftwalk/graph/EdgeListReaderParseNumberPinLaw", name := "isDigit", desc := "(C)Z" } : Jvm.MethodName) method_5_code (1 : Nat) (Option.some Jvm.ClassFile.FieldType.boolean), Jvm.Cond.code ({ cls := "com/example/driftwalk/driftwalk/graph/EdgeListReader", name := "parseNumber", desc := "([CII)J" } : Jvm.MethodName) prog_48_method_8_code (7 : Nat) (Option.some Jvm.ClassFile.FieldType.long), Jvm.Cond.code ({ cls := "com/example/driftwalk/driftwalk/graph/EdgeListReaderParseNumberPinLaw", name := "step", desc := "(JC)J" } : Jvm.MethodName) method_6_code (5 : Nat) (Option.some Jvm.ClassFile.FieldType.long)]
set_option maxRecDepth 65536 in
theorem codes_eq : words1.filter isCode = codes1 := rfl
theorem w_codes : ∀ c ∈ words1.filter isCode, c.before args0 about1 = true := by
  rw [codes_eq]
  intro c hc
  simp only [codes1, List.mem_cons, List.not_mem_nil, or_false] at hc
  rcases hc with rfl | rfl | rfl | rfl | rfl | rfl | rfl | rfl
  · exact w_c0
  · exact w_c1
  · exact w_c2
  · exact w_c3
  · exact w_c4
  · exact w_c5
  · exact w_c6
  · exact w_c7
set_option maxRecDepth 65536 in
theorem w_t1 : (words1.take 24).all (fun c => isCode c || c.before args0 about1) = true := by decide +kernel
set_option maxRecDepth 65536 in
theorem w_t2 : ((words1.drop 24).take 24).all (fun c => isCode c || c.before args0 about1) = true := by decide +kernel
set_option maxRecDepth 65536 in
theorem w_t3 : ((words1.drop 24).drop 24).all (fun c => isCode c || c.before args0 about1) = true := by decide +kernel
theorem w_tables : (allAtoms (Jvm.Cond.code x code maxLocals ret :: tables_1)).before args0 about1 = true := by
  rw [allAtoms_all]
  show words1.all (fun c => c.before args0 about1) = true
  refine all_split ?_ w_codes
  rw [← List.take_append_drop 24 words1, List.all_append, w_t1, ← List.take_append_drop 24 (words1.drop 24), List.all_append, w_t2, w_t3]
  rfl
set_option maxRecDepth 65536 in
theorem w_case : (Jvm.Cond.and given_1 narrow_1).before args0 about1 = true := by decide +kernel
theorem w_applies : (headSpec (Jvm.Cond.code x code maxLocals ret :: tables_1) room_1).applies x e0.platform about1 = true :=
  (Spec.applies_iff w_frames).mpr ⟨w_running, w_runnable, w_alone, w_named, w_hears, w_ripe, w_room, w_tables⟩
theorem atStart : AtStart classFile x code maxLocals ret World_1 tables_1 room_1 Calls_1 rest_1 Pre_1 launch0 p0 e0 about1 theMethod args0 below0 :=
  ⟨lists_1, trivial, launch0.admits_env _ _ _, launch0.least_env, fairChoices_fair.cas, fairChoices_fair.clock, w_frames, w_args, w_heap, w_applies, trivial, trivial, w_case⟩
end start1
theorem witness_1 : WitnessClaimed_1 := ⟨start1.p0, start1.e0, start1.about1, start1.theMethod, start1.args0, start1.below0, start1.atStart⟩
end Jvm.Pilot.@@N@@
