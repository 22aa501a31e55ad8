import JvmDerived
import JvmDerived.Pilot.@@N@@Statement
import JvmDerived.Pilot.@@N@@Code
set_option linter.unusedVariables false
set_option linter.unusedSimpArgs false
namespace Jvm.RoadKit
open Sem ClassFile Op Lib Jvm.Stand Jvm.Free Jvm.LawKit
section New
variable {p : Program} {l : Launch} {e : Env} {R : Room} {s : State} {m : MethodId} {args : Array Value} {below : List Frame} {meth : Method} {c : Code} {T : State} {locs : List Loc} {cells slots : Nat}
theorem retI (X : Stand p l e R s m args below meth c T locs cells slots) (hx : p.tables.exec = Jvm.exec) {pc : Nat} {Ls : Array Slot} {z : Int32} {rest : List Value} (hret : meth.sig.returnType = some .int) (hd : decode c.code pc = .ok (.ireturn, 1)) {fs : List Frame}
    (hl : ∀ (f : JFrame) (acts : List Action), f.method = m → f.locked = none → f.entered = [] → (doReturn e (T.setTop f) acts (some (.int z))).1 = T.setFrames fs) : Steps p.tables e below (T.setTop (mkF m pc Ls (.int z :: rest))) (T.setFrames fs) := by
  have hm' : T.vm.method? m = some meth := X.method'
  have hn : narrow .int (.int z) = .int z := rfl
  show Steps p.tables e below (T.setTop { method := m, pc := pc, locals := Ls, stack := _ :: rest, locked := none }) _
  jvm_step X.here [X.here.top, hx, hd, hm', hret, hn]
  first | (intro acts; rw [hl _ acts rfl rfl rfl]) | rw [hl _ _ rfl rfl rfl]
  exact Steps.refl _
end New
end Jvm.RoadKit
namespace Jvm.Own
open Jvm Jvm.ClassFile Sem Op Lib Jvm.Free Jvm.Stand Jvm.LawKit Jvm.RoadKit Bundle
/-! ## A walk by continuations: `Goes` says that the run from here comes to a state with K; each rule takes one instruction off. -/
def Goes (p : Program) (e : Env) (below : List Frame) (K : State → Prop) (T : State) (m : MethodId) (pc : Nat) (L : Array Slot) (S : List Value) : Prop :=
  ∃ u, Steps p.tables e below (T.setTop (mkF m pc L S)) u ∧ K u
/-- where one body's walk stands: the standing facts, the state T with the heap h, what was written lies in new cells -/
def Wk (p : Program) (l : Launch) (e : Env) (R : Room) (s : State) (m : MethodId) (args : Array Value) (below : List Frame) (meth : Method) (c : Code) (Z : State) (n0 : Nat) (y : MethodName) (code : ByteArray) (ml : Nat) (ret : Option FieldType)
    (T : State) (cells slots : Nat) (h : Heap) : Prop :=
  p.tables.exec = Jvm.exec ∧ Z.Warmed39 s.vm ∧ c.code = code ∧ c.maxLocals = ml ∧ s.vm.findClass y.cls = some m.cls ∧ meth.name = y.name ∧ meth.sig.returnType = ret ∧ meth.locks = false ∧ n0 ≤ h.size ∧
  ∃ locs, Stand p l e R s m args below meth c T locs cells slots ∧ T.heap = h ∧ Fr n0 locs
def Qc (n0 : Nat) (w : Option Value) (Q : Heap → Prop) (v : Option Value) (h : Heap) (L : List Loc) : Prop := v = w ∧ Q h ∧ Fr n0 L ∧ n0 ≤ h.size
/-- what a body's end says: it returned w, the heap satisfies Q -/
def Done (below : List Frame) (s : State) (n0 : Nat) (R : Room) (w : Option Value) (Q : Heap → Prop) (u : State) : Prop :=
  ∃ o, u.status = .running ∧ Ended u below o ∧ ∃ v L, o = .returned v ∧ Qc n0 w Q v u.heap L ∧ FrameEnd s o u L R.cells R.slots
/-- a body's contract -/
def Con (l : Launch) (Z : State) (y : MethodName) (code : ByteArray) (ml : Nat) (ret : Option FieldType) (R : Room) (as : Array Value) (h0 : Heap) (n0 : Nat) (w : Option Value) (Q : Heap → Prop) : Prop :=
  ∀ ws, MetFree l y (head1 (Jvm.Cond.code y code ml ret :: ws) R) (fun a U => a = as ∧ Z.Warmed39 U.vm ∧ U.heap = h0) (fun _ _ _ _ _ => True)
    (fun _ U o U' => ∃ v L, o = .returned v ∧ Qc n0 w Q v U'.heap L ∧ FrameEnd U o U' L R.cells R.slots)
theorem con_of {l : Launch} {Z : State} {y : MethodName} {code : ByteArray} {ml : Nat} {ret : Option FieldType} {R : Room} {as : Array Value} {h0 : Heap} {n0 : Nat} {w : Option Value} {Q : Heap → Prop}
    (hpl : plainFor y = true) (hn0 : n0 ≤ h0.size) {L0 : Array Slot} (hL : ∀ m, entryFrame m as ml = mkF m 0 L0 [])
    (body : ∀ (p : Program) (e : Env) (s : State) (m : MethodId) (below : List Frame) (meth : Method) (c : Code) (T : State), Wk p l e R s m as below meth c Z n0 y code ml ret T 0 0 h0 → Goes p e below (Done below s n0 R w Q) T m 0 L0 []) :
    Con l Z y code ml ret R as h0 n0 w Q := by
  intro ws
  refine MetFree.of_bodySF hpl hisR ?_
  intro p e s m args below meth c s₁ Bd hml0 hP hK
  obtain ⟨rfl, hZ, hh⟩ := hP
  have X0 : Stand p l e R s m args below meth c s₁ [] 0 0 := Stand.of_body Bd
  have e0 : s₁.heap = h0 := by rw [← hh, Bd.state]; rfl
  obtain ⟨u, st, o, h1, h2, h3⟩ := body p e s m below meth c s₁ ⟨Bd.exec, hZ, Bd.bytes, hml0, findClass_of_methodNamed Bd.named, (name_of_methodNamed Bd.named Bd.method).1, Bd.returns, Bd.notSynchronized, hn0, [], X0, e0, Fr.nil n0⟩
  exact ⟨u, o, castTop (hL m) st, h1, h2, h3⟩
/-- Java's >>> -/
def ush (a b : Int32) : Int32 := (a.toUInt32 >>> (b &&& 31).toUInt32).toInt32
def ushL (a : Int64) (b : Int32) : Int64 := (a.toUInt64 >>> (b &&& 0x3f).toInt64.toUInt64).toInt64
/-- a local that holds nothing, or one word -/
def OneS (s : Slot) : Prop := s = .unset ∨ ∃ w : Value, s = .val w ∧ w.category = 1
theorem OneS.u : OneS .unset := Or.inl rfl
theorem OneS.i (z : Int32) : OneS (.val (.int z)) := Or.inr ⟨_, rfl, rfl⟩
theorem OneS.r (z : Addr) : OneS (.val (.ref z)) := Or.inr ⟨_, rfl, rfl⟩
section Rules
variable {p : Program} {l : Launch} {e : Env} {R : Room} {s : State} {m : MethodId} {args : Array Value} {below : List Frame} {meth : Method} {c : Code} {Z : State} {n0 : Nat} {y : MethodName} {code : ByteArray} {ml : Nat} {ret : Option FieldType}
  {T : State} {cells slots : Nat} {h : Heap} {K : State → Prop} {L : Array Slot} {S : List Value} {pc pc' : Nat} {a0 : Array Value}
theorem Goes.via {T' : State} {L' : Array Slot} {S' : List Value} (st : ∀ target, Steps p.tables e below (T'.setTop (mkF m pc' L' S')) target → Steps p.tables e below (T.setTop (mkF m pc L S)) target) (g : Goes p e below K T' m pc' L' S') : Goes p e below K T m pc L S := by
  obtain ⟨u, a, b⟩ := g
  exact ⟨u, st _ a, b⟩
theorem Wk.size (X : Wk p l e R s m args below meth c Z n0 y code ml ret T cells slots h) : n0 ≤ h.size := X.2.2.2.2.2.2.2.2.1
-- plain steps
theorem w_iloadN (X : Wk p l e R s m args below meth c Z n0 y code ml ret T cells slots h) {k : Fin 4} {v : Int32} (hd : decode code pc = .ok (.iload_n k, 1)) (hp : pc + 1 = pc') (hl : L[k.val]? = some (.val (.int v))) (g : Goes p e below K T m pc' L (.int v :: S)) : Goes p e below K T m pc L S := by
  obtain ⟨hx, -, hby, -, -, -, -, -, -, locs, X, -, -⟩ := X
  subst hp
  obtain ⟨u1, a1, b1⟩ := g
  exact ⟨u1, XS.iloadN (g := mkF m pc L S) X.here hx rfl (hb hby hd) hl a1, b1⟩
theorem w_iload (X : Wk p l e R s m args below meth c Z n0 y code ml ret T cells slots h) {k : Nat} {v : Int32} (hd : decode code pc = .ok (.iload k, 2)) (hp : pc + 2 = pc') (hl : L[k]? = some (.val (.int v))) (g : Goes p e below K T m pc' L (.int v :: S)) : Goes p e below K T m pc L S := by
  obtain ⟨hx, -, hby, -, -, -, -, -, -, locs, X, -, -⟩ := X
  subst hp
  obtain ⟨u1, a1, b1⟩ := g
  exact ⟨u1, XS.iload (g := mkF m pc L S) X.here hx rfl (hb hby hd) hl a1, b1⟩
theorem w_lloadN (X : Wk p l e R s m args below meth c Z n0 y code ml ret T cells slots h) {k : Fin 4} {v : Int64} (hd : decode code pc = .ok (.lload_n k, 1)) (hp : pc + 1 = pc') (hl : L[k.val]? = some (.val (.long v))) (g : Goes p e below K T m pc' L (.long v :: S)) : Goes p e below K T m pc L S := by
  obtain ⟨hx, -, hby, -, -, -, -, -, -, locs, X, -, -⟩ := X
  subst hp
  obtain ⟨u1, a1, b1⟩ := g
  exact ⟨u1, XS.lloadN (g := mkF m pc L S) X.here hx rfl (hb hby hd) hl a1, b1⟩
theorem w_lload (X : Wk p l e R s m args below meth c Z n0 y code ml ret T cells slots h) {k : Nat} {v : Int64} (hd : decode code pc = .ok (.lload k, 2)) (hp : pc + 2 = pc') (hl : L[k]? = some (.val (.long v))) (g : Goes p e below K T m pc' L (.long v :: S)) : Goes p e below K T m pc L S := by
  obtain ⟨hx, -, hby, -, -, -, -, -, -, locs, X, -, -⟩ := X
  subst hp
  obtain ⟨u1, a1, b1⟩ := g
  exact ⟨u1, XS.lload (g := mkF m pc L S) X.here hx rfl (hb hby hd) hl a1, b1⟩
theorem w_aloadN (X : Wk p l e R s m args below meth c Z n0 y code ml ret T cells slots h) {k : Fin 4} {v : Value} (hd : decode code pc = .ok (.aload_n k, 1)) (hp : pc + 1 = pc') (hl : L[k.val]? = some (.val v)) (hv : v.isRef = true) (g : Goes p e below K T m pc' L (v :: S)) : Goes p e below K T m pc L S := by
  obtain ⟨hx, -, hby, -, -, -, -, -, -, locs, X, -, -⟩ := X
  subst hp
  obtain ⟨u1, a1, b1⟩ := g
  exact ⟨u1, XS.aloadN (g := mkF m pc L S) X.here hx rfl (hb hby hd) hl hv a1, b1⟩
theorem w_aload (X : Wk p l e R s m args below meth c Z n0 y code ml ret T cells slots h) {k : Nat} {v : Value} (hd : decode code pc = .ok (.aload k, 2)) (hp : pc + 2 = pc') (hl : L[k]? = some (.val v)) (hv : v.isRef = true) (g : Goes p e below K T m pc' L (v :: S)) : Goes p e below K T m pc L S := by
  obtain ⟨hx, -, hby, -, -, -, -, -, -, locs, X, -, -⟩ := X
  subst hp
  obtain ⟨u1, a1, b1⟩ := g
  exact ⟨u1, XS.aload (g := mkF m pc L S) X.here hx rfl (hb hby hd) hl hv a1, b1⟩
theorem w_istoreN (X : Wk p l e R s m args below meth c Z n0 y code ml ret T cells slots h) {k : Fin 4} {v : Int32} {L' : Array Slot} (hd : decode code pc = .ok (.istore_n k, 1)) (hp : pc + 1 = pc') (hl : storeLocals L k.val (.int v) = some L') (g : Goes p e below K T m pc' L' S) : Goes p e below K T m pc L (.int v :: S) := by
  obtain ⟨hx, -, hby, -, -, -, -, -, -, locs, X, -, -⟩ := X
  subst hp
  obtain ⟨u1, a1, b1⟩ := g
  exact ⟨u1, XS.istoreN (g := mkF m pc L (.int v :: S)) X.here hx rfl (hb hby hd) rfl hl a1, b1⟩
theorem w_istore (X : Wk p l e R s m args below meth c Z n0 y code ml ret T cells slots h) {k : Nat} {v : Int32} {L' : Array Slot} (hd : decode code pc = .ok (.istore k, 2)) (hp : pc + 2 = pc') (hl : storeLocals L k (.int v) = some L') (g : Goes p e below K T m pc' L' S) : Goes p e below K T m pc L (.int v :: S) := by
  obtain ⟨hx, -, hby, -, -, -, -, -, -, locs, X, -, -⟩ := X
  subst hp
  obtain ⟨u1, a1, b1⟩ := g
  exact ⟨u1, XS.istore (g := mkF m pc L (.int v :: S)) X.here hx rfl (hb hby hd) rfl hl a1, b1⟩
theorem w_lstoreN (X : Wk p l e R s m args below meth c Z n0 y code ml ret T cells slots h) {k : Fin 4} {v : Int64} {L' : Array Slot} (hd : decode code pc = .ok (.lstore_n k, 1)) (hp : pc + 1 = pc') (hl : storeLocals L k.val (.long v) = some L') (g : Goes p e below K T m pc' L' S) : Goes p e below K T m pc L (.long v :: S) := by
  obtain ⟨hx, -, hby, -, -, -, -, -, -, locs, X, -, -⟩ := X
  subst hp
  obtain ⟨u1, a1, b1⟩ := g
  exact ⟨u1, XS.lstoreN (g := mkF m pc L (.long v :: S)) X.here hx rfl (hb hby hd) rfl hl a1, b1⟩
theorem w_lstore (X : Wk p l e R s m args below meth c Z n0 y code ml ret T cells slots h) {k : Nat} {v : Int64} {L' : Array Slot} (hd : decode code pc = .ok (.lstore k, 2)) (hp : pc + 2 = pc') (hl : storeLocals L k (.long v) = some L') (g : Goes p e below K T m pc' L' S) : Goes p e below K T m pc L (.long v :: S) := by
  obtain ⟨hx, -, hby, -, -, -, -, -, -, locs, X, -, -⟩ := X
  subst hp
  obtain ⟨u1, a1, b1⟩ := g
  exact ⟨u1, XS.lstore (g := mkF m pc L (.long v :: S)) X.here hx rfl (hb hby hd) rfl hl a1, b1⟩
theorem w_astoreN (X : Wk p l e R s m args below meth c Z n0 y code ml ret T cells slots h) {k : Fin 4} {v : Value} {L' : Array Slot} (hd : decode code pc = .ok (.astore_n k, 1)) (hp : pc + 1 = pc') (hv : v.isRef = true) (hl : storeLocals L k.val v = some L') (g : Goes p e below K T m pc' L' S) : Goes p e below K T m pc L (v :: S) := by
  obtain ⟨hx, -, hby, -, -, -, -, -, -, locs, X, -, -⟩ := X
  subst hp
  obtain ⟨u1, a1, b1⟩ := g
  exact ⟨u1, XS.astoreN (g := mkF m pc L (v :: S)) X.here hx rfl (hb hby hd) rfl hv hl a1, b1⟩
theorem w_astore (X : Wk p l e R s m args below meth c Z n0 y code ml ret T cells slots h) {k : Nat} {v : Value} {L' : Array Slot} (hd : decode code pc = .ok (.astore k, 2)) (hp : pc + 2 = pc') (hv : v.isRef = true) (hl : storeLocals L k v = some L') (g : Goes p e below K T m pc' L' S) : Goes p e below K T m pc L (v :: S) := by
  obtain ⟨hx, -, hby, -, -, -, -, -, -, locs, X, -, -⟩ := X
  subst hp
  obtain ⟨u1, a1, b1⟩ := g
  exact ⟨u1, XS.astore (g := mkF m pc L (v :: S)) X.here hx rfl (hb hby hd) rfl hv hl a1, b1⟩
theorem w_iconst (X : Wk p l e R s m args below meth c Z n0 y code ml ret T cells slots h) {i : Int} {v : Int32} (hd : decode code pc = .ok (.iconst i, 1)) (hp : pc + 1 = pc') (hv : Int32.ofInt i = v) (g : Goes p e below K T m pc' L (.int v :: S)) : Goes p e below K T m pc L S := by
  obtain ⟨hx, -, hby, -, -, -, -, -, -, locs, X, -, -⟩ := X
  subst hp hv
  obtain ⟨u1, a1, b1⟩ := g
  exact ⟨u1, XS.iconst (g := mkF m pc L S) X.here hx rfl (hb hby hd) a1, b1⟩
theorem w_bipush (X : Wk p l e R s m args below meth c Z n0 y code ml ret T cells slots h) {i : Int} {v : Int32} (hd : decode code pc = .ok (.bipush i, 2)) (hp : pc + 2 = pc') (hv : (Int8.ofInt i).toInt32 = v) (g : Goes p e below K T m pc' L (.int v :: S)) : Goes p e below K T m pc L S := by
  obtain ⟨hx, -, hby, -, -, -, -, -, -, locs, X, -, -⟩ := X
  subst hp hv
  obtain ⟨u1, a1, b1⟩ := g
  exact ⟨u1, XS.bipush (g := mkF m pc L S) X.here hx rfl (hb hby hd) a1, b1⟩
theorem w_sipush (X : Wk p l e R s m args below meth c Z n0 y code ml ret T cells slots h) {i : Int} {v : Int32} (hd : decode code pc = .ok (.sipush i, 3)) (hp : pc + 3 = pc') (hv : (Int16.ofInt i).toInt32 = v) (g : Goes p e below K T m pc' L (.int v :: S)) : Goes p e below K T m pc L S := by
  obtain ⟨hx, -, hby, -, -, -, -, -, -, locs, X, -, -⟩ := X
  subst hp hv
  obtain ⟨u1, a1, b1⟩ := g
  exact ⟨u1, XS.sipush (g := mkF m pc L S) X.here hx rfl (hb hby hd) a1, b1⟩
theorem w_lconst (X : Wk p l e R s m args below meth c Z n0 y code ml ret T cells slots h) {i : Fin 2} {v : Int64} (hd : decode code pc = .ok (.lconst i, 1)) (hp : pc + 1 = pc') (hv : Int64.ofNat i = v) (g : Goes p e below K T m pc' L (.long v :: S)) : Goes p e below K T m pc L S := by
  obtain ⟨hx, -, hby, -, -, -, -, -, -, locs, X, -, -⟩ := X
  subst hp hv
  obtain ⟨u1, a1, b1⟩ := g
  exact ⟨u1, XS.lconst (g := mkF m pc L S) X.here hx rfl (hb hby hd) a1, b1⟩
theorem w_ldcInt (X : Wk p l e R s m args below meth c Z n0 y code ml ret T cells slots h) {i : Nat} {v : Int32} (hc : (Jvm.Cond.constant y.cls i v).before a0 Z = true) (hd : decode code pc = .ok (.ldc i, 2)) (hp : pc + 2 = pc') (g : Goes p e below K T m pc' L (.int v :: S)) : Goes p e below K T m pc L S := by
  obtain ⟨hx, hZ, hby, -, hown, -, -, -, -, locs, X, -, -⟩ := X
  subst hp
  obtain ⟨u1, a1, b1⟩ := g
  exact ⟨u1, X.ldcInt hx hown (mvT hZ hc) (g := mkF m pc L S) rfl (hb hby hd) _ a1, b1⟩
theorem w_ldc2Long (X : Wk p l e R s m args below meth c Z n0 y code ml ret T cells slots h) {i : Nat} {v : Int64} (hc : (Jvm.Cond.constantLong y.cls i v).before a0 Z = true) (hd : decode code pc = .ok (.ldc2_w i, 3)) (hp : pc + 3 = pc') (g : Goes p e below K T m pc' L (.long v :: S)) : Goes p e below K T m pc L S := by
  obtain ⟨hx, hZ, hby, -, hown, -, -, -, -, locs, X, -, -⟩ := X
  subst hp
  obtain ⟨u1, a1, b1⟩ := g
  exact ⟨u1, X.ldc2Long hx hown (mvT hZ hc) (g := mkF m pc L S) rfl (hb hby hd) _ a1, b1⟩
theorem w_iinc (X : Wk p l e R s m args below meth c Z n0 y code ml ret T cells slots h) {k : Nat} {d : Int} {v v' : Int32} {L' : Array Slot} (hd : decode code pc = .ok (.iinc k d, 3)) (hp : pc + 3 = pc') (hl : L[k]? = some (.val (.int v))) (hv : v + Int32.ofInt d = v') (hl' : storeLocals L k (.int v') = some L') (g : Goes p e below K T m pc' L' S) : Goes p e below K T m pc L S := by
  obtain ⟨hx, -, hby, -, -, -, -, -, -, locs, X, -, -⟩ := X
  subst hp hv
  obtain ⟨u1, a1, b1⟩ := g
  exact ⟨u1, XS.iinc (g := mkF m pc L S) X.here hx rfl (hb hby hd) hl hl' a1, b1⟩
theorem w_goto (X : Wk p l e R s m args below meth c Z n0 y code ml ret T cells slots h) {o : Int} (hd : decode code pc = .ok (.goto o, 3)) (ho : 0 ≤ (pc : Int) + o) (hp : ((pc : Int) + o).toNat = pc') (g : Goes p e below K T m pc' L S) : Goes p e below K T m pc L S := by
  obtain ⟨hx, -, hby, -, -, -, -, -, -, locs, X, -, -⟩ := X
  obtain ⟨u1, a1, b1⟩ := g
  exact ⟨u1, XS.goto (g := mkF m pc L S) X.here hx rfl (pc0 := pc) rfl (hb hby hd) ho hp a1, b1⟩
theorem w_dup (X : Wk p l e R s m args below meth c Z n0 y code ml ret T cells slots h) {v : Value} (hd : decode code pc = .ok (.dup, 1)) (hp : pc + 1 = pc') (hv : v.category = 1) (g : Goes p e below K T m pc' L (v :: v :: S)) : Goes p e below K T m pc L (v :: S) := by
  obtain ⟨hx, -, hby, -, -, -, -, -, -, locs, X, -, -⟩ := X
  subst hp
  obtain ⟨u1, a1, b1⟩ := g
  exact ⟨u1, XS.dup (g := mkF m pc L (v :: S)) X.here hx rfl (hb hby hd) rfl hv a1, b1⟩
theorem w_dup2 (X : Wk p l e R s m args below meth c Z n0 y code ml ret T cells slots h) {v w : Value} (hd : decode code pc = .ok (.dup2, 1)) (hp : pc + 1 = pc') (hv : v.category = 1) (hw : w.category = 1) (g : Goes p e below K T m pc' L (v :: w :: v :: w :: S)) : Goes p e below K T m pc L (v :: w :: S) := by
  obtain ⟨hx, -, hby, -, -, -, -, -, -, locs, X, -, -⟩ := X
  subst hp
  obtain ⟨u1, a1, b1⟩ := g
  exact ⟨u1, Jvm.Free.XT.dup2 (g := mkF m pc L (v :: w :: S)) X.here hx rfl (hb hby hd) rfl hv hw a1, b1⟩
theorem w_pop (X : Wk p l e R s m args below meth c Z n0 y code ml ret T cells slots h) {v : Value} (hd : decode code pc = .ok (.pop, 1)) (hp : pc + 1 = pc') (hv : v.category = 1) (g : Goes p e below K T m pc' L S) : Goes p e below K T m pc L (v :: S) := by
  obtain ⟨hx, -, hby, -, -, -, -, -, -, locs, X, -, -⟩ := X
  subst hp
  obtain ⟨u1, a1, b1⟩ := g
  exact ⟨u1, XS.pop (g := mkF m pc L (v :: S)) X.here hx rfl (hb hby hd) rfl hv a1, b1⟩
theorem w_dupX1 (X : Wk p l e R s m args below meth c Z n0 y code ml ret T cells slots h) {v w : Value} (hd : decode code pc = .ok (.dup_x1, 1)) (hp : pc + 1 = pc') (hv : v.category = 1) (hw : w.category = 1) (g : Goes p e below K T m pc' L (v :: w :: v :: S)) : Goes p e below K T m pc L (v :: w :: S) := by
  obtain ⟨hx, -, hby, -, -, -, -, -, -, locs, X, -, -⟩ := X
  subst hp
  obtain ⟨u1, a1, b1⟩ := g
  exact ⟨u1, XS.dupX1 (g := mkF m pc L (v :: w :: S)) X.here hx rfl (hb hby hd) rfl hv hw a1, b1⟩
theorem w_null (X : Wk p l e R s m args below meth c Z n0 y code ml ret T cells slots h) (hd : decode code pc = .ok (.aconst_null, 1)) (hp : pc + 1 = pc') (g : Goes p e below K T m pc' L (.null :: S)) : Goes p e below K T m pc L S := by
  obtain ⟨hx, -, hby, -, -, -, -, -, -, locs, X, -, -⟩ := X
  subst hp
  obtain ⟨u1, a1, b1⟩ := g
  exact ⟨u1, XS.aconstNull (g := mkF m pc L S) X.here hx rfl (hb hby hd) a1, b1⟩
theorem w_ifnullYes (X : Wk p l e R s m args below meth c Z n0 y code ml ret T cells slots h) {o : Int} (hd : decode code pc = .ok (.ifnull o, 3)) (ho : 0 ≤ (pc : Int) + o) (hp : ((pc : Int) + o).toNat = pc') (g : Goes p e below K T m pc' L S) : Goes p e below K T m pc L (.null :: S) := by
  obtain ⟨hx, -, hby, -, -, -, -, -, -, locs, X, -, -⟩ := X
  obtain ⟨u1, a1, b1⟩ := g
  exact ⟨u1, XS.ifnullYes (g := mkF m pc L (.null :: S)) X.here hx rfl (pc0 := pc) rfl (hb hby hd) rfl ho hp a1, b1⟩
theorem w_ifnullNo (X : Wk p l e R s m args below meth c Z n0 y code ml ret T cells slots h) {o : Int} {a : Addr} (hd : decode code pc = .ok (.ifnull o, 3)) (hp : pc + 3 = pc') (g : Goes p e below K T m pc' L S) : Goes p e below K T m pc L (.ref a :: S) := by
  obtain ⟨hx, -, hby, -, -, -, -, -, -, locs, X, -, -⟩ := X
  subst hp
  obtain ⟨u1, a1, b1⟩ := g
  exact ⟨u1, XS.ifnullNo (g := mkF m pc L (.ref a :: S)) X.here hx rfl (hb hby hd) rfl a1, b1⟩
theorem w_ifnonnullYes (X : Wk p l e R s m args below meth c Z n0 y code ml ret T cells slots h) {o : Int} {a : Addr} (hd : decode code pc = .ok (.ifnonnull o, 3)) (ho : 0 ≤ (pc : Int) + o) (hp : ((pc : Int) + o).toNat = pc') (g : Goes p e below K T m pc' L S) : Goes p e below K T m pc L (.ref a :: S) := by
  obtain ⟨hx, -, hby, -, -, -, -, -, -, locs, X, -, -⟩ := X
  obtain ⟨u1, a1, b1⟩ := g
  exact ⟨u1, XS.ifnonnullYes (g := mkF m pc L (.ref a :: S)) X.here hx rfl (pc0 := pc) rfl (hb hby hd) rfl ho hp a1, b1⟩
theorem w_ifnonnullNo (X : Wk p l e R s m args below meth c Z n0 y code ml ret T cells slots h) {o : Int} (hd : decode code pc = .ok (.ifnonnull o, 3)) (hp : pc + 3 = pc') (g : Goes p e below K T m pc' L S) : Goes p e below K T m pc L (.null :: S) := by
  obtain ⟨hx, -, hby, -, -, -, -, -, -, locs, X, -, -⟩ := X
  subst hp
  obtain ⟨u1, a1, b1⟩ := g
  exact ⟨u1, XS.ifnonnullNo (g := mkF m pc L (.null :: S)) X.here hx rfl (hb hby hd) rfl a1, b1⟩
theorem w_iadd (X : Wk p l e R s m args below meth c Z n0 y code ml ret T cells slots h) {a b : Int32} (hd : decode code pc = .ok (.iadd, 1)) (hp : pc + 1 = pc') (g : Goes p e below K T m pc' L (.int (a + b) :: S)) : Goes p e below K T m pc L (.int b :: .int a :: S) := by
  obtain ⟨hx, -, hby, -, -, -, -, -, -, locs, X, -, -⟩ := X
  subst hp
  obtain ⟨u1, a1, b1⟩ := g
  exact ⟨u1, XS.iadd (g := mkF m pc L (.int b :: .int a :: S)) X.here hx rfl (hb hby hd) rfl a1, b1⟩
theorem w_ladd (X : Wk p l e R s m args below meth c Z n0 y code ml ret T cells slots h) {a b : Int64} (hd : decode code pc = .ok (.ladd, 1)) (hp : pc + 1 = pc') (g : Goes p e below K T m pc' L (.long (a + b) :: S)) : Goes p e below K T m pc L (.long b :: .long a :: S) := by
  obtain ⟨hx, -, hby, -, -, -, -, -, -, locs, X, -, -⟩ := X
  subst hp
  obtain ⟨u1, a1, b1⟩ := g
  exact ⟨u1, XS.ladd (g := mkF m pc L (.long b :: .long a :: S)) X.here hx rfl (hb hby hd) rfl a1, b1⟩
theorem w_isub (X : Wk p l e R s m args below meth c Z n0 y code ml ret T cells slots h) {a b : Int32} (hd : decode code pc = .ok (.isub, 1)) (hp : pc + 1 = pc') (g : Goes p e below K T m pc' L (.int (a - b) :: S)) : Goes p e below K T m pc L (.int b :: .int a :: S) := by
  obtain ⟨hx, -, hby, -, -, -, -, -, -, locs, X, -, -⟩ := X
  subst hp
  obtain ⟨u1, a1, b1⟩ := g
  exact ⟨u1, XS.isub (g := mkF m pc L (.int b :: .int a :: S)) X.here hx rfl (hb hby hd) rfl a1, b1⟩
theorem w_lsub (X : Wk p l e R s m args below meth c Z n0 y code ml ret T cells slots h) {a b : Int64} (hd : decode code pc = .ok (.lsub, 1)) (hp : pc + 1 = pc') (g : Goes p e below K T m pc' L (.long (a - b) :: S)) : Goes p e below K T m pc L (.long b :: .long a :: S) := by
  obtain ⟨hx, -, hby, -, -, -, -, -, -, locs, X, -, -⟩ := X
  subst hp
  obtain ⟨u1, a1, b1⟩ := g
  exact ⟨u1, XS.lsub (g := mkF m pc L (.long b :: .long a :: S)) X.here hx rfl (hb hby hd) rfl a1, b1⟩
theorem w_imul (X : Wk p l e R s m args below meth c Z n0 y code ml ret T cells slots h) {a b : Int32} (hd : decode code pc = .ok (.imul, 1)) (hp : pc + 1 = pc') (g : Goes p e below K T m pc' L (.int (a * b) :: S)) : Goes p e below K T m pc L (.int b :: .int a :: S) := by
  obtain ⟨hx, -, hby, -, -, -, -, -, -, locs, X, -, -⟩ := X
  subst hp
  obtain ⟨u1, a1, b1⟩ := g
  exact ⟨u1, XS.imul (g := mkF m pc L (.int b :: .int a :: S)) X.here hx rfl (hb hby hd) rfl a1, b1⟩
theorem w_lmul (X : Wk p l e R s m args below meth c Z n0 y code ml ret T cells slots h) {a b : Int64} (hd : decode code pc = .ok (.lmul, 1)) (hp : pc + 1 = pc') (g : Goes p e below K T m pc' L (.long (a * b) :: S)) : Goes p e below K T m pc L (.long b :: .long a :: S) := by
  obtain ⟨hx, -, hby, -, -, -, -, -, -, locs, X, -, -⟩ := X
  subst hp
  obtain ⟨u1, a1, b1⟩ := g
  exact ⟨u1, XS.lmul (g := mkF m pc L (.long b :: .long a :: S)) X.here hx rfl (hb hby hd) rfl a1, b1⟩
theorem w_iand (X : Wk p l e R s m args below meth c Z n0 y code ml ret T cells slots h) {a b : Int32} (hd : decode code pc = .ok (.iand, 1)) (hp : pc + 1 = pc') (g : Goes p e below K T m pc' L (.int (a &&& b) :: S)) : Goes p e below K T m pc L (.int b :: .int a :: S) := by
  obtain ⟨hx, -, hby, -, -, -, -, -, -, locs, X, -, -⟩ := X
  subst hp
  obtain ⟨u1, a1, b1⟩ := g
  exact ⟨u1, XS.iand (g := mkF m pc L (.int b :: .int a :: S)) X.here hx rfl (hb hby hd) rfl a1, b1⟩
theorem w_land (X : Wk p l e R s m args below meth c Z n0 y code ml ret T cells slots h) {a b : Int64} (hd : decode code pc = .ok (.land, 1)) (hp : pc + 1 = pc') (g : Goes p e below K T m pc' L (.long (a &&& b) :: S)) : Goes p e below K T m pc L (.long b :: .long a :: S) := by
  obtain ⟨hx, -, hby, -, -, -, -, -, -, locs, X, -, -⟩ := X
  subst hp
  obtain ⟨u1, a1, b1⟩ := g
  exact ⟨u1, XS.land (g := mkF m pc L (.long b :: .long a :: S)) X.here hx rfl (hb hby hd) rfl a1, b1⟩
theorem w_ior (X : Wk p l e R s m args below meth c Z n0 y code ml ret T cells slots h) {a b : Int32} (hd : decode code pc = .ok (.ior, 1)) (hp : pc + 1 = pc') (g : Goes p e below K T m pc' L (.int (a ||| b) :: S)) : Goes p e below K T m pc L (.int b :: .int a :: S) := by
  obtain ⟨hx, -, hby, -, -, -, -, -, -, locs, X, -, -⟩ := X
  subst hp
  obtain ⟨u1, a1, b1⟩ := g
  exact ⟨u1, XS.ior (g := mkF m pc L (.int b :: .int a :: S)) X.here hx rfl (hb hby hd) rfl a1, b1⟩
theorem w_lor (X : Wk p l e R s m args below meth c Z n0 y code ml ret T cells slots h) {a b : Int64} (hd : decode code pc = .ok (.lor, 1)) (hp : pc + 1 = pc') (g : Goes p e below K T m pc' L (.long (a ||| b) :: S)) : Goes p e below K T m pc L (.long b :: .long a :: S) := by
  obtain ⟨hx, -, hby, -, -, -, -, -, -, locs, X, -, -⟩ := X
  subst hp
  obtain ⟨u1, a1, b1⟩ := g
  exact ⟨u1, XS.lor (g := mkF m pc L (.long b :: .long a :: S)) X.here hx rfl (hb hby hd) rfl a1, b1⟩
theorem w_ixor (X : Wk p l e R s m args below meth c Z n0 y code ml ret T cells slots h) {a b : Int32} (hd : decode code pc = .ok (.ixor, 1)) (hp : pc + 1 = pc') (g : Goes p e below K T m pc' L (.int (a ^^^ b) :: S)) : Goes p e below K T m pc L (.int b :: .int a :: S) := by
  obtain ⟨hx, -, hby, -, -, -, -, -, -, locs, X, -, -⟩ := X
  subst hp
  obtain ⟨u1, a1, b1⟩ := g
  exact ⟨u1, XS.ixor (g := mkF m pc L (.int b :: .int a :: S)) X.here hx rfl (hb hby hd) rfl a1, b1⟩
theorem w_lxor (X : Wk p l e R s m args below meth c Z n0 y code ml ret T cells slots h) {a b : Int64} (hd : decode code pc = .ok (.lxor, 1)) (hp : pc + 1 = pc') (g : Goes p e below K T m pc' L (.long (a ^^^ b) :: S)) : Goes p e below K T m pc L (.long b :: .long a :: S) := by
  obtain ⟨hx, -, hby, -, -, -, -, -, -, locs, X, -, -⟩ := X
  subst hp
  obtain ⟨u1, a1, b1⟩ := g
  exact ⟨u1, XS.lxor (g := mkF m pc L (.long b :: .long a :: S)) X.here hx rfl (hb hby hd) rfl a1, b1⟩
theorem w_ishl (X : Wk p l e R s m args below meth c Z n0 y code ml ret T cells slots h) {a b : Int32} (hd : decode code pc = .ok (.ishl, 1)) (hp : pc + 1 = pc') (g : Goes p e below K T m pc' L (.int (a <<< (b &&& 31)) :: S)) : Goes p e below K T m pc L (.int b :: .int a :: S) := by
  obtain ⟨hx, -, hby, -, -, -, -, -, -, locs, X, -, -⟩ := X
  subst hp
  obtain ⟨u1, a1, b1⟩ := g
  exact ⟨u1, XS.ishl (g := mkF m pc L (.int b :: .int a :: S)) X.here hx rfl (hb hby hd) rfl a1, b1⟩
theorem w_ishr (X : Wk p l e R s m args below meth c Z n0 y code ml ret T cells slots h) {a b : Int32} (hd : decode code pc = .ok (.ishr, 1)) (hp : pc + 1 = pc') (g : Goes p e below K T m pc' L (.int (a >>> (b &&& 31)) :: S)) : Goes p e below K T m pc L (.int b :: .int a :: S) := by
  obtain ⟨hx, -, hby, -, -, -, -, -, -, locs, X, -, -⟩ := X
  subst hp
  obtain ⟨u1, a1, b1⟩ := g
  exact ⟨u1, XS.ishr (g := mkF m pc L (.int b :: .int a :: S)) X.here hx rfl (hb hby hd) rfl a1, b1⟩
theorem w_iushr (X : Wk p l e R s m args below meth c Z n0 y code ml ret T cells slots h) {a b : Int32} (hd : decode code pc = .ok (.iushr, 1)) (hp : pc + 1 = pc') (g : Goes p e below K T m pc' L (.int (ush a b) :: S)) : Goes p e below K T m pc L (.int b :: .int a :: S) := by
  obtain ⟨hx, -, hby, -, -, -, -, -, -, locs, X, -, -⟩ := X
  subst hp
  obtain ⟨u1, a1, b1⟩ := g
  exact ⟨u1, XS.iushr (g := mkF m pc L (.int b :: .int a :: S)) X.here hx rfl (hb hby hd) rfl a1, b1⟩
theorem w_lshl (X : Wk p l e R s m args below meth c Z n0 y code ml ret T cells slots h) {a : Int64} {b : Int32} (hd : decode code pc = .ok (.lshl, 1)) (hp : pc + 1 = pc') (g : Goes p e below K T m pc' L (.long (a <<< (b &&& 0x3f).toInt64) :: S)) : Goes p e below K T m pc L (.int b :: .long a :: S) := by
  obtain ⟨hx, -, hby, -, -, -, -, -, -, locs, X, -, -⟩ := X
  subst hp
  obtain ⟨u1, a1, b1⟩ := g
  exact ⟨u1, XS.lshl (g := mkF m pc L (.int b :: .long a :: S)) X.here hx rfl (hb hby hd) rfl a1, b1⟩
theorem w_lshr (X : Wk p l e R s m args below meth c Z n0 y code ml ret T cells slots h) {a : Int64} {b : Int32} (hd : decode code pc = .ok (.lshr, 1)) (hp : pc + 1 = pc') (g : Goes p e below K T m pc' L (.long (a >>> (b &&& 0x3f).toInt64) :: S)) : Goes p e below K T m pc L (.int b :: .long a :: S) := by
  obtain ⟨hx, -, hby, -, -, -, -, -, -, locs, X, -, -⟩ := X
  subst hp
  obtain ⟨u1, a1, b1⟩ := g
  exact ⟨u1, XS.lshr (g := mkF m pc L (.int b :: .long a :: S)) X.here hx rfl (hb hby hd) rfl a1, b1⟩
theorem w_lushr (X : Wk p l e R s m args below meth c Z n0 y code ml ret T cells slots h) {a : Int64} {b : Int32} (hd : decode code pc = .ok (.lushr, 1)) (hp : pc + 1 = pc') (g : Goes p e below K T m pc' L (.long (ushL a b) :: S)) : Goes p e below K T m pc L (.int b :: .long a :: S) := by
  obtain ⟨hx, -, hby, -, -, -, -, -, -, locs, X, -, -⟩ := X
  subst hp
  obtain ⟨u1, a1, b1⟩ := g
  exact ⟨u1, XS.lushr (g := mkF m pc L (.int b :: .long a :: S)) X.here hx rfl (hb hby hd) rfl a1, b1⟩
theorem w_ineg (X : Wk p l e R s m args below meth c Z n0 y code ml ret T cells slots h) {a : Int32} (hd : decode code pc = .ok (.ineg, 1)) (hp : pc + 1 = pc') (g : Goes p e below K T m pc' L (.int (-a) :: S)) : Goes p e below K T m pc L (.int a :: S) := by
  obtain ⟨hx, -, hby, -, -, -, -, -, -, locs, X, -, -⟩ := X
  subst hp
  obtain ⟨u1, a1, b1⟩ := g
  exact ⟨u1, XS.ineg (g := mkF m pc L (.int a :: S)) X.here hx rfl (hb hby hd) rfl a1, b1⟩
theorem w_lneg (X : Wk p l e R s m args below meth c Z n0 y code ml ret T cells slots h) {a : Int64} (hd : decode code pc = .ok (.lneg, 1)) (hp : pc + 1 = pc') (g : Goes p e below K T m pc' L (.long (-a) :: S)) : Goes p e below K T m pc L (.long a :: S) := by
  obtain ⟨hx, -, hby, -, -, -, -, -, -, locs, X, -, -⟩ := X
  subst hp
  obtain ⟨u1, a1, b1⟩ := g
  exact ⟨u1, XS.lneg (g := mkF m pc L (.long a :: S)) X.here hx rfl (hb hby hd) rfl a1, b1⟩
theorem w_i2l (X : Wk p l e R s m args below meth c Z n0 y code ml ret T cells slots h) {a : Int32} (hd : decode code pc = .ok (.i2l, 1)) (hp : pc + 1 = pc') (g : Goes p e below K T m pc' L (.long a.toInt64 :: S)) : Goes p e below K T m pc L (.int a :: S) := by
  obtain ⟨hx, -, hby, -, -, -, -, -, -, locs, X, -, -⟩ := X
  subst hp
  obtain ⟨u1, a1, b1⟩ := g
  exact ⟨u1, XS.i2l (g := mkF m pc L (.int a :: S)) X.here hx rfl (hb hby hd) rfl a1, b1⟩
theorem w_l2i (X : Wk p l e R s m args below meth c Z n0 y code ml ret T cells slots h) {a : Int64} (hd : decode code pc = .ok (.l2i, 1)) (hp : pc + 1 = pc') (g : Goes p e below K T m pc' L (.int a.toInt32 :: S)) : Goes p e below K T m pc L (.long a :: S) := by
  obtain ⟨hx, -, hby, -, -, -, -, -, -, locs, X, -, -⟩ := X
  subst hp
  obtain ⟨u1, a1, b1⟩ := g
  exact ⟨u1, XS.l2i (g := mkF m pc L (.long a :: S)) X.here hx rfl (hb hby hd) rfl a1, b1⟩
theorem w_i2b (X : Wk p l e R s m args below meth c Z n0 y code ml ret T cells slots h) {a : Int32} (hd : decode code pc = .ok (.i2b, 1)) (hp : pc + 1 = pc') (g : Goes p e below K T m pc' L (.int a.toInt8.toInt32 :: S)) : Goes p e below K T m pc L (.int a :: S) := by
  obtain ⟨hx, -, hby, -, -, -, -, -, -, locs, X, -, -⟩ := X
  subst hp
  obtain ⟨u1, a1, b1⟩ := g
  exact ⟨u1, XS.i2b (g := mkF m pc L (.int a :: S)) X.here hx rfl (hb hby hd) rfl a1, b1⟩
theorem w_i2s (X : Wk p l e R s m args below meth c Z n0 y code ml ret T cells slots h) {a : Int32} (hd : decode code pc = .ok (.i2s, 1)) (hp : pc + 1 = pc') (g : Goes p e below K T m pc' L (.int a.toInt16.toInt32 :: S)) : Goes p e below K T m pc L (.int a :: S) := by
  obtain ⟨hx, -, hby, -, -, -, -, -, -, locs, X, -, -⟩ := X
  subst hp
  obtain ⟨u1, a1, b1⟩ := g
  exact ⟨u1, XS.i2s (g := mkF m pc L (.int a :: S)) X.here hx rfl (hb hby hd) rfl a1, b1⟩
theorem w_i2c (X : Wk p l e R s m args below meth c Z n0 y code ml ret T cells slots h) {a : Int32} (hd : decode code pc = .ok (.i2c, 1)) (hp : pc + 1 = pc') (g : Goes p e below K T m pc' L (.int a.toUInt32.toUInt16.toUInt32.toInt32 :: S)) : Goes p e below K T m pc L (.int a :: S) := by
  obtain ⟨hx, -, hby, -, -, -, -, -, -, locs, X, -, -⟩ := X
  subst hp
  obtain ⟨u1, a1, b1⟩ := g
  exact ⟨u1, XS.i2c (g := mkF m pc L (.int a :: S)) X.here hx rfl (hb hby hd) rfl a1, b1⟩
theorem w_idiv (X : Wk p l e R s m args below meth c Z n0 y code ml ret T cells slots h) {a b : Int32} (hd : decode code pc = .ok (.idiv, 1)) (hp : pc + 1 = pc') (hb0 : b ≠ 0) (g : Goes p e below K T m pc' L (.int (a / b) :: S)) : Goes p e below K T m pc L (.int b :: .int a :: S) := by
  obtain ⟨hx, -, hby, -, -, -, -, -, -, locs, X, -, -⟩ := X
  subst hp
  obtain ⟨u1, a1, b1⟩ := g
  exact ⟨u1, XS.idiv (g := mkF m pc L (.int b :: .int a :: S)) X.here hx rfl (hb hby hd) rfl hb0 a1, b1⟩
theorem w_irem (X : Wk p l e R s m args below meth c Z n0 y code ml ret T cells slots h) {a b : Int32} (hd : decode code pc = .ok (.irem, 1)) (hp : pc + 1 = pc') (hb0 : b ≠ 0) (g : Goes p e below K T m pc' L (.int (a % b) :: S)) : Goes p e below K T m pc L (.int b :: .int a :: S) := by
  obtain ⟨hx, -, hby, -, -, -, -, -, -, locs, X, -, -⟩ := X
  subst hp
  obtain ⟨u1, a1, b1⟩ := g
  exact ⟨u1, Jvm.RoadKit.iremM (g := mkF m pc L (.int b :: .int a :: S)) X hx rfl (hb hby hd) rfl hb0 a1, b1⟩
theorem w_ldiv (X : Wk p l e R s m args below meth c Z n0 y code ml ret T cells slots h) {a b : Int64} (hd : decode code pc = .ok (.ldiv, 1)) (hp : pc + 1 = pc') (hb0 : b ≠ 0) (g : Goes p e below K T m pc' L (.long (a / b) :: S)) : Goes p e below K T m pc L (.long b :: .long a :: S) := by
  obtain ⟨hx, -, hby, -, -, -, -, -, -, locs, X, -, -⟩ := X
  subst hp
  obtain ⟨u1, a1, b1⟩ := g
  exact ⟨u1, XS.ldiv (g := mkF m pc L (.long b :: .long a :: S)) X.here hx rfl (hb hby hd) rfl hb0 a1, b1⟩
theorem w_lrem (X : Wk p l e R s m args below meth c Z n0 y code ml ret T cells slots h) {a b : Int64} (hd : decode code pc = .ok (.lrem, 1)) (hp : pc + 1 = pc') (hb0 : b ≠ 0) (g : Goes p e below K T m pc' L (.long (a % b) :: S)) : Goes p e below K T m pc L (.long b :: .long a :: S) := by
  obtain ⟨hx, -, hby, -, -, -, -, -, -, locs, X, -, -⟩ := X
  subst hp
  rw [← lrem_mod] at g
  obtain ⟨u1, a1, b1⟩ := g
  exact ⟨u1, XS.lrem (g := mkF m pc L (.long b :: .long a :: S)) X.here hx rfl (hb hby hd) rfl hb0 a1, b1⟩
theorem w_lcmp (X : Wk p l e R s m args below meth c Z n0 y code ml ret T cells slots h) {a b : Int64} (hd : decode code pc = .ok (.lcmp, 1)) (hp : pc + 1 = pc') (g : Goes p e below K T m pc' L (.int (lcmpW a b) :: S)) : Goes p e below K T m pc L (.long b :: .long a :: S) := by
  obtain ⟨hx, -, hby, -, -, -, -, -, -, locs, X, -, -⟩ := X
  subst hp
  obtain ⟨u1, a1, b1⟩ := g
  exact ⟨u1, XS.lcmp (g := mkF m pc L (.long b :: .long a :: S)) X.here hx rfl (hb hby hd) rfl a1, b1⟩
theorem w_icmp_lt (X : Wk p l e R s m args below meth c Z n0 y code ml ret T cells slots h) {a b : Int32} {o : Int} {pcT pcF : Nat} (hd : decode code pc = .ok (.if_icmp .lt o, 3)) (ho : 0 ≤ (pc : Int) + o) (hT : ((pc : Int) + o).toNat = pcT) (hF : pc + 3 = pcF) (gT : a < b → Goes p e below K T m pcT L S) (gF : ¬ a < b → Goes p e below K T m pcF L S) : Goes p e below K T m pc L (.int b :: .int a :: S) := by
  obtain ⟨hx, -, hby, -, -, -, -, -, -, locs, X, -, -⟩ := X
  subst hF
  by_cases q : a < b
  · obtain ⟨u1, a1, b1⟩ := (gT q)
    exact ⟨u1, XS.icmpYes (g := mkF m pc L (.int b :: .int a :: S)) X.here hx rfl (pc0 := pc) rfl (hb hby hd) rfl (tlt q).1 ho hT a1, b1⟩
  · obtain ⟨u1, a1, b1⟩ := (gF q)
    exact ⟨u1, XS.icmpNo (g := mkF m pc L (.int b :: .int a :: S)) X.here hx rfl (hb hby hd) rfl (flt q).1 a1, b1⟩
theorem w_if_lt (X : Wk p l e R s m args below meth c Z n0 y code ml ret T cells slots h) {a : Int32} {o : Int} {pcT pcF : Nat} (hd : decode code pc = .ok (.ifCond .lt o, 3)) (ho : 0 ≤ (pc : Int) + o) (hT : ((pc : Int) + o).toNat = pcT) (hF : pc + 3 = pcF) (gT : a < 0 → Goes p e below K T m pcT L S) (gF : ¬ a < 0 → Goes p e below K T m pcF L S) : Goes p e below K T m pc L (.int a :: S) := by
  obtain ⟨hx, -, hby, -, -, -, -, -, -, locs, X, -, -⟩ := X
  subst hF
  by_cases q : a < 0
  · obtain ⟨u1, a1, b1⟩ := (gT q)
    exact ⟨u1, XS.ifYes (g := mkF m pc L (.int a :: S)) X.here hx rfl (pc0 := pc) rfl (hb hby hd) rfl ((if0 _ _).trans (tlt q).1) ho hT a1, b1⟩
  · obtain ⟨u1, a1, b1⟩ := (gF q)
    exact ⟨u1, XS.ifNo (g := mkF m pc L (.int a :: S)) X.here hx rfl (hb hby hd) rfl ((if0 _ _).trans (flt q).1) a1, b1⟩
theorem w_lcmp_lt (X : Wk p l e R s m args below meth c Z n0 y code ml ret T cells slots h) {a b : Int64} {o : Int} {pcI pcT pcF : Nat} (hd0 : decode code pc = .ok (.lcmp, 1)) (hp : pc + 1 = pcI) (hd : decode code pcI = .ok (.ifCond .lt o, 3)) (ho : 0 ≤ (pcI : Int) + o) (hT : ((pcI : Int) + o).toNat = pcT) (hF : pcI + 3 = pcF) (gT : a < b → Goes p e below K T m pcT L S) (gF : ¬ a < b → Goes p e below K T m pcF L S) : Goes p e below K T m pc L (.long b :: .long a :: S) :=
  w_lcmp X hd0 hp (w_if_lt X hd ho hT hF (fun q => gT ((lw_lt a b).mp q)) (fun q => gF (fun r => q ((lw_lt a b).mpr r))))
theorem w_icmp_ge (X : Wk p l e R s m args below meth c Z n0 y code ml ret T cells slots h) {a b : Int32} {o : Int} {pcT pcF : Nat} (hd : decode code pc = .ok (.if_icmp .ge o, 3)) (ho : 0 ≤ (pc : Int) + o) (hT : ((pc : Int) + o).toNat = pcT) (hF : pc + 3 = pcF) (gT : ¬ a < b → Goes p e below K T m pcT L S) (gF : a < b → Goes p e below K T m pcF L S) : Goes p e below K T m pc L (.int b :: .int a :: S) := by
  obtain ⟨hx, -, hby, -, -, -, -, -, -, locs, X, -, -⟩ := X
  subst hF
  by_cases q : ¬ a < b
  · obtain ⟨u1, a1, b1⟩ := (gT q)
    exact ⟨u1, XS.icmpYes (g := mkF m pc L (.int b :: .int a :: S)) X.here hx rfl (pc0 := pc) rfl (hb hby hd) rfl (flt q).2.1 ho hT a1, b1⟩
  · obtain ⟨u1, a1, b1⟩ := (gF (Classical.not_not.mp q))
    exact ⟨u1, XS.icmpNo (g := mkF m pc L (.int b :: .int a :: S)) X.here hx rfl (hb hby hd) rfl (tlt (Classical.not_not.mp q)).2.1 a1, b1⟩
theorem w_if_ge (X : Wk p l e R s m args below meth c Z n0 y code ml ret T cells slots h) {a : Int32} {o : Int} {pcT pcF : Nat} (hd : decode code pc = .ok (.ifCond .ge o, 3)) (ho : 0 ≤ (pc : Int) + o) (hT : ((pc : Int) + o).toNat = pcT) (hF : pc + 3 = pcF) (gT : ¬ a < 0 → Goes p e below K T m pcT L S) (gF : a < 0 → Goes p e below K T m pcF L S) : Goes p e below K T m pc L (.int a :: S) := by
  obtain ⟨hx, -, hby, -, -, -, -, -, -, locs, X, -, -⟩ := X
  subst hF
  by_cases q : ¬ a < 0
  · obtain ⟨u1, a1, b1⟩ := (gT q)
    exact ⟨u1, XS.ifYes (g := mkF m pc L (.int a :: S)) X.here hx rfl (pc0 := pc) rfl (hb hby hd) rfl ((if0 _ _).trans (flt q).2.1) ho hT a1, b1⟩
  · obtain ⟨u1, a1, b1⟩ := (gF (Classical.not_not.mp q))
    exact ⟨u1, XS.ifNo (g := mkF m pc L (.int a :: S)) X.here hx rfl (hb hby hd) rfl ((if0 _ _).trans (tlt (Classical.not_not.mp q)).2.1) a1, b1⟩
theorem w_lcmp_ge (X : Wk p l e R s m args below meth c Z n0 y code ml ret T cells slots h) {a b : Int64} {o : Int} {pcI pcT pcF : Nat} (hd0 : decode code pc = .ok (.lcmp, 1)) (hp : pc + 1 = pcI) (hd : decode code pcI = .ok (.ifCond .ge o, 3)) (ho : 0 ≤ (pcI : Int) + o) (hT : ((pcI : Int) + o).toNat = pcT) (hF : pcI + 3 = pcF) (gT : ¬ a < b → Goes p e below K T m pcT L S) (gF : a < b → Goes p e below K T m pcF L S) : Goes p e below K T m pc L (.long b :: .long a :: S) :=
  w_lcmp X hd0 hp (w_if_ge X hd ho hT hF (fun q => gT (fun r => q ((lw_lt a b).mpr r))) (fun q => gF ((lw_lt a b).mp q)))
theorem w_icmp_gt (X : Wk p l e R s m args below meth c Z n0 y code ml ret T cells slots h) {a b : Int32} {o : Int} {pcT pcF : Nat} (hd : decode code pc = .ok (.if_icmp .gt o, 3)) (ho : 0 ≤ (pc : Int) + o) (hT : ((pc : Int) + o).toNat = pcT) (hF : pc + 3 = pcF) (gT : b < a → Goes p e below K T m pcT L S) (gF : ¬ b < a → Goes p e below K T m pcF L S) : Goes p e below K T m pc L (.int b :: .int a :: S) := by
  obtain ⟨hx, -, hby, -, -, -, -, -, -, locs, X, -, -⟩ := X
  subst hF
  by_cases q : b < a
  · obtain ⟨u1, a1, b1⟩ := (gT q)
    exact ⟨u1, XS.icmpYes (g := mkF m pc L (.int b :: .int a :: S)) X.here hx rfl (pc0 := pc) rfl (hb hby hd) rfl (tlt q).2.2.1 ho hT a1, b1⟩
  · obtain ⟨u1, a1, b1⟩ := (gF q)
    exact ⟨u1, XS.icmpNo (g := mkF m pc L (.int b :: .int a :: S)) X.here hx rfl (hb hby hd) rfl (flt q).2.2.1 a1, b1⟩
theorem w_if_gt (X : Wk p l e R s m args below meth c Z n0 y code ml ret T cells slots h) {a : Int32} {o : Int} {pcT pcF : Nat} (hd : decode code pc = .ok (.ifCond .gt o, 3)) (ho : 0 ≤ (pc : Int) + o) (hT : ((pc : Int) + o).toNat = pcT) (hF : pc + 3 = pcF) (gT : 0 < a → Goes p e below K T m pcT L S) (gF : ¬ 0 < a → Goes p e below K T m pcF L S) : Goes p e below K T m pc L (.int a :: S) := by
  obtain ⟨hx, -, hby, -, -, -, -, -, -, locs, X, -, -⟩ := X
  subst hF
  by_cases q : 0 < a
  · obtain ⟨u1, a1, b1⟩ := (gT q)
    exact ⟨u1, XS.ifYes (g := mkF m pc L (.int a :: S)) X.here hx rfl (pc0 := pc) rfl (hb hby hd) rfl ((if0 _ _).trans (tlt q).2.2.1) ho hT a1, b1⟩
  · obtain ⟨u1, a1, b1⟩ := (gF q)
    exact ⟨u1, XS.ifNo (g := mkF m pc L (.int a :: S)) X.here hx rfl (hb hby hd) rfl ((if0 _ _).trans (flt q).2.2.1) a1, b1⟩
theorem w_lcmp_gt (X : Wk p l e R s m args below meth c Z n0 y code ml ret T cells slots h) {a b : Int64} {o : Int} {pcI pcT pcF : Nat} (hd0 : decode code pc = .ok (.lcmp, 1)) (hp : pc + 1 = pcI) (hd : decode code pcI = .ok (.ifCond .gt o, 3)) (ho : 0 ≤ (pcI : Int) + o) (hT : ((pcI : Int) + o).toNat = pcT) (hF : pcI + 3 = pcF) (gT : b < a → Goes p e below K T m pcT L S) (gF : ¬ b < a → Goes p e below K T m pcF L S) : Goes p e below K T m pc L (.long b :: .long a :: S) :=
  w_lcmp X hd0 hp (w_if_gt X hd ho hT hF (fun q => gT ((lw_gt a b).mp q)) (fun q => gF (fun r => q ((lw_gt a b).mpr r))))
theorem w_icmp_le (X : Wk p l e R s m args below meth c Z n0 y code ml ret T cells slots h) {a b : Int32} {o : Int} {pcT pcF : Nat} (hd : decode code pc = .ok (.if_icmp .le o, 3)) (ho : 0 ≤ (pc : Int) + o) (hT : ((pc : Int) + o).toNat = pcT) (hF : pc + 3 = pcF) (gT : ¬ b < a → Goes p e below K T m pcT L S) (gF : b < a → Goes p e below K T m pcF L S) : Goes p e below K T m pc L (.int b :: .int a :: S) := by
  obtain ⟨hx, -, hby, -, -, -, -, -, -, locs, X, -, -⟩ := X
  subst hF
  by_cases q : ¬ b < a
  · obtain ⟨u1, a1, b1⟩ := (gT q)
    exact ⟨u1, XS.icmpYes (g := mkF m pc L (.int b :: .int a :: S)) X.here hx rfl (pc0 := pc) rfl (hb hby hd) rfl (flt q).2.2.2 ho hT a1, b1⟩
  · obtain ⟨u1, a1, b1⟩ := (gF (Classical.not_not.mp q))
    exact ⟨u1, XS.icmpNo (g := mkF m pc L (.int b :: .int a :: S)) X.here hx rfl (hb hby hd) rfl (tlt (Classical.not_not.mp q)).2.2.2 a1, b1⟩
theorem w_if_le (X : Wk p l e R s m args below meth c Z n0 y code ml ret T cells slots h) {a : Int32} {o : Int} {pcT pcF : Nat} (hd : decode code pc = .ok (.ifCond .le o, 3)) (ho : 0 ≤ (pc : Int) + o) (hT : ((pc : Int) + o).toNat = pcT) (hF : pc + 3 = pcF) (gT : ¬ 0 < a → Goes p e below K T m pcT L S) (gF : 0 < a → Goes p e below K T m pcF L S) : Goes p e below K T m pc L (.int a :: S) := by
  obtain ⟨hx, -, hby, -, -, -, -, -, -, locs, X, -, -⟩ := X
  subst hF
  by_cases q : ¬ 0 < a
  · obtain ⟨u1, a1, b1⟩ := (gT q)
    exact ⟨u1, XS.ifYes (g := mkF m pc L (.int a :: S)) X.here hx rfl (pc0 := pc) rfl (hb hby hd) rfl ((if0 _ _).trans (flt q).2.2.2) ho hT a1, b1⟩
  · obtain ⟨u1, a1, b1⟩ := (gF (Classical.not_not.mp q))
    exact ⟨u1, XS.ifNo (g := mkF m pc L (.int a :: S)) X.here hx rfl (hb hby hd) rfl ((if0 _ _).trans (tlt (Classical.not_not.mp q)).2.2.2) a1, b1⟩
theorem w_lcmp_le (X : Wk p l e R s m args below meth c Z n0 y code ml ret T cells slots h) {a b : Int64} {o : Int} {pcI pcT pcF : Nat} (hd0 : decode code pc = .ok (.lcmp, 1)) (hp : pc + 1 = pcI) (hd : decode code pcI = .ok (.ifCond .le o, 3)) (ho : 0 ≤ (pcI : Int) + o) (hT : ((pcI : Int) + o).toNat = pcT) (hF : pcI + 3 = pcF) (gT : ¬ b < a → Goes p e below K T m pcT L S) (gF : b < a → Goes p e below K T m pcF L S) : Goes p e below K T m pc L (.long b :: .long a :: S) :=
  w_lcmp X hd0 hp (w_if_le X hd ho hT hF (fun q => gT (fun r => q ((lw_gt a b).mpr r))) (fun q => gF ((lw_gt a b).mp q)))
theorem w_icmp_eq (X : Wk p l e R s m args below meth c Z n0 y code ml ret T cells slots h) {a b : Int32} {o : Int} {pcT pcF : Nat} (hd : decode code pc = .ok (.if_icmp .eq o, 3)) (ho : 0 ≤ (pc : Int) + o) (hT : ((pc : Int) + o).toNat = pcT) (hF : pc + 3 = pcF) (gT : a = b → Goes p e below K T m pcT L S) (gF : ¬ a = b → Goes p e below K T m pcF L S) : Goes p e below K T m pc L (.int b :: .int a :: S) := by
  obtain ⟨hx, -, hby, -, -, -, -, -, -, locs, X, -, -⟩ := X
  subst hF
  by_cases q : a = b
  · obtain ⟨u1, a1, b1⟩ := (gT q)
    exact ⟨u1, XS.icmpYes (g := mkF m pc L (.int b :: .int a :: S)) X.here hx rfl (pc0 := pc) rfl (hb hby hd) rfl (teq q).1 ho hT a1, b1⟩
  · obtain ⟨u1, a1, b1⟩ := (gF q)
    exact ⟨u1, XS.icmpNo (g := mkF m pc L (.int b :: .int a :: S)) X.here hx rfl (hb hby hd) rfl (feq q).1 a1, b1⟩
theorem w_if_eq (X : Wk p l e R s m args below meth c Z n0 y code ml ret T cells slots h) {a : Int32} {o : Int} {pcT pcF : Nat} (hd : decode code pc = .ok (.ifCond .eq o, 3)) (ho : 0 ≤ (pc : Int) + o) (hT : ((pc : Int) + o).toNat = pcT) (hF : pc + 3 = pcF) (gT : a = 0 → Goes p e below K T m pcT L S) (gF : ¬ a = 0 → Goes p e below K T m pcF L S) : Goes p e below K T m pc L (.int a :: S) := by
  obtain ⟨hx, -, hby, -, -, -, -, -, -, locs, X, -, -⟩ := X
  subst hF
  by_cases q : a = 0
  · obtain ⟨u1, a1, b1⟩ := (gT q)
    exact ⟨u1, XS.ifYes (g := mkF m pc L (.int a :: S)) X.here hx rfl (pc0 := pc) rfl (hb hby hd) rfl ((if0 _ _).trans (teq q).1) ho hT a1, b1⟩
  · obtain ⟨u1, a1, b1⟩ := (gF q)
    exact ⟨u1, XS.ifNo (g := mkF m pc L (.int a :: S)) X.here hx rfl (hb hby hd) rfl ((if0 _ _).trans (feq q).1) a1, b1⟩
theorem w_lcmp_eq (X : Wk p l e R s m args below meth c Z n0 y code ml ret T cells slots h) {a b : Int64} {o : Int} {pcI pcT pcF : Nat} (hd0 : decode code pc = .ok (.lcmp, 1)) (hp : pc + 1 = pcI) (hd : decode code pcI = .ok (.ifCond .eq o, 3)) (ho : 0 ≤ (pcI : Int) + o) (hT : ((pcI : Int) + o).toNat = pcT) (hF : pcI + 3 = pcF) (gT : a = b → Goes p e below K T m pcT L S) (gF : ¬ a = b → Goes p e below K T m pcF L S) : Goes p e below K T m pc L (.long b :: .long a :: S) :=
  w_lcmp X hd0 hp (w_if_eq X hd ho hT hF (fun q => gT ((lw_eq a b).mp q)) (fun q => gF (fun r => q ((lw_eq a b).mpr r))))
theorem w_icmp_ne (X : Wk p l e R s m args below meth c Z n0 y code ml ret T cells slots h) {a b : Int32} {o : Int} {pcT pcF : Nat} (hd : decode code pc = .ok (.if_icmp .ne o, 3)) (ho : 0 ≤ (pc : Int) + o) (hT : ((pc : Int) + o).toNat = pcT) (hF : pc + 3 = pcF) (gT : ¬ a = b → Goes p e below K T m pcT L S) (gF : a = b → Goes p e below K T m pcF L S) : Goes p e below K T m pc L (.int b :: .int a :: S) := by
  obtain ⟨hx, -, hby, -, -, -, -, -, -, locs, X, -, -⟩ := X
  subst hF
  by_cases q : ¬ a = b
  · obtain ⟨u1, a1, b1⟩ := (gT q)
    exact ⟨u1, XS.icmpYes (g := mkF m pc L (.int b :: .int a :: S)) X.here hx rfl (pc0 := pc) rfl (hb hby hd) rfl (feq q).2 ho hT a1, b1⟩
  · obtain ⟨u1, a1, b1⟩ := (gF (Classical.not_not.mp q))
    exact ⟨u1, XS.icmpNo (g := mkF m pc L (.int b :: .int a :: S)) X.here hx rfl (hb hby hd) rfl (teq (Classical.not_not.mp q)).2 a1, b1⟩
theorem w_if_ne (X : Wk p l e R s m args below meth c Z n0 y code ml ret T cells slots h) {a : Int32} {o : Int} {pcT pcF : Nat} (hd : decode code pc = .ok (.ifCond .ne o, 3)) (ho : 0 ≤ (pc : Int) + o) (hT : ((pc : Int) + o).toNat = pcT) (hF : pc + 3 = pcF) (gT : ¬ a = 0 → Goes p e below K T m pcT L S) (gF : a = 0 → Goes p e below K T m pcF L S) : Goes p e below K T m pc L (.int a :: S) := by
  obtain ⟨hx, -, hby, -, -, -, -, -, -, locs, X, -, -⟩ := X
  subst hF
  by_cases q : ¬ a = 0
  · obtain ⟨u1, a1, b1⟩ := (gT q)
    exact ⟨u1, XS.ifYes (g := mkF m pc L (.int a :: S)) X.here hx rfl (pc0 := pc) rfl (hb hby hd) rfl ((if0 _ _).trans (feq q).2) ho hT a1, b1⟩
  · obtain ⟨u1, a1, b1⟩ := (gF (Classical.not_not.mp q))
    exact ⟨u1, XS.ifNo (g := mkF m pc L (.int a :: S)) X.here hx rfl (hb hby hd) rfl ((if0 _ _).trans (teq (Classical.not_not.mp q)).2) a1, b1⟩
theorem w_lcmp_ne (X : Wk p l e R s m args below meth c Z n0 y code ml ret T cells slots h) {a b : Int64} {o : Int} {pcI pcT pcF : Nat} (hd0 : decode code pc = .ok (.lcmp, 1)) (hp : pc + 1 = pcI) (hd : decode code pcI = .ok (.ifCond .ne o, 3)) (ho : 0 ≤ (pcI : Int) + o) (hT : ((pcI : Int) + o).toNat = pcT) (hF : pcI + 3 = pcF) (gT : ¬ a = b → Goes p e below K T m pcT L S) (gF : a = b → Goes p e below K T m pcF L S) : Goes p e below K T m pc L (.long b :: .long a :: S) :=
  w_lcmp X hd0 hp (w_if_ne X hd ho hT hF (fun q => gT (fun r => q ((lw_eq a b).mpr r))) (fun q => gF ((lw_eq a b).mp q)))
-- returns
theorem w_ireturn (X : Wk p l e R s m args below meth c Z n0 y code ml (some .int) T cells slots h) {w : Option Value} {Q : Heap → Prop} {z : Int32} (hd : decode code pc = .ok (.ireturn, 1)) (hw : w = some (.int z)) (hq : Q h) (hc : cells ≤ R.cells) (hs : slots ≤ R.slots) : Goes p e below (Done below s n0 R w Q) T m pc L (.int z :: S) := by
  obtain ⟨hx, hZ, hby, hml, hown, hnm, hret, hlk, hn, locs, X, eT, N⟩ := X
  obtain ⟨fs, hr, hrun, hended, hW, hsame⟩ := X.leave (v := some (.int z)) (fun h => by rw [hret] at h; cases h) hlk
  exact ⟨_, Jvm.RoadKit.retI X hx hret (hb hby hd) hr, _, hrun, hended, _, locs, rfl, ⟨hw.symm, (by show Q T.heap; rw [eT]; exact hq), N, (by show n0 ≤ T.heap.size; rw [eT]; exact hn)⟩, ⟨_, rfl⟩, hW, hsame.mono hc hs⟩
theorem w_nreturn {t : FieldType} (X : Wk p l e R s m args below meth c Z n0 y code ml (some t) T cells slots h) {w : Option Value} {Q : Heap → Prop} {z : Int32} (ht : t = .boolean ∨ t = .byte ∨ t = .char ∨ t = .short) (hd : decode code pc = .ok (.ireturn, 1)) (hw : w = some (.int (nar t z))) (hq : Q h) (hc : cells ≤ R.cells) (hs : slots ≤ R.slots) : Goes p e below (Done below s n0 R w Q) T m pc L (.int z :: S) := by
  obtain ⟨hx, hZ, hby, hml, hown, hnm, hret, hlk, hn, locs, X, eT, N⟩ := X
  obtain ⟨fs, hr, hrun, hended, hW, hsame⟩ := X.leave (v := some (.int (nar t z))) (fun h => by rw [hret] at h; cases h) hlk
  exact ⟨_, retN X hx hret ht (hb hby hd) hr, _, hrun, hended, _, locs, rfl, ⟨hw.symm, (by show Q T.heap; rw [eT]; exact hq), N, (by show n0 ≤ T.heap.size; rw [eT]; exact hn)⟩, ⟨_, rfl⟩, hW, hsame.mono hc hs⟩
theorem w_lreturn (X : Wk p l e R s m args below meth c Z n0 y code ml (some .long) T cells slots h) {w : Option Value} {Q : Heap → Prop} {z : Int64} (hd : decode code pc = .ok (.lreturn, 1)) (hw : w = some (.long z)) (hq : Q h) (hc : cells ≤ R.cells) (hs : slots ≤ R.slots) : Goes p e below (Done below s n0 R w Q) T m pc L [.long z] := by
  obtain ⟨hx, hZ, hby, hml, hown, hnm, hret, hlk, hn, locs, X, eT, N⟩ := X
  obtain ⟨fs, hr, hrun, hended, hW, hsame⟩ := X.leave (v := some (.long z)) (fun h => by rw [hret] at h; cases h) hlk
  exact ⟨_, X.lreturnOut hx hret (hb hby hd) hr, _, hrun, hended, _, locs, rfl, ⟨hw.symm, (by show Q T.heap; rw [eT]; exact hq), N, (by show n0 ≤ T.heap.size; rw [eT]; exact hn)⟩, ⟨_, rfl⟩, hW, hsame.mono hc hs⟩
theorem w_return (X : Wk p l e R s m args below meth c Z n0 y code ml none T cells slots h) {w : Option Value} {Q : Heap → Prop} (hd : decode code pc = .ok (.return_, 1)) (hw : w = none) (hq : Q h) (hc : cells ≤ R.cells) (hs : slots ≤ R.slots) : Goes p e below (Done below s n0 R w Q) T m pc L [] := by
  obtain ⟨hx, hZ, hby, hml, hown, hnm, hret, hlk, hn, locs, X, eT, N⟩ := X
  obtain ⟨fs, hr, hrun, hended, hW, hsame⟩ := X.leave (v := none) (fun _ => rfl) hlk
  exact ⟨_, X.returnOut hx hret (hb hby hd) hr, _, hrun, hended, _, locs, rfl, ⟨hw.symm, (by show Q T.heap; rw [eT]; exact hq), N, (by show n0 ≤ T.heap.size; rw [eT]; exact hn)⟩, ⟨_, rfl⟩, hW, hsame.mono hc hs⟩
-- calls
theorem w_static (X : Wk p l e R s m args below meth c Z n0 y code ml ret T cells slots h) {idx : Nat} {y' : MethodName} {bytes : ByteArray} {maxL : Nat} {ret' : Option FieldType} {R' : Room} {w' : Option Value} {Q' : Heap → Prop} {argsL rest : List Value} {W : Nat}
    (hM : Con l Z y' bytes maxL ret' R' argsL.toArray h n0 w' Q') (w1 : (Jvm.Cond.methodLink y.cls idx y').before a0 Z = true) (w2 : (Jvm.Cond.static y').before a0 Z = true) (w3 : (Jvm.Cond.initialized y'.cls).before a0 Z = true) (w4 : (Jvm.Cond.code y' bytes maxL ret').before a0 Z = true)
    (hy : y'.cls ≠ "java/lang/invoke/MethodHandle" ∧ y'.cls ≠ "java/lang/invoke/VarHandle") (hst : S = argsL.reverse ++ rest) (hlen : ∀ sig, parseMethodDescriptor y'.desc = some sig → argsL.length = sig.parameters.length) (hsz : L.size = ml) (hW : (rest.map fun v => v.category).sum = W) (hf : R'.frames + 1 ≤ R.frames) (hl : W + (maxL + 11) + R'.locals ≤ R.locals)
    (hc : cells + R'.cells ≤ R.cells) (hs : slots + R'.slots ≤ R.slots) (hd : decode code pc = .ok (.invokestatic idx, 3)) (hp : pc + 3 = pc')
    (g : ∀ T' h', Wk p l e R s m args below meth c Z n0 y code ml ret T' (cells + R'.cells) (slots + R'.slots) h' → Q' h' → Goes p e below K T' m pc' L (w'.toList ++ rest)) : Goes p e below K T m pc L S := by
  obtain ⟨hx, hZ, hby, hml, hown, hnm, hret, hlk, hn, locs, X, eT, N⟩ := X
  subst hp hW
  obtain ⟨_, _, ⟨T1, L1, k1, n1⟩, -, X1, ⟨Lc, hQ, l1, y1, z1⟩, st⟩ := Jvm.LawKit.callS X hx (y := y') hown (mvT hZ w1) (mvT hZ w2) (mvT hZ w3) (mvT hZ w4) hy (backOf (W := (rest.map fun v => v.category).sum) (hM []) hZ w4 w3 hf hl) (g := mkF m pc L S) rfl (by rw [hml]; exact hsz) (argsL := argsL) (rest := rest) hlen hst (by show 2 * 0 + _ ≤ _; omega) (hb hby hd) (fun _ _ => ⟨rfl, eT, hc, hs⟩)
  dsimp only [Pt.U, Pt.locs, Pt.cells, Pt.slots] at X1 l1 y1 z1 st hQ
  subst l1 y1 z1
  obtain ⟨rfl, hQ', N', hn'⟩ := hQ
  obtain ⟨u1, a1, b1⟩ := g _ _ ⟨hx, hZ, hby, hml, hown, hnm, hret, hlk, hn', _, X1, rfl, N.app N'⟩ hQ'
  exact ⟨u1, st _ a1, b1⟩
theorem w_staticV (X : Wk p l e R s m args below meth c Z n0 y code ml ret T cells slots h) {idx : Nat} {y' : MethodName} {bytes : ByteArray} {maxL : Nat} {ret' : Option FieldType} {R' : Room} {v' : Value} {Q' : Heap → Prop} {argsL rest : List Value} {W : Nat}
    (hM : Con l Z y' bytes maxL ret' R' argsL.toArray h n0 (some v') Q') (w1 : (Jvm.Cond.methodLink y.cls idx y').before a0 Z = true) (w2 : (Jvm.Cond.static y').before a0 Z = true) (w3 : (Jvm.Cond.initialized y'.cls).before a0 Z = true) (w4 : (Jvm.Cond.code y' bytes maxL ret').before a0 Z = true)
    (hy : y'.cls ≠ "java/lang/invoke/MethodHandle" ∧ y'.cls ≠ "java/lang/invoke/VarHandle") (hst : S = argsL.reverse ++ rest) (hlen : ∀ sig, parseMethodDescriptor y'.desc = some sig → argsL.length = sig.parameters.length) (hsz : L.size = ml) (hW : (rest.map fun v => v.category).sum = W) (hf : R'.frames + 1 ≤ R.frames) (hl : W + (maxL + 11) + R'.locals ≤ R.locals)
    (hc : cells + R'.cells ≤ R.cells) (hs : slots + R'.slots ≤ R.slots) (hd : decode code pc = .ok (.invokestatic idx, 3)) (hp : pc + 3 = pc')
    (g : ∀ T' h', Wk p l e R s m args below meth c Z n0 y code ml ret T' (cells + R'.cells) (slots + R'.slots) h' → Q' h' → Goes p e below K T' m pc' L (v' :: rest)) : Goes p e below K T m pc L S := w_static X hM w1 w2 w3 w4 hy hst hlen hsz hW hf hl hc hs hd hp g
theorem w_staticVP (X : Wk p l e R s m args below meth c Z n0 y code ml ret T cells slots h) {idx : Nat} {y' : MethodName} {bytes : ByteArray} {maxL : Nat} {ret' : Option FieldType} {R' : Room} {v' : Value} {argsL rest : List Value} {W : Nat}
    (hM : Con l Z y' bytes maxL ret' R' argsL.toArray h n0 (some v') (fun h' => h' = h)) (w1 : (Jvm.Cond.methodLink y.cls idx y').before a0 Z = true) (w2 : (Jvm.Cond.static y').before a0 Z = true) (w3 : (Jvm.Cond.initialized y'.cls).before a0 Z = true) (w4 : (Jvm.Cond.code y' bytes maxL ret').before a0 Z = true)
    (hy : y'.cls ≠ "java/lang/invoke/MethodHandle" ∧ y'.cls ≠ "java/lang/invoke/VarHandle") (hst : S = argsL.reverse ++ rest) (hlen : ∀ sig, parseMethodDescriptor y'.desc = some sig → argsL.length = sig.parameters.length) (hsz : L.size = ml) (hW : (rest.map fun v => v.category).sum = W) (hf : R'.frames + 1 ≤ R.frames) (hl : W + (maxL + 11) + R'.locals ≤ R.locals)
    (hc : cells + R'.cells ≤ R.cells) (hs : slots + R'.slots ≤ R.slots) (hd : decode code pc = .ok (.invokestatic idx, 3)) (hp : pc + 3 = pc')
    (g : ∀ T', Wk p l e R s m args below meth c Z n0 y code ml ret T' (cells + R'.cells) (slots + R'.slots) h → Goes p e below K T' m pc' L (v' :: rest)) : Goes p e below K T m pc L S := w_staticV X hM w1 w2 w3 w4 hy hst hlen hsz hW hf hl hc hs hd hp (fun T' h' X' q => by subst q; exact g T' X')
theorem w_static0 (X : Wk p l e R s m args below meth c Z n0 y code ml ret T cells slots h) {idx : Nat} {y' : MethodName} {bytes : ByteArray} {maxL : Nat} {ret' : Option FieldType} {R' : Room} {Q' : Heap → Prop} {argsL rest : List Value} {W : Nat}
    (hM : Con l Z y' bytes maxL ret' R' argsL.toArray h n0 none Q') (w1 : (Jvm.Cond.methodLink y.cls idx y').before a0 Z = true) (w2 : (Jvm.Cond.static y').before a0 Z = true) (w3 : (Jvm.Cond.initialized y'.cls).before a0 Z = true) (w4 : (Jvm.Cond.code y' bytes maxL ret').before a0 Z = true)
    (hy : y'.cls ≠ "java/lang/invoke/MethodHandle" ∧ y'.cls ≠ "java/lang/invoke/VarHandle") (hst : S = argsL.reverse ++ rest) (hlen : ∀ sig, parseMethodDescriptor y'.desc = some sig → argsL.length = sig.parameters.length) (hsz : L.size = ml) (hW : (rest.map fun v => v.category).sum = W) (hf : R'.frames + 1 ≤ R.frames) (hl : W + (maxL + 11) + R'.locals ≤ R.locals)
    (hc : cells + R'.cells ≤ R.cells) (hs : slots + R'.slots ≤ R.slots) (hd : decode code pc = .ok (.invokestatic idx, 3)) (hp : pc + 3 = pc')
    (g : ∀ T' h', Wk p l e R s m args below meth c Z n0 y code ml ret T' (cells + R'.cells) (slots + R'.slots) h' → Q' h' → Goes p e below K T' m pc' L rest) : Goes p e below K T m pc L S := w_static X hM w1 w2 w3 w4 hy hst hlen hsz hW hf hl hc hs hd hp g
theorem w_static0P (X : Wk p l e R s m args below meth c Z n0 y code ml ret T cells slots h) {idx : Nat} {y' : MethodName} {bytes : ByteArray} {maxL : Nat} {ret' : Option FieldType} {R' : Room} {argsL rest : List Value} {W : Nat}
    (hM : Con l Z y' bytes maxL ret' R' argsL.toArray h n0 none (fun h' => h' = h)) (w1 : (Jvm.Cond.methodLink y.cls idx y').before a0 Z = true) (w2 : (Jvm.Cond.static y').before a0 Z = true) (w3 : (Jvm.Cond.initialized y'.cls).before a0 Z = true) (w4 : (Jvm.Cond.code y' bytes maxL ret').before a0 Z = true)
    (hy : y'.cls ≠ "java/lang/invoke/MethodHandle" ∧ y'.cls ≠ "java/lang/invoke/VarHandle") (hst : S = argsL.reverse ++ rest) (hlen : ∀ sig, parseMethodDescriptor y'.desc = some sig → argsL.length = sig.parameters.length) (hsz : L.size = ml) (hW : (rest.map fun v => v.category).sum = W) (hf : R'.frames + 1 ≤ R.frames) (hl : W + (maxL + 11) + R'.locals ≤ R.locals)
    (hc : cells + R'.cells ≤ R.cells) (hs : slots + R'.slots ≤ R.slots) (hd : decode code pc = .ok (.invokestatic idx, 3)) (hp : pc + 3 = pc')
    (g : ∀ T', Wk p l e R s m args below meth c Z n0 y code ml ret T' (cells + R'.cells) (slots + R'.slots) h → Goes p e below K T' m pc' L rest) : Goes p e below K T m pc L S := w_static0 X hM w1 w2 w3 w4 hy hst hlen hsz hW hf hl hc hs hd hp (fun T' h' X' q => by subst q; exact g T' X')
theorem w_special (X : Wk p l e R s m args below meth c Z n0 y code ml ret T cells slots h) {idx : Nat} {y' : MethodName} {bytes : ByteArray} {maxL : Nat} {R' : Room} {w' : Option Value} {Q' : Heap → Prop} {a : Addr} {argsL rest : List Value} {W : Nat}
    (hM : Con l Z y' bytes maxL none R' (.ref a :: argsL).toArray h n0 w' Q') (hi : y'.name = "<init>") (w1 : (Jvm.Cond.methodLink y.cls idx y').before a0 Z = true) (w2 : (Jvm.Cond.instanceMethod y').before a0 Z = true) (w3 : (Jvm.Cond.initialized y'.cls).before a0 Z = true) (w4 : (Jvm.Cond.code y' bytes maxL none).before a0 Z = true)
    (hy : y'.cls ≠ "java/lang/invoke/MethodHandle" ∧ y'.cls ≠ "java/lang/invoke/VarHandle") (hst : S = argsL.reverse ++ .ref a :: rest) (hlen : ∀ sig, parseMethodDescriptor y'.desc = some sig → argsL.length = sig.parameters.length) (hsz : L.size = ml) (hW : (rest.map fun v => v.category).sum = W) (hf : R'.frames + 1 ≤ R.frames) (hl : W + (maxL + 11) + R'.locals ≤ R.locals)
    (hc : cells + R'.cells ≤ R.cells) (hs : slots + R'.slots ≤ R.slots) (hd : decode code pc = .ok (.invokespecial idx, 3)) (hp : pc + 3 = pc')
    (g : ∀ T' h', Wk p l e R s m args below meth c Z n0 y code ml ret T' (cells + R'.cells) (slots + R'.slots) h' → Q' h' → Goes p e below K T' m pc' L (w'.toList ++ rest)) : Goes p e below K T m pc L S := by
  obtain ⟨hx, hZ, hby, hml, hown, hnm, hret, hlk, hn, locs, X, eT, N⟩ := X
  subst hp hW
  obtain ⟨_, _, ⟨T1, L1, k1, n1⟩, -, X1, ⟨Lc, hQ, l1, y1, z1⟩, st⟩ := X.specialBack hx (y := y') hi hown (mvT hZ w1) (mvT hZ w2) (mvT hZ w4) hy (backOf (W := (rest.map fun v => v.category).sum) (hM []) hZ w4 w3 hf hl) (g := mkF m pc L S) rfl (by rw [hml]; exact hsz) (Steps.refl _) (a := a) (argsL := argsL) (rest := rest) hlen hst (by show 2 * 0 + _ ≤ _; omega) (hb hby hd) (fun _ _ => ⟨rfl, eT, hc, hs⟩)
  dsimp only [Pt.U, Pt.locs, Pt.cells, Pt.slots] at X1 l1 y1 z1 st hQ
  subst l1 y1 z1
  obtain ⟨rfl, hQ', N', hn'⟩ := hQ
  obtain ⟨u1, a1, b1⟩ := g _ _ ⟨hx, hZ, hby, hml, hown, hnm, hret, hlk, hn', _, X1, rfl, N.app N'⟩ hQ'
  exact ⟨u1, st.trans a1, b1⟩
theorem w_special0 (X : Wk p l e R s m args below meth c Z n0 y code ml ret T cells slots h) {idx : Nat} {y' : MethodName} {bytes : ByteArray} {maxL : Nat} {R' : Room} {Q' : Heap → Prop} {a : Addr} {argsL rest : List Value} {W : Nat}
    (hM : Con l Z y' bytes maxL none R' (.ref a :: argsL).toArray h n0 none Q') (hi : y'.name = "<init>") (w1 : (Jvm.Cond.methodLink y.cls idx y').before a0 Z = true) (w2 : (Jvm.Cond.instanceMethod y').before a0 Z = true) (w3 : (Jvm.Cond.initialized y'.cls).before a0 Z = true) (w4 : (Jvm.Cond.code y' bytes maxL none).before a0 Z = true)
    (hy : y'.cls ≠ "java/lang/invoke/MethodHandle" ∧ y'.cls ≠ "java/lang/invoke/VarHandle") (hst : S = argsL.reverse ++ .ref a :: rest) (hlen : ∀ sig, parseMethodDescriptor y'.desc = some sig → argsL.length = sig.parameters.length) (hsz : L.size = ml) (hW : (rest.map fun v => v.category).sum = W) (hf : R'.frames + 1 ≤ R.frames) (hl : W + (maxL + 11) + R'.locals ≤ R.locals)
    (hc : cells + R'.cells ≤ R.cells) (hs : slots + R'.slots ≤ R.slots) (hd : decode code pc = .ok (.invokespecial idx, 3)) (hp : pc + 3 = pc')
    (g : ∀ T' h', Wk p l e R s m args below meth c Z n0 y code ml ret T' (cells + R'.cells) (slots + R'.slots) h' → Q' h' → Goes p e below K T' m pc' L rest) : Goes p e below K T m pc L S := w_special X hM hi w1 w2 w3 w4 hy hst hlen hsz hW hf hl hc hs hd hp g
theorem w_special0P (X : Wk p l e R s m args below meth c Z n0 y code ml ret T cells slots h) {idx : Nat} {y' : MethodName} {bytes : ByteArray} {maxL : Nat} {R' : Room} {a : Addr} {argsL rest : List Value} {W : Nat}
    (hM : Con l Z y' bytes maxL none R' (.ref a :: argsL).toArray h n0 none (fun h' => h' = h)) (hi : y'.name = "<init>") (w1 : (Jvm.Cond.methodLink y.cls idx y').before a0 Z = true) (w2 : (Jvm.Cond.instanceMethod y').before a0 Z = true) (w3 : (Jvm.Cond.initialized y'.cls).before a0 Z = true) (w4 : (Jvm.Cond.code y' bytes maxL none).before a0 Z = true)
    (hy : y'.cls ≠ "java/lang/invoke/MethodHandle" ∧ y'.cls ≠ "java/lang/invoke/VarHandle") (hst : S = argsL.reverse ++ .ref a :: rest) (hlen : ∀ sig, parseMethodDescriptor y'.desc = some sig → argsL.length = sig.parameters.length) (hsz : L.size = ml) (hW : (rest.map fun v => v.category).sum = W) (hf : R'.frames + 1 ≤ R.frames) (hl : W + (maxL + 11) + R'.locals ≤ R.locals)
    (hc : cells + R'.cells ≤ R.cells) (hs : slots + R'.slots ≤ R.slots) (hd : decode code pc = .ok (.invokespecial idx, 3)) (hp : pc + 3 = pc')
    (g : ∀ T', Wk p l e R s m args below meth c Z n0 y code ml ret T' (cells + R'.cells) (slots + R'.slots) h → Goes p e below K T' m pc' L rest) : Goes p e below K T m pc L S := w_special0 X hM hi w1 w2 w3 w4 hy hst hlen hsz hW hf hl hc hs hd hp (fun T' h' X' q => by subst q; exact g T' X')
theorem w_virtual (X : Wk p l e R s m args below meth c Z n0 y code ml ret T cells slots h) {idx : Nat} {C : String} {y' : MethodName} {bytes : ByteArray} {maxL : Nat} {ret' : Option FieldType} {R' : Room} {w' : Option Value} {Q' : Heap → Prop} {a : Addr} {argsL rest : List Value} {W : Nat}
    (hM : Con l Z y' bytes maxL ret' R' (.ref a :: argsL).toArray h n0 w' Q') (E : Exa Z h a C) (w1 : (Jvm.Cond.methodLink y.cls idx y').before a0 Z = true) (w2 : (Jvm.Cond.declares y').before a0 Z = true) (w5 : (Jvm.Cond.selects C y' y').before a0 Z = true) (w6 : (Jvm.Cond.instanceMethod y').before a0 Z = true) (w3 : (Jvm.Cond.initialized y'.cls).before a0 Z = true) (w4 : (Jvm.Cond.code y' bytes maxL ret').before a0 Z = true)
    (hy : y'.cls ≠ "java/lang/invoke/MethodHandle" ∧ y'.cls ≠ "java/lang/invoke/VarHandle") (hst : S = argsL.reverse ++ .ref a :: rest) (hlen : ∀ sig, parseMethodDescriptor y'.desc = some sig → argsL.length = sig.parameters.length) (hsz : L.size = ml) (hW : (rest.map fun v => v.category).sum = W) (hf : R'.frames + 1 ≤ R.frames) (hl : W + (maxL + 11) + R'.locals ≤ R.locals)
    (hc : cells + R'.cells ≤ R.cells) (hs : slots + R'.slots ≤ R.slots) (hd : decode code pc = .ok (.invokevirtual idx, 3)) (hp : pc + 3 = pc')
    (g : ∀ T' h', Wk p l e R s m args below meth c Z n0 y code ml ret T' (cells + R'.cells) (slots + R'.slots) h' → Q' h' → Goes p e below K T' m pc' L (w'.toList ++ rest)) : Goes p e below K T m pc L S := by
  obtain ⟨hx, hZ, hby, hml, hown, hnm, hret, hlk, hn, locs, X, eT, N⟩ := X
  subst hp hW
  obtain ⟨cq, kq, qa, qb, qc⟩ := isOf hZ eT E
  obtain ⟨_, _, ⟨T1, L1, k1, n1⟩, -, X1, ⟨Lc, hQ, l1, y1, z1⟩, st⟩ := X.virtualBack hx (y := y') (z := y') hown (mvT hZ w1) (mvT hZ w2) (notFace_of_selects (args := #[]) (mvT hZ w5)) (mvT hZ w5) (mvT hZ w6) hy (backOf (W := (rest.map fun v => v.category).sum) (hM []) hZ w4 w3 hf hl) qa qc (g := mkF m pc L S) rfl (by rw [hml]; exact hsz) (Steps.refl _) (argsL := argsL) (rest := rest) hlen hst (by show 2 * 0 + _ ≤ _; omega) (hb hby hd) (fun _ _ => ⟨rfl, eT, hc, hs⟩)
  dsimp only [Pt.U, Pt.locs, Pt.cells, Pt.slots] at X1 l1 y1 z1 st hQ
  subst l1 y1 z1
  obtain ⟨rfl, hQ', N', hn'⟩ := hQ
  obtain ⟨u1, a1, b1⟩ := g _ _ ⟨hx, hZ, hby, hml, hown, hnm, hret, hlk, hn', _, X1, rfl, N.app N'⟩ hQ'
  exact ⟨u1, st.trans a1, b1⟩
theorem w_virtualV (X : Wk p l e R s m args below meth c Z n0 y code ml ret T cells slots h) {idx : Nat} {C : String} {y' : MethodName} {bytes : ByteArray} {maxL : Nat} {ret' : Option FieldType} {R' : Room} {v' : Value} {Q' : Heap → Prop} {a : Addr} {argsL rest : List Value} {W : Nat}
    (hM : Con l Z y' bytes maxL ret' R' (.ref a :: argsL).toArray h n0 (some v') Q') (E : Exa Z h a C) (w1 : (Jvm.Cond.methodLink y.cls idx y').before a0 Z = true) (w2 : (Jvm.Cond.declares y').before a0 Z = true) (w5 : (Jvm.Cond.selects C y' y').before a0 Z = true) (w6 : (Jvm.Cond.instanceMethod y').before a0 Z = true) (w3 : (Jvm.Cond.initialized y'.cls).before a0 Z = true) (w4 : (Jvm.Cond.code y' bytes maxL ret').before a0 Z = true)
    (hy : y'.cls ≠ "java/lang/invoke/MethodHandle" ∧ y'.cls ≠ "java/lang/invoke/VarHandle") (hst : S = argsL.reverse ++ .ref a :: rest) (hlen : ∀ sig, parseMethodDescriptor y'.desc = some sig → argsL.length = sig.parameters.length) (hsz : L.size = ml) (hW : (rest.map fun v => v.category).sum = W) (hf : R'.frames + 1 ≤ R.frames) (hl : W + (maxL + 11) + R'.locals ≤ R.locals)
    (hc : cells + R'.cells ≤ R.cells) (hs : slots + R'.slots ≤ R.slots) (hd : decode code pc = .ok (.invokevirtual idx, 3)) (hp : pc + 3 = pc')
    (g : ∀ T' h', Wk p l e R s m args below meth c Z n0 y code ml ret T' (cells + R'.cells) (slots + R'.slots) h' → Q' h' → Goes p e below K T' m pc' L (v' :: rest)) : Goes p e below K T m pc L S := w_virtual X hM E w1 w2 w5 w6 w3 w4 hy hst hlen hsz hW hf hl hc hs hd hp g
theorem w_virtualVP (X : Wk p l e R s m args below meth c Z n0 y code ml ret T cells slots h) {idx : Nat} {C : String} {y' : MethodName} {bytes : ByteArray} {maxL : Nat} {ret' : Option FieldType} {R' : Room} {v' : Value} {a : Addr} {argsL rest : List Value} {W : Nat}
    (hM : Con l Z y' bytes maxL ret' R' (.ref a :: argsL).toArray h n0 (some v') (fun h' => h' = h)) (E : Exa Z h a C) (w1 : (Jvm.Cond.methodLink y.cls idx y').before a0 Z = true) (w2 : (Jvm.Cond.declares y').before a0 Z = true) (w5 : (Jvm.Cond.selects C y' y').before a0 Z = true) (w6 : (Jvm.Cond.instanceMethod y').before a0 Z = true) (w3 : (Jvm.Cond.initialized y'.cls).before a0 Z = true) (w4 : (Jvm.Cond.code y' bytes maxL ret').before a0 Z = true)
    (hy : y'.cls ≠ "java/lang/invoke/MethodHandle" ∧ y'.cls ≠ "java/lang/invoke/VarHandle") (hst : S = argsL.reverse ++ .ref a :: rest) (hlen : ∀ sig, parseMethodDescriptor y'.desc = some sig → argsL.length = sig.parameters.length) (hsz : L.size = ml) (hW : (rest.map fun v => v.category).sum = W) (hf : R'.frames + 1 ≤ R.frames) (hl : W + (maxL + 11) + R'.locals ≤ R.locals)
    (hc : cells + R'.cells ≤ R.cells) (hs : slots + R'.slots ≤ R.slots) (hd : decode code pc = .ok (.invokevirtual idx, 3)) (hp : pc + 3 = pc')
    (g : ∀ T', Wk p l e R s m args below meth c Z n0 y code ml ret T' (cells + R'.cells) (slots + R'.slots) h → Goes p e below K T' m pc' L (v' :: rest)) : Goes p e below K T m pc L S := w_virtualV X hM E w1 w2 w5 w6 w3 w4 hy hst hlen hsz hW hf hl hc hs hd hp (fun T' h' X' q => by subst q; exact g T' X')
theorem w_virtual0 (X : Wk p l e R s m args below meth c Z n0 y code ml ret T cells slots h) {idx : Nat} {C : String} {y' : MethodName} {bytes : ByteArray} {maxL : Nat} {ret' : Option FieldType} {R' : Room} {Q' : Heap → Prop} {a : Addr} {argsL rest : List Value} {W : Nat}
    (hM : Con l Z y' bytes maxL ret' R' (.ref a :: argsL).toArray h n0 none Q') (E : Exa Z h a C) (w1 : (Jvm.Cond.methodLink y.cls idx y').before a0 Z = true) (w2 : (Jvm.Cond.declares y').before a0 Z = true) (w5 : (Jvm.Cond.selects C y' y').before a0 Z = true) (w6 : (Jvm.Cond.instanceMethod y').before a0 Z = true) (w3 : (Jvm.Cond.initialized y'.cls).before a0 Z = true) (w4 : (Jvm.Cond.code y' bytes maxL ret').before a0 Z = true)
    (hy : y'.cls ≠ "java/lang/invoke/MethodHandle" ∧ y'.cls ≠ "java/lang/invoke/VarHandle") (hst : S = argsL.reverse ++ .ref a :: rest) (hlen : ∀ sig, parseMethodDescriptor y'.desc = some sig → argsL.length = sig.parameters.length) (hsz : L.size = ml) (hW : (rest.map fun v => v.category).sum = W) (hf : R'.frames + 1 ≤ R.frames) (hl : W + (maxL + 11) + R'.locals ≤ R.locals)
    (hc : cells + R'.cells ≤ R.cells) (hs : slots + R'.slots ≤ R.slots) (hd : decode code pc = .ok (.invokevirtual idx, 3)) (hp : pc + 3 = pc')
    (g : ∀ T' h', Wk p l e R s m args below meth c Z n0 y code ml ret T' (cells + R'.cells) (slots + R'.slots) h' → Q' h' → Goes p e below K T' m pc' L rest) : Goes p e below K T m pc L S := w_virtual X hM E w1 w2 w5 w6 w3 w4 hy hst hlen hsz hW hf hl hc hs hd hp g
theorem w_virtual0P (X : Wk p l e R s m args below meth c Z n0 y code ml ret T cells slots h) {idx : Nat} {C : String} {y' : MethodName} {bytes : ByteArray} {maxL : Nat} {ret' : Option FieldType} {R' : Room} {a : Addr} {argsL rest : List Value} {W : Nat}
    (hM : Con l Z y' bytes maxL ret' R' (.ref a :: argsL).toArray h n0 none (fun h' => h' = h)) (E : Exa Z h a C) (w1 : (Jvm.Cond.methodLink y.cls idx y').before a0 Z = true) (w2 : (Jvm.Cond.declares y').before a0 Z = true) (w5 : (Jvm.Cond.selects C y' y').before a0 Z = true) (w6 : (Jvm.Cond.instanceMethod y').before a0 Z = true) (w3 : (Jvm.Cond.initialized y'.cls).before a0 Z = true) (w4 : (Jvm.Cond.code y' bytes maxL ret').before a0 Z = true)
    (hy : y'.cls ≠ "java/lang/invoke/MethodHandle" ∧ y'.cls ≠ "java/lang/invoke/VarHandle") (hst : S = argsL.reverse ++ .ref a :: rest) (hlen : ∀ sig, parseMethodDescriptor y'.desc = some sig → argsL.length = sig.parameters.length) (hsz : L.size = ml) (hW : (rest.map fun v => v.category).sum = W) (hf : R'.frames + 1 ≤ R.frames) (hl : W + (maxL + 11) + R'.locals ≤ R.locals)
    (hc : cells + R'.cells ≤ R.cells) (hs : slots + R'.slots ≤ R.slots) (hd : decode code pc = .ok (.invokevirtual idx, 3)) (hp : pc + 3 = pc')
    (g : ∀ T', Wk p l e R s m args below meth c Z n0 y code ml ret T' (cells + R'.cells) (slots + R'.slots) h → Goes p e below K T' m pc' L rest) : Goes p e below K T m pc L S := w_virtual0 X hM E w1 w2 w5 w6 w3 w4 hy hst hlen hsz hW hf hl hc hs hd hp (fun T' h' X' q => by subst q; exact g T' X')
theorem w_private (X : Wk p l e R s m args below meth c Z n0 y code ml ret T cells slots h) {idx : Nat} {C : String} {y' : MethodName} {bytes : ByteArray} {maxL : Nat} {ret' : Option FieldType} {R' : Room} {w' : Option Value} {Q' : Heap → Prop} {a : Addr} {argsL rest : List Value} {W : Nat}
    (hM : Con l Z y' bytes maxL ret' R' (.ref a :: argsL).toArray h n0 w' Q') (E : Exa Z h a C) (w1 : (Jvm.Cond.methodLink y.cls idx y').before a0 Z = true) (w6 : (Jvm.Cond.instanceMethod y').before a0 Z = true) (w5 : (Jvm.Cond.selects y'.cls y' y').before a0 Z = true) (w7 : (Jvm.Cond.privateMethod y').before a0 Z = true) (w3 : (Jvm.Cond.initialized y'.cls).before a0 Z = true) (w4 : (Jvm.Cond.code y' bytes maxL ret').before a0 Z = true)
    (hy : y'.cls ≠ "java/lang/invoke/MethodHandle" ∧ y'.cls ≠ "java/lang/invoke/VarHandle") (hst : S = argsL.reverse ++ .ref a :: rest) (hlen : ∀ sig, parseMethodDescriptor y'.desc = some sig → argsL.length = sig.parameters.length) (hsz : L.size = ml) (hW : (rest.map fun v => v.category).sum = W) (hf : R'.frames + 1 ≤ R.frames) (hl : W + (maxL + 11) + R'.locals ≤ R.locals)
    (hc : cells + R'.cells ≤ R.cells) (hs : slots + R'.slots ≤ R.slots) (hd : decode code pc = .ok (.invokevirtual idx, 3)) (hp : pc + 3 = pc')
    (g : ∀ T' h', Wk p l e R s m args below meth c Z n0 y code ml ret T' (cells + R'.cells) (slots + R'.slots) h' → Q' h' → Goes p e below K T' m pc' L (w'.toList ++ rest)) : Goes p e below K T m pc L S := by
  obtain ⟨hx, hZ, hby, hml, hown, hnm, hret, hlk, hn, locs, X, eT, N⟩ := X
  subst hp hW
  obtain ⟨cq, q, q'⟩ := E.cell
  obtain ⟨_, _, ⟨T1, L1, k1, n1⟩, -, X1, ⟨Lc, hQ, l1, y1, z1⟩, st⟩ := X.privateBack hx (y := y') hown (mvT hZ w1) (mvT hZ w6) (mvT hZ w5) (Cond.privateMethod_at (mvP hZ w7 (args := #[]))) (mvT hZ w4) hy (backOf (W := (rest.map fun v => v.category).sum) (hM []) hZ w4 w3 hf hl) (g := mkF m pc L S) rfl (by rw [hml]; exact hsz) (Steps.refl _) (a := a) (by rw [eT]; exact q) q' (argsL := argsL) (rest := rest) hlen hst (by show 2 * 0 + _ ≤ _; omega) (hb hby hd) (fun _ _ => ⟨rfl, eT, hc, hs⟩)
  dsimp only [Pt.U, Pt.locs, Pt.cells, Pt.slots] at X1 l1 y1 z1 st hQ
  subst l1 y1 z1
  obtain ⟨rfl, hQ', N', hn'⟩ := hQ
  obtain ⟨u1, a1, b1⟩ := g _ _ ⟨hx, hZ, hby, hml, hown, hnm, hret, hlk, hn', _, X1, rfl, N.app N'⟩ hQ'
  exact ⟨u1, st.trans a1, b1⟩
theorem w_privateV (X : Wk p l e R s m args below meth c Z n0 y code ml ret T cells slots h) {idx : Nat} {C : String} {y' : MethodName} {bytes : ByteArray} {maxL : Nat} {ret' : Option FieldType} {R' : Room} {v' : Value} {Q' : Heap → Prop} {a : Addr} {argsL rest : List Value} {W : Nat}
    (hM : Con l Z y' bytes maxL ret' R' (.ref a :: argsL).toArray h n0 (some v') Q') (E : Exa Z h a C) (w1 : (Jvm.Cond.methodLink y.cls idx y').before a0 Z = true) (w6 : (Jvm.Cond.instanceMethod y').before a0 Z = true) (w5 : (Jvm.Cond.selects y'.cls y' y').before a0 Z = true) (w7 : (Jvm.Cond.privateMethod y').before a0 Z = true) (w3 : (Jvm.Cond.initialized y'.cls).before a0 Z = true) (w4 : (Jvm.Cond.code y' bytes maxL ret').before a0 Z = true)
    (hy : y'.cls ≠ "java/lang/invoke/MethodHandle" ∧ y'.cls ≠ "java/lang/invoke/VarHandle") (hst : S = argsL.reverse ++ .ref a :: rest) (hlen : ∀ sig, parseMethodDescriptor y'.desc = some sig → argsL.length = sig.parameters.length) (hsz : L.size = ml) (hW : (rest.map fun v => v.category).sum = W) (hf : R'.frames + 1 ≤ R.frames) (hl : W + (maxL + 11) + R'.locals ≤ R.locals)
    (hc : cells + R'.cells ≤ R.cells) (hs : slots + R'.slots ≤ R.slots) (hd : decode code pc = .ok (.invokevirtual idx, 3)) (hp : pc + 3 = pc')
    (g : ∀ T' h', Wk p l e R s m args below meth c Z n0 y code ml ret T' (cells + R'.cells) (slots + R'.slots) h' → Q' h' → Goes p e below K T' m pc' L (v' :: rest)) : Goes p e below K T m pc L S := w_private X hM E w1 w6 w5 w7 w3 w4 hy hst hlen hsz hW hf hl hc hs hd hp g
theorem w_privateVP (X : Wk p l e R s m args below meth c Z n0 y code ml ret T cells slots h) {idx : Nat} {C : String} {y' : MethodName} {bytes : ByteArray} {maxL : Nat} {ret' : Option FieldType} {R' : Room} {v' : Value} {a : Addr} {argsL rest : List Value} {W : Nat}
    (hM : Con l Z y' bytes maxL ret' R' (.ref a :: argsL).toArray h n0 (some v') (fun h' => h' = h)) (E : Exa Z h a C) (w1 : (Jvm.Cond.methodLink y.cls idx y').before a0 Z = true) (w6 : (Jvm.Cond.instanceMethod y').before a0 Z = true) (w5 : (Jvm.Cond.selects y'.cls y' y').before a0 Z = true) (w7 : (Jvm.Cond.privateMethod y').before a0 Z = true) (w3 : (Jvm.Cond.initialized y'.cls).before a0 Z = true) (w4 : (Jvm.Cond.code y' bytes maxL ret').before a0 Z = true)
    (hy : y'.cls ≠ "java/lang/invoke/MethodHandle" ∧ y'.cls ≠ "java/lang/invoke/VarHandle") (hst : S = argsL.reverse ++ .ref a :: rest) (hlen : ∀ sig, parseMethodDescriptor y'.desc = some sig → argsL.length = sig.parameters.length) (hsz : L.size = ml) (hW : (rest.map fun v => v.category).sum = W) (hf : R'.frames + 1 ≤ R.frames) (hl : W + (maxL + 11) + R'.locals ≤ R.locals)
    (hc : cells + R'.cells ≤ R.cells) (hs : slots + R'.slots ≤ R.slots) (hd : decode code pc = .ok (.invokevirtual idx, 3)) (hp : pc + 3 = pc')
    (g : ∀ T', Wk p l e R s m args below meth c Z n0 y code ml ret T' (cells + R'.cells) (slots + R'.slots) h → Goes p e below K T' m pc' L (v' :: rest)) : Goes p e below K T m pc L S := w_privateV X hM E w1 w6 w5 w7 w3 w4 hy hst hlen hsz hW hf hl hc hs hd hp (fun T' h' X' q => by subst q; exact g T' X')
theorem w_private0 (X : Wk p l e R s m args below meth c Z n0 y code ml ret T cells slots h) {idx : Nat} {C : String} {y' : MethodName} {bytes : ByteArray} {maxL : Nat} {ret' : Option FieldType} {R' : Room} {Q' : Heap → Prop} {a : Addr} {argsL rest : List Value} {W : Nat}
    (hM : Con l Z y' bytes maxL ret' R' (.ref a :: argsL).toArray h n0 none Q') (E : Exa Z h a C) (w1 : (Jvm.Cond.methodLink y.cls idx y').before a0 Z = true) (w6 : (Jvm.Cond.instanceMethod y').before a0 Z = true) (w5 : (Jvm.Cond.selects y'.cls y' y').before a0 Z = true) (w7 : (Jvm.Cond.privateMethod y').before a0 Z = true) (w3 : (Jvm.Cond.initialized y'.cls).before a0 Z = true) (w4 : (Jvm.Cond.code y' bytes maxL ret').before a0 Z = true)
    (hy : y'.cls ≠ "java/lang/invoke/MethodHandle" ∧ y'.cls ≠ "java/lang/invoke/VarHandle") (hst : S = argsL.reverse ++ .ref a :: rest) (hlen : ∀ sig, parseMethodDescriptor y'.desc = some sig → argsL.length = sig.parameters.length) (hsz : L.size = ml) (hW : (rest.map fun v => v.category).sum = W) (hf : R'.frames + 1 ≤ R.frames) (hl : W + (maxL + 11) + R'.locals ≤ R.locals)
    (hc : cells + R'.cells ≤ R.cells) (hs : slots + R'.slots ≤ R.slots) (hd : decode code pc = .ok (.invokevirtual idx, 3)) (hp : pc + 3 = pc')
    (g : ∀ T' h', Wk p l e R s m args below meth c Z n0 y code ml ret T' (cells + R'.cells) (slots + R'.slots) h' → Q' h' → Goes p e below K T' m pc' L rest) : Goes p e below K T m pc L S := w_private X hM E w1 w6 w5 w7 w3 w4 hy hst hlen hsz hW hf hl hc hs hd hp g
theorem w_private0P (X : Wk p l e R s m args below meth c Z n0 y code ml ret T cells slots h) {idx : Nat} {C : String} {y' : MethodName} {bytes : ByteArray} {maxL : Nat} {ret' : Option FieldType} {R' : Room} {a : Addr} {argsL rest : List Value} {W : Nat}
    (hM : Con l Z y' bytes maxL ret' R' (.ref a :: argsL).toArray h n0 none (fun h' => h' = h)) (E : Exa Z h a C) (w1 : (Jvm.Cond.methodLink y.cls idx y').before a0 Z = true) (w6 : (Jvm.Cond.instanceMethod y').before a0 Z = true) (w5 : (Jvm.Cond.selects y'.cls y' y').before a0 Z = true) (w7 : (Jvm.Cond.privateMethod y').before a0 Z = true) (w3 : (Jvm.Cond.initialized y'.cls).before a0 Z = true) (w4 : (Jvm.Cond.code y' bytes maxL ret').before a0 Z = true)
    (hy : y'.cls ≠ "java/lang/invoke/MethodHandle" ∧ y'.cls ≠ "java/lang/invoke/VarHandle") (hst : S = argsL.reverse ++ .ref a :: rest) (hlen : ∀ sig, parseMethodDescriptor y'.desc = some sig → argsL.length = sig.parameters.length) (hsz : L.size = ml) (hW : (rest.map fun v => v.category).sum = W) (hf : R'.frames + 1 ≤ R.frames) (hl : W + (maxL + 11) + R'.locals ≤ R.locals)
    (hc : cells + R'.cells ≤ R.cells) (hs : slots + R'.slots ≤ R.slots) (hd : decode code pc = .ok (.invokevirtual idx, 3)) (hp : pc + 3 = pc')
    (g : ∀ T', Wk p l e R s m args below meth c Z n0 y code ml ret T' (cells + R'.cells) (slots + R'.slots) h → Goes p e below K T' m pc' L rest) : Goes p e below K T m pc L S := w_private0 X hM E w1 w6 w5 w7 w3 w4 hy hst hlen hsz hW hf hl hc hs hd hp (fun T' h' X' q => by subst q; exact g T' X')
theorem w_initO (X : Wk p l e R s m args below meth c Z n0 y code ml ret T cells slots h) {idx : Nat} {a : Addr} {W : Nat} (w1 : (Jvm.Cond.methodLink y.cls idx Lib.objectInit).before a0 Z = true) (w2 : (Jvm.Cond.instanceMethod Lib.objectInit).before a0 Z = true) (w3 : (Jvm.Cond.code Lib.objectInit ⟨#[0xb1]⟩ 1 none).before a0 Z = true)
    (hsz : L.size = ml) (hW : (S.map fun v => v.category).sum = W) (hf : 1 ≤ R.frames) (hl : W + 12 ≤ R.locals) (hd : decode code pc = .ok (.invokespecial idx, 3)) (hp : pc + 3 = pc')
    (g : ∀ T', Wk p l e R s m args below meth c Z n0 y code ml ret T' cells slots h → Goes p e below K T' m pc' L S) : Goes p e below K T m pc L (.ref a :: S) := by
  obtain ⟨hx, hZ, hby, hml, hown, hnm, hret, hlk, hn, locs, X, eT, N⟩ := X
  subst hp hW
  obtain ⟨T1, X1, e1, st⟩ := initO X hx hZ hown w1 w2 w3 eT (g := mkF m pc L (.ref a :: S)) rfl (by rw [hml]; exact hsz) rfl (hb hby hd) hf (W := (S.map fun v => v.category).sum) (by show 2 * 0 + _ ≤ _; omega) hl
  obtain ⟨u1, a1, b1⟩ := g _ ⟨hx, hZ, hby, hml, hown, hnm, hret, hlk, hn, _, X1, e1, N⟩
  exact ⟨u1, st _ a1, b1⟩
-- fields and objects
theorem w_getF (X : Wk p l e R s m args below meth c Z n0 y code ml ret T cells slots h) {R0 O n d host : String} {idx : Nat} {a : Addr} {v : Value} (w : (Jvm.Cond.fieldLink y.cls idx R0 n d).before a0 Z = true ∨ (Jvm.Cond.fieldLinkNest y.cls idx R0 n d host).before a0 Z = true) (via : Via Z R0 O n d)
    (F : Fld Z h a O n d v) (hd : decode code pc = .ok (.getfield idx, 3)) (hp : pc + 3 = pc') (g : ∀ T', Wk p l e R s m args below meth c Z n0 y code ml ret T' cells slots h → Goes p e below K T' m pc' L (v :: S)) : Goes p e below K T m pc L (.ref a :: S) := by
  obtain ⟨hx, hZ, hby, hml, hown, hnm, hret, hlk, hn, locs, X, eT, N⟩ := X
  subst hp
  obtain ⟨T1, X1, e1, st⟩ := getF X hx hZ hown w via eT F (g := mkF m pc L (.ref a :: S)) rfl rfl (hb hby hd)
  obtain ⟨u1, a1, b1⟩ := g _ ⟨hx, hZ, hby, hml, hown, hnm, hret, hlk, hn, _, X1, e1, N⟩
  exact ⟨u1, st _ a1, b1⟩
theorem w_putF (X : Wk p l e R s m args below meth c Z n0 y code ml ret T cells slots h) {R0 O n d host C : String} {idx kk : Nat} {ty : FieldType} {a : Addr} {v old : Value} (w : (Jvm.Cond.fieldLink y.cls idx R0 n d).before a0 Z = true ∨ (Jvm.Cond.fieldLinkNest y.cls idx R0 n d host).before a0 Z = true) (via : Via Z R0 O n d)
    (F : Fld Z h a O n d old) (E : Exa Z h a C) (Lw : (Jvm.Cond.lays C O n d).before a0 Z = true ∨ ((Jvm.Cond.laysFinal C O n d).before a0 Z = true ∧ y.cls = O ∧ y.name = "<init>")) (wi : (Jvm.Cond.instantiable C kk).before a0 Z = true) (hty : parseFieldDescriptor d = some ty) (hnv : narrow ty v = v) (hfv : fits ty v = true) (ha : n0 ≤ a)
    (hd : decode code pc = .ok (.putfield idx, 3)) (hp : pc + 3 = pc') (g : ∀ T' h', Wk p l e R s m args below meth c Z n0 y code ml ret T' cells slots h' → Wr h h' a (Jvm.RoadKit.slotOf Z O n d) v → Goes p e below K T' m pc' L S) : Goes p e below K T m pc L (v :: .ref a :: S) := by
  obtain ⟨hx, hZ, hby, hml, hown, hnm, hret, hlk, hn, locs, X, eT, N⟩ := X
  subst hp
  obtain ⟨T1, h1, X1, e1, W1, st⟩ := putF X hx hZ hown w via eT F E (Lw.imp id fun q => ⟨q.1, q.2.1, hnm.trans q.2.2⟩) wi hty hnv hfv (g := mkF m pc L (v :: .ref a :: S)) rfl rfl (hb hby hd)
  obtain ⟨u1, a1, b1⟩ := g _ _ ⟨hx, hZ, hby, hml, hown, hnm, hret, hlk, W1.size.symm ▸ hn, _, X1, e1, Fr.snoc X1 N ha⟩ W1
  exact ⟨u1, st _ a1, b1⟩
theorem w_putFN (X : Wk p l e R s m args below meth c Z n0 y code ml ret T cells slots h) {R0 O n d C : String} {idx kk : Nat} {ty : FieldType} {a : Addr} {v v' old : Value} (w : (Jvm.Cond.fieldLink y.cls idx R0 n d).before a0 Z = true) (via : Via Z R0 O n d)
    (F : Fld Z h a O n d old) (E : Exa Z h a C) (Lw : (Jvm.Cond.lays C O n d).before a0 Z = true ∨ ((Jvm.Cond.laysFinal C O n d).before a0 Z = true ∧ y.cls = O ∧ y.name = "<init>")) (wi : (Jvm.Cond.instantiable C kk).before a0 Z = true) (hty : parseFieldDescriptor d = some ty) (hnv : narrow ty v = v') (hfv : fits ty v' = true) (ha : n0 ≤ a)
    (hd : decode code pc = .ok (.putfield idx, 3)) (hp : pc + 3 = pc') (g : ∀ T' h', Wk p l e R s m args below meth c Z n0 y code ml ret T' cells slots h' → Wr h h' a (Jvm.RoadKit.slotOf Z O n d) v' → Goes p e below K T' m pc' L S) : Goes p e below K T m pc L (v :: .ref a :: S) := by
  obtain ⟨hx, hZ, hby, hml, hown, hnm, hret, hlk, hn, locs, X, eT, N⟩ := X
  subst hp
  obtain ⟨T1, h1, X1, e1, W1, st⟩ := putFN X hx hZ hown w via eT F E (Lw.imp id fun q => ⟨q.1, q.2.1, hnm.trans q.2.2⟩) wi hty hnv hfv (g := mkF m pc L (v :: .ref a :: S)) rfl rfl (hb hby hd)
  obtain ⟨u1, a1, b1⟩ := g _ _ ⟨hx, hZ, hby, hml, hown, hnm, hret, hlk, W1.size.symm ▸ hn, _, X1, e1, Fr.snoc X1 N ha⟩ W1
  exact ⟨u1, st _ a1, b1⟩
theorem w_new (X : Wk p l e R s m args below meth c Z n0 y code ml ret T cells slots h) {C : String} {idx n : Nat} (w : (Jvm.Cond.classLink y.cls idx C).before a0 Z = true) (wi : (Jvm.Cond.instantiable C n).before a0 Z = true) (wz : (Jvm.Cond.initialized C).before a0 Z = true) (hc : cells + 1 ≤ R.cells) (hl : slots + n ≤ R.slots) (hd : decode code pc = .ok (.new idx, 3)) (hp : pc + 3 = pc')
    (g : ∀ T' h' a, Wk p l e R s m args below meth c Z n0 y code ml ret T' (cells + 1) (slots + n) h' → a = h.size → n0 ≤ a → Ext h h' → Exa Z h' a C → (∀ {O nm d : String} {ty : FieldType}, Laid Z a0 C O nm d → parseFieldDescriptor d = some ty → Fld Z h' a O nm d (defaultValue ty)) → Goes p e below K T' m pc' L (.ref a :: S)) : Goes p e below K T m pc L S := by
  obtain ⟨hx, hZ, hby, hml, hown, hnm, hret, hlk, hn, locs, X, eT, N⟩ := X
  subst hp
  obtain ⟨T1, h1, X1, e1, E1, A1, D1, -, st⟩ := newO X hx hZ hown w wi wz eT (g := mkF m pc L S) rfl (hb hby hd) hc hl
  obtain ⟨u1, a1, b1⟩ := g _ _ _ ⟨hx, hZ, hby, hml, hown, hnm, hret, hlk, Nat.le_trans hn E1.1, _, X1, e1, N⟩ rfl hn E1 A1 D1
  exact ⟨u1, st _ a1, b1⟩
-- arrays
/-- the array at a holds vs -/
def AV (Z : State) (h : Heap) (a : Addr) (ty : FieldType) (vs : List Value) : Prop := ∃ c : Cell, Arr Z h a c ty ∧ c.slots.toList = vs ∧ vs.length < 2 ^ 31
theorem AV.lt {a : Addr} {ty : FieldType} {vs : List Value} (A : AV Z h a ty vs) : a < h.size := by obtain ⟨c, A, -⟩ := A; exact A.lt
theorem AV.ext {a : Addr} {ty : FieldType} {vs : List Value} {h' : Heap} (A : AV Z h a ty vs) (E : Ext h h') : AV Z h' a ty vs := by obtain ⟨c, A, r⟩ := A; exact ⟨c, A.ext E, r⟩
theorem AV.other {a b : Addr} {ty : FieldType} {vs : List Value} {h' : Heap} {sl : Nat} {v : Value} (A : AV Z h b ty vs) (W : Wr h h' a sl v) (q : b ≠ a) : AV Z h' b ty vs := by obtain ⟨c, A, r⟩ := A; exact ⟨c, A.other W q, r⟩
theorem AV.keep {a : Addr} {ty : FieldType} {vs : List Value} {h' : Heap} {ws : List Addr} (A : AV Z h a ty vs) (Kp : Keep h h' ws) (q : a ∉ ws) : AV Z h' a ty vs := by obtain ⟨c, A, r⟩ := A; exact ⟨c, ⟨Kp.2.1 _ _ A.1 q, A.2⟩, r⟩
theorem AV.set {a : Addr} {ty : FieldType} {vs : List Value} {h' : Heap} {i : Nat} {v : Value} (A : AV Z h a ty vs) (W : Wr h h' a i v) : AV Z h' a ty (vs.set i v) := by
  obtain ⟨c, A, r1, r2⟩ := A
  refine ⟨_, A.same W, ?_, by simpa using r2⟩
  subst r1
  simp [Cell.setSlot]
theorem AV.ne_exa {a b : Addr} {ty : FieldType} {vs : List Value} {C : String} {k : Nat} (A : AV Z h a ty vs) (E : Exa Z h b C) (wi : (Jvm.Cond.instantiable C k).before a0 Z = true) : b ≠ a := by obtain ⟨c, A, -⟩ := A; exact ne_arr E wi A
theorem AV.len {a : Addr} {ty : FieldType} {vs : List Value} (A : AV Z h a ty vs) : vs.length < 2 ^ 31 := by obtain ⟨c, -, -, r⟩ := A; exact r
theorem av_in {c : Cell} {vs : List Value} (r : c.slots.toList = vs) {j : Int32} {i : Nat} (h0 : ¬ j < 0) (hi : j.toNatClampNeg = i) (hlt : i < vs.length) : ¬ (j < 0 ∨ c.slots.size ≤ j.toNatClampNeg) := by
  subst r hi
  rintro (q | q)
  · exact h0 q
  · simp at hlt; omega
theorem av_at {c : Cell} {vs : List Value} (r : c.slots.toList = vs) {i : Nat} {v : Value} (hv : vs[i]? = some v) : c.slots[i]? = some v := by
  subst r
  simpa using hv
theorem w_newP (X : Wk p l e R s m args below meth c Z n0 y code ml ret T cells slots h) {aty : ArrayType} {n : Int32} {k : Nat} (w : (Jvm.Cond.arrayClass (newarray.typeOf aty)).before a0 Z = true) (hn : ¬ n < 0) (hk : n.toNatClampNeg = k) {cap : Nat} (hcap : k ≤ cap) (hb0 : cap * 8 ≤ 536870912) (hc : cells + 1 ≤ R.cells) (hl : slots + cap ≤ R.slots) (hd : decode code pc = .ok (.newarray aty, 2)) (hp : pc + 2 = pc')
    (g : ∀ T' h' a, Wk p l e R s m args below meth c Z n0 y code ml ret T' (cells + 1) (slots + cap) h' → a = h.size → n0 ≤ a → Ext h h' → AV Z h' a (newarray.typeOf aty) (List.replicate k (defaultValue (newarray.typeOf aty))) → Goes p e below K T' m pc' L (.ref a :: S)) : Goes p e below K T m pc L (.int n :: S) := by
  obtain ⟨hx, hZ, hby, hml, hown, hnm, hret, hlk, hn', locs, X, eT, N⟩ := X
  subst hp hk
  obtain ⟨T1, h1, cA, X1, e1, E1, A1, st⟩ := newP X hx hZ w eT (g := mkF m pc L (.int n :: S)) rfl (hb hby hd) rfl hn hcap hb0 hc hl
  obtain ⟨u1, a1, b1⟩ := g _ _ _ ⟨hx, hZ, hby, hml, hown, hnm, hret, hlk, Nat.le_trans hn' E1.1, _, X1, e1, N⟩ rfl hn' E1 ⟨_, A1, (by simp [newA]), (by simp only [List.length_replicate]; exact (back32 hn).2)⟩
  exact ⟨u1, st _ a1, b1⟩
theorem w_iaload (X : Wk p l e R s m args below meth c Z n0 y code ml ret T cells slots h) {a : Addr} {vs : List Value} {j : Int32} {i : Nat} {v : Value} (A : AV Z h a .int vs) (h0 : ¬ j < 0) (hi : j.toNatClampNeg = i) (hv : vs[i]? = some v) (hd : decode code pc = .ok (.iaload, 1)) (hp : pc + 1 = pc') (g : Goes p e below K T m pc' L (v :: S)) : Goes p e below K T m pc L (.int j :: .ref a :: S) := by
  obtain ⟨hx, hZ, hby, hml, hown, hnm, hret, hlk, hn, locs, X, eT, N⟩ := X
  obtain ⟨cl, A, r, -⟩ := A
  subst hp
  obtain ⟨u1, a1, b1⟩ := g
  exact ⟨u1, X.iaload hx (by rw [eT]; exact A.1) (State.isArrayOf_alike hZ.alike A.2.1) A.2.2 (av_in r h0 hi (List.getElem?_eq_some_iff.mp hv).1) (by rw [hi]; exact av_at r hv) (g := mkF m pc L (.int j :: .ref a :: S)) rfl rfl (hb hby hd) _ a1, b1⟩
theorem w_laload (X : Wk p l e R s m args below meth c Z n0 y code ml ret T cells slots h) {a : Addr} {vs : List Value} {j : Int32} {i : Nat} {v : Value} (A : AV Z h a .long vs) (h0 : ¬ j < 0) (hi : j.toNatClampNeg = i) (hv : vs[i]? = some v) (hd : decode code pc = .ok (.laload, 1)) (hp : pc + 1 = pc') (g : Goes p e below K T m pc' L (v :: S)) : Goes p e below K T m pc L (.int j :: .ref a :: S) := by
  obtain ⟨hx, hZ, hby, hml, hown, hnm, hret, hlk, hn, locs, X, eT, N⟩ := X
  obtain ⟨cl, A, r, -⟩ := A
  subst hp
  obtain ⟨u1, a1, b1⟩ := g
  exact ⟨u1, X.laload hx (by rw [eT]; exact A.1) (State.isArrayOf_alike hZ.alike A.2.1) A.2.2 (av_in r h0 hi (List.getElem?_eq_some_iff.mp hv).1) (by rw [hi]; exact av_at r hv) (g := mkF m pc L (.int j :: .ref a :: S)) rfl rfl (hb hby hd) _ a1, b1⟩
theorem w_caload (X : Wk p l e R s m args below meth c Z n0 y code ml ret T cells slots h) {a : Addr} {vs : List Value} {j : Int32} {i : Nat} {v : Value} (A : AV Z h a .char vs) (h0 : ¬ j < 0) (hi : j.toNatClampNeg = i) (hv : vs[i]? = some v) (hd : decode code pc = .ok (.caload, 1)) (hp : pc + 1 = pc') (g : Goes p e below K T m pc' L (v :: S)) : Goes p e below K T m pc L (.int j :: .ref a :: S) := by
  obtain ⟨hx, hZ, hby, hml, hown, hnm, hret, hlk, hn, locs, X, eT, N⟩ := X
  obtain ⟨cl, A, r, -⟩ := A
  subst hp
  obtain ⟨u1, a1, b1⟩ := g
  exact ⟨u1, X.caload hx (by rw [eT]; exact A.1) (State.isArrayOf_alike hZ.alike A.2.1) A.2.2 (av_in r h0 hi (List.getElem?_eq_some_iff.mp hv).1) (by rw [hi]; exact av_at r hv) (g := mkF m pc L (.int j :: .ref a :: S)) rfl rfl (hb hby hd) _ a1, b1⟩
theorem w_baloadB (X : Wk p l e R s m args below meth c Z n0 y code ml ret T cells slots h) {a : Addr} {vs : List Value} {j : Int32} {i : Nat} {v : Value} (A : AV Z h a .byte vs) (h0 : ¬ j < 0) (hi : j.toNatClampNeg = i) (hv : vs[i]? = some v) (hd : decode code pc = .ok (.baload, 1)) (hp : pc + 1 = pc') (g : Goes p e below K T m pc' L (v :: S)) : Goes p e below K T m pc L (.int j :: .ref a :: S) := by
  obtain ⟨hx, hZ, hby, hml, hown, hnm, hret, hlk, hn, locs, X, eT, N⟩ := X
  obtain ⟨cl, A, r, -⟩ := A
  subst hp
  obtain ⟨u1, a1, b1⟩ := g
  exact ⟨u1, X.baloadBytes hx (by rw [eT]; exact A.1) (State.isArrayOf_alike hZ.alike A.2.1) A.2.2 (av_in r h0 hi (List.getElem?_eq_some_iff.mp hv).1) (by rw [hi]; exact av_at r hv) (g := mkF m pc L (.int j :: .ref a :: S)) rfl rfl (hb hby hd) _ a1, b1⟩
theorem w_baloadZ (X : Wk p l e R s m args below meth c Z n0 y code ml ret T cells slots h) {a : Addr} {vs : List Value} {j : Int32} {i : Nat} {v : Value} (A : AV Z h a .boolean vs) (h0 : ¬ j < 0) (hi : j.toNatClampNeg = i) (hv : vs[i]? = some v) (hd : decode code pc = .ok (.baload, 1)) (hp : pc + 1 = pc') (g : Goes p e below K T m pc' L (v :: S)) : Goes p e below K T m pc L (.int j :: .ref a :: S) := by
  obtain ⟨hx, hZ, hby, hml, hown, hnm, hret, hlk, hn, locs, X, eT, N⟩ := X
  obtain ⟨cl, A, r, -⟩ := A
  subst hp
  obtain ⟨u1, a1, b1⟩ := g
  exact ⟨u1, X.baloadBooleans hx (by rw [eT]; exact A.1) (State.isArrayOf_alike hZ.alike A.2.1) A.2.2 (av_in r h0 hi (List.getElem?_eq_some_iff.mp hv).1) (by rw [hi]; exact av_at r hv) (g := mkF m pc L (.int j :: .ref a :: S)) rfl rfl (hb hby hd) _ a1, b1⟩
theorem w_arraylength (X : Wk p l e R s m args below meth c Z n0 y code ml ret T cells slots h) {a : Addr} {ty : FieldType} {vs : List Value} {n : Int32} (A : AV Z h a ty vs) (hn : vs.length.toInt32 = n) (hd : decode code pc = .ok (.arraylength, 1)) (hp : pc + 1 = pc') (g : Goes p e below K T m pc' L (.int n :: S)) : Goes p e below K T m pc L (.ref a :: S) := by
  obtain ⟨hx, hZ, hby, hml, hown, hnm, hret, hlk, hn', locs, X, eT, N⟩ := X
  obtain ⟨cl, A, r, -⟩ := A
  have q : cl.slots.size.toInt32 = n := by rw [← hn, ← r]; simp
  subst hp q
  obtain ⟨u1, a1, b1⟩ := g
  exact ⟨u1, X.arraylength hx (by rw [eT]; exact A.1) (State.isArrayOf_alike hZ.alike A.2.1) (g := mkF m pc L (.ref a :: S)) rfl rfl (hb hby hd) _ a1, b1⟩
theorem w_iastore (X : Wk p l e R s m args below meth c Z n0 y code ml ret T cells slots h) {a : Addr} {vs : List Value} {j : Int32} {i : Nat} {x : Int32} (A : AV Z h a .int vs) (h0 : ¬ j < 0) (hi : j.toNatClampNeg = i) (hlt : i < vs.length) (ha : n0 ≤ a) (hd : decode code pc = .ok (.iastore, 1)) (hp : pc + 1 = pc') (g : ∀ T' h', Wk p l e R s m args below meth c Z n0 y code ml ret T' cells slots h' → Wr h h' a i (.int x) → AV Z h' a .int (vs.set i (.int x)) → Goes p e below K T' m pc' L S) : Goes p e below K T m pc L (.int x :: .int j :: .ref a :: S) := by
  obtain ⟨hx, hZ, hby, hml, hown, hnm, hret, hlk, hn, locs, X, eT, N⟩ := X
  have A0 := A
  obtain ⟨cl, A, r, -⟩ := A
  subst hp hi
  obtain ⟨T1, h1, X1, e1, W1, st⟩ := stI X hx hZ eT A (j := j) (av_in r h0 rfl hlt) (g := mkF m pc L (.int x :: .int j :: .ref a :: S)) rfl rfl (hb hby hd)
  obtain ⟨u1, a1, b1⟩ := g _ _ ⟨hx, hZ, hby, hml, hown, hnm, hret, hlk, W1.size.symm ▸ hn, _, X1, e1, Fr.snoc X1 N ha⟩ W1 (A0.set W1)
  exact ⟨u1, st _ a1, b1⟩
theorem w_lastore (X : Wk p l e R s m args below meth c Z n0 y code ml ret T cells slots h) {a : Addr} {vs : List Value} {j : Int32} {i : Nat} {x : Int64} (A : AV Z h a .long vs) (h0 : ¬ j < 0) (hi : j.toNatClampNeg = i) (hlt : i < vs.length) (ha : n0 ≤ a) (hd : decode code pc = .ok (.lastore, 1)) (hp : pc + 1 = pc') (g : ∀ T' h', Wk p l e R s m args below meth c Z n0 y code ml ret T' cells slots h' → Wr h h' a i (.long x) → AV Z h' a .long (vs.set i (.long x)) → Goes p e below K T' m pc' L S) : Goes p e below K T m pc L (.long x :: .int j :: .ref a :: S) := by
  obtain ⟨hx, hZ, hby, hml, hown, hnm, hret, hlk, hn, locs, X, eT, N⟩ := X
  have A0 := A
  obtain ⟨cl, A, r, -⟩ := A
  subst hp hi
  obtain ⟨T1, h1, X1, e1, W1, st⟩ := stJ X hx hZ eT A (j := j) (av_in r h0 rfl hlt) (g := mkF m pc L (.long x :: .int j :: .ref a :: S)) rfl rfl (hb hby hd)
  obtain ⟨u1, a1, b1⟩ := g _ _ ⟨hx, hZ, hby, hml, hown, hnm, hret, hlk, W1.size.symm ▸ hn, _, X1, e1, Fr.snoc X1 N ha⟩ W1 (A0.set W1)
  exact ⟨u1, st _ a1, b1⟩
theorem w_castore (X : Wk p l e R s m args below meth c Z n0 y code ml ret T cells slots h) {a : Addr} {vs : List Value} {j : Int32} {i : Nat} {x : Int32} (A : AV Z h a .char vs) (h0 : ¬ j < 0) (hi : j.toNatClampNeg = i) (hlt : i < vs.length) (ha : n0 ≤ a) (hd : decode code pc = .ok (.castore, 1)) (hp : pc + 1 = pc') (g : ∀ T' h', Wk p l e R s m args below meth c Z n0 y code ml ret T' cells slots h' → Wr h h' a i (.int (nar .char x)) → AV Z h' a .char (vs.set i (.int (nar .char x))) → Goes p e below K T' m pc' L S) : Goes p e below K T m pc L (.int x :: .int j :: .ref a :: S) := by
  obtain ⟨hx, hZ, hby, hml, hown, hnm, hret, hlk, hn, locs, X, eT, N⟩ := X
  have A0 := A
  obtain ⟨cl, A, r, -⟩ := A
  subst hp hi
  obtain ⟨T1, h1, X1, e1, W1, st⟩ := stC X hx hZ eT A (j := j) (av_in r h0 rfl hlt) (g := mkF m pc L (.int x :: .int j :: .ref a :: S)) rfl rfl (hb hby hd)
  obtain ⟨u1, a1, b1⟩ := g _ _ ⟨hx, hZ, hby, hml, hown, hnm, hret, hlk, W1.size.symm ▸ hn, _, X1, e1, Fr.snoc X1 N ha⟩ W1 (A0.set W1)
  exact ⟨u1, st _ a1, b1⟩
theorem w_bastoreB (X : Wk p l e R s m args below meth c Z n0 y code ml ret T cells slots h) {a : Addr} {vs : List Value} {j : Int32} {i : Nat} {x : Int32} (A : AV Z h a .byte vs) (h0 : ¬ j < 0) (hi : j.toNatClampNeg = i) (hlt : i < vs.length) (ha : n0 ≤ a) (hd : decode code pc = .ok (.bastore, 1)) (hp : pc + 1 = pc') (g : ∀ T' h', Wk p l e R s m args below meth c Z n0 y code ml ret T' cells slots h' → Wr h h' a i (.int (nar .byte x)) → AV Z h' a .byte (vs.set i (.int (nar .byte x))) → Goes p e below K T' m pc' L S) : Goes p e below K T m pc L (.int x :: .int j :: .ref a :: S) := by
  obtain ⟨hx, hZ, hby, hml, hown, hnm, hret, hlk, hn, locs, X, eT, N⟩ := X
  have A0 := A
  obtain ⟨cl, A, r, -⟩ := A
  subst hp hi
  obtain ⟨T1, h1, X1, e1, W1, st⟩ := stB X hx hZ eT A (j := j) (av_in r h0 rfl hlt) (g := mkF m pc L (.int x :: .int j :: .ref a :: S)) rfl rfl (hb hby hd)
  obtain ⟨u1, a1, b1⟩ := g _ _ ⟨hx, hZ, hby, hml, hown, hnm, hret, hlk, W1.size.symm ▸ hn, _, X1, e1, Fr.snoc X1 N ha⟩ W1 (A0.set W1)
  exact ⟨u1, st _ a1, b1⟩
theorem w_bastoreZ (X : Wk p l e R s m args below meth c Z n0 y code ml ret T cells slots h) {a : Addr} {vs : List Value} {j : Int32} {i : Nat} {x : Int32} (A : AV Z h a .boolean vs) (h0 : ¬ j < 0) (hi : j.toNatClampNeg = i) (hlt : i < vs.length) (ha : n0 ≤ a) (hd : decode code pc = .ok (.bastore, 1)) (hp : pc + 1 = pc') (g : ∀ T' h', Wk p l e R s m args below meth c Z n0 y code ml ret T' cells slots h' → Wr h h' a i (.int (nar .boolean x)) → AV Z h' a .boolean (vs.set i (.int (nar .boolean x))) → Goes p e below K T' m pc' L S) : Goes p e below K T m pc L (.int x :: .int j :: .ref a :: S) := by
  obtain ⟨hx, hZ, hby, hml, hown, hnm, hret, hlk, hn, locs, X, eT, N⟩ := X
  have A0 := A
  obtain ⟨cl, A, r, -⟩ := A
  subst hp hi
  obtain ⟨T1, h1, X1, e1, W1, st⟩ := stZ X hx hZ eT A (j := j) (av_in r h0 rfl hlt) (g := mkF m pc L (.int x :: .int j :: .ref a :: S)) rfl rfl (hb hby hd)
  obtain ⟨u1, a1, b1⟩ := g _ _ ⟨hx, hZ, hby, hml, hown, hnm, hret, hlk, W1.size.symm ▸ hn, _, X1, e1, Fr.snoc X1 N ha⟩ W1 (A0.set W1)
  exact ⟨u1, st _ a1, b1⟩
theorem getI {xs : List Int32} {i : Nat} (q : i < xs.length) : (xs.map Value.int)[i]? = some (.int (xs.getD i 0)) := by
  simp [List.getD_eq_getElem?_getD, List.getElem?_eq_getElem q]
theorem getL {xs : List Int64} {i : Nat} (q : i < xs.length) : (xs.map Value.long)[i]? = some (.long (xs.getD i 0)) := by
  simp [List.getD_eq_getElem?_getD, List.getElem?_eq_getElem q]
/-- a new name for a value -/
theorem nameI {K' : Prop} (v : Int32) (g : ∀ z, z = v → K') : K' := g v rfl
theorem nameL {K' : Prop} (v : Int64) (g : ∀ z, z = v → K') : K' := g v rfl
end Rules
end Jvm.Own
namespace Jvm.Pilot.@@N@@
open Jvm Jvm.ClassFile Sem Op Lib Jvm.Free Jvm.Stand Jvm.LawKit Jvm.RoadKit Bundle Jvm.Own Jvm.Pilot.@@N@@.Jvm.D
def f_put0_o1_0 (q2 : Int64) (q3 : Int64) (p4 : Int32) (e1_0 : Int64) (e1_1 : Int64) (e1_2 : Int64) : Int64 :=
  (e1_0 ||| (q3 <<< (((q2.toInt32) &&& (63 : Int32)) &&& 0x3f).toInt64))
def f_put0_o1_1 (q2 : Int64) (q3 : Int64) (p4 : Int32) (e1_0 : Int64) (e1_1 : Int64) (e1_2 : Int64) : Int64 :=
  (if (64 : Int32) < (((q2.toInt32) &&& (63 : Int32)) + p4) then (e1_1 ||| (ushL q3 ((64 : Int32) - ((q2.toInt32) &&& (63 : Int32))))) else e1_1)
theorem d1_0 : decode prog_45_method_8_code 0 = .ok (.lload_n 1, 1) := by decide +kernel
theorem d1_1 : decode prog_45_method_8_code 1 = .ok (.bipush 6, 2) := by decide +kernel
theorem d1_3 : decode prog_45_method_8_code 3 = .ok (.lushr, 1) := by decide +kernel
theorem d1_4 : decode prog_45_method_8_code 4 = .ok (.l2i, 1) := by decide +kernel
theorem d1_5 : decode prog_45_method_8_code 5 = .ok (.istore 6, 2) := by decide +kernel
theorem d1_7 : decode prog_45_method_8_code 7 = .ok (.lload_n 1, 1) := by decide +kernel
theorem d1_8 : decode prog_45_method_8_code 8 = .ok (.l2i, 1) := by decide +kernel
theorem d1_9 : decode prog_45_method_8_code 9 = .ok (.bipush 63, 2) := by decide +kernel
theorem d1_11 : decode prog_45_method_8_code 11 = .ok (.iand, 1) := by decide +kernel
theorem d1_12 : decode prog_45_method_8_code 12 = .ok (.istore 7, 2) := by decide +kernel
theorem d1_14 : decode prog_45_method_8_code 14 = .ok (.aload_n 0, 1) := by decide +kernel
theorem d1_15 : decode prog_45_method_8_code 15 = .ok (.iload 6, 2) := by decide +kernel
theorem d1_17 : decode prog_45_method_8_code 17 = .ok (.dup2, 1) := by decide +kernel
theorem d1_18 : decode prog_45_method_8_code 18 = .ok (.laload, 1) := by decide +kernel
theorem d1_19 : decode prog_45_method_8_code 19 = .ok (.lload_n 3, 1) := by decide +kernel
theorem d1_20 : decode prog_45_method_8_code 20 = .ok (.iload 7, 2) := by decide +kernel
theorem d1_22 : decode prog_45_method_8_code 22 = .ok (.lshl, 1) := by decide +kernel
theorem d1_23 : decode prog_45_method_8_code 23 = .ok (.lor, 1) := by decide +kernel
theorem d1_24 : decode prog_45_method_8_code 24 = .ok (.lastore, 1) := by decide +kernel
theorem d1_25 : decode prog_45_method_8_code 25 = .ok (.iload 7, 2) := by decide +kernel
theorem d1_27 : decode prog_45_method_8_code 27 = .ok (.iload 5, 2) := by decide +kernel
theorem d1_29 : decode prog_45_method_8_code 29 = .ok (.iadd, 1) := by decide +kernel
theorem d1_30 : decode prog_45_method_8_code 30 = .ok (.bipush 64, 2) := by decide +kernel
theorem d1_32 : decode prog_45_method_8_code 32 = .ok (.if_icmp .le 19, 3) := by decide +kernel
theorem d1_35 : decode prog_45_method_8_code 35 = .ok (.aload_n 0, 1) := by decide +kernel
theorem d1_36 : decode prog_45_method_8_code 36 = .ok (.iload 6, 2) := by decide +kernel
theorem d1_38 : decode prog_45_method_8_code 38 = .ok (.iconst 1, 1) := by decide +kernel
theorem d1_39 : decode prog_45_method_8_code 39 = .ok (.iadd, 1) := by decide +kernel
theorem d1_40 : decode prog_45_method_8_code 40 = .ok (.dup2, 1) := by decide +kernel
theorem d1_41 : decode prog_45_method_8_code 41 = .ok (.laload, 1) := by decide +kernel
theorem d1_42 : decode prog_45_method_8_code 42 = .ok (.lload_n 3, 1) := by decide +kernel
theorem d1_43 : decode prog_45_method_8_code 43 = .ok (.bipush 64, 2) := by decide +kernel
theorem d1_45 : decode prog_45_method_8_code 45 = .ok (.iload 7, 2) := by decide +kernel
theorem d1_47 : decode prog_45_method_8_code 47 = .ok (.isub, 1) := by decide +kernel
theorem d1_48 : decode prog_45_method_8_code 48 = .ok (.lushr, 1) := by decide +kernel
theorem d1_49 : decode prog_45_method_8_code 49 = .ok (.lor, 1) := by decide +kernel
theorem d1_50 : decode prog_45_method_8_code 50 = .ok (.lastore, 1) := by decide +kernel
theorem d1_51 : decode prog_45_method_8_code 51 = .ok (.return_, 1) := by decide +kernel
theorem pn_1 : plainName "com/example/driftwalk/driftwalk/graph/Bits" = true := by first | (simp [plainName, overriddenIn]; done) | decide +kernel
theorem ef_1 (m : MethodId) (o1 : Addr) (q2 : Int64) (q3 : Int64) (p4 : Int32) : entryFrame m #[(.ref o1), (.long q2), (.long q3), (.int p4)] 8 = mkF m 0 #[.val (.ref o1), .val (.long q2), .second, .val (.long q3), .second, .val (.int p4), .unset, .unset] [] := by first | (simp [entryFrame, mkF, argsToLocals, Value.category]; done) | rfl
set_option maxRecDepth 65536 in
set_option maxHeartbeats 4000000 in
theorem rm1_0 (l : Launch) (Z : State) (a0 : Array Value) (hw : ∀ d ∈ tables_1, d.before a0 Z = true) (o1 : Addr) (q2 : Int64) (q3 : Int64) (p4 : Int32) (e1_0 : Int64) (e1_1 : Int64) (e1_2 : Int64) (h0 : Heap) (n0 : Nat) (Z0 : n0 ≤ h0.size) (A_o1 : AV Z h0 o1 .long [(.long e1_0), (.long e1_1), (.long e1_2)]) (g_o1 : n0 ≤ o1) (hk : (ushL q2 (6 : Int32)).toInt32 = (0 : Int32)) :
    Con l Z (⟨"com/example/driftwalk/driftwalk/graph/Bits", "put", "([JJJI)V"⟩ : MethodName) prog_45_method_8_code 8 none ({ frames := 0, cells := 0, slots := 0, locals := 0 } : Room) #[(.ref o1), (.long q2), (.long q3), (.int p4)] h0 n0 none (fun h => Keep h0 h [o1] ∧ AV Z h o1 .long [(.long (f_put0_o1_0 q2 q3 p4 e1_0 e1_1 e1_2)), (.long (f_put0_o1_1 q2 q3 p4 e1_0 e1_1 e1_2)), (.long e1_2)]) := by
  refine con_of (plainFor_of_name pn_1) Z0 (fun m => ef_1 m o1 q2 q3 p4) ?_
  intro p e s m below meth c T0 X0
  refine w_lloadN X0 d1_0 rfl rfl ?_
  refine w_bipush X0 d1_1 (v := (6 : Int32)) rfl rfl ?_
  refine w_lushr X0 d1_3 rfl ?_
  refine w_l2i X0 d1_4 rfl ?_
  generalize hz1 : ((ushL q2 (6 : Int32)).toInt32) = z1
  refine w_istore X0 d1_5 rfl (L' := #[.val (.ref o1), .val (.long q2), .second, .val (.long q3), .second, .val (.int p4), .val (.int z1), .unset]) rfl ?_
  rcases (hz1.symm.trans hk) with q2
  · subst q2
    refine w_lloadN X0 d1_7 rfl rfl ?_
    refine w_l2i X0 d1_8 rfl ?_
    refine w_bipush X0 d1_9 (v := (63 : Int32)) rfl rfl ?_
    refine w_iand X0 d1_11 rfl ?_
    generalize hz3 : ((q2.toInt32) &&& (63 : Int32)) = z3
    refine w_istore X0 d1_12 rfl (L' := #[.val (.ref o1), .val (.long q2), .second, .val (.long q3), .second, .val (.int p4), .val (.int (0 : Int32)), .val (.int z3)]) rfl ?_
    refine w_aloadN X0 d1_14 rfl rfl rfl ?_
    refine w_iload X0 d1_15 rfl rfl ?_
    refine w_dup2 X0 d1_17 rfl rfl rfl ?_
    refine w_laload X0 A_o1 (by decide) (i := 0) (by decide) rfl d1_18 rfl ?_
    refine w_lloadN X0 d1_19 rfl rfl ?_
    refine w_iload X0 d1_20 rfl rfl ?_
    refine w_lshl X0 d1_22 rfl ?_
    refine w_lor X0 d1_23 rfl ?_
    refine w_lastore X0 A_o1 (by decide) (i := 0) (by decide) (Nat.le_of_ble_eq_true rfl) g_o1 d1_24 rfl fun T4 h7 X5 W6 A8 => ?_
    obtain ⟨z9, hz9⟩ : ∃ z, z = (e1_0 ||| (q3 <<< (z3 &&& 0x3f).toInt64)) := ⟨_, rfl⟩
    have f10 : AV Z h7 o1 .long [(.long z9), (.long e1_1), (.long e1_2)] := (by subst hz9; exact A8)
    have k11 : Keep h0 h7 [o1] := (Keep.refl h0 [o1]).wr W6 (Or.inl (List.mem_of_getElem? (i := 0) rfl))
    refine w_iload X5 d1_25 rfl rfl ?_
    refine w_iload X5 d1_27 rfl rfl ?_
    refine w_iadd X5 d1_29 rfl ?_
    refine w_bipush X5 d1_30 (v := (64 : Int32)) rfl rfl ?_
    suffices j14 : ∀ (T12 : State) (h15 : Heap) (z16 : Int64), (Wk p l e ({ frames := 0, cells := 0, slots := 0, locals := 0 } : Room) s m #[(.ref o1), (.long q2), (.long q3), (.int p4)] below meth c Z n0 (⟨"com/example/driftwalk/driftwalk/graph/Bits", "put", "([JJJI)V"⟩ : MethodName) prog_45_method_8_code 8 none T12 0 0 h15) → (AV Z h15 o1 .long [(.long z9), (.long z16), (.long e1_2)]) → (Keep h0 h15 [o1]) → (z16 = (if (64 : Int32) < (z3 + p4) then (e1_1 ||| (ushL q3 ((64 : Int32) - z3))) else e1_1)) → Goes p e below (Done below s n0 ({ frames := 0, cells := 0, slots := 0, locals := 0 } : Room) none (fun h => Keep h0 h [o1] ∧ AV Z h o1 .long [(.long (f_put0_o1_0 q2 q3 p4 e1_0 e1_1 e1_2)), (.long (f_put0_o1_1 q2 q3 p4 e1_0 e1_1 e1_2)), (.long e1_2)])) T12 m 51 #[.val (.ref o1), .val (.long q2), .second, .val (.long q3), .second, .val (.int p4), .val (.int (0 : Int32)), .val (.int z3)] [] by
      refine w_icmp_le X5 d1_32 (by decide) (pcT := 51) (pcF := 35) (by decide) rfl (fun c19 => ?_) (fun c19 => ?_)
      · exact j14 _ _ _ X5 f10 k11 (by rw [if_neg c19])
      · refine w_aloadN X5 d1_35 rfl rfl rfl ?_
        refine w_iload X5 d1_36 rfl rfl ?_
        refine w_iconst X5 d1_38 (v := (1 : Int32)) rfl rfl ?_
        refine w_iadd X5 d1_39 rfl ?_
        refine w_dup2 X5 d1_40 rfl rfl rfl ?_
        refine w_laload X5 f10 (by decide) (i := 1) (by decide) rfl d1_41 rfl ?_
        refine w_lloadN X5 d1_42 rfl rfl ?_
        refine w_bipush X5 d1_43 (v := (64 : Int32)) rfl rfl ?_
        refine w_iload X5 d1_45 rfl rfl ?_
        refine w_isub X5 d1_47 rfl ?_
        refine w_lushr X5 d1_48 rfl ?_
        refine w_lor X5 d1_49 rfl ?_
        refine w_lastore X5 f10 (by decide) (i := 1) (by decide) (Nat.le_of_ble_eq_true rfl) g_o1 d1_50 rfl fun T20 h23 X21 W22 A24 => ?_
        obtain ⟨z25, hz25⟩ : ∃ z, z = (e1_1 ||| (ushL q3 ((64 : Int32) - z3))) := ⟨_, rfl⟩
        have f26 : AV Z h23 o1 .long [(.long z9), (.long z25), (.long e1_2)] := (by subst hz25; exact A24)
        have k27 : Keep h0 h23 [o1] := k11.wr W22 (Or.inl (List.mem_of_getElem? (i := 0) rfl))
        exact j14 _ _ _ X21 f26 k27 (by subst hz25; rw [if_pos c19])
    intro T12 h15 z16 X13 f17 k18 hz16
    exact w_return X13 d1_51 rfl (by subst hz16 hz9 hz3; exact ⟨k18, f17⟩) (by decide) (by decide)
def f_put1_o1_1 (q2 : Int64) (q3 : Int64) (p4 : Int32) (e1_0 : Int64) (e1_1 : Int64) (e1_2 : Int64) : Int64 :=
  (e1_1 ||| (q3 <<< (((q2.toInt32) &&& (63 : Int32)) &&& 0x3f).toInt64))
def f_put1_o1_2 (q2 : Int64) (q3 : Int64) (p4 : Int32) (e1_0 : Int64) (e1_1 : Int64) (e1_2 : Int64) : Int64 :=
  (if (64 : Int32) < (((q2.toInt32) &&& (63 : Int32)) + p4) then (e1_2 ||| (ushL q3 ((64 : Int32) - ((q2.toInt32) &&& (63 : Int32))))) else e1_2)
set_option maxRecDepth 65536 in
set_option maxHeartbeats 4000000 in
theorem rm1_1 (l : Launch) (Z : State) (a0 : Array Value) (hw : ∀ d ∈ tables_1, d.before a0 Z = true) (o1 : Addr) (q2 : Int64) (q3 : Int64) (p4 : Int32) (e1_0 : Int64) (e1_1 : Int64) (e1_2 : Int64) (h0 : Heap) (n0 : Nat) (Z0 : n0 ≤ h0.size) (A_o1 : AV Z h0 o1 .long [(.long e1_0), (.long e1_1), (.long e1_2)]) (g_o1 : n0 ≤ o1) (hk : (ushL q2 (6 : Int32)).toInt32 = (1 : Int32)) :
    Con l Z (⟨"com/example/driftwalk/driftwalk/graph/Bits", "put", "([JJJI)V"⟩ : MethodName) prog_45_method_8_code 8 none ({ frames := 0, cells := 0, slots := 0, locals := 0 } : Room) #[(.ref o1), (.long q2), (.long q3), (.int p4)] h0 n0 none (fun h => Keep h0 h [o1] ∧ AV Z h o1 .long [(.long e1_0), (.long (f_put1_o1_1 q2 q3 p4 e1_0 e1_1 e1_2)), (.long (f_put1_o1_2 q2 q3 p4 e1_0 e1_1 e1_2))]) := by
  refine con_of (plainFor_of_name pn_1) Z0 (fun m => ef_1 m o1 q2 q3 p4) ?_
  intro p e s m below meth c T0 X0
  refine w_lloadN X0 d1_0 rfl rfl ?_
  refine w_bipush X0 d1_1 (v := (6 : Int32)) rfl rfl ?_
  refine w_lushr X0 d1_3 rfl ?_
  refine w_l2i X0 d1_4 rfl ?_
  generalize hz1 : ((ushL q2 (6 : Int32)).toInt32) = z1
  refine w_istore X0 d1_5 rfl (L' := #[.val (.ref o1), .val (.long q2), .second, .val (.long q3), .second, .val (.int p4), .val (.int z1), .unset]) rfl ?_
  rcases (hz1.symm.trans hk) with q2
  · subst q2
    refine w_lloadN X0 d1_7 rfl rfl ?_
    refine w_l2i X0 d1_8 rfl ?_
    refine w_bipush X0 d1_9 (v := (63 : Int32)) rfl rfl ?_
    refine w_iand X0 d1_11 rfl ?_
    generalize hz3 : ((q2.toInt32) &&& (63 : Int32)) = z3
    refine w_istore X0 d1_12 rfl (L' := #[.val (.ref o1), .val (.long q2), .second, .val (.long q3), .second, .val (.int p4), .val (.int (1 : Int32)), .val (.int z3)]) rfl ?_
    refine w_aloadN X0 d1_14 rfl rfl rfl ?_
    refine w_iload X0 d1_15 rfl rfl ?_
    refine w_dup2 X0 d1_17 rfl rfl rfl ?_
    refine w_laload X0 A_o1 (by decide) (i := 1) (by decide) rfl d1_18 rfl ?_
    refine w_lloadN X0 d1_19 rfl rfl ?_
    refine w_iload X0 d1_20 rfl rfl ?_
    refine w_lshl X0 d1_22 rfl ?_
    refine w_lor X0 d1_23 rfl ?_
    refine w_lastore X0 A_o1 (by decide) (i := 1) (by decide) (Nat.le_of_ble_eq_true rfl) g_o1 d1_24 rfl fun T4 h7 X5 W6 A8 => ?_
    obtain ⟨z9, hz9⟩ : ∃ z, z = (e1_1 ||| (q3 <<< (z3 &&& 0x3f).toInt64)) := ⟨_, rfl⟩
    have f10 : AV Z h7 o1 .long [(.long e1_0), (.long z9), (.long e1_2)] := (by subst hz9; exact A8)
    have k11 : Keep h0 h7 [o1] := (Keep.refl h0 [o1]).wr W6 (Or.inl (List.mem_of_getElem? (i := 0) rfl))
    refine w_iload X5 d1_25 rfl rfl ?_
    refine w_iload X5 d1_27 rfl rfl ?_
    refine w_iadd X5 d1_29 rfl ?_
    refine w_bipush X5 d1_30 (v := (64 : Int32)) rfl rfl ?_
    suffices j14 : ∀ (T12 : State) (h15 : Heap) (z16 : Int64), (Wk p l e ({ frames := 0, cells := 0, slots := 0, locals := 0 } : Room) s m #[(.ref o1), (.long q2), (.long q3), (.int p4)] below meth c Z n0 (⟨"com/example/driftwalk/driftwalk/graph/Bits", "put", "([JJJI)V"⟩ : MethodName) prog_45_method_8_code 8 none T12 0 0 h15) → (AV Z h15 o1 .long [(.long e1_0), (.long z9), (.long z16)]) → (Keep h0 h15 [o1]) → (z16 = (if (64 : Int32) < (z3 + p4) then (e1_2 ||| (ushL q3 ((64 : Int32) - z3))) else e1_2)) → Goes p e below (Done below s n0 ({ frames := 0, cells := 0, slots := 0, locals := 0 } : Room) none (fun h => Keep h0 h [o1] ∧ AV Z h o1 .long [(.long e1_0), (.long (f_put1_o1_1 q2 q3 p4 e1_0 e1_1 e1_2)), (.long (f_put1_o1_2 q2 q3 p4 e1_0 e1_1 e1_2))])) T12 m 51 #[.val (.ref o1), .val (.long q2), .second, .val (.long q3), .second, .val (.int p4), .val (.int (1 : Int32)), .val (.int z3)] [] by
      refine w_icmp_le X5 d1_32 (by decide) (pcT := 51) (pcF := 35) (by decide) rfl (fun c19 => ?_) (fun c19 => ?_)
      · exact j14 _ _ _ X5 f10 k11 (by rw [if_neg c19])
      · refine w_aloadN X5 d1_35 rfl rfl rfl ?_
        refine w_iload X5 d1_36 rfl rfl ?_
        refine w_iconst X5 d1_38 (v := (1 : Int32)) rfl rfl ?_
        refine w_iadd X5 d1_39 rfl ?_
        refine w_dup2 X5 d1_40 rfl rfl rfl ?_
        refine w_laload X5 f10 (by decide) (i := 2) (by decide) rfl d1_41 rfl ?_
        refine w_lloadN X5 d1_42 rfl rfl ?_
        refine w_bipush X5 d1_43 (v := (64 : Int32)) rfl rfl ?_
        refine w_iload X5 d1_45 rfl rfl ?_
        refine w_isub X5 d1_47 rfl ?_
        refine w_lushr X5 d1_48 rfl ?_
        refine w_lor X5 d1_49 rfl ?_
        refine w_lastore X5 f10 (by decide) (i := 2) (by decide) (Nat.le_of_ble_eq_true rfl) g_o1 d1_50 rfl fun T20 h23 X21 W22 A24 => ?_
        obtain ⟨z25, hz25⟩ : ∃ z, z = (e1_2 ||| (ushL q3 ((64 : Int32) - z3))) := ⟨_, rfl⟩
        have f26 : AV Z h23 o1 .long [(.long e1_0), (.long z9), (.long z25)] := (by subst hz25; exact A24)
        have k27 : Keep h0 h23 [o1] := k11.wr W22 (Or.inl (List.mem_of_getElem? (i := 0) rfl))
        exact j14 _ _ _ X21 f26 k27 (by subst hz25; rw [if_pos c19])
    intro T12 h15 z16 X13 f17 k18 hz16
    exact w_return X13 d1_51 rfl (by subst hz16 hz9 hz3; exact ⟨k18, f17⟩) (by decide) (by decide)
theorem own_q (k : Nat) (hk : k < 64) : (Int32.ofNat k).toBitVec.toNat % 64 = k := by
  show (BitVec.ofNat 32 k).toNat % 64 = k
  rw [BitVec.toNat_ofNat]; omega
theorem own_shl (a : Int64) (q : Int32) (k : Nat) (hk : k < 64) (hq : q = Int32.ofNat k) : (a <<< (q &&& 0x3f).toInt64).toBitVec = a.toBitVec <<< k := by
  subst hq
  rw [Int64.toBitVec_shiftLeft, (sm64 _ k (own_q k hk)).1, BitVec.shiftLeft_eq', smod64 k hk]
theorem own_shr (a : Int64) (q : Int32) (k : Nat) (hk : k < 64) (hq : q = Int32.ofNat k) : (ushL a q).toBitVec = a.toBitVec >>> k := by
  subst hq
  unfold ushL
  rw [UInt64.toBitVec_toInt64, UInt64.toBitVec_shiftRight, Int64.toBitVec_toUInt64, Int64.toBitVec_toUInt64, (sm64 _ k (own_q k hk)).1, BitVec.ushiftRight_eq']
  congr 1
  simp; omega
theorem own_ones (i : Nat) (hi : i < 64) : (-1#64).getLsbD i = true := by rw [BitVec.neg_one_eq_allOnes, BitVec.getLsbD_allOnes]; simp [hi]
theorem own_mask (w : Nat) (hw : w < 64) (i : Nat) : ((1#64 <<< w) - 1#64).getLsbD i = decide (i < w) := by
  have : ((1#64 <<< w) - 1#64).toNat = 2 ^ w - 1 := by
    have h2 : 2 ^ w < 2 ^ 64 := Nat.pow_lt_pow_right (by decide) hw
    have h1 : 0 < 2 ^ w := Nat.two_pow_pos w
    have e : (1#64 <<< w).toNat = 2 ^ w := by simp [BitVec.toNat_shiftLeft, Nat.shiftLeft_eq]; exact h2
    rw [BitVec.toNat_sub_of_le]
    · rw [e]; rfl
    · rw [BitVec.le_def, e]; exact h1
  rw [← BitVec.testBit_toNat, this, Nat.testBit_two_pow_sub_one]
section
variable (s w : Nat) (hs : s < 64) (h1 : 1 ≤ w) (h2 : w ≤ 64) (V Q N N' m K X : BitVec 64)
  (hm : ∀ i, i < 64 → m.getLsbD i = decide (i < w)) (hV : V = Q &&& m) (hK : ∀ i, i < 64 → K.getLsbD i = (decide (s ≤ i) && decide (i < s + w))) (hX : ∀ i, i < 64 → X.getLsbD i = decide (i + 64 < s + w))
theorem core2 (hs : s < 64) (hm : ∀ i, i < 64 → m.getLsbD i = decide (i < w)) (hV : V = Q &&& m) (hK : ∀ i, i < 64 → K.getLsbD i = (decide (s ≤ i) && decide (i < s + w))) : ((N &&& (K ^^^ -1#64)) ||| (V <<< s)) &&& (K ^^^ -1#64) = N &&& (K ^^^ -1#64) := by
  apply BitVec.eq_of_getLsbD_eq
  intro i hi
  subst hV
  simp only [BitVec.getLsbD_and, BitVec.getLsbD_or, BitVec.getLsbD_xor, BitVec.getLsbD_shiftLeft, hK i hi]
  have e1 : (-1#64).getLsbD i = true := own_ones _ hi
  rw [e1]
  by_cases c : s ≤ i
  · by_cases c2 : i < s + w
    · simp [c, c2]
    · rw [hm (i - s) (by omega)]
      have : ¬ (i - s < w) := by omega
      simp [c, c2, this]
  · have c3 : i < s := by omega
    simp [c, c3]
theorem core3 (hm : ∀ i, i < 64 → m.getLsbD i = decide (i < w)) (hV : V = Q &&& m) (hs : s < 64) (hX : ∀ i, i < 64 → X.getLsbD i = decide (i + 64 < s + w)) (c : 64 < s + w) : ((N' &&& (X ^^^ -1#64)) ||| (V >>> (64 - s))) &&& (X ^^^ -1#64) = N' &&& (X ^^^ -1#64) := by
  apply BitVec.eq_of_getLsbD_eq
  intro i hi
  subst hV
  simp only [BitVec.getLsbD_and, BitVec.getLsbD_or, BitVec.getLsbD_xor, BitVec.getLsbD_ushiftRight, hX i hi]
  have e1 : (-1#64).getLsbD i = true := own_ones _ hi
  rw [e1]
  by_cases c2 : i + 64 < s + w
  · simp [c2]
  · by_cases c3 : 64 - s + i < 64
    · rw [hm _ c3]
      have : ¬ (64 - s + i < w) := by omega
      simp [c2, this]
    · have : m.getLsbD (64 - s + i) = false := BitVec.getLsbD_of_ge _ _ (by omega)
      simp [c2, this]
theorem core1 (hs : s < 64) (h1 : 1 ≤ w) (hm : ∀ i, i < 64 → m.getLsbD i = decide (i < w)) (hV : V = Q &&& m) (hK : ∀ i, i < 64 → K.getLsbD i = (decide (s ≤ i) && decide (i < s + w))) (hX : ∀ i, i < 64 → X.getLsbD i = decide (i + 64 < s + w))
    (A B : BitVec 64) (hA : A = (N &&& (K ^^^ -1#64)) ||| (V <<< s)) (hB : 64 < s + w → B = (N' &&& (X ^^^ -1#64)) ||| (V >>> (64 - s))) (R : BitVec 64) (hR : R = if s = 0 then 0#64 else B <<< (64 - s)) : ((A >>> s) ||| R) &&& m = V := by
  apply BitVec.eq_of_getLsbD_eq
  intro i hi
  simp only [BitVec.getLsbD_and, BitVec.getLsbD_or, BitVec.getLsbD_ushiftRight, hm i hi]
  have Vi : V.getLsbD i = (Q.getLsbD i && decide (i < w)) := by rw [hV, BitVec.getLsbD_and, hm i hi]
  by_cases c : i < w
  · simp only [c, decide_true, Bool.and_true]
    by_cases c2 : s + i < 64
    · have eA : A.getLsbD (s + i) = V.getLsbD i := by
        rw [hA]
        simp only [BitVec.getLsbD_and, BitVec.getLsbD_or, BitVec.getLsbD_xor, BitVec.getLsbD_shiftLeft, hK _ c2]
        have e1 : (-1#64).getLsbD (s + i) = true := own_ones _ c2
        rw [e1, Nat.add_sub_cancel_left]
        simp [c, c2]
      have eR : R.getLsbD i = false := by
        rw [hR]; split
        · simp
        · rw [BitVec.getLsbD_shiftLeft]
          have : i < 64 - s := by omega
          simp [this]
      rw [eA, eR, Bool.or_false]
    · have eA : A.getLsbD (s + i) = false := BitVec.getLsbD_of_ge _ _ (by omega)
      have s0 : s ≠ 0 := by omega
      rw [eA, hR, if_neg s0, BitVec.getLsbD_shiftLeft, hB (by omega)]
      have t : i - (64 - s) < 64 := by omega
      simp only [BitVec.getLsbD_and, BitVec.getLsbD_or, BitVec.getLsbD_xor, BitVec.getLsbD_ushiftRight, hX _ t]
      have e1 : (-1#64).getLsbD (i - (64 - s)) = true := own_ones _ t
      have e2 : 64 - s + (i - (64 - s)) = i := by omega
      have e3 : i - (64 - s) + 64 < s + w := by omega
      have e4 : ¬ i < 64 - s := by omega
      rw [e1, e2]
      simp [hi, e3, e4]
  · rw [Vi]; simp [c]
end
theorem own_fin (z : Int32) (n : Nat) (h0 : 0 ≤ z.toInt) (h1 : z.toInt < n) : ∃ k : Fin n, z = Int32.ofNat k.val := by
  refine ⟨⟨z.toInt.toNat, by omega⟩, ?_⟩
  apply Int32.toInt_inj.mp
  have := z.toInt_lt
  rw [Int32.toInt_ofNat_of_lt (by show z.toInt.toNat < 2 ^ 31; omega)]
  show z.toInt = ((z.toInt.toNat : Nat) : Int)
  omega
theorem own_and (x m : Int32) (n : Nat) (h0 : 0 ≤ m.toInt) (h : m.toInt < n) : ∃ k : Fin n, x &&& m = Int32.ofNat k.val := by
  obtain ⟨q1, q2⟩ := c_and x m h0
  exact own_fin _ n q1 (by omega)
theorem dec_one : ∀ k : Fin 64, (1 : Int32) + Int32.ofNat k.val = Int32.ofNat (k.val + 1) := by decide +kernel
theorem dec_64 : ∀ k : Fin 65, (Int32.ofNat k.val = (64 : Int32)) ↔ k.val = 64 := by decide +kernel
theorem dec_0 : ∀ k : Fin 64, (Int32.ofNat k.val = (0 : Int32)) ↔ k.val = 0 := by decide +kernel
theorem dec_sub : ∀ s : Fin 64, (64 : Int32) - Int32.ofNat s.val = Int32.ofNat (64 - s.val) := by decide +kernel
theorem dec_lt : ∀ s : Fin 64, ∀ w : Fin 65, (Int32.ofNat w.val < (64 : Int32) - Int32.ofNat s.val) ↔ w.val + s.val < 64 := by decide +kernel
theorem dec_gt : ∀ s : Fin 64, ∀ w : Fin 65, ((64 : Int32) < Int32.ofNat s.val + Int32.ofNat w.val) ↔ 64 < s.val + w.val := by decide +kernel
theorem dec_sum : ∀ s : Fin 64, ∀ w : Fin 65, 64 < s.val + w.val → (Int32.ofNat s.val + Int32.ofNat w.val) - (64 : Int32) = Int32.ofNat (s.val + w.val - 64) := by decide +kernel
theorem dec_at : ∀ a : Fin 128, ((Int32.ofNat a.val).toInt64.toInt32 = Int32.ofNat a.val) ∧ (ushL (Int32.ofNat a.val).toInt64 (6 : Int32)).toInt32 = ush (Int32.ofNat a.val) (6 : Int32) ∧ (ush (Int32.ofNat a.val) (6 : Int32) = 0 ∨ ush (Int32.ofNat a.val) (6 : Int32) = 1) := by decide +kernel
theorem own_01 (p z k : Int32) (h : p &&& (127 : Int32) = z) (hk : ush z (6 : Int32) = k) : k = (0 : Int32) ∨ k = (1 : Int32) := by
  obtain ⟨a, ha⟩ := own_and p 127 128 (by decide) (by decide)
  subst hk; rw [← h, ha]; exact (dec_at a).2.2
theorem own_k (p z k : Int32) (h : p &&& (127 : Int32) = z) (hk : ush z (6 : Int32) = k) : (ushL z.toInt64 (6 : Int32)).toInt32 = k := by
  obtain ⟨a, ha⟩ := own_and p 127 128 (by decide) (by decide)
  subst hk; rw [← h, ha]; exact (dec_at a).2.1
theorem own_nat (p1 p2 z1 z2 z11 : Int32) (h1 : p1 &&& (127 : Int32) = z1) (h2 : (1 : Int32) + (p2 &&& (63 : Int32)) = z2) (h11 : z1 &&& (63 : Int32) = z11) : ∃ (s : Fin 64) (w : Fin 65), 1 ≤ w.val ∧ z11 = Int32.ofNat s.val ∧ z2 = Int32.ofNat w.val ∧ z1.toInt64.toInt32 &&& (63 : Int32) = z11 := by
  obtain ⟨a, ha⟩ := own_and p1 127 128 (by decide) (by decide)
  obtain ⟨s, hs⟩ := own_and z1 63 64 (by decide) (by decide)
  obtain ⟨k, hk⟩ := own_and p2 63 64 (by decide) (by decide)
  refine ⟨s, ⟨k.val + 1, by omega⟩, by simp, by rw [← h11, hs], by rw [← h2, hk, dec_one], ?_⟩
  rw [← h11, ← h1, ha, (dec_at a).1]
theorem own_m (s : Fin 64) (w : Fin 65) (z3 : Int64) (h3 : z3 = (if Int32.ofNat w.val = (64 : Int32) then (-1 : Int64) else (((1 : Int64) <<< (Int32.ofNat w.val &&& 0x3f).toInt64) - (1 : Int64)))) : ∀ i, i < 64 → z3.toBitVec.getLsbD i = decide (i < w.val) := by
  intro i hi
  by_cases c : w.val = 64
  · rw [if_pos ((dec_64 w).mpr c)] at h3
    rw [h3]
    show (-1#64).getLsbD i = _
    rw [own_ones i hi]; simp; omega
  · rw [if_neg (fun q => c ((dec_64 w).mp q))] at h3
    rw [h3, Int64.toBitVec_sub, own_shl _ _ w.val (by omega) rfl]
    exact own_mask w.val (by omega) i
theorem own_K (s : Fin 64) (w : Fin 65) (z3 z12 : Int64) (hm : ∀ i, i < 64 → z3.toBitVec.getLsbD i = decide (i < w.val)) (h12 : z12 = (if Int32.ofNat w.val < ((64 : Int32) - Int32.ofNat s.val) then (z3 <<< (Int32.ofNat s.val &&& 0x3f).toInt64) else ((-1 : Int64) <<< (Int32.ofNat s.val &&& 0x3f).toInt64))) : ∀ i, i < 64 → z12.toBitVec.getLsbD i = (decide (s.val ≤ i) && decide (i < s.val + w.val)) := by
  intro i hi
  by_cases c : w.val + s.val < 64
  · rw [if_pos ((dec_lt s w).mpr c)] at h12
    rw [h12, own_shl _ _ s.val s.isLt rfl, BitVec.getLsbD_shiftLeft]
    by_cases c2 : s.val ≤ i
    · rw [hm _ (by omega)]
      have : ¬ i < s.val := by omega
      by_cases c3 : i < s.val + w.val
      · have c4 : i - s.val < w.val := by omega
        simp [hi, c2, this, c3, c4]
      · have c4 : ¬ i - s.val < w.val := by omega
        simp [hi, c2, this, c3, c4]
    · have : i < s.val := by omega
      simp [c2, this]
  · rw [if_neg (fun q => c ((dec_lt s w).mp q))] at h12
    rw [h12, own_shl _ _ s.val s.isLt rfl, BitVec.getLsbD_shiftLeft]
    show (decide (i < 64) && !decide (i < s.val) && (-1#64).getLsbD (i - s.val)) = _
    rw [own_ones _ (by omega)]
    by_cases c2 : s.val ≤ i
    · have c3 : ¬ i < s.val := by omega
      have c4 : i < s.val + w.val := by omega
      simp [hi, c2, c3, c4]
    · have c3 : i < s.val := by omega
      simp [c2, c3]
theorem own_X (s : Fin 64) (w : Fin 65) (z17 : Int64) (h17 : z17 = (if (64 : Int32) < (Int32.ofNat s.val + Int32.ofNat w.val) then (((1 : Int64) <<< (((Int32.ofNat s.val + Int32.ofNat w.val) - (64 : Int32)) &&& 0x3f).toInt64) - (1 : Int64)) else (0 : Int64))) : ∀ i, i < 64 → z17.toBitVec.getLsbD i = decide (i + 64 < s.val + w.val) := by
  intro i hi
  by_cases c : 64 < s.val + w.val
  · rw [if_pos ((dec_gt s w).mpr c)] at h17
    rw [h17, Int64.toBitVec_sub, own_shl _ _ (s.val + w.val - 64) (by omega) (dec_sum s w c)]
    rw [show ((1 : Int64).toBitVec <<< (s.val + w.val - 64) - (1 : Int64).toBitVec) = (1#64 <<< (s.val + w.val - 64)) - 1#64 from rfl, own_mask _ (by omega)]
    by_cases c2 : i + 64 < s.val + w.val
    · have : i < s.val + w.val - 64 := by omega
      simp [c2, this]
    · have : ¬ i < s.val + w.val - 64 := by omega
      simp [c2, this]
  · rw [if_neg (fun q => c ((dec_gt s w).mp q))] at h17
    rw [h17]
    have : ¬ i + 64 < s.val + w.val := by omega
    simp [this]
theorem fin2 {p1 p2 z1 z2 z11 : Int32} {q3 z3 z8 z12 N A Nk : Int64} (h1 : p1 &&& (127 : Int32) = z1) (h2 : (1 : Int32) + (p2 &&& (63 : Int32)) = z2) (h11 : z1 &&& (63 : Int32) = z11) (h3 : z3 = (if z2 = (64 : Int32) then (-1 : Int64) else (((1 : Int64) <<< (z2 &&& 0x3f).toInt64) - (1 : Int64)))) (h8 : q3 &&& z3 = z8) (h12 : z12 = (if z2 < ((64 : Int32) - z11) then (z3 <<< (z11 &&& 0x3f).toInt64) else ((-1 : Int64) <<< (z11 &&& 0x3f).toInt64))) (hk : Nk = N &&& (z12 ^^^ (-1 : Int64))) (hA : A = (Nk ||| (z8 <<< (((z1.toInt64.toInt32) &&& (63 : Int32)) &&& 0x3f).toInt64))) : A &&& (z12 ^^^ (-1 : Int64)) = Nk := by
  obtain ⟨s, w, hw, rfl, rfl, e⟩ := own_nat p1 p2 z1 z2 z11 h1 h2 h11
  have hm := own_m s w z3 h3
  have hK := own_K s w z3 z12 hm h12
  rw [e] at hA
  subst hA hk h8
  apply Int64.toBitVec_inj.mp
  simp only [Int64.toBitVec_and, Int64.toBitVec_or, Int64.toBitVec_xor, own_shl _ _ s.val s.isLt rfl]
  exact core2 s.val w.val _ q3.toBitVec N.toBitVec z3.toBitVec z12.toBitVec s.isLt hm rfl hK
theorem fin3 {p1 p2 z1 z2 z11 : Int32} {q3 z3 z8 z17 N' B Nn : Int64} (h1 : p1 &&& (127 : Int32) = z1) (h2 : (1 : Int32) + (p2 &&& (63 : Int32)) = z2) (h11 : z1 &&& (63 : Int32) = z11) (h3 : z3 = (if z2 = (64 : Int32) then (-1 : Int64) else (((1 : Int64) <<< (z2 &&& 0x3f).toInt64) - (1 : Int64)))) (h8 : q3 &&& z3 = z8) (h17 : z17 = (if (64 : Int32) < (z11 + z2) then (((1 : Int64) <<< (((z11 + z2) - (64 : Int32)) &&& 0x3f).toInt64) - (1 : Int64)) else (0 : Int64))) (hn : Nn = N' &&& (z17 ^^^ (-1 : Int64))) (hB : B = (if (64 : Int32) < (((z1.toInt64.toInt32) &&& (63 : Int32)) + z2) then (Nn ||| (ushL z8 ((64 : Int32) - ((z1.toInt64.toInt32) &&& (63 : Int32))))) else Nn)) : B &&& (z17 ^^^ (-1 : Int64)) = Nn := by
  obtain ⟨s, w, hw, rfl, rfl, e⟩ := own_nat p1 p2 z1 z2 z11 h1 h2 h11
  have hm := own_m s w z3 h3
  have hX := own_X s w z17 h17
  rw [e] at hB
  by_cases c : 64 < s.val + w.val
  · rw [if_pos ((dec_gt s w).mpr c)] at hB
    subst hB hn h8
    apply Int64.toBitVec_inj.mp
    simp only [Int64.toBitVec_and, Int64.toBitVec_or, Int64.toBitVec_xor, own_shr _ _ (64 - s.val) (by omega) (dec_sub s)]
    exact core3 s.val w.val _ q3.toBitVec N'.toBitVec z3.toBitVec z17.toBitVec hm rfl s.isLt hX c
  · rw [if_neg (fun q => c ((dec_gt s w).mp q))] at hB
    subst hB hn
    rw [Int64.and_assoc, Int64.and_self]
theorem fin1 {R Y : Int64} {p1 p2 z1 z2 z11 : Int32} {q3 z3 z8 z12 z17 N N' A B Nk Nn : Int64} (h1 : p1 &&& (127 : Int32) = z1) (h2 : (1 : Int32) + (p2 &&& (63 : Int32)) = z2) (h11 : z1 &&& (63 : Int32) = z11) (h3 : z3 = (if z2 = (64 : Int32) then (-1 : Int64) else (((1 : Int64) <<< (z2 &&& 0x3f).toInt64) - (1 : Int64)))) (h8 : q3 &&& z3 = z8) (h12 : z12 = (if z2 < ((64 : Int32) - z11) then (z3 <<< (z11 &&& 0x3f).toInt64) else ((-1 : Int64) <<< (z11 &&& 0x3f).toInt64))) (hk : Nk = N &&& (z12 ^^^ (-1 : Int64))) (hA : A = (Nk ||| (z8 <<< (((z1.toInt64.toInt32) &&& (63 : Int32)) &&& 0x3f).toInt64))) (h17 : z17 = (if (64 : Int32) < (z11 + z2) then (((1 : Int64) <<< (((z11 + z2) - (64 : Int32)) &&& 0x3f).toInt64) - (1 : Int64)) else (0 : Int64))) (hn : Nn = N' &&& (z17 ^^^ (-1 : Int64))) (hB : B = (if (64 : Int32) < (((z1.toInt64.toInt32) &&& (63 : Int32)) + z2) then (Nn ||| (ushL z8 ((64 : Int32) - ((z1.toInt64.toInt32) &&& (63 : Int32))))) else Nn)) (hR : R = (if z11 = 0 then (0 : Int64) else (B <<< (((64 : Int32) - z11) &&& 0x3f).toInt64))) (hY : (ushL A z11) ||| R = Y) : Y &&& z3 = z8 := by
  obtain ⟨s, w, hw, rfl, rfl, e⟩ := own_nat p1 p2 z1 z2 z11 h1 h2 h11
  have hm := own_m s w z3 h3
  have hK := own_K s w z3 z12 hm h12
  have hX := own_X s w z17 h17
  rw [e] at hA hB
  subst hY hk hn h8
  apply Int64.toBitVec_inj.mp
  rw [Int64.toBitVec_and, Int64.toBitVec_or, own_shr _ _ s.val s.isLt rfl]
  refine core1 s.val w.val _ q3.toBitVec N.toBitVec N'.toBitVec z3.toBitVec z12.toBitVec z17.toBitVec s.isLt hw hm (by rw [Int64.toBitVec_and]) hK hX A.toBitVec B.toBitVec ?_ ?_ _ ?_
  · rw [hA]; simp only [Int64.toBitVec_and, Int64.toBitVec_or, Int64.toBitVec_xor, own_shl _ _ s.val s.isLt rfl]; rfl
  · intro c
    rw [hB, if_pos ((dec_gt s w).mpr c)]
    simp only [Int64.toBitVec_and, Int64.toBitVec_or, Int64.toBitVec_xor, own_shr _ _ (64 - s.val) (by omega) (dec_sub s)]; rfl
  · rw [hR]
    by_cases c : s.val = 0
    · rw [if_pos ((dec_0 s).mpr c), if_pos c]; rfl
    · rw [if_neg (fun q => c ((dec_0 s).mp q)), if_neg c, own_shl _ _ (64 - s.val) (by omega) (dec_sub s)]
theorem fin0 (q y : Int64) : (q &&& y) &&& y = q &&& y := by rw [Int64.and_assoc, Int64.and_self]
theorem pd_0 : parseMethodDescriptor "([JJJI)V" = some ⟨[(.array .long), .long, .long, .int], none⟩ := by decide +kernel
theorem pn_0 : plainName "com/example/driftwalk/driftwalk/graph/BitsPutPinLaw" = true := by first | (simp [plainName, overriddenIn]; done) | decide +kernel
theorem ef_0 (m : MethodId) (p1 : Int32) (p2 : Int32) (q3 : Int64) (q4 : Int64) (q5 : Int64) (q6 : Int64) : entryFrame m #[(.int p1), (.int p2), (.long q3), (.long q4), (.long q5), (.long q6)] maxLocals = mkF m 0 #[.val (.int p1), .val (.int p2), .val (.long q3), .second, .val (.long q4), .second, .val (.long q5), .second, .val (.long q6), .second, .unset, .unset, .unset, .unset, .unset, .unset, .unset, .unset, .unset, .unset, .unset, .unset, .unset, .unset, .unset, .unset, .unset, .unset, .unset, .unset, .unset, .unset, .unset, .unset, .unset, .unset, .unset] [] := by first | (simp [entryFrame, mkF, argsToLocals, Value.category, maxLocals]; done) | rfl
set_option maxRecDepth 65536 in
set_option maxHeartbeats 40000000 in
theorem rm0 (l : Launch) (Z : State) (a0 : Array Value) (hw : ∀ d ∈ tables_1, d.before a0 Z = true) (p1 : Int32) (p2 : Int32) (q3 : Int64) (q4 : Int64) (q5 : Int64) (q6 : Int64) (h0 : Heap) (n0 : Nat) (Z0 : n0 ≤ h0.size) :
    Con l Z x code maxLocals ret room_1 #[(.int p1), (.int p2), (.long q3), (.long q4), (.long q5), (.long q6)] h0 n0 (some (.int 1)) (fun _ => True) := by
  refine con_of (plainFor_of_name pn_0) Z0 (fun m => ef_0 m p1 p2 q3 q4 q5 q6) ?_
  intro p e s m below meth c T0 X0
  refine w_iloadN X0 at_0 rfl rfl ?_
  refine w_bipush X0 at_1 (v := (127 : Int32)) rfl rfl ?_
  refine w_iand X0 at_3 rfl ?_
  generalize hz1 : (p1 &&& (127 : Int32)) = z1
  refine w_istore X0 at_4 rfl (L' := #[.val (.int p1), .val (.int p2), .val (.long q3), .second, .val (.long q4), .second, .val (.long q5), .second, .val (.long q6), .second, .val (.int z1), .unset, .unset, .unset, .unset, .unset, .unset, .unset, .unset, .unset, .unset, .unset, .unset, .unset, .unset, .unset, .unset, .unset, .unset, .unset, .unset, .unset, .unset, .unset, .unset, .unset, .unset]) rfl ?_
  refine w_iconst X0 at_6 (v := (1 : Int32)) rfl rfl ?_
  refine w_iloadN X0 at_7 rfl rfl ?_
  refine w_bipush X0 at_8 (v := (63 : Int32)) rfl rfl ?_
  refine w_iand X0 at_10 rfl ?_
  refine w_iadd X0 at_11 rfl ?_
  generalize hz2 : ((1 : Int32) + (p2 &&& (63 : Int32))) = z2
  refine w_istore X0 at_12 rfl (L' := #[.val (.int p1), .val (.int p2), .val (.long q3), .second, .val (.long q4), .second, .val (.long q5), .second, .val (.long q6), .second, .val (.int z1), .val (.int z2), .unset, .unset, .unset, .unset, .unset, .unset, .unset, .unset, .unset, .unset, .unset, .unset, .unset, .unset, .unset, .unset, .unset, .unset, .unset, .unset, .unset, .unset, .unset, .unset, .unset]) rfl ?_
  refine w_iload X0 at_14 rfl rfl ?_
  refine w_bipush X0 at_16 (v := (64 : Int32)) rfl rfl ?_
  suffices j6 : ∀ (T4 : State) (z3 : Int64), (Wk p l e room_1 s m #[(.int p1), (.int p2), (.long q3), (.long q4), (.long q5), (.long q6)] below meth c Z n0 x code maxLocals ret T4 0 0 h0) → (z3 = (if z2 = (64 : Int32) then (-1 : Int64) else (((1 : Int64) <<< (z2 &&& 0x3f).toInt64) - (1 : Int64)))) → Goes p e below (Done below s n0 room_1 (some (.int 1)) (fun _ => True)) T4 m 33 #[.val (.int p1), .val (.int p2), .val (.long q3), .second, .val (.long q4), .second, .val (.long q5), .second, .val (.long q6), .second, .val (.int z1), .val (.int z2), .unset, .unset, .unset, .unset, .unset, .unset, .unset, .unset, .unset, .unset, .unset, .unset, .unset, .unset, .unset, .unset, .unset, .unset, .unset, .unset, .unset, .unset, .unset, .unset, .unset] [(.long z3)] by
    refine w_icmp_ne X0 at_18 (by decide) (pcT := 27) (pcF := 21) (by decide) rfl (fun c7 => ?_) (fun c7 => ?_)
    · refine w_lconst X0 at_27 (v := (1 : Int64)) rfl rfl ?_
      refine w_iload X0 at_28 rfl rfl ?_
      refine w_lshl X0 at_30 rfl ?_
      refine w_lconst X0 at_31 (v := (1 : Int64)) rfl rfl ?_
      refine w_lsub X0 at_32 rfl ?_
      exact j6 _ _ X0 (by rw [if_neg c7])
    · refine w_ldc2Long X0 (hw _ (List.mem_of_getElem? (i := 1) rfl)) at_21 rfl ?_
      refine w_goto X0 at_24 (by decide) (pc' := 33) (by decide) ?_
      exact j6 _ _ X0 (by rw [if_pos c7])
  intro T4 z3 X5 hz3
  refine w_lstore X5 at_33 rfl (L' := #[.val (.int p1), .val (.int p2), .val (.long q3), .second, .val (.long q4), .second, .val (.long q5), .second, .val (.long q6), .second, .val (.int z1), .val (.int z2), .val (.long z3), .second, .unset, .unset, .unset, .unset, .unset, .unset, .unset, .unset, .unset, .unset, .unset, .unset, .unset, .unset, .unset, .unset, .unset, .unset, .unset, .unset, .unset, .unset, .unset]) rfl ?_
  refine w_lloadN X5 at_35 rfl rfl ?_
  refine w_lload X5 at_36 rfl rfl ?_
  refine w_land X5 at_38 rfl ?_
  generalize hz8 : (q3 &&& z3) = z8
  refine w_lstore X5 at_39 rfl (L' := #[.val (.int p1), .val (.int p2), .val (.long q3), .second, .val (.long q4), .second, .val (.long q5), .second, .val (.long q6), .second, .val (.int z1), .val (.int z2), .val (.long z3), .second, .val (.long z8), .second, .unset, .unset, .unset, .unset, .unset, .unset, .unset, .unset, .unset, .unset, .unset, .unset, .unset, .unset, .unset, .unset, .unset, .unset, .unset, .unset, .unset]) rfl ?_
  refine w_iload X5 at_41 rfl rfl ?_
  refine w_bipush X5 at_43 (v := (6 : Int32)) rfl rfl ?_
  refine w_iushr X5 at_45 rfl ?_
  generalize hz9 : (ush z1 (6 : Int32)) = z9
  refine w_istore X5 at_46 rfl (L' := #[.val (.int p1), .val (.int p2), .val (.long q3), .second, .val (.long q4), .second, .val (.long q5), .second, .val (.long q6), .second, .val (.int z1), .val (.int z2), .val (.long z3), .second, .val (.long z8), .second, .val (.int z9), .unset, .unset, .unset, .unset, .unset, .unset, .unset, .unset, .unset, .unset, .unset, .unset, .unset, .unset, .unset, .unset, .unset, .unset, .unset, .unset]) rfl ?_
  rcases (own_01 _ _ _ hz1 hz9) with q10 | q10
  · subst q10
    refine w_iload X5 at_48 rfl rfl ?_
    refine w_bipush X5 at_50 (v := (63 : Int32)) rfl rfl ?_
    refine w_iand X5 at_52 rfl ?_
    generalize hz11 : (z1 &&& (63 : Int32)) = z11
    refine w_istore X5 at_53 rfl (L' := #[.val (.int p1), .val (.int p2), .val (.long q3), .second, .val (.long q4), .second, .val (.long q5), .second, .val (.long q6), .second, .val (.int z1), .val (.int z2), .val (.long z3), .second, .val (.long z8), .second, .val (.int (0 : Int32)), .val (.int z11), .unset, .unset, .unset, .unset, .unset, .unset, .unset, .unset, .unset, .unset, .unset, .unset, .unset, .unset, .unset, .unset, .unset, .unset, .unset]) rfl ?_
    refine w_iload X5 at_55 rfl rfl ?_
    refine w_bipush X5 at_57 (v := (64 : Int32)) rfl rfl ?_
    refine w_iload X5 at_59 rfl rfl ?_
    refine w_isub X5 at_61 rfl ?_
    suffices j15 : ∀ (T13 : State) (z12 : Int64), (Wk p l e room_1 s m #[(.int p1), (.int p2), (.long q3), (.long q4), (.long q5), (.long q6)] below meth c Z n0 x code maxLocals ret T13 0 0 h0) → (z12 = (if z2 < ((64 : Int32) - z11) then (z3 <<< (z11 &&& 0x3f).toInt64) else ((-1 : Int64) <<< (z11 &&& 0x3f).toInt64))) → Goes p e below (Done below s n0 room_1 (some (.int 1)) (fun _ => True)) T13 m 79 #[.val (.int p1), .val (.int p2), .val (.long q3), .second, .val (.long q4), .second, .val (.long q5), .second, .val (.long q6), .second, .val (.int z1), .val (.int z2), .val (.long z3), .second, .val (.long z8), .second, .val (.int (0 : Int32)), .val (.int z11), .unset, .unset, .unset, .unset, .unset, .unset, .unset, .unset, .unset, .unset, .unset, .unset, .unset, .unset, .unset, .unset, .unset, .unset, .unset] [(.long z12)] by
      refine w_icmp_lt X5 at_62 (by decide) (pcT := 74) (pcF := 65) (by decide) rfl (fun c16 => ?_) (fun c16 => ?_)
      · refine w_lload X5 at_74 rfl rfl ?_
        refine w_iload X5 at_76 rfl rfl ?_
        refine w_lshl X5 at_78 rfl ?_
        exact j15 _ _ X5 (by rw [if_pos c16])
      · refine w_ldc2Long X5 (hw _ (List.mem_of_getElem? (i := 1) rfl)) at_65 rfl ?_
        refine w_iload X5 at_68 rfl rfl ?_
        refine w_lshl X5 at_70 rfl ?_
        refine w_goto X5 at_71 (by decide) (pc' := 79) (by decide) ?_
        exact j15 _ _ X5 (by rw [if_neg c16])
    intro T13 z12 X14 hz12
    refine w_lstore X14 at_79 rfl (L' := #[.val (.int p1), .val (.int p2), .val (.long q3), .second, .val (.long q4), .second, .val (.long q5), .second, .val (.long q6), .second, .val (.int z1), .val (.int z2), .val (.long z3), .second, .val (.long z8), .second, .val (.int (0 : Int32)), .val (.int z11), .val (.long z12), .second, .unset, .unset, .unset, .unset, .unset, .unset, .unset, .unset, .unset, .unset, .unset, .unset, .unset, .unset, .unset, .unset, .unset]) rfl ?_
    refine w_iload X14 at_81 rfl rfl ?_
    refine w_iload X14 at_83 rfl rfl ?_
    refine w_iadd X14 at_85 rfl ?_
    refine w_bipush X14 at_86 (v := (64 : Int32)) rfl rfl ?_
    suffices j20 : ∀ (T18 : State) (z17 : Int64), (Wk p l e room_1 s m #[(.int p1), (.int p2), (.long q3), (.long q4), (.long q5), (.long q6)] below meth c Z n0 x code maxLocals ret T18 0 0 h0) → (z17 = (if (64 : Int32) < (z11 + z2) then (((1 : Int64) <<< (((z11 + z2) - (64 : Int32)) &&& 0x3f).toInt64) - (1 : Int64)) else (0 : Int64))) → Goes p e below (Done below s n0 room_1 (some (.int 1)) (fun _ => True)) T18 m 107 #[.val (.int p1), .val (.int p2), .val (.long q3), .second, .val (.long q4), .second, .val (.long q5), .second, .val (.long q6), .second, .val (.int z1), .val (.int z2), .val (.long z3), .second, .val (.long z8), .second, .val (.int (0 : Int32)), .val (.int z11), .val (.long z12), .second, .unset, .unset, .unset, .unset, .unset, .unset, .unset, .unset, .unset, .unset, .unset, .unset, .unset, .unset, .unset, .unset, .unset] [(.long z17)] by
      refine w_icmp_le X14 at_88 (by decide) (pcT := 106) (pcF := 91) (by decide) rfl (fun c21 => ?_) (fun c21 => ?_)
      · refine w_lconst X14 at_106 (v := (0 : Int64)) rfl rfl ?_
        exact j20 _ _ X14 (by rw [if_neg c21])
      · refine w_lconst X14 at_91 (v := (1 : Int64)) rfl rfl ?_
        refine w_iload X14 at_92 rfl rfl ?_
        refine w_iload X14 at_94 rfl rfl ?_
        refine w_iadd X14 at_96 rfl ?_
        refine w_bipush X14 at_97 (v := (64 : Int32)) rfl rfl ?_
        refine w_isub X14 at_99 rfl ?_
        refine w_lshl X14 at_100 rfl ?_
        refine w_lconst X14 at_101 (v := (1 : Int64)) rfl rfl ?_
        refine w_lsub X14 at_102 rfl ?_
        refine w_goto X14 at_103 (by decide) (pc' := 107) (by decide) ?_
        exact j20 _ _ X14 (by rw [if_pos c21])
    intro T18 z17 X19 hz17
    refine w_lstore X19 at_107 rfl (L' := #[.val (.int p1), .val (.int p2), .val (.long q3), .second, .val (.long q4), .second, .val (.long q5), .second, .val (.long q6), .second, .val (.int z1), .val (.int z2), .val (.long z3), .second, .val (.long z8), .second, .val (.int (0 : Int32)), .val (.int z11), .val (.long z12), .second, .val (.long z17), .second, .unset, .unset, .unset, .unset, .unset, .unset, .unset, .unset, .unset, .unset, .unset, .unset, .unset, .unset, .unset]) rfl ?_
    refine w_iload X19 at_109 rfl rfl ?_
    refine w_if_ne X19 at_111 (by decide) (pcT := 119) (pcF := 114) (by decide) rfl (fun c22 => absurd c22 (by decide)) (fun c22 => ?_)
    refine w_lload X19 at_114 rfl rfl ?_
    refine w_goto X19 at_116 (by decide) (pc' := 120) (by decide) ?_
    refine w_lstore X19 at_120 rfl (L' := #[.val (.int p1), .val (.int p2), .val (.long q3), .second, .val (.long q4), .second, .val (.long q5), .second, .val (.long q6), .second, .val (.int z1), .val (.int z2), .val (.long z3), .second, .val (.long z8), .second, .val (.int (0 : Int32)), .val (.int z11), .val (.long z12), .second, .val (.long z17), .second, .val (.long z12), .second, .unset, .unset, .unset, .unset, .unset, .unset, .unset, .unset, .unset, .unset, .unset, .unset, .unset]) rfl ?_
    refine w_iload X19 at_122 rfl rfl ?_
    refine w_if_ne X19 at_124 (by decide) (pcT := 132) (pcF := 127) (by decide) rfl (fun c23 => absurd c23 (by decide)) (fun c23 => ?_)
    refine w_lload X19 at_127 rfl rfl ?_
    refine w_goto X19 at_129 (by decide) (pc' := 134) (by decide) ?_
    refine w_lstore X19 at_134 rfl (L' := #[.val (.int p1), .val (.int p2), .val (.long q3), .second, .val (.long q4), .second, .val (.long q5), .second, .val (.long q6), .second, .val (.int z1), .val (.int z2), .val (.long z3), .second, .val (.long z8), .second, .val (.int (0 : Int32)), .val (.int z11), .val (.long z12), .second, .val (.long z17), .second, .val (.long z12), .second, .val (.long z17), .second, .unset, .unset, .unset, .unset, .unset, .unset, .unset, .unset, .unset, .unset, .unset]) rfl ?_
    refine w_iload X19 at_136 rfl rfl ?_
    refine w_if_ne X19 at_138 (by decide) (pcT := 145) (pcF := 141) (by decide) rfl (fun c24 => absurd c24 (by decide)) (fun c24 => ?_)
    refine w_lconst X19 at_141 (v := (0 : Int64)) rfl rfl ?_
    refine w_goto X19 at_142 (by decide) (pc' := 147) (by decide) ?_
    refine w_lstore X19 at_147 rfl (L' := #[.val (.int p1), .val (.int p2), .val (.long q3), .second, .val (.long q4), .second, .val (.long q5), .second, .val (.long q6), .second, .val (.int z1), .val (.int z2), .val (.long z3), .second, .val (.long z8), .second, .val (.int (0 : Int32)), .val (.int z11), .val (.long z12), .second, .val (.long z17), .second, .val (.long z12), .second, .val (.long z17), .second, .val (.long (0 : Int64)), .second, .unset, .unset, .unset, .unset, .unset, .unset, .unset, .unset, .unset]) rfl ?_
    refine w_iconst X19 at_149 (v := (3 : Int32)) rfl rfl ?_
    refine w_newP X19 (hw _ (List.mem_of_getElem? (i := 0) rfl)) (by decide) (k := 3) (by decide) (cap := 3) (by decide) (by decide) (by decide) (by decide) at_150 rfl fun T25 h27 a28 X26 ga29 gn30 E31 A32 => ?_
    have g033 : h0.size ≤ a28 := by rw [ga29]; exact (Keep.refl h0 []).1
    have k34 : Keep h0 h27 [] := (Keep.refl h0 []).ext E31
    have f35 : AV Z h27 a28 .long [(.long (0 : Int64)), (.long (0 : Int64)), (.long (0 : Int64))] := A32
    refine w_astore X26 at_152 rfl rfl (L' := #[.val (.int p1), .val (.int p2), .val (.long q3), .second, .val (.long q4), .second, .val (.long q5), .second, .val (.long q6), .second, .val (.int z1), .val (.int z2), .val (.long z3), .second, .val (.long z8), .second, .val (.int (0 : Int32)), .val (.int z11), .val (.long z12), .second, .val (.long z17), .second, .val (.long z12), .second, .val (.long z17), .second, .val (.long (0 : Int64)), .second, .val (.ref a28), .unset, .unset, .unset, .unset, .unset, .unset, .unset, .unset]) rfl ?_
    refine w_aload X26 at_154 rfl rfl rfl ?_
    refine w_iconst X26 at_156 (v := (0 : Int32)) rfl rfl ?_
    refine w_lload X26 at_157 rfl rfl ?_
    refine w_lload X26 at_159 rfl rfl ?_
    refine w_ldc2Long X26 (hw _ (List.mem_of_getElem? (i := 1) rfl)) at_161 rfl ?_
    refine w_lxor X26 at_164 rfl ?_
    refine w_land X26 at_165 rfl ?_
    refine w_lastore X26 f35 (by decide) (i := 0) (by decide) (Nat.le_of_ble_eq_true rfl) gn30 at_166 rfl fun T36 h39 X37 W38 A40 => ?_
    obtain ⟨z41, hz41⟩ : ∃ z, z = (q4 &&& (z12 ^^^ (-1 : Int64))) := ⟨_, rfl⟩
    have f42 : AV Z h39 a28 .long [(.long z41), (.long (0 : Int64)), (.long (0 : Int64))] := (by subst hz41; exact A40)
    have k43 : Keep h0 h39 [] := k34.wr W38 (Or.inr g033)
    refine w_aload X37 at_167 rfl rfl rfl ?_
    refine w_iconst X37 at_169 (v := (1 : Int32)) rfl rfl ?_
    refine w_lload X37 at_170 rfl rfl ?_
    refine w_lload X37 at_172 rfl rfl ?_
    refine w_ldc2Long X37 (hw _ (List.mem_of_getElem? (i := 1) rfl)) at_174 rfl ?_
    refine w_lxor X37 at_177 rfl ?_
    refine w_land X37 at_178 rfl ?_
    refine w_lastore X37 f42 (by decide) (i := 1) (by decide) (Nat.le_of_ble_eq_true rfl) gn30 at_179 rfl fun T44 h47 X45 W46 A48 => ?_
    obtain ⟨z49, hz49⟩ : ∃ z, z = (q5 &&& (z17 ^^^ (-1 : Int64))) := ⟨_, rfl⟩
    have f50 : AV Z h47 a28 .long [(.long z41), (.long z49), (.long (0 : Int64))] := (by subst hz49; exact A48)
    have k51 : Keep h0 h47 [] := k43.wr W46 (Or.inr g033)
    refine w_aload X45 at_180 rfl rfl rfl ?_
    refine w_iconst X45 at_182 (v := (2 : Int32)) rfl rfl ?_
    refine w_lload X45 at_183 rfl rfl ?_
    refine w_lload X45 at_185 rfl rfl ?_
    refine w_ldc2Long X45 (hw _ (List.mem_of_getElem? (i := 1) rfl)) at_187 rfl ?_
    refine w_lxor X45 at_190 rfl ?_
    refine w_land X45 at_191 rfl ?_
    refine w_lastore X45 f50 (by decide) (i := 2) (by decide) (Nat.le_of_ble_eq_true rfl) gn30 at_192 rfl fun T52 h55 X53 W54 A56 => ?_
    obtain ⟨z57, hz57⟩ : ∃ z, z = (q6 &&& ((0 : Int64) ^^^ (-1 : Int64))) := ⟨_, rfl⟩
    have f58 : AV Z h55 a28 .long [(.long z41), (.long z49), (.long z57)] := (by subst hz57; exact A56)
    have k59 : Keep h0 h55 [] := k51.wr W54 (Or.inr g033)
    refine w_aload X53 at_193 rfl rfl rfl ?_
    refine w_iconst X53 at_195 (v := (0 : Int32)) rfl rfl ?_
    refine w_laload X53 f58 (by decide) (i := 0) (by decide) rfl at_196 rfl ?_
    refine w_lstore X53 at_197 rfl (L' := #[.val (.int p1), .val (.int p2), .val (.long q3), .second, .val (.long q4), .second, .val (.long q5), .second, .val (.long q6), .second, .val (.int z1), .val (.int z2), .val (.long z3), .second, .val (.long z8), .second, .val (.int (0 : Int32)), .val (.int z11), .val (.long z12), .second, .val (.long z17), .second, .val (.long z12), .second, .val (.long z17), .second, .val (.long (0 : Int64)), .second, .val (.ref a28), .val (.long z41), .second, .unset, .unset, .unset, .unset, .unset, .unset]) rfl ?_
    refine w_aload X53 at_199 rfl rfl rfl ?_
    refine w_iconst X53 at_201 (v := (1 : Int32)) rfl rfl ?_
    refine w_laload X53 f58 (by decide) (i := 1) (by decide) rfl at_202 rfl ?_
    refine w_lstore X53 at_203 rfl (L' := #[.val (.int p1), .val (.int p2), .val (.long q3), .second, .val (.long q4), .second, .val (.long q5), .second, .val (.long q6), .second, .val (.int z1), .val (.int z2), .val (.long z3), .second, .val (.long z8), .second, .val (.int (0 : Int32)), .val (.int z11), .val (.long z12), .second, .val (.long z17), .second, .val (.long z12), .second, .val (.long z17), .second, .val (.long (0 : Int64)), .second, .val (.ref a28), .val (.long z41), .second, .val (.long z49), .second, .unset, .unset, .unset, .unset]) rfl ?_
    refine w_aload X53 at_205 rfl rfl rfl ?_
    refine w_iconst X53 at_207 (v := (2 : Int32)) rfl rfl ?_
    refine w_laload X53 f58 (by decide) (i := 2) (by decide) rfl at_208 rfl ?_
    refine w_lstore X53 at_209 rfl (L' := #[.val (.int p1), .val (.int p2), .val (.long q3), .second, .val (.long q4), .second, .val (.long q5), .second, .val (.long q6), .second, .val (.int z1), .val (.int z2), .val (.long z3), .second, .val (.long z8), .second, .val (.int (0 : Int32)), .val (.int z11), .val (.long z12), .second, .val (.long z17), .second, .val (.long z12), .second, .val (.long z17), .second, .val (.long (0 : Int64)), .second, .val (.ref a28), .val (.long z41), .second, .val (.long z49), .second, .val (.long z57), .second, .unset, .unset]) rfl ?_
    refine w_aload X53 at_211 rfl rfl rfl ?_
    refine w_iload X53 at_213 rfl rfl ?_
    refine w_i2l X53 at_215 rfl ?_
    refine w_lload X53 at_216 rfl rfl ?_
    refine w_iload X53 at_218 rfl rfl ?_
    refine w_static0 X53 (rm1_0 l Z a0 hw a28 (z1.toInt64) z8 z2 z41 z49 z57 h55 n0 X53.size f58 gn30 (own_k _ _ _ hz1 hz9)) (hw _ (List.mem_of_getElem? (i := 2) rfl)) (hw _ (List.mem_of_getElem? (i := 3) rfl)) (hw _ (List.mem_of_getElem? (i := 4) rfl)) (hw _ (List.mem_of_getElem? (i := 5) rfl)) (by decide) (argsL := [(.ref a28), (.long (z1.toInt64)), (.long z8), (.int z2)]) (rest := []) rfl (lenOf pd_0 rfl) rfl (W := 0) rfl (by decide) (by decide) (by decide) (by decide) at_220 rfl fun T60 h61 X62 q63 => ?_
    obtain ⟨K64, f65⟩ := q63
    have k66 : Keep h0 h61 [] := k59.trans K64 (allS (Or.inr g033) all0)
    obtain ⟨z67, hz67⟩ : ∃ z, z = (f_put0_o1_0 (z1.toInt64) z8 z2 z41 z49 z57) := ⟨_, rfl⟩
    obtain ⟨z68, hz68⟩ : ∃ z, z = (f_put0_o1_1 (z1.toInt64) z8 z2 z41 z49 z57) := ⟨_, rfl⟩
    have f69 : AV Z h61 a28 .long [(.long z67), (.long z68), (.long z57)] := by subst hz68 hz67; exact f65
    refine w_aload X62 at_223 rfl rfl rfl ?_
    refine w_iload X62 at_225 rfl rfl ?_
    refine w_laload X62 f69 (by decide) (i := 0) (by decide) rfl at_227 rfl ?_
    refine w_iload X62 at_228 rfl rfl ?_
    refine w_lushr X62 at_230 rfl ?_
    refine w_iload X62 at_231 rfl rfl ?_
    suffices j73 : ∀ (T71 : State) (z70 : Int64), (Wk p l e room_1 s m #[(.int p1), (.int p2), (.long q3), (.long q4), (.long q5), (.long q6)] below meth c Z n0 x code maxLocals ret T71 1 3 h61) → (z70 = (if z11 = 0 then (0 : Int64) else (z68 <<< (((64 : Int32) - z11) &&& 0x3f).toInt64))) → Goes p e below (Done below s n0 room_1 (some (.int 1)) (fun _ => True)) T71 m 253 #[.val (.int p1), .val (.int p2), .val (.long q3), .second, .val (.long q4), .second, .val (.long q5), .second, .val (.long q6), .second, .val (.int z1), .val (.int z2), .val (.long z3), .second, .val (.long z8), .second, .val (.int (0 : Int32)), .val (.int z11), .val (.long z12), .second, .val (.long z17), .second, .val (.long z12), .second, .val (.long z17), .second, .val (.long (0 : Int64)), .second, .val (.ref a28), .val (.long z41), .second, .val (.long z49), .second, .val (.long z57), .second, .unset, .unset] [(.long z70), (.long (ushL z67 z11))] by
      refine w_if_ne X62 at_233 (by decide) (pcT := 240) (pcF := 236) (by decide) rfl (fun c74 => ?_) (fun c74 => ?_)
      · refine w_aload X62 at_240 rfl rfl rfl ?_
        refine w_iload X62 at_242 rfl rfl ?_
        refine w_iconst X62 at_244 (v := (1 : Int32)) rfl rfl ?_
        refine w_iadd X62 at_245 rfl ?_
        refine w_laload X62 f69 (by decide) (i := 1) (by decide) rfl at_246 rfl ?_
        refine w_bipush X62 at_247 (v := (64 : Int32)) rfl rfl ?_
        refine w_iload X62 at_249 rfl rfl ?_
        refine w_isub X62 at_251 rfl ?_
        refine w_lshl X62 at_252 rfl ?_
        exact j73 _ _ X62 (by rw [if_neg c74])
      · refine w_lconst X62 at_236 (v := (0 : Int64)) rfl rfl ?_
        refine w_goto X62 at_237 (by decide) (pc' := 253) (by decide) ?_
        exact j73 _ _ X62 (by rw [if_pos c74])
    intro T71 z70 X72 hz70
    refine w_lor X72 at_253 rfl ?_
    generalize hz75 : ((ushL z67 z11) ||| z70) = z75
    refine w_lstore X72 at_254 rfl (L' := #[.val (.int p1), .val (.int p2), .val (.long q3), .second, .val (.long q4), .second, .val (.long q5), .second, .val (.long q6), .second, .val (.int z1), .val (.int z2), .val (.long z3), .second, .val (.long z8), .second, .val (.int (0 : Int32)), .val (.int z11), .val (.long z12), .second, .val (.long z17), .second, .val (.long z12), .second, .val (.long z17), .second, .val (.long (0 : Int64)), .second, .val (.ref a28), .val (.long z41), .second, .val (.long z49), .second, .val (.long z57), .second, .val (.long z75), .second]) rfl ?_
    refine w_lload X72 at_256 rfl rfl ?_
    refine w_lload X72 at_258 rfl rfl ?_
    refine w_land X72 at_260 rfl ?_
    refine w_lload X72 at_261 rfl rfl ?_
    refine w_lcmp_ne X72 at_263 rfl at_264 (by decide) (pcT := 322) (pcF := 267) (by decide) rfl (fun c76 => ?_) (fun c76 => ?_)
    · refine w_iconst X72 at_322 (v := (0 : Int32)) rfl rfl ?_
      exact False.elim (c76 (fin1 hz1 hz2 hz11 hz3 hz8 hz12 hz41 hz67 hz17 hz49 hz68 hz70 hz75))
    · refine w_aload X72 at_267 rfl rfl rfl ?_
      refine w_iconst X72 at_269 (v := (0 : Int32)) rfl rfl ?_
      refine w_laload X72 f69 (by decide) (i := 0) (by decide) rfl at_270 rfl ?_
      refine w_lload X72 at_271 rfl rfl ?_
      refine w_ldc2Long X72 (hw _ (List.mem_of_getElem? (i := 1) rfl)) at_273 rfl ?_
      refine w_lxor X72 at_276 rfl ?_
      refine w_land X72 at_277 rfl ?_
      refine w_lload X72 at_278 rfl rfl ?_
      refine w_lcmp_ne X72 at_280 rfl at_281 (by decide) (pcT := 322) (pcF := 284) (by decide) rfl (fun c77 => ?_) (fun c77 => ?_)
      · refine w_iconst X72 at_322 (v := (0 : Int32)) rfl rfl ?_
        exact False.elim (c77 (fin2 hz1 hz2 hz11 hz3 hz8 hz12 hz41 hz67))
      · refine w_aload X72 at_284 rfl rfl rfl ?_
        refine w_iconst X72 at_286 (v := (1 : Int32)) rfl rfl ?_
        refine w_laload X72 f69 (by decide) (i := 1) (by decide) rfl at_287 rfl ?_
        refine w_lload X72 at_288 rfl rfl ?_
        refine w_ldc2Long X72 (hw _ (List.mem_of_getElem? (i := 1) rfl)) at_290 rfl ?_
        refine w_lxor X72 at_293 rfl ?_
        refine w_land X72 at_294 rfl ?_
        refine w_lload X72 at_295 rfl rfl ?_
        refine w_lcmp_ne X72 at_297 rfl at_298 (by decide) (pcT := 322) (pcF := 301) (by decide) rfl (fun c78 => ?_) (fun c78 => ?_)
        · refine w_iconst X72 at_322 (v := (0 : Int32)) rfl rfl ?_
          exact False.elim (c78 (fin3 hz1 hz2 hz11 hz3 hz8 hz17 hz49 hz68))
        · refine w_aload X72 at_301 rfl rfl rfl ?_
          refine w_iconst X72 at_303 (v := (2 : Int32)) rfl rfl ?_
          refine w_laload X72 f69 (by decide) (i := 2) (by decide) rfl at_304 rfl ?_
          refine w_lload X72 at_305 rfl rfl ?_
          refine w_ldc2Long X72 (hw _ (List.mem_of_getElem? (i := 1) rfl)) at_307 rfl ?_
          refine w_lxor X72 at_310 rfl ?_
          refine w_land X72 at_311 rfl ?_
          refine w_lload X72 at_312 rfl rfl ?_
          refine w_lcmp_ne X72 at_314 rfl at_315 (by decide) (pcT := 322) (pcF := 318) (by decide) rfl (fun c79 => ?_) (fun c79 => ?_)
          · refine w_iconst X72 at_322 (v := (0 : Int32)) rfl rfl ?_
            exact False.elim (c79 (by subst hz57; exact fin0 _ _))
          · refine w_iconst X72 at_318 (v := (1 : Int32)) rfl rfl ?_
            refine w_goto X72 at_319 (by decide) (pc' := 323) (by decide) ?_
            exact w_nreturn X72 (t := .boolean) (by simp) at_323 rfl trivial (by decide) (by decide)
  · subst q10
    refine w_iload X5 at_48 rfl rfl ?_
    refine w_bipush X5 at_50 (v := (63 : Int32)) rfl rfl ?_
    refine w_iand X5 at_52 rfl ?_
    generalize hz80 : (z1 &&& (63 : Int32)) = z80
    refine w_istore X5 at_53 rfl (L' := #[.val (.int p1), .val (.int p2), .val (.long q3), .second, .val (.long q4), .second, .val (.long q5), .second, .val (.long q6), .second, .val (.int z1), .val (.int z2), .val (.long z3), .second, .val (.long z8), .second, .val (.int (1 : Int32)), .val (.int z80), .unset, .unset, .unset, .unset, .unset, .unset, .unset, .unset, .unset, .unset, .unset, .unset, .unset, .unset, .unset, .unset, .unset, .unset, .unset]) rfl ?_
    refine w_iload X5 at_55 rfl rfl ?_
    refine w_bipush X5 at_57 (v := (64 : Int32)) rfl rfl ?_
    refine w_iload X5 at_59 rfl rfl ?_
    refine w_isub X5 at_61 rfl ?_
    suffices j84 : ∀ (T82 : State) (z81 : Int64), (Wk p l e room_1 s m #[(.int p1), (.int p2), (.long q3), (.long q4), (.long q5), (.long q6)] below meth c Z n0 x code maxLocals ret T82 0 0 h0) → (z81 = (if z2 < ((64 : Int32) - z80) then (z3 <<< (z80 &&& 0x3f).toInt64) else ((-1 : Int64) <<< (z80 &&& 0x3f).toInt64))) → Goes p e below (Done below s n0 room_1 (some (.int 1)) (fun _ => True)) T82 m 79 #[.val (.int p1), .val (.int p2), .val (.long q3), .second, .val (.long q4), .second, .val (.long q5), .second, .val (.long q6), .second, .val (.int z1), .val (.int z2), .val (.long z3), .second, .val (.long z8), .second, .val (.int (1 : Int32)), .val (.int z80), .unset, .unset, .unset, .unset, .unset, .unset, .unset, .unset, .unset, .unset, .unset, .unset, .unset, .unset, .unset, .unset, .unset, .unset, .unset] [(.long z81)] by
      refine w_icmp_lt X5 at_62 (by decide) (pcT := 74) (pcF := 65) (by decide) rfl (fun c85 => ?_) (fun c85 => ?_)
      · refine w_lload X5 at_74 rfl rfl ?_
        refine w_iload X5 at_76 rfl rfl ?_
        refine w_lshl X5 at_78 rfl ?_
        exact j84 _ _ X5 (by rw [if_pos c85])
      · refine w_ldc2Long X5 (hw _ (List.mem_of_getElem? (i := 1) rfl)) at_65 rfl ?_
        refine w_iload X5 at_68 rfl rfl ?_
        refine w_lshl X5 at_70 rfl ?_
        refine w_goto X5 at_71 (by decide) (pc' := 79) (by decide) ?_
        exact j84 _ _ X5 (by rw [if_neg c85])
    intro T82 z81 X83 hz81
    refine w_lstore X83 at_79 rfl (L' := #[.val (.int p1), .val (.int p2), .val (.long q3), .second, .val (.long q4), .second, .val (.long q5), .second, .val (.long q6), .second, .val (.int z1), .val (.int z2), .val (.long z3), .second, .val (.long z8), .second, .val (.int (1 : Int32)), .val (.int z80), .val (.long z81), .second, .unset, .unset, .unset, .unset, .unset, .unset, .unset, .unset, .unset, .unset, .unset, .unset, .unset, .unset, .unset, .unset, .unset]) rfl ?_
    refine w_iload X83 at_81 rfl rfl ?_
    refine w_iload X83 at_83 rfl rfl ?_
    refine w_iadd X83 at_85 rfl ?_
    refine w_bipush X83 at_86 (v := (64 : Int32)) rfl rfl ?_
    suffices j89 : ∀ (T87 : State) (z86 : Int64), (Wk p l e room_1 s m #[(.int p1), (.int p2), (.long q3), (.long q4), (.long q5), (.long q6)] below meth c Z n0 x code maxLocals ret T87 0 0 h0) → (z86 = (if (64 : Int32) < (z80 + z2) then (((1 : Int64) <<< (((z80 + z2) - (64 : Int32)) &&& 0x3f).toInt64) - (1 : Int64)) else (0 : Int64))) → Goes p e below (Done below s n0 room_1 (some (.int 1)) (fun _ => True)) T87 m 107 #[.val (.int p1), .val (.int p2), .val (.long q3), .second, .val (.long q4), .second, .val (.long q5), .second, .val (.long q6), .second, .val (.int z1), .val (.int z2), .val (.long z3), .second, .val (.long z8), .second, .val (.int (1 : Int32)), .val (.int z80), .val (.long z81), .second, .unset, .unset, .unset, .unset, .unset, .unset, .unset, .unset, .unset, .unset, .unset, .unset, .unset, .unset, .unset, .unset, .unset] [(.long z86)] by
      refine w_icmp_le X83 at_88 (by decide) (pcT := 106) (pcF := 91) (by decide) rfl (fun c90 => ?_) (fun c90 => ?_)
      · refine w_lconst X83 at_106 (v := (0 : Int64)) rfl rfl ?_
        exact j89 _ _ X83 (by rw [if_neg c90])
      · refine w_lconst X83 at_91 (v := (1 : Int64)) rfl rfl ?_
        refine w_iload X83 at_92 rfl rfl ?_
        refine w_iload X83 at_94 rfl rfl ?_
        refine w_iadd X83 at_96 rfl ?_
        refine w_bipush X83 at_97 (v := (64 : Int32)) rfl rfl ?_
        refine w_isub X83 at_99 rfl ?_
        refine w_lshl X83 at_100 rfl ?_
        refine w_lconst X83 at_101 (v := (1 : Int64)) rfl rfl ?_
        refine w_lsub X83 at_102 rfl ?_
        refine w_goto X83 at_103 (by decide) (pc' := 107) (by decide) ?_
        exact j89 _ _ X83 (by rw [if_pos c90])
    intro T87 z86 X88 hz86
    refine w_lstore X88 at_107 rfl (L' := #[.val (.int p1), .val (.int p2), .val (.long q3), .second, .val (.long q4), .second, .val (.long q5), .second, .val (.long q6), .second, .val (.int z1), .val (.int z2), .val (.long z3), .second, .val (.long z8), .second, .val (.int (1 : Int32)), .val (.int z80), .val (.long z81), .second, .val (.long z86), .second, .unset, .unset, .unset, .unset, .unset, .unset, .unset, .unset, .unset, .unset, .unset, .unset, .unset, .unset, .unset]) rfl ?_
    refine w_iload X88 at_109 rfl rfl ?_
    refine w_if_ne X88 at_111 (by decide) (pcT := 119) (pcF := 114) (by decide) rfl (fun c91 => ?_) (fun c91 => absurd c91 (by decide))
    refine w_lconst X88 at_119 (v := (0 : Int64)) rfl rfl ?_
    refine w_lstore X88 at_120 rfl (L' := #[.val (.int p1), .val (.int p2), .val (.long q3), .second, .val (.long q4), .second, .val (.long q5), .second, .val (.long q6), .second, .val (.int z1), .val (.int z2), .val (.long z3), .second, .val (.long z8), .second, .val (.int (1 : Int32)), .val (.int z80), .val (.long z81), .second, .val (.long z86), .second, .val (.long (0 : Int64)), .second, .unset, .unset, .unset, .unset, .unset, .unset, .unset, .unset, .unset, .unset, .unset, .unset, .unset]) rfl ?_
    refine w_iload X88 at_122 rfl rfl ?_
    refine w_if_ne X88 at_124 (by decide) (pcT := 132) (pcF := 127) (by decide) rfl (fun c92 => ?_) (fun c92 => absurd c92 (by decide))
    refine w_lload X88 at_132 rfl rfl ?_
    refine w_lstore X88 at_134 rfl (L' := #[.val (.int p1), .val (.int p2), .val (.long q3), .second, .val (.long q4), .second, .val (.long q5), .second, .val (.long q6), .second, .val (.int z1), .val (.int z2), .val (.long z3), .second, .val (.long z8), .second, .val (.int (1 : Int32)), .val (.int z80), .val (.long z81), .second, .val (.long z86), .second, .val (.long (0 : Int64)), .second, .val (.long z81), .second, .unset, .unset, .unset, .unset, .unset, .unset, .unset, .unset, .unset, .unset, .unset]) rfl ?_
    refine w_iload X88 at_136 rfl rfl ?_
    refine w_if_ne X88 at_138 (by decide) (pcT := 145) (pcF := 141) (by decide) rfl (fun c93 => ?_) (fun c93 => absurd c93 (by decide))
    refine w_lload X88 at_145 rfl rfl ?_
    refine w_lstore X88 at_147 rfl (L' := #[.val (.int p1), .val (.int p2), .val (.long q3), .second, .val (.long q4), .second, .val (.long q5), .second, .val (.long q6), .second, .val (.int z1), .val (.int z2), .val (.long z3), .second, .val (.long z8), .second, .val (.int (1 : Int32)), .val (.int z80), .val (.long z81), .second, .val (.long z86), .second, .val (.long (0 : Int64)), .second, .val (.long z81), .second, .val (.long z86), .second, .unset, .unset, .unset, .unset, .unset, .unset, .unset, .unset, .unset]) rfl ?_
    refine w_iconst X88 at_149 (v := (3 : Int32)) rfl rfl ?_
    refine w_newP X88 (hw _ (List.mem_of_getElem? (i := 0) rfl)) (by decide) (k := 3) (by decide) (cap := 3) (by decide) (by decide) (by decide) (by decide) at_150 rfl fun T94 h96 a97 X95 ga98 gn99 E100 A101 => ?_
    have g0102 : h0.size ≤ a97 := by rw [ga98]; exact (Keep.refl h0 []).1
    have k103 : Keep h0 h96 [] := (Keep.refl h0 []).ext E100
    have f104 : AV Z h96 a97 .long [(.long (0 : Int64)), (.long (0 : Int64)), (.long (0 : Int64))] := A101
    refine w_astore X95 at_152 rfl rfl (L' := #[.val (.int p1), .val (.int p2), .val (.long q3), .second, .val (.long q4), .second, .val (.long q5), .second, .val (.long q6), .second, .val (.int z1), .val (.int z2), .val (.long z3), .second, .val (.long z8), .second, .val (.int (1 : Int32)), .val (.int z80), .val (.long z81), .second, .val (.long z86), .second, .val (.long (0 : Int64)), .second, .val (.long z81), .second, .val (.long z86), .second, .val (.ref a97), .unset, .unset, .unset, .unset, .unset, .unset, .unset, .unset]) rfl ?_
    refine w_aload X95 at_154 rfl rfl rfl ?_
    refine w_iconst X95 at_156 (v := (0 : Int32)) rfl rfl ?_
    refine w_lload X95 at_157 rfl rfl ?_
    refine w_lload X95 at_159 rfl rfl ?_
    refine w_ldc2Long X95 (hw _ (List.mem_of_getElem? (i := 1) rfl)) at_161 rfl ?_
    refine w_lxor X95 at_164 rfl ?_
    refine w_land X95 at_165 rfl ?_
    refine w_lastore X95 f104 (by decide) (i := 0) (by decide) (Nat.le_of_ble_eq_true rfl) gn99 at_166 rfl fun T105 h108 X106 W107 A109 => ?_
    obtain ⟨z110, hz110⟩ : ∃ z, z = (q4 &&& ((0 : Int64) ^^^ (-1 : Int64))) := ⟨_, rfl⟩
    have f111 : AV Z h108 a97 .long [(.long z110), (.long (0 : Int64)), (.long (0 : Int64))] := (by subst hz110; exact A109)
    have k112 : Keep h0 h108 [] := k103.wr W107 (Or.inr g0102)
    refine w_aload X106 at_167 rfl rfl rfl ?_
    refine w_iconst X106 at_169 (v := (1 : Int32)) rfl rfl ?_
    refine w_lload X106 at_170 rfl rfl ?_
    refine w_lload X106 at_172 rfl rfl ?_
    refine w_ldc2Long X106 (hw _ (List.mem_of_getElem? (i := 1) rfl)) at_174 rfl ?_
    refine w_lxor X106 at_177 rfl ?_
    refine w_land X106 at_178 rfl ?_
    refine w_lastore X106 f111 (by decide) (i := 1) (by decide) (Nat.le_of_ble_eq_true rfl) gn99 at_179 rfl fun T113 h116 X114 W115 A117 => ?_
    obtain ⟨z118, hz118⟩ : ∃ z, z = (q5 &&& (z81 ^^^ (-1 : Int64))) := ⟨_, rfl⟩
    have f119 : AV Z h116 a97 .long [(.long z110), (.long z118), (.long (0 : Int64))] := (by subst hz118; exact A117)
    have k120 : Keep h0 h116 [] := k112.wr W115 (Or.inr g0102)
    refine w_aload X114 at_180 rfl rfl rfl ?_
    refine w_iconst X114 at_182 (v := (2 : Int32)) rfl rfl ?_
    refine w_lload X114 at_183 rfl rfl ?_
    refine w_lload X114 at_185 rfl rfl ?_
    refine w_ldc2Long X114 (hw _ (List.mem_of_getElem? (i := 1) rfl)) at_187 rfl ?_
    refine w_lxor X114 at_190 rfl ?_
    refine w_land X114 at_191 rfl ?_
    refine w_lastore X114 f119 (by decide) (i := 2) (by decide) (Nat.le_of_ble_eq_true rfl) gn99 at_192 rfl fun T121 h124 X122 W123 A125 => ?_
    obtain ⟨z126, hz126⟩ : ∃ z, z = (q6 &&& (z86 ^^^ (-1 : Int64))) := ⟨_, rfl⟩
    have f127 : AV Z h124 a97 .long [(.long z110), (.long z118), (.long z126)] := (by subst hz126; exact A125)
    have k128 : Keep h0 h124 [] := k120.wr W123 (Or.inr g0102)
    refine w_aload X122 at_193 rfl rfl rfl ?_
    refine w_iconst X122 at_195 (v := (0 : Int32)) rfl rfl ?_
    refine w_laload X122 f127 (by decide) (i := 0) (by decide) rfl at_196 rfl ?_
    refine w_lstore X122 at_197 rfl (L' := #[.val (.int p1), .val (.int p2), .val (.long q3), .second, .val (.long q4), .second, .val (.long q5), .second, .val (.long q6), .second, .val (.int z1), .val (.int z2), .val (.long z3), .second, .val (.long z8), .second, .val (.int (1 : Int32)), .val (.int z80), .val (.long z81), .second, .val (.long z86), .second, .val (.long (0 : Int64)), .second, .val (.long z81), .second, .val (.long z86), .second, .val (.ref a97), .val (.long z110), .second, .unset, .unset, .unset, .unset, .unset, .unset]) rfl ?_
    refine w_aload X122 at_199 rfl rfl rfl ?_
    refine w_iconst X122 at_201 (v := (1 : Int32)) rfl rfl ?_
    refine w_laload X122 f127 (by decide) (i := 1) (by decide) rfl at_202 rfl ?_
    refine w_lstore X122 at_203 rfl (L' := #[.val (.int p1), .val (.int p2), .val (.long q3), .second, .val (.long q4), .second, .val (.long q5), .second, .val (.long q6), .second, .val (.int z1), .val (.int z2), .val (.long z3), .second, .val (.long z8), .second, .val (.int (1 : Int32)), .val (.int z80), .val (.long z81), .second, .val (.long z86), .second, .val (.long (0 : Int64)), .second, .val (.long z81), .second, .val (.long z86), .second, .val (.ref a97), .val (.long z110), .second, .val (.long z118), .second, .unset, .unset, .unset, .unset]) rfl ?_
    refine w_aload X122 at_205 rfl rfl rfl ?_
    refine w_iconst X122 at_207 (v := (2 : Int32)) rfl rfl ?_
    refine w_laload X122 f127 (by decide) (i := 2) (by decide) rfl at_208 rfl ?_
    refine w_lstore X122 at_209 rfl (L' := #[.val (.int p1), .val (.int p2), .val (.long q3), .second, .val (.long q4), .second, .val (.long q5), .second, .val (.long q6), .second, .val (.int z1), .val (.int z2), .val (.long z3), .second, .val (.long z8), .second, .val (.int (1 : Int32)), .val (.int z80), .val (.long z81), .second, .val (.long z86), .second, .val (.long (0 : Int64)), .second, .val (.long z81), .second, .val (.long z86), .second, .val (.ref a97), .val (.long z110), .second, .val (.long z118), .second, .val (.long z126), .second, .unset, .unset]) rfl ?_
    refine w_aload X122 at_211 rfl rfl rfl ?_
    refine w_iload X122 at_213 rfl rfl ?_
    refine w_i2l X122 at_215 rfl ?_
    refine w_lload X122 at_216 rfl rfl ?_
    refine w_iload X122 at_218 rfl rfl ?_
    refine w_static0 X122 (rm1_1 l Z a0 hw a97 (z1.toInt64) z8 z2 z110 z118 z126 h124 n0 X122.size f127 gn99 (own_k _ _ _ hz1 hz9)) (hw _ (List.mem_of_getElem? (i := 2) rfl)) (hw _ (List.mem_of_getElem? (i := 3) rfl)) (hw _ (List.mem_of_getElem? (i := 4) rfl)) (hw _ (List.mem_of_getElem? (i := 5) rfl)) (by decide) (argsL := [(.ref a97), (.long (z1.toInt64)), (.long z8), (.int z2)]) (rest := []) rfl (lenOf pd_0 rfl) rfl (W := 0) rfl (by decide) (by decide) (by decide) (by decide) at_220 rfl fun T129 h130 X131 q132 => ?_
    obtain ⟨K133, f134⟩ := q132
    have k135 : Keep h0 h130 [] := k128.trans K133 (allS (Or.inr g0102) all0)
    obtain ⟨z136, hz136⟩ : ∃ z, z = (f_put1_o1_1 (z1.toInt64) z8 z2 z110 z118 z126) := ⟨_, rfl⟩
    obtain ⟨z137, hz137⟩ : ∃ z, z = (f_put1_o1_2 (z1.toInt64) z8 z2 z110 z118 z126) := ⟨_, rfl⟩
    have f138 : AV Z h130 a97 .long [(.long z110), (.long z136), (.long z137)] := by subst hz137 hz136; exact f134
    refine w_aload X131 at_223 rfl rfl rfl ?_
    refine w_iload X131 at_225 rfl rfl ?_
    refine w_laload X131 f138 (by decide) (i := 1) (by decide) rfl at_227 rfl ?_
    refine w_iload X131 at_228 rfl rfl ?_
    refine w_lushr X131 at_230 rfl ?_
    refine w_iload X131 at_231 rfl rfl ?_
    suffices j142 : ∀ (T140 : State) (z139 : Int64), (Wk p l e room_1 s m #[(.int p1), (.int p2), (.long q3), (.long q4), (.long q5), (.long q6)] below meth c Z n0 x code maxLocals ret T140 1 3 h130) → (z139 = (if z80 = 0 then (0 : Int64) else (z137 <<< (((64 : Int32) - z80) &&& 0x3f).toInt64))) → Goes p e below (Done below s n0 room_1 (some (.int 1)) (fun _ => True)) T140 m 253 #[.val (.int p1), .val (.int p2), .val (.long q3), .second, .val (.long q4), .second, .val (.long q5), .second, .val (.long q6), .second, .val (.int z1), .val (.int z2), .val (.long z3), .second, .val (.long z8), .second, .val (.int (1 : Int32)), .val (.int z80), .val (.long z81), .second, .val (.long z86), .second, .val (.long (0 : Int64)), .second, .val (.long z81), .second, .val (.long z86), .second, .val (.ref a97), .val (.long z110), .second, .val (.long z118), .second, .val (.long z126), .second, .unset, .unset] [(.long z139), (.long (ushL z136 z80))] by
      refine w_if_ne X131 at_233 (by decide) (pcT := 240) (pcF := 236) (by decide) rfl (fun c143 => ?_) (fun c143 => ?_)
      · refine w_aload X131 at_240 rfl rfl rfl ?_
        refine w_iload X131 at_242 rfl rfl ?_
        refine w_iconst X131 at_244 (v := (1 : Int32)) rfl rfl ?_
        refine w_iadd X131 at_245 rfl ?_
        refine w_laload X131 f138 (by decide) (i := 2) (by decide) rfl at_246 rfl ?_
        refine w_bipush X131 at_247 (v := (64 : Int32)) rfl rfl ?_
        refine w_iload X131 at_249 rfl rfl ?_
        refine w_isub X131 at_251 rfl ?_
        refine w_lshl X131 at_252 rfl ?_
        exact j142 _ _ X131 (by rw [if_neg c143])
      · refine w_lconst X131 at_236 (v := (0 : Int64)) rfl rfl ?_
        refine w_goto X131 at_237 (by decide) (pc' := 253) (by decide) ?_
        exact j142 _ _ X131 (by rw [if_pos c143])
    intro T140 z139 X141 hz139
    refine w_lor X141 at_253 rfl ?_
    generalize hz144 : ((ushL z136 z80) ||| z139) = z144
    refine w_lstore X141 at_254 rfl (L' := #[.val (.int p1), .val (.int p2), .val (.long q3), .second, .val (.long q4), .second, .val (.long q5), .second, .val (.long q6), .second, .val (.int z1), .val (.int z2), .val (.long z3), .second, .val (.long z8), .second, .val (.int (1 : Int32)), .val (.int z80), .val (.long z81), .second, .val (.long z86), .second, .val (.long (0 : Int64)), .second, .val (.long z81), .second, .val (.long z86), .second, .val (.ref a97), .val (.long z110), .second, .val (.long z118), .second, .val (.long z126), .second, .val (.long z144), .second]) rfl ?_
    refine w_lload X141 at_256 rfl rfl ?_
    refine w_lload X141 at_258 rfl rfl ?_
    refine w_land X141 at_260 rfl ?_
    refine w_lload X141 at_261 rfl rfl ?_
    refine w_lcmp_ne X141 at_263 rfl at_264 (by decide) (pcT := 322) (pcF := 267) (by decide) rfl (fun c145 => ?_) (fun c145 => ?_)
    · refine w_iconst X141 at_322 (v := (0 : Int32)) rfl rfl ?_
      exact False.elim (c145 (fin1 hz1 hz2 hz80 hz3 hz8 hz81 hz118 hz136 hz86 hz126 hz137 hz139 hz144))
    · refine w_aload X141 at_267 rfl rfl rfl ?_
      refine w_iconst X141 at_269 (v := (0 : Int32)) rfl rfl ?_
      refine w_laload X141 f138 (by decide) (i := 0) (by decide) rfl at_270 rfl ?_
      refine w_lload X141 at_271 rfl rfl ?_
      refine w_ldc2Long X141 (hw _ (List.mem_of_getElem? (i := 1) rfl)) at_273 rfl ?_
      refine w_lxor X141 at_276 rfl ?_
      refine w_land X141 at_277 rfl ?_
      refine w_lload X141 at_278 rfl rfl ?_
      refine w_lcmp_ne X141 at_280 rfl at_281 (by decide) (pcT := 322) (pcF := 284) (by decide) rfl (fun c146 => ?_) (fun c146 => ?_)
      · refine w_iconst X141 at_322 (v := (0 : Int32)) rfl rfl ?_
        exact False.elim (c146 (by subst hz110; exact fin0 _ _))
      · refine w_aload X141 at_284 rfl rfl rfl ?_
        refine w_iconst X141 at_286 (v := (1 : Int32)) rfl rfl ?_
        refine w_laload X141 f138 (by decide) (i := 1) (by decide) rfl at_287 rfl ?_
        refine w_lload X141 at_288 rfl rfl ?_
        refine w_ldc2Long X141 (hw _ (List.mem_of_getElem? (i := 1) rfl)) at_290 rfl ?_
        refine w_lxor X141 at_293 rfl ?_
        refine w_land X141 at_294 rfl ?_
        refine w_lload X141 at_295 rfl rfl ?_
        refine w_lcmp_ne X141 at_297 rfl at_298 (by decide) (pcT := 322) (pcF := 301) (by decide) rfl (fun c147 => ?_) (fun c147 => ?_)
        · refine w_iconst X141 at_322 (v := (0 : Int32)) rfl rfl ?_
          exact False.elim (c147 (fin2 hz1 hz2 hz80 hz3 hz8 hz81 hz118 hz136))
        · refine w_aload X141 at_301 rfl rfl rfl ?_
          refine w_iconst X141 at_303 (v := (2 : Int32)) rfl rfl ?_
          refine w_laload X141 f138 (by decide) (i := 2) (by decide) rfl at_304 rfl ?_
          refine w_lload X141 at_305 rfl rfl ?_
          refine w_ldc2Long X141 (hw _ (List.mem_of_getElem? (i := 1) rfl)) at_307 rfl ?_
          refine w_lxor X141 at_310 rfl ?_
          refine w_land X141 at_311 rfl ?_
          refine w_lload X141 at_312 rfl rfl ?_
          refine w_lcmp_ne X141 at_314 rfl at_315 (by decide) (pcT := 322) (pcF := 318) (by decide) rfl (fun c148 => ?_) (fun c148 => ?_)
          · refine w_iconst X141 at_322 (v := (0 : Int32)) rfl rfl ?_
            exact False.elim (c148 (fin3 hz1 hz2 hz80 hz3 hz8 hz86 hz126 hz137))
          · refine w_iconst X141 at_318 (v := (1 : Int32)) rfl rfl ?_
            refine w_goto X141 at_319 (by decide) (pc' := 323) (by decide) ?_
            exact w_nreturn X141 (t := .boolean) (by simp) at_323 rfl trivial (by decide) (by decide)
set_option maxRecDepth 65536 in
set_option maxHeartbeats 4000000 in
theorem comes_1 {Post : Tables → Env → Array Value → State → Outcome → State → Prop} (hpost : ∀ tb e args s v u, (limb_1_1.after args s (.returned v) u = true ∧ limb_1_2.after args s (.returned v) u = true ∧ True) → FrameEnd s (.returned v) u (Jvm.fieldLocs frame_1_writes args s ++ Jvm.arrayLocs frame_1_arrays args s ++ Jvm.staticLocs frame_1_statics s) 16 128 → Post tb e args s (.returned v) u) :
    ArmFor flags0 classFile x code maxLocals ret World_1 tables_1 room_1 Calls_1 rest_1 Pre_1 Post := by
  intro l hfl _ _ p e ha hc hk s m args below hf hA hF happ hP
  obtain ⟨hcalls, hrest, hpre⟩ := hP
  obtain ⟨-, -, -, hnamed, -, -, -, hat⟩ := (Spec.applies_iff hf).mp happ
  obtain ⟨hg, hn⟩ := and_e (Cond.before_iff.mp (show (Jvm.Cond.and given_1 narrow_1).before args s = true from hpre))
  obtain ⟨gc, hg⟩ := and_e hg
  obtain ⟨g0, hg⟩ := and_e hg
  obtain ⟨g1, hg⟩ := and_e hg
  obtain ⟨g2, hg⟩ := and_e hg
  obtain ⟨g3, hg⟩ := and_e hg
  obtain ⟨g4, hg⟩ := and_e hg
  have g5 := hg
  obtain ⟨w0, w1, w2, w3, w4, w5, rfl⟩ : ∃ w0 w1 w2 w3 w4 w5 : Value, args = #[w0, w1, w2, w3, w4, w5] := by
    have hs : args.size = 6 := by simpa [Cond.value, given_1] using gc
    obtain ⟨L⟩ := args
    match L, hs with
    | [w0, w1, w2, w3, w4, w5], _ => exact ⟨w0, w1, w2, w3, w4, w5, rfl⟩
  have hw := fun d (hd : d ∈ tables_1) => atoms_spec (ws := Jvm.Cond.code x code maxLocals ret :: tables_1) hat d (List.mem_cons_of_mem _ hd)
  obtain ⟨i0, ei0⟩ := is_v g0
  obtain rfl : w0 = (.int i0) := Option.some.inj ei0
  obtain ⟨i1, ei1⟩ := is_v g1
  obtain rfl : w1 = (.int i1) := Option.some.inj ei1
  obtain ⟨i2, ei2⟩ := isL_v g2
  obtain rfl : w2 = (.long i2) := Option.some.inj ei2
  obtain ⟨i3, ei3⟩ := isL_v g3
  obtain rfl : w3 = (.long i3) := Option.some.inj ei3
  obtain ⟨i4, ei4⟩ := isL_v g4
  obtain rfl : w4 = (.long i4) := Option.some.inj ei4
  obtain ⟨i5, ei5⟩ := isL_v g5
  obtain rfl : w5 = (.long i5) := Option.some.inj ei5
  obtain ⟨n, o, h1, h2, h3, _, L, rfl, ⟨rfl, -, N, -⟩, hq⟩ := rm0 l s _ hw i0 i1 i2 i3 i4 i5 s.heap s.heap.size (Nat.le_refl _) tables_1 p e ha hc hk s m _ below hf ((Spec.applies_iff_loose hf).mp happ).1 ⟨rfl, State.Warmed39.refl s, rfl⟩ trivial
  refine ⟨n, _, h1, h2, h3, hpost _ _ _ _ _ _ ⟨Cond.after_iff.mpr rfl, Cond.after_iff.mpr (eq_i res_at (Term.int_eval (1)) rfl), trivial⟩ ⟨hq.1, hq.2.1, (hq.2.2.sift fun y hy => Or.inr (N y hy)).mono (by decide) (by decide)⟩⟩
theorem main_1_1 : Claimed_1_1 := comes_1 fun _ _ _ _ _ _ h hF => ⟨h.1, hF⟩
theorem main_1_2 : Claimed_1_2 := comes_1 fun _ _ _ _ _ _ h hF => ⟨h.2.1, hF⟩
end Jvm.Pilot.@@N@@
namespace Jvm.Pilot.@@N@@
open Jvm Jvm.ClassFile Sem Op Lib Jvm.Free Jvm.Stand Jvm.Pilot.@@N@@.Jvm.D
/-! MADE BY PROGRAM (witnessworld.py) out of the Statement's table words and the real class files: 11 classes; the members and pool entries that the words name. The judged class is class 1, her method 1. -/
namespace start1
open Jvm.ClassFile
def u (s : String) : CpInfo := .utf8 (stringToUtf16 s)
/-- a pool by its gaps: so many unusable entries, then the entry; so many at the end -/
def gap : Nat → List CpInfo → List CpInfo
  | 0, r => r
  | n + 1, r => .unusable :: gap n r
def poolList (es : List (Nat × CpInfo)) (last : Nat) : List CpInfo := es.foldr (fun e r => gap e.1 (e.2 :: r)) (gap last [])
def pool (es : List (Nat × CpInfo)) (last : Nat) : Array CpInfo := ⟨poolList es last⟩
def fileOf (pool : Array CpInfo) (this : Nat) (attrs : Array Attribute := #[]) (ms : Array MethodInfo := #[]) (fl : Nat := 33) (sup : Nat := 0) (ifs : Array Nat := #[]) (fds : Array FieldInfo := #[]) : ClassFile where
  minorVersion := 0
  majorVersion := 65
  constantPool := pool
  accessFlags := fl
  thisClass := this
  superClass := sup
  interfaces := ifs
  fields := fds
  methods := ms
  attributes := attrs
def plain (name : String) (sup : Option ClassId) : Class where
  name := name
  kind := .ordinary
  loader := none
  accessFlags := 33
  super := sup
  interfaces := #[]
  cf := none
  fields := #[]
  methods := #[]
  instanceTypes := #[]
  staticTypes := #[]
  resolved := #[]
  callSites := []
  init := .initialized
  statics := none
  mirror := none

def pool0 : Array CpInfo := pool [(5, u "<init>"), (0, u "()V"), (1, .class_ 10), (1, u "java/lang/Object")] 113

def k0m0 : Method := { name := "<init>", desc := "()V", sig := { parameters := [], returnType := none }, accessFlags := 1, code := none }
/-- java/lang/Object -/
def k0 : Class := { plain "java/lang/Object" none with
  accessFlags := 33
  interfaces := #[]
  cf := some (fileOf pool0 8 #[] #[{ accessFlags := 1, nameIndex := 5, descriptorIndex := 6, attributes := #[] }] 33 0 #[] #[])
  fields := #[]
  methods := #[k0m0]
  instanceTypes := #[]
  staticTypes := #[]
  resolved := Array.replicate 124 none
  statics := none }

def pool1 : Array CpInfo := pool [(2, .class_ 4), (1, u "java/lang/Object"), (0, u "<init>"), (0, u "()V"), (0, .long 18446744073709551615), (1, .methodref 10 11), (0, .class_ 12), (0, .nameAndType 13 14), (0, u "com/example/driftwalk/driftwalk/graph/Bits"), (0, u "put"), (0, u "([JJJI)V"), (0, .class_ 16), (0, u "com/example/driftwalk/driftwalk/graph/BitsPutPinLaw"), (2, u "law"), (0, u "(IIJJJJ)Z")] 5

def k1m0 : Method := { name := "<init>", desc := "()V", sig := { parameters := [], returnType := none }, accessFlags := 2, code := none }
def k1c1 : Code := { maxStack := 8, maxLocals := 37, code := code, exceptionTable := #[], attributes := #[] }
def k1m1 : Method := { name := "law", desc := "(IIJJJJ)Z", sig := { parameters := [.int, .int, .long, .long, .long, .long], returnType := some .boolean }, accessFlags := 9, code := some k1c1 }
/-- com/example/driftwalk/driftwalk/graph/BitsPutPinLaw -/
def k1 : Class := { plain "com/example/driftwalk/driftwalk/graph/BitsPutPinLaw" (some 0) with
  accessFlags := 49
  interfaces := #[]
  cf := some (fileOf pool1 15 #[] #[{ accessFlags := 2, nameIndex := 5, descriptorIndex := 6, attributes := #[] }, { accessFlags := 9, nameIndex := 19, descriptorIndex := 20, attributes := #[] }] 49 2 #[] #[])
  fields := #[]
  methods := #[k1m0, k1m1]
  instanceTypes := #[]
  staticTypes := #[]
  resolved := Array.replicate 26 none
  statics := none }

def pool2 : Array CpInfo := pool [(4, .class_ 6), (1, u "java/lang/Object"), (0, u "<init>"), (0, u "()V"), (0, .class_ 10), (0, u "com/example/driftwalk/driftwalk/graph/Bits"), (43, u "put"), (0, u "([JJJI)V"), (20, u "ONE_IN_BYTE"), (0, u "[B"), (0, u "MAX_BITS"), (0, u "J"), (1, u "EACH_BYTE"), (0, u "HIGH_BITS")] 15

def k2m0 : Method := { name := "<init>", desc := "()V", sig := { parameters := [], returnType := none }, accessFlags := 2, code := none }
def k2c1 : Code := { maxStack := 8, maxLocals := 8, code := prog_45_method_8_code, exceptionTable := #[], attributes := #[] }
def k2m1 : Method := { name := "put", desc := "([JJJI)V", sig := { parameters := [(.array .long), .long, .long, .int], returnType := none }, accessFlags := 8, code := some k2c1 }
/-- com/example/driftwalk/driftwalk/graph/Bits -/
def k2 : Class := { plain "com/example/driftwalk/driftwalk/graph/Bits" (some 0) with
  accessFlags := 48
  interfaces := #[]
  cf := some (fileOf pool2 9 #[] #[{ accessFlags := 2, nameIndex := 7, descriptorIndex := 8, attributes := #[] }, { accessFlags := 8, nameIndex := 54, descriptorIndex := 55, attributes := #[] }] 48 4 #[] #[{ accessFlags := 24, nameIndex := 78, descriptorIndex := 79, attributes := #[] }, { accessFlags := 26, nameIndex := 81, descriptorIndex := 79, attributes := #[] }, { accessFlags := 26, nameIndex := 82, descriptorIndex := 79, attributes := #[] }, { accessFlags := 26, nameIndex := 76, descriptorIndex := 77, attributes := #[] }])
  fields := #[{ name := "MAX_BITS", type := .long, accessFlags := 24, slot := 0, constantValue := 0 }, { name := "EACH_BYTE", type := .long, accessFlags := 26, slot := 1, constantValue := 0 }, { name := "HIGH_BITS", type := .long, accessFlags := 26, slot := 2, constantValue := 0 }, { name := "ONE_IN_BYTE", type := (.array .byte), accessFlags := 26, slot := 3, constantValue := 0 }]
  methods := #[k2m0, k2m1]
  instanceTypes := #[]
  staticTypes := #[.long, .long, .long, (.array .byte)]
  resolved := Array.replicate 98 none
  statics := none }

def pool3 : Array CpInfo := pool [(1, u "java/lang/Cloneable"), (0, .class_ 1), (0, u "java/lang/Object"), (0, .class_ 3)] 3

/-- java/lang/Cloneable -/
def k3 : Class := { plain "java/lang/Cloneable" (some 0) with
  accessFlags := 1537
  interfaces := #[]
  cf := some (fileOf pool3 2 #[] #[] 1537 4 #[] #[])
  fields := #[]
  methods := #[]
  instanceTypes := #[]
  staticTypes := #[]
  resolved := Array.replicate 8 none
  statics := none }

def pool4 : Array CpInfo := pool [(1, u "java/io/Serializable"), (0, .class_ 1), (0, u "java/lang/Object"), (0, .class_ 3)] 3

/-- java/io/Serializable -/
def k4 : Class := { plain "java/io/Serializable" (some 0) with
  accessFlags := 1537
  interfaces := #[]
  cf := some (fileOf pool4 2 #[] #[] 1537 4 #[] #[])
  fields := #[]
  methods := #[]
  instanceTypes := #[]
  staticTypes := #[]
  resolved := Array.replicate 8 none
  statics := none }

/-- the primitive byte -/
def k5 : Class := { plain "byte" none with kind := .primitive 'B', accessFlags := 0x411 }
/-- [B -/
def k6 : Class := { plain "[B" (some 0) with kind := .array 5 .byte, interfaces := #[3, 4], accessFlags := 1041 }

/-- the primitive int -/
def k7 : Class := { plain "int" none with kind := .primitive 'I', accessFlags := 0x411 }
/-- [I -/
def k8 : Class := { plain "[I" (some 0) with kind := .array 7 .int, interfaces := #[3, 4], accessFlags := 1041 }

/-- the primitive long -/
def k9 : Class := { plain "long" none with kind := .primitive 'J', accessFlags := 0x411 }
/-- [J -/
def k10 : Class := { plain "[J" (some 0) with kind := .array 9 .long, interfaces := #[3, 4], accessFlags := 1041 }

def heap : Heap := #[]
def classes : Array Class := #[k0, k1, k2, k3, k4, k5, k6, k7, k8, k9, k10]
def interned : List (Array UInt16 × Addr) := []
def slotsUsed : Nat := 0
def theMethod : MethodId := ⟨1, 1⟩
def args0 : Array Value := #[.int 70, .int 20, .long 123456, .long 5, .long 6, .long 7]
def aboutOver (below : List Frame) : State where
  vm := { classes := classes, interned := interned.toArray }
  heap := heap
  slotsUsed := slotsUsed
  threads := #[{ frames := .invoking theMethod args0 :: below }]
def below0 : List Frame := [.native { method := ⟨0, 0⟩, args := #[] }]
def about1 : State := aboutOver below0
def p0 : Program := .bare "" "" ""
def e0 : Env := launch0.env 0 0 0
theorem w_frames : about1.frames = Frame.invoking theMethod args0 :: below0 := rfl
set_option maxRecDepth 65536 in
theorem w_args : argsFit about1.vm theMethod args0 = true := by decide +kernel
set_option maxRecDepth 65536 in
theorem w_heap : heapFits about1 = true := by decide +kernel
set_option maxRecDepth 65536 in
theorem w_runnable : about1.curStatus? = some .runnable := by decide +kernel
set_option maxRecDepth 65536 in
theorem w_alone : about1.alone = true := by decide +kernel
set_option maxRecDepth 65536 in
theorem w_named : about1.methodNamed? x = some theMethod := by decide +kernel
set_option maxRecDepth 65536 in
theorem w_hears : about1.hears theMethod below0 = true := by decide +kernel
set_option maxRecDepth 65536 in
theorem w_ripe : about1.ripe theMethod args0 below0 = true := by decide +kernel
theorem w_running : about1.status = .running := rfl
set_option maxRecDepth 65536 in
theorem w_room : about1.hasRoom e0.platform room_1 = true :=
  launch0.hasRoom_least _ room_1 (by decide +kernel) (by decide +kernel) (by decide +kernel) (by decide +kernel) (by decide +kernel) (by decide +kernel)
theorem allAtoms_all (ts : List Jvm.Cond) (a : Array Jvm.Value) (st : Jvm.State) : (allAtoms ts).before a st = ts.all (fun c => c.before a st) := by
  induction ts with
  | nil => rfl
  | cons c t ih =>
    show (Jvm.Cond.and c (allAtoms t)).before a st = _
    rw [Jvm.Cond.before_and, ih, List.all_cons]
def words1 : List Jvm.Cond := Jvm.Cond.code x code maxLocals ret :: tables_1
/-- a 'code' word, met by the world's own term for the bytes: nothing is compared byte by byte -/
theorem code_word {y : MethodName} {bytes : ByteArray} {mx : Nat} {rt : Option FieldType} {a : Array Value} {s : State} {m : MethodId} {meth : Method} {c : Code} (h1 : s.methodNamed? y = some m) (h2 : s.vm.method? m = some meth) (h3 : meth.code = some c) (h4 : c.code = bytes)
    (h5 : (c.maxLocals == mx && c.exceptionTable.isEmpty && decide (c.maxStack ≤ mostOperands) && decide (meth.sig.returnType = rt) && !meth.locks && decide (parseMethodDescriptor y.desc = some meth.sig)) = true) : (Jvm.Cond.code y bytes mx rt).before a s = true := by
  simp only [Bool.and_eq_true, beq_iff_eq, Bool.not_eq_true', decide_eq_true_eq] at h5
  obtain ⟨⟨⟨⟨⟨g1, g2⟩, g3⟩, g4⟩, g5⟩, g6⟩ := h5
  simp [Cond.before, Cond.holds, Cond.value, h1, h2, h3, h4, g1, g2, g3, g4, g5, g6]
def isCode : Jvm.Cond → Bool
  | .code _ _ _ _ => true
  | _ => false
theorem all_split {L : List Jvm.Cond} {P : Jvm.Cond → Bool} (h1 : L.all (fun c => isCode c || P c) = true) (h2 : ∀ c ∈ L.filter isCode, P c = true) : L.all P = true := by
  refine List.all_eq_true.mpr fun c hc => ?_
  have h := List.all_eq_true.mp h1 c hc
  rcases Bool.eq_false_or_eq_true (isCode c) with hi | hi
  · exact h2 c (List.mem_filter.mpr ⟨hc, hi⟩)
  · simpa [hi] using h
set_option maxRecDepth 65536 in
theorem w_c0 : (Jvm.Cond.code x code maxLocals ret).before args0 about1 = true := code_word (m := ⟨1, 1⟩) (meth := k1m1) (c := k1c1) (by decide +kernel) rfl rfl rfl (by decide +kernel)
set_option maxRecDepth 65536 in
theorem w_c1 : (Jvm.Cond.code ({ cls := "com/example/driftwalk/driftwalk/graph/Bits", name := "put", desc := "([JJJI)V" } : Jvm.MethodName) prog_45_method_8_code (8 : Nat) (Option.none : Option Jvm.ClassFile.FieldType)).before args0 about1 = true := code_word (m := ⟨2, 1⟩) (meth := k2m1) (c := k2c1) (by decide +kernel) rfl rfl rfl (by decide +kernel)
def codes1 : List Jvm.Cond := [Jvm.Cond.code x code maxLocals ret, Jvm.Cond.code ({ cls := "com/example/driftwalk/driftwalk/graph/Bits", name := "put", desc := "([JJJI)V" } : Jvm.MethodName) prog_45_method_8_code (8 : Nat) (Option.none : Option Jvm.ClassFile.FieldType)]
set_option maxRecDepth 65536 in
theorem codes_eq : words1.filter isCode = codes1 := rfl
theorem w_codes : ∀ c ∈ words1.filter isCode, c.before args0 about1 = true := by
  rw [codes_eq]
  intro c hc
  simp only [codes1, List.mem_cons, List.not_mem_nil, or_false] at hc
  rcases hc with rfl | rfl
  · exact w_c0
  · exact w_c1
set_option maxRecDepth 65536 in
theorem w_t1 : words1.all (fun c => isCode c || c.before args0 about1) = true := by decide +kernel
theorem w_tables : (allAtoms (Jvm.Cond.code x code maxLocals ret :: tables_1)).before args0 about1 = true := by
  rw [allAtoms_all]
  show words1.all (fun c => c.before args0 about1) = true
  refine all_split ?_ w_codes
  rw [w_t1]
set_option maxRecDepth 65536 in
theorem w_case : (Jvm.Cond.and given_1 narrow_1).before args0 about1 = true := by decide +kernel
theorem w_applies : (headSpec (Jvm.Cond.code x code maxLocals ret :: tables_1) room_1).applies x e0.platform about1 = true :=
  (Spec.applies_iff w_frames).mpr ⟨w_running, w_runnable, w_alone, w_named, w_hears, w_ripe, w_room, w_tables⟩
theorem atStart : AtStart classFile x code maxLocals ret World_1 tables_1 room_1 Calls_1 rest_1 Pre_1 launch0 p0 e0 about1 theMethod args0 below0 :=
  ⟨lists_1, trivial, launch0.admits_env _ _ _, launch0.least_env, fairChoices_fair.cas, fairChoices_fair.clock, w_frames, w_args, w_heap, w_applies, trivial, trivial, w_case⟩
end start1
theorem witness_1 : WitnessClaimed_1 := ⟨start1.p0, start1.e0, start1.about1, start1.theMethod, start1.args0, start1.below0, start1.atStart⟩
end Jvm.Pilot.@@N@@
