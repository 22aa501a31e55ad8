import JvmDerived
import JvmDerived.Pilot.@@N@@Statement
import JvmDerived.Pilot.@@N@@Code
set_option linter.unusedVariables false
set_option linter.unusedSimpArgs false
namespace Jvm.RoadKit
open Sem ClassFile Op Lib Jvm.Stand Jvm.Free Jvm.LawKit
section New
variable {p : Program} {l : Launch} {e : Env} {R : Room} {s : State} {m : MethodId} {args : Array Value} {below : List Frame} {meth : Method} {c : Code} {T : State} {locs : List Loc} {cells slots : Nat}
theorem retI (X : Stand p l e R s m args below meth c T locs cells slots) (hx : p.tables.exec = Jvm.exec) {pc : Nat} {Ls : Array Slot} {z : Int32} {rest : List Value} (hret : meth.sig.returnType = some .int) (hd : decode c.code pc = .ok (.ireturn, 1)) {fs : List Frame}
    (hl : ∀ (f : JFrame) (acts : List Action), f.method = m → f.locked = none → f.entered = [] → (doReturn e (T.setTop f) acts (some (.int z))).1 = T.setFrames fs) : Steps p.tables e below (T.setTop (mkF m pc Ls (.int z :: rest))) (T.setFrames fs) := by
  have hm' : T.vm.method? m = some meth := X.method'
  have hn : narrow .int (.int z) = .int z := rfl
  show Steps p.tables e below (T.setTop { method := m, pc := pc, locals := Ls, stack := _ :: rest, locked := none }) _
  jvm_step X.here [X.here.top, hx, hd, hm', hret, hn]
  first | (intro acts; rw [hl _ acts rfl rfl rfl]) | rw [hl _ _ rfl rfl rfl]
  exact Steps.refl _
end New
end Jvm.RoadKit
namespace Jvm.Own
open Jvm Jvm.ClassFile Sem Op Lib Jvm.Free Jvm.Stand Jvm.LawKit Jvm.RoadKit Bundle
/-! ## A walk by continuations: `Goes` says that the run from here comes to a state with K; each rule takes one instruction off. -/
def Goes (p : Program) (e : Env) (below : List Frame) (K : State → Prop) (T : State) (m : MethodId) (pc : Nat) (L : Array Slot) (S : List Value) : Prop :=
  ∃ u, Steps p.tables e below (T.setTop (mkF m pc L S)) u ∧ K u
/-- where one body's walk stands: the standing facts, the state T with the heap h, what was written lies in new cells -/
def Wk (p : Program) (l : Launch) (e : Env) (R : Room) (s : State) (m : MethodId) (args : Array Value) (below : List Frame) (meth : Method) (c : Code) (Z : State) (n0 : Nat) (y : MethodName) (code : ByteArray) (ml : Nat) (ret : Option FieldType)
    (T : State) (cells slots : Nat) (h : Heap) : Prop :=
  p.tables.exec = Jvm.exec ∧ Z.Warmed39 s.vm ∧ c.code = code ∧ c.maxLocals = ml ∧ s.vm.findClass y.cls = some m.cls ∧ meth.name = y.name ∧ meth.sig.returnType = ret ∧ meth.locks = false ∧ n0 ≤ h.size ∧
  ∃ locs, Stand p l e R s m args below meth c T locs cells slots ∧ T.heap = h ∧ Fr n0 locs
def Qc (n0 : Nat) (w : Option Value) (Q : Heap → Prop) (v : Option Value) (h : Heap) (L : List Loc) : Prop := v = w ∧ Q h ∧ Fr n0 L ∧ n0 ≤ h.size
/-- what a body's end says: it returned w, the heap satisfies Q -/
def Done (below : List Frame) (s : State) (n0 : Nat) (R : Room) (w : Option Value) (Q : Heap → Prop) (u : State) : Prop :=
  ∃ o, u.status = .running ∧ Ended u below o ∧ ∃ v L, o = .returned v ∧ Qc n0 w Q v u.heap L ∧ FrameEnd s o u L R.cells R.slots
/-- a body's contract -/
def Con (l : Launch) (Z : State) (y : MethodName) (code : ByteArray) (ml : Nat) (ret : Option FieldType) (R : Room) (as : Array Value) (h0 : Heap) (n0 : Nat) (w : Option Value) (Q : Heap → Prop) : Prop :=
  ∀ ws, MetFree l y (head1 (Jvm.Cond.code y code ml ret :: ws) R) (fun a U => a = as ∧ Z.Warmed39 U.vm ∧ U.heap = h0) (fun _ _ _ _ _ => True)
    (fun _ U o U' => ∃ v L, o = .returned v ∧ Qc n0 w Q v U'.heap L ∧ FrameEnd U o U' L R.cells R.slots)
theorem con_of {l : Launch} {Z : State} {y : MethodName} {code : ByteArray} {ml : Nat} {ret : Option FieldType} {R : Room} {as : Array Value} {h0 : Heap} {n0 : Nat} {w : Option Value} {Q : Heap → Prop}
    (hpl : plainFor y = true) (hn0 : n0 ≤ h0.size) {L0 : Array Slot} (hL : ∀ m, entryFrame m as ml = mkF m 0 L0 [])
    (body : ∀ (p : Program) (e : Env) (s : State) (m : MethodId) (below : List Frame) (meth : Method) (c : Code) (T : State), Wk p l e R s m as below meth c Z n0 y code ml ret T 0 0 h0 → Goes p e below (Done below s n0 R w Q) T m 0 L0 []) :
    Con l Z y code ml ret R as h0 n0 w Q := by
  intro ws
  refine MetFree.of_bodySF hpl hisR ?_
  intro p e s m args below meth c s₁ Bd hml0 hP hK
  obtain ⟨rfl, hZ, hh⟩ := hP
  have X0 : Stand p l e R s m args below meth c s₁ [] 0 0 := Stand.of_body Bd
  have e0 : s₁.heap = h0 := by rw [← hh, Bd.state]; rfl
  obtain ⟨u, st, o, h1, h2, h3⟩ := body p e s m below meth c s₁ ⟨Bd.exec, hZ, Bd.bytes, hml0, findClass_of_methodNamed Bd.named, (name_of_methodNamed Bd.named Bd.method).1, Bd.returns, Bd.notSynchronized, hn0, [], X0, e0, Fr.nil n0⟩
  exact ⟨u, o, castTop (hL m) st, h1, h2, h3⟩
/-- Java's >>> -/
def ush (a b : Int32) : Int32 := (a.toUInt32 >>> (b &&& 31).toUInt32).toInt32
def ushL (a : Int64) (b : Int32) : Int64 := (a.toUInt64 >>> (b &&& 0x3f).toInt64.toUInt64).toInt64
/-- a local that holds nothing, or one word -/
def OneS (s : Slot) : Prop := s = .unset ∨ ∃ w : Value, s = .val w ∧ w.category = 1
theorem OneS.u : OneS .unset := Or.inl rfl
theorem OneS.i (z : Int32) : OneS (.val (.int z)) := Or.inr ⟨_, rfl, rfl⟩
theorem OneS.r (z : Addr) : OneS (.val (.ref z)) := Or.inr ⟨_, rfl, rfl⟩
section Rules
variable {p : Program} {l : Launch} {e : Env} {R : Room} {s : State} {m : MethodId} {args : Array Value} {below : List Frame} {meth : Method} {c : Code} {Z : State} {n0 : Nat} {y : MethodName} {code : ByteArray} {ml : Nat} {ret : Option FieldType}
  {T : State} {cells slots : Nat} {h : Heap} {K : State → Prop} {L : Array Slot} {S : List Value} {pc pc' : Nat} {a0 : Array Value}
theorem Goes.via {T' : State} {L' : Array Slot} {S' : List Value} (st : ∀ target, Steps p.tables e below (T'.setTop (mkF m pc' L' S')) target → Steps p.tables e below (T.setTop (mkF m pc L S)) target) (g : Goes p e below K T' m pc' L' S') : Goes p e below K T m pc L S := by
  obtain ⟨u, a, b⟩ := g
  exact ⟨u, st _ a, b⟩
theorem Wk.size (X : Wk p l e R s m args below meth c Z n0 y code ml ret T cells slots h) : n0 ≤ h.size := X.2.2.2.2.2.2.2.2.1
-- plain steps
theorem w_iloadN (X : Wk p l e R s m args below meth c Z n0 y code ml ret T cells slots h) {k : Fin 4} {v : Int32} (hd : decode code pc = .ok (.iload_n k, 1)) (hp : pc + 1 = pc') (hl : L[k.val]? = some (.val (.int v))) (g : Goes p e below K T m pc' L (.int v :: S)) : Goes p e below K T m pc L S := by
  obtain ⟨hx, -, hby, -, -, -, -, -, -, locs, X, -, -⟩ := X
  subst hp
  obtain ⟨u1, a1, b1⟩ := g
  exact ⟨u1, XS.iloadN (g := mkF m pc L S) X.here hx rfl (hb hby hd) hl a1, b1⟩
theorem w_iload (X : Wk p l e R s m args below meth c Z n0 y code ml ret T cells slots h) {k : Nat} {v : Int32} (hd : decode code pc = .ok (.iload k, 2)) (hp : pc + 2 = pc') (hl : L[k]? = some (.val (.int v))) (g : Goes p e below K T m pc' L (.int v :: S)) : Goes p e below K T m pc L S := by
  obtain ⟨hx, -, hby, -, -, -, -, -, -, locs, X, -, -⟩ := X
  subst hp
  obtain ⟨u1, a1, b1⟩ := g
  exact ⟨u1, XS.iload (g := mkF m pc L S) X.here hx rfl (hb hby hd) hl a1, b1⟩
theorem w_lloadN (X : Wk p l e R s m args below meth c Z n0 y code ml ret T cells slots h) {k : Fin 4} {v : Int64} (hd : decode code pc = .ok (.lload_n k, 1)) (hp : pc + 1 = pc') (hl : L[k.val]? = some (.val (.long v))) (g : Goes p e below K T m pc' L (.long v :: S)) : Goes p e below K T m pc L S := by
  obtain ⟨hx, -, hby, -, -, -, -, -, -, locs, X, -, -⟩ := X
  subst hp
  obtain ⟨u1, a1, b1⟩ := g
  exact ⟨u1, XS.lloadN (g := mkF m pc L S) X.here hx rfl (hb hby hd) hl a1, b1⟩
theorem w_lload (X : Wk p l e R s m args below meth c Z n0 y code ml ret T cells slots h) {k : Nat} {v : Int64} (hd : decode code pc = .ok (.lload k, 2)) (hp : pc + 2 = pc') (hl : L[k]? = some (.val (.long v))) (g : Goes p e below K T m pc' L (.long v :: S)) : Goes p e below K T m pc L S := by
  obtain ⟨hx, -, hby, -, -, -, -, -, -, locs, X, -, -⟩ := X
  subst hp
  obtain ⟨u1, a1, b1⟩ := g
  exact ⟨u1, XS.lload (g := mkF m pc L S) X.here hx rfl (hb hby hd) hl a1, b1⟩
theorem w_aloadN (X : Wk p l e R s m args below meth c Z n0 y code ml ret T cells slots h) {k : Fin 4} {v : Value} (hd : decode code pc = .ok (.aload_n k, 1)) (hp : pc + 1 = pc') (hl : L[k.val]? = some (.val v)) (hv : v.isRef = true) (g : Goes p e below K T m pc' L (v :: S)) : Goes p e below K T m pc L S := by
  obtain ⟨hx, -, hby, -, -, -, -, -, -, locs, X, -, -⟩ := X
  subst hp
  obtain ⟨u1, a1, b1⟩ := g
  exact ⟨u1, XS.aloadN (g := mkF m pc L S) X.here hx rfl (hb hby hd) hl hv a1, b1⟩
theorem w_aload (X : Wk p l e R s m args below meth c Z n0 y code ml ret T cells slots h) {k : Nat} {v : Value} (hd : decode code pc = .ok (.aload k, 2)) (hp : pc + 2 = pc') (hl : L[k]? = some (.val v)) (hv : v.isRef = true) (g : Goes p e below K T m pc' L (v :: S)) : Goes p e below K T m pc L S := by
  obtain ⟨hx, -, hby, -, -, -, -, -, -, locs, X, -, -⟩ := X
  subst hp
  obtain ⟨u1, a1, b1⟩ := g
  exact ⟨u1, XS.aload (g := mkF m pc L S) X.here hx rfl (hb hby hd) hl hv a1, b1⟩
theorem w_istoreN (X : Wk p l e R s m args below meth c Z n0 y code ml ret T cells slots h) {k : Fin 4} {v : Int32} {L' : Array Slot} (hd : decode code pc = .ok (.istore_n k, 1)) (hp : pc + 1 = pc') (hl : storeLocals L k.val (.int v) = some L') (g : Goes p e below K T m pc' L' S) : Goes p e below K T m pc L (.int v :: S) := by
  obtain ⟨hx, -, hby, -, -, -, -, -, -, locs, X, -, -⟩ := X
  subst hp
  obtain ⟨u1, a1, b1⟩ := g
  exact ⟨u1, XS.istoreN (g := mkF m pc L (.int v :: S)) X.here hx rfl (hb hby hd) rfl hl a1, b1⟩
theorem w_istore (X : Wk p l e R s m args below meth c Z n0 y code ml ret T cells slots h) {k : Nat} {v : Int32} {L' : Array Slot} (hd : decode code pc = .ok (.istore k, 2)) (hp : pc + 2 = pc') (hl : storeLocals L k (.int v) = some L') (g : Goes p e below K T m pc' L' S) : Goes p e below K T m pc L (.int v :: S) := by
  obtain ⟨hx, -, hby, -, -, -, -, -, -, locs, X, -, -⟩ := X
  subst hp
  obtain ⟨u1, a1, b1⟩ := g
  exact ⟨u1, XS.istore (g := mkF m pc L (.int v :: S)) X.here hx rfl (hb hby hd) rfl hl a1, b1⟩
theorem w_lstoreN (X : Wk p l e R s m args below meth c Z n0 y code ml ret T cells slots h) {k : Fin 4} {v : Int64} {L' : Array Slot} (hd : decode code pc = .ok (.lstore_n k, 1)) (hp : pc + 1 = pc') (hl : storeLocals L k.val (.long v) = some L') (g : Goes p e below K T m pc' L' S) : Goes p e below K T m pc L (.long v :: S) := by
  obtain ⟨hx, -, hby, -, -, -, -, -, -, locs, X, -, -⟩ := X
  subst hp
  obtain ⟨u1, a1, b1⟩ := g
  exact ⟨u1, XS.lstoreN (g := mkF m pc L (.long v :: S)) X.here hx rfl (hb hby hd) rfl hl a1, b1⟩
theorem w_lstore (X : Wk p l e R s m args below meth c Z n0 y code ml ret T cells slots h) {k : Nat} {v : Int64} {L' : Array Slot} (hd : decode code pc = .ok (.lstore k, 2)) (hp : pc + 2 = pc') (hl : storeLocals L k (.long v) = some L') (g : Goes p e below K T m pc' L' S) : Goes p e below K T m pc L (.long v :: S) := by
  obtain ⟨hx, -, hby, -, -, -, -, -, -, locs, X, -, -⟩ := X
  subst hp
  obtain ⟨u1, a1, b1⟩ := g
  exact ⟨u1, XS.lstore (g := mkF m pc L (.long v :: S)) X.here hx rfl (hb hby hd) rfl hl a1, b1⟩
theorem w_astoreN (X : Wk p l e R s m args below meth c Z n0 y code ml ret T cells slots h) {k : Fin 4} {v : Value} {L' : Array Slot} (hd : decode code pc = .ok (.astore_n k, 1)) (hp : pc + 1 = pc') (hv : v.isRef = true) (hl : storeLocals L k.val v = some L') (g : Goes p e below K T m pc' L' S) : Goes p e below K T m pc L (v :: S) := by
  obtain ⟨hx, -, hby, -, -, -, -, -, -, locs, X, -, -⟩ := X
  subst hp
  obtain ⟨u1, a1, b1⟩ := g
  exact ⟨u1, XS.astoreN (g := mkF m pc L (v :: S)) X.here hx rfl (hb hby hd) rfl hv hl a1, b1⟩
theorem w_astore (X : Wk p l e R s m args below meth c Z n0 y code ml ret T cells slots h) {k : Nat} {v : Value} {L' : Array Slot} (hd : decode code pc = .ok (.astore k, 2)) (hp : pc + 2 = pc') (hv : v.isRef = true) (hl : storeLocals L k v = some L') (g : Goes p e below K T m pc' L' S) : Goes p e below K T m pc L (v :: S) := by
  obtain ⟨hx, -, hby, -, -, -, -, -, -, locs, X, -, -⟩ := X
  subst hp
  obtain ⟨u1, a1, b1⟩ := g
  exact ⟨u1, XS.astore (g := mkF m pc L (v :: S)) X.here hx rfl (hb hby hd) rfl hv hl a1, b1⟩
theorem w_iconst (X : Wk p l e R s m args below meth c Z n0 y code ml ret T cells slots h) {i : Int} {v : Int32} (hd : decode code pc = .ok (.iconst i, 1)) (hp : pc + 1 = pc') (hv : Int32.ofInt i = v) (g : Goes p e below K T m pc' L (.int v :: S)) : Goes p e below K T m pc L S := by
  obtain ⟨hx, -, hby, -, -, -, -, -, -, locs, X, -, -⟩ := X
  subst hp hv
  obtain ⟨u1, a1, b1⟩ := g
  exact ⟨u1, XS.iconst (g := mkF m pc L S) X.here hx rfl (hb hby hd) a1, b1⟩
theorem w_bipush (X : Wk p l e R s m args below meth c Z n0 y code ml ret T cells slots h) {i : Int} {v : Int32} (hd : decode code pc = .ok (.bipush i, 2)) (hp : pc + 2 = pc') (hv : (Int8.ofInt i).toInt32 = v) (g : Goes p e below K T m pc' L (.int v :: S)) : Goes p e below K T m pc L S := by
  obtain ⟨hx, -, hby, -, -, -, -, -, -, locs, X, -, -⟩ := X
  subst hp hv
  obtain ⟨u1, a1, b1⟩ := g
  exact ⟨u1, XS.bipush (g := mkF m pc L S) X.here hx rfl (hb hby hd) a1, b1⟩
theorem w_sipush (X : Wk p l e R s m args below meth c Z n0 y code ml ret T cells slots h) {i : Int} {v : Int32} (hd : decode code pc = .ok (.sipush i, 3)) (hp : pc + 3 = pc') (hv : (Int16.ofInt i).toInt32 = v) (g : Goes p e below K T m pc' L (.int v :: S)) : Goes p e below K T m pc L S := by
  obtain ⟨hx, -, hby, -, -, -, -, -, -, locs, X, -, -⟩ := X
  subst hp hv
  obtain ⟨u1, a1, b1⟩ := g
  exact ⟨u1, XS.sipush (g := mkF m pc L S) X.here hx rfl (hb hby hd) a1, b1⟩
theorem w_lconst (X : Wk p l e R s m args below meth c Z n0 y code ml ret T cells slots h) {i : Fin 2} {v : Int64} (hd : decode code pc = .ok (.lconst i, 1)) (hp : pc + 1 = pc') (hv : Int64.ofNat i = v) (g : Goes p e below K T m pc' L (.long v :: S)) : Goes p e below K T m pc L S := by
  obtain ⟨hx, -, hby, -, -, -, -, -, -, locs, X, -, -⟩ := X
  subst hp hv
  obtain ⟨u1, a1, b1⟩ := g
  exact ⟨u1, XS.lconst (g := mkF m pc L S) X.here hx rfl (hb hby hd) a1, b1⟩
theorem w_ldcInt (X : Wk p l e R s m args below meth c Z n0 y code ml ret T cells slots h) {i : Nat} {v : Int32} (hc : (Jvm.Cond.constant y.cls i v).before a0 Z = true) (hd : decode code pc = .ok (.ldc i, 2)) (hp : pc + 2 = pc') (g : Goes p e below K T m pc' L (.int v :: S)) : Goes p e below K T m pc L S := by
  obtain ⟨hx, hZ, hby, -, hown, -, -, -, -, locs, X, -, -⟩ := X
  subst hp
  obtain ⟨u1, a1, b1⟩ := g
  exact ⟨u1, X.ldcInt hx hown (mvT hZ hc) (g := mkF m pc L S) rfl (hb hby hd) _ a1, b1⟩
theorem w_ldc2Long (X : Wk p l e R s m args below meth c Z n0 y code ml ret T cells slots h) {i : Nat} {v : Int64} (hc : (Jvm.Cond.constantLong y.cls i v).before a0 Z = true) (hd : decode code pc = .ok (.ldc2_w i, 3)) (hp : pc + 3 = pc') (g : Goes p e below K T m pc' L (.long v :: S)) : Goes p e below K T m pc L S := by
  obtain ⟨hx, hZ, hby, -, hown, -, -, -, -, locs, X, -, -⟩ := X
  subst hp
  obtain ⟨u1, a1, b1⟩ := g
  exact ⟨u1, X.ldc2Long hx hown (mvT hZ hc) (g := mkF m pc L S) rfl (hb hby hd) _ a1, b1⟩
theorem w_iinc (X : Wk p l e R s m args below meth c Z n0 y code ml ret T cells slots h) {k : Nat} {d : Int} {v v' : Int32} {L' : Array Slot} (hd : decode code pc = .ok (.iinc k d, 3)) (hp : pc + 3 = pc') (hl : L[k]? = some (.val (.int v))) (hv : v + Int32.ofInt d = v') (hl' : storeLocals L k (.int v') = some L') (g : Goes p e below K T m pc' L' S) : Goes p e below K T m pc L S := by
  obtain ⟨hx, -, hby, -, -, -, -, -, -, locs, X, -, -⟩ := X
  subst hp hv
  obtain ⟨u1, a1, b1⟩ := g
  exact ⟨u1, XS.iinc (g := mkF m pc L S) X.here hx rfl (hb hby hd) hl hl' a1, b1⟩
theorem w_goto (X : Wk p l e R s m args below meth c Z n0 y code ml ret T cells slots h) {o : Int} (hd : decode code pc = .ok (.goto o, 3)) (ho : 0 ≤ (pc : Int) + o) (hp : ((pc : Int) + o).toNat = pc') (g : Goes p e below K T m pc' L S) : Goes p e below K T m pc L S := by
  obtain ⟨hx, -, hby, -, -, -, -, -, -, locs, X, -, -⟩ := X
  obtain ⟨u1, a1, b1⟩ := g
  exact ⟨u1, XS.goto (g := mkF m pc L S) X.here hx rfl (pc0 := pc) rfl (hb hby hd) ho hp a1, b1⟩
theorem w_dup (X : Wk p l e R s m args below meth c Z n0 y code ml ret T cells slots h) {v : Value} (hd : decode code pc = .ok (.dup, 1)) (hp : pc + 1 = pc') (hv : v.category = 1) (g : Goes p e below K T m pc' L (v :: v :: S)) : Goes p e below K T m pc L (v :: S) := by
  obtain ⟨hx, -, hby, -, -, -, -, -, -, locs, X, -, -⟩ := X
  subst hp
  obtain ⟨u1, a1, b1⟩ := g
  exact ⟨u1, XS.dup (g := mkF m pc L (v :: S)) X.here hx rfl (hb hby hd) rfl hv a1, b1⟩
theorem w_dup2 (X : Wk p l e R s m args below meth c Z n0 y code ml ret T cells slots h) {v w : Value} (hd : decode code pc = .ok (.dup2, 1)) (hp : pc + 1 = pc') (hv : v.category = 1) (hw : w.category = 1) (g : Goes p e below K T m pc' L (v :: w :: v :: w :: S)) : Goes p e below K T m pc L (v :: w :: S) := by
  obtain ⟨hx, -, hby, -, -, -, -, -, -, locs, X, -, -⟩ := X
  subst hp
  obtain ⟨u1, a1, b1⟩ := g
  exact ⟨u1, Jvm.Free.XT.dup2 (g := mkF m pc L (v :: w :: S)) X.here hx rfl (hb hby hd) rfl hv hw a1, b1⟩
theorem w_pop (X : Wk p l e R s m args below meth c Z n0 y code ml ret T cells slots h) {v : Value} (hd : decode code pc = .ok (.pop, 1)) (hp : pc + 1 = pc') (hv : v.category = 1) (g : Goes p e below K T m pc' L S) : Goes p e below K T m pc L (v :: S) := by
  obtain ⟨hx, -, hby, -, -, -, -, -, -, locs, X, -, -⟩ := X
  subst hp
  obtain ⟨u1, a1, b1⟩ := g
  exact ⟨u1, XS.pop (g := mkF m pc L (v :: S)) X.here hx rfl (hb hby hd) rfl hv a1, b1⟩
theorem w_dupX1 (X : Wk p l e R s m args below meth c Z n0 y code ml ret T cells slots h) {v w : Value} (hd : decode code pc = .ok (.dup_x1, 1)) (hp : pc + 1 = pc') (hv : v.category = 1) (hw : w.category = 1) (g : Goes p e below K T m pc' L (v :: w :: v :: S)) : Goes p e below K T m pc L (v :: w :: S) := by
  obtain ⟨hx, -, hby, -, -, -, -, -, -, locs, X, -, -⟩ := X
  subst hp
  obtain ⟨u1, a1, b1⟩ := g
  exact ⟨u1, XS.dupX1 (g := mkF m pc L (v :: w :: S)) X.here hx rfl (hb hby hd) rfl hv hw a1, b1⟩
theorem w_null (X : Wk p l e R s m args below meth c Z n0 y code ml ret T cells slots h) (hd : decode code pc = .ok (.aconst_null, 1)) (hp : pc + 1 = pc') (g : Goes p e below K T m pc' L (.null :: S)) : Goes p e below K T m pc L S := by
  obtain ⟨hx, -, hby, -, -, -, -, -, -, locs, X, -, -⟩ := X
  subst hp
  obtain ⟨u1, a1, b1⟩ := g
  exact ⟨u1, XS.aconstNull (g := mkF m pc L S) X.here hx rfl (hb hby hd) a1, b1⟩
theorem w_ifnullYes (X : Wk p l e R s m args below meth c Z n0 y code ml ret T cells slots h) {o : Int} (hd : decode code pc = .ok (.ifnull o, 3)) (ho : 0 ≤ (pc : Int) + o) (hp : ((pc : Int) + o).toNat = pc') (g : Goes p e below K T m pc' L S) : Goes p e below K T m pc L (.null :: S) := by
  obtain ⟨hx, -, hby, -, -, -, -, -, -, locs, X, -, -⟩ := X
  obtain ⟨u1, a1, b1⟩ := g
  exact ⟨u1, XS.ifnullYes (g := mkF m pc L (.null :: S)) X.here hx rfl (pc0 := pc) rfl (hb hby hd) rfl ho hp a1, b1⟩
theorem w_ifnullNo (X : Wk p l e R s m args below meth c Z n0 y code ml ret T cells slots h) {o : Int} {a : Addr} (hd : decode code pc = .ok (.ifnull o, 3)) (hp : pc + 3 = pc') (g : Goes p e below K T m pc' L S) : Goes p e below K T m pc L (.ref a :: S) := by
  obtain ⟨hx, -, hby, -, -, -, -, -, -, locs, X, -, -⟩ := X
  subst hp
  obtain ⟨u1, a1, b1⟩ := g
  exact ⟨u1, XS.ifnullNo (g := mkF m pc L (.ref a :: S)) X.here hx rfl (hb hby hd) rfl a1, b1⟩
theorem w_ifnonnullYes (X : Wk p l e R s m args below meth c Z n0 y code ml ret T cells slots h) {o : Int} {a : Addr} (hd : decode code pc = .ok (.ifnonnull o, 3)) (ho : 0 ≤ (pc : Int) + o) (hp : ((pc : Int) + o).toNat = pc') (g : Goes p e below K T m pc' L S) : Goes p e below K T m pc L (.ref a :: S) := by
  obtain ⟨hx, -, hby, -, -, -, -, -, -, locs, X, -, -⟩ := X
  obtain ⟨u1, a1, b1⟩ := g
  exact ⟨u1, XS.ifnonnullYes (g := mkF m pc L (.ref a :: S)) X.here hx rfl (pc0 := pc) rfl (hb hby hd) rfl ho hp a1, b1⟩
theorem w_ifnonnullNo (X : Wk p l e R s m args below meth c Z n0 y code ml ret T cells slots h) {o : Int} (hd : decode code pc = .ok (.ifnonnull o, 3)) (hp : pc + 3 = pc') (g : Goes p e below K T m pc' L S) : Goes p e below K T m pc L (.null :: S) := by
  obtain ⟨hx, -, hby, -, -, -, -, -, -, locs, X, -, -⟩ := X
  subst hp
  obtain ⟨u1, a1, b1⟩ := g
  exact ⟨u1, XS.ifnonnullNo (g := mkF m pc L (.null :: S)) X.here hx rfl (hb hby hd) rfl a1, b1⟩
theorem w_iadd (X : Wk p l e R s m args below meth c Z n0 y code ml ret T cells slots h) {a b : Int32} (hd : decode code pc = .ok (.iadd, 1)) (hp : pc + 1 = pc') (g : Goes p e below K T m pc' L (.int (a + b) :: S)) : Goes p e below K T m pc L (.int b :: .int a :: S) := by
  obtain ⟨hx, -, hby, -, -, -, -, -, -, locs, X, -, -⟩ := X
  subst hp
  obtain ⟨u1, a1, b1⟩ := g
  exact ⟨u1, XS.iadd (g := mkF m pc L (.int b :: .int a :: S)) X.here hx rfl (hb hby hd) rfl a1, b1⟩
theorem w_ladd (X : Wk p l e R s m args below meth c Z n0 y code ml ret T cells slots h) {a b : Int64} (hd : decode code pc = .ok (.ladd, 1)) (hp : pc + 1 = pc') (g : Goes p e below K T m pc' L (.long (a + b) :: S)) : Goes p e below K T m pc L (.long b :: .long a :: S) := by
  obtain ⟨hx, -, hby, -, -, -, -, -, -, locs, X, -, -⟩ := X
  subst hp
  obtain ⟨u1, a1, b1⟩ := g
  exact ⟨u1, XS.ladd (g := mkF m pc L (.long b :: .long a :: S)) X.here hx rfl (hb hby hd) rfl a1, b1⟩
theorem w_isub (X : Wk p l e R s m args below meth c Z n0 y code ml ret T cells slots h) {a b : Int32} (hd : decode code pc = .ok (.isub, 1)) (hp : pc + 1 = pc') (g : Goes p e below K T m pc' L (.int (a - b) :: S)) : Goes p e below K T m pc L (.int b :: .int a :: S) := by
  obtain ⟨hx, -, hby, -, -, -, -, -, -, locs, X, -, -⟩ := X
  subst hp
  obtain ⟨u1, a1, b1⟩ := g
  exact ⟨u1, XS.isub (g := mkF m pc L (.int b :: .int a :: S)) X.here hx rfl (hb hby hd) rfl a1, b1⟩
theorem w_lsub (X : Wk p l e R s m args below meth c Z n0 y code ml ret T cells slots h) {a b : Int64} (hd : decode code pc = .ok (.lsub, 1)) (hp : pc + 1 = pc') (g : Goes p e below K T m pc' L (.long (a - b) :: S)) : Goes p e below K T m pc L (.long b :: .long a :: S) := by
  obtain ⟨hx, -, hby, -, -, -, -, -, -, locs, X, -, -⟩ := X
  subst hp
  obtain ⟨u1, a1, b1⟩ := g
  exact ⟨u1, XS.lsub (g := mkF m pc L (.long b :: .long a :: S)) X.here hx rfl (hb hby hd) rfl a1, b1⟩
theorem w_imul (X : Wk p l e R s m args below meth c Z n0 y code ml ret T cells slots h) {a b : Int32} (hd : decode code pc = .ok (.imul, 1)) (hp : pc + 1 = pc') (g : Goes p e below K T m pc' L (.int (a * b) :: S)) : Goes p e below K T m pc L (.int b :: .int a :: S) := by
  obtain ⟨hx, -, hby, -, -, -, -, -, -, locs, X, -, -⟩ := X
  subst hp
  obtain ⟨u1, a1, b1⟩ := g
  exact ⟨u1, XS.imul (g := mkF m pc L (.int b :: .int a :: S)) X.here hx rfl (hb hby hd) rfl a1, b1⟩
theorem w_lmul (X : Wk p l e R s m args below meth c Z n0 y code ml ret T cells slots h) {a b : Int64} (hd : decode code pc = .ok (.lmul, 1)) (hp : pc + 1 = pc') (g : Goes p e below K T m pc' L (.long (a * b) :: S)) : Goes p e below K T m pc L (.long b :: .long a :: S) := by
  obtain ⟨hx, -, hby, -, -, -, -, -, -, locs, X, -, -⟩ := X
  subst hp
  obtain ⟨u1, a1, b1⟩ := g
  exact ⟨u1, XS.lmul (g := mkF m pc L (.long b :: .long a :: S)) X.here hx rfl (hb hby hd) rfl a1, b1⟩
theorem w_iand (X : Wk p l e R s m args below meth c Z n0 y code ml ret T cells slots h) {a b : Int32} (hd : decode code pc = .ok (.iand, 1)) (hp : pc + 1 = pc') (g : Goes p e below K T m pc' L (.int (a &&& b) :: S)) : Goes p e below K T m pc L (.int b :: .int a :: S) := by
  obtain ⟨hx, -, hby, -, -, -, -, -, -, locs, X, -, -⟩ := X
  subst hp
  obtain ⟨u1, a1, b1⟩ := g
  exact ⟨u1, XS.iand (g := mkF m pc L (.int b :: .int a :: S)) X.here hx rfl (hb hby hd) rfl a1, b1⟩
theorem w_land (X : Wk p l e R s m args below meth c Z n0 y code ml ret T cells slots h) {a b : Int64} (hd : decode code pc = .ok (.land, 1)) (hp : pc + 1 = pc') (g : Goes p e below K T m pc' L (.long (a &&& b) :: S)) : Goes p e below K T m pc L (.long b :: .long a :: S) := by
  obtain ⟨hx, -, hby, -, -, -, -, -, -, locs, X, -, -⟩ := X
  subst hp
  obtain ⟨u1, a1, b1⟩ := g
  exact ⟨u1, XS.land (g := mkF m pc L (.long b :: .long a :: S)) X.here hx rfl (hb hby hd) rfl a1, b1⟩
theorem w_ior (X : Wk p l e R s m args below meth c Z n0 y code ml ret T cells slots h) {a b : Int32} (hd : decode code pc = .ok (.ior, 1)) (hp : pc + 1 = pc') (g : Goes p e below K T m pc' L (.int (a ||| b) :: S)) : Goes p e below K T m pc L (.int b :: .int a :: S) := by
  obtain ⟨hx, -, hby, -, -, -, -, -, -, locs, X, -, -⟩ := X
  subst hp
  obtain ⟨u1, a1, b1⟩ := g
  exact ⟨u1, XS.ior (g := mkF m pc L (.int b :: .int a :: S)) X.here hx rfl (hb hby hd) rfl a1, b1⟩
theorem w_lor (X : Wk p l e R s m args below meth c Z n0 y code ml ret T cells slots h) {a b : Int64} (hd : decode code pc = .ok (.lor, 1)) (hp : pc + 1 = pc') (g : Goes p e below K T m pc' L (.long (a ||| b) :: S)) : Goes p e below K T m pc L (.long b :: .long a :: S) := by
  obtain ⟨hx, -, hby, -, -, -, -, -, -, locs, X, -, -⟩ := X
  subst hp
  obtain ⟨u1, a1, b1⟩ := g
  exact ⟨u1, XS.lor (g := mkF m pc L (.long b :: .long a :: S)) X.here hx rfl (hb hby hd) rfl a1, b1⟩
theorem w_ixor (X : Wk p l e R s m args below meth c Z n0 y code ml ret T cells slots h) {a b : Int32} (hd : decode code pc = .ok (.ixor, 1)) (hp : pc + 1 = pc') (g : Goes p e below K T m pc' L (.int (a ^^^ b) :: S)) : Goes p e below K T m pc L (.int b :: .int a :: S) := by
  obtain ⟨hx, -, hby, -, -, -, -, -, -, locs, X, -, -⟩ := X
  subst hp
  obtain ⟨u1, a1, b1⟩ := g
  exact ⟨u1, XS.ixor (g := mkF m pc L (.int b :: .int a :: S)) X.here hx rfl (hb hby hd) rfl a1, b1⟩
theorem w_lxor (X : Wk p l e R s m args below meth c Z n0 y code ml ret T cells slots h) {a b : Int64} (hd : decode code pc = .ok (.lxor, 1)) (hp : pc + 1 = pc') (g : Goes p e below K T m pc' L (.long (a ^^^ b) :: S)) : Goes p e below K T m pc L (.long b :: .long a :: S) := by
  obtain ⟨hx, -, hby, -, -, -, -, -, -, locs, X, -, -⟩ := X
  subst hp
  obtain ⟨u1, a1, b1⟩ := g
  exact ⟨u1, XS.lxor (g := mkF m pc L (.long b :: .long a :: S)) X.here hx rfl (hb hby hd) rfl a1, b1⟩
theorem w_ishl (X : Wk p l e R s m args below meth c Z n0 y code ml ret T cells slots h) {a b : Int32} (hd : decode code pc = .ok (.ishl, 1)) (hp : pc + 1 = pc') (g : Goes p e below K T m pc' L (.int (a <<< (b &&& 31)) :: S)) : Goes p e below K T m pc L (.int b :: .int a :: S) := by
  obtain ⟨hx, -, hby, -, -, -, -, -, -, locs, X, -, -⟩ := X
  subst hp
  obtain ⟨u1, a1, b1⟩ := g
  exact ⟨u1, XS.ishl (g := mkF m pc L (.int b :: .int a :: S)) X.here hx rfl (hb hby hd) rfl a1, b1⟩
theorem w_ishr (X : Wk p l e R s m args below meth c Z n0 y code ml ret T cells slots h) {a b : Int32} (hd : decode code pc = .ok (.ishr, 1)) (hp : pc + 1 = pc') (g : Goes p e below K T m pc' L (.int (a >>> (b &&& 31)) :: S)) : Goes p e below K T m pc L (.int b :: .int a :: S) := by
  obtain ⟨hx, -, hby, -, -, -, -, -, -, locs, X, -, -⟩ := X
  subst hp
  obtain ⟨u1, a1, b1⟩ := g
  exact ⟨u1, XS.ishr (g := mkF m pc L (.int b :: .int a :: S)) X.here hx rfl (hb hby hd) rfl a1, b1⟩
theorem w_iushr (X : Wk p l e R s m args below meth c Z n0 y code ml ret T cells slots h) {a b : Int32} (hd : decode code pc = .ok (.iushr, 1)) (hp : pc + 1 = pc') (g : Goes p e below K T m pc' L (.int (ush a b) :: S)) : Goes p e below K T m pc L (.int b :: .int a :: S) := by
  obtain ⟨hx, -, hby, -, -, -, -, -, -, locs, X, -, -⟩ := X
  subst hp
  obtain ⟨u1, a1, b1⟩ := g
  exact ⟨u1, XS.iushr (g := mkF m pc L (.int b :: .int a :: S)) X.here hx rfl (hb hby hd) rfl a1, b1⟩
theorem w_lshl (X : Wk p l e R s m args below meth c Z n0 y code ml ret T cells slots h) {a : Int64} {b : Int32} (hd : decode code pc = .ok (.lshl, 1)) (hp : pc + 1 = pc') (g : Goes p e below K T m pc' L (.long (a <<< (b &&& 0x3f).toInt64) :: S)) : Goes p e below K T m pc L (.int b :: .long a :: S) := by
  obtain ⟨hx, -, hby, -, -, -, -, -, -, locs, X, -, -⟩ := X
  subst hp
  obtain ⟨u1, a1, b1⟩ := g
  exact ⟨u1, XS.lshl (g := mkF m pc L (.int b :: .long a :: S)) X.here hx rfl (hb hby hd) rfl a1, b1⟩
theorem w_lshr (X : Wk p l e R s m args below meth c Z n0 y code ml ret T cells slots h) {a : Int64} {b : Int32} (hd : decode code pc = .ok (.lshr, 1)) (hp : pc + 1 = pc') (g : Goes p e below K T m pc' L (.long (a >>> (b &&& 0x3f).toInt64) :: S)) : Goes p e below K T m pc L (.int b :: .long a :: S) := by
  obtain ⟨hx, -, hby, -, -, -, -, -, -, locs, X, -, -⟩ := X
  subst hp
  obtain ⟨u1, a1, b1⟩ := g
  exact ⟨u1, XS.lshr (g := mkF m pc L (.int b :: .long a :: S)) X.here hx rfl (hb hby hd) rfl a1, b1⟩
theorem w_lushr (X : Wk p l e R s m args below meth c Z n0 y code ml ret T cells slots h) {a : Int64} {b : Int32} (hd : decode code pc = .ok (.lushr, 1)) (hp : pc + 1 = pc') (g : Goes p e below K T m pc' L (.long (ushL a b) :: S)) : Goes p e below K T m pc L (.int b :: .long a :: S) := by
  obtain ⟨hx, -, hby, -, -, -, -, -, -, locs, X, -, -⟩ := X
  subst hp
  obtain ⟨u1, a1, b1⟩ := g
  exact ⟨u1, XS.lushr (g := mkF m pc L (.int b :: .long a :: S)) X.here hx rfl (hb hby hd) rfl a1, b1⟩
theorem w_ineg (X : Wk p l e R s m args below meth c Z n0 y code ml ret T cells slots h) {a : Int32} (hd : decode code pc = .ok (.ineg, 1)) (hp : pc + 1 = pc') (g : Goes p e below K T m pc' L (.int (-a) :: S)) : Goes p e below K T m pc L (.int a :: S) := by
  obtain ⟨hx, -, hby, -, -, -, -, -, -, locs, X, -, -⟩ := X
  subst hp
  obtain ⟨u1, a1, b1⟩ := g
  exact ⟨u1, XS.ineg (g := mkF m pc L (.int a :: S)) X.here hx rfl (hb hby hd) rfl a1, b1⟩
theorem w_lneg (X : Wk p l e R s m args below meth c Z n0 y code ml ret T cells slots h) {a : Int64} (hd : decode code pc = .ok (.lneg, 1)) (hp : pc + 1 = pc') (g : Goes p e below K T m pc' L (.long (-a) :: S)) : Goes p e below K T m pc L (.long a :: S) := by
  obtain ⟨hx, -, hby, -, -, -, -, -, -, locs, X, -, -⟩ := X
  subst hp
  obtain ⟨u1, a1, b1⟩ := g
  exact ⟨u1, XS.lneg (g := mkF m pc L (.long a :: S)) X.here hx rfl (hb hby hd) rfl a1, b1⟩
theorem w_i2l (X : Wk p l e R s m args below meth c Z n0 y code ml ret T cells slots h) {a : Int32} (hd : decode code pc = .ok (.i2l, 1)) (hp : pc + 1 = pc') (g : Goes p e below K T m pc' L (.long a.toInt64 :: S)) : Goes p e below K T m pc L (.int a :: S) := by
  obtain ⟨hx, -, hby, -, -, -, -, -, -, locs, X, -, -⟩ := X
  subst hp
  obtain ⟨u1, a1, b1⟩ := g
  exact ⟨u1, XS.i2l (g := mkF m pc L (.int a :: S)) X.here hx rfl (hb hby hd) rfl a1, b1⟩
theorem w_l2i (X : Wk p l e R s m args below meth c Z n0 y code ml ret T cells slots h) {a : Int64} (hd : decode code pc = .ok (.l2i, 1)) (hp : pc + 1 = pc') (g : Goes p e below K T m pc' L (.int a.toInt32 :: S)) : Goes p e below K T m pc L (.long a :: S) := by
  obtain ⟨hx, -, hby, -, -, -, -, -, -, locs, X, -, -⟩ := X
  subst hp
  obtain ⟨u1, a1, b1⟩ := g
  exact ⟨u1, XS.l2i (g := mkF m pc L (.long a :: S)) X.here hx rfl (hb hby hd) rfl a1, b1⟩
theorem w_i2b (X : Wk p l e R s m args below meth c Z n0 y code ml ret T cells slots h) {a : Int32} (hd : decode code pc = .ok (.i2b, 1)) (hp : pc + 1 = pc') (g : Goes p e below K T m pc' L (.int a.toInt8.toInt32 :: S)) : Goes p e below K T m pc L (.int a :: S) := by
  obtain ⟨hx, -, hby, -, -, -, -, -, -, locs, X, -, -⟩ := X
  subst hp
  obtain ⟨u1, a1, b1⟩ := g
  exact ⟨u1, XS.i2b (g := mkF m pc L (.int a :: S)) X.here hx rfl (hb hby hd) rfl a1, b1⟩
theorem w_i2s (X : Wk p l e R s m args below meth c Z n0 y code ml ret T cells slots h) {a : Int32} (hd : decode code pc = .ok (.i2s, 1)) (hp : pc + 1 = pc') (g : Goes p e below K T m pc' L (.int a.toInt16.toInt32 :: S)) : Goes p e below K T m pc L (.int a :: S) := by
  obtain ⟨hx, -, hby, -, -, -, -, -, -, locs, X, -, -⟩ := X
  subst hp
  obtain ⟨u1, a1, b1⟩ := g
  exact ⟨u1, XS.i2s (g := mkF m pc L (.int a :: S)) X.here hx rfl (hb hby hd) rfl a1, b1⟩
theorem w_i2c (X : Wk p l e R s m args below meth c Z n0 y code ml ret T cells slots h) {a : Int32} (hd : decode code pc = .ok (.i2c, 1)) (hp : pc + 1 = pc') (g : Goes p e below K T m pc' L (.int a.toUInt32.toUInt16.toUInt32.toInt32 :: S)) : Goes p e below K T m pc L (.int a :: S) := by
  obtain ⟨hx, -, hby, -, -, -, -, -, -, locs, X, -, -⟩ := X
  subst hp
  obtain ⟨u1, a1, b1⟩ := g
  exact ⟨u1, XS.i2c (g := mkF m pc L (.int a :: S)) X.here hx rfl (hb hby hd) rfl a1, b1⟩
theorem w_idiv (X : Wk p l e R s m args below meth c Z n0 y code ml ret T cells slots h) {a b : Int32} (hd : decode code pc = .ok (.idiv, 1)) (hp : pc + 1 = pc') (hb0 : b ≠ 0) (g : Goes p e below K T m pc' L (.int (a / b) :: S)) : Goes p e below K T m pc L (.int b :: .int a :: S) := by
  obtain ⟨hx, -, hby, -, -, -, -, -, -, locs, X, -, -⟩ := X
  subst hp
  obtain ⟨u1, a1, b1⟩ := g
  exact ⟨u1, XS.idiv (g := mkF m pc L (.int b :: .int a :: S)) X.here hx rfl (hb hby hd) rfl hb0 a1, b1⟩
theorem w_irem (X : Wk p l e R s m args below meth c Z n0 y code ml ret T cells slots h) {a b : Int32} (hd : decode code pc = .ok (.irem, 1)) (hp : pc + 1 = pc') (hb0 : b ≠ 0) (g : Goes p e below K T m pc' L (.int (a % b) :: S)) : Goes p e below K T m pc L (.int b :: .int a :: S) := by
  obtain ⟨hx, -, hby, -, -, -, -, -, -, locs, X, -, -⟩ := X
  subst hp
  obtain ⟨u1, a1, b1⟩ := g
  exact ⟨u1, Jvm.RoadKit.iremM (g := mkF m pc L (.int b :: .int a :: S)) X hx rfl (hb hby hd) rfl hb0 a1, b1⟩
theorem w_ldiv (X : Wk p l e R s m args below meth c Z n0 y code ml ret T cells slots h) {a b : Int64} (hd : decode code pc = .ok (.ldiv, 1)) (hp : pc + 1 = pc') (hb0 : b ≠ 0) (g : Goes p e below K T m pc' L (.long (a / b) :: S)) : Goes p e below K T m pc L (.long b :: .long a :: S) := by
  obtain ⟨hx, -, hby, -, -, -, -, -, -, locs, X, -, -⟩ := X
  subst hp
  obtain ⟨u1, a1, b1⟩ := g
  exact ⟨u1, XS.ldiv (g := mkF m pc L (.long b :: .long a :: S)) X.here hx rfl (hb hby hd) rfl hb0 a1, b1⟩
theorem w_lrem (X : Wk p l e R s m args below meth c Z n0 y code ml ret T cells slots h) {a b : Int64} (hd : decode code pc = .ok (.lrem, 1)) (hp : pc + 1 = pc') (hb0 : b ≠ 0) (g : Goes p e below K T m pc' L (.long (a % b) :: S)) : Goes p e below K T m pc L (.long b :: .long a :: S) := by
  obtain ⟨hx, -, hby, -, -, -, -, -, -, locs, X, -, -⟩ := X
  subst hp
  rw [← lrem_mod] at g
  obtain ⟨u1, a1, b1⟩ := g
  exact ⟨u1, XS.lrem (g := mkF m pc L (.long b :: .long a :: S)) X.here hx rfl (hb hby hd) rfl hb0 a1, b1⟩
theorem w_lcmp (X : Wk p l e R s m args below meth c Z n0 y code ml ret T cells slots h) {a b : Int64} (hd : decode code pc = .ok (.lcmp, 1)) (hp : pc + 1 = pc') (g : Goes p e below K T m pc' L (.int (lcmpW a b) :: S)) : Goes p e below K T m pc L (.long b :: .long a :: S) := by
  obtain ⟨hx, -, hby, -, -, -, -, -, -, locs, X, -, -⟩ := X
  subst hp
  obtain ⟨u1, a1, b1⟩ := g
  exact ⟨u1, XS.lcmp (g := mkF m pc L (.long b :: .long a :: S)) X.here hx rfl (hb hby hd) rfl a1, b1⟩
theorem w_icmp_lt (X : Wk p l e R s m args below meth c Z n0 y code ml ret T cells slots h) {a b : Int32} {o : Int} {pcT pcF : Nat} (hd : decode code pc = .ok (.if_icmp .lt o, 3)) (ho : 0 ≤ (pc : Int) + o) (hT : ((pc : Int) + o).toNat = pcT) (hF : pc + 3 = pcF) (gT : a < b → Goes p e below K T m pcT L S) (gF : ¬ a < b → Goes p e below K T m pcF L S) : Goes p e below K T m pc L (.int b :: .int a :: S) := by
  obtain ⟨hx, -, hby, -, -, -, -, -, -, locs, X, -, -⟩ := X
  subst hF
  by_cases q : a < b
  · obtain ⟨u1, a1, b1⟩ := (gT q)
    exact ⟨u1, XS.icmpYes (g := mkF m pc L (.int b :: .int a :: S)) X.here hx rfl (pc0 := pc) rfl (hb hby hd) rfl (tlt q).1 ho hT a1, b1⟩
  · obtain ⟨u1, a1, b1⟩ := (gF q)
    exact ⟨u1, XS.icmpNo (g := mkF m pc L (.int b :: .int a :: S)) X.here hx rfl (hb hby hd) rfl (flt q).1 a1, b1⟩
theorem w_if_lt (X : Wk p l e R s m args below meth c Z n0 y code ml ret T cells slots h) {a : Int32} {o : Int} {pcT pcF : Nat} (hd : decode code pc = .ok (.ifCond .lt o, 3)) (ho : 0 ≤ (pc : Int) + o) (hT : ((pc : Int) + o).toNat = pcT) (hF : pc + 3 = pcF) (gT : a < 0 → Goes p e below K T m pcT L S) (gF : ¬ a < 0 → Goes p e below K T m pcF L S) : Goes p e below K T m pc L (.int a :: S) := by
  obtain ⟨hx, -, hby, -, -, -, -, -, -, locs, X, -, -⟩ := X
  subst hF
  by_cases q : a < 0
  · obtain ⟨u1, a1, b1⟩ := (gT q)
    exact ⟨u1, XS.ifYes (g := mkF m pc L (.int a :: S)) X.here hx rfl (pc0 := pc) rfl (hb hby hd) rfl ((if0 _ _).trans (tlt q).1) ho hT a1, b1⟩
  · obtain ⟨u1, a1, b1⟩ := (gF q)
    exact ⟨u1, XS.ifNo (g := mkF m pc L (.int a :: S)) X.here hx rfl (hb hby hd) rfl ((if0 _ _).trans (flt q).1) a1, b1⟩
theorem w_lcmp_lt (X : Wk p l e R s m args below meth c Z n0 y code ml ret T cells slots h) {a b : Int64} {o : Int} {pcI pcT pcF : Nat} (hd0 : decode code pc = .ok (.lcmp, 1)) (hp : pc + 1 = pcI) (hd : decode code pcI = .ok (.ifCond .lt o, 3)) (ho : 0 ≤ (pcI : Int) + o) (hT : ((pcI : Int) + o).toNat = pcT) (hF : pcI + 3 = pcF) (gT : a < b → Goes p e below K T m pcT L S) (gF : ¬ a < b → Goes p e below K T m pcF L S) : Goes p e below K T m pc L (.long b :: .long a :: S) :=
  w_lcmp X hd0 hp (w_if_lt X hd ho hT hF (fun q => gT ((lw_lt a b).mp q)) (fun q => gF (fun r => q ((lw_lt a b).mpr r))))
theorem w_icmp_ge (X : Wk p l e R s m args below meth c Z n0 y code ml ret T cells slots h) {a b : Int32} {o : Int} {pcT pcF : Nat} (hd : decode code pc = .ok (.if_icmp .ge o, 3)) (ho : 0 ≤ (pc : Int) + o) (hT : ((pc : Int) + o).toNat = pcT) (hF : pc + 3 = pcF) (gT : ¬ a < b → Goes p e below K T m pcT L S) (gF : a < b → Goes p e below K T m pcF L S) : Goes p e below K T m pc L (.int b :: .int a :: S) := by
  obtain ⟨hx, -, hby, -, -, -, -, -, -, locs, X, -, -⟩ := X
  subst hF
  by_cases q : ¬ a < b
  · obtain ⟨u1, a1, b1⟩ := (gT q)
    exact ⟨u1, XS.icmpYes (g := mkF m pc L (.int b :: .int a :: S)) X.here hx rfl (pc0 := pc) rfl (hb hby hd) rfl (flt q).2.1 ho hT a1, b1⟩
  · obtain ⟨u1, a1, b1⟩ := (gF (Classical.not_not.mp q))
    exact ⟨u1, XS.icmpNo (g := mkF m pc L (.int b :: .int a :: S)) X.here hx rfl (hb hby hd) rfl (tlt (Classical.not_not.mp q)).2.1 a1, b1⟩
theorem w_if_ge (X : Wk p l e R s m args below meth c Z n0 y code ml ret T cells slots h) {a : Int32} {o : Int} {pcT pcF : Nat} (hd : decode code pc = .ok (.ifCond .ge o, 3)) (ho : 0 ≤ (pc : Int) + o) (hT : ((pc : Int) + o).toNat = pcT) (hF : pc + 3 = pcF) (gT : ¬ a < 0 → Goes p e below K T m pcT L S) (gF : a < 0 → Goes p e below K T m pcF L S) : Goes p e below K T m pc L (.int a :: S) := by
  obtain ⟨hx, -, hby, -, -, -, -, -, -, locs, X, -, -⟩ := X
  subst hF
  by_cases q : ¬ a < 0
  · obtain ⟨u1, a1, b1⟩ := (gT q)
    exact ⟨u1, XS.ifYes (g := mkF m pc L (.int a :: S)) X.here hx rfl (pc0 := pc) rfl (hb hby hd) rfl ((if0 _ _).trans (flt q).2.1) ho hT a1, b1⟩
  · obtain ⟨u1, a1, b1⟩ := (gF (Classical.not_not.mp q))
    exact ⟨u1, XS.ifNo (g := mkF m pc L (.int a :: S)) X.here hx rfl (hb hby hd) rfl ((if0 _ _).trans (tlt (Classical.not_not.mp q)).2.1) a1, b1⟩
theorem w_lcmp_ge (X : Wk p l e R s m args below meth c Z n0 y code ml ret T cells slots h) {a b : Int64} {o : Int} {pcI pcT pcF : Nat} (hd0 : decode code pc = .ok (.lcmp, 1)) (hp : pc + 1 = pcI) (hd : decode code pcI = .ok (.ifCond .ge o, 3)) (ho : 0 ≤ (pcI : Int) + o) (hT : ((pcI : Int) + o).toNat = pcT) (hF : pcI + 3 = pcF) (gT : ¬ a < b → Goes p e below K T m pcT L S) (gF : a < b → Goes p e below K T m pcF L S) : Goes p e below K T m pc L (.long b :: .long a :: S) :=
  w_lcmp X hd0 hp (w_if_ge X hd ho hT hF (fun q => gT (fun r => q ((lw_lt a b).mpr r))) (fun q => gF ((lw_lt a b).mp q)))
theorem w_icmp_gt (X : Wk p l e R s m args below meth c Z n0 y code ml ret T cells slots h) {a b : Int32} {o : Int} {pcT pcF : Nat} (hd : decode code pc = .ok (.if_icmp .gt o, 3)) (ho : 0 ≤ (pc : Int) + o) (hT : ((pc : Int) + o).toNat = pcT) (hF : pc + 3 = pcF) (gT : b < a → Goes p e below K T m pcT L S) (gF : ¬ b < a → Goes p e below K T m pcF L S) : Goes p e below K T m pc L (.int b :: .int a :: S) := by
  obtain ⟨hx, -, hby, -, -, -, -, -, -, locs, X, -, -⟩ := X
  subst hF
  by_cases q : b < a
  · obtain ⟨u1, a1, b1⟩ := (gT q)
    exact ⟨u1, XS.icmpYes (g := mkF m pc L (.int b :: .int a :: S)) X.here hx rfl (pc0 := pc) rfl (hb hby hd) rfl (tlt q).2.2.1 ho hT a1, b1⟩
  · obtain ⟨u1, a1, b1⟩ := (gF q)
    exact ⟨u1, XS.icmpNo (g := mkF m pc L (.int b :: .int a :: S)) X.here hx rfl (hb hby hd) rfl (flt q).2.2.1 a1, b1⟩
theorem w_if_gt (X : Wk p l e R s m args below meth c Z n0 y code ml ret T cells slots h) {a : Int32} {o : Int} {pcT pcF : Nat} (hd : decode code pc = .ok (.ifCond .gt o, 3)) (ho : 0 ≤ (pc : Int) + o) (hT : ((pc : Int) + o).toNat = pcT) (hF : pc + 3 = pcF) (gT : 0 < a → Goes p e below K T m pcT L S) (gF : ¬ 0 < a → Goes p e below K T m pcF L S) : Goes p e below K T m pc L (.int a :: S) := by
  obtain ⟨hx, -, hby, -, -, -, -, -, -, locs, X, -, -⟩ := X
  subst hF
  by_cases q : 0 < a
  · obtain ⟨u1, a1, b1⟩ := (gT q)
    exact ⟨u1, XS.ifYes (g := mkF m pc L (.int a :: S)) X.here hx rfl (pc0 := pc) rfl (hb hby hd) rfl ((if0 _ _).trans (tlt q).2.2.1) ho hT a1, b1⟩
  · obtain ⟨u1, a1, b1⟩ := (gF q)
    exact ⟨u1, XS.ifNo (g := mkF m pc L (.int a :: S)) X.here hx rfl (hb hby hd) rfl ((if0 _ _).trans (flt q).2.2.1) a1, b1⟩
theorem w_lcmp_gt (X : Wk p l e R s m args below meth c Z n0 y code ml ret T cells slots h) {a b : Int64} {o : Int} {pcI pcT pcF : Nat} (hd0 : decode code pc = .ok (.lcmp, 1)) (hp : pc + 1 = pcI) (hd : decode code pcI = .ok (.ifCond .gt o, 3)) (ho : 0 ≤ (pcI : Int) + o) (hT : ((pcI : Int) + o).toNat = pcT) (hF : pcI + 3 = pcF) (gT : b < a → Goes p e below K T m pcT L S) (gF : ¬ b < a → Goes p e below K T m pcF L S) : Goes p e below K T m pc L (.long b :: .long a :: S) :=
  w_lcmp X hd0 hp (w_if_gt X hd ho hT hF (fun q => gT ((lw_gt a b).mp q)) (fun q => gF (fun r => q ((lw_gt a b).mpr r))))
theorem w_icmp_le (X : Wk p l e R s m args below meth c Z n0 y code ml ret T cells slots h) {a b : Int32} {o : Int} {pcT pcF : Nat} (hd : decode code pc = .ok (.if_icmp .le o, 3)) (ho : 0 ≤ (pc : Int) + o) (hT : ((pc : Int) + o).toNat = pcT) (hF : pc + 3 = pcF) (gT : ¬ b < a → Goes p e below K T m pcT L S) (gF : b < a → Goes p e below K T m pcF L S) : Goes p e below K T m pc L (.int b :: .int a :: S) := by
  obtain ⟨hx, -, hby, -, -, -, -, -, -, locs, X, -, -⟩ := X
  subst hF
  by_cases q : ¬ b < a
  · obtain ⟨u1, a1, b1⟩ := (gT q)
    exact ⟨u1, XS.icmpYes (g := mkF m pc L (.int b :: .int a :: S)) X.here hx rfl (pc0 := pc) rfl (hb hby hd) rfl (flt q).2.2.2 ho hT a1, b1⟩
  · obtain ⟨u1, a1, b1⟩ := (gF (Classical.not_not.mp q))
    exact ⟨u1, XS.icmpNo (g := mkF m pc L (.int b :: .int a :: S)) X.here hx rfl (hb hby hd) rfl (tlt (Classical.not_not.mp q)).2.2.2 a1, b1⟩
theorem w_if_le (X : Wk p l e R s m args below meth c Z n0 y code ml ret T cells slots h) {a : Int32} {o : Int} {pcT pcF : Nat} (hd : decode code pc = .ok (.ifCond .le o, 3)) (ho : 0 ≤ (pc : Int) + o) (hT : ((pc : Int) + o).toNat = pcT) (hF : pc + 3 = pcF) (gT : ¬ 0 < a → Goes p e below K T m pcT L S) (gF : 0 < a → Goes p e below K T m pcF L S) : Goes p e below K T m pc L (.int a :: S) := by
  obtain ⟨hx, -, hby, -, -, -, -, -, -, locs, X, -, -⟩ := X
  subst hF
  by_cases q : ¬ 0 < a
  · obtain ⟨u1, a1, b1⟩ := (gT q)
    exact ⟨u1, XS.ifYes (g := mkF m pc L (.int a :: S)) X.here hx rfl (pc0 := pc) rfl (hb hby hd) rfl ((if0 _ _).trans (flt q).2.2.2) ho hT a1, b1⟩
  · obtain ⟨u1, a1, b1⟩ := (gF (Classical.not_not.mp q))
    exact ⟨u1, XS.ifNo (g := mkF m pc L (.int a :: S)) X.here hx rfl (hb hby hd) rfl ((if0 _ _).trans (tlt (Classical.not_not.mp q)).2.2.2) a1, b1⟩
theorem w_lcmp_le (X : Wk p l e R s m args below meth c Z n0 y code ml ret T cells slots h) {a b : Int64} {o : Int} {pcI pcT pcF : Nat} (hd0 : decode code pc = .ok (.lcmp, 1)) (hp : pc + 1 = pcI) (hd : decode code pcI = .ok (.ifCond .le o, 3)) (ho : 0 ≤ (pcI : Int) + o) (hT : ((pcI : Int) + o).toNat = pcT) (hF : pcI + 3 = pcF) (gT : ¬ b < a → Goes p e below K T m pcT L S) (gF : b < a → Goes p e below K T m pcF L S) : Goes p e below K T m pc L (.long b :: .long a :: S) :=
  w_lcmp X hd0 hp (w_if_le X hd ho hT hF (fun q => gT (fun r => q ((lw_gt a b).mpr r))) (fun q => gF ((lw_gt a b).mp q)))
theorem w_icmp_eq (X : Wk p l e R s m args below meth c Z n0 y code ml ret T cells slots h) {a b : Int32} {o : Int} {pcT pcF : Nat} (hd : decode code pc = .ok (.if_icmp .eq o, 3)) (ho : 0 ≤ (pc : Int) + o) (hT : ((pc : Int) + o).toNat = pcT) (hF : pc + 3 = pcF) (gT : a = b → Goes p e below K T m pcT L S) (gF : ¬ a = b → Goes p e below K T m pcF L S) : Goes p e below K T m pc L (.int b :: .int a :: S) := by
  obtain ⟨hx, -, hby, -, -, -, -, -, -, locs, X, -, -⟩ := X
  subst hF
  by_cases q : a = b
  · obtain ⟨u1, a1, b1⟩ := (gT q)
    exact ⟨u1, XS.icmpYes (g := mkF m pc L (.int b :: .int a :: S)) X.here hx rfl (pc0 := pc) rfl (hb hby hd) rfl (teq q).1 ho hT a1, b1⟩
  · obtain ⟨u1, a1, b1⟩ := (gF q)
    exact ⟨u1, XS.icmpNo (g := mkF m pc L (.int b :: .int a :: S)) X.here hx rfl (hb hby hd) rfl (feq q).1 a1, b1⟩
theorem w_if_eq (X : Wk p l e R s m args below meth c Z n0 y code ml ret T cells slots h) {a : Int32} {o : Int} {pcT pcF : Nat} (hd : decode code pc = .ok (.ifCond .eq o, 3)) (ho : 0 ≤ (pc : Int) + o) (hT : ((pc : Int) + o).toNat = pcT) (hF : pc + 3 = pcF) (gT : a = 0 → Goes p e below K T m pcT L S) (gF : ¬ a = 0 → Goes p e below K T m pcF L S) : Goes p e below K T m pc L (.int a :: S) := by
  obtain ⟨hx, -, hby, -, -, -, -, -, -, locs, X, -, -⟩ := X
  subst hF
  by_cases q : a = 0
  · obtain ⟨u1, a1, b1⟩ := (gT q)
    exact ⟨u1, XS.ifYes (g := mkF m pc L (.int a :: S)) X.here hx rfl (pc0 := pc) rfl (hb hby hd) rfl ((if0 _ _).trans (teq q).1) ho hT a1, b1⟩
  · obtain ⟨u1, a1, b1⟩ := (gF q)
    exact ⟨u1, XS.ifNo (g := mkF m pc L (.int a :: S)) X.here hx rfl (hb hby hd) rfl ((if0 _ _).trans (feq q).1) a1, b1⟩
theorem w_lcmp_eq (X : Wk p l e R s m args below meth c Z n0 y code ml ret T cells slots h) {a b : Int64} {o : Int} {pcI pcT pcF : Nat} (hd0 : decode code pc = .ok (.lcmp, 1)) (hp : pc + 1 = pcI) (hd : decode code pcI = .ok (.ifCond .eq o, 3)) (ho : 0 ≤ (pcI : Int) + o) (hT : ((pcI : Int) + o).toNat = pcT) (hF : pcI + 3 = pcF) (gT : a = b → Goes p e below K T m pcT L S) (gF : ¬ a = b → Goes p e below K T m pcF L S) : Goes p e below K T m pc L (.long b :: .long a :: S) :=
  w_lcmp X hd0 hp (w_if_eq X hd ho hT hF (fun q => gT ((lw_eq a b).mp q)) (fun q => gF (fun r => q ((lw_eq a b).mpr r))))
theorem w_icmp_ne (X : Wk p l e R s m args below meth c Z n0 y code ml ret T cells slots h) {a b : Int32} {o : Int} {pcT pcF : Nat} (hd : decode code pc = .ok (.if_icmp .ne o, 3)) (ho : 0 ≤ (pc : Int) + o) (hT : ((pc : Int) + o).toNat = pcT) (hF : pc + 3 = pcF) (gT : ¬ a = b → Goes p e below K T m pcT L S) (gF : a = b → Goes p e below K T m pcF L S) : Goes p e below K T m pc L (.int b :: .int a :: S) := by
  obtain ⟨hx, -, hby, -, -, -, -, -, -, locs, X, -, -⟩ := X
  subst hF
  by_cases q : ¬ a = b
  · obtain ⟨u1, a1, b1⟩ := (gT q)
    exact ⟨u1, XS.icmpYes (g := mkF m pc L (.int b :: .int a :: S)) X.here hx rfl (pc0 := pc) rfl (hb hby hd) rfl (feq q).2 ho hT a1, b1⟩
  · obtain ⟨u1, a1, b1⟩ := (gF (Classical.not_not.mp q))
    exact ⟨u1, XS.icmpNo (g := mkF m pc L (.int b :: .int a :: S)) X.here hx rfl (hb hby hd) rfl (teq (Classical.not_not.mp q)).2 a1, b1⟩
theorem w_if_ne (X : Wk p l e R s m args below meth c Z n0 y code ml ret T cells slots h) {a : Int32} {o : Int} {pcT pcF : Nat} (hd : decode code pc = .ok (.ifCond .ne o, 3)) (ho : 0 ≤ (pc : Int) + o) (hT : ((pc : Int) + o).toNat = pcT) (hF : pc + 3 = pcF) (gT : ¬ a = 0 → Goes p e below K T m pcT L S) (gF : a = 0 → Goes p e below K T m pcF L S) : Goes p e below K T m pc L (.int a :: S) := by
  obtain ⟨hx, -, hby, -, -, -, -, -, -, locs, X, -, -⟩ := X
  subst hF
  by_cases q : ¬ a = 0
  · obtain ⟨u1, a1, b1⟩ := (gT q)
    exact ⟨u1, XS.ifYes (g := mkF m pc L (.int a :: S)) X.here hx rfl (pc0 := pc) rfl (hb hby hd) rfl ((if0 _ _).trans (feq q).2) ho hT a1, b1⟩
  · obtain ⟨u1, a1, b1⟩ := (gF (Classical.not_not.mp q))
    exact ⟨u1, XS.ifNo (g := mkF m pc L (.int a :: S)) X.here hx rfl (hb hby hd) rfl ((if0 _ _).trans (teq (Classical.not_not.mp q)).2) a1, b1⟩
theorem w_lcmp_ne (X : Wk p l e R s m args below meth c Z n0 y code ml ret T cells slots h) {a b : Int64} {o : Int} {pcI pcT pcF : Nat} (hd0 : decode code pc = .ok (.lcmp, 1)) (hp : pc + 1 = pcI) (hd : decode code pcI = .ok (.ifCond .ne o, 3)) (ho : 0 ≤ (pcI : Int) + o) (hT : ((pcI : Int) + o).toNat = pcT) (hF : pcI + 3 = pcF) (gT : ¬ a = b → Goes p e below K T m pcT L S) (gF : a = b → Goes p e below K T m pcF L S) : Goes p e below K T m pc L (.long b :: .long a :: S) :=
  w_lcmp X hd0 hp (w_if_ne X hd ho hT hF (fun q => gT (fun r => q ((lw_eq a b).mpr r))) (fun q => gF ((lw_eq a b).mp q)))
-- returns
theorem w_ireturn (X : Wk p l e R s m args below meth c Z n0 y code ml (some .int) T cells slots h) {w : Option Value} {Q : Heap → Prop} {z : Int32} (hd : decode code pc = .ok (.ireturn, 1)) (hw : w = some (.int z)) (hq : Q h) (hc : cells ≤ R.cells) (hs : slots ≤ R.slots) : Goes p e below (Done below s n0 R w Q) T m pc L (.int z :: S) := by
  obtain ⟨hx, hZ, hby, hml, hown, hnm, hret, hlk, hn, locs, X, eT, N⟩ := X
  obtain ⟨fs, hr, hrun, hended, hW, hsame⟩ := X.leave (v := some (.int z)) (fun h => by rw [hret] at h; cases h) hlk
  exact ⟨_, Jvm.RoadKit.retI X hx hret (hb hby hd) hr, _, hrun, hended, _, locs, rfl, ⟨hw.symm, (by show Q T.heap; rw [eT]; exact hq), N, (by show n0 ≤ T.heap.size; rw [eT]; exact hn)⟩, ⟨_, rfl⟩, hW, hsame.mono hc hs⟩
theorem w_nreturn {t : FieldType} (X : Wk p l e R s m args below meth c Z n0 y code ml (some t) T cells slots h) {w : Option Value} {Q : Heap → Prop} {z : Int32} (ht : t = .boolean ∨ t = .byte ∨ t = .char ∨ t = .short) (hd : decode code pc = .ok (.ireturn, 1)) (hw : w = some (.int (nar t z))) (hq : Q h) (hc : cells ≤ R.cells) (hs : slots ≤ R.slots) : Goes p e below (Done below s n0 R w Q) T m pc L (.int z :: S) := by
  obtain ⟨hx, hZ, hby, hml, hown, hnm, hret, hlk, hn, locs, X, eT, N⟩ := X
  obtain ⟨fs, hr, hrun, hended, hW, hsame⟩ := X.leave (v := some (.int (nar t z))) (fun h => by rw [hret] at h; cases h) hlk
  exact ⟨_, retN X hx hret ht (hb hby hd) hr, _, hrun, hended, _, locs, rfl, ⟨hw.symm, (by show Q T.heap; rw [eT]; exact hq), N, (by show n0 ≤ T.heap.size; rw [eT]; exact hn)⟩, ⟨_, rfl⟩, hW, hsame.mono hc hs⟩
theorem w_lreturn (X : Wk p l e R s m args below meth c Z n0 y code ml (some .long) T cells slots h) {w : Option Value} {Q : Heap → Prop} {z : Int64} (hd : decode code pc = .ok (.lreturn, 1)) (hw : w = some (.long z)) (hq : Q h) (hc : cells ≤ R.cells) (hs : slots ≤ R.slots) : Goes p e below (Done below s n0 R w Q) T m pc L [.long z] := by
  obtain ⟨hx, hZ, hby, hml, hown, hnm, hret, hlk, hn, locs, X, eT, N⟩ := X
  obtain ⟨fs, hr, hrun, hended, hW, hsame⟩ := X.leave (v := some (.long z)) (fun h => by rw [hret] at h; cases h) hlk
  exact ⟨_, X.lreturnOut hx hret (hb hby hd) hr, _, hrun, hended, _, locs, rfl, ⟨hw.symm, (by show Q T.heap; rw [eT]; exact hq), N, (by show n0 ≤ T.heap.size; rw [eT]; exact hn)⟩, ⟨_, rfl⟩, hW, hsame.mono hc hs⟩
theorem w_return (X : Wk p l e R s m args below meth c Z n0 y code ml none T cells slots h) {w : Option Value} {Q : Heap → Prop} (hd : decode code pc = .ok (.return_, 1)) (hw : w = none) (hq : Q h) (hc : cells ≤ R.cells) (hs : slots ≤ R.slots) : Goes p e below (Done below s n0 R w Q) T m pc L [] := by
  obtain ⟨hx, hZ, hby, hml, hown, hnm, hret, hlk, hn, locs, X, eT, N⟩ := X
  obtain ⟨fs, hr, hrun, hended, hW, hsame⟩ := X.leave (v := none) (fun _ => rfl) hlk
  exact ⟨_, X.returnOut hx hret (hb hby hd) hr, _, hrun, hended, _, locs, rfl, ⟨hw.symm, (by show Q T.heap; rw [eT]; exact hq), N, (by show n0 ≤ T.heap.size; rw [eT]; exact hn)⟩, ⟨_, rfl⟩, hW, hsame.mono hc hs⟩
-- calls
theorem w_static (X : Wk p l e R s m args below meth c Z n0 y code ml ret T cells slots h) {idx : Nat} {y' : MethodName} {bytes : ByteArray} {maxL : Nat} {ret' : Option FieldType} {R' : Room} {w' : Option Value} {Q' : Heap → Prop} {argsL rest : List Value} {W : Nat}
    (hM : Con l Z y' bytes maxL ret' R' argsL.toArray h n0 w' Q') (w1 : (Jvm.Cond.methodLink y.cls idx y').before a0 Z = true) (w2 : (Jvm.Cond.static y').before a0 Z = true) (w3 : (Jvm.Cond.initialized y'.cls).before a0 Z = true) (w4 : (Jvm.Cond.code y' bytes maxL ret').before a0 Z = true)
    (hy : y'.cls ≠ "java/lang/invoke/MethodHandle" ∧ y'.cls ≠ "java/lang/invoke/VarHandle") (hst : S = argsL.reverse ++ rest) (hlen : ∀ sig, parseMethodDescriptor y'.desc = some sig → argsL.length = sig.parameters.length) (hsz : L.size = ml) (hW : (rest.map fun v => v.category).sum = W) (hf : R'.frames + 1 ≤ R.frames) (hl : W + (maxL + 11) + R'.locals ≤ R.locals)
    (hc : cells + R'.cells ≤ R.cells) (hs : slots + R'.slots ≤ R.slots) (hd : decode code pc = .ok (.invokestatic idx, 3)) (hp : pc + 3 = pc')
    (g : ∀ T' h', Wk p l e R s m args below meth c Z n0 y code ml ret T' (cells + R'.cells) (slots + R'.slots) h' → Q' h' → Goes p e below K T' m pc' L (w'.toList ++ rest)) : Goes p e below K T m pc L S := by
  obtain ⟨hx, hZ, hby, hml, hown, hnm, hret, hlk, hn, locs, X, eT, N⟩ := X
  subst hp hW
  obtain ⟨_, _, ⟨T1, L1, k1, n1⟩, -, X1, ⟨Lc, hQ, l1, y1, z1⟩, st⟩ := Jvm.LawKit.callS X hx (y := y') hown (mvT hZ w1) (mvT hZ w2) (mvT hZ w3) (mvT hZ w4) hy (backOf (W := (rest.map fun v => v.category).sum) (hM []) hZ w4 w3 hf hl) (g := mkF m pc L S) rfl (by rw [hml]; exact hsz) (argsL := argsL) (rest := rest) hlen hst (by show 2 * 0 + _ ≤ _; omega) (hb hby hd) (fun _ _ => ⟨rfl, eT, hc, hs⟩)
  dsimp only [Pt.U, Pt.locs, Pt.cells, Pt.slots] at X1 l1 y1 z1 st hQ
  subst l1 y1 z1
  obtain ⟨rfl, hQ', N', hn'⟩ := hQ
  obtain ⟨u1, a1, b1⟩ := g _ _ ⟨hx, hZ, hby, hml, hown, hnm, hret, hlk, hn', _, X1, rfl, N.app N'⟩ hQ'
  exact ⟨u1, st _ a1, b1⟩
theorem w_staticV (X : Wk p l e R s m args below meth c Z n0 y code ml ret T cells slots h) {idx : Nat} {y' : MethodName} {bytes : ByteArray} {maxL : Nat} {ret' : Option FieldType} {R' : Room} {v' : Value} {Q' : Heap → Prop} {argsL rest : List Value} {W : Nat}
    (hM : Con l Z y' bytes maxL ret' R' argsL.toArray h n0 (some v') Q') (w1 : (Jvm.Cond.methodLink y.cls idx y').before a0 Z = true) (w2 : (Jvm.Cond.static y').before a0 Z = true) (w3 : (Jvm.Cond.initialized y'.cls).before a0 Z = true) (w4 : (Jvm.Cond.code y' bytes maxL ret').before a0 Z = true)
    (hy : y'.cls ≠ "java/lang/invoke/MethodHandle" ∧ y'.cls ≠ "java/lang/invoke/VarHandle") (hst : S = argsL.reverse ++ rest) (hlen : ∀ sig, parseMethodDescriptor y'.desc = some sig → argsL.length = sig.parameters.length) (hsz : L.size = ml) (hW : (rest.map fun v => v.category).sum = W) (hf : R'.frames + 1 ≤ R.frames) (hl : W + (maxL + 11) + R'.locals ≤ R.locals)
    (hc : cells + R'.cells ≤ R.cells) (hs : slots + R'.slots ≤ R.slots) (hd : decode code pc = .ok (.invokestatic idx, 3)) (hp : pc + 3 = pc')
    (g : ∀ T' h', Wk p l e R s m args below meth c Z n0 y code ml ret T' (cells + R'.cells) (slots + R'.slots) h' → Q' h' → Goes p e below K T' m pc' L (v' :: rest)) : Goes p e below K T m pc L S := w_static X hM w1 w2 w3 w4 hy hst hlen hsz hW hf hl hc hs hd hp g
theorem w_staticVP (X : Wk p l e R s m args below meth c Z n0 y code ml ret T cells slots h) {idx : Nat} {y' : MethodName} {bytes : ByteArray} {maxL : Nat} {ret' : Option FieldType} {R' : Room} {v' : Value} {argsL rest : List Value} {W : Nat}
    (hM : Con l Z y' bytes maxL ret' R' argsL.toArray h n0 (some v') (fun h' => h' = h)) (w1 : (Jvm.Cond.methodLink y.cls idx y').before a0 Z = true) (w2 : (Jvm.Cond.static y').before a0 Z = true) (w3 : (Jvm.Cond.initialized y'.cls).before a0 Z = true) (w4 : (Jvm.Cond.code y' bytes maxL ret').before a0 Z = true)
    (hy : y'.cls ≠ "java/lang/invoke/MethodHandle" ∧ y'.cls ≠ "java/lang/invoke/VarHandle") (hst : S = argsL.reverse ++ rest) (hlen : ∀ sig, parseMethodDescriptor y'.desc = some sig → argsL.length = sig.parameters.length) (hsz : L.size = ml) (hW : (rest.map fun v => v.category).sum = W) (hf : R'.frames + 1 ≤ R.frames) (hl : W + (maxL + 11) + R'.locals ≤ R.locals)
    (hc : cells + R'.cells ≤ R.cells) (hs : slots + R'.slots ≤ R.slots) (hd : decode code pc = .ok (.invokestatic idx, 3)) (hp : pc + 3 = pc')
    (g : ∀ T', Wk p l e R s m args below meth c Z n0 y code ml ret T' (cells + R'.cells) (slots + R'.slots) h → Goes p e below K T' m pc' L (v' :: rest)) : Goes p e below K T m pc L S := w_staticV X hM w1 w2 w3 w4 hy hst hlen hsz hW hf hl hc hs hd hp (fun T' h' X' q => by subst q; exact g T' X')
theorem w_static0 (X : Wk p l e R s m args below meth c Z n0 y code ml ret T cells slots h) {idx : Nat} {y' : MethodName} {bytes : ByteArray} {maxL : Nat} {ret' : Option FieldType} {R' : Room} {Q' : Heap → Prop} {argsL rest : List Value} {W : Nat}
    (hM : Con l Z y' bytes maxL ret' R' argsL.toArray h n0 none Q') (w1 : (Jvm.Cond.methodLink y.cls idx y').before a0 Z = true) (w2 : (Jvm.Cond.static y').before a0 Z = true) (w3 : (Jvm.Cond.initialized y'.cls).before a0 Z = true) (w4 : (Jvm.Cond.code y' bytes maxL ret').before a0 Z = true)
    (hy : y'.cls ≠ "java/lang/invoke/MethodHandle" ∧ y'.cls ≠ "java/lang/invoke/VarHandle") (hst : S = argsL.reverse ++ rest) (hlen : ∀ sig, parseMethodDescriptor y'.desc = some sig → argsL.length = sig.parameters.length) (hsz : L.size = ml) (hW : (rest.map fun v => v.category).sum = W) (hf : R'.frames + 1 ≤ R.frames) (hl : W + (maxL + 11) + R'.locals ≤ R.locals)
    (hc : cells + R'.cells ≤ R.cells) (hs : slots + R'.slots ≤ R.slots) (hd : decode code pc = .ok (.invokestatic idx, 3)) (hp : pc + 3 = pc')
    (g : ∀ T' h', Wk p l e R s m args below meth c Z n0 y code ml ret T' (cells + R'.cells) (slots + R'.slots) h' → Q' h' → Goes p e below K T' m pc' L rest) : Goes p e below K T m pc L S := w_static X hM w1 w2 w3 w4 hy hst hlen hsz hW hf hl hc hs hd hp g
theorem w_static0P (X : Wk p l e R s m args below meth c Z n0 y code ml ret T cells slots h) {idx : Nat} {y' : MethodName} {bytes : ByteArray} {maxL : Nat} {ret' : Option FieldType} {R' : Room} {argsL rest : List Value} {W : Nat}
    (hM : Con l Z y' bytes maxL ret' R' argsL.toArray h n0 none (fun h' => h' = h)) (w1 : (Jvm.Cond.methodLink y.cls idx y').before a0 Z = true) (w2 : (Jvm.Cond.static y').before a0 Z = true) (w3 : (Jvm.Cond.initialized y'.cls).before a0 Z = true) (w4 : (Jvm.Cond.code y' bytes maxL ret').before a0 Z = true)
    (hy : y'.cls ≠ "java/lang/invoke/MethodHandle" ∧ y'.cls ≠ "java/lang/invoke/VarHandle") (hst : S = argsL.reverse ++ rest) (hlen : ∀ sig, parseMethodDescriptor y'.desc = some sig → argsL.length = sig.parameters.length) (hsz : L.size = ml) (hW : (rest.map fun v => v.category).sum = W) (hf : R'.frames + 1 ≤ R.frames) (hl : W + (maxL + 11) + R'.locals ≤ R.locals)
    (hc : cells + R'.cells ≤ R.cells) (hs : slots + R'.slots ≤ R.slots) (hd : decode code pc = .ok (.invokestatic idx, 3)) (hp : pc + 3 = pc')
    (g : ∀ T', Wk p l e R s m args below meth c Z n0 y code ml ret T' (cells + R'.cells) (slots + R'.slots) h → Goes p e below K T' m pc' L rest) : Goes p e below K T m pc L S := w_static0 X hM w1 w2 w3 w4 hy hst hlen hsz hW hf hl hc hs hd hp (fun T' h' X' q => by subst q; exact g T' X')
theorem w_special (X : Wk p l e R s m args below meth c Z n0 y code ml ret T cells slots h) {idx : Nat} {y' : MethodName} {bytes : ByteArray} {maxL : Nat} {R' : Room} {w' : Option Value} {Q' : Heap → Prop} {a : Addr} {argsL rest : List Value} {W : Nat}
    (hM : Con l Z y' bytes maxL none R' (.ref a :: argsL).toArray h n0 w' Q') (hi : y'.name = "<init>") (w1 : (Jvm.Cond.methodLink y.cls idx y').before a0 Z = true) (w2 : (Jvm.Cond.instanceMethod y').before a0 Z = true) (w3 : (Jvm.Cond.initialized y'.cls).before a0 Z = true) (w4 : (Jvm.Cond.code y' bytes maxL none).before a0 Z = true)
    (hy : y'.cls ≠ "java/lang/invoke/MethodHandle" ∧ y'.cls ≠ "java/lang/invoke/VarHandle") (hst : S = argsL.reverse ++ .ref a :: rest) (hlen : ∀ sig, parseMethodDescriptor y'.desc = some sig → argsL.length = sig.parameters.length) (hsz : L.size = ml) (hW : (rest.map fun v => v.category).sum = W) (hf : R'.frames + 1 ≤ R.frames) (hl : W + (maxL + 11) + R'.locals ≤ R.locals)
    (hc : cells + R'.cells ≤ R.cells) (hs : slots + R'.slots ≤ R.slots) (hd : decode code pc = .ok (.invokespecial idx, 3)) (hp : pc + 3 = pc')
    (g : ∀ T' h', Wk p l e R s m args below meth c Z n0 y code ml ret T' (cells + R'.cells) (slots + R'.slots) h' → Q' h' → Goes p e below K T' m pc' L (w'.toList ++ rest)) : Goes p e below K T m pc L S := by
  obtain ⟨hx, hZ, hby, hml, hown, hnm, hret, hlk, hn, locs, X, eT, N⟩ := X
  subst hp hW
  obtain ⟨_, _, ⟨T1, L1, k1, n1⟩, -, X1, ⟨Lc, hQ, l1, y1, z1⟩, st⟩ := X.specialBack hx (y := y') hi hown (mvT hZ w1) (mvT hZ w2) (mvT hZ w4) hy (backOf (W := (rest.map fun v => v.category).sum) (hM []) hZ w4 w3 hf hl) (g := mkF m pc L S) rfl (by rw [hml]; exact hsz) (Steps.refl _) (a := a) (argsL := argsL) (rest := rest) hlen hst (by show 2 * 0 + _ ≤ _; omega) (hb hby hd) (fun _ _ => ⟨rfl, eT, hc, hs⟩)
  dsimp only [Pt.U, Pt.locs, Pt.cells, Pt.slots] at X1 l1 y1 z1 st hQ
  subst l1 y1 z1
  obtain ⟨rfl, hQ', N', hn'⟩ := hQ
  obtain ⟨u1, a1, b1⟩ := g _ _ ⟨hx, hZ, hby, hml, hown, hnm, hret, hlk, hn', _, X1, rfl, N.app N'⟩ hQ'
  exact ⟨u1, st.trans a1, b1⟩
theorem w_special0 (X : Wk p l e R s m args below meth c Z n0 y code ml ret T cells slots h) {idx : Nat} {y' : MethodName} {bytes : ByteArray} {maxL : Nat} {R' : Room} {Q' : Heap → Prop} {a : Addr} {argsL rest : List Value} {W : Nat}
    (hM : Con l Z y' bytes maxL none R' (.ref a :: argsL).toArray h n0 none Q') (hi : y'.name = "<init>") (w1 : (Jvm.Cond.methodLink y.cls idx y').before a0 Z = true) (w2 : (Jvm.Cond.instanceMethod y').before a0 Z = true) (w3 : (Jvm.Cond.initialized y'.cls).before a0 Z = true) (w4 : (Jvm.Cond.code y' bytes maxL none).before a0 Z = true)
    (hy : y'.cls ≠ "java/lang/invoke/MethodHandle" ∧ y'.cls ≠ "java/lang/invoke/VarHandle") (hst : S = argsL.reverse ++ .ref a :: rest) (hlen : ∀ sig, parseMethodDescriptor y'.desc = some sig → argsL.length = sig.parameters.length) (hsz : L.size = ml) (hW : (rest.map fun v => v.category).sum = W) (hf : R'.frames + 1 ≤ R.frames) (hl : W + (maxL + 11) + R'.locals ≤ R.locals)
    (hc : cells + R'.cells ≤ R.cells) (hs : slots + R'.slots ≤ R.slots) (hd : decode code pc = .ok (.invokespecial idx, 3)) (hp : pc + 3 = pc')
    (g : ∀ T' h', Wk p l e R s m args below meth c Z n0 y code ml ret T' (cells + R'.cells) (slots + R'.slots) h' → Q' h' → Goes p e below K T' m pc' L rest) : Goes p e below K T m pc L S := w_special X hM hi w1 w2 w3 w4 hy hst hlen hsz hW hf hl hc hs hd hp g
theorem w_special0P (X : Wk p l e R s m args below meth c Z n0 y code ml ret T cells slots h) {idx : Nat} {y' : MethodName} {bytes : ByteArray} {maxL : Nat} {R' : Room} {a : Addr} {argsL rest : List Value} {W : Nat}
    (hM : Con l Z y' bytes maxL none R' (.ref a :: argsL).toArray h n0 none (fun h' => h' = h)) (hi : y'.name = "<init>") (w1 : (Jvm.Cond.methodLink y.cls idx y').before a0 Z = true) (w2 : (Jvm.Cond.instanceMethod y').before a0 Z = true) (w3 : (Jvm.Cond.initialized y'.cls).before a0 Z = true) (w4 : (Jvm.Cond.code y' bytes maxL none).before a0 Z = true)
    (hy : y'.cls ≠ "java/lang/invoke/MethodHandle" ∧ y'.cls ≠ "java/lang/invoke/VarHandle") (hst : S = argsL.reverse ++ .ref a :: rest) (hlen : ∀ sig, parseMethodDescriptor y'.desc = some sig → argsL.length = sig.parameters.length) (hsz : L.size = ml) (hW : (rest.map fun v => v.category).sum = W) (hf : R'.frames + 1 ≤ R.frames) (hl : W + (maxL + 11) + R'.locals ≤ R.locals)
    (hc : cells + R'.cells ≤ R.cells) (hs : slots + R'.slots ≤ R.slots) (hd : decode code pc = .ok (.invokespecial idx, 3)) (hp : pc + 3 = pc')
    (g : ∀ T', Wk p l e R s m args below meth c Z n0 y code ml ret T' (cells + R'.cells) (slots + R'.slots) h → Goes p e below K T' m pc' L rest) : Goes p e below K T m pc L S := w_special0 X hM hi w1 w2 w3 w4 hy hst hlen hsz hW hf hl hc hs hd hp (fun T' h' X' q => by subst q; exact g T' X')
theorem w_virtual (X : Wk p l e R s m args below meth c Z n0 y code ml ret T cells slots h) {idx : Nat} {C : String} {y' : MethodName} {bytes : ByteArray} {maxL : Nat} {ret' : Option FieldType} {R' : Room} {w' : Option Value} {Q' : Heap → Prop} {a : Addr} {argsL rest : List Value} {W : Nat}
    (hM : Con l Z y' bytes maxL ret' R' (.ref a :: argsL).toArray h n0 w' Q') (E : Exa Z h a C) (w1 : (Jvm.Cond.methodLink y.cls idx y').before a0 Z = true) (w2 : (Jvm.Cond.declares y').before a0 Z = true) (w5 : (Jvm.Cond.selects C y' y').before a0 Z = true) (w6 : (Jvm.Cond.instanceMethod y').before a0 Z = true) (w3 : (Jvm.Cond.initialized y'.cls).before a0 Z = true) (w4 : (Jvm.Cond.code y' bytes maxL ret').before a0 Z = true)
    (hy : y'.cls ≠ "java/lang/invoke/MethodHandle" ∧ y'.cls ≠ "java/lang/invoke/VarHandle") (hst : S = argsL.reverse ++ .ref a :: rest) (hlen : ∀ sig, parseMethodDescriptor y'.desc = some sig → argsL.length = sig.parameters.length) (hsz : L.size = ml) (hW : (rest.map fun v => v.category).sum = W) (hf : R'.frames + 1 ≤ R.frames) (hl : W + (maxL + 11) + R'.locals ≤ R.locals)
    (hc : cells + R'.cells ≤ R.cells) (hs : slots + R'.slots ≤ R.slots) (hd : decode code pc = .ok (.invokevirtual idx, 3)) (hp : pc + 3 = pc')
    (g : ∀ T' h', Wk p l e R s m args below meth c Z n0 y code ml ret T' (cells + R'.cells) (slots + R'.slots) h' → Q' h' → Goes p e below K T' m pc' L (w'.toList ++ rest)) : Goes p e below K T m pc L S := by
  obtain ⟨hx, hZ, hby, hml, hown, hnm, hret, hlk, hn, locs, X, eT, N⟩ := X
  subst hp hW
  obtain ⟨cq, kq, qa, qb, qc⟩ := isOf hZ eT E
  obtain ⟨_, _, ⟨T1, L1, k1, n1⟩, -, X1, ⟨Lc, hQ, l1, y1, z1⟩, st⟩ := X.virtualBack hx (y := y') (z := y') hown (mvT hZ w1) (mvT hZ w2) (notFace_of_selects (args := #[]) (mvT hZ w5)) (mvT hZ w5) (mvT hZ w6) hy (backOf (W := (rest.map fun v => v.category).sum) (hM []) hZ w4 w3 hf hl) qa qc (g := mkF m pc L S) rfl (by rw [hml]; exact hsz) (Steps.refl _) (argsL := argsL) (rest := rest) hlen hst (by show 2 * 0 + _ ≤ _; omega) (hb hby hd) (fun _ _ => ⟨rfl, eT, hc, hs⟩)
  dsimp only [Pt.U, Pt.locs, Pt.cells, Pt.slots] at X1 l1 y1 z1 st hQ
  subst l1 y1 z1
  obtain ⟨rfl, hQ', N', hn'⟩ := hQ
  obtain ⟨u1, a1, b1⟩ := g _ _ ⟨hx, hZ, hby, hml, hown, hnm, hret, hlk, hn', _, X1, rfl, N.app N'⟩ hQ'
  exact ⟨u1, st.trans a1, b1⟩
theorem w_virtualV (X : Wk p l e R s m args below meth c Z n0 y code ml ret T cells slots h) {idx : Nat} {C : String} {y' : MethodName} {bytes : ByteArray} {maxL : Nat} {ret' : Option FieldType} {R' : Room} {v' : Value} {Q' : Heap → Prop} {a : Addr} {argsL rest : List Value} {W : Nat}
    (hM : Con l Z y' bytes maxL ret' R' (.ref a :: argsL).toArray h n0 (some v') Q') (E : Exa Z h a C) (w1 : (Jvm.Cond.methodLink y.cls idx y').before a0 Z = true) (w2 : (Jvm.Cond.declares y').before a0 Z = true) (w5 : (Jvm.Cond.selects C y' y').before a0 Z = true) (w6 : (Jvm.Cond.instanceMethod y').before a0 Z = true) (w3 : (Jvm.Cond.initialized y'.cls).before a0 Z = true) (w4 : (Jvm.Cond.code y' bytes maxL ret').before a0 Z = true)
    (hy : y'.cls ≠ "java/lang/invoke/MethodHandle" ∧ y'.cls ≠ "java/lang/invoke/VarHandle") (hst : S = argsL.reverse ++ .ref a :: rest) (hlen : ∀ sig, parseMethodDescriptor y'.desc = some sig → argsL.length = sig.parameters.length) (hsz : L.size = ml) (hW : (rest.map fun v => v.category).sum = W) (hf : R'.frames + 1 ≤ R.frames) (hl : W + (maxL + 11) + R'.locals ≤ R.locals)
    (hc : cells + R'.cells ≤ R.cells) (hs : slots + R'.slots ≤ R.slots) (hd : decode code pc = .ok (.invokevirtual idx, 3)) (hp : pc + 3 = pc')
    (g : ∀ T' h', Wk p l e R s m args below meth c Z n0 y code ml ret T' (cells + R'.cells) (slots + R'.slots) h' → Q' h' → Goes p e below K T' m pc' L (v' :: rest)) : Goes p e below K T m pc L S := w_virtual X hM E w1 w2 w5 w6 w3 w4 hy hst hlen hsz hW hf hl hc hs hd hp g
theorem w_virtualVP (X : Wk p l e R s m args below meth c Z n0 y code ml ret T cells slots h) {idx : Nat} {C : String} {y' : MethodName} {bytes : ByteArray} {maxL : Nat} {ret' : Option FieldType} {R' : Room} {v' : Value} {a : Addr} {argsL rest : List Value} {W : Nat}
    (hM : Con l Z y' bytes maxL ret' R' (.ref a :: argsL).toArray h n0 (some v') (fun h' => h' = h)) (E : Exa Z h a C) (w1 : (Jvm.Cond.methodLink y.cls idx y').before a0 Z = true) (w2 : (Jvm.Cond.declares y').before a0 Z = true) (w5 : (Jvm.Cond.selects C y' y').before a0 Z = true) (w6 : (Jvm.Cond.instanceMethod y').before a0 Z = true) (w3 : (Jvm.Cond.initialized y'.cls).before a0 Z = true) (w4 : (Jvm.Cond.code y' bytes maxL ret').before a0 Z = true)
    (hy : y'.cls ≠ "java/lang/invoke/MethodHandle" ∧ y'.cls ≠ "java/lang/invoke/VarHandle") (hst : S = argsL.reverse ++ .ref a :: rest) (hlen : ∀ sig, parseMethodDescriptor y'.desc = some sig → argsL.length = sig.parameters.length) (hsz : L.size = ml) (hW : (rest.map fun v => v.category).sum = W) (hf : R'.frames + 1 ≤ R.frames) (hl : W + (maxL + 11) + R'.locals ≤ R.locals)
    (hc : cells + R'.cells ≤ R.cells) (hs : slots + R'.slots ≤ R.slots) (hd : decode code pc = .ok (.invokevirtual idx, 3)) (hp : pc + 3 = pc')
    (g : ∀ T', Wk p l e R s m args below meth c Z n0 y code ml ret T' (cells + R'.cells) (slots + R'.slots) h → Goes p e below K T' m pc' L (v' :: rest)) : Goes p e below K T m pc L S := w_virtualV X hM E w1 w2 w5 w6 w3 w4 hy hst hlen hsz hW hf hl hc hs hd hp (fun T' h' X' q => by subst q; exact g T' X')
theorem w_virtual0 (X : Wk p l e R s m args below meth c Z n0 y code ml ret T cells slots h) {idx : Nat} {C : String} {y' : MethodName} {bytes : ByteArray} {maxL : Nat} {ret' : Option FieldType} {R' : Room} {Q' : Heap → Prop} {a : Addr} {argsL rest : List Value} {W : Nat}
    (hM : Con l Z y' bytes maxL ret' R' (.ref a :: argsL).toArray h n0 none Q') (E : Exa Z h a C) (w1 : (Jvm.Cond.methodLink y.cls idx y').before a0 Z = true) (w2 : (Jvm.Cond.declares y').before a0 Z = true) (w5 : (Jvm.Cond.selects C y' y').before a0 Z = true) (w6 : (Jvm.Cond.instanceMethod y').before a0 Z = true) (w3 : (Jvm.Cond.initialized y'.cls).before a0 Z = true) (w4 : (Jvm.Cond.code y' bytes maxL ret').before a0 Z = true)
    (hy : y'.cls ≠ "java/lang/invoke/MethodHandle" ∧ y'.cls ≠ "java/lang/invoke/VarHandle") (hst : S = argsL.reverse ++ .ref a :: rest) (hlen : ∀ sig, parseMethodDescriptor y'.desc = some sig → argsL.length = sig.parameters.length) (hsz : L.size = ml) (hW : (rest.map fun v => v.category).sum = W) (hf : R'.frames + 1 ≤ R.frames) (hl : W + (maxL + 11) + R'.locals ≤ R.locals)
    (hc : cells + R'.cells ≤ R.cells) (hs : slots + R'.slots ≤ R.slots) (hd : decode code pc = .ok (.invokevirtual idx, 3)) (hp : pc + 3 = pc')
    (g : ∀ T' h', Wk p l e R s m args below meth c Z n0 y code ml ret T' (cells + R'.cells) (slots + R'.slots) h' → Q' h' → Goes p e below K T' m pc' L rest) : Goes p e below K T m pc L S := w_virtual X hM E w1 w2 w5 w6 w3 w4 hy hst hlen hsz hW hf hl hc hs hd hp g
theorem w_virtual0P (X : Wk p l e R s m args below meth c Z n0 y code ml ret T cells slots h) {idx : Nat} {C : String} {y' : MethodName} {bytes : ByteArray} {maxL : Nat} {ret' : Option FieldType} {R' : Room} {a : Addr} {argsL rest : List Value} {W : Nat}
    (hM : Con l Z y' bytes maxL ret' R' (.ref a :: argsL).toArray h n0 none (fun h' => h' = h)) (E : Exa Z h a C) (w1 : (Jvm.Cond.methodLink y.cls idx y').before a0 Z = true) (w2 : (Jvm.Cond.declares y').before a0 Z = true) (w5 : (Jvm.Cond.selects C y' y').before a0 Z = true) (w6 : (Jvm.Cond.instanceMethod y').before a0 Z = true) (w3 : (Jvm.Cond.initialized y'.cls).before a0 Z = true) (w4 : (Jvm.Cond.code y' bytes maxL ret').before a0 Z = true)
    (hy : y'.cls ≠ "java/lang/invoke/MethodHandle" ∧ y'.cls ≠ "java/lang/invoke/VarHandle") (hst : S = argsL.reverse ++ .ref a :: rest) (hlen : ∀ sig, parseMethodDescriptor y'.desc = some sig → argsL.length = sig.parameters.length) (hsz : L.size = ml) (hW : (rest.map fun v => v.category).sum = W) (hf : R'.frames + 1 ≤ R.frames) (hl : W + (maxL + 11) + R'.locals ≤ R.locals)
    (hc : cells + R'.cells ≤ R.cells) (hs : slots + R'.slots ≤ R.slots) (hd : decode code pc = .ok (.invokevirtual idx, 3)) (hp : pc + 3 = pc')
    (g : ∀ T', Wk p l e R s m args below meth c Z n0 y code ml ret T' (cells + R'.cells) (slots + R'.slots) h → Goes p e below K T' m pc' L rest) : Goes p e below K T m pc L S := w_virtual0 X hM E w1 w2 w5 w6 w3 w4 hy hst hlen hsz hW hf hl hc hs hd hp (fun T' h' X' q => by subst q; exact g T' X')
theorem w_private (X : Wk p l e R s m args below meth c Z n0 y code ml ret T cells slots h) {idx : Nat} {C : String} {y' : MethodName} {bytes : ByteArray} {maxL : Nat} {ret' : Option FieldType} {R' : Room} {w' : Option Value} {Q' : Heap → Prop} {a : Addr} {argsL rest : List Value} {W : Nat}
    (hM : Con l Z y' bytes maxL ret' R' (.ref a :: argsL).toArray h n0 w' Q') (E : Exa Z h a C) (w1 : (Jvm.Cond.methodLink y.cls idx y').before a0 Z = true) (w6 : (Jvm.Cond.instanceMethod y').before a0 Z = true) {kk : Nat} (w5 : (Jvm.Cond.instantiable y'.cls kk).before a0 Z = true) (w7 : (Jvm.Cond.privateMethod y').before a0 Z = true) (w3 : (Jvm.Cond.initialized y'.cls).before a0 Z = true) (w4 : (Jvm.Cond.code y' bytes maxL ret').before a0 Z = true)
    (hy : y'.cls ≠ "java/lang/invoke/MethodHandle" ∧ y'.cls ≠ "java/lang/invoke/VarHandle") (hst : S = argsL.reverse ++ .ref a :: rest) (hlen : ∀ sig, parseMethodDescriptor y'.desc = some sig → argsL.length = sig.parameters.length) (hsz : L.size = ml) (hW : (rest.map fun v => v.category).sum = W) (hf : R'.frames + 1 ≤ R.frames) (hl : W + (maxL + 11) + R'.locals ≤ R.locals)
    (hc : cells + R'.cells ≤ R.cells) (hs : slots + R'.slots ≤ R.slots) (hd : decode code pc = .ok (.invokevirtual idx, 3)) (hp : pc + 3 = pc')
    (g : ∀ T' h', Wk p l e R s m args below meth c Z n0 y code ml ret T' (cells + R'.cells) (slots + R'.slots) h' → Q' h' → Goes p e below K T' m pc' L (w'.toList ++ rest)) : Goes p e below K T m pc L S := by
  obtain ⟨hx, hZ, hby, hml, hown, hnm, hret, hlk, hn, locs, X, eT, N⟩ := X
  subst hp hW
  have hin : (Jvm.Cond.instanceMethod y').before args s = true := mvT hZ w6
  have hpr : s.PrivateAt y' := Cond.privateMethod_at (mvP hZ w7 (args := #[]))
  obtain ⟨cc, kc, r1, r2, -, r4, -⟩ := Cond.instantiable_spec (show (Jvm.Cond.instantiable y'.cls kk).before args s = true from mvT hZ w5)
  have sel : (Jvm.Cond.selects y'.cls y' y').before args s = true := Jvm.Stand.selects_self_of_private r1 r2 (by simp only [Bool.or_eq_false_iff] at r4; exact r4.1) hpr hin hy
  obtain ⟨cq, q, q'⟩ := E.cell
  obtain ⟨_, _, ⟨T1, L1, k1, n1⟩, -, X1, ⟨Lc, hQ, l1, y1, z1⟩, st⟩ := X.privateBack hx (y := y') hown (mvT hZ w1) hin sel hpr (mvT hZ w4) hy (backOf (W := (rest.map fun v => v.category).sum) (hM []) hZ w4 w3 hf hl) (g := mkF m pc L S) rfl (by rw [hml]; exact hsz) (Steps.refl _) (a := a) (by rw [eT]; exact q) q' (argsL := argsL) (rest := rest) hlen hst (by show 2 * 0 + _ ≤ _; omega) (hb hby hd) (fun _ _ => ⟨rfl, eT, hc, hs⟩)
  dsimp only [Pt.U, Pt.locs, Pt.cells, Pt.slots] at X1 l1 y1 z1 st hQ
  subst l1 y1 z1
  obtain ⟨rfl, hQ', N', hn'⟩ := hQ
  obtain ⟨u1, a1, b1⟩ := g _ _ ⟨hx, hZ, hby, hml, hown, hnm, hret, hlk, hn', _, X1, rfl, N.app N'⟩ hQ'
  exact ⟨u1, st.trans a1, b1⟩
theorem w_privateV (X : Wk p l e R s m args below meth c Z n0 y code ml ret T cells slots h) {idx : Nat} {C : String} {y' : MethodName} {bytes : ByteArray} {maxL : Nat} {ret' : Option FieldType} {R' : Room} {v' : Value} {Q' : Heap → Prop} {a : Addr} {argsL rest : List Value} {W : Nat}
    (hM : Con l Z y' bytes maxL ret' R' (.ref a :: argsL).toArray h n0 (some v') Q') (E : Exa Z h a C) (w1 : (Jvm.Cond.methodLink y.cls idx y').before a0 Z = true) (w6 : (Jvm.Cond.instanceMethod y').before a0 Z = true) {kk : Nat} (w5 : (Jvm.Cond.instantiable y'.cls kk).before a0 Z = true) (w7 : (Jvm.Cond.privateMethod y').before a0 Z = true) (w3 : (Jvm.Cond.initialized y'.cls).before a0 Z = true) (w4 : (Jvm.Cond.code y' bytes maxL ret').before a0 Z = true)
    (hy : y'.cls ≠ "java/lang/invoke/MethodHandle" ∧ y'.cls ≠ "java/lang/invoke/VarHandle") (hst : S = argsL.reverse ++ .ref a :: rest) (hlen : ∀ sig, parseMethodDescriptor y'.desc = some sig → argsL.length = sig.parameters.length) (hsz : L.size = ml) (hW : (rest.map fun v => v.category).sum = W) (hf : R'.frames + 1 ≤ R.frames) (hl : W + (maxL + 11) + R'.locals ≤ R.locals)
    (hc : cells + R'.cells ≤ R.cells) (hs : slots + R'.slots ≤ R.slots) (hd : decode code pc = .ok (.invokevirtual idx, 3)) (hp : pc + 3 = pc')
    (g : ∀ T' h', Wk p l e R s m args below meth c Z n0 y code ml ret T' (cells + R'.cells) (slots + R'.slots) h' → Q' h' → Goes p e below K T' m pc' L (v' :: rest)) : Goes p e below K T m pc L S := w_private X hM E w1 w6 w5 w7 w3 w4 hy hst hlen hsz hW hf hl hc hs hd hp g
theorem w_privateVP (X : Wk p l e R s m args below meth c Z n0 y code ml ret T cells slots h) {idx : Nat} {C : String} {y' : MethodName} {bytes : ByteArray} {maxL : Nat} {ret' : Option FieldType} {R' : Room} {v' : Value} {a : Addr} {argsL rest : List Value} {W : Nat}
    (hM : Con l Z y' bytes maxL ret' R' (.ref a :: argsL).toArray h n0 (some v') (fun h' => h' = h)) (E : Exa Z h a C) (w1 : (Jvm.Cond.methodLink y.cls idx y').before a0 Z = true) (w6 : (Jvm.Cond.instanceMethod y').before a0 Z = true) {kk : Nat} (w5 : (Jvm.Cond.instantiable y'.cls kk).before a0 Z = true) (w7 : (Jvm.Cond.privateMethod y').before a0 Z = true) (w3 : (Jvm.Cond.initialized y'.cls).before a0 Z = true) (w4 : (Jvm.Cond.code y' bytes maxL ret').before a0 Z = true)
    (hy : y'.cls ≠ "java/lang/invoke/MethodHandle" ∧ y'.cls ≠ "java/lang/invoke/VarHandle") (hst : S = argsL.reverse ++ .ref a :: rest) (hlen : ∀ sig, parseMethodDescriptor y'.desc = some sig → argsL.length = sig.parameters.length) (hsz : L.size = ml) (hW : (rest.map fun v => v.category).sum = W) (hf : R'.frames + 1 ≤ R.frames) (hl : W + (maxL + 11) + R'.locals ≤ R.locals)
    (hc : cells + R'.cells ≤ R.cells) (hs : slots + R'.slots ≤ R.slots) (hd : decode code pc = .ok (.invokevirtual idx, 3)) (hp : pc + 3 = pc')
    (g : ∀ T', Wk p l e R s m args below meth c Z n0 y code ml ret T' (cells + R'.cells) (slots + R'.slots) h → Goes p e below K T' m pc' L (v' :: rest)) : Goes p e below K T m pc L S := w_privateV X hM E w1 w6 w5 w7 w3 w4 hy hst hlen hsz hW hf hl hc hs hd hp (fun T' h' X' q => by subst q; exact g T' X')
theorem w_private0 (X : Wk p l e R s m args below meth c Z n0 y code ml ret T cells slots h) {idx : Nat} {C : String} {y' : MethodName} {bytes : ByteArray} {maxL : Nat} {ret' : Option FieldType} {R' : Room} {Q' : Heap → Prop} {a : Addr} {argsL rest : List Value} {W : Nat}
    (hM : Con l Z y' bytes maxL ret' R' (.ref a :: argsL).toArray h n0 none Q') (E : Exa Z h a C) (w1 : (Jvm.Cond.methodLink y.cls idx y').before a0 Z = true) (w6 : (Jvm.Cond.instanceMethod y').before a0 Z = true) {kk : Nat} (w5 : (Jvm.Cond.instantiable y'.cls kk).before a0 Z = true) (w7 : (Jvm.Cond.privateMethod y').before a0 Z = true) (w3 : (Jvm.Cond.initialized y'.cls).before a0 Z = true) (w4 : (Jvm.Cond.code y' bytes maxL ret').before a0 Z = true)
    (hy : y'.cls ≠ "java/lang/invoke/MethodHandle" ∧ y'.cls ≠ "java/lang/invoke/VarHandle") (hst : S = argsL.reverse ++ .ref a :: rest) (hlen : ∀ sig, parseMethodDescriptor y'.desc = some sig → argsL.length = sig.parameters.length) (hsz : L.size = ml) (hW : (rest.map fun v => v.category).sum = W) (hf : R'.frames + 1 ≤ R.frames) (hl : W + (maxL + 11) + R'.locals ≤ R.locals)
    (hc : cells + R'.cells ≤ R.cells) (hs : slots + R'.slots ≤ R.slots) (hd : decode code pc = .ok (.invokevirtual idx, 3)) (hp : pc + 3 = pc')
    (g : ∀ T' h', Wk p l e R s m args below meth c Z n0 y code ml ret T' (cells + R'.cells) (slots + R'.slots) h' → Q' h' → Goes p e below K T' m pc' L rest) : Goes p e below K T m pc L S := w_private X hM E w1 w6 w5 w7 w3 w4 hy hst hlen hsz hW hf hl hc hs hd hp g
theorem w_private0P (X : Wk p l e R s m args below meth c Z n0 y code ml ret T cells slots h) {idx : Nat} {C : String} {y' : MethodName} {bytes : ByteArray} {maxL : Nat} {ret' : Option FieldType} {R' : Room} {a : Addr} {argsL rest : List Value} {W : Nat}
    (hM : Con l Z y' bytes maxL ret' R' (.ref a :: argsL).toArray h n0 none (fun h' => h' = h)) (E : Exa Z h a C) (w1 : (Jvm.Cond.methodLink y.cls idx y').before a0 Z = true) (w6 : (Jvm.Cond.instanceMethod y').before a0 Z = true) {kk : Nat} (w5 : (Jvm.Cond.instantiable y'.cls kk).before a0 Z = true) (w7 : (Jvm.Cond.privateMethod y').before a0 Z = true) (w3 : (Jvm.Cond.initialized y'.cls).before a0 Z = true) (w4 : (Jvm.Cond.code y' bytes maxL ret').before a0 Z = true)
    (hy : y'.cls ≠ "java/lang/invoke/MethodHandle" ∧ y'.cls ≠ "java/lang/invoke/VarHandle") (hst : S = argsL.reverse ++ .ref a :: rest) (hlen : ∀ sig, parseMethodDescriptor y'.desc = some sig → argsL.length = sig.parameters.length) (hsz : L.size = ml) (hW : (rest.map fun v => v.category).sum = W) (hf : R'.frames + 1 ≤ R.frames) (hl : W + (maxL + 11) + R'.locals ≤ R.locals)
    (hc : cells + R'.cells ≤ R.cells) (hs : slots + R'.slots ≤ R.slots) (hd : decode code pc = .ok (.invokevirtual idx, 3)) (hp : pc + 3 = pc')
    (g : ∀ T', Wk p l e R s m args below meth c Z n0 y code ml ret T' (cells + R'.cells) (slots + R'.slots) h → Goes p e below K T' m pc' L rest) : Goes p e below K T m pc L S := w_private0 X hM E w1 w6 w5 w7 w3 w4 hy hst hlen hsz hW hf hl hc hs hd hp (fun T' h' X' q => by subst q; exact g T' X')
theorem w_initO (X : Wk p l e R s m args below meth c Z n0 y code ml ret T cells slots h) {idx : Nat} {a : Addr} {W : Nat} (w1 : (Jvm.Cond.methodLink y.cls idx Lib.objectInit).before a0 Z = true) (w2 : (Jvm.Cond.instanceMethod Lib.objectInit).before a0 Z = true) (w3 : (Jvm.Cond.code Lib.objectInit ⟨#[0xb1]⟩ 1 none).before a0 Z = true)
    (hsz : L.size = ml) (hW : (S.map fun v => v.category).sum = W) (hf : 1 ≤ R.frames) (hl : W + 12 ≤ R.locals) (hd : decode code pc = .ok (.invokespecial idx, 3)) (hp : pc + 3 = pc')
    (g : ∀ T', Wk p l e R s m args below meth c Z n0 y code ml ret T' cells slots h → Goes p e below K T' m pc' L S) : Goes p e below K T m pc L (.ref a :: S) := by
  obtain ⟨hx, hZ, hby, hml, hown, hnm, hret, hlk, hn, locs, X, eT, N⟩ := X
  subst hp hW
  obtain ⟨T1, X1, e1, st⟩ := initO X hx hZ hown w1 w2 w3 eT (g := mkF m pc L (.ref a :: S)) rfl (by rw [hml]; exact hsz) rfl (hb hby hd) hf (W := (S.map fun v => v.category).sum) (by show 2 * 0 + _ ≤ _; omega) hl
  obtain ⟨u1, a1, b1⟩ := g _ ⟨hx, hZ, hby, hml, hown, hnm, hret, hlk, hn, _, X1, e1, N⟩
  exact ⟨u1, st _ a1, b1⟩
-- fields and objects
theorem w_getF (X : Wk p l e R s m args below meth c Z n0 y code ml ret T cells slots h) {R0 O n d host : String} {idx : Nat} {a : Addr} {v : Value} (w : (Jvm.Cond.fieldLink y.cls idx R0 n d).before a0 Z = true ∨ (Jvm.Cond.fieldLinkNest y.cls idx R0 n d host).before a0 Z = true) (via : Via Z R0 O n d)
    (F : Fld Z h a O n d v) (hd : decode code pc = .ok (.getfield idx, 3)) (hp : pc + 3 = pc') (g : ∀ T', Wk p l e R s m args below meth c Z n0 y code ml ret T' cells slots h → Goes p e below K T' m pc' L (v :: S)) : Goes p e below K T m pc L (.ref a :: S) := by
  obtain ⟨hx, hZ, hby, hml, hown, hnm, hret, hlk, hn, locs, X, eT, N⟩ := X
  subst hp
  obtain ⟨T1, X1, e1, st⟩ := getF X hx hZ hown w via eT F (g := mkF m pc L (.ref a :: S)) rfl rfl (hb hby hd)
  obtain ⟨u1, a1, b1⟩ := g _ ⟨hx, hZ, hby, hml, hown, hnm, hret, hlk, hn, _, X1, e1, N⟩
  exact ⟨u1, st _ a1, b1⟩
theorem w_putF (X : Wk p l e R s m args below meth c Z n0 y code ml ret T cells slots h) {R0 O n d host C : String} {idx kk : Nat} {ty : FieldType} {a : Addr} {v old : Value} (w : (Jvm.Cond.fieldLink y.cls idx R0 n d).before a0 Z = true ∨ (Jvm.Cond.fieldLinkNest y.cls idx R0 n d host).before a0 Z = true) (via : Via Z R0 O n d)
    (F : Fld Z h a O n d old) (E : Exa Z h a C) (Lw : (Jvm.Cond.lays C O n d).before a0 Z = true ∨ ((Jvm.Cond.laysFinal C O n d).before a0 Z = true ∧ y.cls = O ∧ y.name = "<init>")) (wi : (Jvm.Cond.instantiable C kk).before a0 Z = true) (hty : parseFieldDescriptor d = some ty) (hnv : narrow ty v = v) (hfv : fits ty v = true) (ha : n0 ≤ a)
    (hd : decode code pc = .ok (.putfield idx, 3)) (hp : pc + 3 = pc') (g : ∀ T' h', Wk p l e R s m args below meth c Z n0 y code ml ret T' cells slots h' → Wr h h' a (Jvm.RoadKit.slotOf Z O n d) v → Goes p e below K T' m pc' L S) : Goes p e below K T m pc L (v :: .ref a :: S) := by
  obtain ⟨hx, hZ, hby, hml, hown, hnm, hret, hlk, hn, locs, X, eT, N⟩ := X
  subst hp
  obtain ⟨T1, h1, X1, e1, W1, st⟩ := putF X hx hZ hown w via eT F E (Lw.imp id fun q => ⟨q.1, q.2.1, hnm.trans q.2.2⟩) wi hty hnv hfv (g := mkF m pc L (v :: .ref a :: S)) rfl rfl (hb hby hd)
  obtain ⟨u1, a1, b1⟩ := g _ _ ⟨hx, hZ, hby, hml, hown, hnm, hret, hlk, W1.size.symm ▸ hn, _, X1, e1, Fr.snoc X1 N ha⟩ W1
  exact ⟨u1, st _ a1, b1⟩
theorem w_putFN (X : Wk p l e R s m args below meth c Z n0 y code ml ret T cells slots h) {R0 O n d C : String} {idx kk : Nat} {ty : FieldType} {a : Addr} {v v' old : Value} (w : (Jvm.Cond.fieldLink y.cls idx R0 n d).before a0 Z = true) (via : Via Z R0 O n d)
    (F : Fld Z h a O n d old) (E : Exa Z h a C) (Lw : (Jvm.Cond.lays C O n d).before a0 Z = true ∨ ((Jvm.Cond.laysFinal C O n d).before a0 Z = true ∧ y.cls = O ∧ y.name = "<init>")) (wi : (Jvm.Cond.instantiable C kk).before a0 Z = true) (hty : parseFieldDescriptor d = some ty) (hnv : narrow ty v = v') (hfv : fits ty v' = true) (ha : n0 ≤ a)
    (hd : decode code pc = .ok (.putfield idx, 3)) (hp : pc + 3 = pc') (g : ∀ T' h', Wk p l e R s m args below meth c Z n0 y code ml ret T' cells slots h' → Wr h h' a (Jvm.RoadKit.slotOf Z O n d) v' → Goes p e below K T' m pc' L S) : Goes p e below K T m pc L (v :: .ref a :: S) := by
  obtain ⟨hx, hZ, hby, hml, hown, hnm, hret, hlk, hn, locs, X, eT, N⟩ := X
  subst hp
  obtain ⟨T1, h1, X1, e1, W1, st⟩ := putFN X hx hZ hown w via eT F E (Lw.imp id fun q => ⟨q.1, q.2.1, hnm.trans q.2.2⟩) wi hty hnv hfv (g := mkF m pc L (v :: .ref a :: S)) rfl rfl (hb hby hd)
  obtain ⟨u1, a1, b1⟩ := g _ _ ⟨hx, hZ, hby, hml, hown, hnm, hret, hlk, W1.size.symm ▸ hn, _, X1, e1, Fr.snoc X1 N ha⟩ W1
  exact ⟨u1, st _ a1, b1⟩
theorem w_new (X : Wk p l e R s m args below meth c Z n0 y code ml ret T cells slots h) {C : String} {idx n : Nat} (w : (Jvm.Cond.classLink y.cls idx C).before a0 Z = true) (wi : (Jvm.Cond.instantiable C n).before a0 Z = true) (wz : (Jvm.Cond.initialized C).before a0 Z = true) (hc : cells + 1 ≤ R.cells) (hl : slots + n ≤ R.slots) (hd : decode code pc = .ok (.new idx, 3)) (hp : pc + 3 = pc')
    (g : ∀ T' h' a, Wk p l e R s m args below meth c Z n0 y code ml ret T' (cells + 1) (slots + n) h' → a = h.size → n0 ≤ a → Ext h h' → Exa Z h' a C → (∀ {O nm d : String} {ty : FieldType}, Laid Z a0 C O nm d → parseFieldDescriptor d = some ty → Fld Z h' a O nm d (defaultValue ty)) → Goes p e below K T' m pc' L (.ref a :: S)) : Goes p e below K T m pc L S := by
  obtain ⟨hx, hZ, hby, hml, hown, hnm, hret, hlk, hn, locs, X, eT, N⟩ := X
  subst hp
  obtain ⟨T1, h1, X1, e1, E1, A1, D1, -, st⟩ := newO X hx hZ hown w wi wz eT (g := mkF m pc L S) rfl (hb hby hd) hc hl
  obtain ⟨u1, a1, b1⟩ := g _ _ _ ⟨hx, hZ, hby, hml, hown, hnm, hret, hlk, Nat.le_trans hn E1.1, _, X1, e1, N⟩ rfl hn E1 A1 D1
  exact ⟨u1, st _ a1, b1⟩
-- arrays
/-- the array at a holds vs -/
def AV (Z : State) (h : Heap) (a : Addr) (ty : FieldType) (vs : List Value) : Prop := ∃ c : Cell, Arr Z h a c ty ∧ c.slots.toList = vs ∧ vs.length < 2 ^ 31
theorem AV.lt {a : Addr} {ty : FieldType} {vs : List Value} (A : AV Z h a ty vs) : a < h.size := by obtain ⟨c, A, -⟩ := A; exact A.lt
theorem AV.ext {a : Addr} {ty : FieldType} {vs : List Value} {h' : Heap} (A : AV Z h a ty vs) (E : Ext h h') : AV Z h' a ty vs := by obtain ⟨c, A, r⟩ := A; exact ⟨c, A.ext E, r⟩
theorem AV.other {a b : Addr} {ty : FieldType} {vs : List Value} {h' : Heap} {sl : Nat} {v : Value} (A : AV Z h b ty vs) (W : Wr h h' a sl v) (q : b ≠ a) : AV Z h' b ty vs := by obtain ⟨c, A, r⟩ := A; exact ⟨c, A.other W q, r⟩
theorem AV.keep {a : Addr} {ty : FieldType} {vs : List Value} {h' : Heap} {ws : List Addr} (A : AV Z h a ty vs) (Kp : Keep h h' ws) (q : a ∉ ws) : AV Z h' a ty vs := by obtain ⟨c, A, r⟩ := A; exact ⟨c, ⟨Kp.2.1 _ _ A.1 q, A.2⟩, r⟩
theorem AV.set {a : Addr} {ty : FieldType} {vs : List Value} {h' : Heap} {i : Nat} {v : Value} (A : AV Z h a ty vs) (W : Wr h h' a i v) : AV Z h' a ty (vs.set i v) := by
  obtain ⟨c, A, r1, r2⟩ := A
  refine ⟨_, A.same W, ?_, by simpa using r2⟩
  subst r1
  simp [Cell.setSlot]
theorem AV.ne_exa {a b : Addr} {ty : FieldType} {vs : List Value} {C : String} {k : Nat} (A : AV Z h a ty vs) (E : Exa Z h b C) (wi : (Jvm.Cond.instantiable C k).before a0 Z = true) : b ≠ a := by obtain ⟨c, A, -⟩ := A; exact ne_arr E wi A
theorem AV.len {a : Addr} {ty : FieldType} {vs : List Value} (A : AV Z h a ty vs) : vs.length < 2 ^ 31 := by obtain ⟨c, -, -, r⟩ := A; exact r
theorem av_in {c : Cell} {vs : List Value} (r : c.slots.toList = vs) {j : Int32} {i : Nat} (h0 : ¬ j < 0) (hi : j.toNatClampNeg = i) (hlt : i < vs.length) : ¬ (j < 0 ∨ c.slots.size ≤ j.toNatClampNeg) := by
  subst r hi
  rintro (q | q)
  · exact h0 q
  · simp at hlt; omega
theorem av_at {c : Cell} {vs : List Value} (r : c.slots.toList = vs) {i : Nat} {v : Value} (hv : vs[i]? = some v) : c.slots[i]? = some v := by
  subst r
  simpa using hv
theorem w_newP (X : Wk p l e R s m args below meth c Z n0 y code ml ret T cells slots h) {aty : ArrayType} {n : Int32} {k : Nat} (w : (Jvm.Cond.arrayClass (newarray.typeOf aty)).before a0 Z = true) (hn : ¬ n < 0) (hk : n.toNatClampNeg = k) {cap : Nat} (hcap : k ≤ cap) (hb0 : cap * 8 ≤ 536870912) (hc : cells + 1 ≤ R.cells) (hl : slots + cap ≤ R.slots) (hd : decode code pc = .ok (.newarray aty, 2)) (hp : pc + 2 = pc')
    (g : ∀ T' h' a, Wk p l e R s m args below meth c Z n0 y code ml ret T' (cells + 1) (slots + cap) h' → a = h.size → n0 ≤ a → Ext h h' → AV Z h' a (newarray.typeOf aty) (List.replicate k (defaultValue (newarray.typeOf aty))) → Goes p e below K T' m pc' L (.ref a :: S)) : Goes p e below K T m pc L (.int n :: S) := by
  obtain ⟨hx, hZ, hby, hml, hown, hnm, hret, hlk, hn', locs, X, eT, N⟩ := X
  subst hp hk
  obtain ⟨T1, h1, cA, X1, e1, E1, A1, st⟩ := newP X hx hZ w eT (g := mkF m pc L (.int n :: S)) rfl (hb hby hd) rfl hn hcap hb0 hc hl
  obtain ⟨u1, a1, b1⟩ := g _ _ _ ⟨hx, hZ, hby, hml, hown, hnm, hret, hlk, Nat.le_trans hn' E1.1, _, X1, e1, N⟩ rfl hn' E1 ⟨_, A1, (by simp [newA]), (by simp only [List.length_replicate]; exact (back32 hn).2)⟩
  exact ⟨u1, st _ a1, b1⟩
theorem w_iaload (X : Wk p l e R s m args below meth c Z n0 y code ml ret T cells slots h) {a : Addr} {vs : List Value} {j : Int32} {i : Nat} {v : Value} (A : AV Z h a .int vs) (h0 : ¬ j < 0) (hi : j.toNatClampNeg = i) (hv : vs[i]? = some v) (hd : decode code pc = .ok (.iaload, 1)) (hp : pc + 1 = pc') (g : Goes p e below K T m pc' L (v :: S)) : Goes p e below K T m pc L (.int j :: .ref a :: S) := by
  obtain ⟨hx, hZ, hby, hml, hown, hnm, hret, hlk, hn, locs, X, eT, N⟩ := X
  obtain ⟨cl, A, r, -⟩ := A
  subst hp
  obtain ⟨u1, a1, b1⟩ := g
  exact ⟨u1, X.iaload hx (by rw [eT]; exact A.1) (State.isArrayOf_alike hZ.alike A.2.1) A.2.2 (av_in r h0 hi (List.getElem?_eq_some_iff.mp hv).1) (by rw [hi]; exact av_at r hv) (g := mkF m pc L (.int j :: .ref a :: S)) rfl rfl (hb hby hd) _ a1, b1⟩
theorem w_laload (X : Wk p l e R s m args below meth c Z n0 y code ml ret T cells slots h) {a : Addr} {vs : List Value} {j : Int32} {i : Nat} {v : Value} (A : AV Z h a .long vs) (h0 : ¬ j < 0) (hi : j.toNatClampNeg = i) (hv : vs[i]? = some v) (hd : decode code pc = .ok (.laload, 1)) (hp : pc + 1 = pc') (g : Goes p e below K T m pc' L (v :: S)) : Goes p e below K T m pc L (.int j :: .ref a :: S) := by
  obtain ⟨hx, hZ, hby, hml, hown, hnm, hret, hlk, hn, locs, X, eT, N⟩ := X
  obtain ⟨cl, A, r, -⟩ := A
  subst hp
  obtain ⟨u1, a1, b1⟩ := g
  exact ⟨u1, X.laload hx (by rw [eT]; exact A.1) (State.isArrayOf_alike hZ.alike A.2.1) A.2.2 (av_in r h0 hi (List.getElem?_eq_some_iff.mp hv).1) (by rw [hi]; exact av_at r hv) (g := mkF m pc L (.int j :: .ref a :: S)) rfl rfl (hb hby hd) _ a1, b1⟩
theorem w_caload (X : Wk p l e R s m args below meth c Z n0 y code ml ret T cells slots h) {a : Addr} {vs : List Value} {j : Int32} {i : Nat} {v : Value} (A : AV Z h a .char vs) (h0 : ¬ j < 0) (hi : j.toNatClampNeg = i) (hv : vs[i]? = some v) (hd : decode code pc = .ok (.caload, 1)) (hp : pc + 1 = pc') (g : Goes p e below K T m pc' L (v :: S)) : Goes p e below K T m pc L (.int j :: .ref a :: S) := by
  obtain ⟨hx, hZ, hby, hml, hown, hnm, hret, hlk, hn, locs, X, eT, N⟩ := X
  obtain ⟨cl, A, r, -⟩ := A
  subst hp
  obtain ⟨u1, a1, b1⟩ := g
  exact ⟨u1, X.caload hx (by rw [eT]; exact A.1) (State.isArrayOf_alike hZ.alike A.2.1) A.2.2 (av_in r h0 hi (List.getElem?_eq_some_iff.mp hv).1) (by rw [hi]; exact av_at r hv) (g := mkF m pc L (.int j :: .ref a :: S)) rfl rfl (hb hby hd) _ a1, b1⟩
theorem w_baloadB (X : Wk p l e R s m args below meth c Z n0 y code ml ret T cells slots h) {a : Addr} {vs : List Value} {j : Int32} {i : Nat} {v : Value} (A : AV Z h a .byte vs) (h0 : ¬ j < 0) (hi : j.toNatClampNeg = i) (hv : vs[i]? = some v) (hd : decode code pc = .ok (.baload, 1)) (hp : pc + 1 = pc') (g : Goes p e below K T m pc' L (v :: S)) : Goes p e below K T m pc L (.int j :: .ref a :: S) := by
  obtain ⟨hx, hZ, hby, hml, hown, hnm, hret, hlk, hn, locs, X, eT, N⟩ := X
  obtain ⟨cl, A, r, -⟩ := A
  subst hp
  obtain ⟨u1, a1, b1⟩ := g
  exact ⟨u1, X.baloadBytes hx (by rw [eT]; exact A.1) (State.isArrayOf_alike hZ.alike A.2.1) A.2.2 (av_in r h0 hi (List.getElem?_eq_some_iff.mp hv).1) (by rw [hi]; exact av_at r hv) (g := mkF m pc L (.int j :: .ref a :: S)) rfl rfl (hb hby hd) _ a1, b1⟩
theorem w_baloadZ (X : Wk p l e R s m args below meth c Z n0 y code ml ret T cells slots h) {a : Addr} {vs : List Value} {j : Int32} {i : Nat} {v : Value} (A : AV Z h a .boolean vs) (h0 : ¬ j < 0) (hi : j.toNatClampNeg = i) (hv : vs[i]? = some v) (hd : decode code pc = .ok (.baload, 1)) (hp : pc + 1 = pc') (g : Goes p e below K T m pc' L (v :: S)) : Goes p e below K T m pc L (.int j :: .ref a :: S) := by
  obtain ⟨hx, hZ, hby, hml, hown, hnm, hret, hlk, hn, locs, X, eT, N⟩ := X
  obtain ⟨cl, A, r, -⟩ := A
  subst hp
  obtain ⟨u1, a1, b1⟩ := g
  exact ⟨u1, X.baloadBooleans hx (by rw [eT]; exact A.1) (State.isArrayOf_alike hZ.alike A.2.1) A.2.2 (av_in r h0 hi (List.getElem?_eq_some_iff.mp hv).1) (by rw [hi]; exact av_at r hv) (g := mkF m pc L (.int j :: .ref a :: S)) rfl rfl (hb hby hd) _ a1, b1⟩
theorem w_arraylength (X : Wk p l e R s m args below meth c Z n0 y code ml ret T cells slots h) {a : Addr} {ty : FieldType} {vs : List Value} {n : Int32} (A : AV Z h a ty vs) (hn : vs.length.toInt32 = n) (hd : decode code pc = .ok (.arraylength, 1)) (hp : pc + 1 = pc') (g : Goes p e below K T m pc' L (.int n :: S)) : Goes p e below K T m pc L (.ref a :: S) := by
  obtain ⟨hx, hZ, hby, hml, hown, hnm, hret, hlk, hn', locs, X, eT, N⟩ := X
  obtain ⟨cl, A, r, -⟩ := A
  have q : cl.slots.size.toInt32 = n := by rw [← hn, ← r]; simp
  subst hp q
  obtain ⟨u1, a1, b1⟩ := g
  exact ⟨u1, X.arraylength hx (by rw [eT]; exact A.1) (State.isArrayOf_alike hZ.alike A.2.1) (g := mkF m pc L (.ref a :: S)) rfl rfl (hb hby hd) _ a1, b1⟩
theorem w_iastore (X : Wk p l e R s m args below meth c Z n0 y code ml ret T cells slots h) {a : Addr} {vs : List Value} {j : Int32} {i : Nat} {x : Int32} (A : AV Z h a .int vs) (h0 : ¬ j < 0) (hi : j.toNatClampNeg = i) (hlt : i < vs.length) (ha : n0 ≤ a) (hd : decode code pc = .ok (.iastore, 1)) (hp : pc + 1 = pc') (g : ∀ T' h', Wk p l e R s m args below meth c Z n0 y code ml ret T' cells slots h' → Wr h h' a i (.int x) → AV Z h' a .int (vs.set i (.int x)) → Goes p e below K T' m pc' L S) : Goes p e below K T m pc L (.int x :: .int j :: .ref a :: S) := by
  obtain ⟨hx, hZ, hby, hml, hown, hnm, hret, hlk, hn, locs, X, eT, N⟩ := X
  have A0 := A
  obtain ⟨cl, A, r, -⟩ := A
  subst hp hi
  obtain ⟨T1, h1, X1, e1, W1, st⟩ := stI X hx hZ eT A (j := j) (av_in r h0 rfl hlt) (g := mkF m pc L (.int x :: .int j :: .ref a :: S)) rfl rfl (hb hby hd)
  obtain ⟨u1, a1, b1⟩ := g _ _ ⟨hx, hZ, hby, hml, hown, hnm, hret, hlk, W1.size.symm ▸ hn, _, X1, e1, Fr.snoc X1 N ha⟩ W1 (A0.set W1)
  exact ⟨u1, st _ a1, b1⟩
theorem w_lastore (X : Wk p l e R s m args below meth c Z n0 y code ml ret T cells slots h) {a : Addr} {vs : List Value} {j : Int32} {i : Nat} {x : Int64} (A : AV Z h a .long vs) (h0 : ¬ j < 0) (hi : j.toNatClampNeg = i) (hlt : i < vs.length) (ha : n0 ≤ a) (hd : decode code pc = .ok (.lastore, 1)) (hp : pc + 1 = pc') (g : ∀ T' h', Wk p l e R s m args below meth c Z n0 y code ml ret T' cells slots h' → Wr h h' a i (.long x) → AV Z h' a .long (vs.set i (.long x)) → Goes p e below K T' m pc' L S) : Goes p e below K T m pc L (.long x :: .int j :: .ref a :: S) := by
  obtain ⟨hx, hZ, hby, hml, hown, hnm, hret, hlk, hn, locs, X, eT, N⟩ := X
  have A0 := A
  obtain ⟨cl, A, r, -⟩ := A
  subst hp hi
  obtain ⟨T1, h1, X1, e1, W1, st⟩ := stJ X hx hZ eT A (j := j) (av_in r h0 rfl hlt) (g := mkF m pc L (.long x :: .int j :: .ref a :: S)) rfl rfl (hb hby hd)
  obtain ⟨u1, a1, b1⟩ := g _ _ ⟨hx, hZ, hby, hml, hown, hnm, hret, hlk, W1.size.symm ▸ hn, _, X1, e1, Fr.snoc X1 N ha⟩ W1 (A0.set W1)
  exact ⟨u1, st _ a1, b1⟩
theorem w_castore (X : Wk p l e R s m args below meth c Z n0 y code ml ret T cells slots h) {a : Addr} {vs : List Value} {j : Int32} {i : Nat} {x : Int32} (A : AV Z h a .char vs) (h0 : ¬ j < 0) (hi : j.toNatClampNeg = i) (hlt : i < vs.length) (ha : n0 ≤ a) (hd : decode code pc = .ok (.castore, 1)) (hp : pc + 1 = pc') (g : ∀ T' h', Wk p l e R s m args below meth c Z n0 y code ml ret T' cells slots h' → Wr h h' a i (.int (nar .char x)) → AV Z h' a .char (vs.set i (.int (nar .char x))) → Goes p e below K T' m pc' L S) : Goes p e below K T m pc L (.int x :: .int j :: .ref a :: S) := by
  obtain ⟨hx, hZ, hby, hml, hown, hnm, hret, hlk, hn, locs, X, eT, N⟩ := X
  have A0 := A
  obtain ⟨cl, A, r, -⟩ := A
  subst hp hi
  obtain ⟨T1, h1, X1, e1, W1, st⟩ := stC X hx hZ eT A (j := j) (av_in r h0 rfl hlt) (g := mkF m pc L (.int x :: .int j :: .ref a :: S)) rfl rfl (hb hby hd)
  obtain ⟨u1, a1, b1⟩ := g _ _ ⟨hx, hZ, hby, hml, hown, hnm, hret, hlk, W1.size.symm ▸ hn, _, X1, e1, Fr.snoc X1 N ha⟩ W1 (A0.set W1)
  exact ⟨u1, st _ a1, b1⟩
theorem w_bastoreB (X : Wk p l e R s m args below meth c Z n0 y code ml ret T cells slots h) {a : Addr} {vs : List Value} {j : Int32} {i : Nat} {x : Int32} (A : AV Z h a .byte vs) (h0 : ¬ j < 0) (hi : j.toNatClampNeg = i) (hlt : i < vs.length) (ha : n0 ≤ a) (hd : decode code pc = .ok (.bastore, 1)) (hp : pc + 1 = pc') (g : ∀ T' h', Wk p l e R s m args below meth c Z n0 y code ml ret T' cells slots h' → Wr h h' a i (.int (nar .byte x)) → AV Z h' a .byte (vs.set i (.int (nar .byte x))) → Goes p e below K T' m pc' L S) : Goes p e below K T m pc L (.int x :: .int j :: .ref a :: S) := by
  obtain ⟨hx, hZ, hby, hml, hown, hnm, hret, hlk, hn, locs, X, eT, N⟩ := X
  have A0 := A
  obtain ⟨cl, A, r, -⟩ := A
  subst hp hi
  obtain ⟨T1, h1, X1, e1, W1, st⟩ := stB X hx hZ eT A (j := j) (av_in r h0 rfl hlt) (g := mkF m pc L (.int x :: .int j :: .ref a :: S)) rfl rfl (hb hby hd)
  obtain ⟨u1, a1, b1⟩ := g _ _ ⟨hx, hZ, hby, hml, hown, hnm, hret, hlk, W1.size.symm ▸ hn, _, X1, e1, Fr.snoc X1 N ha⟩ W1 (A0.set W1)
  exact ⟨u1, st _ a1, b1⟩
theorem w_bastoreZ (X : Wk p l e R s m args below meth c Z n0 y code ml ret T cells slots h) {a : Addr} {vs : List Value} {j : Int32} {i : Nat} {x : Int32} (A : AV Z h a .boolean vs) (h0 : ¬ j < 0) (hi : j.toNatClampNeg = i) (hlt : i < vs.length) (ha : n0 ≤ a) (hd : decode code pc = .ok (.bastore, 1)) (hp : pc + 1 = pc') (g : ∀ T' h', Wk p l e R s m args below meth c Z n0 y code ml ret T' cells slots h' → Wr h h' a i (.int (nar .boolean x)) → AV Z h' a .boolean (vs.set i (.int (nar .boolean x))) → Goes p e below K T' m pc' L S) : Goes p e below K T m pc L (.int x :: .int j :: .ref a :: S) := by
  obtain ⟨hx, hZ, hby, hml, hown, hnm, hret, hlk, hn, locs, X, eT, N⟩ := X
  have A0 := A
  obtain ⟨cl, A, r, -⟩ := A
  subst hp hi
  obtain ⟨T1, h1, X1, e1, W1, st⟩ := stZ X hx hZ eT A (j := j) (av_in r h0 rfl hlt) (g := mkF m pc L (.int x :: .int j :: .ref a :: S)) rfl rfl (hb hby hd)
  obtain ⟨u1, a1, b1⟩ := g _ _ ⟨hx, hZ, hby, hml, hown, hnm, hret, hlk, W1.size.symm ▸ hn, _, X1, e1, Fr.snoc X1 N ha⟩ W1 (A0.set W1)
  exact ⟨u1, st _ a1, b1⟩
theorem getI {xs : List Int32} {i : Nat} (q : i < xs.length) : (xs.map Value.int)[i]? = some (.int (xs.getD i 0)) := by
  simp [List.getD_eq_getElem?_getD, List.getElem?_eq_getElem q]
theorem getL {xs : List Int64} {i : Nat} (q : i < xs.length) : (xs.map Value.long)[i]? = some (.long (xs.getD i 0)) := by
  simp [List.getD_eq_getElem?_getD, List.getElem?_eq_getElem q]
/-- a new name for a value -/
theorem nameI {K' : Prop} (v : Int32) (g : ∀ z, z = v → K') : K' := g v rfl
theorem nameL {K' : Prop} (v : Int64) (g : ∀ z, z = v → K') : K' := g v rfl
end Rules
end Jvm.Own
namespace Jvm.Pilot.@@N@@
open Jvm Jvm.ClassFile Sem Op Lib Jvm.Free Jvm.Stand Jvm.LawKit Jvm.RoadKit Bundle Jvm.Own Jvm.Pilot.@@N@@.Jvm.D
def four : List Int32 := [0, 1, 2, 3]
def five : List Int32 := [0, 1, 2, 3, 4]
def S4 : List (List Int32) := four.flatMap fun a => four.flatMap fun b => four.flatMap fun c => four.map fun d => [a, b, c, d]
def g4 (xs : List Int32) (x : Int32) : Int32 := xs.getD x.toNatClampNeg 0
def okb (hs : List Int32) (c : Int32) : Bool := match hs with
  | [a, b, d, e] => (decide (c < 2) || decide (a ≠ b)) && (decide (c < 3) || (decide (a ≠ d) && decide (b ≠ d))) && (decide (c < 4) || (decide (a ≠ e) && decide (b ≠ e) && decide (d ≠ e)))
  | _ => false
def pl1 (hs : List Int32) (c x : Int32) : Int32 := match hs with
  | [a, b, d, e] => if 0 < c ∧ a = x then 0 else if 1 < c ∧ b = x then 1 else if 2 < c ∧ d = x then 2 else if 3 < c ∧ e = x then 3 else -1
  | _ => -1
def plc (hs : List Int32) (c : Int32) : List Int32 := [pl1 hs c 0, pl1 hs c 1, pl1 hs c 2, pl1 hs c 3]
def b1 (x : Int32) : Int32 := if x < 0 then 0 else 1
def mm (hs : List Int32) (c : Int32) : List Int32 := [b1 (pl1 hs c 0), b1 (pl1 hs c 1), b1 (pl1 hs c 2), b1 (pl1 hs c 3)]
def prs : List (Int32 × Int32) := [(1, 0), (2, 0), (3, 1), (0, 1), (0, 2), (1, 3)]
theorem D0 : ∀ x ∈ four, ¬ x < 0 ∧ x.toNatClampNeg < 4 ∧ 0 ≤ x.toInt ∧ x.toInt < 4 := by decide +kernel
theorem DN4 : ∀ x ∈ four, ∀ y ∈ four, x ≠ y → x.toNatClampNeg ≠ y.toNatClampNeg := by decide +kernel
theorem DLen : ∀ hs ∈ S4, hs.length = 4 ∧ ∀ x ∈ four, hs.getD x.toNatClampNeg 0 ∈ four := by decide +kernel
theorem DSet : ∀ hs ∈ S4, ∀ i ∈ four, ∀ x ∈ four, hs.set i.toNatClampNeg x ∈ S4 := by decide +kernel
theorem DPar : ∀ p ∈ four, ¬ 0 < p ∨ (((p - (1 : Int32)) / (2 : Int32)) ∈ four ∧ (p, ((p - (1 : Int32)) / (2 : Int32))) ∈ prs ∧ ((p - (1 : Int32)) / (2 : Int32)) < p) := by decide +kernel
theorem DChi : ∀ c ∈ five, ∀ p ∈ four, (((2 : Int32) * p) + (1 : Int32)) < c → (((2 : Int32) * p) + (1 : Int32)) ∈ four ∧ (p, (((2 : Int32) * p) + (1 : Int32))) ∈ prs ∧ p < (((2 : Int32) * p) + (1 : Int32)) := by decide +kernel
theorem DChj : ∀ c ∈ five, ∀ p ∈ four, ((((2 : Int32) * p) + (1 : Int32)) + (1 : Int32)) < c → ((((2 : Int32) * p) + (1 : Int32)) + (1 : Int32)) ∈ four ∧ (p, ((((2 : Int32) * p) + (1 : Int32)) + (1 : Int32))) ∈ prs ∧ p < ((((2 : Int32) * p) + (1 : Int32)) + (1 : Int32)) := by decide +kernel
theorem DPrs : ∀ q ∈ prs, q.1 ∈ four ∧ q.2 ∈ four ∧ q.1 ≠ q.2 := by decide +kernel
theorem DPl : ∀ hs ∈ S4, ∀ c ∈ five, okb hs c = true → ∀ x ∈ four, ¬ (plc hs c).getD x.toNatClampNeg 0 < 0 → (plc hs c).getD x.toNatClampNeg 0 ∈ four ∧ (plc hs c).getD x.toNatClampNeg 0 < c ∧ hs.set ((plc hs c).getD x.toNatClampNeg 0).toNatClampNeg x = hs ∧ (plc hs c).set x.toNatClampNeg ((plc hs c).getD x.toNatClampNeg 0) = plc hs c := by decide +kernel
theorem DSw : ∀ hs ∈ S4, ∀ c ∈ five, okb hs c = true → ∀ q ∈ prs, q.1 < c → q.2 < c → g4 hs q.1 ≠ g4 hs q.2 ∧ okb ((hs.set q.1.toNatClampNeg (g4 hs q.2)).set q.2.toNatClampNeg (g4 hs q.1)) c = true ∧ plc ((hs.set q.1.toNatClampNeg (g4 hs q.2)).set q.2.toNatClampNeg (g4 hs q.1)) c = ((plc hs c).set (g4 hs q.2).toNatClampNeg q.1).set (g4 hs q.1).toNatClampNeg q.2 ∧ mm ((hs.set q.1.toNatClampNeg (g4 hs q.2)).set q.2.toNatClampNeg (g4 hs q.1)) c = mm hs c := by decide +kernel
theorem DIn : ∀ hs ∈ S4, ∀ c ∈ five, okb hs c = true → ∀ x ∈ four, (plc hs c).getD x.toNatClampNeg 0 < 0 → c ∈ four ∧ (c + (1 : Int32)) ∈ five ∧ okb (hs.set c.toNatClampNeg x) (c + (1 : Int32)) = true ∧ (plc hs c).set x.toNatClampNeg c = plc (hs.set c.toNatClampNeg x) (c + (1 : Int32)) ∧ mm (hs.set c.toNatClampNeg x) (c + (1 : Int32)) = (mm hs c).set x.toNatClampNeg 1 ∧ ¬ (plc (hs.set c.toNatClampNeg x) (c + (1 : Int32))).getD x.toNatClampNeg 0 < 0 := by decide +kernel
theorem DMx : ∀ hs ∈ S4, ∀ c ∈ five, ∀ x ∈ four, ((plc hs c).getD x.toNatClampNeg 0 < 0 → (mm hs c).getD x.toNatClampNeg 0 = 0 ∧ (mm hs c).set x.toNatClampNeg 0 = mm hs c) ∧ (¬ (plc hs c).getD x.toNatClampNeg 0 < 0 → (mm hs c).getD x.toNatClampNeg 0 = 1 ∧ (mm hs c).set x.toNatClampNeg 1 = mm hs c) := by decide +kernel
theorem DRm : ∀ hs ∈ S4, ∀ c ∈ five, okb hs c = true → ∀ x ∈ four, ¬ (plc hs c).getD x.toNatClampNeg 0 < 0 → (c - (1 : Int32)) ∈ four ∧ (c - (1 : Int32)) ∈ five ∧ g4 hs (c - (1 : Int32)) ∈ four ∧
    (g4 hs (c - (1 : Int32)) = x → okb hs (c - (1 : Int32)) = true ∧ (plc hs c).set x.toNatClampNeg (-1 : Int32) = plc hs (c - (1 : Int32)) ∧ mm hs (c - (1 : Int32)) = (mm hs c).set x.toNatClampNeg 0) ∧
    (¬ g4 hs (c - (1 : Int32)) = x → okb (hs.set ((plc hs c).getD x.toNatClampNeg 0).toNatClampNeg (g4 hs (c - (1 : Int32)))) (c - (1 : Int32)) = true ∧ ((plc hs c).set x.toNatClampNeg (-1 : Int32)).set (g4 hs (c - (1 : Int32))).toNatClampNeg ((plc hs c).getD x.toNatClampNeg 0) = plc (hs.set ((plc hs c).getD x.toNatClampNeg 0).toNatClampNeg (g4 hs (c - (1 : Int32)))) (c - (1 : Int32)) ∧ mm (hs.set ((plc hs c).getD x.toNatClampNeg 0).toNatClampNeg (g4 hs (c - (1 : Int32)))) (c - (1 : Int32)) = (mm hs c).set x.toNatClampNeg 0 ∧ ¬ (plc (hs.set ((plc hs c).getD x.toNatClampNeg 0).toNatClampNeg (g4 hs (c - (1 : Int32)))) (c - (1 : Int32))).getD (g4 hs (c - (1 : Int32))).toNatClampNeg 0 < 0) := by decide +kernel
theorem DCn : ∀ hs ∈ S4, ∀ c ∈ five, okb hs c = true → c = g4 (mm hs c) 0 + g4 (mm hs c) 1 + g4 (mm hs c) 2 + g4 (mm hs c) 3 := by decide +kernel
theorem own_fin (z : Int32) (n : Nat) (h0 : 0 ≤ z.toInt) (h1 : z.toInt < n) : ∃ k : Fin n, z = Int32.ofNat k.val := by
  refine ⟨⟨z.toInt.toNat, by omega⟩, ?_⟩
  apply Int32.toInt_inj.mp
  have := z.toInt_lt
  rw [Int32.toInt_ofNat_of_lt (by show z.toInt.toNat < 2 ^ 31; omega)]
  show z.toInt = ((z.toInt.toNat : Nat) : Int)
  omega
theorem own_four (x : Int32) : x &&& (3 : Int32) ∈ four := by
  obtain ⟨q1, q2⟩ := c_and x 3 (by decide)
  have e : (3 : Int32).toInt = 3 := by decide
  obtain ⟨k, hk⟩ := own_fin (x &&& 3) 4 q1 (by omega)
  rw [hk]; clear hk q1 q2; revert k; decide
theorem set_vir (H : List Int32) (i j : Nat) (x y : Int32) : ((H.set i x).set i y).set j x = (H.set i y).set j x := by rw [List.set_set]
theorem set_virP (P : List Int32) (a b : Nat) (h : a ≠ b) (u v : Int32) : ((P.set a u).set b u).set a v = (P.set b u).set a v := by
  rw [List.set_comm _ _ h, List.set_set]
theorem get_set (H : List Int32) (i : Nat) (x : Int32) (h : i < H.length) : (H.set i x).getD i 0 = x := by
  rw [List.getD_eq_getElem?_getD, List.getElem?_set_self h]; rfl
theorem get_set_ne (H : List Int32) (i j : Nat) (x : Int32) (h : i ≠ j) : (H.set i x).getD j 0 = H.getD j 0 := by
  rw [List.getD_eq_getElem?_getD, List.getElem?_set_ne h, ← List.getD_eq_getElem?_getD]
def mv (hs : List Int32) (p q x : Int32) : List Int32 := (hs.set p.toNatClampNeg (g4 hs q)).set q.toNatClampNeg x
theorem DMem : ∀ hs ∈ S4, ∀ c ∈ five, okb hs c = true → ∀ i ∈ four, i < c → g4 (mm hs c) (g4 hs i) = 1 := by decide +kernel
/-- one move of the place p to q: what stands for the whole -/
theorem own_mv (hs H P : List Int32) (c p q x : Int32) (hs4 : hs ∈ S4) (hc : c ∈ five) (ho : okb hs c = true) (hpq : (p, q) ∈ prs) (hp : p < c) (hq : q < c) (v1 : H.set p.toNatClampNeg x = hs) (v2 : P.set x.toNatClampNeg p = plc hs c) (hl : H.length = 4) (hx : x ∈ four) :
    mv hs p q x ∈ S4 ∧ okb (mv hs p q x) c = true ∧ mm (mv hs p q x) c = mm hs c ∧ (H.set p.toNatClampNeg (H.getD q.toNatClampNeg 0)).set q.toNatClampNeg x = mv hs p q x ∧ (P.set (H.getD q.toNatClampNeg 0).toNatClampNeg p).set x.toNatClampNeg q = plc (mv hs p q x) c ∧ H.getD q.toNatClampNeg 0 ∈ four ∧ H.getD q.toNatClampNeg 0 = g4 hs q ∧ g4 (mm hs c) (g4 hs q) = 1 := by
  obtain ⟨p4, q4, pq⟩ := DPrs _ hpq
  have nn := DN4 _ p4 _ q4 pq
  have gp : g4 hs p = x := by rw [← v1]; exact get_set H _ x (by rw [hl]; exact (D0 _ p4).2.1)
  have gq : g4 hs q = H.getD q.toNatClampNeg 0 := by rw [← v1]; exact get_set_ne H _ _ x nn
  obtain ⟨n1, n2, n3, n4⟩ := DSw hs hs4 c hc ho (p, q) hpq hp hq
  dsimp only at n1 n2 n3 n4
  have y4 : g4 hs q ∈ four := (DLen hs hs4).2 q q4
  have m1 : hs.set p.toNatClampNeg (g4 hs q) ∈ S4 := DSet hs hs4 p p4 _ y4
  have m2 : (hs.set p.toNatClampNeg (g4 hs q)).set q.toNatClampNeg (g4 hs p) ∈ S4 := DSet _ m1 q q4 _ (by rw [gp]; exact hx)
  have nxy : x.toNatClampNeg ≠ (g4 hs q).toNatClampNeg := DN4 _ hx _ y4 (by rw [← gp]; exact n1)
  rw [gp] at m2 n2 n3 n4
  refine ⟨m2, n2, n4, ?_, ?_, by rw [← gq]; exact y4, gq.symm, DMem hs hs4 c hc ho q q4 hq⟩
  · rw [← gq, mv, ← set_vir H p.toNatClampNeg q.toNatClampNeg x (g4 hs q), v1]
  · rw [← gq, mv, n3, ← v2, set_virP _ _ _ nxy]
def up (bf : Int32 → Int32 → Int32) : Nat → List Int32 → Int32 → Int32 → List Int32
  | 0, hs, _, _ => hs
  | k + 1, hs, pl, x => if 0 < pl then (if bf x (g4 hs ((pl - (1 : Int32)) / (2 : Int32))) = 0 then hs else up bf k (mv hs pl ((pl - (1 : Int32)) / (2 : Int32)) x) ((pl - (1 : Int32)) / (2 : Int32)) x) else hs
def dn (bf : Int32 → Int32 → Int32) (c : Int32) : Nat → List Int32 → Int32 → Int32 → List Int32
  | 0, hs, _, _ => hs
  | k + 1, hs, pl, x => if (((2 : Int32) * pl) + (1 : Int32)) < c then (if ((((2 : Int32) * pl) + (1 : Int32)) + (1 : Int32)) < c then (if bf (g4 hs ((((2 : Int32) * pl) + (1 : Int32)) + (1 : Int32))) (g4 hs (((2 : Int32) * pl) + (1 : Int32))) = 0 then (if bf (g4 hs (((2 : Int32) * pl) + (1 : Int32))) x = 0 then hs else dn bf c k (mv hs pl (((2 : Int32) * pl) + (1 : Int32)) x) (((2 : Int32) * pl) + (1 : Int32)) x) else (if bf (g4 hs ((((2 : Int32) * pl) + (1 : Int32)) + (1 : Int32))) x = 0 then hs else dn bf c k (mv hs pl ((((2 : Int32) * pl) + (1 : Int32)) + (1 : Int32)) x) ((((2 : Int32) * pl) + (1 : Int32)) + (1 : Int32)) x)) else (if bf (g4 hs (((2 : Int32) * pl) + (1 : Int32))) x = 0 then hs else dn bf c k (mv hs pl (((2 : Int32) * pl) + (1 : Int32)) x) (((2 : Int32) * pl) + (1 : Int32)) x)) else hs
theorem own_lt (a b c : Int32) (h1 : a < b) (h2 : b < c) : a < c := by rw [Int32.lt_iff_toInt_lt] at *; omega
theorem own_ltI (a b : Int32) (h : a < b) : a.toInt < b.toInt := Int32.lt_iff_toInt_lt.mp h
theorem own_ml (hs : List Int32) (c : Int32) (hs4 : hs ∈ S4) (hc : c ∈ five) (x : Int32) (hx : x ∈ four) (h : ¬ (plc hs c).getD x.toNatClampNeg 0 < 0) : g4 (mm hs c) x = 1 := ((DMx hs hs4 c hc x hx).2 h).1

theorem own_pl (hs : List Int32) (c : Int32) (hs4 : hs ∈ S4) (hc : c ∈ five) (x : Int32) (hx : x ∈ four) (h : g4 (mm hs c) x = 1) : ¬ (plc hs c).getD x.toNatClampNeg 0 < 0 := fun q => by
  have e := ((DMx hs hs4 c hc x hx).1 q).1
  rw [g4, e] at h; exact absurd h (by decide)
theorem own_g1 (L : List Int32) (hl : L.length = 4) (x : Int32) (hx : x ∈ four) : g4 (L.set x.toNatClampNeg 1) x = 1 := get_set L _ 1 (by rw [hl]; exact (D0 _ hx).2.1)
def putI (hs : List Int32) (c x : Int32) : List Int32 := if g4 (plc hs c) x < 0 then hs.set c.toNatClampNeg x else hs
def putC (hs : List Int32) (c x : Int32) : Int32 := if g4 (plc hs c) x < 0 then c + 1 else c
def sift (bf : Int32 → Int32 → Int32) (hs : List Int32) (c x : Int32) : List Int32 := dn bf c 5 (up bf 4 hs (g4 (plc hs c) x) x) (g4 (plc (up bf 4 hs (g4 (plc hs c) x) x) c) x) x
def putH (bf : Int32 → Int32 → Int32) (hs : List Int32) (c x : Int32) : List Int32 := sift bf (putI hs c x) (putC hs c x) x
def remC (hs : List Int32) (c x : Int32) : Int32 := if g4 (plc hs c) x < 0 then c else c - 1
def remH (bf : Int32 → Int32 → Int32) (hs : List Int32) (c x : Int32) : List Int32 := if g4 (plc hs c) x < 0 then hs else (if g4 hs (c - 1) = x then hs else sift bf (hs.set (g4 (plc hs c) x).toNatClampNeg (g4 hs (c - 1))) (c - 1) (g4 hs (c - 1)))
theorem DCn2 : ∀ hs ∈ S4, ∀ c ∈ five, okb hs c = true → c = (if g4 (mm hs c) (0 : Int32) = 0 then (0 : Int32) else (1 : Int32)) + (if g4 (mm hs c) (1 : Int32) = 0 then (0 : Int32) else (1 : Int32)) + (if g4 (mm hs c) (2 : Int32) = 0 then (0 : Int32) else (1 : Int32)) + (if g4 (mm hs c) (3 : Int32) = 0 then (0 : Int32) else (1 : Int32)) := by decide +kernel
theorem own_ct (hs : List Int32) (c x : Int32) (hs4 : hs ∈ S4) (hc : c ∈ five) (hx : x ∈ four) : (if ((plc hs c).getD (x).toNatClampNeg 0) < 0 then (0 : Int32) else (1 : Int32)) = (mm hs c).getD (x).toNatClampNeg 0 := by
  by_cases q : (plc hs c).getD x.toNatClampNeg 0 < 0
  · rw [if_pos q, ((DMx hs hs4 c hc x hx).1 q).1]
  · rw [if_neg q, ((DMx hs hs4 c hc x hx).2 q).1]
def ONs (Z : State) (h : Heap) (o1 ha pa wa ra : Addr) (H P : List Int32) (c : Int32) (ws : List Int32) (rs : List Int64) : Prop :=
  Exa Z h o1 "com/example/knotweave/knotweave/OpenNeeds" ∧ Fld Z h o1 "com/example/knotweave/knotweave/OpenNeeds" "heap" "[I" (.ref ha) ∧ Fld Z h o1 "com/example/knotweave/knotweave/OpenNeeds" "placeOf" "[I" (.ref pa) ∧ Fld Z h o1 "com/example/knotweave/knotweave/OpenNeeds" "waysOf" "[I" (.ref wa) ∧ Fld Z h o1 "com/example/knotweave/knotweave/OpenNeeds" "rankOf" "[J" (.ref ra) ∧ Fld Z h o1 "com/example/knotweave/knotweave/OpenNeeds" "count" "I" (.int c) ∧ AV Z h ha .int (H.map Value.int) ∧ AV Z h pa .int (P.map Value.int) ∧ AV Z h wa .int (ws.map Value.int) ∧ AV Z h ra .long (rs.map Value.long)
def Dst (o1 ha pa wa ra : Addr) : Prop := o1 ≠ ha ∧ o1 ≠ pa ∧ o1 ≠ wa ∧ o1 ≠ ra ∧ ha ≠ pa ∧ ha ≠ wa ∧ ha ≠ ra ∧ pa ≠ wa ∧ pa ≠ ra ∧ wa ≠ ra
def Ges (n0 : Nat) (o1 ha pa wa ra : Addr) : Prop := n0 ≤ o1 ∧ n0 ≤ ha ∧ n0 ≤ pa ∧ n0 ≤ wa ∧ n0 ≤ ra
theorem d10_0 : decode prog_39_method_9_code 0 = .ok (.aload_n 0, 1) := by decide +kernel
theorem d10_1 : decode prog_39_method_9_code 1 = .ok (.getfield 7, 3) := by decide +kernel
theorem d10_4 : decode prog_39_method_9_code 4 = .ok (.iload_n 2, 1) := by decide +kernel
theorem d10_5 : decode prog_39_method_9_code 5 = .ok (.iload_n 1, 1) := by decide +kernel
theorem d10_6 : decode prog_39_method_9_code 6 = .ok (.iastore, 1) := by decide +kernel
theorem d10_7 : decode prog_39_method_9_code 7 = .ok (.aload_n 0, 1) := by decide +kernel
theorem d10_8 : decode prog_39_method_9_code 8 = .ok (.getfield 13, 3) := by decide +kernel
theorem d10_11 : decode prog_39_method_9_code 11 = .ok (.iload_n 1, 1) := by decide +kernel
theorem d10_12 : decode prog_39_method_9_code 12 = .ok (.iload_n 2, 1) := by decide +kernel
theorem d10_13 : decode prog_39_method_9_code 13 = .ok (.iastore, 1) := by decide +kernel
theorem d10_14 : decode prog_39_method_9_code 14 = .ok (.return_, 1) := by decide +kernel
theorem pn_10 : plainName "com/example/knotweave/knotweave/OpenNeeds" = true := by first | (simp [plainName, overriddenIn]; done) | decide +kernel
theorem ef_10 (m : MethodId) (o1 : Addr) (p2 : Int32) (p3 : Int32) : entryFrame m #[(.ref o1), (.int p2), (.int p3)] 3 = mkF m 0 #[.val (.ref o1), .val (.int p2), .val (.int p3)] [] := by first | (simp [entryFrame, mkF, argsToLocals, Value.category]; done) | rfl
set_option maxRecDepth 65536 in
set_option maxHeartbeats 4000000 in
theorem rm_settle (l : Launch) (Z : State) (a0 : Array Value) (hw : ∀ d ∈ tables_1, d.before a0 Z = true) (o1 : Addr) (p2 : Int32) (p3 : Int32) (ha : Addr) (pa : Addr) (wa : Addr) (ra : Addr) (H : List Int32) (P : List Int32) (c0 : Int32) (ws : List Int32) (rs : List Int64) (h0 : Heap) (n0 : Nat) (Z0 : n0 ≤ h0.size) (O : ONs Z h0 o1 ha pa wa ra H P c0 ws rs) (D : Dst o1 ha pa wa ra) (G : Ges n0 o1 ha pa wa ra) (hp : p2 ∈ four) (hq : p3 ∈ four) (lH : H.length = 4) (lP : P.length = 4) :
    Con l Z (⟨"com/example/knotweave/knotweave/OpenNeeds", "settle", "(II)V"⟩ : MethodName) prog_39_method_9_code 3 none ({ frames := 0, cells := 0, slots := 0, locals := 0 } : Room) #[(.ref o1), (.int p2), (.int p3)] h0 n0 none (fun h => Keep h0 h [o1, ha, pa, wa, ra] ∧ ONs Z h o1 ha pa wa ra (H.set (p3).toNatClampNeg p2) (P.set (p2).toNatClampNeg p3) c0 ws rs) := by
  refine con_of (plainFor_of_name pn_10) Z0 (fun m => ef_10 m o1 p2 p3) ?_
  intro p e s m below meth c T0 X0
  obtain ⟨E_o, F_h, F_p, F_w, F_r, F_c, A_h, A_p, A_w, A_r⟩ := O
  obtain ⟨ne_o1_ha, ne_o1_pa, ne_o1_wa, ne_o1_ra, ne_ha_pa, ne_ha_wa, ne_ha_ra, ne_pa_wa, ne_pa_ra, ne_wa_ra⟩ := D
  obtain ⟨g_o1, g_ha, g_pa, g_wa, g_ra⟩ := G
  refine w_aloadN X0 d10_0 rfl rfl rfl ?_
  refine w_getF X0 (host := "") (Or.inl (hw _ (List.mem_of_getElem? (i := 10) rfl))) Via.refl F_h d10_1 rfl fun T1 X2 => ?_
  refine w_iloadN X2 d10_4 rfl rfl ?_
  refine w_iloadN X2 d10_5 rfl rfl ?_
  refine w_iastore X2 A_h (D0 _ hq).1 rfl (by rw [List.length_map]; exact (by rw [lH]; exact (D0 _ hq).2.1)) g_ha d10_6 rfl fun T3 h6 X4 W5 A7 => ?_
  rw [← List.map_set] at A7
  obtain ⟨xs8, hxs8⟩ : ∃ z, z = (H.set (p3).toNatClampNeg p2) := ⟨_, rfl⟩
  rw [← hxs8] at A7
  have f9 : Exa Z h6 o1 "com/example/knotweave/knotweave/OpenNeeds" := Exa.wr W5 E_o
  have f10 : Fld Z h6 o1 "com/example/knotweave/knotweave/OpenNeeds" "heap" "[I" (.ref ha) := Fld.other W5 F_h (Or.inl ne_o1_ha)
  have f11 : Fld Z h6 o1 "com/example/knotweave/knotweave/OpenNeeds" "placeOf" "[I" (.ref pa) := Fld.other W5 F_p (Or.inl ne_o1_ha)
  have f12 : Fld Z h6 o1 "com/example/knotweave/knotweave/OpenNeeds" "waysOf" "[I" (.ref wa) := Fld.other W5 F_w (Or.inl ne_o1_ha)
  have f13 : Fld Z h6 o1 "com/example/knotweave/knotweave/OpenNeeds" "rankOf" "[J" (.ref ra) := Fld.other W5 F_r (Or.inl ne_o1_ha)
  have f14 : Fld Z h6 o1 "com/example/knotweave/knotweave/OpenNeeds" "count" "I" (.int c0) := Fld.other W5 F_c (Or.inl ne_o1_ha)
  have f15 : AV Z h6 ha .int (xs8.map Value.int) := A7
  have f16 : AV Z h6 pa .int (P.map Value.int) := A_p.other W5 (Ne.symm ne_ha_pa)
  have f17 : AV Z h6 wa .int (ws.map Value.int) := A_w.other W5 (Ne.symm ne_ha_wa)
  have f18 : AV Z h6 ra .long (rs.map Value.long) := A_r.other W5 (Ne.symm ne_ha_ra)
  have k19 : Keep h0 h6 [o1, ha, pa, wa, ra] := (Keep.refl h0 [o1, ha, pa, wa, ra]).wr W5 (Or.inl (List.mem_of_getElem? (i := 1) rfl))
  refine w_aloadN X4 d10_7 rfl rfl rfl ?_
  refine w_getF X4 (host := "") (Or.inl (hw _ (List.mem_of_getElem? (i := 12) rfl))) Via.refl f11 d10_8 rfl fun T20 X21 => ?_
  refine w_iloadN X21 d10_11 rfl rfl ?_
  refine w_iloadN X21 d10_12 rfl rfl ?_
  refine w_iastore X21 f16 (D0 _ hp).1 rfl (by rw [List.length_map]; exact (by rw [lP]; exact (D0 _ hp).2.1)) g_pa d10_13 rfl fun T22 h25 X23 W24 A26 => ?_
  rw [← List.map_set] at A26
  obtain ⟨xs27, hxs27⟩ : ∃ z, z = (P.set (p2).toNatClampNeg p3) := ⟨_, rfl⟩
  rw [← hxs27] at A26
  have f28 : Exa Z h25 o1 "com/example/knotweave/knotweave/OpenNeeds" := Exa.wr W24 f9
  have f29 : Fld Z h25 o1 "com/example/knotweave/knotweave/OpenNeeds" "heap" "[I" (.ref ha) := Fld.other W24 f10 (Or.inl ne_o1_pa)
  have f30 : Fld Z h25 o1 "com/example/knotweave/knotweave/OpenNeeds" "placeOf" "[I" (.ref pa) := Fld.other W24 f11 (Or.inl ne_o1_pa)
  have f31 : Fld Z h25 o1 "com/example/knotweave/knotweave/OpenNeeds" "waysOf" "[I" (.ref wa) := Fld.other W24 f12 (Or.inl ne_o1_pa)
  have f32 : Fld Z h25 o1 "com/example/knotweave/knotweave/OpenNeeds" "rankOf" "[J" (.ref ra) := Fld.other W24 f13 (Or.inl ne_o1_pa)
  have f33 : Fld Z h25 o1 "com/example/knotweave/knotweave/OpenNeeds" "count" "I" (.int c0) := Fld.other W24 f14 (Or.inl ne_o1_pa)
  have f34 : AV Z h25 ha .int (xs8.map Value.int) := f15.other W24 ne_ha_pa
  have f35 : AV Z h25 pa .int (xs27.map Value.int) := A26
  have f36 : AV Z h25 wa .int (ws.map Value.int) := f17.other W24 (Ne.symm ne_pa_wa)
  have f37 : AV Z h25 ra .long (rs.map Value.long) := f18.other W24 (Ne.symm ne_pa_ra)
  have k38 : Keep h0 h25 [o1, ha, pa, wa, ra] := k19.wr W24 (Or.inl (List.mem_of_getElem? (i := 2) rfl))
  exact w_return X23 d10_14 rfl ⟨k38, (by rw [← hxs8, ← hxs27]; exact ⟨f28, f29, f30, f31, f32, f33, f34, f35, f36, f37⟩)⟩ (by decide) (by decide)
def f_bf (ws : List Int32) (rs : List Int64) (a b : Int32) : Int32 := if (ws.getD (a).toNatClampNeg 0) < (ws.getD (b).toNatClampNeg 0) then 1 else (if (ws.getD (a).toNatClampNeg 0) = (ws.getD (b).toNatClampNeg 0) then (if (rs.getD (a).toNatClampNeg 0) < (rs.getD (b).toNatClampNeg 0) then 1 else 0) else 0)
theorem d12_0 : decode prog_39_method_10_code 0 = .ok (.aload_n 0, 1) := by decide +kernel
theorem d12_1 : decode prog_39_method_10_code 1 = .ok (.getfield 16, 3) := by decide +kernel
theorem d12_4 : decode prog_39_method_10_code 4 = .ok (.iload_n 1, 1) := by decide +kernel
theorem d12_5 : decode prog_39_method_10_code 5 = .ok (.iaload, 1) := by decide +kernel
theorem d12_6 : decode prog_39_method_10_code 6 = .ok (.aload_n 0, 1) := by decide +kernel
theorem d12_7 : decode prog_39_method_10_code 7 = .ok (.getfield 16, 3) := by decide +kernel
theorem d12_10 : decode prog_39_method_10_code 10 = .ok (.iload_n 2, 1) := by decide +kernel
theorem d12_11 : decode prog_39_method_10_code 11 = .ok (.iaload, 1) := by decide +kernel
theorem d12_12 : decode prog_39_method_10_code 12 = .ok (.if_icmp .lt 34, 3) := by decide +kernel
theorem d12_15 : decode prog_39_method_10_code 15 = .ok (.aload_n 0, 1) := by decide +kernel
theorem d12_16 : decode prog_39_method_10_code 16 = .ok (.getfield 16, 3) := by decide +kernel
theorem d12_19 : decode prog_39_method_10_code 19 = .ok (.iload_n 1, 1) := by decide +kernel
theorem d12_20 : decode prog_39_method_10_code 20 = .ok (.iaload, 1) := by decide +kernel
theorem d12_21 : decode prog_39_method_10_code 21 = .ok (.aload_n 0, 1) := by decide +kernel
theorem d12_22 : decode prog_39_method_10_code 22 = .ok (.getfield 16, 3) := by decide +kernel
theorem d12_25 : decode prog_39_method_10_code 25 = .ok (.iload_n 2, 1) := by decide +kernel
theorem d12_26 : decode prog_39_method_10_code 26 = .ok (.iaload, 1) := by decide +kernel
theorem d12_27 : decode prog_39_method_10_code 27 = .ok (.if_icmp .ne 23, 3) := by decide +kernel
theorem d12_30 : decode prog_39_method_10_code 30 = .ok (.aload_n 0, 1) := by decide +kernel
theorem d12_31 : decode prog_39_method_10_code 31 = .ok (.getfield 19, 3) := by decide +kernel
theorem d12_34 : decode prog_39_method_10_code 34 = .ok (.iload_n 1, 1) := by decide +kernel
theorem d12_35 : decode prog_39_method_10_code 35 = .ok (.laload, 1) := by decide +kernel
theorem d12_36 : decode prog_39_method_10_code 36 = .ok (.aload_n 0, 1) := by decide +kernel
theorem d12_37 : decode prog_39_method_10_code 37 = .ok (.getfield 19, 3) := by decide +kernel
theorem d12_40 : decode prog_39_method_10_code 40 = .ok (.iload_n 2, 1) := by decide +kernel
theorem d12_41 : decode prog_39_method_10_code 41 = .ok (.laload, 1) := by decide +kernel
theorem d12_42 : decode prog_39_method_10_code 42 = .ok (.lcmp, 1) := by decide +kernel
theorem d12_43 : decode prog_39_method_10_code 43 = .ok (.ifCond .ge 7, 3) := by decide +kernel
theorem d12_46 : decode prog_39_method_10_code 46 = .ok (.iconst 1, 1) := by decide +kernel
theorem d12_47 : decode prog_39_method_10_code 47 = .ok (.goto 4, 3) := by decide +kernel
theorem d12_50 : decode prog_39_method_10_code 50 = .ok (.iconst 0, 1) := by decide +kernel
theorem d12_51 : decode prog_39_method_10_code 51 = .ok (.ireturn, 1) := by decide +kernel
theorem pn_12 : plainName "com/example/knotweave/knotweave/OpenNeeds" = true := by first | (simp [plainName, overriddenIn]; done) | decide +kernel
theorem ef_12 (m : MethodId) (o1 : Addr) (p2 : Int32) (p3 : Int32) : entryFrame m #[(.ref o1), (.int p2), (.int p3)] 3 = mkF m 0 #[.val (.ref o1), .val (.int p2), .val (.int p3)] [] := by first | (simp [entryFrame, mkF, argsToLocals, Value.category]; done) | rfl
set_option maxRecDepth 65536 in
set_option maxHeartbeats 4000000 in
theorem rm_before (l : Launch) (Z : State) (a0 : Array Value) (hw : ∀ d ∈ tables_1, d.before a0 Z = true) (o1 : Addr) (p2 : Int32) (p3 : Int32) (ha : Addr) (pa : Addr) (wa : Addr) (ra : Addr) (H : List Int32) (P : List Int32) (c0 : Int32) (ws : List Int32) (rs : List Int64) (h0 : Heap) (n0 : Nat) (Z0 : n0 ≤ h0.size) (O : ONs Z h0 o1 ha pa wa ra H P c0 ws rs) (D : Dst o1 ha pa wa ra) (G : Ges n0 o1 ha pa wa ra) (hp : p2 ∈ four) (hq : p3 ∈ four) (lw : ws.length = 4) (lr : rs.length = 4) :
    Con l Z (⟨"com/example/knotweave/knotweave/OpenNeeds", "before", "(II)Z"⟩ : MethodName) prog_39_method_10_code 3 (some .boolean) ({ frames := 0, cells := 0, slots := 0, locals := 0 } : Room) #[(.ref o1), (.int p2), (.int p3)] h0 n0 (some (.int (f_bf ws rs p2 p3))) (fun h => h = h0) := by
  refine con_of (plainFor_of_name pn_12) Z0 (fun m => ef_12 m o1 p2 p3) ?_
  intro p e s m below meth c T0 X0
  obtain ⟨E_o, F_h, F_p, F_w, F_r, F_c, A_h, A_p, A_w, A_r⟩ := O
  obtain ⟨ne_o1_ha, ne_o1_pa, ne_o1_wa, ne_o1_ra, ne_ha_pa, ne_ha_wa, ne_ha_ra, ne_pa_wa, ne_pa_ra, ne_wa_ra⟩ := D
  obtain ⟨g_o1, g_ha, g_pa, g_wa, g_ra⟩ := G
  refine w_aloadN X0 d12_0 rfl rfl rfl ?_
  refine w_getF X0 (host := "") (Or.inl (hw _ (List.mem_of_getElem? (i := 14) rfl))) Via.refl F_w d12_1 rfl fun T1 X2 => ?_
  refine w_iloadN X2 d12_4 rfl rfl ?_
  refine w_iaload X2 A_w (D0 _ hp).1 rfl (getI (by rw [lw]; exact (D0 _ hp).2.1)) d12_5 rfl ?_
  refine w_aloadN X2 d12_6 rfl rfl rfl ?_
  refine w_getF X2 (host := "") (Or.inl (hw _ (List.mem_of_getElem? (i := 14) rfl))) Via.refl F_w d12_7 rfl fun T3 X4 => ?_
  refine w_iloadN X4 d12_10 rfl rfl ?_
  refine w_iaload X4 A_w (D0 _ hq).1 rfl (getI (by rw [lw]; exact (D0 _ hq).2.1)) d12_11 rfl ?_
  refine w_icmp_lt X4 d12_12 (by decide) (pcT := 46) (pcF := 15) (by decide) rfl (fun c5 => ?_) (fun c5 => ?_)
  · refine w_iconst X4 d12_46 (v := (1 : Int32)) rfl rfl ?_
    refine w_goto X4 d12_47 (by decide) (pc' := 51) (by decide) ?_
    exact w_nreturn X4 (t := .boolean) (by simp) d12_51 (by unfold f_bf; rw [if_pos c5]; rfl) rfl (by decide) (by decide)
  · refine w_aloadN X4 d12_15 rfl rfl rfl ?_
    refine w_getF X4 (host := "") (Or.inl (hw _ (List.mem_of_getElem? (i := 14) rfl))) Via.refl F_w d12_16 rfl fun T6 X7 => ?_
    refine w_iloadN X7 d12_19 rfl rfl ?_
    refine w_iaload X7 A_w (D0 _ hp).1 rfl (getI (by rw [lw]; exact (D0 _ hp).2.1)) d12_20 rfl ?_
    refine w_aloadN X7 d12_21 rfl rfl rfl ?_
    refine w_getF X7 (host := "") (Or.inl (hw _ (List.mem_of_getElem? (i := 14) rfl))) Via.refl F_w d12_22 rfl fun T8 X9 => ?_
    refine w_iloadN X9 d12_25 rfl rfl ?_
    refine w_iaload X9 A_w (D0 _ hq).1 rfl (getI (by rw [lw]; exact (D0 _ hq).2.1)) d12_26 rfl ?_
    refine w_icmp_ne X9 d12_27 (by decide) (pcT := 50) (pcF := 30) (by decide) rfl (fun c10 => ?_) (fun c10 => ?_)
    · refine w_iconst X9 d12_50 (v := (0 : Int32)) rfl rfl ?_
      exact w_nreturn X9 (t := .boolean) (by simp) d12_51 (by unfold f_bf; rw [if_neg c5, if_neg c10]; rfl) rfl (by decide) (by decide)
    · refine w_aloadN X9 d12_30 rfl rfl rfl ?_
      refine w_getF X9 (host := "") (Or.inl (hw _ (List.mem_of_getElem? (i := 17) rfl))) Via.refl F_r d12_31 rfl fun T11 X12 => ?_
      refine w_iloadN X12 d12_34 rfl rfl ?_
      refine w_laload X12 A_r (D0 _ hp).1 rfl (getL (by rw [lr]; exact (D0 _ hp).2.1)) d12_35 rfl ?_
      refine w_aloadN X12 d12_36 rfl rfl rfl ?_
      refine w_getF X12 (host := "") (Or.inl (hw _ (List.mem_of_getElem? (i := 17) rfl))) Via.refl F_r d12_37 rfl fun T13 X14 => ?_
      refine w_iloadN X14 d12_40 rfl rfl ?_
      refine w_laload X14 A_r (D0 _ hq).1 rfl (getL (by rw [lr]; exact (D0 _ hq).2.1)) d12_41 rfl ?_
      refine w_lcmp_ge X14 d12_42 rfl d12_43 (by decide) (pcT := 50) (pcF := 46) (by decide) rfl (fun c15 => ?_) (fun c15 => ?_)
      · refine w_iconst X14 d12_50 (v := (0 : Int32)) rfl rfl ?_
        exact w_nreturn X14 (t := .boolean) (by simp) d12_51 (by unfold f_bf; rw [if_neg c5, if_pos c10, if_neg c15]; rfl) rfl (by decide) (by decide)
      · refine w_iconst X14 d12_46 (v := (1 : Int32)) rfl rfl ?_
        refine w_goto X14 d12_47 (by decide) (pc' := 51) (by decide) ?_
        exact w_nreturn X14 (t := .boolean) (by simp) d12_51 (by unfold f_bf; rw [if_neg c5, if_pos c10, if_pos c15]; rfl) rfl (by decide) (by decide)
theorem d9_0 : decode prog_39_method_7_code 0 = .ok (.aload_n 0, 1) := by decide +kernel
theorem d9_1 : decode prog_39_method_7_code 1 = .ok (.getfield 13, 3) := by decide +kernel
theorem d9_4 : decode prog_39_method_7_code 4 = .ok (.iload_n 1, 1) := by decide +kernel
theorem d9_5 : decode prog_39_method_7_code 5 = .ok (.iaload, 1) := by decide +kernel
theorem d9_6 : decode prog_39_method_7_code 6 = .ok (.istore_n 2, 1) := by decide +kernel
theorem d9_7 : decode prog_39_method_7_code 7 = .ok (.iload_n 2, 1) := by decide +kernel
theorem d9_8 : decode prog_39_method_7_code 8 = .ok (.ifCond .le 43, 3) := by decide +kernel
theorem d9_11 : decode prog_39_method_7_code 11 = .ok (.aload_n 0, 1) := by decide +kernel
theorem d9_12 : decode prog_39_method_7_code 12 = .ok (.iload_n 1, 1) := by decide +kernel
theorem d9_13 : decode prog_39_method_7_code 13 = .ok (.aload_n 0, 1) := by decide +kernel
theorem d9_14 : decode prog_39_method_7_code 14 = .ok (.getfield 7, 3) := by decide +kernel
theorem d9_17 : decode prog_39_method_7_code 17 = .ok (.iload_n 2, 1) := by decide +kernel
theorem d9_18 : decode prog_39_method_7_code 18 = .ok (.iconst 1, 1) := by decide +kernel
theorem d9_19 : decode prog_39_method_7_code 19 = .ok (.isub, 1) := by decide +kernel
theorem d9_20 : decode prog_39_method_7_code 20 = .ok (.iconst 2, 1) := by decide +kernel
theorem d9_21 : decode prog_39_method_7_code 21 = .ok (.idiv, 1) := by decide +kernel
theorem d9_22 : decode prog_39_method_7_code 22 = .ok (.iaload, 1) := by decide +kernel
theorem d9_23 : decode prog_39_method_7_code 23 = .ok (.invokevirtual 40, 3) := by decide +kernel
theorem d9_26 : decode prog_39_method_7_code 26 = .ok (.ifCond .eq 25, 3) := by decide +kernel
theorem d9_29 : decode prog_39_method_7_code 29 = .ok (.iload_n 2, 1) := by decide +kernel
theorem d9_30 : decode prog_39_method_7_code 30 = .ok (.iconst 1, 1) := by decide +kernel
theorem d9_31 : decode prog_39_method_7_code 31 = .ok (.isub, 1) := by decide +kernel
theorem d9_32 : decode prog_39_method_7_code 32 = .ok (.iconst 2, 1) := by decide +kernel
theorem d9_33 : decode prog_39_method_7_code 33 = .ok (.idiv, 1) := by decide +kernel
theorem d9_34 : decode prog_39_method_7_code 34 = .ok (.istore_n 3, 1) := by decide +kernel
theorem d9_35 : decode prog_39_method_7_code 35 = .ok (.aload_n 0, 1) := by decide +kernel
theorem d9_36 : decode prog_39_method_7_code 36 = .ok (.aload_n 0, 1) := by decide +kernel
theorem d9_37 : decode prog_39_method_7_code 37 = .ok (.getfield 7, 3) := by decide +kernel
theorem d9_40 : decode prog_39_method_7_code 40 = .ok (.iload_n 3, 1) := by decide +kernel
theorem d9_41 : decode prog_39_method_7_code 41 = .ok (.iaload, 1) := by decide +kernel
theorem d9_42 : decode prog_39_method_7_code 42 = .ok (.iload_n 2, 1) := by decide +kernel
theorem d9_43 : decode prog_39_method_7_code 43 = .ok (.invokevirtual 44, 3) := by decide +kernel
theorem d9_46 : decode prog_39_method_7_code 46 = .ok (.iload_n 3, 1) := by decide +kernel
theorem d9_47 : decode prog_39_method_7_code 47 = .ok (.istore_n 2, 1) := by decide +kernel
theorem d9_48 : decode prog_39_method_7_code 48 = .ok (.goto (-41), 3) := by decide +kernel
theorem d9_51 : decode prog_39_method_7_code 51 = .ok (.aload_n 0, 1) := by decide +kernel
theorem d9_52 : decode prog_39_method_7_code 52 = .ok (.iload_n 1, 1) := by decide +kernel
theorem d9_53 : decode prog_39_method_7_code 53 = .ok (.iload_n 2, 1) := by decide +kernel
theorem d9_54 : decode prog_39_method_7_code 54 = .ok (.invokevirtual 44, 3) := by decide +kernel
theorem d9_57 : decode prog_39_method_7_code 57 = .ok (.return_, 1) := by decide +kernel
theorem pd_0 : parseMethodDescriptor "(II)V" = some ⟨[.int, .int], none⟩ := by decide +kernel
theorem pd_1 : parseMethodDescriptor "(II)Z" = some ⟨[.int, .int], some .boolean⟩ := by decide +kernel
theorem pn_9 : plainName "com/example/knotweave/knotweave/OpenNeeds" = true := by first | (simp [plainName, overriddenIn]; done) | decide +kernel
theorem ef_9 (m : MethodId) (o1 : Addr) (p2 : Int32) : entryFrame m #[(.ref o1), (.int p2)] 4 = mkF m 0 #[.val (.ref o1), .val (.int p2), .unset, .unset] [] := by first | (simp [entryFrame, mkF, argsToLocals, Value.category]; done) | rfl
set_option maxRecDepth 65536 in
set_option maxHeartbeats 40000000 in
theorem rm_up (l : Launch) (Z : State) (a0 : Array Value) (hw : ∀ d ∈ tables_1, d.before a0 Z = true) (o1 : Addr) (p2 : Int32) (ha : Addr) (pa : Addr) (wa : Addr) (ra : Addr) (hs : List Int32) (c0 : Int32) (ws : List Int32) (rs : List Int64) (h0 : Heap) (n0 : Nat) (Z0 : n0 ≤ h0.size) (O : ONs Z h0 o1 ha pa wa ra hs (plc hs c0) c0 ws rs) (D : Dst o1 ha pa wa ra) (G : Ges n0 o1 ha pa wa ra) (bf : Int32 → Int32 → Int32) (hb : ∀ a b, g4 (mm hs c0) a = 1 → g4 (mm hs c0) b = 1 → f_bf ws rs a b = bf a b) (hs4 : hs ∈ S4) (hc : c0 ∈ five) (ho : okb hs c0 = true) (hp : p2 ∈ four) (hpl : ¬ (plc hs c0).getD (p2).toNatClampNeg 0 < 0) (lw : ws.length = 4) (lr : rs.length = 4) :
    Con l Z (⟨"com/example/knotweave/knotweave/OpenNeeds", "siftUp", "(I)V"⟩ : MethodName) prog_39_method_7_code 4 none ({ frames := 1, cells := 0, slots := 0, locals := 14 } : Room) #[(.ref o1), (.int p2)] h0 n0 none (fun h => ∃ hs', hs' ∈ S4 ∧ okb hs' c0 = true ∧ mm hs' c0 = mm hs c0 ∧ hs' = up bf 4 hs (g4 (plc hs c0) p2) p2 ∧ Keep h0 h [o1, ha, pa, wa, ra] ∧ ONs Z h o1 ha pa wa ra hs' (plc hs' c0) c0 ws rs) := by
  refine con_of (plainFor_of_name pn_9) Z0 (fun m => ef_9 m o1 p2) ?_
  intro p e s m below meth c T0 X0
  have O0 := O
  obtain ⟨E_o, F_h, F_p, F_w, F_r, F_c, A_h, A_p, A_w, A_r⟩ := O
  obtain ⟨ne_o1_ha, ne_o1_pa, ne_o1_wa, ne_o1_ra, ne_ha_pa, ne_ha_wa, ne_ha_ra, ne_pa_wa, ne_pa_ra, ne_wa_ra⟩ := D
  obtain ⟨g_o1, g_ha, g_pa, g_wa, g_ra⟩ := G
  refine w_aloadN X0 d9_0 rfl rfl rfl ?_
  refine w_getF X0 (host := "") (Or.inl (hw _ (List.mem_of_getElem? (i := 12) rfl))) Via.refl F_p d9_1 rfl fun T1 X2 => ?_
  refine w_iloadN X2 d9_4 rfl rfl ?_
  refine w_iaload X2 A_p (D0 _ hp).1 rfl (getI (D0 _ hp).2.1) d9_5 rfl ?_
  refine w_istoreN X2 d9_6 rfl (L' := #[.val (.ref o1), .val (.int p2), .val (.int ((plc hs c0).getD (p2).toNatClampNeg 0)), .unset]) rfl ?_
  have loop : ∀ (k : Nat) (H P hs1 : List Int32) (pl : Int32) (s3 : Slot) (T1 : State) (h1 : Heap), Wk p l e ({ frames := 1, cells := 0, slots := 0, locals := 14 } : Room) s m #[(.ref o1), (.int p2)] below meth c Z n0 (⟨"com/example/knotweave/knotweave/OpenNeeds", "siftUp", "(I)V"⟩ : MethodName) prog_39_method_7_code 4 none T1 0 0 h1 → ONs Z h1 o1 ha pa wa ra H P c0 ws rs → Keep h0 h1 [o1, ha, pa, wa, ra] → hs1 ∈ S4 → okb hs1 c0 = true → mm hs1 c0 = mm hs c0 → H.set (pl).toNatClampNeg p2 = hs1 → P.set (p2).toNatClampNeg pl = plc hs1 c0 → H.length = 4 → P.length = 4 → pl ∈ four → pl < c0 → pl.toInt < k → up bf 4 hs (g4 (plc hs c0) p2) p2 = up bf k hs1 pl p2 → OneS s3 → Goes p e below (Done below s n0 ({ frames := 1, cells := 0, slots := 0, locals := 14 } : Room) none (fun h => ∃ hs', hs' ∈ S4 ∧ okb hs' c0 = true ∧ mm hs' c0 = mm hs c0 ∧ hs' = up bf 4 hs (g4 (plc hs c0) p2) p2 ∧ Keep h0 h [o1, ha, pa, wa, ra] ∧ ONs Z h o1 ha pa wa ra hs' (plc hs' c0) c0 ws rs)) T1 m 7 #[.val (.ref o1), .val (.int p2), .val (.int pl), s3] [] := by
    intro k
    induction k with
    | zero => intro H P hs1 pl s3 T1 h1 X1 O1 k1 m1 o1k mm1 v1 v2 lH lP f1 plc1 b1_; exact absurd b1_ (by have := (D0 _ f1).2.2; omega)
    | succ k ih =>
      intro H P hs1 pl s3 T1 h1 X1 O1 k1 m1 o1k mm1 v1 v2 lH lP f1 plc1 b1_ e1 hs3
      obtain ⟨n0_, n1_, n2_, n3_, n4_, n5_, n6_, n7_, n8_, n9_⟩ := O1
      refine w_iloadN X1 d9_7 rfl rfl ?_
      refine w_if_le X1 d9_8 (by decide) (pcT := 51) (pcF := 11) (by decide) rfl (fun c3 => ?_) (fun c3 => ?_)
      · refine w_aloadN X1 d9_51 rfl rfl rfl ?_
        refine w_iloadN X1 d9_52 rfl rfl ?_
        refine w_iloadN X1 d9_53 rfl rfl ?_
        refine w_private0 X1 (rm_settle l Z a0 hw o1 p2 pl ha pa wa ra H P c0 ws rs h1 n0 X1.size ⟨n0_, n1_, n2_, n3_, n4_, n5_, n6_, n7_, n8_, n9_⟩ ⟨ne_o1_ha, ne_o1_pa, ne_o1_wa, ne_o1_ra, ne_ha_pa, ne_ha_wa, ne_ha_ra, ne_pa_wa, ne_pa_ra, ne_wa_ra⟩ ⟨g_o1, g_ha, g_pa, g_wa, g_ra⟩ hp f1 lH lP) n0_ (hw _ (List.mem_of_getElem? (i := 54) rfl)) (hw _ (List.mem_of_getElem? (i := 55) rfl)) (hw _ (List.mem_of_getElem? (i := 1) rfl)) (hw _ (List.mem_of_getElem? (i := 56) rfl)) (hw _ (List.mem_of_getElem? (i := 2) rfl)) (hw _ (List.mem_of_getElem? (i := 57) rfl)) (by decide) (argsL := [(.int p2), (.int pl)]) (rest := []) rfl (lenOf pd_0 rfl) rfl (W := 0) rfl (by decide) (by decide) (by decide) (by decide) d9_54 rfl fun T4 h5 X6 q7 => ?_
        obtain ⟨K18, n8, n9, n10, n11, n12, n13, n14, n15, n16, n17⟩ := q7
        have f19 : Exa Z h5 o1 "com/example/knotweave/knotweave/OpenNeeds" := n0_.keep K18
        have k20 : Keep h0 h5 [o1, ha, pa, wa, ra] := k1.trans K18 (allS (Or.inl (List.mem_of_getElem? (i := 0) rfl)) (allS (Or.inl (List.mem_of_getElem? (i := 1) rfl)) (allS (Or.inl (List.mem_of_getElem? (i := 2) rfl)) (allS (Or.inl (List.mem_of_getElem? (i := 3) rfl)) (allS (Or.inl (List.mem_of_getElem? (i := 4) rfl)) all0)))))
        exact w_return X6 d9_57 rfl ⟨hs1, m1, o1k, mm1, (by rw [e1, up, if_neg c3]), k20, (by rw [← v2, ← v1]; exact ⟨n8, n9, n10, n11, n12, n13, n14, n15, n16, n17⟩)⟩ (by decide) (by decide)
      · obtain ⟨pr4, prp, prl⟩ := (DPar pl f1).resolve_left (fun q => q c3)
        have prc := own_lt _ _ _ prl plc1
        have M := own_mv hs1 H P c0 pl ((pl - (1 : Int32)) / (2 : Int32)) p2 m1 hc o1k prp plc1 prc v1 v2 lH hp
        have y4 := M.2.2.2.2.2.1
        have hbf : f_bf ws rs p2 (H.getD (((pl - (1 : Int32)) / (2 : Int32))).toNatClampNeg 0) = bf p2 (g4 hs1 ((pl - (1 : Int32)) / (2 : Int32))) := by rw [M.2.2.2.2.2.2.1]; exact hb _ _ (own_ml hs c0 hs4 hc p2 hp hpl) (by rw [← mm1]; exact M.2.2.2.2.2.2.2)
        refine w_aloadN X1 d9_11 rfl rfl rfl ?_
        refine w_iloadN X1 d9_12 rfl rfl ?_
        refine w_aloadN X1 d9_13 rfl rfl rfl ?_
        refine w_getF X1 (host := "") (Or.inl (hw _ (List.mem_of_getElem? (i := 10) rfl))) Via.refl n1_ d9_14 rfl fun T21 X22 => ?_
        refine w_iloadN X22 d9_17 rfl rfl ?_
        refine w_iconst X22 d9_18 (v := (1 : Int32)) rfl rfl ?_
        refine w_isub X22 d9_19 rfl ?_
        refine w_iconst X22 d9_20 (v := (2 : Int32)) rfl rfl ?_
        refine w_idiv X22 d9_21 rfl (by decide) ?_
        refine w_iaload X22 n6_ (D0 _ pr4).1 rfl (getI (by rw [lH]; exact (D0 _ pr4).2.1)) d9_22 rfl ?_
        refine w_privateVP X22 (rm_before l Z a0 hw o1 p2 (H.getD (((pl - (1 : Int32)) / (2 : Int32))).toNatClampNeg 0) ha pa wa ra H P c0 ws rs h1 n0 X22.size ⟨n0_, n1_, n2_, n3_, n4_, n5_, n6_, n7_, n8_, n9_⟩ ⟨ne_o1_ha, ne_o1_pa, ne_o1_wa, ne_o1_ra, ne_ha_pa, ne_ha_wa, ne_ha_ra, ne_pa_wa, ne_pa_ra, ne_wa_ra⟩ ⟨g_o1, g_ha, g_pa, g_wa, g_ra⟩ hp y4 lw lr) n0_ (hw _ (List.mem_of_getElem? (i := 62) rfl)) (hw _ (List.mem_of_getElem? (i := 63) rfl)) (hw _ (List.mem_of_getElem? (i := 1) rfl)) (hw _ (List.mem_of_getElem? (i := 64) rfl)) (hw _ (List.mem_of_getElem? (i := 2) rfl)) (hw _ (List.mem_of_getElem? (i := 65) rfl)) (by decide) (argsL := [(.int p2), (.int (H.getD (((pl - (1 : Int32)) / (2 : Int32))).toNatClampNeg 0))]) (rest := []) rfl (lenOf pd_1 rfl) rfl (W := 0) rfl (by decide) (by decide) (by decide) (by decide) d9_23 rfl fun T23 X25 => ?_
        refine w_if_eq X25 d9_26 (by decide) (pcT := 51) (pcF := 29) (by decide) rfl (fun c27 => ?_) (fun c27 => ?_)
        · refine w_aloadN X25 d9_51 rfl rfl rfl ?_
          refine w_iloadN X25 d9_52 rfl rfl ?_
          refine w_iloadN X25 d9_53 rfl rfl ?_
          refine w_private0 X25 (rm_settle l Z a0 hw o1 p2 pl ha pa wa ra H P c0 ws rs h1 n0 X25.size ⟨n0_, n1_, n2_, n3_, n4_, n5_, n6_, n7_, n8_, n9_⟩ ⟨ne_o1_ha, ne_o1_pa, ne_o1_wa, ne_o1_ra, ne_ha_pa, ne_ha_wa, ne_ha_ra, ne_pa_wa, ne_pa_ra, ne_wa_ra⟩ ⟨g_o1, g_ha, g_pa, g_wa, g_ra⟩ hp f1 lH lP) n0_ (hw _ (List.mem_of_getElem? (i := 54) rfl)) (hw _ (List.mem_of_getElem? (i := 55) rfl)) (hw _ (List.mem_of_getElem? (i := 1) rfl)) (hw _ (List.mem_of_getElem? (i := 56) rfl)) (hw _ (List.mem_of_getElem? (i := 2) rfl)) (hw _ (List.mem_of_getElem? (i := 57) rfl)) (by decide) (argsL := [(.int p2), (.int pl)]) (rest := []) rfl (lenOf pd_0 rfl) rfl (W := 0) rfl (by decide) (by decide) (by decide) (by decide) d9_54 rfl fun T28 h29 X30 q31 => ?_
          obtain ⟨K42, n32, n33, n34, n35, n36, n37, n38, n39, n40, n41⟩ := q31
          have f43 : Exa Z h29 o1 "com/example/knotweave/knotweave/OpenNeeds" := n0_.keep K42
          have k44 : Keep h0 h29 [o1, ha, pa, wa, ra] := k1.trans K42 (allS (Or.inl (List.mem_of_getElem? (i := 0) rfl)) (allS (Or.inl (List.mem_of_getElem? (i := 1) rfl)) (allS (Or.inl (List.mem_of_getElem? (i := 2) rfl)) (allS (Or.inl (List.mem_of_getElem? (i := 3) rfl)) (allS (Or.inl (List.mem_of_getElem? (i := 4) rfl)) all0)))))
          exact w_return X30 d9_57 rfl ⟨hs1, m1, o1k, mm1, (by rw [e1, up, if_pos c3, if_pos (hbf.symm.trans c27)]), k44, (by rw [← v2, ← v1]; exact ⟨n32, n33, n34, n35, n36, n37, n38, n39, n40, n41⟩)⟩ (by decide) (by decide)
        · refine w_iloadN X25 d9_29 rfl rfl ?_
          refine w_iconst X25 d9_30 (v := (1 : Int32)) rfl rfl ?_
          refine w_isub X25 d9_31 rfl ?_
          refine w_iconst X25 d9_32 (v := (2 : Int32)) rfl rfl ?_
          refine w_idiv X25 d9_33 rfl (by decide) ?_
          refine w_istoreN X25 d9_34 rfl (L' := #[.val (.ref o1), .val (.int p2), .val (.int pl), .val (.int ((pl - (1 : Int32)) / (2 : Int32)))]) (XS.store1 (o := s3) rfl hs3 rfl) ?_
          refine w_aloadN X25 d9_35 rfl rfl rfl ?_
          refine w_aloadN X25 d9_36 rfl rfl rfl ?_
          refine w_getF X25 (host := "") (Or.inl (hw _ (List.mem_of_getElem? (i := 10) rfl))) Via.refl n1_ d9_37 rfl fun T45 X46 => ?_
          refine w_iloadN X46 d9_40 rfl rfl ?_
          refine w_iaload X46 n6_ (D0 _ pr4).1 rfl (getI (by rw [lH]; exact (D0 _ pr4).2.1)) d9_41 rfl ?_
          refine w_iloadN X46 d9_42 rfl rfl ?_
          refine w_private0 X46 (rm_settle l Z a0 hw o1 (H.getD (((pl - (1 : Int32)) / (2 : Int32))).toNatClampNeg 0) pl ha pa wa ra H P c0 ws rs h1 n0 X46.size ⟨n0_, n1_, n2_, n3_, n4_, n5_, n6_, n7_, n8_, n9_⟩ ⟨ne_o1_ha, ne_o1_pa, ne_o1_wa, ne_o1_ra, ne_ha_pa, ne_ha_wa, ne_ha_ra, ne_pa_wa, ne_pa_ra, ne_wa_ra⟩ ⟨g_o1, g_ha, g_pa, g_wa, g_ra⟩ y4 f1 lH lP) n0_ (hw _ (List.mem_of_getElem? (i := 54) rfl)) (hw _ (List.mem_of_getElem? (i := 55) rfl)) (hw _ (List.mem_of_getElem? (i := 1) rfl)) (hw _ (List.mem_of_getElem? (i := 56) rfl)) (hw _ (List.mem_of_getElem? (i := 2) rfl)) (hw _ (List.mem_of_getElem? (i := 57) rfl)) (by decide) (argsL := [(.int (H.getD (((pl - (1 : Int32)) / (2 : Int32))).toNatClampNeg 0)), (.int pl)]) (rest := []) rfl (lenOf pd_0 rfl) rfl (W := 0) rfl (by decide) (by decide) (by decide) (by decide) d9_43 rfl fun T47 h48 X49 q50 => ?_
          obtain ⟨K61, n51, n52, n53, n54, n55, n56, n57, n58, n59, n60⟩ := q50
          have f62 : Exa Z h48 o1 "com/example/knotweave/knotweave/OpenNeeds" := n0_.keep K61
          have k63 : Keep h0 h48 [o1, ha, pa, wa, ra] := k1.trans K61 (allS (Or.inl (List.mem_of_getElem? (i := 0) rfl)) (allS (Or.inl (List.mem_of_getElem? (i := 1) rfl)) (allS (Or.inl (List.mem_of_getElem? (i := 2) rfl)) (allS (Or.inl (List.mem_of_getElem? (i := 3) rfl)) (allS (Or.inl (List.mem_of_getElem? (i := 4) rfl)) all0)))))
          refine w_iloadN X49 d9_46 rfl rfl ?_
          refine w_istoreN X49 d9_47 rfl (L' := #[.val (.ref o1), .val (.int p2), .val (.int ((pl - (1 : Int32)) / (2 : Int32))), .val (.int ((pl - (1 : Int32)) / (2 : Int32)))]) rfl ?_
          refine w_goto X49 d9_48 (by decide) (pc' := 7) (by decide) ?_
          exact ih (H.set (pl).toNatClampNeg (H.getD (((pl - (1 : Int32)) / (2 : Int32))).toNatClampNeg 0)) (P.set ((H.getD (((pl - (1 : Int32)) / (2 : Int32))).toNatClampNeg 0)).toNatClampNeg pl) _ ((pl - (1 : Int32)) / (2 : Int32)) _ _ _ X49 ⟨n51, n52, n53, n54, n55, n56, n57, n58, n59, n60⟩ k63 M.1 M.2.1 (M.2.2.1.trans mm1) M.2.2.2.1 M.2.2.2.2.1 (by rw [List.length_set]; exact lH) (by rw [List.length_set]; exact lP) pr4 prc (by have := own_ltI _ _ prl; omega) (by rw [e1, up, if_pos c3, if_neg (fun q => c27 (hbf.trans q))]) (OneS.i _)
  have hpi := DPl hs hs4 c0 hc ho p2 hp hpl
  exact loop 4 hs (plc hs c0) hs _ .unset _ _ X2 O0 (Keep.refl h0 [o1, ha, pa, wa, ra]) hs4 ho rfl hpi.2.2.1 hpi.2.2.2 (DLen hs hs4).1 rfl hpi.1 hpi.2.1 (by have := (D0 _ hpi.1).2.2; omega) rfl OneS.u
theorem d11_0 : decode prog_39_method_8_code 0 = .ok (.aload_n 0, 1) := by decide +kernel
theorem d11_1 : decode prog_39_method_8_code 1 = .ok (.getfield 13, 3) := by decide +kernel
theorem d11_4 : decode prog_39_method_8_code 4 = .ok (.iload_n 1, 1) := by decide +kernel
theorem d11_5 : decode prog_39_method_8_code 5 = .ok (.iaload, 1) := by decide +kernel
theorem d11_6 : decode prog_39_method_8_code 6 = .ok (.istore_n 2, 1) := by decide +kernel
theorem d11_7 : decode prog_39_method_8_code 7 = .ok (.iconst 2, 1) := by decide +kernel
theorem d11_8 : decode prog_39_method_8_code 8 = .ok (.iload_n 2, 1) := by decide +kernel
theorem d11_9 : decode prog_39_method_8_code 9 = .ok (.imul, 1) := by decide +kernel
theorem d11_10 : decode prog_39_method_8_code 10 = .ok (.iconst 1, 1) := by decide +kernel
theorem d11_11 : decode prog_39_method_8_code 11 = .ok (.iadd, 1) := by decide +kernel
theorem d11_12 : decode prog_39_method_8_code 12 = .ok (.istore_n 3, 1) := by decide +kernel
theorem d11_13 : decode prog_39_method_8_code 13 = .ok (.iload_n 3, 1) := by decide +kernel
theorem d11_14 : decode prog_39_method_8_code 14 = .ok (.aload_n 0, 1) := by decide +kernel
theorem d11_15 : decode prog_39_method_8_code 15 = .ok (.getfield 29, 3) := by decide +kernel
theorem d11_18 : decode prog_39_method_8_code 18 = .ok (.if_icmp .ge 76, 3) := by decide +kernel
theorem d11_21 : decode prog_39_method_8_code 21 = .ok (.iload_n 3, 1) := by decide +kernel
theorem d11_22 : decode prog_39_method_8_code 22 = .ok (.iconst 1, 1) := by decide +kernel
theorem d11_23 : decode prog_39_method_8_code 23 = .ok (.iadd, 1) := by decide +kernel
theorem d11_24 : decode prog_39_method_8_code 24 = .ok (.aload_n 0, 1) := by decide +kernel
theorem d11_25 : decode prog_39_method_8_code 25 = .ok (.getfield 29, 3) := by decide +kernel
theorem d11_28 : decode prog_39_method_8_code 28 = .ok (.if_icmp .ge 27, 3) := by decide +kernel
theorem d11_31 : decode prog_39_method_8_code 31 = .ok (.aload_n 0, 1) := by decide +kernel
theorem d11_32 : decode prog_39_method_8_code 32 = .ok (.aload_n 0, 1) := by decide +kernel
theorem d11_33 : decode prog_39_method_8_code 33 = .ok (.getfield 7, 3) := by decide +kernel
theorem d11_36 : decode prog_39_method_8_code 36 = .ok (.iload_n 3, 1) := by decide +kernel
theorem d11_37 : decode prog_39_method_8_code 37 = .ok (.iconst 1, 1) := by decide +kernel
theorem d11_38 : decode prog_39_method_8_code 38 = .ok (.iadd, 1) := by decide +kernel
theorem d11_39 : decode prog_39_method_8_code 39 = .ok (.iaload, 1) := by decide +kernel
theorem d11_40 : decode prog_39_method_8_code 40 = .ok (.aload_n 0, 1) := by decide +kernel
theorem d11_41 : decode prog_39_method_8_code 41 = .ok (.getfield 7, 3) := by decide +kernel
theorem d11_44 : decode prog_39_method_8_code 44 = .ok (.iload_n 3, 1) := by decide +kernel
theorem d11_45 : decode prog_39_method_8_code 45 = .ok (.iaload, 1) := by decide +kernel
theorem d11_46 : decode prog_39_method_8_code 46 = .ok (.invokevirtual 40, 3) := by decide +kernel
theorem d11_49 : decode prog_39_method_8_code 49 = .ok (.ifCond .eq 6, 3) := by decide +kernel
theorem d11_52 : decode prog_39_method_8_code 52 = .ok (.iinc 3 1, 3) := by decide +kernel
theorem d11_55 : decode prog_39_method_8_code 55 = .ok (.aload_n 0, 1) := by decide +kernel
theorem d11_56 : decode prog_39_method_8_code 56 = .ok (.aload_n 0, 1) := by decide +kernel
theorem d11_57 : decode prog_39_method_8_code 57 = .ok (.getfield 7, 3) := by decide +kernel
theorem d11_60 : decode prog_39_method_8_code 60 = .ok (.iload_n 3, 1) := by decide +kernel
theorem d11_61 : decode prog_39_method_8_code 61 = .ok (.iaload, 1) := by decide +kernel
theorem d11_62 : decode prog_39_method_8_code 62 = .ok (.iload_n 1, 1) := by decide +kernel
theorem d11_63 : decode prog_39_method_8_code 63 = .ok (.invokevirtual 40, 3) := by decide +kernel
theorem d11_66 : decode prog_39_method_8_code 66 = .ok (.ifCond .ne 6, 3) := by decide +kernel
theorem d11_69 : decode prog_39_method_8_code 69 = .ok (.goto 25, 3) := by decide +kernel
theorem d11_72 : decode prog_39_method_8_code 72 = .ok (.aload_n 0, 1) := by decide +kernel
theorem d11_73 : decode prog_39_method_8_code 73 = .ok (.aload_n 0, 1) := by decide +kernel
theorem d11_74 : decode prog_39_method_8_code 74 = .ok (.getfield 7, 3) := by decide +kernel
theorem d11_77 : decode prog_39_method_8_code 77 = .ok (.iload_n 3, 1) := by decide +kernel
theorem d11_78 : decode prog_39_method_8_code 78 = .ok (.iaload, 1) := by decide +kernel
theorem d11_79 : decode prog_39_method_8_code 79 = .ok (.iload_n 2, 1) := by decide +kernel
theorem d11_80 : decode prog_39_method_8_code 80 = .ok (.invokevirtual 44, 3) := by decide +kernel
theorem d11_83 : decode prog_39_method_8_code 83 = .ok (.iload_n 3, 1) := by decide +kernel
theorem d11_84 : decode prog_39_method_8_code 84 = .ok (.istore_n 2, 1) := by decide +kernel
theorem d11_85 : decode prog_39_method_8_code 85 = .ok (.iconst 2, 1) := by decide +kernel
theorem d11_86 : decode prog_39_method_8_code 86 = .ok (.iload_n 2, 1) := by decide +kernel
theorem d11_87 : decode prog_39_method_8_code 87 = .ok (.imul, 1) := by decide +kernel
theorem d11_88 : decode prog_39_method_8_code 88 = .ok (.iconst 1, 1) := by decide +kernel
theorem d11_89 : decode prog_39_method_8_code 89 = .ok (.iadd, 1) := by decide +kernel
theorem d11_90 : decode prog_39_method_8_code 90 = .ok (.istore_n 3, 1) := by decide +kernel
theorem d11_91 : decode prog_39_method_8_code 91 = .ok (.goto (-78), 3) := by decide +kernel
theorem d11_94 : decode prog_39_method_8_code 94 = .ok (.aload_n 0, 1) := by decide +kernel
theorem d11_95 : decode prog_39_method_8_code 95 = .ok (.iload_n 1, 1) := by decide +kernel
theorem d11_96 : decode prog_39_method_8_code 96 = .ok (.iload_n 2, 1) := by decide +kernel
theorem d11_97 : decode prog_39_method_8_code 97 = .ok (.invokevirtual 44, 3) := by decide +kernel
theorem d11_100 : decode prog_39_method_8_code 100 = .ok (.return_, 1) := by decide +kernel
theorem pn_11 : plainName "com/example/knotweave/knotweave/OpenNeeds" = true := by first | (simp [plainName, overriddenIn]; done) | decide +kernel
theorem ef_11 (m : MethodId) (o1 : Addr) (p2 : Int32) : entryFrame m #[(.ref o1), (.int p2)] 4 = mkF m 0 #[.val (.ref o1), .val (.int p2), .unset, .unset] [] := by first | (simp [entryFrame, mkF, argsToLocals, Value.category]; done) | rfl
set_option maxRecDepth 65536 in
set_option maxHeartbeats 40000000 in
theorem rm_dn (l : Launch) (Z : State) (a0 : Array Value) (hw : ∀ d ∈ tables_1, d.before a0 Z = true) (o1 : Addr) (p2 : Int32) (ha : Addr) (pa : Addr) (wa : Addr) (ra : Addr) (hs : List Int32) (c0 : Int32) (ws : List Int32) (rs : List Int64) (h0 : Heap) (n0 : Nat) (Z0 : n0 ≤ h0.size) (O : ONs Z h0 o1 ha pa wa ra hs (plc hs c0) c0 ws rs) (D : Dst o1 ha pa wa ra) (G : Ges n0 o1 ha pa wa ra) (bf : Int32 → Int32 → Int32) (hb : ∀ a b, g4 (mm hs c0) a = 1 → g4 (mm hs c0) b = 1 → f_bf ws rs a b = bf a b) (hs4 : hs ∈ S4) (hc : c0 ∈ five) (ho : okb hs c0 = true) (hp : p2 ∈ four) (hpl : ¬ (plc hs c0).getD (p2).toNatClampNeg 0 < 0) (lw : ws.length = 4) (lr : rs.length = 4) :
    Con l Z (⟨"com/example/knotweave/knotweave/OpenNeeds", "siftDown", "(I)V"⟩ : MethodName) prog_39_method_8_code 4 none ({ frames := 1, cells := 0, slots := 0, locals := 14 } : Room) #[(.ref o1), (.int p2)] h0 n0 none (fun h => ∃ hs', hs' ∈ S4 ∧ okb hs' c0 = true ∧ mm hs' c0 = mm hs c0 ∧ hs' = dn bf c0 5 hs (g4 (plc hs c0) p2) p2 ∧ Keep h0 h [o1, ha, pa, wa, ra] ∧ ONs Z h o1 ha pa wa ra hs' (plc hs' c0) c0 ws rs) := by
  refine con_of (plainFor_of_name pn_11) Z0 (fun m => ef_11 m o1 p2) ?_
  intro p e s m below meth c T0 X0
  have O0 := O
  obtain ⟨E_o, F_h, F_p, F_w, F_r, F_c, A_h, A_p, A_w, A_r⟩ := O
  obtain ⟨ne_o1_ha, ne_o1_pa, ne_o1_wa, ne_o1_ra, ne_ha_pa, ne_ha_wa, ne_ha_ra, ne_pa_wa, ne_pa_ra, ne_wa_ra⟩ := D
  obtain ⟨g_o1, g_ha, g_pa, g_wa, g_ra⟩ := G
  refine w_aloadN X0 d11_0 rfl rfl rfl ?_
  refine w_getF X0 (host := "") (Or.inl (hw _ (List.mem_of_getElem? (i := 12) rfl))) Via.refl F_p d11_1 rfl fun T1 X2 => ?_
  refine w_iloadN X2 d11_4 rfl rfl ?_
  refine w_iaload X2 A_p (D0 _ hp).1 rfl (getI (D0 _ hp).2.1) d11_5 rfl ?_
  refine w_istoreN X2 d11_6 rfl (L' := #[.val (.ref o1), .val (.int p2), .val (.int ((plc hs c0).getD (p2).toNatClampNeg 0)), .unset]) rfl ?_
  refine w_iconst X2 d11_7 (v := (2 : Int32)) rfl rfl ?_
  refine w_iloadN X2 d11_8 rfl rfl ?_
  refine w_imul X2 d11_9 rfl ?_
  refine w_iconst X2 d11_10 (v := (1 : Int32)) rfl rfl ?_
  refine w_iadd X2 d11_11 rfl ?_
  refine w_istoreN X2 d11_12 rfl (L' := #[.val (.ref o1), .val (.int p2), .val (.int ((plc hs c0).getD (p2).toNatClampNeg 0)), .val (.int (((2 : Int32) * ((plc hs c0).getD (p2).toNatClampNeg 0)) + (1 : Int32)))]) rfl ?_
  have loop : ∀ (k : Nat) (H P hs1 : List Int32) (pl : Int32) (s3 : Slot) (T1 : State) (h1 : Heap), Wk p l e ({ frames := 1, cells := 0, slots := 0, locals := 14 } : Room) s m #[(.ref o1), (.int p2)] below meth c Z n0 (⟨"com/example/knotweave/knotweave/OpenNeeds", "siftDown", "(I)V"⟩ : MethodName) prog_39_method_8_code 4 none T1 0 0 h1 → ONs Z h1 o1 ha pa wa ra H P c0 ws rs → Keep h0 h1 [o1, ha, pa, wa, ra] → hs1 ∈ S4 → okb hs1 c0 = true → mm hs1 c0 = mm hs c0 → H.set (pl).toNatClampNeg p2 = hs1 → P.set (p2).toNatClampNeg pl = plc hs1 c0 → H.length = 4 → P.length = 4 → pl ∈ four → pl < c0 → (4 : Int) - pl.toInt < k → dn bf c0 5 hs (g4 (plc hs c0) p2) p2 = dn bf c0 k hs1 pl p2 → OneS s3 → Goes p e below (Done below s n0 ({ frames := 1, cells := 0, slots := 0, locals := 14 } : Room) none (fun h => ∃ hs', hs' ∈ S4 ∧ okb hs' c0 = true ∧ mm hs' c0 = mm hs c0 ∧ hs' = dn bf c0 5 hs (g4 (plc hs c0) p2) p2 ∧ Keep h0 h [o1, ha, pa, wa, ra] ∧ ONs Z h o1 ha pa wa ra hs' (plc hs' c0) c0 ws rs)) T1 m 13 #[.val (.ref o1), .val (.int p2), .val (.int pl), .val (.int (((2 : Int32) * pl) + (1 : Int32)))] [] := by
    intro k
    induction k with
    | zero => intro H P hs1 pl s3 T1 h1 X1 O1 k1 m1 o1k mm1 v1 v2 lH lP f1 plc1 b1_; exact absurd b1_ (by have := (D0 _ f1).2.2; omega)
    | succ k ih =>
      intro H P hs1 pl s3 T1 h1 X1 O1 k1 m1 o1k mm1 v1 v2 lH lP f1 plc1 b1_ e1 hs3
      obtain ⟨n0_, n1_, n2_, n3_, n4_, n5_, n6_, n7_, n8_, n9_⟩ := O1
      refine w_iloadN X1 d11_13 rfl rfl ?_
      refine w_aloadN X1 d11_14 rfl rfl rfl ?_
      refine w_getF X1 (host := "") (Or.inl (hw _ (List.mem_of_getElem? (i := 43) rfl))) Via.refl n5_ d11_15 rfl fun T3 X4 => ?_
      refine w_icmp_ge X4 d11_18 (by decide) (pcT := 94) (pcF := 21) (by decide) rfl (fun c5 => ?_) (fun c5 => ?_)
      · refine w_aloadN X4 d11_94 rfl rfl rfl ?_
        refine w_iloadN X4 d11_95 rfl rfl ?_
        refine w_iloadN X4 d11_96 rfl rfl ?_
        refine w_private0 X4 (rm_settle l Z a0 hw o1 p2 pl ha pa wa ra H P c0 ws rs h1 n0 X4.size ⟨n0_, n1_, n2_, n3_, n4_, n5_, n6_, n7_, n8_, n9_⟩ ⟨ne_o1_ha, ne_o1_pa, ne_o1_wa, ne_o1_ra, ne_ha_pa, ne_ha_wa, ne_ha_ra, ne_pa_wa, ne_pa_ra, ne_wa_ra⟩ ⟨g_o1, g_ha, g_pa, g_wa, g_ra⟩ hp f1 lH lP) n0_ (hw _ (List.mem_of_getElem? (i := 54) rfl)) (hw _ (List.mem_of_getElem? (i := 55) rfl)) (hw _ (List.mem_of_getElem? (i := 1) rfl)) (hw _ (List.mem_of_getElem? (i := 56) rfl)) (hw _ (List.mem_of_getElem? (i := 2) rfl)) (hw _ (List.mem_of_getElem? (i := 57) rfl)) (by decide) (argsL := [(.int p2), (.int pl)]) (rest := []) rfl (lenOf pd_0 rfl) rfl (W := 0) rfl (by decide) (by decide) (by decide) (by decide) d11_97 rfl fun T6 h7 X8 q9 => ?_
        obtain ⟨K20, n10, n11, n12, n13, n14, n15, n16, n17, n18, n19⟩ := q9
        have f21 : Exa Z h7 o1 "com/example/knotweave/knotweave/OpenNeeds" := n0_.keep K20
        have k22 : Keep h0 h7 [o1, ha, pa, wa, ra] := k1.trans K20 (allS (Or.inl (List.mem_of_getElem? (i := 0) rfl)) (allS (Or.inl (List.mem_of_getElem? (i := 1) rfl)) (allS (Or.inl (List.mem_of_getElem? (i := 2) rfl)) (allS (Or.inl (List.mem_of_getElem? (i := 3) rfl)) (allS (Or.inl (List.mem_of_getElem? (i := 4) rfl)) all0)))))
        exact w_return X8 d11_100 rfl ⟨hs1, m1, o1k, mm1, (by rw [e1, dn, if_neg c5]), k22, (by rw [← v2, ← v1]; exact ⟨n10, n11, n12, n13, n14, n15, n16, n17, n18, n19⟩)⟩ (by decide) (by decide)
      · obtain ⟨q4a, qpa, qla⟩ := DChi c0 hc pl f1 c5
        have Ma := own_mv hs1 H P c0 pl (((2 : Int32) * pl) + (1 : Int32)) p2 m1 hc o1k qpa plc1 c5 v1 v2 lH hp
        have y4a := Ma.2.2.2.2.2.1
        have yea := Ma.2.2.2.2.2.2.1
        have yma : g4 (mm hs c0) (g4 hs1 (((2 : Int32) * pl) + (1 : Int32))) = 1 := by rw [← mm1]; exact Ma.2.2.2.2.2.2.2
        have hba : f_bf ws rs (H.getD ((((2 : Int32) * pl) + (1 : Int32))).toNatClampNeg 0) p2 = bf (g4 hs1 (((2 : Int32) * pl) + (1 : Int32))) p2 := by rw [yea]; exact hb _ _ yma (own_ml hs c0 hs4 hc p2 hp hpl)
        refine w_iloadN X4 d11_21 rfl rfl ?_
        refine w_iconst X4 d11_22 (v := (1 : Int32)) rfl rfl ?_
        refine w_iadd X4 d11_23 rfl ?_
        refine w_aloadN X4 d11_24 rfl rfl rfl ?_
        refine w_getF X4 (host := "") (Or.inl (hw _ (List.mem_of_getElem? (i := 43) rfl))) Via.refl n5_ d11_25 rfl fun T23 X24 => ?_
        refine w_icmp_ge X24 d11_28 (by decide) (pcT := 55) (pcF := 31) (by decide) rfl (fun c25 => ?_) (fun c25 => ?_)
        · refine w_aloadN X24 d11_55 rfl rfl rfl ?_
          refine w_aloadN X24 d11_56 rfl rfl rfl ?_
          refine w_getF X24 (host := "") (Or.inl (hw _ (List.mem_of_getElem? (i := 10) rfl))) Via.refl n1_ d11_57 rfl fun T26 X27 => ?_
          refine w_iloadN X27 d11_60 rfl rfl ?_
          refine w_iaload X27 n6_ (D0 _ q4a).1 rfl (getI (by rw [lH]; exact (D0 _ q4a).2.1)) d11_61 rfl ?_
          refine w_iloadN X27 d11_62 rfl rfl ?_
          refine w_privateVP X27 (rm_before l Z a0 hw o1 (H.getD ((((2 : Int32) * pl) + (1 : Int32))).toNatClampNeg 0) p2 ha pa wa ra H P c0 ws rs h1 n0 X27.size ⟨n0_, n1_, n2_, n3_, n4_, n5_, n6_, n7_, n8_, n9_⟩ ⟨ne_o1_ha, ne_o1_pa, ne_o1_wa, ne_o1_ra, ne_ha_pa, ne_ha_wa, ne_ha_ra, ne_pa_wa, ne_pa_ra, ne_wa_ra⟩ ⟨g_o1, g_ha, g_pa, g_wa, g_ra⟩ y4a hp lw lr) n0_ (hw _ (List.mem_of_getElem? (i := 62) rfl)) (hw _ (List.mem_of_getElem? (i := 63) rfl)) (hw _ (List.mem_of_getElem? (i := 1) rfl)) (hw _ (List.mem_of_getElem? (i := 64) rfl)) (hw _ (List.mem_of_getElem? (i := 2) rfl)) (hw _ (List.mem_of_getElem? (i := 65) rfl)) (by decide) (argsL := [(.int (H.getD ((((2 : Int32) * pl) + (1 : Int32))).toNatClampNeg 0)), (.int p2)]) (rest := []) rfl (lenOf pd_1 rfl) rfl (W := 0) rfl (by decide) (by decide) (by decide) (by decide) d11_63 rfl fun T28 X30 => ?_
          refine w_if_ne X30 d11_66 (by decide) (pcT := 72) (pcF := 69) (by decide) rfl (fun c32 => ?_) (fun c32 => ?_)
          · refine w_aloadN X30 d11_72 rfl rfl rfl ?_
            refine w_aloadN X30 d11_73 rfl rfl rfl ?_
            refine w_getF X30 (host := "") (Or.inl (hw _ (List.mem_of_getElem? (i := 10) rfl))) Via.refl n1_ d11_74 rfl fun T33 X34 => ?_
            refine w_iloadN X34 d11_77 rfl rfl ?_
            refine w_iaload X34 n6_ (D0 _ q4a).1 rfl (getI (by rw [lH]; exact (D0 _ q4a).2.1)) d11_78 rfl ?_
            refine w_iloadN X34 d11_79 rfl rfl ?_
            refine w_private0 X34 (rm_settle l Z a0 hw o1 (H.getD ((((2 : Int32) * pl) + (1 : Int32))).toNatClampNeg 0) pl ha pa wa ra H P c0 ws rs h1 n0 X34.size ⟨n0_, n1_, n2_, n3_, n4_, n5_, n6_, n7_, n8_, n9_⟩ ⟨ne_o1_ha, ne_o1_pa, ne_o1_wa, ne_o1_ra, ne_ha_pa, ne_ha_wa, ne_ha_ra, ne_pa_wa, ne_pa_ra, ne_wa_ra⟩ ⟨g_o1, g_ha, g_pa, g_wa, g_ra⟩ y4a f1 lH lP) n0_ (hw _ (List.mem_of_getElem? (i := 54) rfl)) (hw _ (List.mem_of_getElem? (i := 55) rfl)) (hw _ (List.mem_of_getElem? (i := 1) rfl)) (hw _ (List.mem_of_getElem? (i := 56) rfl)) (hw _ (List.mem_of_getElem? (i := 2) rfl)) (hw _ (List.mem_of_getElem? (i := 57) rfl)) (by decide) (argsL := [(.int (H.getD ((((2 : Int32) * pl) + (1 : Int32))).toNatClampNeg 0)), (.int pl)]) (rest := []) rfl (lenOf pd_0 rfl) rfl (W := 0) rfl (by decide) (by decide) (by decide) (by decide) d11_80 rfl fun T35 h36 X37 q38 => ?_
            obtain ⟨K49, n39, n40, n41, n42, n43, n44, n45, n46, n47, n48⟩ := q38
            have f50 : Exa Z h36 o1 "com/example/knotweave/knotweave/OpenNeeds" := n0_.keep K49
            have k51 : Keep h0 h36 [o1, ha, pa, wa, ra] := k1.trans K49 (allS (Or.inl (List.mem_of_getElem? (i := 0) rfl)) (allS (Or.inl (List.mem_of_getElem? (i := 1) rfl)) (allS (Or.inl (List.mem_of_getElem? (i := 2) rfl)) (allS (Or.inl (List.mem_of_getElem? (i := 3) rfl)) (allS (Or.inl (List.mem_of_getElem? (i := 4) rfl)) all0)))))
            refine w_iloadN X37 d11_83 rfl rfl ?_
            refine w_istoreN X37 d11_84 rfl (L' := #[.val (.ref o1), .val (.int p2), .val (.int (((2 : Int32) * pl) + (1 : Int32))), .val (.int (((2 : Int32) * pl) + (1 : Int32)))]) rfl ?_
            refine w_iconst X37 d11_85 (v := (2 : Int32)) rfl rfl ?_
            refine w_iloadN X37 d11_86 rfl rfl ?_
            refine w_imul X37 d11_87 rfl ?_
            refine w_iconst X37 d11_88 (v := (1 : Int32)) rfl rfl ?_
            refine w_iadd X37 d11_89 rfl ?_
            refine w_istoreN X37 d11_90 rfl (L' := #[.val (.ref o1), .val (.int p2), .val (.int (((2 : Int32) * pl) + (1 : Int32))), .val (.int (((2 : Int32) * (((2 : Int32) * pl) + (1 : Int32))) + (1 : Int32)))]) rfl ?_
            refine w_goto X37 d11_91 (by decide) (pc' := 13) (by decide) ?_
            exact ih (H.set (pl).toNatClampNeg (H.getD ((((2 : Int32) * pl) + (1 : Int32))).toNatClampNeg 0)) (P.set ((H.getD ((((2 : Int32) * pl) + (1 : Int32))).toNatClampNeg 0)).toNatClampNeg pl) _ (((2 : Int32) * pl) + (1 : Int32)) .unset _ _ X37 ⟨n39, n40, n41, n42, n43, n44, n45, n46, n47, n48⟩ k51 Ma.1 Ma.2.1 (Ma.2.2.1.trans mm1) Ma.2.2.2.1 Ma.2.2.2.2.1 (by rw [List.length_set]; exact lH) (by rw [List.length_set]; exact lP) q4a c5 (by have := own_ltI _ _ qla; omega) (by rw [e1, dn, if_pos c5, if_neg c25, if_neg (fun q => c32 (hba.trans q))]) OneS.u
          · refine w_goto X30 d11_69 (by decide) (pc' := 94) (by decide) ?_
            refine w_aloadN X30 d11_94 rfl rfl rfl ?_
            refine w_iloadN X30 d11_95 rfl rfl ?_
            refine w_iloadN X30 d11_96 rfl rfl ?_
            refine w_private0 X30 (rm_settle l Z a0 hw o1 p2 pl ha pa wa ra H P c0 ws rs h1 n0 X30.size ⟨n0_, n1_, n2_, n3_, n4_, n5_, n6_, n7_, n8_, n9_⟩ ⟨ne_o1_ha, ne_o1_pa, ne_o1_wa, ne_o1_ra, ne_ha_pa, ne_ha_wa, ne_ha_ra, ne_pa_wa, ne_pa_ra, ne_wa_ra⟩ ⟨g_o1, g_ha, g_pa, g_wa, g_ra⟩ hp f1 lH lP) n0_ (hw _ (List.mem_of_getElem? (i := 54) rfl)) (hw _ (List.mem_of_getElem? (i := 55) rfl)) (hw _ (List.mem_of_getElem? (i := 1) rfl)) (hw _ (List.mem_of_getElem? (i := 56) rfl)) (hw _ (List.mem_of_getElem? (i := 2) rfl)) (hw _ (List.mem_of_getElem? (i := 57) rfl)) (by decide) (argsL := [(.int p2), (.int pl)]) (rest := []) rfl (lenOf pd_0 rfl) rfl (W := 0) rfl (by decide) (by decide) (by decide) (by decide) d11_97 rfl fun T52 h53 X54 q55 => ?_
            obtain ⟨K66, n56, n57, n58, n59, n60, n61, n62, n63, n64, n65⟩ := q55
            have f67 : Exa Z h53 o1 "com/example/knotweave/knotweave/OpenNeeds" := n0_.keep K66
            have k68 : Keep h0 h53 [o1, ha, pa, wa, ra] := k1.trans K66 (allS (Or.inl (List.mem_of_getElem? (i := 0) rfl)) (allS (Or.inl (List.mem_of_getElem? (i := 1) rfl)) (allS (Or.inl (List.mem_of_getElem? (i := 2) rfl)) (allS (Or.inl (List.mem_of_getElem? (i := 3) rfl)) (allS (Or.inl (List.mem_of_getElem? (i := 4) rfl)) all0)))))
            exact w_return X54 d11_100 rfl ⟨hs1, m1, o1k, mm1, (by rw [e1, dn, if_pos c5, if_neg c25, if_pos (hba.symm.trans c32)]), k68, (by rw [← v2, ← v1]; exact ⟨n56, n57, n58, n59, n60, n61, n62, n63, n64, n65⟩)⟩ (by decide) (by decide)
        · obtain ⟨q4b, qpb, qlb⟩ := DChj c0 hc pl f1 c25
          have Mb := own_mv hs1 H P c0 pl ((((2 : Int32) * pl) + (1 : Int32)) + (1 : Int32)) p2 m1 hc o1k qpb plc1 c25 v1 v2 lH hp
          have y4b := Mb.2.2.2.2.2.1
          have yeb := Mb.2.2.2.2.2.2.1
          have ymb : g4 (mm hs c0) (g4 hs1 ((((2 : Int32) * pl) + (1 : Int32)) + (1 : Int32))) = 1 := by rw [← mm1]; exact Mb.2.2.2.2.2.2.2
          have hbb : f_bf ws rs (H.getD (((((2 : Int32) * pl) + (1 : Int32)) + (1 : Int32))).toNatClampNeg 0) p2 = bf (g4 hs1 ((((2 : Int32) * pl) + (1 : Int32)) + (1 : Int32))) p2 := by rw [yeb]; exact hb _ _ ymb (own_ml hs c0 hs4 hc p2 hp hpl)
          have hbc : f_bf ws rs (H.getD (((((2 : Int32) * pl) + (1 : Int32)) + (1 : Int32))).toNatClampNeg 0) (H.getD ((((2 : Int32) * pl) + (1 : Int32))).toNatClampNeg 0) = bf (g4 hs1 ((((2 : Int32) * pl) + (1 : Int32)) + (1 : Int32))) (g4 hs1 (((2 : Int32) * pl) + (1 : Int32))) := by rw [yea, yeb]; exact hb _ _ ymb yma
          refine w_aloadN X24 d11_31 rfl rfl rfl ?_
          refine w_aloadN X24 d11_32 rfl rfl rfl ?_
          refine w_getF X24 (host := "") (Or.inl (hw _ (List.mem_of_getElem? (i := 10) rfl))) Via.refl n1_ d11_33 rfl fun T69 X70 => ?_
          refine w_iloadN X70 d11_36 rfl rfl ?_
          refine w_iconst X70 d11_37 (v := (1 : Int32)) rfl rfl ?_
          refine w_iadd X70 d11_38 rfl ?_
          refine w_iaload X70 n6_ (D0 _ q4b).1 rfl (getI (by rw [lH]; exact (D0 _ q4b).2.1)) d11_39 rfl ?_
          refine w_aloadN X70 d11_40 rfl rfl rfl ?_
          refine w_getF X70 (host := "") (Or.inl (hw _ (List.mem_of_getElem? (i := 10) rfl))) Via.refl n1_ d11_41 rfl fun T71 X72 => ?_
          refine w_iloadN X72 d11_44 rfl rfl ?_
          refine w_iaload X72 n6_ (D0 _ q4a).1 rfl (getI (by rw [lH]; exact (D0 _ q4a).2.1)) d11_45 rfl ?_
          refine w_privateVP X72 (rm_before l Z a0 hw o1 (H.getD (((((2 : Int32) * pl) + (1 : Int32)) + (1 : Int32))).toNatClampNeg 0) (H.getD ((((2 : Int32) * pl) + (1 : Int32))).toNatClampNeg 0) ha pa wa ra H P c0 ws rs h1 n0 X72.size ⟨n0_, n1_, n2_, n3_, n4_, n5_, n6_, n7_, n8_, n9_⟩ ⟨ne_o1_ha, ne_o1_pa, ne_o1_wa, ne_o1_ra, ne_ha_pa, ne_ha_wa, ne_ha_ra, ne_pa_wa, ne_pa_ra, ne_wa_ra⟩ ⟨g_o1, g_ha, g_pa, g_wa, g_ra⟩ y4b y4a lw lr) n0_ (hw _ (List.mem_of_getElem? (i := 62) rfl)) (hw _ (List.mem_of_getElem? (i := 63) rfl)) (hw _ (List.mem_of_getElem? (i := 1) rfl)) (hw _ (List.mem_of_getElem? (i := 64) rfl)) (hw _ (List.mem_of_getElem? (i := 2) rfl)) (hw _ (List.mem_of_getElem? (i := 65) rfl)) (by decide) (argsL := [(.int (H.getD (((((2 : Int32) * pl) + (1 : Int32)) + (1 : Int32))).toNatClampNeg 0)), (.int (H.getD ((((2 : Int32) * pl) + (1 : Int32))).toNatClampNeg 0))]) (rest := []) rfl (lenOf pd_1 rfl) rfl (W := 0) rfl (by decide) (by decide) (by decide) (by decide) d11_46 rfl fun T73 X75 => ?_
          refine w_if_eq X75 d11_49 (by decide) (pcT := 55) (pcF := 52) (by decide) rfl (fun c77 => ?_) (fun c77 => ?_)
          · refine w_aloadN X75 d11_55 rfl rfl rfl ?_
            refine w_aloadN X75 d11_56 rfl rfl rfl ?_
            refine w_getF X75 (host := "") (Or.inl (hw _ (List.mem_of_getElem? (i := 10) rfl))) Via.refl n1_ d11_57 rfl fun T78 X79 => ?_
            refine w_iloadN X79 d11_60 rfl rfl ?_
            refine w_iaload X79 n6_ (D0 _ q4a).1 rfl (getI (by rw [lH]; exact (D0 _ q4a).2.1)) d11_61 rfl ?_
            refine w_iloadN X79 d11_62 rfl rfl ?_
            refine w_privateVP X79 (rm_before l Z a0 hw o1 (H.getD ((((2 : Int32) * pl) + (1 : Int32))).toNatClampNeg 0) p2 ha pa wa ra H P c0 ws rs h1 n0 X79.size ⟨n0_, n1_, n2_, n3_, n4_, n5_, n6_, n7_, n8_, n9_⟩ ⟨ne_o1_ha, ne_o1_pa, ne_o1_wa, ne_o1_ra, ne_ha_pa, ne_ha_wa, ne_ha_ra, ne_pa_wa, ne_pa_ra, ne_wa_ra⟩ ⟨g_o1, g_ha, g_pa, g_wa, g_ra⟩ y4a hp lw lr) n0_ (hw _ (List.mem_of_getElem? (i := 62) rfl)) (hw _ (List.mem_of_getElem? (i := 63) rfl)) (hw _ (List.mem_of_getElem? (i := 1) rfl)) (hw _ (List.mem_of_getElem? (i := 64) rfl)) (hw _ (List.mem_of_getElem? (i := 2) rfl)) (hw _ (List.mem_of_getElem? (i := 65) rfl)) (by decide) (argsL := [(.int (H.getD ((((2 : Int32) * pl) + (1 : Int32))).toNatClampNeg 0)), (.int p2)]) (rest := []) rfl (lenOf pd_1 rfl) rfl (W := 0) rfl (by decide) (by decide) (by decide) (by decide) d11_63 rfl fun T80 X82 => ?_
            refine w_if_ne X82 d11_66 (by decide) (pcT := 72) (pcF := 69) (by decide) rfl (fun c84 => ?_) (fun c84 => ?_)
            · refine w_aloadN X82 d11_72 rfl rfl rfl ?_
              refine w_aloadN X82 d11_73 rfl rfl rfl ?_
              refine w_getF X82 (host := "") (Or.inl (hw _ (List.mem_of_getElem? (i := 10) rfl))) Via.refl n1_ d11_74 rfl fun T85 X86 => ?_
              refine w_iloadN X86 d11_77 rfl rfl ?_
              refine w_iaload X86 n6_ (D0 _ q4a).1 rfl (getI (by rw [lH]; exact (D0 _ q4a).2.1)) d11_78 rfl ?_
              refine w_iloadN X86 d11_79 rfl rfl ?_
              refine w_private0 X86 (rm_settle l Z a0 hw o1 (H.getD ((((2 : Int32) * pl) + (1 : Int32))).toNatClampNeg 0) pl ha pa wa ra H P c0 ws rs h1 n0 X86.size ⟨n0_, n1_, n2_, n3_, n4_, n5_, n6_, n7_, n8_, n9_⟩ ⟨ne_o1_ha, ne_o1_pa, ne_o1_wa, ne_o1_ra, ne_ha_pa, ne_ha_wa, ne_ha_ra, ne_pa_wa, ne_pa_ra, ne_wa_ra⟩ ⟨g_o1, g_ha, g_pa, g_wa, g_ra⟩ y4a f1 lH lP) n0_ (hw _ (List.mem_of_getElem? (i := 54) rfl)) (hw _ (List.mem_of_getElem? (i := 55) rfl)) (hw _ (List.mem_of_getElem? (i := 1) rfl)) (hw _ (List.mem_of_getElem? (i := 56) rfl)) (hw _ (List.mem_of_getElem? (i := 2) rfl)) (hw _ (List.mem_of_getElem? (i := 57) rfl)) (by decide) (argsL := [(.int (H.getD ((((2 : Int32) * pl) + (1 : Int32))).toNatClampNeg 0)), (.int pl)]) (rest := []) rfl (lenOf pd_0 rfl) rfl (W := 0) rfl (by decide) (by decide) (by decide) (by decide) d11_80 rfl fun T87 h88 X89 q90 => ?_
              obtain ⟨K101, n91, n92, n93, n94, n95, n96, n97, n98, n99, n100⟩ := q90
              have f102 : Exa Z h88 o1 "com/example/knotweave/knotweave/OpenNeeds" := n0_.keep K101
              have k103 : Keep h0 h88 [o1, ha, pa, wa, ra] := k1.trans K101 (allS (Or.inl (List.mem_of_getElem? (i := 0) rfl)) (allS (Or.inl (List.mem_of_getElem? (i := 1) rfl)) (allS (Or.inl (List.mem_of_getElem? (i := 2) rfl)) (allS (Or.inl (List.mem_of_getElem? (i := 3) rfl)) (allS (Or.inl (List.mem_of_getElem? (i := 4) rfl)) all0)))))
              refine w_iloadN X89 d11_83 rfl rfl ?_
              refine w_istoreN X89 d11_84 rfl (L' := #[.val (.ref o1), .val (.int p2), .val (.int (((2 : Int32) * pl) + (1 : Int32))), .val (.int (((2 : Int32) * pl) + (1 : Int32)))]) rfl ?_
              refine w_iconst X89 d11_85 (v := (2 : Int32)) rfl rfl ?_
              refine w_iloadN X89 d11_86 rfl rfl ?_
              refine w_imul X89 d11_87 rfl ?_
              refine w_iconst X89 d11_88 (v := (1 : Int32)) rfl rfl ?_
              refine w_iadd X89 d11_89 rfl ?_
              refine w_istoreN X89 d11_90 rfl (L' := #[.val (.ref o1), .val (.int p2), .val (.int (((2 : Int32) * pl) + (1 : Int32))), .val (.int (((2 : Int32) * (((2 : Int32) * pl) + (1 : Int32))) + (1 : Int32)))]) rfl ?_
              refine w_goto X89 d11_91 (by decide) (pc' := 13) (by decide) ?_
              exact ih (H.set (pl).toNatClampNeg (H.getD ((((2 : Int32) * pl) + (1 : Int32))).toNatClampNeg 0)) (P.set ((H.getD ((((2 : Int32) * pl) + (1 : Int32))).toNatClampNeg 0)).toNatClampNeg pl) _ (((2 : Int32) * pl) + (1 : Int32)) .unset _ _ X89 ⟨n91, n92, n93, n94, n95, n96, n97, n98, n99, n100⟩ k103 Ma.1 Ma.2.1 (Ma.2.2.1.trans mm1) Ma.2.2.2.1 Ma.2.2.2.2.1 (by rw [List.length_set]; exact lH) (by rw [List.length_set]; exact lP) q4a c5 (by have := own_ltI _ _ qla; omega) (by rw [e1, dn, if_pos c5, if_pos c25, if_pos (hbc.symm.trans c77), if_neg (fun q => c84 (hba.trans q))]) OneS.u
            · refine w_goto X82 d11_69 (by decide) (pc' := 94) (by decide) ?_
              refine w_aloadN X82 d11_94 rfl rfl rfl ?_
              refine w_iloadN X82 d11_95 rfl rfl ?_
              refine w_iloadN X82 d11_96 rfl rfl ?_
              refine w_private0 X82 (rm_settle l Z a0 hw o1 p2 pl ha pa wa ra H P c0 ws rs h1 n0 X82.size ⟨n0_, n1_, n2_, n3_, n4_, n5_, n6_, n7_, n8_, n9_⟩ ⟨ne_o1_ha, ne_o1_pa, ne_o1_wa, ne_o1_ra, ne_ha_pa, ne_ha_wa, ne_ha_ra, ne_pa_wa, ne_pa_ra, ne_wa_ra⟩ ⟨g_o1, g_ha, g_pa, g_wa, g_ra⟩ hp f1 lH lP) n0_ (hw _ (List.mem_of_getElem? (i := 54) rfl)) (hw _ (List.mem_of_getElem? (i := 55) rfl)) (hw _ (List.mem_of_getElem? (i := 1) rfl)) (hw _ (List.mem_of_getElem? (i := 56) rfl)) (hw _ (List.mem_of_getElem? (i := 2) rfl)) (hw _ (List.mem_of_getElem? (i := 57) rfl)) (by decide) (argsL := [(.int p2), (.int pl)]) (rest := []) rfl (lenOf pd_0 rfl) rfl (W := 0) rfl (by decide) (by decide) (by decide) (by decide) d11_97 rfl fun T104 h105 X106 q107 => ?_
              obtain ⟨K118, n108, n109, n110, n111, n112, n113, n114, n115, n116, n117⟩ := q107
              have f119 : Exa Z h105 o1 "com/example/knotweave/knotweave/OpenNeeds" := n0_.keep K118
              have k120 : Keep h0 h105 [o1, ha, pa, wa, ra] := k1.trans K118 (allS (Or.inl (List.mem_of_getElem? (i := 0) rfl)) (allS (Or.inl (List.mem_of_getElem? (i := 1) rfl)) (allS (Or.inl (List.mem_of_getElem? (i := 2) rfl)) (allS (Or.inl (List.mem_of_getElem? (i := 3) rfl)) (allS (Or.inl (List.mem_of_getElem? (i := 4) rfl)) all0)))))
              exact w_return X106 d11_100 rfl ⟨hs1, m1, o1k, mm1, (by rw [e1, dn, if_pos c5, if_pos c25, if_pos (hbc.symm.trans c77), if_pos (hba.symm.trans c84)]), k120, (by rw [← v2, ← v1]; exact ⟨n108, n109, n110, n111, n112, n113, n114, n115, n116, n117⟩)⟩ (by decide) (by decide)
          · refine w_iinc X75 d11_52 rfl rfl (v' := ((((2 : Int32) * pl) + (1 : Int32)) + (1 : Int32))) rfl (L' := #[.val (.ref o1), .val (.int p2), .val (.int pl), .val (.int ((((2 : Int32) * pl) + (1 : Int32)) + (1 : Int32)))]) rfl ?_
            refine w_aloadN X75 d11_55 rfl rfl rfl ?_
            refine w_aloadN X75 d11_56 rfl rfl rfl ?_
            refine w_getF X75 (host := "") (Or.inl (hw _ (List.mem_of_getElem? (i := 10) rfl))) Via.refl n1_ d11_57 rfl fun T121 X122 => ?_
            refine w_iloadN X122 d11_60 rfl rfl ?_
            refine w_iaload X122 n6_ (D0 _ q4b).1 rfl (getI (by rw [lH]; exact (D0 _ q4b).2.1)) d11_61 rfl ?_
            refine w_iloadN X122 d11_62 rfl rfl ?_
            refine w_privateVP X122 (rm_before l Z a0 hw o1 (H.getD (((((2 : Int32) * pl) + (1 : Int32)) + (1 : Int32))).toNatClampNeg 0) p2 ha pa wa ra H P c0 ws rs h1 n0 X122.size ⟨n0_, n1_, n2_, n3_, n4_, n5_, n6_, n7_, n8_, n9_⟩ ⟨ne_o1_ha, ne_o1_pa, ne_o1_wa, ne_o1_ra, ne_ha_pa, ne_ha_wa, ne_ha_ra, ne_pa_wa, ne_pa_ra, ne_wa_ra⟩ ⟨g_o1, g_ha, g_pa, g_wa, g_ra⟩ y4b hp lw lr) n0_ (hw _ (List.mem_of_getElem? (i := 62) rfl)) (hw _ (List.mem_of_getElem? (i := 63) rfl)) (hw _ (List.mem_of_getElem? (i := 1) rfl)) (hw _ (List.mem_of_getElem? (i := 64) rfl)) (hw _ (List.mem_of_getElem? (i := 2) rfl)) (hw _ (List.mem_of_getElem? (i := 65) rfl)) (by decide) (argsL := [(.int (H.getD (((((2 : Int32) * pl) + (1 : Int32)) + (1 : Int32))).toNatClampNeg 0)), (.int p2)]) (rest := []) rfl (lenOf pd_1 rfl) rfl (W := 0) rfl (by decide) (by decide) (by decide) (by decide) d11_63 rfl fun T123 X125 => ?_
            refine w_if_ne X125 d11_66 (by decide) (pcT := 72) (pcF := 69) (by decide) rfl (fun c127 => ?_) (fun c127 => ?_)
            · refine w_aloadN X125 d11_72 rfl rfl rfl ?_
              refine w_aloadN X125 d11_73 rfl rfl rfl ?_
              refine w_getF X125 (host := "") (Or.inl (hw _ (List.mem_of_getElem? (i := 10) rfl))) Via.refl n1_ d11_74 rfl fun T128 X129 => ?_
              refine w_iloadN X129 d11_77 rfl rfl ?_
              refine w_iaload X129 n6_ (D0 _ q4b).1 rfl (getI (by rw [lH]; exact (D0 _ q4b).2.1)) d11_78 rfl ?_
              refine w_iloadN X129 d11_79 rfl rfl ?_
              refine w_private0 X129 (rm_settle l Z a0 hw o1 (H.getD (((((2 : Int32) * pl) + (1 : Int32)) + (1 : Int32))).toNatClampNeg 0) pl ha pa wa ra H P c0 ws rs h1 n0 X129.size ⟨n0_, n1_, n2_, n3_, n4_, n5_, n6_, n7_, n8_, n9_⟩ ⟨ne_o1_ha, ne_o1_pa, ne_o1_wa, ne_o1_ra, ne_ha_pa, ne_ha_wa, ne_ha_ra, ne_pa_wa, ne_pa_ra, ne_wa_ra⟩ ⟨g_o1, g_ha, g_pa, g_wa, g_ra⟩ y4b f1 lH lP) n0_ (hw _ (List.mem_of_getElem? (i := 54) rfl)) (hw _ (List.mem_of_getElem? (i := 55) rfl)) (hw _ (List.mem_of_getElem? (i := 1) rfl)) (hw _ (List.mem_of_getElem? (i := 56) rfl)) (hw _ (List.mem_of_getElem? (i := 2) rfl)) (hw _ (List.mem_of_getElem? (i := 57) rfl)) (by decide) (argsL := [(.int (H.getD (((((2 : Int32) * pl) + (1 : Int32)) + (1 : Int32))).toNatClampNeg 0)), (.int pl)]) (rest := []) rfl (lenOf pd_0 rfl) rfl (W := 0) rfl (by decide) (by decide) (by decide) (by decide) d11_80 rfl fun T130 h131 X132 q133 => ?_
              obtain ⟨K144, n134, n135, n136, n137, n138, n139, n140, n141, n142, n143⟩ := q133
              have f145 : Exa Z h131 o1 "com/example/knotweave/knotweave/OpenNeeds" := n0_.keep K144
              have k146 : Keep h0 h131 [o1, ha, pa, wa, ra] := k1.trans K144 (allS (Or.inl (List.mem_of_getElem? (i := 0) rfl)) (allS (Or.inl (List.mem_of_getElem? (i := 1) rfl)) (allS (Or.inl (List.mem_of_getElem? (i := 2) rfl)) (allS (Or.inl (List.mem_of_getElem? (i := 3) rfl)) (allS (Or.inl (List.mem_of_getElem? (i := 4) rfl)) all0)))))
              refine w_iloadN X132 d11_83 rfl rfl ?_
              refine w_istoreN X132 d11_84 rfl (L' := #[.val (.ref o1), .val (.int p2), .val (.int ((((2 : Int32) * pl) + (1 : Int32)) + (1 : Int32))), .val (.int ((((2 : Int32) * pl) + (1 : Int32)) + (1 : Int32)))]) rfl ?_
              refine w_iconst X132 d11_85 (v := (2 : Int32)) rfl rfl ?_
              refine w_iloadN X132 d11_86 rfl rfl ?_
              refine w_imul X132 d11_87 rfl ?_
              refine w_iconst X132 d11_88 (v := (1 : Int32)) rfl rfl ?_
              refine w_iadd X132 d11_89 rfl ?_
              refine w_istoreN X132 d11_90 rfl (L' := #[.val (.ref o1), .val (.int p2), .val (.int ((((2 : Int32) * pl) + (1 : Int32)) + (1 : Int32))), .val (.int (((2 : Int32) * ((((2 : Int32) * pl) + (1 : Int32)) + (1 : Int32))) + (1 : Int32)))]) rfl ?_
              refine w_goto X132 d11_91 (by decide) (pc' := 13) (by decide) ?_
              exact ih (H.set (pl).toNatClampNeg (H.getD (((((2 : Int32) * pl) + (1 : Int32)) + (1 : Int32))).toNatClampNeg 0)) (P.set ((H.getD (((((2 : Int32) * pl) + (1 : Int32)) + (1 : Int32))).toNatClampNeg 0)).toNatClampNeg pl) _ ((((2 : Int32) * pl) + (1 : Int32)) + (1 : Int32)) .unset _ _ X132 ⟨n134, n135, n136, n137, n138, n139, n140, n141, n142, n143⟩ k146 Mb.1 Mb.2.1 (Mb.2.2.1.trans mm1) Mb.2.2.2.1 Mb.2.2.2.2.1 (by rw [List.length_set]; exact lH) (by rw [List.length_set]; exact lP) q4b c25 (by have := own_ltI _ _ qlb; omega) (by rw [e1, dn, if_pos c5, if_pos c25, if_neg (fun q => c77 (hbc.trans q)), if_neg (fun q => c127 (hbb.trans q))]) OneS.u
            · refine w_goto X125 d11_69 (by decide) (pc' := 94) (by decide) ?_
              refine w_aloadN X125 d11_94 rfl rfl rfl ?_
              refine w_iloadN X125 d11_95 rfl rfl ?_
              refine w_iloadN X125 d11_96 rfl rfl ?_
              refine w_private0 X125 (rm_settle l Z a0 hw o1 p2 pl ha pa wa ra H P c0 ws rs h1 n0 X125.size ⟨n0_, n1_, n2_, n3_, n4_, n5_, n6_, n7_, n8_, n9_⟩ ⟨ne_o1_ha, ne_o1_pa, ne_o1_wa, ne_o1_ra, ne_ha_pa, ne_ha_wa, ne_ha_ra, ne_pa_wa, ne_pa_ra, ne_wa_ra⟩ ⟨g_o1, g_ha, g_pa, g_wa, g_ra⟩ hp f1 lH lP) n0_ (hw _ (List.mem_of_getElem? (i := 54) rfl)) (hw _ (List.mem_of_getElem? (i := 55) rfl)) (hw _ (List.mem_of_getElem? (i := 1) rfl)) (hw _ (List.mem_of_getElem? (i := 56) rfl)) (hw _ (List.mem_of_getElem? (i := 2) rfl)) (hw _ (List.mem_of_getElem? (i := 57) rfl)) (by decide) (argsL := [(.int p2), (.int pl)]) (rest := []) rfl (lenOf pd_0 rfl) rfl (W := 0) rfl (by decide) (by decide) (by decide) (by decide) d11_97 rfl fun T147 h148 X149 q150 => ?_
              obtain ⟨K161, n151, n152, n153, n154, n155, n156, n157, n158, n159, n160⟩ := q150
              have f162 : Exa Z h148 o1 "com/example/knotweave/knotweave/OpenNeeds" := n0_.keep K161
              have k163 : Keep h0 h148 [o1, ha, pa, wa, ra] := k1.trans K161 (allS (Or.inl (List.mem_of_getElem? (i := 0) rfl)) (allS (Or.inl (List.mem_of_getElem? (i := 1) rfl)) (allS (Or.inl (List.mem_of_getElem? (i := 2) rfl)) (allS (Or.inl (List.mem_of_getElem? (i := 3) rfl)) (allS (Or.inl (List.mem_of_getElem? (i := 4) rfl)) all0)))))
              exact w_return X149 d11_100 rfl ⟨hs1, m1, o1k, mm1, (by rw [e1, dn, if_pos c5, if_pos c25, if_neg (fun q => c77 (hbc.trans q)), if_pos (hbb.symm.trans c127)]), k163, (by rw [← v2, ← v1]; exact ⟨n151, n152, n153, n154, n155, n156, n157, n158, n159, n160⟩)⟩ (by decide) (by decide)
  have hpi := DPl hs hs4 c0 hc ho p2 hp hpl
  exact loop 5 hs (plc hs c0) hs _ .unset _ _ X2 O0 (Keep.refl h0 [o1, ha, pa, wa, ra]) hs4 ho rfl hpi.2.2.1 hpi.2.2.2 (DLen hs hs4).1 rfl hpi.1 hpi.2.1 (by have := (D0 _ hpi.1).2.2; omega) rfl OneS.u
theorem d8_0 : decode prog_39_method_5_code 0 = .ok (.aload_n 0, 1) := by decide +kernel
theorem d8_1 : decode prog_39_method_5_code 1 = .ok (.getfield 16, 3) := by decide +kernel
theorem d8_4 : decode prog_39_method_5_code 4 = .ok (.iload_n 1, 1) := by decide +kernel
theorem d8_5 : decode prog_39_method_5_code 5 = .ok (.iload_n 2, 1) := by decide +kernel
theorem d8_6 : decode prog_39_method_5_code 6 = .ok (.iastore, 1) := by decide +kernel
theorem d8_7 : decode prog_39_method_5_code 7 = .ok (.aload_n 0, 1) := by decide +kernel
theorem d8_8 : decode prog_39_method_5_code 8 = .ok (.getfield 19, 3) := by decide +kernel
theorem d8_11 : decode prog_39_method_5_code 11 = .ok (.iload_n 1, 1) := by decide +kernel
theorem d8_12 : decode prog_39_method_5_code 12 = .ok (.lload_n 3, 1) := by decide +kernel
theorem d8_13 : decode prog_39_method_5_code 13 = .ok (.lastore, 1) := by decide +kernel
theorem d8_14 : decode prog_39_method_5_code 14 = .ok (.aload_n 0, 1) := by decide +kernel
theorem d8_15 : decode prog_39_method_5_code 15 = .ok (.getfield 13, 3) := by decide +kernel
theorem d8_18 : decode prog_39_method_5_code 18 = .ok (.iload_n 1, 1) := by decide +kernel
theorem d8_19 : decode prog_39_method_5_code 19 = .ok (.iaload, 1) := by decide +kernel
theorem d8_20 : decode prog_39_method_5_code 20 = .ok (.ifCond .ge 30, 3) := by decide +kernel
theorem d8_23 : decode prog_39_method_5_code 23 = .ok (.aload_n 0, 1) := by decide +kernel
theorem d8_24 : decode prog_39_method_5_code 24 = .ok (.getfield 13, 3) := by decide +kernel
theorem d8_27 : decode prog_39_method_5_code 27 = .ok (.iload_n 1, 1) := by decide +kernel
theorem d8_28 : decode prog_39_method_5_code 28 = .ok (.aload_n 0, 1) := by decide +kernel
theorem d8_29 : decode prog_39_method_5_code 29 = .ok (.getfield 29, 3) := by decide +kernel
theorem d8_32 : decode prog_39_method_5_code 32 = .ok (.iastore, 1) := by decide +kernel
theorem d8_33 : decode prog_39_method_5_code 33 = .ok (.aload_n 0, 1) := by decide +kernel
theorem d8_34 : decode prog_39_method_5_code 34 = .ok (.getfield 7, 3) := by decide +kernel
theorem d8_37 : decode prog_39_method_5_code 37 = .ok (.aload_n 0, 1) := by decide +kernel
theorem d8_38 : decode prog_39_method_5_code 38 = .ok (.dup, 1) := by decide +kernel
theorem d8_39 : decode prog_39_method_5_code 39 = .ok (.getfield 29, 3) := by decide +kernel
theorem d8_42 : decode prog_39_method_5_code 42 = .ok (.dup_x1, 1) := by decide +kernel
theorem d8_43 : decode prog_39_method_5_code 43 = .ok (.iconst 1, 1) := by decide +kernel
theorem d8_44 : decode prog_39_method_5_code 44 = .ok (.iadd, 1) := by decide +kernel
theorem d8_45 : decode prog_39_method_5_code 45 = .ok (.putfield 29, 3) := by decide +kernel
theorem d8_48 : decode prog_39_method_5_code 48 = .ok (.iload_n 1, 1) := by decide +kernel
theorem d8_49 : decode prog_39_method_5_code 49 = .ok (.iastore, 1) := by decide +kernel
theorem d8_50 : decode prog_39_method_5_code 50 = .ok (.aload_n 0, 1) := by decide +kernel
theorem d8_51 : decode prog_39_method_5_code 51 = .ok (.iload_n 1, 1) := by decide +kernel
theorem d8_52 : decode prog_39_method_5_code 52 = .ok (.invokevirtual 33, 3) := by decide +kernel
theorem d8_55 : decode prog_39_method_5_code 55 = .ok (.aload_n 0, 1) := by decide +kernel
theorem d8_56 : decode prog_39_method_5_code 56 = .ok (.iload_n 1, 1) := by decide +kernel
theorem d8_57 : decode prog_39_method_5_code 57 = .ok (.invokevirtual 37, 3) := by decide +kernel
theorem d8_60 : decode prog_39_method_5_code 60 = .ok (.return_, 1) := by decide +kernel
theorem pd_2 : parseMethodDescriptor "(I)V" = some ⟨[.int], none⟩ := by decide +kernel
theorem pn_8 : plainName "com/example/knotweave/knotweave/OpenNeeds" = true := by first | (simp [plainName, overriddenIn]; done) | decide +kernel
theorem ef_8 (m : MethodId) (o1 : Addr) (p2 : Int32) (p3 : Int32) (q4 : Int64) : entryFrame m #[(.ref o1), (.int p2), (.int p3), (.long q4)] 5 = mkF m 0 #[.val (.ref o1), .val (.int p2), .val (.int p3), .val (.long q4), .second] [] := by first | (simp [entryFrame, mkF, argsToLocals, Value.category]; done) | rfl
set_option maxRecDepth 65536 in
set_option maxHeartbeats 40000000 in
theorem rm_put (l : Launch) (Z : State) (a0 : Array Value) (hw : ∀ d ∈ tables_1, d.before a0 Z = true) (o1 : Addr) (p2 : Int32) (p3 : Int32) (q4 : Int64) (ha : Addr) (pa : Addr) (wa : Addr) (ra : Addr) (hs : List Int32) (c0 : Int32) (ws : List Int32) (rs : List Int64) (h0 : Heap) (n0 : Nat) (Z0 : n0 ≤ h0.size) (O : ONs Z h0 o1 ha pa wa ra hs (plc hs c0) c0 ws rs) (D : Dst o1 ha pa wa ra) (G : Ges n0 o1 ha pa wa ra) (bf : Int32 → Int32 → Int32) (hb : ∀ a b, g4 ((mm hs c0).set (p2).toNatClampNeg 1) a = 1 → g4 ((mm hs c0).set (p2).toNatClampNeg 1) b = 1 → f_bf (ws.set (p2).toNatClampNeg p3) (rs.set (p2).toNatClampNeg q4) a b = bf a b) (hs4 : hs ∈ S4) (hc : c0 ∈ five) (ho : okb hs c0 = true) (hp : p2 ∈ four) (lw : ws.length = 4) (lr : rs.length = 4) :
    Con l Z (⟨"com/example/knotweave/knotweave/OpenNeeds", "put", "(IIJ)V"⟩ : MethodName) prog_39_method_5_code 5 none ({ frames := 2, cells := 0, slots := 0, locals := 29 } : Room) #[(.ref o1), (.int p2), (.int p3), (.long q4)] h0 n0 none (fun h => ∃ hs', hs' ∈ S4 ∧ putC hs c0 p2 ∈ five ∧ okb hs' (putC hs c0 p2) = true ∧ mm hs' (putC hs c0 p2) = (mm hs c0).set (p2).toNatClampNeg 1 ∧ hs' = putH bf hs c0 p2 ∧ Keep h0 h [o1, ha, pa, wa, ra] ∧ ONs Z h o1 ha pa wa ra hs' (plc hs' (putC hs c0 p2)) (putC hs c0 p2) (ws.set (p2).toNatClampNeg p3) (rs.set (p2).toNatClampNeg q4)) := by
  refine con_of (plainFor_of_name pn_8) Z0 (fun m => ef_8 m o1 p2 p3 q4) ?_
  intro p e s m below meth c T0 X0
  obtain ⟨E_o, F_h, F_p, F_w, F_r, F_c, A_h, A_p, A_w, A_r⟩ := O
  obtain ⟨ne_o1_ha, ne_o1_pa, ne_o1_wa, ne_o1_ra, ne_ha_pa, ne_ha_wa, ne_ha_ra, ne_pa_wa, ne_pa_ra, ne_wa_ra⟩ := D
  obtain ⟨g_o1, g_ha, g_pa, g_wa, g_ra⟩ := G
  refine w_aloadN X0 d8_0 rfl rfl rfl ?_
  refine w_getF X0 (host := "") (Or.inl (hw _ (List.mem_of_getElem? (i := 14) rfl))) Via.refl F_w d8_1 rfl fun T1 X2 => ?_
  refine w_iloadN X2 d8_4 rfl rfl ?_
  refine w_iloadN X2 d8_5 rfl rfl ?_
  refine w_iastore X2 A_w (D0 _ hp).1 rfl (by rw [List.length_map]; exact (by rw [lw]; exact (D0 _ hp).2.1)) g_wa d8_6 rfl fun T3 h6 X4 W5 A7 => ?_
  rw [← List.map_set] at A7
  obtain ⟨xs8, hxs8⟩ : ∃ z, z = (ws.set (p2).toNatClampNeg p3) := ⟨_, rfl⟩
  rw [← hxs8] at A7
  have f9 : Exa Z h6 o1 "com/example/knotweave/knotweave/OpenNeeds" := Exa.wr W5 E_o
  have f10 : Fld Z h6 o1 "com/example/knotweave/knotweave/OpenNeeds" "heap" "[I" (.ref ha) := Fld.other W5 F_h (Or.inl ne_o1_wa)
  have f11 : Fld Z h6 o1 "com/example/knotweave/knotweave/OpenNeeds" "placeOf" "[I" (.ref pa) := Fld.other W5 F_p (Or.inl ne_o1_wa)
  have f12 : Fld Z h6 o1 "com/example/knotweave/knotweave/OpenNeeds" "waysOf" "[I" (.ref wa) := Fld.other W5 F_w (Or.inl ne_o1_wa)
  have f13 : Fld Z h6 o1 "com/example/knotweave/knotweave/OpenNeeds" "rankOf" "[J" (.ref ra) := Fld.other W5 F_r (Or.inl ne_o1_wa)
  have f14 : Fld Z h6 o1 "com/example/knotweave/knotweave/OpenNeeds" "count" "I" (.int c0) := Fld.other W5 F_c (Or.inl ne_o1_wa)
  have f15 : AV Z h6 ha .int (hs.map Value.int) := A_h.other W5 ne_ha_wa
  have f16 : AV Z h6 pa .int ((plc hs c0).map Value.int) := A_p.other W5 ne_pa_wa
  have f17 : AV Z h6 wa .int (xs8.map Value.int) := A7
  have f18 : AV Z h6 ra .long (rs.map Value.long) := A_r.other W5 (Ne.symm ne_wa_ra)
  have k19 : Keep h0 h6 [o1, ha, pa, wa, ra] := (Keep.refl h0 [o1, ha, pa, wa, ra]).wr W5 (Or.inl (List.mem_of_getElem? (i := 3) rfl))
  refine w_aloadN X4 d8_7 rfl rfl rfl ?_
  refine w_getF X4 (host := "") (Or.inl (hw _ (List.mem_of_getElem? (i := 17) rfl))) Via.refl f13 d8_8 rfl fun T20 X21 => ?_
  refine w_iloadN X21 d8_11 rfl rfl ?_
  refine w_lloadN X21 d8_12 rfl rfl ?_
  refine w_lastore X21 f18 (D0 _ hp).1 rfl (by rw [List.length_map]; exact (by rw [lr]; exact (D0 _ hp).2.1)) g_ra d8_13 rfl fun T22 h25 X23 W24 A26 => ?_
  rw [← List.map_set] at A26
  obtain ⟨xs27, hxs27⟩ : ∃ z, z = (rs.set (p2).toNatClampNeg q4) := ⟨_, rfl⟩
  rw [← hxs27] at A26
  have f28 : Exa Z h25 o1 "com/example/knotweave/knotweave/OpenNeeds" := Exa.wr W24 f9
  have f29 : Fld Z h25 o1 "com/example/knotweave/knotweave/OpenNeeds" "heap" "[I" (.ref ha) := Fld.other W24 f10 (Or.inl ne_o1_ra)
  have f30 : Fld Z h25 o1 "com/example/knotweave/knotweave/OpenNeeds" "placeOf" "[I" (.ref pa) := Fld.other W24 f11 (Or.inl ne_o1_ra)
  have f31 : Fld Z h25 o1 "com/example/knotweave/knotweave/OpenNeeds" "waysOf" "[I" (.ref wa) := Fld.other W24 f12 (Or.inl ne_o1_ra)
  have f32 : Fld Z h25 o1 "com/example/knotweave/knotweave/OpenNeeds" "rankOf" "[J" (.ref ra) := Fld.other W24 f13 (Or.inl ne_o1_ra)
  have f33 : Fld Z h25 o1 "com/example/knotweave/knotweave/OpenNeeds" "count" "I" (.int c0) := Fld.other W24 f14 (Or.inl ne_o1_ra)
  have f34 : AV Z h25 ha .int (hs.map Value.int) := f15.other W24 ne_ha_ra
  have f35 : AV Z h25 pa .int ((plc hs c0).map Value.int) := f16.other W24 ne_pa_ra
  have f36 : AV Z h25 wa .int (xs8.map Value.int) := f17.other W24 ne_wa_ra
  have f37 : AV Z h25 ra .long (xs27.map Value.long) := A26
  have k38 : Keep h0 h25 [o1, ha, pa, wa, ra] := k19.wr W24 (Or.inl (List.mem_of_getElem? (i := 4) rfl))
  refine w_aloadN X23 d8_14 rfl rfl rfl ?_
  refine w_getF X23 (host := "") (Or.inl (hw _ (List.mem_of_getElem? (i := 12) rfl))) Via.refl f30 d8_15 rfl fun T39 X40 => ?_
  refine w_iloadN X40 d8_18 rfl rfl ?_
  refine w_iaload X40 f35 (D0 _ hp).1 rfl (getI (D0 _ hp).2.1) d8_19 rfl ?_
  refine w_if_ge X40 d8_20 (by decide) (pcT := 50) (pcF := 23) (by decide) rfl (fun c41 => ?_) (fun c41 => ?_)
  · have f42 : AV Z h25 wa .int ((ws.set (p2).toNatClampNeg p3).map Value.int) := by rw [← hxs8]; exact f36
    have f43 : AV Z h25 ra .long ((rs.set (p2).toNatClampNeg q4).map Value.long) := by rw [← hxs27]; exact f37
    have lm : (mm hs c0).length = 4 := rfl
    have I_ := (DMx hs hs4 c0 hc p2 hp).2 c41
    have hI : putI hs c0 p2 = hs := if_neg c41
    have hC : putC hs c0 p2 = c0 := if_neg c41
    refine w_aloadN X40 d8_50 rfl rfl rfl ?_
    refine w_iloadN X40 d8_51 rfl rfl ?_
    refine w_private0 X40 (rm_up l Z a0 hw o1 p2 ha pa wa ra hs c0 (ws.set (p2).toNatClampNeg p3) (rs.set (p2).toNatClampNeg q4) h25 n0 X40.size ⟨f28, f29, f30, f31, f32, f33, f34, f35, f42, f43⟩ ⟨ne_o1_ha, ne_o1_pa, ne_o1_wa, ne_o1_ra, ne_ha_pa, ne_ha_wa, ne_ha_ra, ne_pa_wa, ne_pa_ra, ne_wa_ra⟩ ⟨g_o1, g_ha, g_pa, g_wa, g_ra⟩ bf (by rw [I_.2.symm]; exact hb) hs4 hc ho hp (own_pl _ _ hs4 hc _ hp (by rw [I_.2.symm]; exact (own_g1 _ lm _ hp))) (by rw [List.length_set]; exact lw) (by rw [List.length_set]; exact lr)) f28 (hw _ (List.mem_of_getElem? (i := 50) rfl)) (hw _ (List.mem_of_getElem? (i := 51) rfl)) (hw _ (List.mem_of_getElem? (i := 1) rfl)) (hw _ (List.mem_of_getElem? (i := 52) rfl)) (hw _ (List.mem_of_getElem? (i := 2) rfl)) (hw _ (List.mem_of_getElem? (i := 53) rfl)) (by decide) (argsL := [(.int p2)]) (rest := []) rfl (lenOf pd_2 rfl) rfl (W := 0) rfl (by decide) (by decide) (by decide) (by decide) d8_52 rfl fun T44 h45 X46 q47 => ?_
    obtain ⟨hs58, m59, ok60, mm61, md62, K63, n48, n49, n50, n51, n52, n53, n54, n55, n56, n57⟩ := q47
    have f64 : Exa Z h45 o1 "com/example/knotweave/knotweave/OpenNeeds" := f28.keep K63
    have k65 : Keep h0 h45 [o1, ha, pa, wa, ra] := k38.trans K63 (allS (Or.inl (List.mem_of_getElem? (i := 0) rfl)) (allS (Or.inl (List.mem_of_getElem? (i := 1) rfl)) (allS (Or.inl (List.mem_of_getElem? (i := 2) rfl)) (allS (Or.inl (List.mem_of_getElem? (i := 3) rfl)) (allS (Or.inl (List.mem_of_getElem? (i := 4) rfl)) all0)))))
    refine w_aloadN X46 d8_55 rfl rfl rfl ?_
    refine w_iloadN X46 d8_56 rfl rfl ?_
    refine w_private0 X46 (rm_dn l Z a0 hw o1 p2 ha pa wa ra hs58 c0 (ws.set (p2).toNatClampNeg p3) (rs.set (p2).toNatClampNeg q4) h45 n0 X46.size ⟨n48, n49, n50, n51, n52, n53, n54, n55, n56, n57⟩ ⟨ne_o1_ha, ne_o1_pa, ne_o1_wa, ne_o1_ra, ne_ha_pa, ne_ha_wa, ne_ha_ra, ne_pa_wa, ne_pa_ra, ne_wa_ra⟩ ⟨g_o1, g_ha, g_pa, g_wa, g_ra⟩ bf (by rw [(mm61.trans I_.2.symm)]; exact hb) m59 hc ok60 hp (own_pl _ _ m59 hc _ hp (by rw [(mm61.trans I_.2.symm)]; exact (own_g1 _ lm _ hp))) (by rw [List.length_set]; exact lw) (by rw [List.length_set]; exact lr)) n48 (hw _ (List.mem_of_getElem? (i := 58) rfl)) (hw _ (List.mem_of_getElem? (i := 59) rfl)) (hw _ (List.mem_of_getElem? (i := 1) rfl)) (hw _ (List.mem_of_getElem? (i := 60) rfl)) (hw _ (List.mem_of_getElem? (i := 2) rfl)) (hw _ (List.mem_of_getElem? (i := 61) rfl)) (by decide) (argsL := [(.int p2)]) (rest := []) rfl (lenOf pd_2 rfl) rfl (W := 0) rfl (by decide) (by decide) (by decide) (by decide) d8_57 rfl fun T66 h67 X68 q69 => ?_
    obtain ⟨hs80, m81, ok82, mm83, md84, K85, n70, n71, n72, n73, n74, n75, n76, n77, n78, n79⟩ := q69
    have f86 : Exa Z h67 o1 "com/example/knotweave/knotweave/OpenNeeds" := n48.keep K85
    have k87 : Keep h0 h67 [o1, ha, pa, wa, ra] := k65.trans K85 (allS (Or.inl (List.mem_of_getElem? (i := 0) rfl)) (allS (Or.inl (List.mem_of_getElem? (i := 1) rfl)) (allS (Or.inl (List.mem_of_getElem? (i := 2) rfl)) (allS (Or.inl (List.mem_of_getElem? (i := 3) rfl)) (allS (Or.inl (List.mem_of_getElem? (i := 4) rfl)) all0)))))
    exact w_return X68 d8_60 rfl ⟨hs80, m81, (by rw [hC]; exact hc), (by rw [hC]; exact ok82), (by rw [hC]; exact ((mm83.trans mm61).trans I_.2.symm)), (by rw [putH, sift, hI, hC, ← md62, ← md84]), k87, (by rw [hC]; exact ⟨n70, n71, n72, n73, n74, n75, n76, n77, n78, n79⟩)⟩ (by decide) (by decide)
  · have I_ := DIn hs hs4 c0 hc ho p2 hp c41
    refine w_aloadN X40 d8_23 rfl rfl rfl ?_
    refine w_getF X40 (host := "") (Or.inl (hw _ (List.mem_of_getElem? (i := 12) rfl))) Via.refl f30 d8_24 rfl fun T88 X89 => ?_
    refine w_iloadN X89 d8_27 rfl rfl ?_
    refine w_aloadN X89 d8_28 rfl rfl rfl ?_
    refine w_getF X89 (host := "") (Or.inl (hw _ (List.mem_of_getElem? (i := 43) rfl))) Via.refl f33 d8_29 rfl fun T90 X91 => ?_
    refine w_iastore X91 f35 (D0 _ hp).1 rfl (by rw [List.length_map]; exact (D0 _ hp).2.1) g_pa d8_32 rfl fun T92 h95 X93 W94 A96 => ?_
    rw [← List.map_set] at A96
    obtain ⟨xs97, hxs97⟩ : ∃ z, z = ((plc hs c0).set (p2).toNatClampNeg c0) := ⟨_, rfl⟩
    rw [← hxs97] at A96
    have f98 : Exa Z h95 o1 "com/example/knotweave/knotweave/OpenNeeds" := Exa.wr W94 f28
    have f99 : Fld Z h95 o1 "com/example/knotweave/knotweave/OpenNeeds" "heap" "[I" (.ref ha) := Fld.other W94 f29 (Or.inl ne_o1_pa)
    have f100 : Fld Z h95 o1 "com/example/knotweave/knotweave/OpenNeeds" "placeOf" "[I" (.ref pa) := Fld.other W94 f30 (Or.inl ne_o1_pa)
    have f101 : Fld Z h95 o1 "com/example/knotweave/knotweave/OpenNeeds" "waysOf" "[I" (.ref wa) := Fld.other W94 f31 (Or.inl ne_o1_pa)
    have f102 : Fld Z h95 o1 "com/example/knotweave/knotweave/OpenNeeds" "rankOf" "[J" (.ref ra) := Fld.other W94 f32 (Or.inl ne_o1_pa)
    have f103 : Fld Z h95 o1 "com/example/knotweave/knotweave/OpenNeeds" "count" "I" (.int c0) := Fld.other W94 f33 (Or.inl ne_o1_pa)
    have f104 : AV Z h95 ha .int (hs.map Value.int) := f34.other W94 ne_ha_pa
    have f105 : AV Z h95 pa .int (xs97.map Value.int) := A96
    have f106 : AV Z h95 wa .int (xs8.map Value.int) := f36.other W94 (Ne.symm ne_pa_wa)
    have f107 : AV Z h95 ra .long (xs27.map Value.long) := f37.other W94 (Ne.symm ne_pa_ra)
    have k108 : Keep h0 h95 [o1, ha, pa, wa, ra] := k38.wr W94 (Or.inl (List.mem_of_getElem? (i := 2) rfl))
    refine w_aloadN X93 d8_33 rfl rfl rfl ?_
    refine w_getF X93 (host := "") (Or.inl (hw _ (List.mem_of_getElem? (i := 10) rfl))) Via.refl f99 d8_34 rfl fun T109 X110 => ?_
    refine w_aloadN X110 d8_37 rfl rfl rfl ?_
    refine w_dup X110 d8_38 rfl rfl ?_
    refine w_getF X110 (host := "") (Or.inl (hw _ (List.mem_of_getElem? (i := 43) rfl))) Via.refl f103 d8_39 rfl fun T111 X112 => ?_
    refine w_dupX1 X112 d8_42 rfl rfl rfl ?_
    refine w_iconst X112 d8_43 (v := (1 : Int32)) rfl rfl ?_
    refine w_iadd X112 d8_44 rfl ?_
    refine w_putF X112 (host := "") (Or.inl (hw _ (List.mem_of_getElem? (i := 43) rfl))) Via.refl f103 f98 (Or.inl (hw _ (List.mem_of_getElem? (i := 44) rfl))) (hw _ (List.mem_of_getElem? (i := 1) rfl)) (ty := .int) (by decide) rfl rfl g_o1 d8_45 rfl fun T113 h116 X114 W115 => ?_
    have f117 : Exa Z h116 o1 "com/example/knotweave/knotweave/OpenNeeds" := Exa.wr W115 f98
    have f118 : Fld Z h116 o1 "com/example/knotweave/knotweave/OpenNeeds" "heap" "[I" (.ref ha) := Fld.other W115 f99 (Or.inr (slot_ne (Or.inr (hw _ (List.mem_of_getElem? (i := 11) rfl))) (Or.inl (hw _ (List.mem_of_getElem? (i := 44) rfl))) (by decide) (t := (.array .int)) (t' := .int) (by decide) (by decide)))
    have f119 : Fld Z h116 o1 "com/example/knotweave/knotweave/OpenNeeds" "placeOf" "[I" (.ref pa) := Fld.other W115 f100 (Or.inr (slot_ne (Or.inr (hw _ (List.mem_of_getElem? (i := 13) rfl))) (Or.inl (hw _ (List.mem_of_getElem? (i := 44) rfl))) (by decide) (t := (.array .int)) (t' := .int) (by decide) (by decide)))
    have f120 : Fld Z h116 o1 "com/example/knotweave/knotweave/OpenNeeds" "waysOf" "[I" (.ref wa) := Fld.other W115 f101 (Or.inr (slot_ne (Or.inr (hw _ (List.mem_of_getElem? (i := 15) rfl))) (Or.inl (hw _ (List.mem_of_getElem? (i := 44) rfl))) (by decide) (t := (.array .int)) (t' := .int) (by decide) (by decide)))
    have f121 : Fld Z h116 o1 "com/example/knotweave/knotweave/OpenNeeds" "rankOf" "[J" (.ref ra) := Fld.other W115 f102 (Or.inr (slot_ne (Or.inr (hw _ (List.mem_of_getElem? (i := 18) rfl))) (Or.inl (hw _ (List.mem_of_getElem? (i := 44) rfl))) (by decide) (t := (.array .long)) (t' := .int) (by decide) (by decide)))
    have f122 : Fld Z h116 o1 "com/example/knotweave/knotweave/OpenNeeds" "count" "I" (.int (c0 + (1 : Int32))) := Fld.same W115 f103
    have f123 : AV Z h116 ha .int (hs.map Value.int) := f104.other W115 (Ne.symm ne_o1_ha)
    have f124 : AV Z h116 pa .int (xs97.map Value.int) := f105.other W115 (Ne.symm ne_o1_pa)
    have f125 : AV Z h116 wa .int (xs8.map Value.int) := f106.other W115 (Ne.symm ne_o1_wa)
    have f126 : AV Z h116 ra .long (xs27.map Value.long) := f107.other W115 (Ne.symm ne_o1_ra)
    have k127 : Keep h0 h116 [o1, ha, pa, wa, ra] := k108.wr W115 (Or.inl (List.mem_of_getElem? (i := 0) rfl))
    refine w_iloadN X114 d8_48 rfl rfl ?_
    refine w_iastore X114 f123 (D0 _ I_.1).1 rfl (by rw [List.length_map]; exact (by rw [(DLen hs hs4).1]; exact (D0 _ I_.1).2.1)) g_ha d8_49 rfl fun T128 h131 X129 W130 A132 => ?_
    rw [← List.map_set] at A132
    obtain ⟨xs133, hxs133⟩ : ∃ z, z = (hs.set (c0).toNatClampNeg p2) := ⟨_, rfl⟩
    rw [← hxs133] at A132
    have f134 : Exa Z h131 o1 "com/example/knotweave/knotweave/OpenNeeds" := Exa.wr W130 f117
    have f135 : Fld Z h131 o1 "com/example/knotweave/knotweave/OpenNeeds" "heap" "[I" (.ref ha) := Fld.other W130 f118 (Or.inl ne_o1_ha)
    have f136 : Fld Z h131 o1 "com/example/knotweave/knotweave/OpenNeeds" "placeOf" "[I" (.ref pa) := Fld.other W130 f119 (Or.inl ne_o1_ha)
    have f137 : Fld Z h131 o1 "com/example/knotweave/knotweave/OpenNeeds" "waysOf" "[I" (.ref wa) := Fld.other W130 f120 (Or.inl ne_o1_ha)
    have f138 : Fld Z h131 o1 "com/example/knotweave/knotweave/OpenNeeds" "rankOf" "[J" (.ref ra) := Fld.other W130 f121 (Or.inl ne_o1_ha)
    have f139 : Fld Z h131 o1 "com/example/knotweave/knotweave/OpenNeeds" "count" "I" (.int (c0 + (1 : Int32))) := Fld.other W130 f122 (Or.inl ne_o1_ha)
    have f140 : AV Z h131 ha .int (xs133.map Value.int) := A132
    have f141 : AV Z h131 pa .int (xs97.map Value.int) := f124.other W130 (Ne.symm ne_ha_pa)
    have f142 : AV Z h131 wa .int (xs8.map Value.int) := f125.other W130 (Ne.symm ne_ha_wa)
    have f143 : AV Z h131 ra .long (xs27.map Value.long) := f126.other W130 (Ne.symm ne_ha_ra)
    have k144 : Keep h0 h131 [o1, ha, pa, wa, ra] := k127.wr W130 (Or.inl (List.mem_of_getElem? (i := 1) rfl))
    have f145 : AV Z h131 wa .int ((ws.set (p2).toNatClampNeg p3).map Value.int) := by rw [← hxs8]; exact f142
    have f146 : AV Z h131 ra .long ((rs.set (p2).toNatClampNeg q4).map Value.long) := by rw [← hxs27]; exact f143
    have lm : (mm hs c0).length = 4 := rfl
    have f147 : AV Z h131 ha .int ((hs.set (c0).toNatClampNeg p2).map Value.int) := by rw [← hxs133]; exact f140
    have f148 : AV Z h131 pa .int ((plc (hs.set (c0).toNatClampNeg p2) (c0 + (1 : Int32))).map Value.int) := by rw [← I_.2.2.2.1, ← hxs97]; exact f141
    have hI : putI hs c0 p2 = (hs.set (c0).toNatClampNeg p2) := if_pos c41
    have hC : putC hs c0 p2 = c0 + 1 := if_pos c41
    refine w_aloadN X129 d8_50 rfl rfl rfl ?_
    refine w_iloadN X129 d8_51 rfl rfl ?_
    refine w_private0 X129 (rm_up l Z a0 hw o1 p2 ha pa wa ra (hs.set (c0).toNatClampNeg p2) (c0 + (1 : Int32)) (ws.set (p2).toNatClampNeg p3) (rs.set (p2).toNatClampNeg q4) h131 n0 X129.size ⟨f134, f135, f136, f137, f138, f139, f147, f148, f145, f146⟩ ⟨ne_o1_ha, ne_o1_pa, ne_o1_wa, ne_o1_ra, ne_ha_pa, ne_ha_wa, ne_ha_ra, ne_pa_wa, ne_pa_ra, ne_wa_ra⟩ ⟨g_o1, g_ha, g_pa, g_wa, g_ra⟩ bf (by rw [I_.2.2.2.2.1]; exact hb) (DSet hs hs4 c0 I_.1 p2 hp) I_.2.1 I_.2.2.1 hp (own_pl _ _ (DSet hs hs4 c0 I_.1 p2 hp) I_.2.1 _ hp (by rw [I_.2.2.2.2.1]; exact (own_g1 _ lm _ hp))) (by rw [List.length_set]; exact lw) (by rw [List.length_set]; exact lr)) f134 (hw _ (List.mem_of_getElem? (i := 50) rfl)) (hw _ (List.mem_of_getElem? (i := 51) rfl)) (hw _ (List.mem_of_getElem? (i := 1) rfl)) (hw _ (List.mem_of_getElem? (i := 52) rfl)) (hw _ (List.mem_of_getElem? (i := 2) rfl)) (hw _ (List.mem_of_getElem? (i := 53) rfl)) (by decide) (argsL := [(.int p2)]) (rest := []) rfl (lenOf pd_2 rfl) rfl (W := 0) rfl (by decide) (by decide) (by decide) (by decide) d8_52 rfl fun T149 h150 X151 q152 => ?_
    obtain ⟨hs163, m164, ok165, mm166, md167, K168, n153, n154, n155, n156, n157, n158, n159, n160, n161, n162⟩ := q152
    have f169 : Exa Z h150 o1 "com/example/knotweave/knotweave/OpenNeeds" := f134.keep K168
    have k170 : Keep h0 h150 [o1, ha, pa, wa, ra] := k144.trans K168 (allS (Or.inl (List.mem_of_getElem? (i := 0) rfl)) (allS (Or.inl (List.mem_of_getElem? (i := 1) rfl)) (allS (Or.inl (List.mem_of_getElem? (i := 2) rfl)) (allS (Or.inl (List.mem_of_getElem? (i := 3) rfl)) (allS (Or.inl (List.mem_of_getElem? (i := 4) rfl)) all0)))))
    refine w_aloadN X151 d8_55 rfl rfl rfl ?_
    refine w_iloadN X151 d8_56 rfl rfl ?_
    refine w_private0 X151 (rm_dn l Z a0 hw o1 p2 ha pa wa ra hs163 (c0 + (1 : Int32)) (ws.set (p2).toNatClampNeg p3) (rs.set (p2).toNatClampNeg q4) h150 n0 X151.size ⟨n153, n154, n155, n156, n157, n158, n159, n160, n161, n162⟩ ⟨ne_o1_ha, ne_o1_pa, ne_o1_wa, ne_o1_ra, ne_ha_pa, ne_ha_wa, ne_ha_ra, ne_pa_wa, ne_pa_ra, ne_wa_ra⟩ ⟨g_o1, g_ha, g_pa, g_wa, g_ra⟩ bf (by rw [(mm166.trans I_.2.2.2.2.1)]; exact hb) m164 I_.2.1 ok165 hp (own_pl _ _ m164 I_.2.1 _ hp (by rw [(mm166.trans I_.2.2.2.2.1)]; exact (own_g1 _ lm _ hp))) (by rw [List.length_set]; exact lw) (by rw [List.length_set]; exact lr)) n153 (hw _ (List.mem_of_getElem? (i := 58) rfl)) (hw _ (List.mem_of_getElem? (i := 59) rfl)) (hw _ (List.mem_of_getElem? (i := 1) rfl)) (hw _ (List.mem_of_getElem? (i := 60) rfl)) (hw _ (List.mem_of_getElem? (i := 2) rfl)) (hw _ (List.mem_of_getElem? (i := 61) rfl)) (by decide) (argsL := [(.int p2)]) (rest := []) rfl (lenOf pd_2 rfl) rfl (W := 0) rfl (by decide) (by decide) (by decide) (by decide) d8_57 rfl fun T171 h172 X173 q174 => ?_
    obtain ⟨hs185, m186, ok187, mm188, md189, K190, n175, n176, n177, n178, n179, n180, n181, n182, n183, n184⟩ := q174
    have f191 : Exa Z h172 o1 "com/example/knotweave/knotweave/OpenNeeds" := n153.keep K190
    have k192 : Keep h0 h172 [o1, ha, pa, wa, ra] := k170.trans K190 (allS (Or.inl (List.mem_of_getElem? (i := 0) rfl)) (allS (Or.inl (List.mem_of_getElem? (i := 1) rfl)) (allS (Or.inl (List.mem_of_getElem? (i := 2) rfl)) (allS (Or.inl (List.mem_of_getElem? (i := 3) rfl)) (allS (Or.inl (List.mem_of_getElem? (i := 4) rfl)) all0)))))
    exact w_return X173 d8_60 rfl ⟨hs185, m186, (by rw [hC]; exact I_.2.1), (by rw [hC]; exact ok187), (by rw [hC]; exact ((mm188.trans mm166).trans I_.2.2.2.2.1)), (by rw [putH, sift, hI, hC, ← md167, ← md189]), k192, (by rw [hC]; exact ⟨n175, n176, n177, n178, n179, n180, n181, n182, n183, n184⟩)⟩ (by decide) (by decide)
theorem d5_0 : decode prog_39_method_6_code 0 = .ok (.aload_n 0, 1) := by decide +kernel
theorem d5_1 : decode prog_39_method_6_code 1 = .ok (.getfield 13, 3) := by decide +kernel
theorem d5_4 : decode prog_39_method_6_code 4 = .ok (.iload_n 1, 1) := by decide +kernel
theorem d5_5 : decode prog_39_method_6_code 5 = .ok (.iaload, 1) := by decide +kernel
theorem d5_6 : decode prog_39_method_6_code 6 = .ok (.istore_n 2, 1) := by decide +kernel
theorem d5_7 : decode prog_39_method_6_code 7 = .ok (.iload_n 2, 1) := by decide +kernel
theorem d5_8 : decode prog_39_method_6_code 8 = .ok (.ifCond .ge 4, 3) := by decide +kernel
theorem d5_11 : decode prog_39_method_6_code 11 = .ok (.return_, 1) := by decide +kernel
theorem d5_12 : decode prog_39_method_6_code 12 = .ok (.aload_n 0, 1) := by decide +kernel
theorem d5_13 : decode prog_39_method_6_code 13 = .ok (.getfield 13, 3) := by decide +kernel
theorem d5_16 : decode prog_39_method_6_code 16 = .ok (.iload_n 1, 1) := by decide +kernel
theorem d5_17 : decode prog_39_method_6_code 17 = .ok (.iconst (-1), 1) := by decide +kernel
theorem d5_18 : decode prog_39_method_6_code 18 = .ok (.iastore, 1) := by decide +kernel
theorem d5_19 : decode prog_39_method_6_code 19 = .ok (.aload_n 0, 1) := by decide +kernel
theorem d5_20 : decode prog_39_method_6_code 20 = .ok (.getfield 7, 3) := by decide +kernel
theorem d5_23 : decode prog_39_method_6_code 23 = .ok (.aload_n 0, 1) := by decide +kernel
theorem d5_24 : decode prog_39_method_6_code 24 = .ok (.dup, 1) := by decide +kernel
theorem d5_25 : decode prog_39_method_6_code 25 = .ok (.getfield 29, 3) := by decide +kernel
theorem d5_28 : decode prog_39_method_6_code 28 = .ok (.iconst 1, 1) := by decide +kernel
theorem d5_29 : decode prog_39_method_6_code 29 = .ok (.isub, 1) := by decide +kernel
theorem d5_30 : decode prog_39_method_6_code 30 = .ok (.dup_x1, 1) := by decide +kernel
theorem d5_31 : decode prog_39_method_6_code 31 = .ok (.putfield 29, 3) := by decide +kernel
theorem d5_34 : decode prog_39_method_6_code 34 = .ok (.iaload, 1) := by decide +kernel
theorem d5_35 : decode prog_39_method_6_code 35 = .ok (.istore_n 3, 1) := by decide +kernel
theorem d5_36 : decode prog_39_method_6_code 36 = .ok (.iload_n 3, 1) := by decide +kernel
theorem d5_37 : decode prog_39_method_6_code 37 = .ok (.iload_n 1, 1) := by decide +kernel
theorem d5_38 : decode prog_39_method_6_code 38 = .ok (.if_icmp .eq 27, 3) := by decide +kernel
theorem d5_41 : decode prog_39_method_6_code 41 = .ok (.aload_n 0, 1) := by decide +kernel
theorem d5_42 : decode prog_39_method_6_code 42 = .ok (.getfield 7, 3) := by decide +kernel
theorem d5_45 : decode prog_39_method_6_code 45 = .ok (.iload_n 2, 1) := by decide +kernel
theorem d5_46 : decode prog_39_method_6_code 46 = .ok (.iload_n 3, 1) := by decide +kernel
theorem d5_47 : decode prog_39_method_6_code 47 = .ok (.iastore, 1) := by decide +kernel
theorem d5_48 : decode prog_39_method_6_code 48 = .ok (.aload_n 0, 1) := by decide +kernel
theorem d5_49 : decode prog_39_method_6_code 49 = .ok (.getfield 13, 3) := by decide +kernel
theorem d5_52 : decode prog_39_method_6_code 52 = .ok (.iload_n 3, 1) := by decide +kernel
theorem d5_53 : decode prog_39_method_6_code 53 = .ok (.iload_n 2, 1) := by decide +kernel
theorem d5_54 : decode prog_39_method_6_code 54 = .ok (.iastore, 1) := by decide +kernel
theorem d5_55 : decode prog_39_method_6_code 55 = .ok (.aload_n 0, 1) := by decide +kernel
theorem d5_56 : decode prog_39_method_6_code 56 = .ok (.iload_n 3, 1) := by decide +kernel
theorem d5_57 : decode prog_39_method_6_code 57 = .ok (.invokevirtual 33, 3) := by decide +kernel
theorem d5_60 : decode prog_39_method_6_code 60 = .ok (.aload_n 0, 1) := by decide +kernel
theorem d5_61 : decode prog_39_method_6_code 61 = .ok (.iload_n 3, 1) := by decide +kernel
theorem d5_62 : decode prog_39_method_6_code 62 = .ok (.invokevirtual 37, 3) := by decide +kernel
theorem d5_65 : decode prog_39_method_6_code 65 = .ok (.return_, 1) := by decide +kernel
theorem pn_5 : plainName "com/example/knotweave/knotweave/OpenNeeds" = true := by first | (simp [plainName, overriddenIn]; done) | decide +kernel
theorem ef_5 (m : MethodId) (o1 : Addr) (p2 : Int32) : entryFrame m #[(.ref o1), (.int p2)] 4 = mkF m 0 #[.val (.ref o1), .val (.int p2), .unset, .unset] [] := by first | (simp [entryFrame, mkF, argsToLocals, Value.category]; done) | rfl
set_option maxRecDepth 65536 in
set_option maxHeartbeats 40000000 in
theorem rm_remove (l : Launch) (Z : State) (a0 : Array Value) (hw : ∀ d ∈ tables_1, d.before a0 Z = true) (o1 : Addr) (p2 : Int32) (ha : Addr) (pa : Addr) (wa : Addr) (ra : Addr) (hs : List Int32) (c0 : Int32) (ws : List Int32) (rs : List Int64) (h0 : Heap) (n0 : Nat) (Z0 : n0 ≤ h0.size) (O : ONs Z h0 o1 ha pa wa ra hs (plc hs c0) c0 ws rs) (D : Dst o1 ha pa wa ra) (G : Ges n0 o1 ha pa wa ra) (bf : Int32 → Int32 → Int32) (hb : ∀ a b, g4 ((mm hs c0).set (p2).toNatClampNeg 0) a = 1 → g4 ((mm hs c0).set (p2).toNatClampNeg 0) b = 1 → f_bf ws rs a b = bf a b) (hs4 : hs ∈ S4) (hc : c0 ∈ five) (ho : okb hs c0 = true) (hp : p2 ∈ four) (lw : ws.length = 4) (lr : rs.length = 4) :
    Con l Z (⟨"com/example/knotweave/knotweave/OpenNeeds", "remove", "(I)V"⟩ : MethodName) prog_39_method_6_code 4 none ({ frames := 2, cells := 0, slots := 0, locals := 29 } : Room) #[(.ref o1), (.int p2)] h0 n0 none (fun h => ∃ hs', hs' ∈ S4 ∧ remC hs c0 p2 ∈ five ∧ okb hs' (remC hs c0 p2) = true ∧ mm hs' (remC hs c0 p2) = (mm hs c0).set (p2).toNatClampNeg 0 ∧ hs' = remH bf hs c0 p2 ∧ Keep h0 h [o1, ha, pa, wa, ra] ∧ ONs Z h o1 ha pa wa ra hs' (plc hs' (remC hs c0 p2)) (remC hs c0 p2) ws rs) := by
  refine con_of (plainFor_of_name pn_5) Z0 (fun m => ef_5 m o1 p2) ?_
  intro p e s m below meth c T0 X0
  obtain ⟨E_o, F_h, F_p, F_w, F_r, F_c, A_h, A_p, A_w, A_r⟩ := O
  obtain ⟨ne_o1_ha, ne_o1_pa, ne_o1_wa, ne_o1_ra, ne_ha_pa, ne_ha_wa, ne_ha_ra, ne_pa_wa, ne_pa_ra, ne_wa_ra⟩ := D
  obtain ⟨g_o1, g_ha, g_pa, g_wa, g_ra⟩ := G
  refine w_aloadN X0 d5_0 rfl rfl rfl ?_
  refine w_getF X0 (host := "") (Or.inl (hw _ (List.mem_of_getElem? (i := 12) rfl))) Via.refl F_p d5_1 rfl fun T1 X2 => ?_
  refine w_iloadN X2 d5_4 rfl rfl ?_
  refine w_iaload X2 A_p (D0 _ hp).1 rfl (getI (D0 _ hp).2.1) d5_5 rfl ?_
  refine w_istoreN X2 d5_6 rfl (L' := #[.val (.ref o1), .val (.int p2), .val (.int ((plc hs c0).getD (p2).toNatClampNeg 0)), .unset]) rfl ?_
  refine w_iloadN X2 d5_7 rfl rfl ?_
  refine w_if_ge X2 d5_8 (by decide) (pcT := 12) (pcF := 11) (by decide) rfl (fun c3 => ?_) (fun c3 => ?_)
  · have I_ := DRm hs hs4 c0 hc ho p2 hp c3
    have pi := DPl hs hs4 c0 hc ho p2 hp c3
    refine w_aloadN X2 d5_12 rfl rfl rfl ?_
    refine w_getF X2 (host := "") (Or.inl (hw _ (List.mem_of_getElem? (i := 12) rfl))) Via.refl F_p d5_13 rfl fun T4 X5 => ?_
    refine w_iloadN X5 d5_16 rfl rfl ?_
    refine w_iconst X5 d5_17 (v := (-1 : Int32)) rfl rfl ?_
    refine w_iastore X5 A_p (D0 _ hp).1 rfl (by rw [List.length_map]; exact (D0 _ hp).2.1) g_pa d5_18 rfl fun T6 h9 X7 W8 A10 => ?_
    rw [← List.map_set] at A10
    obtain ⟨xs11, hxs11⟩ : ∃ z, z = ((plc hs c0).set (p2).toNatClampNeg (-1 : Int32)) := ⟨_, rfl⟩
    rw [← hxs11] at A10
    have f12 : Exa Z h9 o1 "com/example/knotweave/knotweave/OpenNeeds" := Exa.wr W8 E_o
    have f13 : Fld Z h9 o1 "com/example/knotweave/knotweave/OpenNeeds" "heap" "[I" (.ref ha) := Fld.other W8 F_h (Or.inl ne_o1_pa)
    have f14 : Fld Z h9 o1 "com/example/knotweave/knotweave/OpenNeeds" "placeOf" "[I" (.ref pa) := Fld.other W8 F_p (Or.inl ne_o1_pa)
    have f15 : Fld Z h9 o1 "com/example/knotweave/knotweave/OpenNeeds" "waysOf" "[I" (.ref wa) := Fld.other W8 F_w (Or.inl ne_o1_pa)
    have f16 : Fld Z h9 o1 "com/example/knotweave/knotweave/OpenNeeds" "rankOf" "[J" (.ref ra) := Fld.other W8 F_r (Or.inl ne_o1_pa)
    have f17 : Fld Z h9 o1 "com/example/knotweave/knotweave/OpenNeeds" "count" "I" (.int c0) := Fld.other W8 F_c (Or.inl ne_o1_pa)
    have f18 : AV Z h9 ha .int (hs.map Value.int) := A_h.other W8 ne_ha_pa
    have f19 : AV Z h9 pa .int (xs11.map Value.int) := A10
    have f20 : AV Z h9 wa .int (ws.map Value.int) := A_w.other W8 (Ne.symm ne_pa_wa)
    have f21 : AV Z h9 ra .long (rs.map Value.long) := A_r.other W8 (Ne.symm ne_pa_ra)
    have k22 : Keep h0 h9 [o1, ha, pa, wa, ra] := (Keep.refl h0 [o1, ha, pa, wa, ra]).wr W8 (Or.inl (List.mem_of_getElem? (i := 2) rfl))
    refine w_aloadN X7 d5_19 rfl rfl rfl ?_
    refine w_getF X7 (host := "") (Or.inl (hw _ (List.mem_of_getElem? (i := 10) rfl))) Via.refl f13 d5_20 rfl fun T23 X24 => ?_
    refine w_aloadN X24 d5_23 rfl rfl rfl ?_
    refine w_dup X24 d5_24 rfl rfl ?_
    refine w_getF X24 (host := "") (Or.inl (hw _ (List.mem_of_getElem? (i := 43) rfl))) Via.refl f17 d5_25 rfl fun T25 X26 => ?_
    refine w_iconst X26 d5_28 (v := (1 : Int32)) rfl rfl ?_
    refine w_isub X26 d5_29 rfl ?_
    refine w_dupX1 X26 d5_30 rfl rfl rfl ?_
    refine w_putF X26 (host := "") (Or.inl (hw _ (List.mem_of_getElem? (i := 43) rfl))) Via.refl f17 f12 (Or.inl (hw _ (List.mem_of_getElem? (i := 44) rfl))) (hw _ (List.mem_of_getElem? (i := 1) rfl)) (ty := .int) (by decide) rfl rfl g_o1 d5_31 rfl fun T27 h30 X28 W29 => ?_
    have f31 : Exa Z h30 o1 "com/example/knotweave/knotweave/OpenNeeds" := Exa.wr W29 f12
    have f32 : Fld Z h30 o1 "com/example/knotweave/knotweave/OpenNeeds" "heap" "[I" (.ref ha) := Fld.other W29 f13 (Or.inr (slot_ne (Or.inr (hw _ (List.mem_of_getElem? (i := 11) rfl))) (Or.inl (hw _ (List.mem_of_getElem? (i := 44) rfl))) (by decide) (t := (.array .int)) (t' := .int) (by decide) (by decide)))
    have f33 : Fld Z h30 o1 "com/example/knotweave/knotweave/OpenNeeds" "placeOf" "[I" (.ref pa) := Fld.other W29 f14 (Or.inr (slot_ne (Or.inr (hw _ (List.mem_of_getElem? (i := 13) rfl))) (Or.inl (hw _ (List.mem_of_getElem? (i := 44) rfl))) (by decide) (t := (.array .int)) (t' := .int) (by decide) (by decide)))
    have f34 : Fld Z h30 o1 "com/example/knotweave/knotweave/OpenNeeds" "waysOf" "[I" (.ref wa) := Fld.other W29 f15 (Or.inr (slot_ne (Or.inr (hw _ (List.mem_of_getElem? (i := 15) rfl))) (Or.inl (hw _ (List.mem_of_getElem? (i := 44) rfl))) (by decide) (t := (.array .int)) (t' := .int) (by decide) (by decide)))
    have f35 : Fld Z h30 o1 "com/example/knotweave/knotweave/OpenNeeds" "rankOf" "[J" (.ref ra) := Fld.other W29 f16 (Or.inr (slot_ne (Or.inr (hw _ (List.mem_of_getElem? (i := 18) rfl))) (Or.inl (hw _ (List.mem_of_getElem? (i := 44) rfl))) (by decide) (t := (.array .long)) (t' := .int) (by decide) (by decide)))
    have f36 : Fld Z h30 o1 "com/example/knotweave/knotweave/OpenNeeds" "count" "I" (.int (c0 - (1 : Int32))) := Fld.same W29 f17
    have f37 : AV Z h30 ha .int (hs.map Value.int) := f18.other W29 (Ne.symm ne_o1_ha)
    have f38 : AV Z h30 pa .int (xs11.map Value.int) := f19.other W29 (Ne.symm ne_o1_pa)
    have f39 : AV Z h30 wa .int (ws.map Value.int) := f20.other W29 (Ne.symm ne_o1_wa)
    have f40 : AV Z h30 ra .long (rs.map Value.long) := f21.other W29 (Ne.symm ne_o1_ra)
    have k41 : Keep h0 h30 [o1, ha, pa, wa, ra] := k22.wr W29 (Or.inl (List.mem_of_getElem? (i := 0) rfl))
    refine w_iaload X28 f37 (D0 _ I_.1).1 rfl (getI (by rw [(DLen hs hs4).1]; exact (D0 _ I_.1).2.1)) d5_34 rfl ?_
    refine w_istoreN X28 d5_35 rfl (L' := #[.val (.ref o1), .val (.int p2), .val (.int ((plc hs c0).getD (p2).toNatClampNeg 0)), .val (.int (hs.getD ((c0 - (1 : Int32))).toNatClampNeg 0))]) rfl ?_
    refine w_iloadN X28 d5_36 rfl rfl ?_
    refine w_iloadN X28 d5_37 rfl rfl ?_
    refine w_icmp_eq X28 d5_38 (by decide) (pcT := 65) (pcF := 41) (by decide) rfl (fun c42 => ?_) (fun c42 => ?_)
    · have hC : remC hs c0 p2 = c0 - 1 := if_neg c3
      have J := I_.2.2.2.1 c42
      have f43 : AV Z h30 pa .int ((plc hs (c0 - (1 : Int32))).map Value.int) := by rw [← J.2.1, ← hxs11]; exact f38
      exact w_return X28 d5_65 rfl ⟨hs, hs4, (by rw [hC]; exact I_.2.1), (by rw [hC]; exact J.1), (by rw [hC]; exact J.2.2), (by rw [remH]; exact ((if_neg c3).trans (if_pos c42)).symm), k41, (by rw [hC]; exact ⟨f31, f32, f33, f34, f35, f36, f37, f43, f39, f40⟩)⟩ (by decide) (by decide)
    · refine w_aloadN X28 d5_41 rfl rfl rfl ?_
      refine w_getF X28 (host := "") (Or.inl (hw _ (List.mem_of_getElem? (i := 10) rfl))) Via.refl f32 d5_42 rfl fun T44 X45 => ?_
      refine w_iloadN X45 d5_45 rfl rfl ?_
      refine w_iloadN X45 d5_46 rfl rfl ?_
      refine w_iastore X45 f37 (D0 _ pi.1).1 rfl (by rw [List.length_map]; exact (by rw [(DLen hs hs4).1]; exact (D0 _ pi.1).2.1)) g_ha d5_47 rfl fun T46 h49 X47 W48 A50 => ?_
      rw [← List.map_set] at A50
      obtain ⟨xs51, hxs51⟩ : ∃ z, z = (hs.set (((plc hs c0).getD (p2).toNatClampNeg 0)).toNatClampNeg (hs.getD ((c0 - (1 : Int32))).toNatClampNeg 0)) := ⟨_, rfl⟩
      rw [← hxs51] at A50
      have f52 : Exa Z h49 o1 "com/example/knotweave/knotweave/OpenNeeds" := Exa.wr W48 f31
      have f53 : Fld Z h49 o1 "com/example/knotweave/knotweave/OpenNeeds" "heap" "[I" (.ref ha) := Fld.other W48 f32 (Or.inl ne_o1_ha)
      have f54 : Fld Z h49 o1 "com/example/knotweave/knotweave/OpenNeeds" "placeOf" "[I" (.ref pa) := Fld.other W48 f33 (Or.inl ne_o1_ha)
      have f55 : Fld Z h49 o1 "com/example/knotweave/knotweave/OpenNeeds" "waysOf" "[I" (.ref wa) := Fld.other W48 f34 (Or.inl ne_o1_ha)
      have f56 : Fld Z h49 o1 "com/example/knotweave/knotweave/OpenNeeds" "rankOf" "[J" (.ref ra) := Fld.other W48 f35 (Or.inl ne_o1_ha)
      have f57 : Fld Z h49 o1 "com/example/knotweave/knotweave/OpenNeeds" "count" "I" (.int (c0 - (1 : Int32))) := Fld.other W48 f36 (Or.inl ne_o1_ha)
      have f58 : AV Z h49 ha .int (xs51.map Value.int) := A50
      have f59 : AV Z h49 pa .int (xs11.map Value.int) := f38.other W48 (Ne.symm ne_ha_pa)
      have f60 : AV Z h49 wa .int (ws.map Value.int) := f39.other W48 (Ne.symm ne_ha_wa)
      have f61 : AV Z h49 ra .long (rs.map Value.long) := f40.other W48 (Ne.symm ne_ha_ra)
      have k62 : Keep h0 h49 [o1, ha, pa, wa, ra] := k41.wr W48 (Or.inl (List.mem_of_getElem? (i := 1) rfl))
      refine w_aloadN X47 d5_48 rfl rfl rfl ?_
      refine w_getF X47 (host := "") (Or.inl (hw _ (List.mem_of_getElem? (i := 12) rfl))) Via.refl f54 d5_49 rfl fun T63 X64 => ?_
      refine w_iloadN X64 d5_52 rfl rfl ?_
      refine w_iloadN X64 d5_53 rfl rfl ?_
      refine w_iastore X64 f59 (D0 _ I_.2.2.1).1 rfl (by rw [List.length_map]; exact (by rw [hxs11, List.length_set]; exact (D0 _ I_.2.2.1).2.1)) g_pa d5_54 rfl fun T65 h68 X66 W67 A69 => ?_
      rw [← List.map_set] at A69
      obtain ⟨xs70, hxs70⟩ : ∃ z, z = (xs11.set ((hs.getD ((c0 - (1 : Int32))).toNatClampNeg 0)).toNatClampNeg ((plc hs c0).getD (p2).toNatClampNeg 0)) := ⟨_, rfl⟩
      rw [← hxs70] at A69
      have f71 : Exa Z h68 o1 "com/example/knotweave/knotweave/OpenNeeds" := Exa.wr W67 f52
      have f72 : Fld Z h68 o1 "com/example/knotweave/knotweave/OpenNeeds" "heap" "[I" (.ref ha) := Fld.other W67 f53 (Or.inl ne_o1_pa)
      have f73 : Fld Z h68 o1 "com/example/knotweave/knotweave/OpenNeeds" "placeOf" "[I" (.ref pa) := Fld.other W67 f54 (Or.inl ne_o1_pa)
      have f74 : Fld Z h68 o1 "com/example/knotweave/knotweave/OpenNeeds" "waysOf" "[I" (.ref wa) := Fld.other W67 f55 (Or.inl ne_o1_pa)
      have f75 : Fld Z h68 o1 "com/example/knotweave/knotweave/OpenNeeds" "rankOf" "[J" (.ref ra) := Fld.other W67 f56 (Or.inl ne_o1_pa)
      have f76 : Fld Z h68 o1 "com/example/knotweave/knotweave/OpenNeeds" "count" "I" (.int (c0 - (1 : Int32))) := Fld.other W67 f57 (Or.inl ne_o1_pa)
      have f77 : AV Z h68 ha .int (xs51.map Value.int) := f58.other W67 ne_ha_pa
      have f78 : AV Z h68 pa .int (xs70.map Value.int) := A69
      have f79 : AV Z h68 wa .int (ws.map Value.int) := f60.other W67 (Ne.symm ne_pa_wa)
      have f80 : AV Z h68 ra .long (rs.map Value.long) := f61.other W67 (Ne.symm ne_pa_ra)
      have k81 : Keep h0 h68 [o1, ha, pa, wa, ra] := k62.wr W67 (Or.inl (List.mem_of_getElem? (i := 2) rfl))
      have J := I_.2.2.2.2 c42
      have f82 : AV Z h68 ha .int ((hs.set (((plc hs c0).getD (p2).toNatClampNeg 0)).toNatClampNeg (hs.getD ((c0 - (1 : Int32))).toNatClampNeg 0)).map Value.int) := by rw [← hxs51]; exact f77
      have f83 : AV Z h68 pa .int ((plc (hs.set (((plc hs c0).getD (p2).toNatClampNeg 0)).toNatClampNeg (hs.getD ((c0 - (1 : Int32))).toNatClampNeg 0)) (c0 - (1 : Int32))).map Value.int) := by rw [show plc (hs.set (((plc hs c0).getD (p2).toNatClampNeg 0)).toNatClampNeg (hs.getD ((c0 - (1 : Int32))).toNatClampNeg 0)) (c0 - (1 : Int32)) = xs70 from by rw [hxs70, hxs11]; exact J.2.1.symm]; exact f78
      have m0 : (hs.set (((plc hs c0).getD (p2).toNatClampNeg 0)).toNatClampNeg (hs.getD ((c0 - (1 : Int32))).toNatClampNeg 0)) ∈ S4 := DSet hs hs4 _ pi.1 _ I_.2.2.1
      have l4 : (hs.getD ((c0 - (1 : Int32))).toNatClampNeg 0) ∈ four := I_.2.2.1
      have JE : mm (hs.set (((plc hs c0).getD (p2).toNatClampNeg 0)).toNatClampNeg (hs.getD ((c0 - (1 : Int32))).toNatClampNeg 0)) (c0 - (1 : Int32)) = (mm hs c0).set (p2).toNatClampNeg 0 := J.2.2.1
      refine w_aloadN X66 d5_55 rfl rfl rfl ?_
      refine w_iloadN X66 d5_56 rfl rfl ?_
      refine w_private0 X66 (rm_up l Z a0 hw o1 (hs.getD ((c0 - (1 : Int32))).toNatClampNeg 0) ha pa wa ra (hs.set (((plc hs c0).getD (p2).toNatClampNeg 0)).toNatClampNeg (hs.getD ((c0 - (1 : Int32))).toNatClampNeg 0)) (c0 - (1 : Int32)) ws rs h68 n0 X66.size ⟨f71, f72, f73, f74, f75, f76, f82, f83, f79, f80⟩ ⟨ne_o1_ha, ne_o1_pa, ne_o1_wa, ne_o1_ra, ne_ha_pa, ne_ha_wa, ne_ha_ra, ne_pa_wa, ne_pa_ra, ne_wa_ra⟩ ⟨g_o1, g_ha, g_pa, g_wa, g_ra⟩ bf (by rw [JE]; exact hb) m0 I_.2.1 J.1 l4 (own_pl _ _ m0 I_.2.1 _ l4 (by rw [JE]; exact (by rw [← JE]; exact own_ml _ _ m0 I_.2.1 _ l4 J.2.2.2))) lw lr) f71 (hw _ (List.mem_of_getElem? (i := 50) rfl)) (hw _ (List.mem_of_getElem? (i := 51) rfl)) (hw _ (List.mem_of_getElem? (i := 1) rfl)) (hw _ (List.mem_of_getElem? (i := 52) rfl)) (hw _ (List.mem_of_getElem? (i := 2) rfl)) (hw _ (List.mem_of_getElem? (i := 53) rfl)) (by decide) (argsL := [(.int (hs.getD ((c0 - (1 : Int32))).toNatClampNeg 0))]) (rest := []) rfl (lenOf pd_2 rfl) rfl (W := 0) rfl (by decide) (by decide) (by decide) (by decide) d5_57 rfl fun T84 h85 X86 q87 => ?_
      obtain ⟨hs98, m99, ok100, mm101, md102, K103, n88, n89, n90, n91, n92, n93, n94, n95, n96, n97⟩ := q87
      have f104 : Exa Z h85 o1 "com/example/knotweave/knotweave/OpenNeeds" := f71.keep K103
      have k105 : Keep h0 h85 [o1, ha, pa, wa, ra] := k81.trans K103 (allS (Or.inl (List.mem_of_getElem? (i := 0) rfl)) (allS (Or.inl (List.mem_of_getElem? (i := 1) rfl)) (allS (Or.inl (List.mem_of_getElem? (i := 2) rfl)) (allS (Or.inl (List.mem_of_getElem? (i := 3) rfl)) (allS (Or.inl (List.mem_of_getElem? (i := 4) rfl)) all0)))))
      refine w_aloadN X86 d5_60 rfl rfl rfl ?_
      refine w_iloadN X86 d5_61 rfl rfl ?_
      refine w_private0 X86 (rm_dn l Z a0 hw o1 (hs.getD ((c0 - (1 : Int32))).toNatClampNeg 0) ha pa wa ra hs98 (c0 - (1 : Int32)) ws rs h85 n0 X86.size ⟨n88, n89, n90, n91, n92, n93, n94, n95, n96, n97⟩ ⟨ne_o1_ha, ne_o1_pa, ne_o1_wa, ne_o1_ra, ne_ha_pa, ne_ha_wa, ne_ha_ra, ne_pa_wa, ne_pa_ra, ne_wa_ra⟩ ⟨g_o1, g_ha, g_pa, g_wa, g_ra⟩ bf (by rw [(mm101.trans JE)]; exact hb) m99 I_.2.1 ok100 l4 (own_pl _ _ m99 I_.2.1 _ l4 (by rw [(mm101.trans JE)]; exact (by rw [← JE]; exact own_ml _ _ m0 I_.2.1 _ l4 J.2.2.2))) lw lr) n88 (hw _ (List.mem_of_getElem? (i := 58) rfl)) (hw _ (List.mem_of_getElem? (i := 59) rfl)) (hw _ (List.mem_of_getElem? (i := 1) rfl)) (hw _ (List.mem_of_getElem? (i := 60) rfl)) (hw _ (List.mem_of_getElem? (i := 2) rfl)) (hw _ (List.mem_of_getElem? (i := 61) rfl)) (by decide) (argsL := [(.int (hs.getD ((c0 - (1 : Int32))).toNatClampNeg 0))]) (rest := []) rfl (lenOf pd_2 rfl) rfl (W := 0) rfl (by decide) (by decide) (by decide) (by decide) d5_62 rfl fun T106 h107 X108 q109 => ?_
      obtain ⟨hs120, m121, ok122, mm123, md124, K125, n110, n111, n112, n113, n114, n115, n116, n117, n118, n119⟩ := q109
      have f126 : Exa Z h107 o1 "com/example/knotweave/knotweave/OpenNeeds" := n88.keep K125
      have k127 : Keep h0 h107 [o1, ha, pa, wa, ra] := k105.trans K125 (allS (Or.inl (List.mem_of_getElem? (i := 0) rfl)) (allS (Or.inl (List.mem_of_getElem? (i := 1) rfl)) (allS (Or.inl (List.mem_of_getElem? (i := 2) rfl)) (allS (Or.inl (List.mem_of_getElem? (i := 3) rfl)) (allS (Or.inl (List.mem_of_getElem? (i := 4) rfl)) all0)))))
      have hC : remC hs c0 p2 = c0 - 1 := if_neg c3
      exact w_return X108 d5_65 rfl ⟨hs120, m121, (by rw [hC]; exact I_.2.1), (by rw [hC]; exact ok122), (by rw [hC]; exact ((mm123.trans mm101).trans JE)), (by rw [remH, if_neg (show ¬ g4 (plc hs c0) p2 < 0 from c3), if_neg (show ¬ g4 hs (c0 - 1) = p2 from c42), sift]; rw [md124, md102]; rfl), k127, (by rw [hC]; exact ⟨n110, n111, n112, n113, n114, n115, n116, n117, n118, n119⟩)⟩ (by decide) (by decide)
  · have hC : remC hs c0 p2 = c0 := if_pos c3
    exact w_return X2 d5_11 rfl ⟨hs, hs4, (by rw [hC]; exact hc), (by rw [hC]; exact ho), (by rw [hC]; exact ((DMx hs hs4 c0 hc p2 hp).1 c3).2.symm), (by rw [remH]; exact (if_pos c3).symm), (Keep.refl h0 [o1, ha, pa, wa, ra]), (by rw [hC]; exact ⟨E_o, F_h, F_p, F_w, F_r, F_c, A_h, A_p, A_w, A_r⟩)⟩ (by decide) (by decide)
theorem d6_0 : decode prog_39_method_4_code 0 = .ok (.aload_n 0, 1) := by decide +kernel
theorem d6_1 : decode prog_39_method_4_code 1 = .ok (.getfield 13, 3) := by decide +kernel
theorem d6_4 : decode prog_39_method_4_code 4 = .ok (.iload_n 1, 1) := by decide +kernel
theorem d6_5 : decode prog_39_method_4_code 5 = .ok (.iaload, 1) := by decide +kernel
theorem d6_6 : decode prog_39_method_4_code 6 = .ok (.ifCond .lt 7, 3) := by decide +kernel
theorem d6_9 : decode prog_39_method_4_code 9 = .ok (.iconst 1, 1) := by decide +kernel
theorem d6_10 : decode prog_39_method_4_code 10 = .ok (.goto 4, 3) := by decide +kernel
theorem d6_13 : decode prog_39_method_4_code 13 = .ok (.iconst 0, 1) := by decide +kernel
theorem d6_14 : decode prog_39_method_4_code 14 = .ok (.ireturn, 1) := by decide +kernel
theorem pn_6 : plainName "com/example/knotweave/knotweave/OpenNeeds" = true := by first | (simp [plainName, overriddenIn]; done) | decide +kernel
theorem ef_6 (m : MethodId) (o1 : Addr) (p2 : Int32) : entryFrame m #[(.ref o1), (.int p2)] 2 = mkF m 0 #[.val (.ref o1), .val (.int p2)] [] := by first | (simp [entryFrame, mkF, argsToLocals, Value.category]; done) | rfl
set_option maxRecDepth 65536 in
set_option maxHeartbeats 4000000 in
theorem rm_contains (l : Launch) (Z : State) (a0 : Array Value) (hw : ∀ d ∈ tables_1, d.before a0 Z = true) (o1 : Addr) (p2 : Int32) (ha : Addr) (pa : Addr) (wa : Addr) (ra : Addr) (H : List Int32) (P : List Int32) (c0 : Int32) (ws : List Int32) (rs : List Int64) (h0 : Heap) (n0 : Nat) (Z0 : n0 ≤ h0.size) (O : ONs Z h0 o1 ha pa wa ra H P c0 ws rs) (D : Dst o1 ha pa wa ra) (G : Ges n0 o1 ha pa wa ra) (hp : p2 ∈ four) (lP : P.length = 4) :
    Con l Z (⟨"com/example/knotweave/knotweave/OpenNeeds", "contains", "(I)Z"⟩ : MethodName) prog_39_method_4_code 2 (some .boolean) ({ frames := 0, cells := 0, slots := 0, locals := 0 } : Room) #[(.ref o1), (.int p2)] h0 n0 (some (.int (if (P.getD (p2).toNatClampNeg 0) < 0 then (0 : Int32) else (1 : Int32)))) (fun h => h = h0) := by
  refine con_of (plainFor_of_name pn_6) Z0 (fun m => ef_6 m o1 p2) ?_
  intro p e s m below meth c T0 X0
  obtain ⟨E_o, F_h, F_p, F_w, F_r, F_c, A_h, A_p, A_w, A_r⟩ := O
  obtain ⟨ne_o1_ha, ne_o1_pa, ne_o1_wa, ne_o1_ra, ne_ha_pa, ne_ha_wa, ne_ha_ra, ne_pa_wa, ne_pa_ra, ne_wa_ra⟩ := D
  obtain ⟨g_o1, g_ha, g_pa, g_wa, g_ra⟩ := G
  refine w_aloadN X0 d6_0 rfl rfl rfl ?_
  refine w_getF X0 (host := "") (Or.inl (hw _ (List.mem_of_getElem? (i := 12) rfl))) Via.refl F_p d6_1 rfl fun T1 X2 => ?_
  refine w_iloadN X2 d6_4 rfl rfl ?_
  refine w_iaload X2 A_p (D0 _ hp).1 rfl (getI (by rw [lP]; exact (D0 _ hp).2.1)) d6_5 rfl ?_
  refine w_if_lt X2 d6_6 (by decide) (pcT := 13) (pcF := 9) (by decide) rfl (fun c3 => ?_) (fun c3 => ?_)
  · refine w_iconst X2 d6_13 (v := (0 : Int32)) rfl rfl ?_
    exact w_nreturn X2 (t := .boolean) (by simp) d6_14 (by rw [if_pos c3]; rfl) rfl (by decide) (by decide)
  · refine w_iconst X2 d6_9 (v := (1 : Int32)) rfl rfl ?_
    refine w_goto X2 d6_10 (by decide) (pc' := 14) (by decide) ?_
    exact w_nreturn X2 (t := .boolean) (by simp) d6_14 (by rw [if_neg c3]; rfl) rfl (by decide) (by decide)
theorem d7_0 : decode prog_39_method_2_code 0 = .ok (.aload_n 0, 1) := by decide +kernel
theorem d7_1 : decode prog_39_method_2_code 1 = .ok (.getfield 29, 3) := by decide +kernel
theorem d7_4 : decode prog_39_method_2_code 4 = .ok (.ireturn, 1) := by decide +kernel
theorem pn_7 : plainName "com/example/knotweave/knotweave/OpenNeeds" = true := by first | (simp [plainName, overriddenIn]; done) | decide +kernel
theorem ef_7 (m : MethodId) (o1 : Addr) : entryFrame m #[(.ref o1)] 1 = mkF m 0 #[.val (.ref o1)] [] := by first | (simp [entryFrame, mkF, argsToLocals, Value.category]; done) | rfl
set_option maxRecDepth 65536 in
set_option maxHeartbeats 4000000 in
theorem rm_count (l : Launch) (Z : State) (a0 : Array Value) (hw : ∀ d ∈ tables_1, d.before a0 Z = true) (o1 : Addr) (ha : Addr) (pa : Addr) (wa : Addr) (ra : Addr) (H : List Int32) (P : List Int32) (c0 : Int32) (ws : List Int32) (rs : List Int64) (h0 : Heap) (n0 : Nat) (Z0 : n0 ≤ h0.size) (O : ONs Z h0 o1 ha pa wa ra H P c0 ws rs) (D : Dst o1 ha pa wa ra) (G : Ges n0 o1 ha pa wa ra) :
    Con l Z (⟨"com/example/knotweave/knotweave/OpenNeeds", "count", "()I"⟩ : MethodName) prog_39_method_2_code 1 (some .int) ({ frames := 0, cells := 0, slots := 0, locals := 0 } : Room) #[(.ref o1)] h0 n0 (some (.int c0)) (fun h => h = h0) := by
  refine con_of (plainFor_of_name pn_7) Z0 (fun m => ef_7 m o1) ?_
  intro p e s m below meth c T0 X0
  obtain ⟨E_o, F_h, F_p, F_w, F_r, F_c, A_h, A_p, A_w, A_r⟩ := O
  obtain ⟨ne_o1_ha, ne_o1_pa, ne_o1_wa, ne_o1_ra, ne_ha_pa, ne_ha_wa, ne_ha_ra, ne_pa_wa, ne_pa_ra, ne_wa_ra⟩ := D
  obtain ⟨g_o1, g_ha, g_pa, g_wa, g_ra⟩ := G
  refine w_aloadN X0 d7_0 rfl rfl rfl ?_
  refine w_getF X0 (host := "") (Or.inl (hw _ (List.mem_of_getElem? (i := 43) rfl))) Via.refl F_c d7_1 rfl fun T1 X2 => ?_
  exact w_ireturn X2 d7_4 rfl rfl (by decide) (by decide)
def f_fill_o1_0 (p2 : Int32) (e1_0 : Int32) (e1_1 : Int32) (e1_2 : Int32) (e1_3 : Int32) : Int32 :=
  p2
def f_fill_o1_1 (p2 : Int32) (e1_0 : Int32) (e1_1 : Int32) (e1_2 : Int32) (e1_3 : Int32) : Int32 :=
  p2
def f_fill_o1_2 (p2 : Int32) (e1_0 : Int32) (e1_1 : Int32) (e1_2 : Int32) (e1_3 : Int32) : Int32 :=
  p2
def f_fill_o1_3 (p2 : Int32) (e1_0 : Int32) (e1_1 : Int32) (e1_2 : Int32) (e1_3 : Int32) : Int32 :=
  p2
theorem d3_0 : decode jdk_65_method_103_code 0 = .ok (.iconst 0, 1) := by decide +kernel
theorem d3_1 : decode jdk_65_method_103_code 1 = .ok (.istore_n 2, 1) := by decide +kernel
theorem d3_2 : decode jdk_65_method_103_code 2 = .ok (.aload_n 0, 1) := by decide +kernel
theorem d3_3 : decode jdk_65_method_103_code 3 = .ok (.arraylength, 1) := by decide +kernel
theorem d3_4 : decode jdk_65_method_103_code 4 = .ok (.istore_n 3, 1) := by decide +kernel
theorem d3_5 : decode jdk_65_method_103_code 5 = .ok (.iload_n 2, 1) := by decide +kernel
theorem d3_6 : decode jdk_65_method_103_code 6 = .ok (.iload_n 3, 1) := by decide +kernel
theorem d3_7 : decode jdk_65_method_103_code 7 = .ok (.if_icmp .ge 13, 3) := by decide +kernel
theorem d3_10 : decode jdk_65_method_103_code 10 = .ok (.aload_n 0, 1) := by decide +kernel
theorem d3_11 : decode jdk_65_method_103_code 11 = .ok (.iload_n 2, 1) := by decide +kernel
theorem d3_12 : decode jdk_65_method_103_code 12 = .ok (.iload_n 1, 1) := by decide +kernel
theorem d3_13 : decode jdk_65_method_103_code 13 = .ok (.iastore, 1) := by decide +kernel
theorem d3_14 : decode jdk_65_method_103_code 14 = .ok (.iinc 2 1, 3) := by decide +kernel
theorem d3_17 : decode jdk_65_method_103_code 17 = .ok (.goto (-12), 3) := by decide +kernel
theorem d3_20 : decode jdk_65_method_103_code 20 = .ok (.return_, 1) := by decide +kernel
theorem pn_3 : plainName "java/util/Arrays" = true := by first | (simp [plainName, overriddenIn]; done) | decide +kernel
theorem ef_3 (m : MethodId) (o1 : Addr) (p2 : Int32) : entryFrame m #[(.ref o1), (.int p2)] 4 = mkF m 0 #[.val (.ref o1), .val (.int p2), .unset, .unset] [] := by first | (simp [entryFrame, mkF, argsToLocals, Value.category]; done) | rfl
set_option maxRecDepth 65536 in
set_option maxHeartbeats 4000000 in
theorem rm_fill (l : Launch) (Z : State) (a0 : Array Value) (hw : ∀ d ∈ tables_1, d.before a0 Z = true) (o1 : Addr) (p2 : Int32) (e1_0 : Int32) (e1_1 : Int32) (e1_2 : Int32) (e1_3 : Int32) (h0 : Heap) (n0 : Nat) (Z0 : n0 ≤ h0.size) (A_o1 : AV Z h0 o1 .int [(.int e1_0), (.int e1_1), (.int e1_2), (.int e1_3)]) (g_o1 : n0 ≤ o1) :
    Con l Z (⟨"java/util/Arrays", "fill", "([II)V"⟩ : MethodName) jdk_65_method_103_code 4 none ({ frames := 0, cells := 0, slots := 0, locals := 0 } : Room) #[(.ref o1), (.int p2)] h0 n0 none (fun h => Keep h0 h [o1] ∧ AV Z h o1 .int [(.int (f_fill_o1_0 p2 e1_0 e1_1 e1_2 e1_3)), (.int (f_fill_o1_1 p2 e1_0 e1_1 e1_2 e1_3)), (.int (f_fill_o1_2 p2 e1_0 e1_1 e1_2 e1_3)), (.int (f_fill_o1_3 p2 e1_0 e1_1 e1_2 e1_3))]) := by
  refine con_of (plainFor_of_name pn_3) Z0 (fun m => ef_3 m o1 p2) ?_
  intro p e s m below meth c T0 X0
  refine w_iconst X0 d3_0 (v := (0 : Int32)) rfl rfl ?_
  refine w_istoreN X0 d3_1 rfl (L' := #[.val (.ref o1), .val (.int p2), .val (.int (0 : Int32)), .unset]) rfl ?_
  refine w_aloadN X0 d3_2 rfl rfl rfl ?_
  refine w_arraylength X0 A_o1 (n := (4 : Int32)) rfl d3_3 rfl ?_
  refine w_istoreN X0 d3_4 rfl (L' := #[.val (.ref o1), .val (.int p2), .val (.int (0 : Int32)), .val (.int (4 : Int32))]) rfl ?_
  refine w_iloadN X0 d3_5 rfl rfl ?_
  refine w_iloadN X0 d3_6 rfl rfl ?_
  refine w_icmp_ge X0 d3_7 (by decide) (pcT := 20) (pcF := 10) (by decide) rfl (fun c1 => absurd c1 (by decide)) (fun c1 => ?_)
  refine w_aloadN X0 d3_10 rfl rfl rfl ?_
  refine w_iloadN X0 d3_11 rfl rfl ?_
  refine w_iloadN X0 d3_12 rfl rfl ?_
  refine w_iastore X0 A_o1 (by decide) (i := 0) (by decide) (Nat.le_of_ble_eq_true rfl) g_o1 d3_13 rfl fun T2 h5 X3 W4 A6 => ?_
  have f7 : AV Z h5 o1 .int [(.int p2), (.int e1_1), (.int e1_2), (.int e1_3)] := A6
  have k8 : Keep h0 h5 [o1] := (Keep.refl h0 [o1]).wr W4 (Or.inl (List.mem_of_getElem? (i := 0) rfl))
  refine w_iinc X3 d3_14 rfl rfl (v' := (1 : Int32)) rfl (L' := #[.val (.ref o1), .val (.int p2), .val (.int (1 : Int32)), .val (.int (4 : Int32))]) rfl ?_
  refine w_goto X3 d3_17 (by decide) (pc' := 5) (by decide) ?_
  refine w_iloadN X3 d3_5 rfl rfl ?_
  refine w_iloadN X3 d3_6 rfl rfl ?_
  refine w_icmp_ge X3 d3_7 (by decide) (pcT := 20) (pcF := 10) (by decide) rfl (fun c9 => absurd c9 (by decide)) (fun c9 => ?_)
  refine w_aloadN X3 d3_10 rfl rfl rfl ?_
  refine w_iloadN X3 d3_11 rfl rfl ?_
  refine w_iloadN X3 d3_12 rfl rfl ?_
  refine w_iastore X3 f7 (by decide) (i := 1) (by decide) (Nat.le_of_ble_eq_true rfl) g_o1 d3_13 rfl fun T10 h13 X11 W12 A14 => ?_
  have f15 : AV Z h13 o1 .int [(.int p2), (.int p2), (.int e1_2), (.int e1_3)] := A14
  have k16 : Keep h0 h13 [o1] := k8.wr W12 (Or.inl (List.mem_of_getElem? (i := 0) rfl))
  refine w_iinc X11 d3_14 rfl rfl (v' := (2 : Int32)) rfl (L' := #[.val (.ref o1), .val (.int p2), .val (.int (2 : Int32)), .val (.int (4 : Int32))]) rfl ?_
  refine w_goto X11 d3_17 (by decide) (pc' := 5) (by decide) ?_
  refine w_iloadN X11 d3_5 rfl rfl ?_
  refine w_iloadN X11 d3_6 rfl rfl ?_
  refine w_icmp_ge X11 d3_7 (by decide) (pcT := 20) (pcF := 10) (by decide) rfl (fun c17 => absurd c17 (by decide)) (fun c17 => ?_)
  refine w_aloadN X11 d3_10 rfl rfl rfl ?_
  refine w_iloadN X11 d3_11 rfl rfl ?_
  refine w_iloadN X11 d3_12 rfl rfl ?_
  refine w_iastore X11 f15 (by decide) (i := 2) (by decide) (Nat.le_of_ble_eq_true rfl) g_o1 d3_13 rfl fun T18 h21 X19 W20 A22 => ?_
  have f23 : AV Z h21 o1 .int [(.int p2), (.int p2), (.int p2), (.int e1_3)] := A22
  have k24 : Keep h0 h21 [o1] := k16.wr W20 (Or.inl (List.mem_of_getElem? (i := 0) rfl))
  refine w_iinc X19 d3_14 rfl rfl (v' := (3 : Int32)) rfl (L' := #[.val (.ref o1), .val (.int p2), .val (.int (3 : Int32)), .val (.int (4 : Int32))]) rfl ?_
  refine w_goto X19 d3_17 (by decide) (pc' := 5) (by decide) ?_
  refine w_iloadN X19 d3_5 rfl rfl ?_
  refine w_iloadN X19 d3_6 rfl rfl ?_
  refine w_icmp_ge X19 d3_7 (by decide) (pcT := 20) (pcF := 10) (by decide) rfl (fun c25 => absurd c25 (by decide)) (fun c25 => ?_)
  refine w_aloadN X19 d3_10 rfl rfl rfl ?_
  refine w_iloadN X19 d3_11 rfl rfl ?_
  refine w_iloadN X19 d3_12 rfl rfl ?_
  refine w_iastore X19 f23 (by decide) (i := 3) (by decide) (Nat.le_of_ble_eq_true rfl) g_o1 d3_13 rfl fun T26 h29 X27 W28 A30 => ?_
  have f31 : AV Z h29 o1 .int [(.int p2), (.int p2), (.int p2), (.int p2)] := A30
  have k32 : Keep h0 h29 [o1] := k24.wr W28 (Or.inl (List.mem_of_getElem? (i := 0) rfl))
  refine w_iinc X27 d3_14 rfl rfl (v' := (4 : Int32)) rfl (L' := #[.val (.ref o1), .val (.int p2), .val (.int (4 : Int32)), .val (.int (4 : Int32))]) rfl ?_
  refine w_goto X27 d3_17 (by decide) (pc' := 5) (by decide) ?_
  refine w_iloadN X27 d3_5 rfl rfl ?_
  refine w_iloadN X27 d3_6 rfl rfl ?_
  refine w_icmp_ge X27 d3_7 (by decide) (pcT := 20) (pcF := 10) (by decide) rfl (fun c33 => ?_) (fun c33 => absurd c33 (by decide))
  exact w_return X27 d3_20 rfl (by skip; exact ⟨k32, f31⟩) (by decide) (by decide)
theorem d1_0 : decode prog_39_method_1_code 0 = .ok (.aload_n 0, 1) := by decide +kernel
theorem d1_1 : decode prog_39_method_1_code 1 = .ok (.invokespecial 1, 3) := by decide +kernel
theorem d1_4 : decode prog_39_method_1_code 4 = .ok (.aload_n 0, 1) := by decide +kernel
theorem d1_5 : decode prog_39_method_1_code 5 = .ok (.iload_n 1, 1) := by decide +kernel
theorem d1_6 : decode prog_39_method_1_code 6 = .ok (.newarray .int, 2) := by decide +kernel
theorem d1_8 : decode prog_39_method_1_code 8 = .ok (.putfield 7, 3) := by decide +kernel
theorem d1_11 : decode prog_39_method_1_code 11 = .ok (.aload_n 0, 1) := by decide +kernel
theorem d1_12 : decode prog_39_method_1_code 12 = .ok (.iload_n 1, 1) := by decide +kernel
theorem d1_13 : decode prog_39_method_1_code 13 = .ok (.newarray .int, 2) := by decide +kernel
theorem d1_15 : decode prog_39_method_1_code 15 = .ok (.putfield 13, 3) := by decide +kernel
theorem d1_18 : decode prog_39_method_1_code 18 = .ok (.aload_n 0, 1) := by decide +kernel
theorem d1_19 : decode prog_39_method_1_code 19 = .ok (.iload_n 1, 1) := by decide +kernel
theorem d1_20 : decode prog_39_method_1_code 20 = .ok (.newarray .int, 2) := by decide +kernel
theorem d1_22 : decode prog_39_method_1_code 22 = .ok (.putfield 16, 3) := by decide +kernel
theorem d1_25 : decode prog_39_method_1_code 25 = .ok (.aload_n 0, 1) := by decide +kernel
theorem d1_26 : decode prog_39_method_1_code 26 = .ok (.iload_n 1, 1) := by decide +kernel
theorem d1_27 : decode prog_39_method_1_code 27 = .ok (.newarray .long, 2) := by decide +kernel
theorem d1_29 : decode prog_39_method_1_code 29 = .ok (.putfield 19, 3) := by decide +kernel
theorem d1_32 : decode prog_39_method_1_code 32 = .ok (.aload_n 0, 1) := by decide +kernel
theorem d1_33 : decode prog_39_method_1_code 33 = .ok (.getfield 13, 3) := by decide +kernel
theorem d1_36 : decode prog_39_method_1_code 36 = .ok (.iconst (-1), 1) := by decide +kernel
theorem d1_37 : decode prog_39_method_1_code 37 = .ok (.invokestatic 23, 3) := by decide +kernel
theorem d1_40 : decode prog_39_method_1_code 40 = .ok (.return_, 1) := by decide +kernel
theorem pd_3 : parseMethodDescriptor "([II)V" = some ⟨[(.array .int), .int], none⟩ := by decide +kernel
theorem pn_1 : plainName "com/example/knotweave/knotweave/OpenNeeds" = true := by first | (simp [plainName, overriddenIn]; done) | decide +kernel
theorem ef_1 (m : MethodId) (o1 : Addr) (p2 : Int32) : entryFrame m #[(.ref o1), (.int p2)] 2 = mkF m 0 #[.val (.ref o1), .val (.int p2)] [] := by first | (simp [entryFrame, mkF, argsToLocals, Value.category]; done) | rfl
set_option maxRecDepth 65536 in
set_option maxHeartbeats 40000000 in
theorem rm_init (l : Launch) (Z : State) (a0 : Array Value) (hw : ∀ d ∈ tables_1, d.before a0 Z = true) (o1 : Addr) (h0 : Heap) (n0 : Nat) (Z0 : n0 ≤ h0.size) (E_p : Exa Z h0 o1 "com/example/knotweave/knotweave/OpenNeeds") (F0_heap : Fld Z h0 o1 "com/example/knotweave/knotweave/OpenNeeds" "heap" "[I" .null) (F0_placeOf : Fld Z h0 o1 "com/example/knotweave/knotweave/OpenNeeds" "placeOf" "[I" .null) (F0_waysOf : Fld Z h0 o1 "com/example/knotweave/knotweave/OpenNeeds" "waysOf" "[I" .null) (F0_rankOf : Fld Z h0 o1 "com/example/knotweave/knotweave/OpenNeeds" "rankOf" "[J" .null) (F0_count : Fld Z h0 o1 "com/example/knotweave/knotweave/OpenNeeds" "count" "I" (.int (0 : Int32))) (g_o1 : n0 ≤ o1) :
    Con l Z (⟨"com/example/knotweave/knotweave/OpenNeeds", "<init>", "(I)V"⟩ : MethodName) prog_39_method_1_code 2 none ({ frames := 1, cells := 4, slots := 16, locals := 15 } : Room) #[(.ref o1), (.int (4 : Int32))] h0 n0 none (fun h => ∃ ha pa wa ra, (n0 ≤ ha ∧ n0 ≤ pa ∧ n0 ≤ wa ∧ n0 ≤ ra) ∧ (h0.size ≤ ha ∧ h0.size ≤ pa ∧ h0.size ≤ wa ∧ h0.size ≤ ra) ∧ Dst o1 ha pa wa ra ∧ Keep h0 h [o1] ∧ ONs Z h o1 ha pa wa ra [0, 0, 0, 0] (plc [0, 0, 0, 0] 0) 0 [0, 0, 0, 0] [0, 0, 0, 0]) := by
  refine con_of (plainFor_of_name pn_1) Z0 (fun m => ef_1 m o1 (4 : Int32)) ?_
  intro p e s m below meth c T0 X0
  refine w_aloadN X0 d1_0 rfl rfl rfl ?_
  refine w_initO X0 (W := 0) (hw _ (List.mem_of_getElem? (i := 6) rfl)) (hw _ (List.mem_of_getElem? (i := 7) rfl)) (hw _ (List.mem_of_getElem? (i := 8) rfl)) rfl rfl (by decide) (by decide) d1_1 rfl fun T1 X2 => ?_
  refine w_aloadN X2 d1_4 rfl rfl rfl ?_
  refine w_iloadN X2 d1_5 rfl rfl ?_
  refine w_newP X2 (hw _ (List.mem_of_getElem? (i := 9) rfl)) (by decide) (k := 4) (by decide) (cap := 4) (by decide) (by decide) (by decide) (by decide) d1_6 rfl fun T3 h5 a6 X4 ga7 gn8 E9 A10 => ?_
  have ne11 : o1 ≠ a6 := by rw [ga7]; exact Nat.ne_of_lt E_p.lt
  have g012 : h0.size ≤ a6 := by rw [ga7]; exact (Keep.refl h0 [o1]).1
  have f13 : Exa Z h5 o1 "com/example/knotweave/knotweave/OpenNeeds" := Exa.ext E9 E_p
  have f14 : Fld Z h5 o1 "com/example/knotweave/knotweave/OpenNeeds" "heap" "[I" .null := Fld.ext E9 F0_heap
  have f15 : Fld Z h5 o1 "com/example/knotweave/knotweave/OpenNeeds" "placeOf" "[I" .null := Fld.ext E9 F0_placeOf
  have f16 : Fld Z h5 o1 "com/example/knotweave/knotweave/OpenNeeds" "waysOf" "[I" .null := Fld.ext E9 F0_waysOf
  have f17 : Fld Z h5 o1 "com/example/knotweave/knotweave/OpenNeeds" "rankOf" "[J" .null := Fld.ext E9 F0_rankOf
  have f18 : Fld Z h5 o1 "com/example/knotweave/knotweave/OpenNeeds" "count" "I" (.int (0 : Int32)) := Fld.ext E9 F0_count
  have k19 : Keep h0 h5 [o1] := (Keep.refl h0 [o1]).ext E9
  have f20 : AV Z h5 a6 .int [(.int (0 : Int32)), (.int (0 : Int32)), (.int (0 : Int32)), (.int (0 : Int32))] := A10
  refine w_putF X4 (host := "") (Or.inl (hw _ (List.mem_of_getElem? (i := 10) rfl))) Via.refl f14 f13 (Or.inr ⟨(hw _ (List.mem_of_getElem? (i := 11) rfl)), rfl, rfl⟩) (hw _ (List.mem_of_getElem? (i := 1) rfl)) (ty := (.array .int)) (by decide) rfl rfl g_o1 d1_8 rfl fun T21 h24 X22 W23 => ?_
  have f25 : Exa Z h24 o1 "com/example/knotweave/knotweave/OpenNeeds" := Exa.wr W23 f13
  have f26 : Fld Z h24 o1 "com/example/knotweave/knotweave/OpenNeeds" "heap" "[I" (.ref a6) := Fld.same W23 f14
  have f27 : Fld Z h24 o1 "com/example/knotweave/knotweave/OpenNeeds" "placeOf" "[I" .null := Fld.other W23 f15 (Or.inr (slot_ne (Or.inr (hw _ (List.mem_of_getElem? (i := 13) rfl))) (Or.inr (hw _ (List.mem_of_getElem? (i := 11) rfl))) (by decide) (t := (.array .int)) (t' := (.array .int)) (by decide) (by decide)))
  have f28 : Fld Z h24 o1 "com/example/knotweave/knotweave/OpenNeeds" "waysOf" "[I" .null := Fld.other W23 f16 (Or.inr (slot_ne (Or.inr (hw _ (List.mem_of_getElem? (i := 15) rfl))) (Or.inr (hw _ (List.mem_of_getElem? (i := 11) rfl))) (by decide) (t := (.array .int)) (t' := (.array .int)) (by decide) (by decide)))
  have f29 : Fld Z h24 o1 "com/example/knotweave/knotweave/OpenNeeds" "rankOf" "[J" .null := Fld.other W23 f17 (Or.inr (slot_ne (Or.inr (hw _ (List.mem_of_getElem? (i := 18) rfl))) (Or.inr (hw _ (List.mem_of_getElem? (i := 11) rfl))) (by decide) (t := (.array .long)) (t' := (.array .int)) (by decide) (by decide)))
  have f30 : Fld Z h24 o1 "com/example/knotweave/knotweave/OpenNeeds" "count" "I" (.int (0 : Int32)) := Fld.other W23 f18 (Or.inr (slot_ne (Or.inl (hw _ (List.mem_of_getElem? (i := 44) rfl))) (Or.inr (hw _ (List.mem_of_getElem? (i := 11) rfl))) (by decide) (t := .int) (t' := (.array .int)) (by decide) (by decide)))
  have f31 : AV Z h24 a6 .int [(.int (0 : Int32)), (.int (0 : Int32)), (.int (0 : Int32)), (.int (0 : Int32))] := f20.other W23 (Ne.symm ne11)
  have k32 : Keep h0 h24 [o1] := k19.wr W23 (Or.inl (List.mem_of_getElem? (i := 0) rfl))
  refine w_aloadN X22 d1_11 rfl rfl rfl ?_
  refine w_iloadN X22 d1_12 rfl rfl ?_
  refine w_newP X22 (hw _ (List.mem_of_getElem? (i := 9) rfl)) (by decide) (k := 4) (by decide) (cap := 4) (by decide) (by decide) (by decide) (by decide) d1_13 rfl fun T33 h35 a36 X34 ga37 gn38 E39 A40 => ?_
  have ne41 : o1 ≠ a36 := by rw [ga37]; exact Nat.ne_of_lt f25.lt
  have ne42 : a6 ≠ a36 := by rw [ga37]; exact Nat.ne_of_lt f31.lt
  have g043 : h0.size ≤ a36 := by rw [ga37]; exact k32.1
  have f44 : Exa Z h35 o1 "com/example/knotweave/knotweave/OpenNeeds" := Exa.ext E39 f25
  have f45 : Fld Z h35 o1 "com/example/knotweave/knotweave/OpenNeeds" "heap" "[I" (.ref a6) := Fld.ext E39 f26
  have f46 : Fld Z h35 o1 "com/example/knotweave/knotweave/OpenNeeds" "placeOf" "[I" .null := Fld.ext E39 f27
  have f47 : Fld Z h35 o1 "com/example/knotweave/knotweave/OpenNeeds" "waysOf" "[I" .null := Fld.ext E39 f28
  have f48 : Fld Z h35 o1 "com/example/knotweave/knotweave/OpenNeeds" "rankOf" "[J" .null := Fld.ext E39 f29
  have f49 : Fld Z h35 o1 "com/example/knotweave/knotweave/OpenNeeds" "count" "I" (.int (0 : Int32)) := Fld.ext E39 f30
  have f50 : AV Z h35 a6 .int [(.int (0 : Int32)), (.int (0 : Int32)), (.int (0 : Int32)), (.int (0 : Int32))] := f31.ext E39
  have k51 : Keep h0 h35 [o1] := k32.ext E39
  have f52 : AV Z h35 a36 .int [(.int (0 : Int32)), (.int (0 : Int32)), (.int (0 : Int32)), (.int (0 : Int32))] := A40
  refine w_putF X34 (host := "") (Or.inl (hw _ (List.mem_of_getElem? (i := 12) rfl))) Via.refl f46 f44 (Or.inr ⟨(hw _ (List.mem_of_getElem? (i := 13) rfl)), rfl, rfl⟩) (hw _ (List.mem_of_getElem? (i := 1) rfl)) (ty := (.array .int)) (by decide) rfl rfl g_o1 d1_15 rfl fun T53 h56 X54 W55 => ?_
  have f57 : Exa Z h56 o1 "com/example/knotweave/knotweave/OpenNeeds" := Exa.wr W55 f44
  have f58 : Fld Z h56 o1 "com/example/knotweave/knotweave/OpenNeeds" "heap" "[I" (.ref a6) := Fld.other W55 f45 (Or.inr (slot_ne (Or.inr (hw _ (List.mem_of_getElem? (i := 11) rfl))) (Or.inr (hw _ (List.mem_of_getElem? (i := 13) rfl))) (by decide) (t := (.array .int)) (t' := (.array .int)) (by decide) (by decide)))
  have f59 : Fld Z h56 o1 "com/example/knotweave/knotweave/OpenNeeds" "placeOf" "[I" (.ref a36) := Fld.same W55 f46
  have f60 : Fld Z h56 o1 "com/example/knotweave/knotweave/OpenNeeds" "waysOf" "[I" .null := Fld.other W55 f47 (Or.inr (slot_ne (Or.inr (hw _ (List.mem_of_getElem? (i := 15) rfl))) (Or.inr (hw _ (List.mem_of_getElem? (i := 13) rfl))) (by decide) (t := (.array .int)) (t' := (.array .int)) (by decide) (by decide)))
  have f61 : Fld Z h56 o1 "com/example/knotweave/knotweave/OpenNeeds" "rankOf" "[J" .null := Fld.other W55 f48 (Or.inr (slot_ne (Or.inr (hw _ (List.mem_of_getElem? (i := 18) rfl))) (Or.inr (hw _ (List.mem_of_getElem? (i := 13) rfl))) (by decide) (t := (.array .long)) (t' := (.array .int)) (by decide) (by decide)))
  have f62 : Fld Z h56 o1 "com/example/knotweave/knotweave/OpenNeeds" "count" "I" (.int (0 : Int32)) := Fld.other W55 f49 (Or.inr (slot_ne (Or.inl (hw _ (List.mem_of_getElem? (i := 44) rfl))) (Or.inr (hw _ (List.mem_of_getElem? (i := 13) rfl))) (by decide) (t := .int) (t' := (.array .int)) (by decide) (by decide)))
  have f63 : AV Z h56 a6 .int [(.int (0 : Int32)), (.int (0 : Int32)), (.int (0 : Int32)), (.int (0 : Int32))] := f50.other W55 (Ne.symm ne11)
  have f64 : AV Z h56 a36 .int [(.int (0 : Int32)), (.int (0 : Int32)), (.int (0 : Int32)), (.int (0 : Int32))] := f52.other W55 (Ne.symm ne41)
  have k65 : Keep h0 h56 [o1] := k51.wr W55 (Or.inl (List.mem_of_getElem? (i := 0) rfl))
  refine w_aloadN X54 d1_18 rfl rfl rfl ?_
  refine w_iloadN X54 d1_19 rfl rfl ?_
  refine w_newP X54 (hw _ (List.mem_of_getElem? (i := 9) rfl)) (by decide) (k := 4) (by decide) (cap := 4) (by decide) (by decide) (by decide) (by decide) d1_20 rfl fun T66 h68 a69 X67 ga70 gn71 E72 A73 => ?_
  have ne74 : o1 ≠ a69 := by rw [ga70]; exact Nat.ne_of_lt f57.lt
  have ne75 : a6 ≠ a69 := by rw [ga70]; exact Nat.ne_of_lt f63.lt
  have ne76 : a36 ≠ a69 := by rw [ga70]; exact Nat.ne_of_lt f64.lt
  have g077 : h0.size ≤ a69 := by rw [ga70]; exact k65.1
  have f78 : Exa Z h68 o1 "com/example/knotweave/knotweave/OpenNeeds" := Exa.ext E72 f57
  have f79 : Fld Z h68 o1 "com/example/knotweave/knotweave/OpenNeeds" "heap" "[I" (.ref a6) := Fld.ext E72 f58
  have f80 : Fld Z h68 o1 "com/example/knotweave/knotweave/OpenNeeds" "placeOf" "[I" (.ref a36) := Fld.ext E72 f59
  have f81 : Fld Z h68 o1 "com/example/knotweave/knotweave/OpenNeeds" "waysOf" "[I" .null := Fld.ext E72 f60
  have f82 : Fld Z h68 o1 "com/example/knotweave/knotweave/OpenNeeds" "rankOf" "[J" .null := Fld.ext E72 f61
  have f83 : Fld Z h68 o1 "com/example/knotweave/knotweave/OpenNeeds" "count" "I" (.int (0 : Int32)) := Fld.ext E72 f62
  have f84 : AV Z h68 a6 .int [(.int (0 : Int32)), (.int (0 : Int32)), (.int (0 : Int32)), (.int (0 : Int32))] := f63.ext E72
  have f85 : AV Z h68 a36 .int [(.int (0 : Int32)), (.int (0 : Int32)), (.int (0 : Int32)), (.int (0 : Int32))] := f64.ext E72
  have k86 : Keep h0 h68 [o1] := k65.ext E72
  have f87 : AV Z h68 a69 .int [(.int (0 : Int32)), (.int (0 : Int32)), (.int (0 : Int32)), (.int (0 : Int32))] := A73
  refine w_putF X67 (host := "") (Or.inl (hw _ (List.mem_of_getElem? (i := 14) rfl))) Via.refl f81 f78 (Or.inr ⟨(hw _ (List.mem_of_getElem? (i := 15) rfl)), rfl, rfl⟩) (hw _ (List.mem_of_getElem? (i := 1) rfl)) (ty := (.array .int)) (by decide) rfl rfl g_o1 d1_22 rfl fun T88 h91 X89 W90 => ?_
  have f92 : Exa Z h91 o1 "com/example/knotweave/knotweave/OpenNeeds" := Exa.wr W90 f78
  have f93 : Fld Z h91 o1 "com/example/knotweave/knotweave/OpenNeeds" "heap" "[I" (.ref a6) := Fld.other W90 f79 (Or.inr (slot_ne (Or.inr (hw _ (List.mem_of_getElem? (i := 11) rfl))) (Or.inr (hw _ (List.mem_of_getElem? (i := 15) rfl))) (by decide) (t := (.array .int)) (t' := (.array .int)) (by decide) (by decide)))
  have f94 : Fld Z h91 o1 "com/example/knotweave/knotweave/OpenNeeds" "placeOf" "[I" (.ref a36) := Fld.other W90 f80 (Or.inr (slot_ne (Or.inr (hw _ (List.mem_of_getElem? (i := 13) rfl))) (Or.inr (hw _ (List.mem_of_getElem? (i := 15) rfl))) (by decide) (t := (.array .int)) (t' := (.array .int)) (by decide) (by decide)))
  have f95 : Fld Z h91 o1 "com/example/knotweave/knotweave/OpenNeeds" "waysOf" "[I" (.ref a69) := Fld.same W90 f81
  have f96 : Fld Z h91 o1 "com/example/knotweave/knotweave/OpenNeeds" "rankOf" "[J" .null := Fld.other W90 f82 (Or.inr (slot_ne (Or.inr (hw _ (List.mem_of_getElem? (i := 18) rfl))) (Or.inr (hw _ (List.mem_of_getElem? (i := 15) rfl))) (by decide) (t := (.array .long)) (t' := (.array .int)) (by decide) (by decide)))
  have f97 : Fld Z h91 o1 "com/example/knotweave/knotweave/OpenNeeds" "count" "I" (.int (0 : Int32)) := Fld.other W90 f83 (Or.inr (slot_ne (Or.inl (hw _ (List.mem_of_getElem? (i := 44) rfl))) (Or.inr (hw _ (List.mem_of_getElem? (i := 15) rfl))) (by decide) (t := .int) (t' := (.array .int)) (by decide) (by decide)))
  have f98 : AV Z h91 a6 .int [(.int (0 : Int32)), (.int (0 : Int32)), (.int (0 : Int32)), (.int (0 : Int32))] := f84.other W90 (Ne.symm ne11)
  have f99 : AV Z h91 a36 .int [(.int (0 : Int32)), (.int (0 : Int32)), (.int (0 : Int32)), (.int (0 : Int32))] := f85.other W90 (Ne.symm ne41)
  have f100 : AV Z h91 a69 .int [(.int (0 : Int32)), (.int (0 : Int32)), (.int (0 : Int32)), (.int (0 : Int32))] := f87.other W90 (Ne.symm ne74)
  have k101 : Keep h0 h91 [o1] := k86.wr W90 (Or.inl (List.mem_of_getElem? (i := 0) rfl))
  refine w_aloadN X89 d1_25 rfl rfl rfl ?_
  refine w_iloadN X89 d1_26 rfl rfl ?_
  refine w_newP X89 (hw _ (List.mem_of_getElem? (i := 16) rfl)) (by decide) (k := 4) (by decide) (cap := 4) (by decide) (by decide) (by decide) (by decide) d1_27 rfl fun T102 h104 a105 X103 ga106 gn107 E108 A109 => ?_
  have ne110 : o1 ≠ a105 := by rw [ga106]; exact Nat.ne_of_lt f92.lt
  have ne111 : a6 ≠ a105 := by rw [ga106]; exact Nat.ne_of_lt f98.lt
  have ne112 : a36 ≠ a105 := by rw [ga106]; exact Nat.ne_of_lt f99.lt
  have ne113 : a69 ≠ a105 := by rw [ga106]; exact Nat.ne_of_lt f100.lt
  have g0114 : h0.size ≤ a105 := by rw [ga106]; exact k101.1
  have f115 : Exa Z h104 o1 "com/example/knotweave/knotweave/OpenNeeds" := Exa.ext E108 f92
  have f116 : Fld Z h104 o1 "com/example/knotweave/knotweave/OpenNeeds" "heap" "[I" (.ref a6) := Fld.ext E108 f93
  have f117 : Fld Z h104 o1 "com/example/knotweave/knotweave/OpenNeeds" "placeOf" "[I" (.ref a36) := Fld.ext E108 f94
  have f118 : Fld Z h104 o1 "com/example/knotweave/knotweave/OpenNeeds" "waysOf" "[I" (.ref a69) := Fld.ext E108 f95
  have f119 : Fld Z h104 o1 "com/example/knotweave/knotweave/OpenNeeds" "rankOf" "[J" .null := Fld.ext E108 f96
  have f120 : Fld Z h104 o1 "com/example/knotweave/knotweave/OpenNeeds" "count" "I" (.int (0 : Int32)) := Fld.ext E108 f97
  have f121 : AV Z h104 a6 .int [(.int (0 : Int32)), (.int (0 : Int32)), (.int (0 : Int32)), (.int (0 : Int32))] := f98.ext E108
  have f122 : AV Z h104 a36 .int [(.int (0 : Int32)), (.int (0 : Int32)), (.int (0 : Int32)), (.int (0 : Int32))] := f99.ext E108
  have f123 : AV Z h104 a69 .int [(.int (0 : Int32)), (.int (0 : Int32)), (.int (0 : Int32)), (.int (0 : Int32))] := f100.ext E108
  have k124 : Keep h0 h104 [o1] := k101.ext E108
  have f125 : AV Z h104 a105 .long [(.long (0 : Int64)), (.long (0 : Int64)), (.long (0 : Int64)), (.long (0 : Int64))] := A109
  refine w_putF X103 (host := "") (Or.inl (hw _ (List.mem_of_getElem? (i := 17) rfl))) Via.refl f119 f115 (Or.inr ⟨(hw _ (List.mem_of_getElem? (i := 18) rfl)), rfl, rfl⟩) (hw _ (List.mem_of_getElem? (i := 1) rfl)) (ty := (.array .long)) (by decide) rfl rfl g_o1 d1_29 rfl fun T126 h129 X127 W128 => ?_
  have f130 : Exa Z h129 o1 "com/example/knotweave/knotweave/OpenNeeds" := Exa.wr W128 f115
  have f131 : Fld Z h129 o1 "com/example/knotweave/knotweave/OpenNeeds" "heap" "[I" (.ref a6) := Fld.other W128 f116 (Or.inr (slot_ne (Or.inr (hw _ (List.mem_of_getElem? (i := 11) rfl))) (Or.inr (hw _ (List.mem_of_getElem? (i := 18) rfl))) (by decide) (t := (.array .int)) (t' := (.array .long)) (by decide) (by decide)))
  have f132 : Fld Z h129 o1 "com/example/knotweave/knotweave/OpenNeeds" "placeOf" "[I" (.ref a36) := Fld.other W128 f117 (Or.inr (slot_ne (Or.inr (hw _ (List.mem_of_getElem? (i := 13) rfl))) (Or.inr (hw _ (List.mem_of_getElem? (i := 18) rfl))) (by decide) (t := (.array .int)) (t' := (.array .long)) (by decide) (by decide)))
  have f133 : Fld Z h129 o1 "com/example/knotweave/knotweave/OpenNeeds" "waysOf" "[I" (.ref a69) := Fld.other W128 f118 (Or.inr (slot_ne (Or.inr (hw _ (List.mem_of_getElem? (i := 15) rfl))) (Or.inr (hw _ (List.mem_of_getElem? (i := 18) rfl))) (by decide) (t := (.array .int)) (t' := (.array .long)) (by decide) (by decide)))
  have f134 : Fld Z h129 o1 "com/example/knotweave/knotweave/OpenNeeds" "rankOf" "[J" (.ref a105) := Fld.same W128 f119
  have f135 : Fld Z h129 o1 "com/example/knotweave/knotweave/OpenNeeds" "count" "I" (.int (0 : Int32)) := Fld.other W128 f120 (Or.inr (slot_ne (Or.inl (hw _ (List.mem_of_getElem? (i := 44) rfl))) (Or.inr (hw _ (List.mem_of_getElem? (i := 18) rfl))) (by decide) (t := .int) (t' := (.array .long)) (by decide) (by decide)))
  have f136 : AV Z h129 a6 .int [(.int (0 : Int32)), (.int (0 : Int32)), (.int (0 : Int32)), (.int (0 : Int32))] := f121.other W128 (Ne.symm ne11)
  have f137 : AV Z h129 a36 .int [(.int (0 : Int32)), (.int (0 : Int32)), (.int (0 : Int32)), (.int (0 : Int32))] := f122.other W128 (Ne.symm ne41)
  have f138 : AV Z h129 a69 .int [(.int (0 : Int32)), (.int (0 : Int32)), (.int (0 : Int32)), (.int (0 : Int32))] := f123.other W128 (Ne.symm ne74)
  have f139 : AV Z h129 a105 .long [(.long (0 : Int64)), (.long (0 : Int64)), (.long (0 : Int64)), (.long (0 : Int64))] := f125.other W128 (Ne.symm ne110)
  have k140 : Keep h0 h129 [o1] := k124.wr W128 (Or.inl (List.mem_of_getElem? (i := 0) rfl))
  refine w_aloadN X127 d1_32 rfl rfl rfl ?_
  refine w_getF X127 (host := "") (Or.inl (hw _ (List.mem_of_getElem? (i := 12) rfl))) Via.refl f132 d1_33 rfl fun T141 X142 => ?_
  refine w_iconst X142 d1_36 (v := (-1 : Int32)) rfl rfl ?_
  refine w_static0 X142 (rm_fill l Z a0 hw a36 (-1 : Int32) (0 : Int32) (0 : Int32) (0 : Int32) (0 : Int32) h129 n0 X142.size f137 gn38) (hw _ (List.mem_of_getElem? (i := 19) rfl)) (hw _ (List.mem_of_getElem? (i := 20) rfl)) (hw _ (List.mem_of_getElem? (i := 21) rfl)) (hw _ (List.mem_of_getElem? (i := 22) rfl)) (by decide) (argsL := [(.ref a36), (.int (-1 : Int32))]) (rest := []) rfl (lenOf pd_3 rfl) rfl (W := 0) rfl (by decide) (by decide) (by decide) (by decide) d1_37 rfl fun T143 h144 X145 q146 => ?_
  obtain ⟨K147, f148⟩ := q146
  have f149 : Exa Z h144 o1 "com/example/knotweave/knotweave/OpenNeeds" := f130.keep K147
  have f150 : Fld Z h144 o1 "com/example/knotweave/knotweave/OpenNeeds" "heap" "[I" (.ref a6) := f131.keep K147 (ninS ne41 nin0)
  have f151 : Fld Z h144 o1 "com/example/knotweave/knotweave/OpenNeeds" "placeOf" "[I" (.ref a36) := f132.keep K147 (ninS ne41 nin0)
  have f152 : Fld Z h144 o1 "com/example/knotweave/knotweave/OpenNeeds" "waysOf" "[I" (.ref a69) := f133.keep K147 (ninS ne41 nin0)
  have f153 : Fld Z h144 o1 "com/example/knotweave/knotweave/OpenNeeds" "rankOf" "[J" (.ref a105) := f134.keep K147 (ninS ne41 nin0)
  have f154 : Fld Z h144 o1 "com/example/knotweave/knotweave/OpenNeeds" "count" "I" (.int (0 : Int32)) := f135.keep K147 (ninS ne41 nin0)
  have f155 : AV Z h144 a6 .int [(.int (0 : Int32)), (.int (0 : Int32)), (.int (0 : Int32)), (.int (0 : Int32))] := f136.keep K147 (ninS ne42 nin0)
  have f156 : AV Z h144 a69 .int [(.int (0 : Int32)), (.int (0 : Int32)), (.int (0 : Int32)), (.int (0 : Int32))] := f138.keep K147 (ninS (Ne.symm ne76) nin0)
  have f157 : AV Z h144 a105 .long [(.long (0 : Int64)), (.long (0 : Int64)), (.long (0 : Int64)), (.long (0 : Int64))] := f139.keep K147 (ninS (Ne.symm ne112) nin0)
  have k158 : Keep h0 h144 [o1] := k140.trans K147 (allS (Or.inr g043) all0)
  obtain ⟨z159, hz159⟩ : ∃ z, z = (f_fill_o1_0 (-1 : Int32) (0 : Int32) (0 : Int32) (0 : Int32) (0 : Int32)) := ⟨_, rfl⟩
  obtain ⟨z160, hz160⟩ : ∃ z, z = (f_fill_o1_1 (-1 : Int32) (0 : Int32) (0 : Int32) (0 : Int32) (0 : Int32)) := ⟨_, rfl⟩
  obtain ⟨z161, hz161⟩ : ∃ z, z = (f_fill_o1_2 (-1 : Int32) (0 : Int32) (0 : Int32) (0 : Int32) (0 : Int32)) := ⟨_, rfl⟩
  obtain ⟨z162, hz162⟩ : ∃ z, z = (f_fill_o1_3 (-1 : Int32) (0 : Int32) (0 : Int32) (0 : Int32) (0 : Int32)) := ⟨_, rfl⟩
  have f163 : AV Z h144 a36 .int [(.int z159), (.int z160), (.int z161), (.int z162)] := by subst hz162 hz161 hz160 hz159; exact f148
  exact w_return X145 d1_40 rfl ⟨a6, a36, a69, a105, ⟨gn8, gn38, gn71, gn107⟩, ⟨g012, g043, g077, g0114⟩, ⟨ne11, ne41, ne74, ne110, ne42, ne75, ne111, ne76, ne112, ne113⟩, k158, (by subst hz162 hz161 hz160 hz159; exact ⟨f149, f150, f151, f152, f153, f154, f155, f163, f156, f157⟩)⟩ (by decide) (by decide)
theorem d4_0 : decode method_3_code 0 = .ok (.iload_n 2, 1) := by decide +kernel
theorem d4_1 : decode method_3_code 1 = .ok (.iconst 3, 1) := by decide +kernel
theorem d4_2 : decode method_3_code 2 = .ok (.iand, 1) := by decide +kernel
theorem d4_3 : decode method_3_code 3 = .ok (.istore 5, 2) := by decide +kernel
theorem d4_5 : decode method_3_code 5 = .ok (.iload_n 2, 1) := by decide +kernel
theorem d4_6 : decode method_3_code 6 = .ok (.iconst 4, 1) := by decide +kernel
theorem d4_7 : decode method_3_code 7 = .ok (.iand, 1) := by decide +kernel
theorem d4_8 : decode method_3_code 8 = .ok (.ifCond .eq 34, 3) := by decide +kernel
theorem d4_11 : decode method_3_code 11 = .ok (.lload_n 3, 1) := by decide +kernel
theorem d4_12 : decode method_3_code 12 = .ok (.iload_n 2, 1) := by decide +kernel
theorem d4_13 : decode method_3_code 13 = .ok (.i2l, 1) := by decide +kernel
theorem d4_14 : decode method_3_code 14 = .ok (.lxor, 1) := by decide +kernel
theorem d4_15 : decode method_3_code 15 = .ok (.iconst 2, 1) := by decide +kernel
theorem d4_16 : decode method_3_code 16 = .ok (.lshl, 1) := by decide +kernel
theorem d4_17 : decode method_3_code 17 = .ok (.iload 5, 2) := by decide +kernel
theorem d4_19 : decode method_3_code 19 = .ok (.i2l, 1) := by decide +kernel
theorem d4_20 : decode method_3_code 20 = .ok (.lor, 1) := by decide +kernel
theorem d4_21 : decode method_3_code 21 = .ok (.lstore 6, 2) := by decide +kernel
theorem d4_23 : decode method_3_code 23 = .ok (.aload_n 0, 1) := by decide +kernel
theorem d4_24 : decode method_3_code 24 = .ok (.iload 5, 2) := by decide +kernel
theorem d4_26 : decode method_3_code 26 = .ok (.iload_n 2, 1) := by decide +kernel
theorem d4_27 : decode method_3_code 27 = .ok (.iconst 3, 1) := by decide +kernel
theorem d4_28 : decode method_3_code 28 = .ok (.ishr, 1) := by decide +kernel
theorem d4_29 : decode method_3_code 29 = .ok (.lload 6, 2) := by decide +kernel
theorem d4_31 : decode method_3_code 31 = .ok (.invokevirtual 26, 3) := by decide +kernel
theorem d4_34 : decode method_3_code 34 = .ok (.aload_n 1, 1) := by decide +kernel
theorem d4_35 : decode method_3_code 35 = .ok (.iload 5, 2) := by decide +kernel
theorem d4_37 : decode method_3_code 37 = .ok (.iconst 1, 1) := by decide +kernel
theorem d4_38 : decode method_3_code 38 = .ok (.bastore, 1) := by decide +kernel
theorem d4_39 : decode method_3_code 39 = .ok (.goto 14, 3) := by decide +kernel
theorem d4_42 : decode method_3_code 42 = .ok (.aload_n 0, 1) := by decide +kernel
theorem d4_43 : decode method_3_code 43 = .ok (.iload 5, 2) := by decide +kernel
theorem d4_45 : decode method_3_code 45 = .ok (.invokevirtual 30, 3) := by decide +kernel
theorem d4_48 : decode method_3_code 48 = .ok (.aload_n 1, 1) := by decide +kernel
theorem d4_49 : decode method_3_code 49 = .ok (.iload 5, 2) := by decide +kernel
theorem d4_51 : decode method_3_code 51 = .ok (.iconst 0, 1) := by decide +kernel
theorem d4_52 : decode method_3_code 52 = .ok (.bastore, 1) := by decide +kernel
theorem d4_53 : decode method_3_code 53 = .ok (.return_, 1) := by decide +kernel
theorem pd_4 : parseMethodDescriptor "(IIJ)V" = some ⟨[.int, .int, .long], none⟩ := by decide +kernel
theorem pn_4 : plainName "com/example/knotweave/knotweave/OpenNeedsContainsPinLaw" = true := by first | (simp [plainName, overriddenIn]; done) | decide +kernel
theorem ef_4 (m : MethodId) (o1 : Addr) (o2 : Addr) (p3 : Int32) (q4 : Int64) : entryFrame m #[(.ref o1), (.ref o2), (.int p3), (.long q4)] 8 = mkF m 0 #[.val (.ref o1), .val (.ref o2), .val (.int p3), .val (.long q4), .second, .unset, .unset, .unset] [] := by first | (simp [entryFrame, mkF, argsToLocals, Value.category]; done) | rfl
set_option maxRecDepth 65536 in
set_option maxHeartbeats 40000000 in
theorem rm_step (l : Launch) (Z : State) (a0 : Array Value) (hw : ∀ d ∈ tables_1, d.before a0 Z = true) (o1 : Addr) (o2 : Addr) (p3 : Int32) (q4 : Int64) (ha : Addr) (pa : Addr) (wa : Addr) (ra : Addr) (hs : List Int32) (c0 : Int32) (ws : List Int32) (rs : List Int64) (h0 : Heap) (n0 : Nat) (Z0 : n0 ≤ h0.size) (O : ONs Z h0 o1 ha pa wa ra hs (plc hs c0) c0 ws rs) (D : Dst o1 ha pa wa ra) (G : Ges n0 o1 ha pa wa ra) (A_2 : AV Z h0 o2 .boolean ((mm hs c0).map Value.int)) (D2 : o2 ≠ o1 ∧ o2 ≠ ha ∧ o2 ≠ pa ∧ o2 ≠ wa ∧ o2 ≠ ra) (g_o2 : n0 ≤ o2) (hs4 : hs ∈ S4) (hc : c0 ∈ five) (ho : okb hs c0 = true) (lw : ws.length = 4) (lr : rs.length = 4) :
    Con l Z (⟨"com/example/knotweave/knotweave/OpenNeedsContainsPinLaw", "step", "(Lcom/example/knotweave/knotweave/OpenNeeds;[ZIJ)V"⟩ : MethodName) method_3_code 8 none ({ frames := 3, cells := 0, slots := 0, locals := 45 } : Room) #[(.ref o1), (.ref o2), (.int p3), (.long q4)] h0 n0 none (fun h => ∃ hs' c' ws' rs', hs' ∈ S4 ∧ c' ∈ five ∧ okb hs' c' = true ∧ ws'.length = 4 ∧ rs'.length = 4 ∧ Keep h0 h [o1, ha, pa, wa, ra, o2] ∧ AV Z h o2 .boolean ((mm hs' c').map Value.int) ∧ ONs Z h o1 ha pa wa ra hs' (plc hs' c') c' ws' rs') := by
  refine con_of (plainFor_of_name pn_4) Z0 (fun m => ef_4 m o1 o2 p3 q4) ?_
  intro p e s m below meth c T0 X0
  obtain ⟨E_o, F_h, F_p, F_w, F_r, F_c, A_h, A_p, A_w, A_r⟩ := O
  obtain ⟨ne_o1_ha, ne_o1_pa, ne_o1_wa, ne_o1_ra, ne_ha_pa, ne_ha_wa, ne_ha_ra, ne_pa_wa, ne_pa_ra, ne_wa_ra⟩ := D
  obtain ⟨g_o1, g_ha, g_pa, g_wa, g_ra⟩ := G
  obtain ⟨x_o1, x_ha, x_pa, x_wa, x_ra⟩ := D2
  refine w_iloadN X0 d4_0 rfl rfl ?_
  refine w_iconst X0 d4_1 (v := (3 : Int32)) rfl rfl ?_
  refine w_iand X0 d4_2 rfl ?_
  generalize hz1 : (p3 &&& (3 : Int32)) = z1
  refine w_istore X0 d4_3 rfl (L' := #[.val (.ref o1), .val (.ref o2), .val (.int p3), .val (.long q4), .second, .val (.int z1), .unset, .unset]) rfl ?_
  refine w_iloadN X0 d4_5 rfl rfl ?_
  refine w_iconst X0 d4_6 (v := (4 : Int32)) rfl rfl ?_
  refine w_iand X0 d4_7 rfl ?_
  refine w_if_eq X0 d4_8 (by decide) (pcT := 42) (pcF := 11) (by decide) rfl (fun c2 => ?_) (fun c2 => ?_)
  · refine w_aloadN X0 d4_42 rfl rfl rfl ?_
    refine w_iload X0 d4_43 rfl rfl ?_
    refine w_virtual0 X0 (rm_remove l Z a0 hw o1 z1 ha pa wa ra hs c0 ws rs h0 n0 X0.size ⟨E_o, F_h, F_p, F_w, F_r, F_c, A_h, A_p, A_w, A_r⟩ ⟨ne_o1_ha, ne_o1_pa, ne_o1_wa, ne_o1_ra, ne_ha_pa, ne_ha_wa, ne_ha_ra, ne_pa_wa, ne_pa_ra, ne_wa_ra⟩ ⟨g_o1, g_ha, g_pa, g_wa, g_ra⟩ (f_bf ws rs) (fun _ _ _ _ => rfl) hs4 hc ho (by rw [← hz1]; exact own_four _) lw lr) E_o (hw _ (List.mem_of_getElem? (i := 28) rfl)) (hw _ (List.mem_of_getElem? (i := 29) rfl)) (hw _ (List.mem_of_getElem? (i := 31) rfl)) (hw _ (List.mem_of_getElem? (i := 30) rfl)) (hw _ (List.mem_of_getElem? (i := 2) rfl)) (hw _ (List.mem_of_getElem? (i := 32) rfl)) (by decide) (argsL := [(.int z1)]) (rest := []) rfl (lenOf pd_2 rfl) rfl (W := 0) rfl (by decide) (by decide) (by decide) (by decide) d4_45 rfl fun T3 h4 X5 q6 => ?_
    obtain ⟨hs17, m18, hc19, ok20, mm21, md22, K23, n7, n8, n9, n10, n11, n12, n13, n14, n15, n16⟩ := q6
    have f24 : Exa Z h4 o1 "com/example/knotweave/knotweave/OpenNeeds" := E_o.keep K23
    have f25 : AV Z h4 o2 .boolean ((mm hs c0).map Value.int) := A_2.keep K23 (ninS x_o1 (ninS x_ha (ninS x_pa (ninS x_wa (ninS x_ra nin0)))))
    have k26 : Keep h0 h4 [o1, ha, pa, wa, ra, o2] := (Keep.refl h0 [o1, ha, pa, wa, ra, o2]).trans K23 (allS (Or.inl (List.mem_of_getElem? (i := 0) rfl)) (allS (Or.inl (List.mem_of_getElem? (i := 1) rfl)) (allS (Or.inl (List.mem_of_getElem? (i := 2) rfl)) (allS (Or.inl (List.mem_of_getElem? (i := 3) rfl)) (allS (Or.inl (List.mem_of_getElem? (i := 4) rfl)) all0)))))
    refine w_aloadN X5 d4_48 rfl rfl rfl ?_
    refine w_iload X5 d4_49 rfl rfl ?_
    refine w_iconst X5 d4_51 (v := (0 : Int32)) rfl rfl ?_
    refine w_bastoreZ X5 f25 (D0 _ (by rw [← hz1]; exact own_four _)).1 rfl (by rw [List.length_map]; exact (D0 _ (by rw [← hz1]; exact own_four _)).2.1) g_o2 d4_52 rfl fun T27 h30 X28 W29 A31 => ?_
    rw [← List.map_set] at A31
    obtain ⟨xs32, hxs32⟩ : ∃ z, z = ((mm hs c0).set (z1).toNatClampNeg (nar .boolean (0 : Int32))) := ⟨_, rfl⟩
    rw [← hxs32] at A31
    have f33 : AV Z h30 o2 .boolean (xs32.map Value.int) := A31
    have f34 : Exa Z h30 o1 "com/example/knotweave/knotweave/OpenNeeds" := Exa.wr W29 n7
    have f35 : Fld Z h30 o1 "com/example/knotweave/knotweave/OpenNeeds" "heap" "[I" (.ref ha) := Fld.other W29 n8 (Or.inl (Ne.symm x_o1))
    have f36 : Fld Z h30 o1 "com/example/knotweave/knotweave/OpenNeeds" "placeOf" "[I" (.ref pa) := Fld.other W29 n9 (Or.inl (Ne.symm x_o1))
    have f37 : Fld Z h30 o1 "com/example/knotweave/knotweave/OpenNeeds" "waysOf" "[I" (.ref wa) := Fld.other W29 n10 (Or.inl (Ne.symm x_o1))
    have f38 : Fld Z h30 o1 "com/example/knotweave/knotweave/OpenNeeds" "rankOf" "[J" (.ref ra) := Fld.other W29 n11 (Or.inl (Ne.symm x_o1))
    have f39 : Fld Z h30 o1 "com/example/knotweave/knotweave/OpenNeeds" "count" "I" (.int (remC hs c0 z1)) := Fld.other W29 n12 (Or.inl (Ne.symm x_o1))
    have f40 : AV Z h30 ha .int (hs17.map Value.int) := n13.other W29 (Ne.symm x_ha)
    have f41 : AV Z h30 pa .int ((plc hs17 (remC hs c0 z1)).map Value.int) := n14.other W29 (Ne.symm x_pa)
    have f42 : AV Z h30 wa .int (ws.map Value.int) := n15.other W29 (Ne.symm x_wa)
    have f43 : AV Z h30 ra .long (rs.map Value.long) := n16.other W29 (Ne.symm x_ra)
    have k44 : Keep h0 h30 [o1, ha, pa, wa, ra, o2] := k26.wr W29 (Or.inl (List.mem_of_getElem? (i := 5) rfl))
    have A45 : AV Z h30 o2 .boolean (((mm hs c0).set (z1).toNatClampNeg 0).map Value.int) := by rw [hxs32] at f33; exact f33
    exact w_return X28 d4_53 rfl ⟨_, _, _, _, m18, hc19, ok20, lw, lr, k44, (by rw [mm21]; exact A45), ⟨f34, f35, f36, f37, f38, f39, f40, f41, f42, f43⟩⟩ (by decide) (by decide)
  · refine w_lloadN X0 d4_11 rfl rfl ?_
    refine w_iloadN X0 d4_12 rfl rfl ?_
    refine w_i2l X0 d4_13 rfl ?_
    refine w_lxor X0 d4_14 rfl ?_
    refine w_iconst X0 d4_15 (v := (2 : Int32)) rfl rfl ?_
    refine w_lshl X0 d4_16 rfl ?_
    refine w_iload X0 d4_17 rfl rfl ?_
    refine w_i2l X0 d4_19 rfl ?_
    refine w_lor X0 d4_20 rfl ?_
    generalize hz46 : (((q4 ^^^ (p3.toInt64)) <<< ((2 : Int32) &&& 0x3f).toInt64) ||| (z1.toInt64)) = z46
    refine w_lstore X0 d4_21 rfl (L' := #[.val (.ref o1), .val (.ref o2), .val (.int p3), .val (.long q4), .second, .val (.int z1), .val (.long z46), .second]) rfl ?_
    refine w_aloadN X0 d4_23 rfl rfl rfl ?_
    refine w_iload X0 d4_24 rfl rfl ?_
    refine w_iloadN X0 d4_26 rfl rfl ?_
    refine w_iconst X0 d4_27 (v := (3 : Int32)) rfl rfl ?_
    refine w_ishr X0 d4_28 rfl ?_
    refine w_lload X0 d4_29 rfl rfl ?_
    refine w_virtual0 X0 (rm_put l Z a0 hw o1 z1 (p3 >>> ((3 : Int32) &&& 31)) z46 ha pa wa ra hs c0 ws rs h0 n0 X0.size ⟨E_o, F_h, F_p, F_w, F_r, F_c, A_h, A_p, A_w, A_r⟩ ⟨ne_o1_ha, ne_o1_pa, ne_o1_wa, ne_o1_ra, ne_ha_pa, ne_ha_wa, ne_ha_ra, ne_pa_wa, ne_pa_ra, ne_wa_ra⟩ ⟨g_o1, g_ha, g_pa, g_wa, g_ra⟩ (f_bf (ws.set (z1).toNatClampNeg (p3 >>> ((3 : Int32) &&& 31))) (rs.set (z1).toNatClampNeg z46)) (fun _ _ _ _ => rfl) hs4 hc ho (by rw [← hz1]; exact own_four _) lw lr) E_o (hw _ (List.mem_of_getElem? (i := 45) rfl)) (hw _ (List.mem_of_getElem? (i := 46) rfl)) (hw _ (List.mem_of_getElem? (i := 48) rfl)) (hw _ (List.mem_of_getElem? (i := 47) rfl)) (hw _ (List.mem_of_getElem? (i := 2) rfl)) (hw _ (List.mem_of_getElem? (i := 49) rfl)) (by decide) (argsL := [(.int z1), (.int (p3 >>> ((3 : Int32) &&& 31))), (.long z46)]) (rest := []) rfl (lenOf pd_4 rfl) rfl (W := 0) rfl (by decide) (by decide) (by decide) (by decide) d4_31 rfl fun T47 h48 X49 q50 => ?_
    obtain ⟨hs61, m62, hc63, ok64, mm65, md66, K67, n51, n52, n53, n54, n55, n56, n57, n58, n59, n60⟩ := q50
    have f68 : Exa Z h48 o1 "com/example/knotweave/knotweave/OpenNeeds" := E_o.keep K67
    have f69 : AV Z h48 o2 .boolean ((mm hs c0).map Value.int) := A_2.keep K67 (ninS x_o1 (ninS x_ha (ninS x_pa (ninS x_wa (ninS x_ra nin0)))))
    have k70 : Keep h0 h48 [o1, ha, pa, wa, ra, o2] := (Keep.refl h0 [o1, ha, pa, wa, ra, o2]).trans K67 (allS (Or.inl (List.mem_of_getElem? (i := 0) rfl)) (allS (Or.inl (List.mem_of_getElem? (i := 1) rfl)) (allS (Or.inl (List.mem_of_getElem? (i := 2) rfl)) (allS (Or.inl (List.mem_of_getElem? (i := 3) rfl)) (allS (Or.inl (List.mem_of_getElem? (i := 4) rfl)) all0)))))
    refine w_aloadN X49 d4_34 rfl rfl rfl ?_
    refine w_iload X49 d4_35 rfl rfl ?_
    refine w_iconst X49 d4_37 (v := (1 : Int32)) rfl rfl ?_
    refine w_bastoreZ X49 f69 (D0 _ (by rw [← hz1]; exact own_four _)).1 rfl (by rw [List.length_map]; exact (D0 _ (by rw [← hz1]; exact own_four _)).2.1) g_o2 d4_38 rfl fun T71 h74 X72 W73 A75 => ?_
    rw [← List.map_set] at A75
    obtain ⟨xs76, hxs76⟩ : ∃ z, z = ((mm hs c0).set (z1).toNatClampNeg (nar .boolean (1 : Int32))) := ⟨_, rfl⟩
    rw [← hxs76] at A75
    have f77 : AV Z h74 o2 .boolean (xs76.map Value.int) := A75
    have f78 : Exa Z h74 o1 "com/example/knotweave/knotweave/OpenNeeds" := Exa.wr W73 n51
    have f79 : Fld Z h74 o1 "com/example/knotweave/knotweave/OpenNeeds" "heap" "[I" (.ref ha) := Fld.other W73 n52 (Or.inl (Ne.symm x_o1))
    have f80 : Fld Z h74 o1 "com/example/knotweave/knotweave/OpenNeeds" "placeOf" "[I" (.ref pa) := Fld.other W73 n53 (Or.inl (Ne.symm x_o1))
    have f81 : Fld Z h74 o1 "com/example/knotweave/knotweave/OpenNeeds" "waysOf" "[I" (.ref wa) := Fld.other W73 n54 (Or.inl (Ne.symm x_o1))
    have f82 : Fld Z h74 o1 "com/example/knotweave/knotweave/OpenNeeds" "rankOf" "[J" (.ref ra) := Fld.other W73 n55 (Or.inl (Ne.symm x_o1))
    have f83 : Fld Z h74 o1 "com/example/knotweave/knotweave/OpenNeeds" "count" "I" (.int (putC hs c0 z1)) := Fld.other W73 n56 (Or.inl (Ne.symm x_o1))
    have f84 : AV Z h74 ha .int (hs61.map Value.int) := n57.other W73 (Ne.symm x_ha)
    have f85 : AV Z h74 pa .int ((plc hs61 (putC hs c0 z1)).map Value.int) := n58.other W73 (Ne.symm x_pa)
    have f86 : AV Z h74 wa .int ((ws.set (z1).toNatClampNeg (p3 >>> ((3 : Int32) &&& 31))).map Value.int) := n59.other W73 (Ne.symm x_wa)
    have f87 : AV Z h74 ra .long ((rs.set (z1).toNatClampNeg z46).map Value.long) := n60.other W73 (Ne.symm x_ra)
    have k88 : Keep h0 h74 [o1, ha, pa, wa, ra, o2] := k70.wr W73 (Or.inl (List.mem_of_getElem? (i := 5) rfl))
    refine w_goto X72 d4_39 (by decide) (pc' := 53) (by decide) ?_
    have A89 : AV Z h74 o2 .boolean (((mm hs c0).set (z1).toNatClampNeg 1).map Value.int) := by rw [hxs76] at f77; exact f77
    exact w_return X72 d4_53 rfl ⟨_, _, _, _, m62, hc63, ok64, (by rw [List.length_set]; exact lw), (by rw [List.length_set]; exact lr), k88, (by rw [mm65]; exact A89), ⟨f78, f79, f80, f81, f82, f83, f84, f85, f86, f87⟩⟩ (by decide) (by decide)
theorem pd_5 : parseMethodDescriptor "(Lcom/example/knotweave/knotweave/OpenNeeds;[ZIJ)V" = some ⟨[(.object "com/example/knotweave/knotweave/OpenNeeds"), (.array .boolean), .int, .long], none⟩ := by decide +kernel
theorem pd_6 : parseMethodDescriptor "(I)Z" = some ⟨[.int], some .boolean⟩ := by decide +kernel
theorem pd_7 : parseMethodDescriptor "()I" = some ⟨[], some .int⟩ := by decide +kernel
theorem pn_0 : plainName "com/example/knotweave/knotweave/OpenNeedsContainsPinLaw" = true := by first | (simp [plainName, overriddenIn]; done) | decide +kernel
theorem ef_0 (m : MethodId) (p1 : Int32) (p2 : Int32) (p3 : Int32) (p4 : Int32) (q5 : Int64) : entryFrame m #[(.int p1), (.int p2), (.int p3), (.int p4), (.long q5)] maxLocals = mkF m 0 #[.val (.int p1), .val (.int p2), .val (.int p3), .val (.int p4), .val (.long q5), .second, .unset, .unset, .unset] [] := by first | (simp [entryFrame, mkF, argsToLocals, Value.category, maxLocals]; done) | rfl
set_option maxRecDepth 65536 in
set_option maxHeartbeats 40000000 in
theorem rm0 (l : Launch) (Z : State) (a0 : Array Value) (hw : ∀ d ∈ tables_1, d.before a0 Z = true) (p1 : Int32) (p2 : Int32) (p3 : Int32) (p4 : Int32) (q5 : Int64) (h0 : Heap) (n0 : Nat) (Z0 : n0 ≤ h0.size) :
    Con l Z x code maxLocals ret room_1 #[(.int p1), (.int p2), (.int p3), (.int p4), (.long q5)] h0 n0 (some (.int 1)) (fun _ => True) := by
  refine con_of (plainFor_of_name pn_0) Z0 (fun m => ef_0 m p1 p2 p3 p4 q5) ?_
  intro p e s m below meth c T0 X0
  refine w_new X0 (hw _ (List.mem_of_getElem? (i := 0) rfl)) (hw _ (List.mem_of_getElem? (i := 1) rfl)) (hw _ (List.mem_of_getElem? (i := 2) rfl)) (by decide) (by decide) at_0 rfl fun T1 h3 a4 X2 ga5 gn6 E7 A8 D9 => ?_
  have g010 : h0.size ≤ a4 := by rw [ga5]; exact (Keep.refl h0 []).1
  have k11 : Keep h0 h3 [] := (Keep.refl h0 []).ext E7
  have f12 : Fld Z h3 a4 "com/example/knotweave/knotweave/OpenNeeds" "heap" "[I" .null := D9 (Or.inr (hw _ (List.mem_of_getElem? (i := 11) rfl))) (ty := (.array .int)) (by decide)
  have f13 : Fld Z h3 a4 "com/example/knotweave/knotweave/OpenNeeds" "placeOf" "[I" .null := D9 (Or.inr (hw _ (List.mem_of_getElem? (i := 13) rfl))) (ty := (.array .int)) (by decide)
  have f14 : Fld Z h3 a4 "com/example/knotweave/knotweave/OpenNeeds" "waysOf" "[I" .null := D9 (Or.inr (hw _ (List.mem_of_getElem? (i := 15) rfl))) (ty := (.array .int)) (by decide)
  have f15 : Fld Z h3 a4 "com/example/knotweave/knotweave/OpenNeeds" "rankOf" "[J" .null := D9 (Or.inr (hw _ (List.mem_of_getElem? (i := 18) rfl))) (ty := (.array .long)) (by decide)
  have f16 : Fld Z h3 a4 "com/example/knotweave/knotweave/OpenNeeds" "count" "I" (.int (0 : Int32)) := D9 (Or.inl (hw _ (List.mem_of_getElem? (i := 44) rfl))) (ty := .int) (by decide)
  refine w_dup X2 at_3 rfl rfl ?_
  refine w_iconst X2 at_4 (v := (4 : Int32)) rfl rfl ?_
  refine w_special0 X2 (rm_init l Z a0 hw a4 h3 n0 X2.size A8 f12 f13 f14 f15 f16 gn6) rfl (hw _ (List.mem_of_getElem? (i := 3) rfl)) (hw _ (List.mem_of_getElem? (i := 4) rfl)) (hw _ (List.mem_of_getElem? (i := 2) rfl)) (hw _ (List.mem_of_getElem? (i := 5) rfl)) (by decide) (argsL := [(.int (4 : Int32))]) (rest := [(.ref a4)]) rfl (lenOf pd_2 rfl) rfl (W := 1) rfl (by decide) (by decide) (by decide) (by decide) at_5 rfl fun T17 h18 X19 q20 => ?_
  obtain ⟨ha22, pa23, wa24, ra25, ⟨g26, g27, g28, g29⟩, ⟨s30, s31, s32, s33⟩, ⟨ne34, ne35, ne36, ne37, ne38, ne39, ne40, ne41, ne42, ne43⟩, K21, n44, n45, n46, n47, n48, n49, n50, n51, n52, n53⟩ := q20
  have g054 : h0.size ≤ ha22 := Nat.le_trans k11.1 s30
  have g055 : h0.size ≤ pa23 := Nat.le_trans k11.1 s31
  have g056 : h0.size ≤ wa24 := Nat.le_trans k11.1 s32
  have g057 : h0.size ≤ ra25 := Nat.le_trans k11.1 s33
  have f58 : Exa Z h18 a4 "com/example/knotweave/knotweave/OpenNeeds" := A8.keep K21
  have k59 : Keep h0 h18 [] := k11.trans K21 (allS (Or.inr g010) all0)
  refine w_astore X19 at_8 rfl rfl (L' := #[.val (.int p1), .val (.int p2), .val (.int p3), .val (.int p4), .val (.long q5), .second, .val (.ref a4), .unset, .unset]) rfl ?_
  refine w_iconst X19 at_10 (v := (4 : Int32)) rfl rfl ?_
  refine w_newP X19 (hw _ (List.mem_of_getElem? (i := 23) rfl)) (by decide) (k := 4) (by decide) (cap := 4) (by decide) (by decide) (by decide) (by decide) at_11 rfl fun T60 h62 a63 X61 ga64 gn65 E66 A67 => ?_
  have ne68 : a4 ≠ a63 := by rw [ga64]; exact Nat.ne_of_lt n44.lt
  have ne69 : ha22 ≠ a63 := by rw [ga64]; exact Nat.ne_of_lt n50.lt
  have ne70 : pa23 ≠ a63 := by rw [ga64]; exact Nat.ne_of_lt n51.lt
  have ne71 : wa24 ≠ a63 := by rw [ga64]; exact Nat.ne_of_lt n52.lt
  have ne72 : ra25 ≠ a63 := by rw [ga64]; exact Nat.ne_of_lt n53.lt
  have g073 : h0.size ≤ a63 := by rw [ga64]; exact k59.1
  have f74 : Exa Z h62 a4 "com/example/knotweave/knotweave/OpenNeeds" := Exa.ext E66 n44
  have f75 : Fld Z h62 a4 "com/example/knotweave/knotweave/OpenNeeds" "heap" "[I" (.ref ha22) := Fld.ext E66 n45
  have f76 : Fld Z h62 a4 "com/example/knotweave/knotweave/OpenNeeds" "placeOf" "[I" (.ref pa23) := Fld.ext E66 n46
  have f77 : Fld Z h62 a4 "com/example/knotweave/knotweave/OpenNeeds" "waysOf" "[I" (.ref wa24) := Fld.ext E66 n47
  have f78 : Fld Z h62 a4 "com/example/knotweave/knotweave/OpenNeeds" "rankOf" "[J" (.ref ra25) := Fld.ext E66 n48
  have f79 : Fld Z h62 a4 "com/example/knotweave/knotweave/OpenNeeds" "count" "I" (.int (0 : Int32)) := Fld.ext E66 n49
  have f80 : AV Z h62 ha22 .int (([0, 0, 0, 0] : List Int32).map Value.int) := n50.ext E66
  have f81 : AV Z h62 pa23 .int ((plc ([0, 0, 0, 0] : List Int32) (0 : Int32)).map Value.int) := n51.ext E66
  have f82 : AV Z h62 wa24 .int (([0, 0, 0, 0] : List Int32).map Value.int) := n52.ext E66
  have f83 : AV Z h62 ra25 .long (([0, 0, 0, 0] : List Int64).map Value.long) := n53.ext E66
  have k84 : Keep h0 h62 [] := k59.ext E66
  have f85 : AV Z h62 a63 .boolean [(.int (0 : Int32)), (.int (0 : Int32)), (.int (0 : Int32)), (.int (0 : Int32))] := A67
  refine w_astore X61 at_13 rfl rfl (L' := #[.val (.int p1), .val (.int p2), .val (.int p3), .val (.int p4), .val (.long q5), .second, .val (.ref a4), .val (.ref a63), .unset]) rfl ?_
  have f86 : AV Z h62 a63 .boolean ((mm ([0, 0, 0, 0] : List Int32) (0 : Int32)).map Value.int) := by rw [show mm ([0, 0, 0, 0] : List Int32) (0 : Int32) = [0, 0, 0, 0] from by decide +kernel]; exact f85
  refine w_aload X61 at_15 rfl rfl rfl ?_
  refine w_aload X61 at_17 rfl rfl rfl ?_
  refine w_iloadN X61 at_19 rfl rfl ?_
  refine w_lload X61 at_20 rfl rfl ?_
  refine w_static0 X61 (rm_step l Z a0 hw a4 a63 p1 q5 ha22 pa23 wa24 ra25 ([0, 0, 0, 0] : List Int32) (0 : Int32) ([0, 0, 0, 0] : List Int32) ([0, 0, 0, 0] : List Int64) h62 n0 X61.size ⟨f74, f75, f76, f77, f78, f79, f80, f81, f82, f83⟩ ⟨ne34, ne35, ne36, ne37, ne38, ne39, ne40, ne41, ne42, ne43⟩ ⟨gn6, g26, g27, g28, g29⟩ f86 ⟨(Ne.symm ne68), (Ne.symm ne69), (Ne.symm ne70), (Ne.symm ne71), (Ne.symm ne72)⟩ gn65 (by decide +kernel) (by decide) (by decide) rfl rfl) (hw _ (List.mem_of_getElem? (i := 24) rfl)) (hw _ (List.mem_of_getElem? (i := 25) rfl)) (hw _ (List.mem_of_getElem? (i := 26) rfl)) (hw _ (List.mem_of_getElem? (i := 27) rfl)) (by decide) (argsL := [(.ref a4), (.ref a63), (.int p1), (.long q5)]) (rest := []) rfl (lenOf pd_5 rfl) rfl (W := 0) rfl (by decide) (by decide) (by decide) (by decide) at_22 rfl fun T87 h88 X89 q90 => ?_
  obtain ⟨hs103, c104, ws105, rs106, m107, hc108, ok109, lw110, lr111, K91, A92, n93, n94, n95, n96, n97, n98, n99, n100, n101, n102⟩ := q90
  have f112 : Exa Z h88 a4 "com/example/knotweave/knotweave/OpenNeeds" := f74.keep K91
  have k113 : Keep h0 h88 [] := k84.trans K91 (allS (Or.inr g010) (allS (Or.inr g054) (allS (Or.inr g055) (allS (Or.inr g056) (allS (Or.inr g057) (allS (Or.inr g073) all0))))))
  refine w_aload X89 at_25 rfl rfl rfl ?_
  refine w_aload X89 at_27 rfl rfl rfl ?_
  refine w_iloadN X89 at_29 rfl rfl ?_
  refine w_lload X89 at_30 rfl rfl ?_
  refine w_static0 X89 (rm_step l Z a0 hw a4 a63 p2 q5 ha22 pa23 wa24 ra25 hs103 c104 ws105 rs106 h88 n0 X89.size ⟨n93, n94, n95, n96, n97, n98, n99, n100, n101, n102⟩ ⟨ne34, ne35, ne36, ne37, ne38, ne39, ne40, ne41, ne42, ne43⟩ ⟨gn6, g26, g27, g28, g29⟩ A92 ⟨(Ne.symm ne68), (Ne.symm ne69), (Ne.symm ne70), (Ne.symm ne71), (Ne.symm ne72)⟩ gn65 m107 hc108 ok109 lw110 lr111) (hw _ (List.mem_of_getElem? (i := 24) rfl)) (hw _ (List.mem_of_getElem? (i := 25) rfl)) (hw _ (List.mem_of_getElem? (i := 26) rfl)) (hw _ (List.mem_of_getElem? (i := 27) rfl)) (by decide) (argsL := [(.ref a4), (.ref a63), (.int p2), (.long q5)]) (rest := []) rfl (lenOf pd_5 rfl) rfl (W := 0) rfl (by decide) (by decide) (by decide) (by decide) at_32 rfl fun T114 h115 X116 q117 => ?_
  obtain ⟨hs130, c131, ws132, rs133, m134, hc135, ok136, lw137, lr138, K118, A119, n120, n121, n122, n123, n124, n125, n126, n127, n128, n129⟩ := q117
  have f139 : Exa Z h115 a4 "com/example/knotweave/knotweave/OpenNeeds" := n93.keep K118
  have k140 : Keep h0 h115 [] := k113.trans K118 (allS (Or.inr g010) (allS (Or.inr g054) (allS (Or.inr g055) (allS (Or.inr g056) (allS (Or.inr g057) (allS (Or.inr g073) all0))))))
  refine w_aload X116 at_35 rfl rfl rfl ?_
  refine w_aload X116 at_37 rfl rfl rfl ?_
  refine w_iloadN X116 at_39 rfl rfl ?_
  refine w_lload X116 at_40 rfl rfl ?_
  refine w_static0 X116 (rm_step l Z a0 hw a4 a63 p3 q5 ha22 pa23 wa24 ra25 hs130 c131 ws132 rs133 h115 n0 X116.size ⟨n120, n121, n122, n123, n124, n125, n126, n127, n128, n129⟩ ⟨ne34, ne35, ne36, ne37, ne38, ne39, ne40, ne41, ne42, ne43⟩ ⟨gn6, g26, g27, g28, g29⟩ A119 ⟨(Ne.symm ne68), (Ne.symm ne69), (Ne.symm ne70), (Ne.symm ne71), (Ne.symm ne72)⟩ gn65 m134 hc135 ok136 lw137 lr138) (hw _ (List.mem_of_getElem? (i := 24) rfl)) (hw _ (List.mem_of_getElem? (i := 25) rfl)) (hw _ (List.mem_of_getElem? (i := 26) rfl)) (hw _ (List.mem_of_getElem? (i := 27) rfl)) (by decide) (argsL := [(.ref a4), (.ref a63), (.int p3), (.long q5)]) (rest := []) rfl (lenOf pd_5 rfl) rfl (W := 0) rfl (by decide) (by decide) (by decide) (by decide) at_42 rfl fun T141 h142 X143 q144 => ?_
  obtain ⟨hs157, c158, ws159, rs160, m161, hc162, ok163, lw164, lr165, K145, A146, n147, n148, n149, n150, n151, n152, n153, n154, n155, n156⟩ := q144
  have f166 : Exa Z h142 a4 "com/example/knotweave/knotweave/OpenNeeds" := n120.keep K145
  have k167 : Keep h0 h142 [] := k140.trans K145 (allS (Or.inr g010) (allS (Or.inr g054) (allS (Or.inr g055) (allS (Or.inr g056) (allS (Or.inr g057) (allS (Or.inr g073) all0))))))
  refine w_aload X143 at_45 rfl rfl rfl ?_
  refine w_aload X143 at_47 rfl rfl rfl ?_
  refine w_iloadN X143 at_49 rfl rfl ?_
  refine w_lload X143 at_50 rfl rfl ?_
  refine w_static0 X143 (rm_step l Z a0 hw a4 a63 p4 q5 ha22 pa23 wa24 ra25 hs157 c158 ws159 rs160 h142 n0 X143.size ⟨n147, n148, n149, n150, n151, n152, n153, n154, n155, n156⟩ ⟨ne34, ne35, ne36, ne37, ne38, ne39, ne40, ne41, ne42, ne43⟩ ⟨gn6, g26, g27, g28, g29⟩ A146 ⟨(Ne.symm ne68), (Ne.symm ne69), (Ne.symm ne70), (Ne.symm ne71), (Ne.symm ne72)⟩ gn65 m161 hc162 ok163 lw164 lr165) (hw _ (List.mem_of_getElem? (i := 24) rfl)) (hw _ (List.mem_of_getElem? (i := 25) rfl)) (hw _ (List.mem_of_getElem? (i := 26) rfl)) (hw _ (List.mem_of_getElem? (i := 27) rfl)) (by decide) (argsL := [(.ref a4), (.ref a63), (.int p4), (.long q5)]) (rest := []) rfl (lenOf pd_5 rfl) rfl (W := 0) rfl (by decide) (by decide) (by decide) (by decide) at_52 rfl fun T168 h169 X170 q171 => ?_
  obtain ⟨hs184, c185, ws186, rs187, m188, hc189, ok190, lw191, lr192, K172, A173, n174, n175, n176, n177, n178, n179, n180, n181, n182, n183⟩ := q171
  have f193 : Exa Z h169 a4 "com/example/knotweave/knotweave/OpenNeeds" := n147.keep K172
  have k194 : Keep h0 h169 [] := k167.trans K172 (allS (Or.inr g010) (allS (Or.inr g054) (allS (Or.inr g055) (allS (Or.inr g056) (allS (Or.inr g057) (allS (Or.inr g073) all0))))))
  refine w_aload X170 at_55 rfl rfl rfl ?_
  refine w_iconst X170 at_57 (v := (0 : Int32)) rfl rfl ?_
  refine w_baloadZ X170 A173 (D0 _ (by decide)).1 rfl (getI (D0 _ (by decide)).2.1) at_58 rfl ?_
  suffices j198 : ∀ (T196 : State) (z195 : Int32), (Wk p l e room_1 s m #[(.int p1), (.int p2), (.int p3), (.int p4), (.long q5)] below meth c Z n0 x code maxLocals ret T196 6 25 h169) → (z195 = (if ((mm hs184 c185).getD ((0 : Int32)).toNatClampNeg 0) = 0 then (0 : Int32) else (1 : Int32))) → Goes p e below (Done below s n0 room_1 (some (.int 1)) (fun _ => True)) T196 m 67 #[.val (.int p1), .val (.int p2), .val (.int p3), .val (.int p4), .val (.long q5), .second, .val (.ref a4), .val (.ref a63), .unset] [(.int z195)] by
    refine w_if_eq X170 at_59 (by decide) (pcT := 66) (pcF := 62) (by decide) rfl (fun c199 => ?_) (fun c199 => ?_)
    · refine w_iconst X170 at_66 (v := (0 : Int32)) rfl rfl ?_
      exact j198 _ _ X170 (by rw [if_pos c199])
    · refine w_iconst X170 at_62 (v := (1 : Int32)) rfl rfl ?_
      refine w_goto X170 at_63 (by decide) (pc' := 67) (by decide) ?_
      exact j198 _ _ X170 (by rw [if_neg c199])
  intro T196 z195 X197 hz195
  refine w_aload X197 at_67 rfl rfl rfl ?_
  refine w_iconst X197 at_69 (v := (1 : Int32)) rfl rfl ?_
  refine w_baloadZ X197 A173 (D0 _ (by decide)).1 rfl (getI (D0 _ (by decide)).2.1) at_70 rfl ?_
  suffices j203 : ∀ (T201 : State) (z200 : Int32), (Wk p l e room_1 s m #[(.int p1), (.int p2), (.int p3), (.int p4), (.long q5)] below meth c Z n0 x code maxLocals ret T201 6 25 h169) → (z200 = (if ((mm hs184 c185).getD ((1 : Int32)).toNatClampNeg 0) = 0 then (0 : Int32) else (1 : Int32))) → Goes p e below (Done below s n0 room_1 (some (.int 1)) (fun _ => True)) T201 m 79 #[.val (.int p1), .val (.int p2), .val (.int p3), .val (.int p4), .val (.long q5), .second, .val (.ref a4), .val (.ref a63), .unset] [(.int z200), (.int z195)] by
    refine w_if_eq X197 at_71 (by decide) (pcT := 78) (pcF := 74) (by decide) rfl (fun c204 => ?_) (fun c204 => ?_)
    · refine w_iconst X197 at_78 (v := (0 : Int32)) rfl rfl ?_
      exact j203 _ _ X197 (by rw [if_pos c204])
    · refine w_iconst X197 at_74 (v := (1 : Int32)) rfl rfl ?_
      refine w_goto X197 at_75 (by decide) (pc' := 79) (by decide) ?_
      exact j203 _ _ X197 (by rw [if_neg c204])
  intro T201 z200 X202 hz200
  refine w_iadd X202 at_79 rfl ?_
  refine w_aload X202 at_80 rfl rfl rfl ?_
  refine w_iconst X202 at_82 (v := (2 : Int32)) rfl rfl ?_
  refine w_baloadZ X202 A173 (D0 _ (by decide)).1 rfl (getI (D0 _ (by decide)).2.1) at_83 rfl ?_
  suffices j208 : ∀ (T206 : State) (z205 : Int32), (Wk p l e room_1 s m #[(.int p1), (.int p2), (.int p3), (.int p4), (.long q5)] below meth c Z n0 x code maxLocals ret T206 6 25 h169) → (z205 = (if ((mm hs184 c185).getD ((2 : Int32)).toNatClampNeg 0) = 0 then (0 : Int32) else (1 : Int32))) → Goes p e below (Done below s n0 room_1 (some (.int 1)) (fun _ => True)) T206 m 92 #[.val (.int p1), .val (.int p2), .val (.int p3), .val (.int p4), .val (.long q5), .second, .val (.ref a4), .val (.ref a63), .unset] [(.int z205), (.int (z195 + z200))] by
    refine w_if_eq X202 at_84 (by decide) (pcT := 91) (pcF := 87) (by decide) rfl (fun c209 => ?_) (fun c209 => ?_)
    · refine w_iconst X202 at_91 (v := (0 : Int32)) rfl rfl ?_
      exact j208 _ _ X202 (by rw [if_pos c209])
    · refine w_iconst X202 at_87 (v := (1 : Int32)) rfl rfl ?_
      refine w_goto X202 at_88 (by decide) (pc' := 92) (by decide) ?_
      exact j208 _ _ X202 (by rw [if_neg c209])
  intro T206 z205 X207 hz205
  refine w_iadd X207 at_92 rfl ?_
  refine w_aload X207 at_93 rfl rfl rfl ?_
  refine w_iconst X207 at_95 (v := (3 : Int32)) rfl rfl ?_
  refine w_baloadZ X207 A173 (D0 _ (by decide)).1 rfl (getI (D0 _ (by decide)).2.1) at_96 rfl ?_
  suffices j213 : ∀ (T211 : State) (z210 : Int32), (Wk p l e room_1 s m #[(.int p1), (.int p2), (.int p3), (.int p4), (.long q5)] below meth c Z n0 x code maxLocals ret T211 6 25 h169) → (z210 = (if ((mm hs184 c185).getD ((3 : Int32)).toNatClampNeg 0) = 0 then (0 : Int32) else (1 : Int32))) → Goes p e below (Done below s n0 room_1 (some (.int 1)) (fun _ => True)) T211 m 105 #[.val (.int p1), .val (.int p2), .val (.int p3), .val (.int p4), .val (.long q5), .second, .val (.ref a4), .val (.ref a63), .unset] [(.int z210), (.int ((z195 + z200) + z205))] by
    refine w_if_eq X207 at_97 (by decide) (pcT := 104) (pcF := 100) (by decide) rfl (fun c214 => ?_) (fun c214 => ?_)
    · refine w_iconst X207 at_104 (v := (0 : Int32)) rfl rfl ?_
      exact j213 _ _ X207 (by rw [if_pos c214])
    · refine w_iconst X207 at_100 (v := (1 : Int32)) rfl rfl ?_
      refine w_goto X207 at_101 (by decide) (pc' := 105) (by decide) ?_
      exact j213 _ _ X207 (by rw [if_neg c214])
  intro T211 z210 X212 hz210
  refine w_iadd X212 at_105 rfl ?_
  generalize hz215 : (((z195 + z200) + z205) + z210) = z215
  refine w_istore X212 at_106 rfl (L' := #[.val (.int p1), .val (.int p2), .val (.int p3), .val (.int p4), .val (.long q5), .second, .val (.ref a4), .val (.ref a63), .val (.int z215)]) rfl ?_
  refine w_aload X212 at_108 rfl rfl rfl ?_
  refine w_iconst X212 at_110 (v := (0 : Int32)) rfl rfl ?_
  refine w_virtualVP X212 (rm_contains l Z a0 hw a4 (0 : Int32) ha22 pa23 wa24 ra25 hs184 (plc hs184 c185) c185 ws186 rs187 h169 n0 X212.size ⟨n174, n175, n176, n177, n178, n179, n180, n181, n182, n183⟩ ⟨ne34, ne35, ne36, ne37, ne38, ne39, ne40, ne41, ne42, ne43⟩ ⟨gn6, g26, g27, g28, g29⟩ (by decide) rfl) n174 (hw _ (List.mem_of_getElem? (i := 33) rfl)) (hw _ (List.mem_of_getElem? (i := 34) rfl)) (hw _ (List.mem_of_getElem? (i := 36) rfl)) (hw _ (List.mem_of_getElem? (i := 35) rfl)) (hw _ (List.mem_of_getElem? (i := 2) rfl)) (hw _ (List.mem_of_getElem? (i := 37) rfl)) (by decide) (argsL := [(.int (0 : Int32))]) (rest := []) rfl (lenOf pd_6 rfl) rfl (W := 0) rfl (by decide) (by decide) (by decide) (by decide) at_111 rfl fun T216 X218 => ?_
  refine w_aload X218 at_114 rfl rfl rfl ?_
  refine w_iconst X218 at_116 (v := (0 : Int32)) rfl rfl ?_
  refine w_baloadZ X218 A173 (D0 _ (by decide)).1 rfl (getI (D0 _ (by decide)).2.1) at_117 rfl ?_
  refine w_icmp_ne X218 at_118 (by decide) (pcT := 174) (pcF := 121) (by decide) rfl (fun c220 => ?_) (fun c220 => ?_)
  · exact False.elim (c220 (own_ct _ _ _ m188 hc189 (by decide)))
  · refine w_aload X218 at_121 rfl rfl rfl ?_
    refine w_iconst X218 at_123 (v := (1 : Int32)) rfl rfl ?_
    refine w_virtualVP X218 (rm_contains l Z a0 hw a4 (1 : Int32) ha22 pa23 wa24 ra25 hs184 (plc hs184 c185) c185 ws186 rs187 h169 n0 X218.size ⟨n174, n175, n176, n177, n178, n179, n180, n181, n182, n183⟩ ⟨ne34, ne35, ne36, ne37, ne38, ne39, ne40, ne41, ne42, ne43⟩ ⟨gn6, g26, g27, g28, g29⟩ (by decide) rfl) n174 (hw _ (List.mem_of_getElem? (i := 33) rfl)) (hw _ (List.mem_of_getElem? (i := 34) rfl)) (hw _ (List.mem_of_getElem? (i := 36) rfl)) (hw _ (List.mem_of_getElem? (i := 35) rfl)) (hw _ (List.mem_of_getElem? (i := 2) rfl)) (hw _ (List.mem_of_getElem? (i := 37) rfl)) (by decide) (argsL := [(.int (1 : Int32))]) (rest := []) rfl (lenOf pd_6 rfl) rfl (W := 0) rfl (by decide) (by decide) (by decide) (by decide) at_124 rfl fun T221 X223 => ?_
    refine w_aload X223 at_127 rfl rfl rfl ?_
    refine w_iconst X223 at_129 (v := (1 : Int32)) rfl rfl ?_
    refine w_baloadZ X223 A173 (D0 _ (by decide)).1 rfl (getI (D0 _ (by decide)).2.1) at_130 rfl ?_
    refine w_icmp_ne X223 at_131 (by decide) (pcT := 174) (pcF := 134) (by decide) rfl (fun c225 => ?_) (fun c225 => ?_)
    · exact False.elim (c225 (own_ct _ _ _ m188 hc189 (by decide)))
    · refine w_aload X223 at_134 rfl rfl rfl ?_
      refine w_iconst X223 at_136 (v := (2 : Int32)) rfl rfl ?_
      refine w_virtualVP X223 (rm_contains l Z a0 hw a4 (2 : Int32) ha22 pa23 wa24 ra25 hs184 (plc hs184 c185) c185 ws186 rs187 h169 n0 X223.size ⟨n174, n175, n176, n177, n178, n179, n180, n181, n182, n183⟩ ⟨ne34, ne35, ne36, ne37, ne38, ne39, ne40, ne41, ne42, ne43⟩ ⟨gn6, g26, g27, g28, g29⟩ (by decide) rfl) n174 (hw _ (List.mem_of_getElem? (i := 33) rfl)) (hw _ (List.mem_of_getElem? (i := 34) rfl)) (hw _ (List.mem_of_getElem? (i := 36) rfl)) (hw _ (List.mem_of_getElem? (i := 35) rfl)) (hw _ (List.mem_of_getElem? (i := 2) rfl)) (hw _ (List.mem_of_getElem? (i := 37) rfl)) (by decide) (argsL := [(.int (2 : Int32))]) (rest := []) rfl (lenOf pd_6 rfl) rfl (W := 0) rfl (by decide) (by decide) (by decide) (by decide) at_137 rfl fun T226 X228 => ?_
      refine w_aload X228 at_140 rfl rfl rfl ?_
      refine w_iconst X228 at_142 (v := (2 : Int32)) rfl rfl ?_
      refine w_baloadZ X228 A173 (D0 _ (by decide)).1 rfl (getI (D0 _ (by decide)).2.1) at_143 rfl ?_
      refine w_icmp_ne X228 at_144 (by decide) (pcT := 174) (pcF := 147) (by decide) rfl (fun c230 => ?_) (fun c230 => ?_)
      · exact False.elim (c230 (own_ct _ _ _ m188 hc189 (by decide)))
      · refine w_aload X228 at_147 rfl rfl rfl ?_
        refine w_iconst X228 at_149 (v := (3 : Int32)) rfl rfl ?_
        refine w_virtualVP X228 (rm_contains l Z a0 hw a4 (3 : Int32) ha22 pa23 wa24 ra25 hs184 (plc hs184 c185) c185 ws186 rs187 h169 n0 X228.size ⟨n174, n175, n176, n177, n178, n179, n180, n181, n182, n183⟩ ⟨ne34, ne35, ne36, ne37, ne38, ne39, ne40, ne41, ne42, ne43⟩ ⟨gn6, g26, g27, g28, g29⟩ (by decide) rfl) n174 (hw _ (List.mem_of_getElem? (i := 33) rfl)) (hw _ (List.mem_of_getElem? (i := 34) rfl)) (hw _ (List.mem_of_getElem? (i := 36) rfl)) (hw _ (List.mem_of_getElem? (i := 35) rfl)) (hw _ (List.mem_of_getElem? (i := 2) rfl)) (hw _ (List.mem_of_getElem? (i := 37) rfl)) (by decide) (argsL := [(.int (3 : Int32))]) (rest := []) rfl (lenOf pd_6 rfl) rfl (W := 0) rfl (by decide) (by decide) (by decide) (by decide) at_150 rfl fun T231 X233 => ?_
        refine w_aload X233 at_153 rfl rfl rfl ?_
        refine w_iconst X233 at_155 (v := (3 : Int32)) rfl rfl ?_
        refine w_baloadZ X233 A173 (D0 _ (by decide)).1 rfl (getI (D0 _ (by decide)).2.1) at_156 rfl ?_
        refine w_icmp_ne X233 at_157 (by decide) (pcT := 174) (pcF := 160) (by decide) rfl (fun c235 => ?_) (fun c235 => ?_)
        · exact False.elim (c235 (own_ct _ _ _ m188 hc189 (by decide)))
        · refine w_aload X233 at_160 rfl rfl rfl ?_
          refine w_virtualVP X233 (rm_count l Z a0 hw a4 ha22 pa23 wa24 ra25 hs184 (plc hs184 c185) c185 ws186 rs187 h169 n0 X233.size ⟨n174, n175, n176, n177, n178, n179, n180, n181, n182, n183⟩ ⟨ne34, ne35, ne36, ne37, ne38, ne39, ne40, ne41, ne42, ne43⟩ ⟨gn6, g26, g27, g28, g29⟩ ) n174 (hw _ (List.mem_of_getElem? (i := 38) rfl)) (hw _ (List.mem_of_getElem? (i := 39) rfl)) (hw _ (List.mem_of_getElem? (i := 41) rfl)) (hw _ (List.mem_of_getElem? (i := 40) rfl)) (hw _ (List.mem_of_getElem? (i := 2) rfl)) (hw _ (List.mem_of_getElem? (i := 42) rfl)) (by decide) (argsL := []) (rest := []) rfl (lenOf pd_7 rfl) rfl (W := 0) rfl (by decide) (by decide) (by decide) (by decide) at_162 rfl fun T236 X238 => ?_
          refine w_iload X238 at_165 rfl rfl ?_
          refine w_icmp_ne X238 at_167 (by decide) (pcT := 174) (pcF := 170) (by decide) rfl (fun c240 => ?_) (fun c240 => ?_)
          · exact False.elim (c240 (by subst hz215 hz210 hz205 hz200 hz195; exact DCn2 _ m188 _ hc189 ok190))
          · refine w_iconst X238 at_170 (v := (1 : Int32)) rfl rfl ?_
            refine w_goto X238 at_171 (by decide) (pc' := 175) (by decide) ?_
            exact w_nreturn X238 (t := .boolean) (by simp) at_175 rfl trivial (by decide) (by decide)
set_option maxRecDepth 65536 in
set_option maxHeartbeats 4000000 in
theorem comes_1 {Post : Tables → Env → Array Value → State → Outcome → State → Prop} (hpost : ∀ tb e args s v u, (limb_1_1.after args s (.returned v) u = true ∧ limb_1_2.after args s (.returned v) u = true ∧ True) → FrameEnd s (.returned v) u (Jvm.fieldLocs frame_1_writes args s ++ Jvm.arrayLocs frame_1_arrays args s ++ Jvm.staticLocs frame_1_statics s) 24 128 → Post tb e args s (.returned v) u) :
    ArmFor flags0 classFile x code maxLocals ret World_1 tables_1 room_1 Calls_1 rest_1 Pre_1 Post := by
  intro l hfl _ _ p e ha hc hk s m args below hf hA hF happ hP
  obtain ⟨hcalls, hrest, hpre⟩ := hP
  obtain ⟨-, -, -, hnamed, -, -, -, hat⟩ := (Spec.applies_iff hf).mp happ
  obtain ⟨hg, hn⟩ := and_e (Cond.before_iff.mp (show (Jvm.Cond.and given_1 narrow_1).before args s = true from hpre))
  obtain ⟨gc, hg⟩ := and_e hg
  obtain ⟨g0, hg⟩ := and_e hg
  obtain ⟨g1, hg⟩ := and_e hg
  obtain ⟨g2, hg⟩ := and_e hg
  obtain ⟨g3, hg⟩ := and_e hg
  have g4 := hg
  obtain ⟨w0, w1, w2, w3, w4, rfl⟩ : ∃ w0 w1 w2 w3 w4 : Value, args = #[w0, w1, w2, w3, w4] := by
    have hs : args.size = 5 := by simpa [Cond.value, given_1] using gc
    obtain ⟨L⟩ := args
    match L, hs with
    | [w0, w1, w2, w3, w4], _ => exact ⟨w0, w1, w2, w3, w4, rfl⟩
  have hw := fun d (hd : d ∈ tables_1) => atoms_spec (ws := Jvm.Cond.code x code maxLocals ret :: tables_1) hat d (List.mem_cons_of_mem _ hd)
  obtain ⟨i0, ei0⟩ := is_v g0
  obtain rfl : w0 = (.int i0) := Option.some.inj ei0
  obtain ⟨i1, ei1⟩ := is_v g1
  obtain rfl : w1 = (.int i1) := Option.some.inj ei1
  obtain ⟨i2, ei2⟩ := is_v g2
  obtain rfl : w2 = (.int i2) := Option.some.inj ei2
  obtain ⟨i3, ei3⟩ := is_v g3
  obtain rfl : w3 = (.int i3) := Option.some.inj ei3
  obtain ⟨i4, ei4⟩ := isL_v g4
  obtain rfl : w4 = (.long i4) := Option.some.inj ei4
  obtain ⟨n, o, h1, h2, h3, _, L, rfl, ⟨rfl, -, N, -⟩, hq⟩ := rm0 l s _ hw i0 i1 i2 i3 i4 s.heap s.heap.size (Nat.le_refl _) tables_1 p e ha hc hk s m _ below hf ((Spec.applies_iff_loose hf).mp happ).1 ⟨rfl, State.Warmed39.refl s, rfl⟩ trivial
  refine ⟨n, _, h1, h2, h3, hpost _ _ _ _ _ _ ⟨Cond.after_iff.mpr rfl, Cond.after_iff.mpr (eq_i res_at (Term.int_eval (1)) rfl), trivial⟩ ⟨hq.1, hq.2.1, (hq.2.2.sift fun y hy => Or.inr (N y hy)).mono (by decide) (by decide)⟩⟩
theorem main_1_1 : Claimed_1_1 := comes_1 fun _ _ _ _ _ _ h hF => ⟨h.1, hF⟩
theorem main_1_2 : Claimed_1_2 := comes_1 fun _ _ _ _ _ _ h hF => ⟨h.2.1, hF⟩
end Jvm.Pilot.@@N@@
namespace Jvm.Pilot.@@N@@
open Jvm Jvm.ClassFile Sem Op Lib Jvm.Free Jvm.Stand Jvm.Pilot.@@N@@.Jvm.D
/-! MADE BY PROGRAM (witnessworld.py) out of the Statement's table words and the real class files: 14 classes; the members and pool entries that the words name. The judged class is class 1, her method 1. -/
namespace start1
open Jvm.ClassFile
def u (s : String) : CpInfo := .utf8 (stringToUtf16 s)
/-- a pool by its gaps: so many unusable entries, then the entry; so many at the end -/
def gap : Nat → List CpInfo → List CpInfo
  | 0, r => r
  | n + 1, r => .unusable :: gap n r
def poolList (es : List (Nat × CpInfo)) (last : Nat) : List CpInfo := es.foldr (fun e r => gap e.1 (e.2 :: r)) (gap last [])
def pool (es : List (Nat × CpInfo)) (last : Nat) : Array CpInfo := ⟨poolList es last⟩
def fileOf (pool : Array CpInfo) (this : Nat) (attrs : Array Attribute := #[]) (ms : Array MethodInfo := #[]) (fl : Nat := 33) (sup : Nat := 0) (ifs : Array Nat := #[]) (fds : Array FieldInfo := #[]) : ClassFile where
  minorVersion := 0
  majorVersion := 65
  constantPool := pool
  accessFlags := fl
  thisClass := this
  superClass := sup
  interfaces := ifs
  fields := fds
  methods := ms
  attributes := attrs
def plain (name : String) (sup : Option ClassId) : Class where
  name := name
  kind := .ordinary
  loader := none
  accessFlags := 33
  super := sup
  interfaces := #[]
  cf := none
  fields := #[]
  methods := #[]
  instanceTypes := #[]
  staticTypes := #[]
  resolved := #[]
  callSites := []
  init := .initialized
  statics := none
  mirror := none

def pool0 : Array CpInfo := pool [(5, u "<init>"), (0, u "()V"), (1, .class_ 10), (1, u "java/lang/Object")] 113

def k0c0 : Code := { maxStack := 0, maxLocals := 1, code := object_method_1_code, exceptionTable := #[], attributes := #[] }
def k0m0 : Method := { name := "<init>", desc := "()V", sig := { parameters := [], returnType := none }, accessFlags := 1, code := some k0c0 }
/-- java/lang/Object -/
def k0 : Class := { plain "java/lang/Object" none with
  accessFlags := 33
  interfaces := #[]
  cf := some (fileOf pool0 8 #[] #[{ accessFlags := 1, nameIndex := 5, descriptorIndex := 6, attributes := #[] }] 33 0 #[] #[])
  fields := #[]
  methods := #[k0m0]
  instanceTypes := #[]
  staticTypes := #[]
  resolved := Array.replicate 124 none
  statics := none }

def pool1 : Array CpInfo := pool [(2, .class_ 4), (1, u "java/lang/Object"), (0, u "<init>"), (0, u "()V"), (0, .class_ 8), (0, u "com/example/knotweave/knotweave/OpenNeeds"), (0, .methodref 7 10), (0, .nameAndType 5 11), (0, u "(I)V"), (0, .methodref 13 14), (0, .class_ 15), (0, .nameAndType 16 17), (0, u "com/example/knotweave/knotweave/OpenNeedsContainsPinLaw"), (0, u "step"), (0, u "(Lcom/example/knotweave/knotweave/OpenNeeds;[ZIJ)V"), (0, .methodref 7 19), (0, .nameAndType 20 21), (0, u "contains"), (0, u "(I)Z"), (0, .methodref 7 23), (0, .nameAndType 24 25), (0, u "count"), (0, u "()I"), (0, .methodref 7 27), (0, .nameAndType 28 29), (0, u "put"), (0, u "(IIJ)V"), (0, .methodref 7 31), (0, .nameAndType 32 11), (0, u "remove"), (2, u "law"), (0, u "(IIIIJ)Z")] 5

def k1m0 : Method := { name := "<init>", desc := "()V", sig := { parameters := [], returnType := none }, accessFlags := 1, code := none }
def k1c1 : Code := { maxStack := 5, maxLocals := 9, code := code, exceptionTable := #[], attributes := #[] }
def k1m1 : Method := { name := "law", desc := "(IIIIJ)Z", sig := { parameters := [.int, .int, .int, .int, .long], returnType := some .boolean }, accessFlags := 9, code := some k1c1 }
def k1c2 : Code := { maxStack := 5, maxLocals := 8, code := method_3_code, exceptionTable := #[], attributes := #[] }
def k1m2 : Method := { name := "step", desc := "(Lcom/example/knotweave/knotweave/OpenNeeds;[ZIJ)V", sig := { parameters := [(.object "com/example/knotweave/knotweave/OpenNeeds"), (.array .boolean), .int, .long], returnType := none }, accessFlags := 10, code := some k1c2 }
/-- com/example/knotweave/knotweave/OpenNeedsContainsPinLaw -/
def k1 : Class := { plain "com/example/knotweave/knotweave/OpenNeedsContainsPinLaw" (some 0) with
  accessFlags := 49
  interfaces := #[]
  cf := some (fileOf pool1 13 #[] #[{ accessFlags := 1, nameIndex := 5, descriptorIndex := 6, attributes := #[] }, { accessFlags := 9, nameIndex := 35, descriptorIndex := 36, attributes := #[] }, { accessFlags := 10, nameIndex := 16, descriptorIndex := 17, attributes := #[] }] 49 2 #[] #[])
  fields := #[]
  methods := #[k1m0, k1m1, k1m2]
  instanceTypes := #[]
  staticTypes := #[]
  resolved := Array.replicate 42 none
  statics := none }

def pool2 : Array CpInfo := pool [(1, .methodref 2 3), (0, .class_ 4), (0, .nameAndType 5 6), (0, u "java/lang/Object"), (0, u "<init>"), (0, u "()V"), (0, .fieldref 8 9), (0, .class_ 10), (0, .nameAndType 11 12), (0, u "com/example/knotweave/knotweave/OpenNeeds"), (0, u "heap"), (0, u "[I"), (0, .fieldref 8 14), (0, .nameAndType 15 12), (0, u "placeOf"), (0, .fieldref 8 17), (0, .nameAndType 18 12), (0, u "waysOf"), (0, .fieldref 8 20), (0, .nameAndType 21 22), (0, u "rankOf"), (0, u "[J"), (0, .methodref 24 25), (0, .class_ 26), (0, .nameAndType 27 28), (0, u "java/util/Arrays"), (0, u "fill"), (0, u "([II)V"), (0, .fieldref 8 30), (0, .nameAndType 31 32), (0, u "count"), (0, u "I"), (0, .methodref 8 34), (0, .nameAndType 35 36), (0, u "siftUp"), (0, u "(I)V"), (0, .methodref 8 38), (0, .nameAndType 39 36), (0, u "siftDown"), (0, .methodref 8 41), (0, .nameAndType 42 43), (0, u "before"), (0, u "(II)Z"), (0, .methodref 8 45), (0, .nameAndType 46 47), (0, u "settle"), (0, u "(II)V"), (2, u "()I"), (2, u "contains"), (0, u "(I)Z"), (1, u "put"), (0, u "(IIJ)V"), (0, u "remove")] 2

def k2c0 : Code := { maxStack := 2, maxLocals := 2, code := prog_39_method_1_code, exceptionTable := #[], attributes := #[] }
def k2m0 : Method := { name := "<init>", desc := "(I)V", sig := { parameters := [.int], returnType := none }, accessFlags := 0, code := some k2c0 }
def k2c1 : Code := { maxStack := 1, maxLocals := 1, code := prog_39_method_2_code, exceptionTable := #[], attributes := #[] }
def k2m1 : Method := { name := "count", desc := "()I", sig := { parameters := [], returnType := some .int }, accessFlags := 0, code := some k2c1 }
def k2c2 : Code := { maxStack := 2, maxLocals := 2, code := prog_39_method_4_code, exceptionTable := #[], attributes := #[] }
def k2m2 : Method := { name := "contains", desc := "(I)Z", sig := { parameters := [.int], returnType := some .boolean }, accessFlags := 0, code := some k2c2 }
def k2c3 : Code := { maxStack := 5, maxLocals := 5, code := prog_39_method_5_code, exceptionTable := #[], attributes := #[] }
def k2m3 : Method := { name := "put", desc := "(IIJ)V", sig := { parameters := [.int, .int, .long], returnType := none }, accessFlags := 0, code := some k2c3 }
def k2c4 : Code := { maxStack := 4, maxLocals := 4, code := prog_39_method_6_code, exceptionTable := #[], attributes := #[] }
def k2m4 : Method := { name := "remove", desc := "(I)V", sig := { parameters := [.int], returnType := none }, accessFlags := 0, code := some k2c4 }
def k2c5 : Code := { maxStack := 5, maxLocals := 4, code := prog_39_method_7_code, exceptionTable := #[], attributes := #[] }
def k2m5 : Method := { name := "siftUp", desc := "(I)V", sig := { parameters := [.int], returnType := none }, accessFlags := 2, code := some k2c5 }
def k2c6 : Code := { maxStack := 4, maxLocals := 4, code := prog_39_method_8_code, exceptionTable := #[], attributes := #[] }
def k2m6 : Method := { name := "siftDown", desc := "(I)V", sig := { parameters := [.int], returnType := none }, accessFlags := 2, code := some k2c6 }
def k2c7 : Code := { maxStack := 3, maxLocals := 3, code := prog_39_method_9_code, exceptionTable := #[], attributes := #[] }
def k2m7 : Method := { name := "settle", desc := "(II)V", sig := { parameters := [.int, .int], returnType := none }, accessFlags := 2, code := some k2c7 }
def k2c8 : Code := { maxStack := 4, maxLocals := 3, code := prog_39_method_10_code, exceptionTable := #[], attributes := #[] }
def k2m8 : Method := { name := "before", desc := "(II)Z", sig := { parameters := [.int, .int], returnType := some .boolean }, accessFlags := 2, code := some k2c8 }
/-- com/example/knotweave/knotweave/OpenNeeds -/
def k2 : Class := { plain "com/example/knotweave/knotweave/OpenNeeds" (some 0) with
  accessFlags := 48
  interfaces := #[]
  cf := some (fileOf pool2 8 #[] #[{ accessFlags := 0, nameIndex := 5, descriptorIndex := 36, attributes := #[] }, { accessFlags := 0, nameIndex := 31, descriptorIndex := 50, attributes := #[] }, { accessFlags := 0, nameIndex := 53, descriptorIndex := 54, attributes := #[] }, { accessFlags := 0, nameIndex := 56, descriptorIndex := 57, attributes := #[] }, { accessFlags := 0, nameIndex := 58, descriptorIndex := 36, attributes := #[] }, { accessFlags := 2, nameIndex := 35, descriptorIndex := 36, attributes := #[] }, { accessFlags := 2, nameIndex := 39, descriptorIndex := 36, attributes := #[] }, { accessFlags := 2, nameIndex := 46, descriptorIndex := 47, attributes := #[] }, { accessFlags := 2, nameIndex := 42, descriptorIndex := 43, attributes := #[] }] 48 2 #[] #[{ accessFlags := 18, nameIndex := 11, descriptorIndex := 12, attributes := #[] }, { accessFlags := 18, nameIndex := 15, descriptorIndex := 12, attributes := #[] }, { accessFlags := 18, nameIndex := 18, descriptorIndex := 12, attributes := #[] }, { accessFlags := 18, nameIndex := 21, descriptorIndex := 22, attributes := #[] }, { accessFlags := 2, nameIndex := 31, descriptorIndex := 32, attributes := #[] }])
  fields := #[{ name := "heap", type := (.array .int), accessFlags := 18, slot := 0, constantValue := 0 }, { name := "placeOf", type := (.array .int), accessFlags := 18, slot := 1, constantValue := 0 }, { name := "waysOf", type := (.array .int), accessFlags := 18, slot := 2, constantValue := 0 }, { name := "rankOf", type := (.array .long), accessFlags := 18, slot := 3, constantValue := 0 }, { name := "count", type := .int, accessFlags := 2, slot := 4, constantValue := 0 }]
  methods := #[k2m0, k2m1, k2m2, k2m3, k2m4, k2m5, k2m6, k2m7, k2m8]
  instanceTypes := #[(.array .int), (.array .int), (.array .int), (.array .long), .int]
  staticTypes := #[]
  resolved := Array.replicate 61 none
  statics := none }

def pool3 : Array CpInfo := pool [(2, .class_ 4), (1, u "java/lang/Object"), (0, u "<init>"), (0, u "()V"), (7, .class_ 16), (1, u "java/util/Arrays"), (57, .class_ 76), (1, u "java/util/Arrays$NaturalOrder"), (36, .class_ 115), (1, u "java/util/Arrays$LegacyMergeSort"), (1, u "Z"), (257, .class_ 376), (0, u "java/util/Arrays$ArrayList"), (68, u "$assertionsDisabled"), (269, u "MIN_ARRAY_SORT_GRAN"), (0, u "I"), (2, u "INSERTIONSORT_THRESHOLD"), (120, u "fill"), (4, u "([II)V"), (129, .class_ 976), (0, u "java/util/Arrays$ArrayItr")] 52

def k3m0 : Method := { name := "<init>", desc := "()V", sig := { parameters := [], returnType := none }, accessFlags := 2, code := none }
def k3c1 : Code := { maxStack := 3, maxLocals := 4, code := jdk_65_method_103_code, exceptionTable := #[], attributes := #[] }
def k3m1 : Method := { name := "fill", desc := "([II)V", sig := { parameters := [(.array .int), .int], returnType := none }, accessFlags := 9, code := some k3c1 }
/-- java/util/Arrays -/
def k3 : Class := { plain "java/util/Arrays" (some 0) with
  accessFlags := 49
  interfaces := #[]
  cf := some (fileOf pool3 14 #[.nestMembers #[975, 375, 113, 74]] #[{ accessFlags := 2, nameIndex := 5, descriptorIndex := 6, attributes := #[] }, { accessFlags := 9, nameIndex := 840, descriptorIndex := 845, attributes := #[] }] 49 2 #[] #[{ accessFlags := 26, nameIndex := 715, descriptorIndex := 716, attributes := #[] }, { accessFlags := 26, nameIndex := 719, descriptorIndex := 716, attributes := #[] }, { accessFlags := 4120, nameIndex := 445, descriptorIndex := 117, attributes := #[] }])
  fields := #[{ name := "MIN_ARRAY_SORT_GRAN", type := .int, accessFlags := 26, slot := 0, constantValue := 0 }, { name := "INSERTIONSORT_THRESHOLD", type := .int, accessFlags := 26, slot := 1, constantValue := 0 }, { name := "$assertionsDisabled", type := .boolean, accessFlags := 4120, slot := 2, constantValue := 0 }]
  methods := #[k3m0, k3m1]
  instanceTypes := #[]
  staticTypes := #[.int, .int, .boolean]
  resolved := Array.replicate 1029 none
  statics := none }

def pool4 : Array CpInfo := pool [(1, u "java/lang/Cloneable"), (0, .class_ 1), (0, u "java/lang/Object"), (0, .class_ 3)] 3

/-- java/lang/Cloneable -/
def k4 : Class := { plain "java/lang/Cloneable" (some 0) with
  accessFlags := 1537
  interfaces := #[]
  cf := some (fileOf pool4 2 #[] #[] 1537 4 #[] #[])
  fields := #[]
  methods := #[]
  instanceTypes := #[]
  staticTypes := #[]
  resolved := Array.replicate 8 none
  statics := none }

def pool5 : Array CpInfo := pool [(1, u "java/io/Serializable"), (0, .class_ 1), (0, u "java/lang/Object"), (0, .class_ 3)] 3

/-- java/io/Serializable -/
def k5 : Class := { plain "java/io/Serializable" (some 0) with
  accessFlags := 1537
  interfaces := #[]
  cf := some (fileOf pool5 2 #[] #[] 1537 4 #[] #[])
  fields := #[]
  methods := #[]
  instanceTypes := #[]
  staticTypes := #[]
  resolved := Array.replicate 8 none
  statics := none }

/-- the primitive boolean -/
def k6 : Class := { plain "boolean" none with kind := .primitive 'Z', accessFlags := 0x411 }
/-- [Z -/
def k7 : Class := { plain "[Z" (some 0) with kind := .array 6 .boolean, interfaces := #[4, 5], accessFlags := 1041 }

/-- the primitive byte -/
def k8 : Class := { plain "byte" none with kind := .primitive 'B', accessFlags := 0x411 }
/-- [B -/
def k9 : Class := { plain "[B" (some 0) with kind := .array 8 .byte, interfaces := #[4, 5], accessFlags := 1041 }

/-- the primitive int -/
def k10 : Class := { plain "int" none with kind := .primitive 'I', accessFlags := 0x411 }
/-- [I -/
def k11 : Class := { plain "[I" (some 0) with kind := .array 10 .int, interfaces := #[4, 5], accessFlags := 1041 }

/-- the primitive long -/
def k12 : Class := { plain "long" none with kind := .primitive 'J', accessFlags := 0x411 }
/-- [J -/
def k13 : Class := { plain "[J" (some 0) with kind := .array 12 .long, interfaces := #[4, 5], accessFlags := 1041 }

def heap : Heap := #[]
def classes : Array Class := #[k0, k1, k2, k3, k4, k5, k6, k7, k8, k9, k10, k11, k12, k13]
def interned : List (Array UInt16 × Addr) := []
def slotsUsed : Nat := 0
def theMethod : MethodId := ⟨1, 1⟩
def args0 : Array Value := #[.int 5, .int 4, .int 3, .int 6, .long 9]
def aboutOver (below : List Frame) : State where
  vm := { classes := classes, interned := interned.toArray }
  heap := heap
  slotsUsed := slotsUsed
  threads := #[{ frames := .invoking theMethod args0 :: below }]
def below0 : List Frame := [.native { method := ⟨0, 0⟩, args := #[] }]
def about1 : State := aboutOver below0
def p0 : Program := .bare "" "" ""
def e0 : Env := launch0.env 0 0 0
theorem w_frames : about1.frames = Frame.invoking theMethod args0 :: below0 := rfl
set_option maxRecDepth 65536 in
theorem w_args : argsFit about1.vm theMethod args0 = true := by decide +kernel
set_option maxRecDepth 65536 in
theorem w_heap : heapFits about1 = true := by decide +kernel
set_option maxRecDepth 65536 in
theorem w_runnable : about1.curStatus? = some .runnable := by decide +kernel
set_option maxRecDepth 65536 in
theorem w_alone : about1.alone = true := by decide +kernel
set_option maxRecDepth 65536 in
theorem w_named : about1.methodNamed? x = some theMethod := by decide +kernel
set_option maxRecDepth 65536 in
theorem w_hears : about1.hears theMethod below0 = true := by decide +kernel
set_option maxRecDepth 65536 in
theorem w_ripe : about1.ripe theMethod args0 below0 = true := by decide +kernel
theorem w_running : about1.status = .running := rfl
set_option maxRecDepth 65536 in
theorem w_room : about1.hasRoom e0.platform room_1 = true :=
  launch0.hasRoom_least _ room_1 (by decide +kernel) (by decide +kernel) (by decide +kernel) (by decide +kernel) (by decide +kernel) (by decide +kernel)
theorem allAtoms_all (ts : List Jvm.Cond) (a : Array Jvm.Value) (st : Jvm.State) : (allAtoms ts).before a st = ts.all (fun c => c.before a st) := by
  induction ts with
  | nil => rfl
  | cons c t ih =>
    show (Jvm.Cond.and c (allAtoms t)).before a st = _
    rw [Jvm.Cond.before_and, ih, List.all_cons]
def words1 : List Jvm.Cond := Jvm.Cond.code x code maxLocals ret :: tables_1
/-- a 'code' word, met by the world's own term for the bytes: nothing is compared byte by byte -/
theorem code_word {y : MethodName} {bytes : ByteArray} {mx : Nat} {rt : Option FieldType} {a : Array Value} {s : State} {m : MethodId} {meth : Method} {c : Code} (h1 : s.methodNamed? y = some m) (h2 : s.vm.method? m = some meth) (h3 : meth.code = some c) (h4 : c.code = bytes)
    (h5 : (c.maxLocals == mx && c.exceptionTable.isEmpty && decide (c.maxStack ≤ mostOperands) && decide (meth.sig.returnType = rt) && !meth.locks && decide (parseMethodDescriptor y.desc = some meth.sig)) = true) : (Jvm.Cond.code y bytes mx rt).before a s = true := by
  simp only [Bool.and_eq_true, beq_iff_eq, Bool.not_eq_true', decide_eq_true_eq] at h5
  obtain ⟨⟨⟨⟨⟨g1, g2⟩, g3⟩, g4⟩, g5⟩, g6⟩ := h5
  simp [Cond.before, Cond.holds, Cond.value, h1, h2, h3, h4, g1, g2, g3, g4, g5, g6]
def isCode : Jvm.Cond → Bool
  | .code _ _ _ _ => true
  | _ => false
theorem all_split {L : List Jvm.Cond} {P : Jvm.Cond → Bool} (h1 : L.all (fun c => isCode c || P c) = true) (h2 : ∀ c ∈ L.filter isCode, P c = true) : L.all P = true := by
  refine List.all_eq_true.mpr fun c hc => ?_
  have h := List.all_eq_true.mp h1 c hc
  rcases Bool.eq_false_or_eq_true (isCode c) with hi | hi
  · exact h2 c (List.mem_filter.mpr ⟨hc, hi⟩)
  · simpa [hi] using h
set_option maxRecDepth 65536 in
theorem w_c0 : (Jvm.Cond.code x code maxLocals ret).before args0 about1 = true := code_word (m := ⟨1, 1⟩) (meth := k1m1) (c := k1c1) (by decide +kernel) rfl rfl rfl (by decide +kernel)
set_option maxRecDepth 65536 in
theorem w_c1 : (Jvm.Cond.code ({ cls := "com/example/knotweave/knotweave/OpenNeeds", name := "<init>", desc := "(I)V" } : Jvm.MethodName) prog_39_method_1_code (2 : Nat) (Option.none : Option Jvm.ClassFile.FieldType)).before args0 about1 = true := code_word (m := ⟨2, 0⟩) (meth := k2m0) (c := k2c0) (by decide +kernel) rfl rfl rfl (by decide +kernel)
set_option maxRecDepth 65536 in
theorem w_c2 : (Jvm.Cond.code ({ cls := "java/lang/Object", name := "<init>", desc := "()V" } : Jvm.MethodName) object_method_1_code (1 : Nat) (Option.none : Option Jvm.ClassFile.FieldType)).before args0 about1 = true := code_word (m := ⟨0, 0⟩) (meth := k0m0) (c := k0c0) (by decide +kernel) rfl rfl rfl (by decide +kernel)
set_option maxRecDepth 65536 in
theorem w_c3 : (Jvm.Cond.code ({ cls := "java/util/Arrays", name := "fill", desc := "([II)V" } : Jvm.MethodName) jdk_65_method_103_code (4 : Nat) (Option.none : Option Jvm.ClassFile.FieldType)).before args0 about1 = true := code_word (m := ⟨3, 1⟩) (meth := k3m1) (c := k3c1) (by decide +kernel) rfl rfl rfl (by decide +kernel)
set_option maxRecDepth 65536 in
theorem w_c4 : (Jvm.Cond.code ({ cls := "com/example/knotweave/knotweave/OpenNeedsContainsPinLaw", name := "step", desc := "(Lcom/example/knotweave/knotweave/OpenNeeds;[ZIJ)V" } : Jvm.MethodName) method_3_code (8 : Nat) (Option.none : Option Jvm.ClassFile.FieldType)).before args0 about1 = true := code_word (m := ⟨1, 2⟩) (meth := k1m2) (c := k1c2) (by decide +kernel) rfl rfl rfl (by decide +kernel)
set_option maxRecDepth 65536 in
theorem w_c5 : (Jvm.Cond.code ({ cls := "com/example/knotweave/knotweave/OpenNeeds", name := "remove", desc := "(I)V" } : Jvm.MethodName) prog_39_method_6_code (4 : Nat) (Option.none : Option Jvm.ClassFile.FieldType)).before args0 about1 = true := code_word (m := ⟨2, 4⟩) (meth := k2m4) (c := k2c4) (by decide +kernel) rfl rfl rfl (by decide +kernel)
set_option maxRecDepth 65536 in
theorem w_c6 : (Jvm.Cond.code ({ cls := "com/example/knotweave/knotweave/OpenNeeds", name := "contains", desc := "(I)Z" } : Jvm.MethodName) prog_39_method_4_code (2 : Nat) (Option.some Jvm.ClassFile.FieldType.boolean)).before args0 about1 = true := code_word (m := ⟨2, 2⟩) (meth := k2m2) (c := k2c2) (by decide +kernel) rfl rfl rfl (by decide +kernel)
set_option maxRecDepth 65536 in
theorem w_c7 : (Jvm.Cond.code ({ cls := "com/example/knotweave/knotweave/OpenNeeds", name := "count", desc := "()I" } : Jvm.MethodName) prog_39_method_2_code (1 : Nat) (Option.some Jvm.ClassFile.FieldType.int)).before args0 about1 = true := code_word (m := ⟨2, 1⟩) (meth := k2m1) (c := k2c1) (by decide +kernel) rfl rfl rfl (by decide +kernel)
set_option maxRecDepth 65536 in
theorem w_c8 : (Jvm.Cond.code ({ cls := "com/example/knotweave/knotweave/OpenNeeds", name := "put", desc := "(IIJ)V" } : Jvm.MethodName) prog_39_method_5_code (5 : Nat) (Option.none : Option Jvm.ClassFile.FieldType)).before args0 about1 = true := code_word (m := ⟨2, 3⟩) (meth := k2m3) (c := k2c3) (by decide +kernel) rfl rfl rfl (by decide +kernel)
set_option maxRecDepth 65536 in
theorem w_c9 : (Jvm.Cond.code ({ cls := "com/example/knotweave/knotweave/OpenNeeds", name := "siftUp", desc := "(I)V" } : Jvm.MethodName) prog_39_method_7_code (4 : Nat) (Option.none : Option Jvm.ClassFile.FieldType)).before args0 about1 = true := code_word (m := ⟨2, 5⟩) (meth := k2m5) (c := k2c5) (by decide +kernel) rfl rfl rfl (by decide +kernel)
set_option maxRecDepth 65536 in
theorem w_c10 : (Jvm.Cond.code ({ cls := "com/example/knotweave/knotweave/OpenNeeds", name := "settle", desc := "(II)V" } : Jvm.MethodName) prog_39_method_9_code (3 : Nat) (Option.none : Option Jvm.ClassFile.FieldType)).before args0 about1 = true := code_word (m := ⟨2, 7⟩) (meth := k2m7) (c := k2c7) (by decide +kernel) rfl rfl rfl (by decide +kernel)
set_option maxRecDepth 65536 in
theorem w_c11 : (Jvm.Cond.code ({ cls := "com/example/knotweave/knotweave/OpenNeeds", name := "siftDown", desc := "(I)V" } : Jvm.MethodName) prog_39_method_8_code (4 : Nat) (Option.none : Option Jvm.ClassFile.FieldType)).before args0 about1 = true := code_word (m := ⟨2, 6⟩) (meth := k2m6) (c := k2c6) (by decide +kernel) rfl rfl rfl (by decide +kernel)
set_option maxRecDepth 65536 in
theorem w_c12 : (Jvm.Cond.code ({ cls := "com/example/knotweave/knotweave/OpenNeeds", name := "before", desc := "(II)Z" } : Jvm.MethodName) prog_39_method_10_code (3 : Nat) (Option.some Jvm.ClassFile.FieldType.boolean)).before args0 about1 = true := code_word (m := ⟨2, 8⟩) (meth := k2m8) (c := k2c8) (by decide +kernel) rfl rfl rfl (by decide +kernel)
def codes1 : List Jvm.Cond := [Jvm.Cond.code x code maxLocals ret, Jvm.Cond.code ({ cls := "com/example/knotweave/knotweave/OpenNeeds", name := "<init>", desc := "(I)V" } : Jvm.MethodName) prog_39_method_1_code (2 : Nat) (Option.none : Option Jvm.ClassFile.FieldType), Jvm.Cond.code ({ cls := "java/lang/Object", name := "<init>", desc := "()V" } : Jvm.MethodName) object_method_1_code (1 : Nat) (Option.none : Option Jvm.ClassFile.FieldType), Jvm.Cond.code ({ cls := "java/util/Arrays", name := "fill", desc := "([II)V" } : Jvm.MethodName) jdk_65_method_103_code (4 : Nat) (Option.none : Option Jvm.ClassFile.FieldType), Jvm.Cond.code ({ cls := "com/example/knotweave/knotweave/OpenNeedsContainsPinLaw", name := "step", desc := "(Lcom/example/knotweave/knotweave/OpenNeeds;[ZIJ)V" } : Jvm.MethodName) method_3_code (8 : Nat) (Option.none : Option Jvm.ClassFile.FieldType), Jvm.Cond.code ({ cls := "com/example/knotweave/knotweave/OpenNeeds", name := "remove", desc := "(I)V" } : Jvm.MethodName) prog_39_method_6_code (4 : Nat) (Option.none : Option Jvm.ClassFile.FieldType), Jvm.Cond.code ({ cls := "com/example/knotweave/knotweave/OpenNeeds", name := "contains", desc := "(I)Z" } : Jvm.MethodName) prog_39_method_4_code (2 : Nat) (Option.some Jvm.ClassFile.FieldType.boolean), Jvm.Cond.code ({ cls := "com/example/knotweave/knotweave/OpenNeeds", name := "count", desc := "()I" } : Jvm.MethodName) prog_39_method_2_code (1 : Nat) (Option.some Jvm.ClassFile.FieldType.int), Jvm.Cond.code ({ cls := "com/example/knotweave/knotweave/OpenNeeds", name := "put", desc := "(IIJ)V" } : Jvm.MethodName) prog_39_method_5_code (5 : Nat) (Option.none : Option Jvm.ClassFile.FieldType), Jvm.Cond.code ({ cls := "com/example/knotweave/knotweave/OpenNeeds", name := "siftUp", desc := "(I)V" } : Jvm.MethodName) prog_39_method_7_code (4 : Nat) (Option.none : Option Jvm.ClassFile.FieldType), Jvm.Cond.code ({ cls := "com/example/knotweave/knotweave/OpenNeeds", name := "settle", desc := "(II)V" } : Jvm.MethodName) prog_39_method_9_code (3 : Nat) (Option.none : Option Jvm.ClassFile.FieldType), Jvm.Cond.code ({ cls := "com/example/knotweave/knotweave/OpenNeeds", name := "siftDown", desc := "(I)V" } : Jvm.MethodName) prog_39_method_8_code (4 : Nat) (Option.none : Option Jvm.ClassFile.FieldType), Jvm.Cond.code ({ cls := "com/example/knotweave/knotweave/OpenNeeds", name := "before", desc := "(II)Z" } : Jvm.MethodName) prog_39_method_10_code (3 : Nat) (Option.some Jvm.ClassFile.FieldType.boolean)]
set_option maxRecDepth 65536 in
theorem codes_eq : words1.filter isCode = codes1 := rfl
theorem w_codes : ∀ c ∈ words1.filter isCode, c.before args0 about1 = true := by
  rw [codes_eq]
  intro c hc
  simp only [codes1, List.mem_cons, List.not_mem_nil, or_false] at hc
  rcases hc with rfl | rfl | rfl | rfl | rfl | rfl | rfl | rfl | rfl | rfl | rfl | rfl | rfl
  · exact w_c0
  · exact w_c1
  · exact w_c2
  · exact w_c3
  · exact w_c4
  · exact w_c5
  · exact w_c6
  · exact w_c7
  · exact w_c8
  · exact w_c9
  · exact w_c10
  · exact w_c11
  · exact w_c12
set_option maxRecDepth 65536 in
theorem w_t1 : (words1.take 24).all (fun c => isCode c || c.before args0 about1) = true := by decide +kernel
set_option maxRecDepth 65536 in
theorem w_t2 : ((words1.drop 24).take 24).all (fun c => isCode c || c.before args0 about1) = true := by decide +kernel
set_option maxRecDepth 65536 in
theorem w_t3 : ((words1.drop 24).drop 24).all (fun c => isCode c || c.before args0 about1) = true := by decide +kernel
theorem w_tables : (allAtoms (Jvm.Cond.code x code maxLocals ret :: tables_1)).before args0 about1 = true := by
  rw [allAtoms_all]
  show words1.all (fun c => c.before args0 about1) = true
  refine all_split ?_ w_codes
  rw [← List.take_append_drop 24 words1, List.all_append, w_t1, ← List.take_append_drop 24 (words1.drop 24), List.all_append, w_t2, w_t3]
  rfl
set_option maxRecDepth 65536 in
theorem w_case : (Jvm.Cond.and given_1 narrow_1).before args0 about1 = true := by decide +kernel
theorem w_applies : (headSpec (Jvm.Cond.code x code maxLocals ret :: tables_1) room_1).applies x e0.platform about1 = true :=
  (Spec.applies_iff w_frames).mpr ⟨w_running, w_runnable, w_alone, w_named, w_hears, w_ripe, w_room, w_tables⟩
theorem atStart : AtStart classFile x code maxLocals ret World_1 tables_1 room_1 Calls_1 rest_1 Pre_1 launch0 p0 e0 about1 theMethod args0 below0 :=
  ⟨lists_1, trivial, launch0.admits_env _ _ _, launch0.least_env, fairChoices_fair.cas, fairChoices_fair.clock, w_frames, w_args, w_heap, w_applies, trivial, trivial, w_case⟩
end start1
theorem witness_1 : WitnessClaimed_1 := ⟨start1.p0, start1.e0, start1.about1, start1.theMethod, start1.args0, start1.below0, start1.atStart⟩
end Jvm.Pilot.@@N@@
