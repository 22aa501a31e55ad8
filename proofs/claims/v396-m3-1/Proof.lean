import JvmDerived
import JvmDerived.Pilot.@@N@@Statement
import JvmDerived.Pilot.@@N@@Code
set_option linter.unusedVariables false
set_option linter.unusedSimpArgs false
namespace Jvm.RoadKit
open Sem ClassFile Op Lib Jvm.Stand Jvm.Free Jvm.LawKit
section New
variable {p : Program} {l : Launch} {e : Env} {R : Room} {s : State} {m : MethodId} {args : Array Value} {below : List Frame} {meth : Method} {c : Code} {T : State} {locs : List Loc} {cells slots : Nat}
theorem retI (X : Stand p l e R s m args below meth c T locs cells slots) (hx : p.tables.exec = Jvm.exec) {pc : Nat} {Ls : Array Slot} {z : Int32} {rest : List Value} (hret : meth.sig.returnType = some .int) (hd : decode c.code pc = .ok (.ireturn, 1)) {fs : List Frame}
    (hl : ∀ (f : JFrame) (acts : List Action), f.method = m → f.locked = none → f.entered = [] → (doReturn e (T.setTop f) acts (some (.int z))).1 = T.setFrames fs) : Steps p.tables e below (T.setTop (mkF m pc Ls (.int z :: rest))) (T.setFrames fs) := by
  have hm' : T.vm.method? m = some meth := X.method'
  have hn : narrow .int (.int z) = .int z := rfl
  show Steps p.tables e below (T.setTop { method := m, pc := pc, locals := Ls, stack := _ :: rest, locked := none }) _
  jvm_step X.here [X.here.top, hx, hd, hm', hret, hn]
  first | (intro acts; rw [hl _ acts rfl rfl rfl]) | rw [hl _ _ rfl rfl rfl]
  exact Steps.refl _
end New
end Jvm.RoadKit
namespace Jvm.Own
open Jvm Jvm.ClassFile Sem Op Lib Jvm.Free Jvm.Stand Jvm.LawKit Jvm.RoadKit Bundle
/-! ## A walk by continuations: `Goes` says that the run from here comes to a state with K; each rule takes one instruction off. -/
def Goes (p : Program) (e : Env) (below : List Frame) (K : State → Prop) (T : State) (m : MethodId) (pc : Nat) (L : Array Slot) (S : List Value) : Prop :=
  ∃ u, Steps p.tables e below (T.setTop (mkF m pc L S)) u ∧ K u
/-- where one body's walk stands: the standing facts, the state T with the heap h, what was written lies in new cells -/
def Wk (p : Program) (l : Launch) (e : Env) (R : Room) (s : State) (m : MethodId) (args : Array Value) (below : List Frame) (meth : Method) (c : Code) (Z : State) (n0 : Nat) (y : MethodName) (code : ByteArray) (ml : Nat) (ret : Option FieldType)
    (T : State) (cells slots : Nat) (h : Heap) : Prop :=
  p.tables.exec = Jvm.exec ∧ Z.Warmed39 s.vm ∧ c.code = code ∧ c.maxLocals = ml ∧ s.vm.findClass y.cls = some m.cls ∧ meth.name = y.name ∧ meth.sig.returnType = ret ∧ meth.locks = false ∧ n0 ≤ h.size ∧
  ∃ locs, Stand p l e R s m args below meth c T locs cells slots ∧ T.heap = h ∧ Fr n0 locs
def Qc (n0 : Nat) (w : Option Value) (Q : Heap → Prop) (v : Option Value) (h : Heap) (L : List Loc) : Prop := v = w ∧ Q h ∧ Fr n0 L ∧ n0 ≤ h.size
/-- what a body's end says: it returned w, the heap satisfies Q -/
def Done (below : List Frame) (s : State) (n0 : Nat) (R : Room) (w : Option Value) (Q : Heap → Prop) (u : State) : Prop :=
  ∃ o, u.status = .running ∧ Ended u below o ∧ ∃ v L, o = .returned v ∧ Qc n0 w Q v u.heap L ∧ FrameEnd s o u L R.cells R.slots
/-- a body's contract -/
def Con (l : Launch) (Z : State) (y : MethodName) (code : ByteArray) (ml : Nat) (ret : Option FieldType) (R : Room) (as : Array Value) (h0 : Heap) (n0 : Nat) (w : Option Value) (Q : Heap → Prop) : Prop :=
  ∀ ws, MetFree l y (head1 (Jvm.Cond.code y code ml ret :: ws) R) (fun a U => a = as ∧ Z.Warmed39 U.vm ∧ U.heap = h0) (fun _ _ _ _ _ => True)
    (fun _ U o U' => ∃ v L, o = .returned v ∧ Qc n0 w Q v U'.heap L ∧ FrameEnd U o U' L R.cells R.slots)
theorem con_of {l : Launch} {Z : State} {y : MethodName} {code : ByteArray} {ml : Nat} {ret : Option FieldType} {R : Room} {as : Array Value} {h0 : Heap} {n0 : Nat} {w : Option Value} {Q : Heap → Prop}
    (hpl : plainFor y = true) (hn0 : n0 ≤ h0.size) {L0 : Array Slot} (hL : ∀ m, entryFrame m as ml = mkF m 0 L0 [])
    (body : ∀ (p : Program) (e : Env) (s : State) (m : MethodId) (below : List Frame) (meth : Method) (c : Code) (T : State), Wk p l e R s m as below meth c Z n0 y code ml ret T 0 0 h0 → Goes p e below (Done below s n0 R w Q) T m 0 L0 []) :
    Con l Z y code ml ret R as h0 n0 w Q := by
  intro ws
  refine MetFree.of_bodySF hpl hisR ?_
  intro p e s m args below meth c s₁ Bd hml0 hP hK
  obtain ⟨rfl, hZ, hh⟩ := hP
  have X0 : Stand p l e R s m args below meth c s₁ [] 0 0 := Stand.of_body Bd
  have e0 : s₁.heap = h0 := by rw [← hh, Bd.state]; rfl
  obtain ⟨u, st, o, h1, h2, h3⟩ := body p e s m below meth c s₁ ⟨Bd.exec, hZ, Bd.bytes, hml0, findClass_of_methodNamed Bd.named, (name_of_methodNamed Bd.named Bd.method).1, Bd.returns, Bd.notSynchronized, hn0, [], X0, e0, Fr.nil n0⟩
  exact ⟨u, o, castTop (hL m) st, h1, h2, h3⟩
/-- Java's >>> -/
def ush (a b : Int32) : Int32 := (a.toUInt32 >>> (b &&& 31).toUInt32).toInt32
def ushL (a : Int64) (b : Int32) : Int64 := (a.toUInt64 >>> (b &&& 0x3f).toInt64.toUInt64).toInt64
/-- a local that holds nothing, or one word -/
def OneS (s : Slot) : Prop := s = .unset ∨ ∃ w : Value, s = .val w ∧ w.category = 1
theorem OneS.u : OneS .unset := Or.inl rfl
theorem OneS.i (z : Int32) : OneS (.val (.int z)) := Or.inr ⟨_, rfl, rfl⟩
theorem OneS.r (z : Addr) : OneS (.val (.ref z)) := Or.inr ⟨_, rfl, rfl⟩
section Rules
variable {p : Program} {l : Launch} {e : Env} {R : Room} {s : State} {m : MethodId} {args : Array Value} {below : List Frame} {meth : Method} {c : Code} {Z : State} {n0 : Nat} {y : MethodName} {code : ByteArray} {ml : Nat} {ret : Option FieldType}
  {T : State} {cells slots : Nat} {h : Heap} {K : State → Prop} {L : Array Slot} {S : List Value} {pc pc' : Nat} {a0 : Array Value}
theorem Goes.via {T' : State} {L' : Array Slot} {S' : List Value} (st : ∀ target, Steps p.tables e below (T'.setTop (mkF m pc' L' S')) target → Steps p.tables e below (T.setTop (mkF m pc L S)) target) (g : Goes p e below K T' m pc' L' S') : Goes p e below K T m pc L S := by
  obtain ⟨u, a, b⟩ := g
  exact ⟨u, st _ a, b⟩
theorem Wk.size (X : Wk p l e R s m args below meth c Z n0 y code ml ret T cells slots h) : n0 ≤ h.size := X.2.2.2.2.2.2.2.2.1
-- plain steps
theorem w_iloadN (X : Wk p l e R s m args below meth c Z n0 y code ml ret T cells slots h) {k : Fin 4} {v : Int32} (hd : decode code pc = .ok (.iload_n k, 1)) (hp : pc + 1 = pc') (hl : L[k.val]? = some (.val (.int v))) (g : Goes p e below K T m pc' L (.int v :: S)) : Goes p e below K T m pc L S := by
  obtain ⟨hx, -, hby, -, -, -, -, -, -, locs, X, -, -⟩ := X
  subst hp
  obtain ⟨u1, a1, b1⟩ := g
  exact ⟨u1, XS.iloadN (g := mkF m pc L S) X.here hx rfl (hb hby hd) hl a1, b1⟩
theorem w_iload (X : Wk p l e R s m args below meth c Z n0 y code ml ret T cells slots h) {k : Nat} {v : Int32} (hd : decode code pc = .ok (.iload k, 2)) (hp : pc + 2 = pc') (hl : L[k]? = some (.val (.int v))) (g : Goes p e below K T m pc' L (.int v :: S)) : Goes p e below K T m pc L S := by
  obtain ⟨hx, -, hby, -, -, -, -, -, -, locs, X, -, -⟩ := X
  subst hp
  obtain ⟨u1, a1, b1⟩ := g
  exact ⟨u1, XS.iload (g := mkF m pc L S) X.here hx rfl (hb hby hd) hl a1, b1⟩
theorem w_lloadN (X : Wk p l e R s m args below meth c Z n0 y code ml ret T cells slots h) {k : Fin 4} {v : Int64} (hd : decode code pc = .ok (.lload_n k, 1)) (hp : pc + 1 = pc') (hl : L[k.val]? = some (.val (.long v))) (g : Goes p e below K T m pc' L (.long v :: S)) : Goes p e below K T m pc L S := by
  obtain ⟨hx, -, hby, -, -, -, -, -, -, locs, X, -, -⟩ := X
  subst hp
  obtain ⟨u1, a1, b1⟩ := g
  exact ⟨u1, XS.lloadN (g := mkF m pc L S) X.here hx rfl (hb hby hd) hl a1, b1⟩
theorem w_lload (X : Wk p l e R s m args below meth c Z n0 y code ml ret T cells slots h) {k : Nat} {v : Int64} (hd : decode code pc = .ok (.lload k, 2)) (hp : pc + 2 = pc') (hl : L[k]? = some (.val (.long v))) (g : Goes p e below K T m pc' L (.long v :: S)) : Goes p e below K T m pc L S := by
  obtain ⟨hx, -, hby, -, -, -, -, -, -, locs, X, -, -⟩ := X
  subst hp
  obtain ⟨u1, a1, b1⟩ := g
  exact ⟨u1, XS.lload (g := mkF m pc L S) X.here hx rfl (hb hby hd) hl a1, b1⟩
theorem w_aloadN (X : Wk p l e R s m args below meth c Z n0 y code ml ret T cells slots h) {k : Fin 4} {v : Value} (hd : decode code pc = .ok (.aload_n k, 1)) (hp : pc + 1 = pc') (hl : L[k.val]? = some (.val v)) (hv : v.isRef = true) (g : Goes p e below K T m pc' L (v :: S)) : Goes p e below K T m pc L S := by
  obtain ⟨hx, -, hby, -, -, -, -, -, -, locs, X, -, -⟩ := X
  subst hp
  obtain ⟨u1, a1, b1⟩ := g
  exact ⟨u1, XS.aloadN (g := mkF m pc L S) X.here hx rfl (hb hby hd) hl hv a1, b1⟩
theorem w_aload (X : Wk p l e R s m args below meth c Z n0 y code ml ret T cells slots h) {k : Nat} {v : Value} (hd : decode code pc = .ok (.aload k, 2)) (hp : pc + 2 = pc') (hl : L[k]? = some (.val v)) (hv : v.isRef = true) (g : Goes p e below K T m pc' L (v :: S)) : Goes p e below K T m pc L S := by
  obtain ⟨hx, -, hby, -, -, -, -, -, -, locs, X, -, -⟩ := X
  subst hp
  obtain ⟨u1, a1, b1⟩ := g
  exact ⟨u1, XS.aload (g := mkF m pc L S) X.here hx rfl (hb hby hd) hl hv a1, b1⟩
theorem w_istoreN (X : Wk p l e R s m args below meth c Z n0 y code ml ret T cells slots h) {k : Fin 4} {v : Int32} {L' : Array Slot} (hd : decode code pc = .ok (.istore_n k, 1)) (hp : pc + 1 = pc') (hl : storeLocals L k.val (.int v) = some L') (g : Goes p e below K T m pc' L' S) : Goes p e below K T m pc L (.int v :: S) := by
  obtain ⟨hx, -, hby, -, -, -, -, -, -, locs, X, -, -⟩ := X
  subst hp
  obtain ⟨u1, a1, b1⟩ := g
  exact ⟨u1, XS.istoreN (g := mkF m pc L (.int v :: S)) X.here hx rfl (hb hby hd) rfl hl a1, b1⟩
theorem w_istore (X : Wk p l e R s m args below meth c Z n0 y code ml ret T cells slots h) {k : Nat} {v : Int32} {L' : Array Slot} (hd : decode code pc = .ok (.istore k, 2)) (hp : pc + 2 = pc') (hl : storeLocals L k (.int v) = some L') (g : Goes p e below K T m pc' L' S) : Goes p e below K T m pc L (.int v :: S) := by
  obtain ⟨hx, -, hby, -, -, -, -, -, -, locs, X, -, -⟩ := X
  subst hp
  obtain ⟨u1, a1, b1⟩ := g
  exact ⟨u1, XS.istore (g := mkF m pc L (.int v :: S)) X.here hx rfl (hb hby hd) rfl hl a1, b1⟩
theorem w_lstoreN (X : Wk p l e R s m args below meth c Z n0 y code ml ret T cells slots h) {k : Fin 4} {v : Int64} {L' : Array Slot} (hd : decode code pc = .ok (.lstore_n k, 1)) (hp : pc + 1 = pc') (hl : storeLocals L k.val (.long v) = some L') (g : Goes p e below K T m pc' L' S) : Goes p e below K T m pc L (.long v :: S) := by
  obtain ⟨hx, -, hby, -, -, -, -, -, -, locs, X, -, -⟩ := X
  subst hp
  obtain ⟨u1, a1, b1⟩ := g
  exact ⟨u1, XS.lstoreN (g := mkF m pc L (.long v :: S)) X.here hx rfl (hb hby hd) rfl hl a1, b1⟩
theorem w_lstore (X : Wk p l e R s m args below meth c Z n0 y code ml ret T cells slots h) {k : Nat} {v : Int64} {L' : Array Slot} (hd : decode code pc = .ok (.lstore k, 2)) (hp : pc + 2 = pc') (hl : storeLocals L k (.long v) = some L') (g : Goes p e below K T m pc' L' S) : Goes p e below K T m pc L (.long v :: S) := by
  obtain ⟨hx, -, hby, -, -, -, -, -, -, locs, X, -, -⟩ := X
  subst hp
  obtain ⟨u1, a1, b1⟩ := g
  exact ⟨u1, XS.lstore (g := mkF m pc L (.long v :: S)) X.here hx rfl (hb hby hd) rfl hl a1, b1⟩
theorem w_astoreN (X : Wk p l e R s m args below meth c Z n0 y code ml ret T cells slots h) {k : Fin 4} {v : Value} {L' : Array Slot} (hd : decode code pc = .ok (.astore_n k, 1)) (hp : pc + 1 = pc') (hv : v.isRef = true) (hl : storeLocals L k.val v = some L') (g : Goes p e below K T m pc' L' S) : Goes p e below K T m pc L (v :: S) := by
  obtain ⟨hx, -, hby, -, -, -, -, -, -, locs, X, -, -⟩ := X
  subst hp
  obtain ⟨u1, a1, b1⟩ := g
  exact ⟨u1, XS.astoreN (g := mkF m pc L (v :: S)) X.here hx rfl (hb hby hd) rfl hv hl a1, b1⟩
theorem w_astore (X : Wk p l e R s m args below meth c Z n0 y code ml ret T cells slots h) {k : Nat} {v : Value} {L' : Array Slot} (hd : decode code pc = .ok (.astore k, 2)) (hp : pc + 2 = pc') (hv : v.isRef = true) (hl : storeLocals L k v = some L') (g : Goes p e below K T m pc' L' S) : Goes p e below K T m pc L (v :: S) := by
  obtain ⟨hx, -, hby, -, -, -, -, -, -, locs, X, -, -⟩ := X
  subst hp
  obtain ⟨u1, a1, b1⟩ := g
  exact ⟨u1, XS.astore (g := mkF m pc L (v :: S)) X.here hx rfl (hb hby hd) rfl hv hl a1, b1⟩
theorem w_iconst (X : Wk p l e R s m args below meth c Z n0 y code ml ret T cells slots h) {i : Int} {v : Int32} (hd : decode code pc = .ok (.iconst i, 1)) (hp : pc + 1 = pc') (hv : Int32.ofInt i = v) (g : Goes p e below K T m pc' L (.int v :: S)) : Goes p e below K T m pc L S := by
  obtain ⟨hx, -, hby, -, -, -, -, -, -, locs, X, -, -⟩ := X
  subst hp hv
  obtain ⟨u1, a1, b1⟩ := g
  exact ⟨u1, XS.iconst (g := mkF m pc L S) X.here hx rfl (hb hby hd) a1, b1⟩
theorem w_bipush (X : Wk p l e R s m args below meth c Z n0 y code ml ret T cells slots h) {i : Int} {v : Int32} (hd : decode code pc = .ok (.bipush i, 2)) (hp : pc + 2 = pc') (hv : (Int8.ofInt i).toInt32 = v) (g : Goes p e below K T m pc' L (.int v :: S)) : Goes p e below K T m pc L S := by
  obtain ⟨hx, -, hby, -, -, -, -, -, -, locs, X, -, -⟩ := X
  subst hp hv
  obtain ⟨u1, a1, b1⟩ := g
  exact ⟨u1, XS.bipush (g := mkF m pc L S) X.here hx rfl (hb hby hd) a1, b1⟩
theorem w_sipush (X : Wk p l e R s m args below meth c Z n0 y code ml ret T cells slots h) {i : Int} {v : Int32} (hd : decode code pc = .ok (.sipush i, 3)) (hp : pc + 3 = pc') (hv : (Int16.ofInt i).toInt32 = v) (g : Goes p e below K T m pc' L (.int v :: S)) : Goes p e below K T m pc L S := by
  obtain ⟨hx, -, hby, -, -, -, -, -, -, locs, X, -, -⟩ := X
  subst hp hv
  obtain ⟨u1, a1, b1⟩ := g
  exact ⟨u1, XS.sipush (g := mkF m pc L S) X.here hx rfl (hb hby hd) a1, b1⟩
theorem w_lconst (X : Wk p l e R s m args below meth c Z n0 y code ml ret T cells slots h) {i : Fin 2} {v : Int64} (hd : decode code pc = .ok (.lconst i, 1)) (hp : pc + 1 = pc') (hv : Int64.ofNat i = v) (g : Goes p e below K T m pc' L (.long v :: S)) : Goes p e below K T m pc L S := by
  obtain ⟨hx, -, hby, -, -, -, -, -, -, locs, X, -, -⟩ := X
  subst hp hv
  obtain ⟨u1, a1, b1⟩ := g
  exact ⟨u1, XS.lconst (g := mkF m pc L S) X.here hx rfl (hb hby hd) a1, b1⟩
theorem w_ldcInt (X : Wk p l e R s m args below meth c Z n0 y code ml ret T cells slots h) {i : Nat} {v : Int32} (hc : (Jvm.Cond.constant y.cls i v).before a0 Z = true) (hd : decode code pc = .ok (.ldc i, 2)) (hp : pc + 2 = pc') (g : Goes p e below K T m pc' L (.int v :: S)) : Goes p e below K T m pc L S := by
  obtain ⟨hx, hZ, hby, -, hown, -, -, -, -, locs, X, -, -⟩ := X
  subst hp
  obtain ⟨u1, a1, b1⟩ := g
  exact ⟨u1, X.ldcInt hx hown (mvT hZ hc) (g := mkF m pc L S) rfl (hb hby hd) _ a1, b1⟩
theorem w_ldc2Long (X : Wk p l e R s m args below meth c Z n0 y code ml ret T cells slots h) {i : Nat} {v : Int64} (hc : (Jvm.Cond.constantLong y.cls i v).before a0 Z = true) (hd : decode code pc = .ok (.ldc2_w i, 3)) (hp : pc + 3 = pc') (g : Goes p e below K T m pc' L (.long v :: S)) : Goes p e below K T m pc L S := by
  obtain ⟨hx, hZ, hby, -, hown, -, -, -, -, locs, X, -, -⟩ := X
  subst hp
  obtain ⟨u1, a1, b1⟩ := g
  exact ⟨u1, X.ldc2Long hx hown (mvT hZ hc) (g := mkF m pc L S) rfl (hb hby hd) _ a1, b1⟩
theorem w_iinc (X : Wk p l e R s m args below meth c Z n0 y code ml ret T cells slots h) {k : Nat} {d : Int} {v v' : Int32} {L' : Array Slot} (hd : decode code pc = .ok (.iinc k d, 3)) (hp : pc + 3 = pc') (hl : L[k]? = some (.val (.int v))) (hv : v + Int32.ofInt d = v') (hl' : storeLocals L k (.int v') = some L') (g : Goes p e below K T m pc' L' S) : Goes p e below K T m pc L S := by
  obtain ⟨hx, -, hby, -, -, -, -, -, -, locs, X, -, -⟩ := X
  subst hp hv
  obtain ⟨u1, a1, b1⟩ := g
  exact ⟨u1, XS.iinc (g := mkF m pc L S) X.here hx rfl (hb hby hd) hl hl' a1, b1⟩
theorem w_goto (X : Wk p l e R s m args below meth c Z n0 y code ml ret T cells slots h) {o : Int} (hd : decode code pc = .ok (.goto o, 3)) (ho : 0 ≤ (pc : Int) + o) (hp : ((pc : Int) + o).toNat = pc') (g : Goes p e below K T m pc' L S) : Goes p e below K T m pc L S := by
  obtain ⟨hx, -, hby, -, -, -, -, -, -, locs, X, -, -⟩ := X
  obtain ⟨u1, a1, b1⟩ := g
  exact ⟨u1, XS.goto (g := mkF m pc L S) X.here hx rfl (pc0 := pc) rfl (hb hby hd) ho hp a1, b1⟩
theorem w_dup (X : Wk p l e R s m args below meth c Z n0 y code ml ret T cells slots h) {v : Value} (hd : decode code pc = .ok (.dup, 1)) (hp : pc + 1 = pc') (hv : v.category = 1) (g : Goes p e below K T m pc' L (v :: v :: S)) : Goes p e below K T m pc L (v :: S) := by
  obtain ⟨hx, -, hby, -, -, -, -, -, -, locs, X, -, -⟩ := X
  subst hp
  obtain ⟨u1, a1, b1⟩ := g
  exact ⟨u1, XS.dup (g := mkF m pc L (v :: S)) X.here hx rfl (hb hby hd) rfl hv a1, b1⟩
theorem w_dup2 (X : Wk p l e R s m args below meth c Z n0 y code ml ret T cells slots h) {v w : Value} (hd : decode code pc = .ok (.dup2, 1)) (hp : pc + 1 = pc') (hv : v.category = 1) (hw : w.category = 1) (g : Goes p e below K T m pc' L (v :: w :: v :: w :: S)) : Goes p e below K T m pc L (v :: w :: S) := by
  obtain ⟨hx, -, hby, -, -, -, -, -, -, locs, X, -, -⟩ := X
  subst hp
  obtain ⟨u1, a1, b1⟩ := g
  exact ⟨u1, Jvm.Free.XT.dup2 (g := mkF m pc L (v :: w :: S)) X.here hx rfl (hb hby hd) rfl hv hw a1, b1⟩
theorem w_pop (X : Wk p l e R s m args below meth c Z n0 y code ml ret T cells slots h) {v : Value} (hd : decode code pc = .ok (.pop, 1)) (hp : pc + 1 = pc') (hv : v.category = 1) (g : Goes p e below K T m pc' L S) : Goes p e below K T m pc L (v :: S) := by
  obtain ⟨hx, -, hby, -, -, -, -, -, -, locs, X, -, -⟩ := X
  subst hp
  obtain ⟨u1, a1, b1⟩ := g
  exact ⟨u1, XS.pop (g := mkF m pc L (v :: S)) X.here hx rfl (hb hby hd) rfl hv a1, b1⟩
theorem w_dupX1 (X : Wk p l e R s m args below meth c Z n0 y code ml ret T cells slots h) {v w : Value} (hd : decode code pc = .ok (.dup_x1, 1)) (hp : pc + 1 = pc') (hv : v.category = 1) (hw : w.category = 1) (g : Goes p e below K T m pc' L (v :: w :: v :: S)) : Goes p e below K T m pc L (v :: w :: S) := by
  obtain ⟨hx, -, hby, -, -, -, -, -, -, locs, X, -, -⟩ := X
  subst hp
  obtain ⟨u1, a1, b1⟩ := g
  exact ⟨u1, XS.dupX1 (g := mkF m pc L (v :: w :: S)) X.here hx rfl (hb hby hd) rfl hv hw a1, b1⟩
theorem w_null (X : Wk p l e R s m args below meth c Z n0 y code ml ret T cells slots h) (hd : decode code pc = .ok (.aconst_null, 1)) (hp : pc + 1 = pc') (g : Goes p e below K T m pc' L (.null :: S)) : Goes p e below K T m pc L S := by
  obtain ⟨hx, -, hby, -, -, -, -, -, -, locs, X, -, -⟩ := X
  subst hp
  obtain ⟨u1, a1, b1⟩ := g
  exact ⟨u1, XS.aconstNull (g := mkF m pc L S) X.here hx rfl (hb hby hd) a1, b1⟩
theorem w_ifnullYes (X : Wk p l e R s m args below meth c Z n0 y code ml ret T cells slots h) {o : Int} (hd : decode code pc = .ok (.ifnull o, 3)) (ho : 0 ≤ (pc : Int) + o) (hp : ((pc : Int) + o).toNat = pc') (g : Goes p e below K T m pc' L S) : Goes p e below K T m pc L (.null :: S) := by
  obtain ⟨hx, -, hby, -, -, -, -, -, -, locs, X, -, -⟩ := X
  obtain ⟨u1, a1, b1⟩ := g
  exact ⟨u1, XS.ifnullYes (g := mkF m pc L (.null :: S)) X.here hx rfl (pc0 := pc) rfl (hb hby hd) rfl ho hp a1, b1⟩
theorem w_ifnullNo (X : Wk p l e R s m args below meth c Z n0 y code ml ret T cells slots h) {o : Int} {a : Addr} (hd : decode code pc = .ok (.ifnull o, 3)) (hp : pc + 3 = pc') (g : Goes p e below K T m pc' L S) : Goes p e below K T m pc L (.ref a :: S) := by
  obtain ⟨hx, -, hby, -, -, -, -, -, -, locs, X, -, -⟩ := X
  subst hp
  obtain ⟨u1, a1, b1⟩ := g
  exact ⟨u1, XS.ifnullNo (g := mkF m pc L (.ref a :: S)) X.here hx rfl (hb hby hd) rfl a1, b1⟩
theorem w_ifnonnullYes (X : Wk p l e R s m args below meth c Z n0 y code ml ret T cells slots h) {o : Int} {a : Addr} (hd : decode code pc = .ok (.ifnonnull o, 3)) (ho : 0 ≤ (pc : Int) + o) (hp : ((pc : Int) + o).toNat = pc') (g : Goes p e below K T m pc' L S) : Goes p e below K T m pc L (.ref a :: S) := by
  obtain ⟨hx, -, hby, -, -, -, -, -, -, locs, X, -, -⟩ := X
  obtain ⟨u1, a1, b1⟩ := g
  exact ⟨u1, XS.ifnonnullYes (g := mkF m pc L (.ref a :: S)) X.here hx rfl (pc0 := pc) rfl (hb hby hd) rfl ho hp a1, b1⟩
theorem w_ifnonnullNo (X : Wk p l e R s m args below meth c Z n0 y code ml ret T cells slots h) {o : Int} (hd : decode code pc = .ok (.ifnonnull o, 3)) (hp : pc + 3 = pc') (g : Goes p e below K T m pc' L S) : Goes p e below K T m pc L (.null :: S) := by
  obtain ⟨hx, -, hby, -, -, -, -, -, -, locs, X, -, -⟩ := X
  subst hp
  obtain ⟨u1, a1, b1⟩ := g
  exact ⟨u1, XS.ifnonnullNo (g := mkF m pc L (.null :: S)) X.here hx rfl (hb hby hd) rfl a1, b1⟩
theorem w_iadd (X : Wk p l e R s m args below meth c Z n0 y code ml ret T cells slots h) {a b : Int32} (hd : decode code pc = .ok (.iadd, 1)) (hp : pc + 1 = pc') (g : Goes p e below K T m pc' L (.int (a + b) :: S)) : Goes p e below K T m pc L (.int b :: .int a :: S) := by
  obtain ⟨hx, -, hby, -, -, -, -, -, -, locs, X, -, -⟩ := X
  subst hp
  obtain ⟨u1, a1, b1⟩ := g
  exact ⟨u1, XS.iadd (g := mkF m pc L (.int b :: .int a :: S)) X.here hx rfl (hb hby hd) rfl a1, b1⟩
theorem w_ladd (X : Wk p l e R s m args below meth c Z n0 y code ml ret T cells slots h) {a b : Int64} (hd : decode code pc = .ok (.ladd, 1)) (hp : pc + 1 = pc') (g : Goes p e below K T m pc' L (.long (a + b) :: S)) : Goes p e below K T m pc L (.long b :: .long a :: S) := by
  obtain ⟨hx, -, hby, -, -, -, -, -, -, locs, X, -, -⟩ := X
  subst hp
  obtain ⟨u1, a1, b1⟩ := g
  exact ⟨u1, XS.ladd (g := mkF m pc L (.long b :: .long a :: S)) X.here hx rfl (hb hby hd) rfl a1, b1⟩
theorem w_isub (X : Wk p l e R s m args below meth c Z n0 y code ml ret T cells slots h) {a b : Int32} (hd : decode code pc = .ok (.isub, 1)) (hp : pc + 1 = pc') (g : Goes p e below K T m pc' L (.int (a - b) :: S)) : Goes p e below K T m pc L (.int b :: .int a :: S) := by
  obtain ⟨hx, -, hby, -, -, -, -, -, -, locs, X, -, -⟩ := X
  subst hp
  obtain ⟨u1, a1, b1⟩ := g
  exact ⟨u1, XS.isub (g := mkF m pc L (.int b :: .int a :: S)) X.here hx rfl (hb hby hd) rfl a1, b1⟩
theorem w_lsub (X : Wk p l e R s m args below meth c Z n0 y code ml ret T cells slots h) {a b : Int64} (hd : decode code pc = .ok (.lsub, 1)) (hp : pc + 1 = pc') (g : Goes p e below K T m pc' L (.long (a - b) :: S)) : Goes p e below K T m pc L (.long b :: .long a :: S) := by
  obtain ⟨hx, -, hby, -, -, -, -, -, -, locs, X, -, -⟩ := X
  subst hp
  obtain ⟨u1, a1, b1⟩ := g
  exact ⟨u1, XS.lsub (g := mkF m pc L (.long b :: .long a :: S)) X.here hx rfl (hb hby hd) rfl a1, b1⟩
theorem w_imul (X : Wk p l e R s m args below meth c Z n0 y code ml ret T cells slots h) {a b : Int32} (hd : decode code pc = .ok (.imul, 1)) (hp : pc + 1 = pc') (g : Goes p e below K T m pc' L (.int (a * b) :: S)) : Goes p e below K T m pc L (.int b :: .int a :: S) := by
  obtain ⟨hx, -, hby, -, -, -, -, -, -, locs, X, -, -⟩ := X
  subst hp
  obtain ⟨u1, a1, b1⟩ := g
  exact ⟨u1, XS.imul (g := mkF m pc L (.int b :: .int a :: S)) X.here hx rfl (hb hby hd) rfl a1, b1⟩
theorem w_lmul (X : Wk p l e R s m args below meth c Z n0 y code ml ret T cells slots h) {a b : Int64} (hd : decode code pc = .ok (.lmul, 1)) (hp : pc + 1 = pc') (g : Goes p e below K T m pc' L (.long (a * b) :: S)) : Goes p e below K T m pc L (.long b :: .long a :: S) := by
  obtain ⟨hx, -, hby, -, -, -, -, -, -, locs, X, -, -⟩ := X
  subst hp
  obtain ⟨u1, a1, b1⟩ := g
  exact ⟨u1, XS.lmul (g := mkF m pc L (.long b :: .long a :: S)) X.here hx rfl (hb hby hd) rfl a1, b1⟩
theorem w_iand (X : Wk p l e R s m args below meth c Z n0 y code ml ret T cells slots h) {a b : Int32} (hd : decode code pc = .ok (.iand, 1)) (hp : pc + 1 = pc') (g : Goes p e below K T m pc' L (.int (a &&& b) :: S)) : Goes p e below K T m pc L (.int b :: .int a :: S) := by
  obtain ⟨hx, -, hby, -, -, -, -, -, -, locs, X, -, -⟩ := X
  subst hp
  obtain ⟨u1, a1, b1⟩ := g
  exact ⟨u1, XS.iand (g := mkF m pc L (.int b :: .int a :: S)) X.here hx rfl (hb hby hd) rfl a1, b1⟩
theorem w_land (X : Wk p l e R s m args below meth c Z n0 y code ml ret T cells slots h) {a b : Int64} (hd : decode code pc = .ok (.land, 1)) (hp : pc + 1 = pc') (g : Goes p e below K T m pc' L (.long (a &&& b) :: S)) : Goes p e below K T m pc L (.long b :: .long a :: S) := by
  obtain ⟨hx, -, hby, -, -, -, -, -, -, locs, X, -, -⟩ := X
  subst hp
  obtain ⟨u1, a1, b1⟩ := g
  exact ⟨u1, XS.land (g := mkF m pc L (.long b :: .long a :: S)) X.here hx rfl (hb hby hd) rfl a1, b1⟩
theorem w_ior (X : Wk p l e R s m args below meth c Z n0 y code ml ret T cells slots h) {a b : Int32} (hd : decode code pc = .ok (.ior, 1)) (hp : pc + 1 = pc') (g : Goes p e below K T m pc' L (.int (a ||| b) :: S)) : Goes p e below K T m pc L (.int b :: .int a :: S) := by
  obtain ⟨hx, -, hby, -, -, -, -, -, -, locs, X, -, -⟩ := X
  subst hp
  obtain ⟨u1, a1, b1⟩ := g
  exact ⟨u1, XS.ior (g := mkF m pc L (.int b :: .int a :: S)) X.here hx rfl (hb hby hd) rfl a1, b1⟩
theorem w_lor (X : Wk p l e R s m args below meth c Z n0 y code ml ret T cells slots h) {a b : Int64} (hd : decode code pc = .ok (.lor, 1)) (hp : pc + 1 = pc') (g : Goes p e below K T m pc' L (.long (a ||| b) :: S)) : Goes p e below K T m pc L (.long b :: .long a :: S) := by
  obtain ⟨hx, -, hby, -, -, -, -, -, -, locs, X, -, -⟩ := X
  subst hp
  obtain ⟨u1, a1, b1⟩ := g
  exact ⟨u1, XS.lor (g := mkF m pc L (.long b :: .long a :: S)) X.here hx rfl (hb hby hd) rfl a1, b1⟩
theorem w_ixor (X : Wk p l e R s m args below meth c Z n0 y code ml ret T cells slots h) {a b : Int32} (hd : decode code pc = .ok (.ixor, 1)) (hp : pc + 1 = pc') (g : Goes p e below K T m pc' L (.int (a ^^^ b) :: S)) : Goes p e below K T m pc L (.int b :: .int a :: S) := by
  obtain ⟨hx, -, hby, -, -, -, -, -, -, locs, X, -, -⟩ := X
  subst hp
  obtain ⟨u1, a1, b1⟩ := g
  exact ⟨u1, XS.ixor (g := mkF m pc L (.int b :: .int a :: S)) X.here hx rfl (hb hby hd) rfl a1, b1⟩
theorem w_lxor (X : Wk p l e R s m args below meth c Z n0 y code ml ret T cells slots h) {a b : Int64} (hd : decode code pc = .ok (.lxor, 1)) (hp : pc + 1 = pc') (g : Goes p e below K T m pc' L (.long (a ^^^ b) :: S)) : Goes p e below K T m pc L (.long b :: .long a :: S) := by
  obtain ⟨hx, -, hby, -, -, -, -, -, -, locs, X, -, -⟩ := X
  subst hp
  obtain ⟨u1, a1, b1⟩ := g
  exact ⟨u1, XS.lxor (g := mkF m pc L (.long b :: .long a :: S)) X.here hx rfl (hb hby hd) rfl a1, b1⟩
theorem w_ishl (X : Wk p l e R s m args below meth c Z n0 y code ml ret T cells slots h) {a b : Int32} (hd : decode code pc = .ok (.ishl, 1)) (hp : pc + 1 = pc') (g : Goes p e below K T m pc' L (.int (a <<< (b &&& 31)) :: S)) : Goes p e below K T m pc L (.int b :: .int a :: S) := by
  obtain ⟨hx, -, hby, -, -, -, -, -, -, locs, X, -, -⟩ := X
  subst hp
  obtain ⟨u1, a1, b1⟩ := g
  exact ⟨u1, XS.ishl (g := mkF m pc L (.int b :: .int a :: S)) X.here hx rfl (hb hby hd) rfl a1, b1⟩
theorem w_ishr (X : Wk p l e R s m args below meth c Z n0 y code ml ret T cells slots h) {a b : Int32} (hd : decode code pc = .ok (.ishr, 1)) (hp : pc + 1 = pc') (g : Goes p e below K T m pc' L (.int (a >>> (b &&& 31)) :: S)) : Goes p e below K T m pc L (.int b :: .int a :: S) := by
  obtain ⟨hx, -, hby, -, -, -, -, -, -, locs, X, -, -⟩ := X
  subst hp
  obtain ⟨u1, a1, b1⟩ := g
  exact ⟨u1, XS.ishr (g := mkF m pc L (.int b :: .int a :: S)) X.here hx rfl (hb hby hd) rfl a1, b1⟩
theorem w_iushr (X : Wk p l e R s m args below meth c Z n0 y code ml ret T cells slots h) {a b : Int32} (hd : decode code pc = .ok (.iushr, 1)) (hp : pc + 1 = pc') (g : Goes p e below K T m pc' L (.int (ush a b) :: S)) : Goes p e below K T m pc L (.int b :: .int a :: S) := by
  obtain ⟨hx, -, hby, -, -, -, -, -, -, locs, X, -, -⟩ := X
  subst hp
  obtain ⟨u1, a1, b1⟩ := g
  exact ⟨u1, XS.iushr (g := mkF m pc L (.int b :: .int a :: S)) X.here hx rfl (hb hby hd) rfl a1, b1⟩
theorem w_lshl (X : Wk p l e R s m args below meth c Z n0 y code ml ret T cells slots h) {a : Int64} {b : Int32} (hd : decode code pc = .ok (.lshl, 1)) (hp : pc + 1 = pc') (g : Goes p e below K T m pc' L (.long (a <<< (b &&& 0x3f).toInt64) :: S)) : Goes p e below K T m pc L (.int b :: .long a :: S) := by
  obtain ⟨hx, -, hby, -, -, -, -, -, -, locs, X, -, -⟩ := X
  subst hp
  obtain ⟨u1, a1, b1⟩ := g
  exact ⟨u1, XS.lshl (g := mkF m pc L (.int b :: .long a :: S)) X.here hx rfl (hb hby hd) rfl a1, b1⟩
theorem w_lshr (X : Wk p l e R s m args below meth c Z n0 y code ml ret T cells slots h) {a : Int64} {b : Int32} (hd : decode code pc = .ok (.lshr, 1)) (hp : pc + 1 = pc') (g : Goes p e below K T m pc' L (.long (a >>> (b &&& 0x3f).toInt64) :: S)) : Goes p e below K T m pc L (.int b :: .long a :: S) := by
  obtain ⟨hx, -, hby, -, -, -, -, -, -, locs, X, -, -⟩ := X
  subst hp
  obtain ⟨u1, a1, b1⟩ := g
  exact ⟨u1, XS.lshr (g := mkF m pc L (.int b :: .long a :: S)) X.here hx rfl (hb hby hd) rfl a1, b1⟩
theorem w_lushr (X : Wk p l e R s m args below meth c Z n0 y code ml ret T cells slots h) {a : Int64} {b : Int32} (hd : decode code pc = .ok (.lushr, 1)) (hp : pc + 1 = pc') (g : Goes p e below K T m pc' L (.long (ushL a b) :: S)) : Goes p e below K T m pc L (.int b :: .long a :: S) := by
  obtain ⟨hx, -, hby, -, -, -, -, -, -, locs, X, -, -⟩ := X
  subst hp
  obtain ⟨u1, a1, b1⟩ := g
  exact ⟨u1, XS.lushr (g := mkF m pc L (.int b :: .long a :: S)) X.here hx rfl (hb hby hd) rfl a1, b1⟩
theorem w_ineg (X : Wk p l e R s m args below meth c Z n0 y code ml ret T cells slots h) {a : Int32} (hd : decode code pc = .ok (.ineg, 1)) (hp : pc + 1 = pc') (g : Goes p e below K T m pc' L (.int (-a) :: S)) : Goes p e below K T m pc L (.int a :: S) := by
  obtain ⟨hx, -, hby, -, -, -, -, -, -, locs, X, -, -⟩ := X
  subst hp
  obtain ⟨u1, a1, b1⟩ := g
  exact ⟨u1, XS.ineg (g := mkF m pc L (.int a :: S)) X.here hx rfl (hb hby hd) rfl a1, b1⟩
theorem w_lneg (X : Wk p l e R s m args below meth c Z n0 y code ml ret T cells slots h) {a : Int64} (hd : decode code pc = .ok (.lneg, 1)) (hp : pc + 1 = pc') (g : Goes p e below K T m pc' L (.long (-a) :: S)) : Goes p e below K T m pc L (.long a :: S) := by
  obtain ⟨hx, -, hby, -, -, -, -, -, -, locs, X, -, -⟩ := X
  subst hp
  obtain ⟨u1, a1, b1⟩ := g
  exact ⟨u1, XS.lneg (g := mkF m pc L (.long a :: S)) X.here hx rfl (hb hby hd) rfl a1, b1⟩
theorem w_i2l (X : Wk p l e R s m args below meth c Z n0 y code ml ret T cells slots h) {a : Int32} (hd : decode code pc = .ok (.i2l, 1)) (hp : pc + 1 = pc') (g : Goes p e below K T m pc' L (.long a.toInt64 :: S)) : Goes p e below K T m pc L (.int a :: S) := by
  obtain ⟨hx, -, hby, -, -, -, -, -, -, locs, X, -, -⟩ := X
  subst hp
  obtain ⟨u1, a1, b1⟩ := g
  exact ⟨u1, XS.i2l (g := mkF m pc L (.int a :: S)) X.here hx rfl (hb hby hd) rfl a1, b1⟩
theorem w_l2i (X : Wk p l e R s m args below meth c Z n0 y code ml ret T cells slots h) {a : Int64} (hd : decode code pc = .ok (.l2i, 1)) (hp : pc + 1 = pc') (g : Goes p e below K T m pc' L (.int a.toInt32 :: S)) : Goes p e below K T m pc L (.long a :: S) := by
  obtain ⟨hx, -, hby, -, -, -, -, -, -, locs, X, -, -⟩ := X
  subst hp
  obtain ⟨u1, a1, b1⟩ := g
  exact ⟨u1, XS.l2i (g := mkF m pc L (.long a :: S)) X.here hx rfl (hb hby hd) rfl a1, b1⟩
theorem w_i2b (X : Wk p l e R s m args below meth c Z n0 y code ml ret T cells slots h) {a : Int32} (hd : decode code pc = .ok (.i2b, 1)) (hp : pc + 1 = pc') (g : Goes p e below K T m pc' L (.int a.toInt8.toInt32 :: S)) : Goes p e below K T m pc L (.int a :: S) := by
  obtain ⟨hx, -, hby, -, -, -, -, -, -, locs, X, -, -⟩ := X
  subst hp
  obtain ⟨u1, a1, b1⟩ := g
  exact ⟨u1, XS.i2b (g := mkF m pc L (.int a :: S)) X.here hx rfl (hb hby hd) rfl a1, b1⟩
theorem w_i2s (X : Wk p l e R s m args below meth c Z n0 y code ml ret T cells slots h) {a : Int32} (hd : decode code pc = .ok (.i2s, 1)) (hp : pc + 1 = pc') (g : Goes p e below K T m pc' L (.int a.toInt16.toInt32 :: S)) : Goes p e below K T m pc L (.int a :: S) := by
  obtain ⟨hx, -, hby, -, -, -, -, -, -, locs, X, -, -⟩ := X
  subst hp
  obtain ⟨u1, a1, b1⟩ := g
  exact ⟨u1, XS.i2s (g := mkF m pc L (.int a :: S)) X.here hx rfl (hb hby hd) rfl a1, b1⟩
theorem w_i2c (X : Wk p l e R s m args below meth c Z n0 y code ml ret T cells slots h) {a : Int32} (hd : decode code pc = .ok (.i2c, 1)) (hp : pc + 1 = pc') (g : Goes p e below K T m pc' L (.int a.toUInt32.toUInt16.toUInt32.toInt32 :: S)) : Goes p e below K T m pc L (.int a :: S) := by
  obtain ⟨hx, -, hby, -, -, -, -, -, -, locs, X, -, -⟩ := X
  subst hp
  obtain ⟨u1, a1, b1⟩ := g
  exact ⟨u1, XS.i2c (g := mkF m pc L (.int a :: S)) X.here hx rfl (hb hby hd) rfl a1, b1⟩
theorem w_idiv (X : Wk p l e R s m args below meth c Z n0 y code ml ret T cells slots h) {a b : Int32} (hd : decode code pc = .ok (.idiv, 1)) (hp : pc + 1 = pc') (hb0 : b ≠ 0) (g : Goes p e below K T m pc' L (.int (a / b) :: S)) : Goes p e below K T m pc L (.int b :: .int a :: S) := by
  obtain ⟨hx, -, hby, -, -, -, -, -, -, locs, X, -, -⟩ := X
  subst hp
  obtain ⟨u1, a1, b1⟩ := g
  exact ⟨u1, XS.idiv (g := mkF m pc L (.int b :: .int a :: S)) X.here hx rfl (hb hby hd) rfl hb0 a1, b1⟩
theorem w_irem (X : Wk p l e R s m args below meth c Z n0 y code ml ret T cells slots h) {a b : Int32} (hd : decode code pc = .ok (.irem, 1)) (hp : pc + 1 = pc') (hb0 : b ≠ 0) (g : Goes p e below K T m pc' L (.int (a % b) :: S)) : Goes p e below K T m pc L (.int b :: .int a :: S) := by
  obtain ⟨hx, -, hby, -, -, -, -, -, -, locs, X, -, -⟩ := X
  subst hp
  obtain ⟨u1, a1, b1⟩ := g
  exact ⟨u1, Jvm.RoadKit.iremM (g := mkF m pc L (.int b :: .int a :: S)) X hx rfl (hb hby hd) rfl hb0 a1, b1⟩
theorem w_ldiv (X : Wk p l e R s m args below meth c Z n0 y code ml ret T cells slots h) {a b : Int64} (hd : decode code pc = .ok (.ldiv, 1)) (hp : pc + 1 = pc') (hb0 : b ≠ 0) (g : Goes p e below K T m pc' L (.long (a / b) :: S)) : Goes p e below K T m pc L (.long b :: .long a :: S) := by
  obtain ⟨hx, -, hby, -, -, -, -, -, -, locs, X, -, -⟩ := X
  subst hp
  obtain ⟨u1, a1, b1⟩ := g
  exact ⟨u1, XS.ldiv (g := mkF m pc L (.long b :: .long a :: S)) X.here hx rfl (hb hby hd) rfl hb0 a1, b1⟩
theorem w_lrem (X : Wk p l e R s m args below meth c Z n0 y code ml ret T cells slots h) {a b : Int64} (hd : decode code pc = .ok (.lrem, 1)) (hp : pc + 1 = pc') (hb0 : b ≠ 0) (g : Goes p e below K T m pc' L (.long (a % b) :: S)) : Goes p e below K T m pc L (.long b :: .long a :: S) := by
  obtain ⟨hx, -, hby, -, -, -, -, -, -, locs, X, -, -⟩ := X
  subst hp
  rw [← lrem_mod] at g
  obtain ⟨u1, a1, b1⟩ := g
  exact ⟨u1, XS.lrem (g := mkF m pc L (.long b :: .long a :: S)) X.here hx rfl (hb hby hd) rfl hb0 a1, b1⟩
theorem w_lcmp (X : Wk p l e R s m args below meth c Z n0 y code ml ret T cells slots h) {a b : Int64} (hd : decode code pc = .ok (.lcmp, 1)) (hp : pc + 1 = pc') (g : Goes p e below K T m pc' L (.int (lcmpW a b) :: S)) : Goes p e below K T m pc L (.long b :: .long a :: S) := by
  obtain ⟨hx, -, hby, -, -, -, -, -, -, locs, X, -, -⟩ := X
  subst hp
  obtain ⟨u1, a1, b1⟩ := g
  exact ⟨u1, XS.lcmp (g := mkF m pc L (.long b :: .long a :: S)) X.here hx rfl (hb hby hd) rfl a1, b1⟩
theorem w_icmp_lt (X : Wk p l e R s m args below meth c Z n0 y code ml ret T cells slots h) {a b : Int32} {o : Int} {pcT pcF : Nat} (hd : decode code pc = .ok (.if_icmp .lt o, 3)) (ho : 0 ≤ (pc : Int) + o) (hT : ((pc : Int) + o).toNat = pcT) (hF : pc + 3 = pcF) (gT : a < b → Goes p e below K T m pcT L S) (gF : ¬ a < b → Goes p e below K T m pcF L S) : Goes p e below K T m pc L (.int b :: .int a :: S) := by
  obtain ⟨hx, -, hby, -, -, -, -, -, -, locs, X, -, -⟩ := X
  subst hF
  by_cases q : a < b
  · obtain ⟨u1, a1, b1⟩ := (gT q)
    exact ⟨u1, XS.icmpYes (g := mkF m pc L (.int b :: .int a :: S)) X.here hx rfl (pc0 := pc) rfl (hb hby hd) rfl (tlt q).1 ho hT a1, b1⟩
  · obtain ⟨u1, a1, b1⟩ := (gF q)
    exact ⟨u1, XS.icmpNo (g := mkF m pc L (.int b :: .int a :: S)) X.here hx rfl (hb hby hd) rfl (flt q).1 a1, b1⟩
theorem w_if_lt (X : Wk p l e R s m args below meth c Z n0 y code ml ret T cells slots h) {a : Int32} {o : Int} {pcT pcF : Nat} (hd : decode code pc = .ok (.ifCond .lt o, 3)) (ho : 0 ≤ (pc : Int) + o) (hT : ((pc : Int) + o).toNat = pcT) (hF : pc + 3 = pcF) (gT : a < 0 → Goes p e below K T m pcT L S) (gF : ¬ a < 0 → Goes p e below K T m pcF L S) : Goes p e below K T m pc L (.int a :: S) := by
  obtain ⟨hx, -, hby, -, -, -, -, -, -, locs, X, -, -⟩ := X
  subst hF
  by_cases q : a < 0
  · obtain ⟨u1, a1, b1⟩ := (gT q)
    exact ⟨u1, XS.ifYes (g := mkF m pc L (.int a :: S)) X.here hx rfl (pc0 := pc) rfl (hb hby hd) rfl ((if0 _ _).trans (tlt q).1) ho hT a1, b1⟩
  · obtain ⟨u1, a1, b1⟩ := (gF q)
    exact ⟨u1, XS.ifNo (g := mkF m pc L (.int a :: S)) X.here hx rfl (hb hby hd) rfl ((if0 _ _).trans (flt q).1) a1, b1⟩
theorem w_lcmp_lt (X : Wk p l e R s m args below meth c Z n0 y code ml ret T cells slots h) {a b : Int64} {o : Int} {pcI pcT pcF : Nat} (hd0 : decode code pc = .ok (.lcmp, 1)) (hp : pc + 1 = pcI) (hd : decode code pcI = .ok (.ifCond .lt o, 3)) (ho : 0 ≤ (pcI : Int) + o) (hT : ((pcI : Int) + o).toNat = pcT) (hF : pcI + 3 = pcF) (gT : a < b → Goes p e below K T m pcT L S) (gF : ¬ a < b → Goes p e below K T m pcF L S) : Goes p e below K T m pc L (.long b :: .long a :: S) :=
  w_lcmp X hd0 hp (w_if_lt X hd ho hT hF (fun q => gT ((lw_lt a b).mp q)) (fun q => gF (fun r => q ((lw_lt a b).mpr r))))
theorem w_icmp_ge (X : Wk p l e R s m args below meth c Z n0 y code ml ret T cells slots h) {a b : Int32} {o : Int} {pcT pcF : Nat} (hd : decode code pc = .ok (.if_icmp .ge o, 3)) (ho : 0 ≤ (pc : Int) + o) (hT : ((pc : Int) + o).toNat = pcT) (hF : pc + 3 = pcF) (gT : ¬ a < b → Goes p e below K T m pcT L S) (gF : a < b → Goes p e below K T m pcF L S) : Goes p e below K T m pc L (.int b :: .int a :: S) := by
  obtain ⟨hx, -, hby, -, -, -, -, -, -, locs, X, -, -⟩ := X
  subst hF
  by_cases q : ¬ a < b
  · obtain ⟨u1, a1, b1⟩ := (gT q)
    exact ⟨u1, XS.icmpYes (g := mkF m pc L (.int b :: .int a :: S)) X.here hx rfl (pc0 := pc) rfl (hb hby hd) rfl (flt q).2.1 ho hT a1, b1⟩
  · obtain ⟨u1, a1, b1⟩ := (gF (Classical.not_not.mp q))
    exact ⟨u1, XS.icmpNo (g := mkF m pc L (.int b :: .int a :: S)) X.here hx rfl (hb hby hd) rfl (tlt (Classical.not_not.mp q)).2.1 a1, b1⟩
theorem w_if_ge (X : Wk p l e R s m args below meth c Z n0 y code ml ret T cells slots h) {a : Int32} {o : Int} {pcT pcF : Nat} (hd : decode code pc = .ok (.ifCond .ge o, 3)) (ho : 0 ≤ (pc : Int) + o) (hT : ((pc : Int) + o).toNat = pcT) (hF : pc + 3 = pcF) (gT : ¬ a < 0 → Goes p e below K T m pcT L S) (gF : a < 0 → Goes p e below K T m pcF L S) : Goes p e below K T m pc L (.int a :: S) := by
  obtain ⟨hx, -, hby, -, -, -, -, -, -, locs, X, -, -⟩ := X
  subst hF
  by_cases q : ¬ a < 0
  · obtain ⟨u1, a1, b1⟩ := (gT q)
    exact ⟨u1, XS.ifYes (g := mkF m pc L (.int a :: S)) X.here hx rfl (pc0 := pc) rfl (hb hby hd) rfl ((if0 _ _).trans (flt q).2.1) ho hT a1, b1⟩
  · obtain ⟨u1, a1, b1⟩ := (gF (Classical.not_not.mp q))
    exact ⟨u1, XS.ifNo (g := mkF m pc L (.int a :: S)) X.here hx rfl (hb hby hd) rfl ((if0 _ _).trans (tlt (Classical.not_not.mp q)).2.1) a1, b1⟩
theorem w_lcmp_ge (X : Wk p l e R s m args below meth c Z n0 y code ml ret T cells slots h) {a b : Int64} {o : Int} {pcI pcT pcF : Nat} (hd0 : decode code pc = .ok (.lcmp, 1)) (hp : pc + 1 = pcI) (hd : decode code pcI = .ok (.ifCond .ge o, 3)) (ho : 0 ≤ (pcI : Int) + o) (hT : ((pcI : Int) + o).toNat = pcT) (hF : pcI + 3 = pcF) (gT : ¬ a < b → Goes p e below K T m pcT L S) (gF : a < b → Goes p e below K T m pcF L S) : Goes p e below K T m pc L (.long b :: .long a :: S) :=
  w_lcmp X hd0 hp (w_if_ge X hd ho hT hF (fun q => gT (fun r => q ((lw_lt a b).mpr r))) (fun q => gF ((lw_lt a b).mp q)))
theorem w_icmp_gt (X : Wk p l e R s m args below meth c Z n0 y code ml ret T cells slots h) {a b : Int32} {o : Int} {pcT pcF : Nat} (hd : decode code pc = .ok (.if_icmp .gt o, 3)) (ho : 0 ≤ (pc : Int) + o) (hT : ((pc : Int) + o).toNat = pcT) (hF : pc + 3 = pcF) (gT : b < a → Goes p e below K T m pcT L S) (gF : ¬ b < a → Goes p e below K T m pcF L S) : Goes p e below K T m pc L (.int b :: .int a :: S) := by
  obtain ⟨hx, -, hby, -, -, -, -, -, -, locs, X, -, -⟩ := X
  subst hF
  by_cases q : b < a
  · obtain ⟨u1, a1, b1⟩ := (gT q)
    exact ⟨u1, XS.icmpYes (g := mkF m pc L (.int b :: .int a :: S)) X.here hx rfl (pc0 := pc) rfl (hb hby hd) rfl (tlt q).2.2.1 ho hT a1, b1⟩
  · obtain ⟨u1, a1, b1⟩ := (gF q)
    exact ⟨u1, XS.icmpNo (g := mkF m pc L (.int b :: .int a :: S)) X.here hx rfl (hb hby hd) rfl (flt q).2.2.1 a1, b1⟩
theorem w_if_gt (X : Wk p l e R s m args below meth c Z n0 y code ml ret T cells slots h) {a : Int32} {o : Int} {pcT pcF : Nat} (hd : decode code pc = .ok (.ifCond .gt o, 3)) (ho : 0 ≤ (pc : Int) + o) (hT : ((pc : Int) + o).toNat = pcT) (hF : pc + 3 = pcF) (gT : 0 < a → Goes p e below K T m pcT L S) (gF : ¬ 0 < a → Goes p e below K T m pcF L S) : Goes p e below K T m pc L (.int a :: S) := by
  obtain ⟨hx, -, hby, -, -, -, -, -, -, locs, X, -, -⟩ := X
  subst hF
  by_cases q : 0 < a
  · obtain ⟨u1, a1, b1⟩ := (gT q)
    exact ⟨u1, XS.ifYes (g := mkF m pc L (.int a :: S)) X.here hx rfl (pc0 := pc) rfl (hb hby hd) rfl ((if0 _ _).trans (tlt q).2.2.1) ho hT a1, b1⟩
  · obtain ⟨u1, a1, b1⟩ := (gF q)
    exact ⟨u1, XS.ifNo (g := mkF m pc L (.int a :: S)) X.here hx rfl (hb hby hd) rfl ((if0 _ _).trans (flt q).2.2.1) a1, b1⟩
theorem w_lcmp_gt (X : Wk p l e R s m args below meth c Z n0 y code ml ret T cells slots h) {a b : Int64} {o : Int} {pcI pcT pcF : Nat} (hd0 : decode code pc = .ok (.lcmp, 1)) (hp : pc + 1 = pcI) (hd : decode code pcI = .ok (.ifCond .gt o, 3)) (ho : 0 ≤ (pcI : Int) + o) (hT : ((pcI : Int) + o).toNat = pcT) (hF : pcI + 3 = pcF) (gT : b < a → Goes p e below K T m pcT L S) (gF : ¬ b < a → Goes p e below K T m pcF L S) : Goes p e below K T m pc L (.long b :: .long a :: S) :=
  w_lcmp X hd0 hp (w_if_gt X hd ho hT hF (fun q => gT ((lw_gt a b).mp q)) (fun q => gF (fun r => q ((lw_gt a b).mpr r))))
theorem w_icmp_le (X : Wk p l e R s m args below meth c Z n0 y code ml ret T cells slots h) {a b : Int32} {o : Int} {pcT pcF : Nat} (hd : decode code pc = .ok (.if_icmp .le o, 3)) (ho : 0 ≤ (pc : Int) + o) (hT : ((pc : Int) + o).toNat = pcT) (hF : pc + 3 = pcF) (gT : ¬ b < a → Goes p e below K T m pcT L S) (gF : b < a → Goes p e below K T m pcF L S) : Goes p e below K T m pc L (.int b :: .int a :: S) := by
  obtain ⟨hx, -, hby, -, -, -, -, -, -, locs, X, -, -⟩ := X
  subst hF
  by_cases q : ¬ b < a
  · obtain ⟨u1, a1, b1⟩ := (gT q)
    exact ⟨u1, XS.icmpYes (g := mkF m pc L (.int b :: .int a :: S)) X.here hx rfl (pc0 := pc) rfl (hb hby hd) rfl (flt q).2.2.2 ho hT a1, b1⟩
  · obtain ⟨u1, a1, b1⟩ := (gF (Classical.not_not.mp q))
    exact ⟨u1, XS.icmpNo (g := mkF m pc L (.int b :: .int a :: S)) X.here hx rfl (hb hby hd) rfl (tlt (Classical.not_not.mp q)).2.2.2 a1, b1⟩
theorem w_if_le (X : Wk p l e R s m args below meth c Z n0 y code ml ret T cells slots h) {a : Int32} {o : Int} {pcT pcF : Nat} (hd : decode code pc = .ok (.ifCond .le o, 3)) (ho : 0 ≤ (pc : Int) + o) (hT : ((pc : Int) + o).toNat = pcT) (hF : pc + 3 = pcF) (gT : ¬ 0 < a → Goes p e below K T m pcT L S) (gF : 0 < a → Goes p e below K T m pcF L S) : Goes p e below K T m pc L (.int a :: S) := by
  obtain ⟨hx, -, hby, -, -, -, -, -, -, locs, X, -, -⟩ := X
  subst hF
  by_cases q : ¬ 0 < a
  · obtain ⟨u1, a1, b1⟩ := (gT q)
    exact ⟨u1, XS.ifYes (g := mkF m pc L (.int a :: S)) X.here hx rfl (pc0 := pc) rfl (hb hby hd) rfl ((if0 _ _).trans (flt q).2.2.2) ho hT a1, b1⟩
  · obtain ⟨u1, a1, b1⟩ := (gF (Classical.not_not.mp q))
    exact ⟨u1, XS.ifNo (g := mkF m pc L (.int a :: S)) X.here hx rfl (hb hby hd) rfl ((if0 _ _).trans (tlt (Classical.not_not.mp q)).2.2.2) a1, b1⟩
theorem w_lcmp_le (X : Wk p l e R s m args below meth c Z n0 y code ml ret T cells slots h) {a b : Int64} {o : Int} {pcI pcT pcF : Nat} (hd0 : decode code pc = .ok (.lcmp, 1)) (hp : pc + 1 = pcI) (hd : decode code pcI = .ok (.ifCond .le o, 3)) (ho : 0 ≤ (pcI : Int) + o) (hT : ((pcI : Int) + o).toNat = pcT) (hF : pcI + 3 = pcF) (gT : ¬ b < a → Goes p e below K T m pcT L S) (gF : b < a → Goes p e below K T m pcF L S) : Goes p e below K T m pc L (.long b :: .long a :: S) :=
  w_lcmp X hd0 hp (w_if_le X hd ho hT hF (fun q => gT (fun r => q ((lw_gt a b).mpr r))) (fun q => gF ((lw_gt a b).mp q)))
theorem w_icmp_eq (X : Wk p l e R s m args below meth c Z n0 y code ml ret T cells slots h) {a b : Int32} {o : Int} {pcT pcF : Nat} (hd : decode code pc = .ok (.if_icmp .eq o, 3)) (ho : 0 ≤ (pc : Int) + o) (hT : ((pc : Int) + o).toNat = pcT) (hF : pc + 3 = pcF) (gT : a = b → Goes p e below K T m pcT L S) (gF : ¬ a = b → Goes p e below K T m pcF L S) : Goes p e below K T m pc L (.int b :: .int a :: S) := by
  obtain ⟨hx, -, hby, -, -, -, -, -, -, locs, X, -, -⟩ := X
  subst hF
  by_cases q : a = b
  · obtain ⟨u1, a1, b1⟩ := (gT q)
    exact ⟨u1, XS.icmpYes (g := mkF m pc L (.int b :: .int a :: S)) X.here hx rfl (pc0 := pc) rfl (hb hby hd) rfl (teq q).1 ho hT a1, b1⟩
  · obtain ⟨u1, a1, b1⟩ := (gF q)
    exact ⟨u1, XS.icmpNo (g := mkF m pc L (.int b :: .int a :: S)) X.here hx rfl (hb hby hd) rfl (feq q).1 a1, b1⟩
theorem w_if_eq (X : Wk p l e R s m args below meth c Z n0 y code ml ret T cells slots h) {a : Int32} {o : Int} {pcT pcF : Nat} (hd : decode code pc = .ok (.ifCond .eq o, 3)) (ho : 0 ≤ (pc : Int) + o) (hT : ((pc : Int) + o).toNat = pcT) (hF : pc + 3 = pcF) (gT : a = 0 → Goes p e below K T m pcT L S) (gF : ¬ a = 0 → Goes p e below K T m pcF L S) : Goes p e below K T m pc L (.int a :: S) := by
  obtain ⟨hx, -, hby, -, -, -, -, -, -, locs, X, -, -⟩ := X
  subst hF
  by_cases q : a = 0
  · obtain ⟨u1, a1, b1⟩ := (gT q)
    exact ⟨u1, XS.ifYes (g := mkF m pc L (.int a :: S)) X.here hx rfl (pc0 := pc) rfl (hb hby hd) rfl ((if0 _ _).trans (teq q).1) ho hT a1, b1⟩
  · obtain ⟨u1, a1, b1⟩ := (gF q)
    exact ⟨u1, XS.ifNo (g := mkF m pc L (.int a :: S)) X.here hx rfl (hb hby hd) rfl ((if0 _ _).trans (feq q).1) a1, b1⟩
theorem w_lcmp_eq (X : Wk p l e R s m args below meth c Z n0 y code ml ret T cells slots h) {a b : Int64} {o : Int} {pcI pcT pcF : Nat} (hd0 : decode code pc = .ok (.lcmp, 1)) (hp : pc + 1 = pcI) (hd : decode code pcI = .ok (.ifCond .eq o, 3)) (ho : 0 ≤ (pcI : Int) + o) (hT : ((pcI : Int) + o).toNat = pcT) (hF : pcI + 3 = pcF) (gT : a = b → Goes p e below K T m pcT L S) (gF : ¬ a = b → Goes p e below K T m pcF L S) : Goes p e below K T m pc L (.long b :: .long a :: S) :=
  w_lcmp X hd0 hp (w_if_eq X hd ho hT hF (fun q => gT ((lw_eq a b).mp q)) (fun q => gF (fun r => q ((lw_eq a b).mpr r))))
theorem w_icmp_ne (X : Wk p l e R s m args below meth c Z n0 y code ml ret T cells slots h) {a b : Int32} {o : Int} {pcT pcF : Nat} (hd : decode code pc = .ok (.if_icmp .ne o, 3)) (ho : 0 ≤ (pc : Int) + o) (hT : ((pc : Int) + o).toNat = pcT) (hF : pc + 3 = pcF) (gT : ¬ a = b → Goes p e below K T m pcT L S) (gF : a = b → Goes p e below K T m pcF L S) : Goes p e below K T m pc L (.int b :: .int a :: S) := by
  obtain ⟨hx, -, hby, -, -, -, -, -, -, locs, X, -, -⟩ := X
  subst hF
  by_cases q : ¬ a = b
  · obtain ⟨u1, a1, b1⟩ := (gT q)
    exact ⟨u1, XS.icmpYes (g := mkF m pc L (.int b :: .int a :: S)) X.here hx rfl (pc0 := pc) rfl (hb hby hd) rfl (feq q).2 ho hT a1, b1⟩
  · obtain ⟨u1, a1, b1⟩ := (gF (Classical.not_not.mp q))
    exact ⟨u1, XS.icmpNo (g := mkF m pc L (.int b :: .int a :: S)) X.here hx rfl (hb hby hd) rfl (teq (Classical.not_not.mp q)).2 a1, b1⟩
theorem w_if_ne (X : Wk p l e R s m args below meth c Z n0 y code ml ret T cells slots h) {a : Int32} {o : Int} {pcT pcF : Nat} (hd : decode code pc = .ok (.ifCond .ne o, 3)) (ho : 0 ≤ (pc : Int) + o) (hT : ((pc : Int) + o).toNat = pcT) (hF : pc + 3 = pcF) (gT : ¬ a = 0 → Goes p e below K T m pcT L S) (gF : a = 0 → Goes p e below K T m pcF L S) : Goes p e below K T m pc L (.int a :: S) := by
  obtain ⟨hx, -, hby, -, -, -, -, -, -, locs, X, -, -⟩ := X
  subst hF
  by_cases q : ¬ a = 0
  · obtain ⟨u1, a1, b1⟩ := (gT q)
    exact ⟨u1, XS.ifYes (g := mkF m pc L (.int a :: S)) X.here hx rfl (pc0 := pc) rfl (hb hby hd) rfl ((if0 _ _).trans (feq q).2) ho hT a1, b1⟩
  · obtain ⟨u1, a1, b1⟩ := (gF (Classical.not_not.mp q))
    exact ⟨u1, XS.ifNo (g := mkF m pc L (.int a :: S)) X.here hx rfl (hb hby hd) rfl ((if0 _ _).trans (teq (Classical.not_not.mp q)).2) a1, b1⟩
theorem w_lcmp_ne (X : Wk p l e R s m args below meth c Z n0 y code ml ret T cells slots h) {a b : Int64} {o : Int} {pcI pcT pcF : Nat} (hd0 : decode code pc = .ok (.lcmp, 1)) (hp : pc + 1 = pcI) (hd : decode code pcI = .ok (.ifCond .ne o, 3)) (ho : 0 ≤ (pcI : Int) + o) (hT : ((pcI : Int) + o).toNat = pcT) (hF : pcI + 3 = pcF) (gT : ¬ a = b → Goes p e below K T m pcT L S) (gF : a = b → Goes p e below K T m pcF L S) : Goes p e below K T m pc L (.long b :: .long a :: S) :=
  w_lcmp X hd0 hp (w_if_ne X hd ho hT hF (fun q => gT (fun r => q ((lw_eq a b).mpr r))) (fun q => gF ((lw_eq a b).mp q)))
-- returns
theorem w_ireturn (X : Wk p l e R s m args below meth c Z n0 y code ml (some .int) T cells slots h) {w : Option Value} {Q : Heap → Prop} {z : Int32} (hd : decode code pc = .ok (.ireturn, 1)) (hw : w = some (.int z)) (hq : Q h) (hc : cells ≤ R.cells) (hs : slots ≤ R.slots) : Goes p e below (Done below s n0 R w Q) T m pc L (.int z :: S) := by
  obtain ⟨hx, hZ, hby, hml, hown, hnm, hret, hlk, hn, locs, X, eT, N⟩ := X
  obtain ⟨fs, hr, hrun, hended, hW, hsame⟩ := X.leave (v := some (.int z)) (fun h => by rw [hret] at h; cases h) hlk
  exact ⟨_, Jvm.RoadKit.retI X hx hret (hb hby hd) hr, _, hrun, hended, _, locs, rfl, ⟨hw.symm, (by show Q T.heap; rw [eT]; exact hq), N, (by show n0 ≤ T.heap.size; rw [eT]; exact hn)⟩, ⟨_, rfl⟩, hW, hsame.mono hc hs⟩
theorem w_nreturn {t : FieldType} (X : Wk p l e R s m args below meth c Z n0 y code ml (some t) T cells slots h) {w : Option Value} {Q : Heap → Prop} {z : Int32} (ht : t = .boolean ∨ t = .byte ∨ t = .char ∨ t = .short) (hd : decode code pc = .ok (.ireturn, 1)) (hw : w = some (.int (nar t z))) (hq : Q h) (hc : cells ≤ R.cells) (hs : slots ≤ R.slots) : Goes p e below (Done below s n0 R w Q) T m pc L (.int z :: S) := by
  obtain ⟨hx, hZ, hby, hml, hown, hnm, hret, hlk, hn, locs, X, eT, N⟩ := X
  obtain ⟨fs, hr, hrun, hended, hW, hsame⟩ := X.leave (v := some (.int (nar t z))) (fun h => by rw [hret] at h; cases h) hlk
  exact ⟨_, retN X hx hret ht (hb hby hd) hr, _, hrun, hended, _, locs, rfl, ⟨hw.symm, (by show Q T.heap; rw [eT]; exact hq), N, (by show n0 ≤ T.heap.size; rw [eT]; exact hn)⟩, ⟨_, rfl⟩, hW, hsame.mono hc hs⟩
theorem w_lreturn (X : Wk p l e R s m args below meth c Z n0 y code ml (some .long) T cells slots h) {w : Option Value} {Q : Heap → Prop} {z : Int64} (hd : decode code pc = .ok (.lreturn, 1)) (hw : w = some (.long z)) (hq : Q h) (hc : cells ≤ R.cells) (hs : slots ≤ R.slots) : Goes p e below (Done below s n0 R w Q) T m pc L [.long z] := by
  obtain ⟨hx, hZ, hby, hml, hown, hnm, hret, hlk, hn, locs, X, eT, N⟩ := X
  obtain ⟨fs, hr, hrun, hended, hW, hsame⟩ := X.leave (v := some (.long z)) (fun h => by rw [hret] at h; cases h) hlk
  exact ⟨_, X.lreturnOut hx hret (hb hby hd) hr, _, hrun, hended, _, locs, rfl, ⟨hw.symm, (by show Q T.heap; rw [eT]; exact hq), N, (by show n0 ≤ T.heap.size; rw [eT]; exact hn)⟩, ⟨_, rfl⟩, hW, hsame.mono hc hs⟩
theorem w_return (X : Wk p l e R s m args below meth c Z n0 y code ml none T cells slots h) {w : Option Value} {Q : Heap → Prop} (hd : decode code pc = .ok (.return_, 1)) (hw : w = none) (hq : Q h) (hc : cells ≤ R.cells) (hs : slots ≤ R.slots) : Goes p e below (Done below s n0 R w Q) T m pc L [] := by
  obtain ⟨hx, hZ, hby, hml, hown, hnm, hret, hlk, hn, locs, X, eT, N⟩ := X
  obtain ⟨fs, hr, hrun, hended, hW, hsame⟩ := X.leave (v := none) (fun _ => rfl) hlk
  exact ⟨_, X.returnOut hx hret (hb hby hd) hr, _, hrun, hended, _, locs, rfl, ⟨hw.symm, (by show Q T.heap; rw [eT]; exact hq), N, (by show n0 ≤ T.heap.size; rw [eT]; exact hn)⟩, ⟨_, rfl⟩, hW, hsame.mono hc hs⟩
-- calls
theorem w_static (X : Wk p l e R s m args below meth c Z n0 y code ml ret T cells slots h) {idx : Nat} {y' : MethodName} {bytes : ByteArray} {maxL : Nat} {ret' : Option FieldType} {R' : Room} {w' : Option Value} {Q' : Heap → Prop} {argsL rest : List Value} {W : Nat}
    (hM : Con l Z y' bytes maxL ret' R' argsL.toArray h n0 w' Q') (w1 : (Jvm.Cond.methodLink y.cls idx y').before a0 Z = true) (w2 : (Jvm.Cond.static y').before a0 Z = true) (w3 : (Jvm.Cond.initialized y'.cls).before a0 Z = true) (w4 : (Jvm.Cond.code y' bytes maxL ret').before a0 Z = true)
    (hy : y'.cls ≠ "java/lang/invoke/MethodHandle" ∧ y'.cls ≠ "java/lang/invoke/VarHandle") (hst : S = argsL.reverse ++ rest) (hlen : ∀ sig, parseMethodDescriptor y'.desc = some sig → argsL.length = sig.parameters.length) (hsz : L.size = ml) (hW : (rest.map fun v => v.category).sum = W) (hf : R'.frames + 1 ≤ R.frames) (hl : W + (maxL + 11) + R'.locals ≤ R.locals)
    (hc : cells + R'.cells ≤ R.cells) (hs : slots + R'.slots ≤ R.slots) (hd : decode code pc = .ok (.invokestatic idx, 3)) (hp : pc + 3 = pc')
    (g : ∀ T' h', Wk p l e R s m args below meth c Z n0 y code ml ret T' (cells + R'.cells) (slots + R'.slots) h' → Q' h' → Goes p e below K T' m pc' L (w'.toList ++ rest)) : Goes p e below K T m pc L S := by
  obtain ⟨hx, hZ, hby, hml, hown, hnm, hret, hlk, hn, locs, X, eT, N⟩ := X
  subst hp hW
  obtain ⟨_, _, ⟨T1, L1, k1, n1⟩, -, X1, ⟨Lc, hQ, l1, y1, z1⟩, st⟩ := Jvm.LawKit.callS X hx (y := y') hown (mvT hZ w1) (mvT hZ w2) (mvT hZ w3) (mvT hZ w4) hy (backOf (W := (rest.map fun v => v.category).sum) (hM []) hZ w4 w3 hf hl) (g := mkF m pc L S) rfl (by rw [hml]; exact hsz) (argsL := argsL) (rest := rest) hlen hst (by show 2 * 0 + _ ≤ _; omega) (hb hby hd) (fun _ _ => ⟨rfl, eT, hc, hs⟩)
  dsimp only [Pt.U, Pt.locs, Pt.cells, Pt.slots] at X1 l1 y1 z1 st hQ
  subst l1 y1 z1
  obtain ⟨rfl, hQ', N', hn'⟩ := hQ
  obtain ⟨u1, a1, b1⟩ := g _ _ ⟨hx, hZ, hby, hml, hown, hnm, hret, hlk, hn', _, X1, rfl, N.app N'⟩ hQ'
  exact ⟨u1, st _ a1, b1⟩
theorem w_staticV (X : Wk p l e R s m args below meth c Z n0 y code ml ret T cells slots h) {idx : Nat} {y' : MethodName} {bytes : ByteArray} {maxL : Nat} {ret' : Option FieldType} {R' : Room} {v' : Value} {Q' : Heap → Prop} {argsL rest : List Value} {W : Nat}
    (hM : Con l Z y' bytes maxL ret' R' argsL.toArray h n0 (some v') Q') (w1 : (Jvm.Cond.methodLink y.cls idx y').before a0 Z = true) (w2 : (Jvm.Cond.static y').before a0 Z = true) (w3 : (Jvm.Cond.initialized y'.cls).before a0 Z = true) (w4 : (Jvm.Cond.code y' bytes maxL ret').before a0 Z = true)
    (hy : y'.cls ≠ "java/lang/invoke/MethodHandle" ∧ y'.cls ≠ "java/lang/invoke/VarHandle") (hst : S = argsL.reverse ++ rest) (hlen : ∀ sig, parseMethodDescriptor y'.desc = some sig → argsL.length = sig.parameters.length) (hsz : L.size = ml) (hW : (rest.map fun v => v.category).sum = W) (hf : R'.frames + 1 ≤ R.frames) (hl : W + (maxL + 11) + R'.locals ≤ R.locals)
    (hc : cells + R'.cells ≤ R.cells) (hs : slots + R'.slots ≤ R.slots) (hd : decode code pc = .ok (.invokestatic idx, 3)) (hp : pc + 3 = pc')
    (g : ∀ T' h', Wk p l e R s m args below meth c Z n0 y code ml ret T' (cells + R'.cells) (slots + R'.slots) h' → Q' h' → Goes p e below K T' m pc' L (v' :: rest)) : Goes p e below K T m pc L S := w_static X hM w1 w2 w3 w4 hy hst hlen hsz hW hf hl hc hs hd hp g
theorem w_staticVP (X : Wk p l e R s m args below meth c Z n0 y code ml ret T cells slots h) {idx : Nat} {y' : MethodName} {bytes : ByteArray} {maxL : Nat} {ret' : Option FieldType} {R' : Room} {v' : Value} {argsL rest : List Value} {W : Nat}
    (hM : Con l Z y' bytes maxL ret' R' argsL.toArray h n0 (some v') (fun h' => h' = h)) (w1 : (Jvm.Cond.methodLink y.cls idx y').before a0 Z = true) (w2 : (Jvm.Cond.static y').before a0 Z = true) (w3 : (Jvm.Cond.initialized y'.cls).before a0 Z = true) (w4 : (Jvm.Cond.code y' bytes maxL ret').before a0 Z = true)
    (hy : y'.cls ≠ "java/lang/invoke/MethodHandle" ∧ y'.cls ≠ "java/lang/invoke/VarHandle") (hst : S = argsL.reverse ++ rest) (hlen : ∀ sig, parseMethodDescriptor y'.desc = some sig → argsL.length = sig.parameters.length) (hsz : L.size = ml) (hW : (rest.map fun v => v.category).sum = W) (hf : R'.frames + 1 ≤ R.frames) (hl : W + (maxL + 11) + R'.locals ≤ R.locals)
    (hc : cells + R'.cells ≤ R.cells) (hs : slots + R'.slots ≤ R.slots) (hd : decode code pc = .ok (.invokestatic idx, 3)) (hp : pc + 3 = pc')
    (g : ∀ T', Wk p l e R s m args below meth c Z n0 y code ml ret T' (cells + R'.cells) (slots + R'.slots) h → Goes p e below K T' m pc' L (v' :: rest)) : Goes p e below K T m pc L S := w_staticV X hM w1 w2 w3 w4 hy hst hlen hsz hW hf hl hc hs hd hp (fun T' h' X' q => by subst q; exact g T' X')
theorem w_static0 (X : Wk p l e R s m args below meth c Z n0 y code ml ret T cells slots h) {idx : Nat} {y' : MethodName} {bytes : ByteArray} {maxL : Nat} {ret' : Option FieldType} {R' : Room} {Q' : Heap → Prop} {argsL rest : List Value} {W : Nat}
    (hM : Con l Z y' bytes maxL ret' R' argsL.toArray h n0 none Q') (w1 : (Jvm.Cond.methodLink y.cls idx y').before a0 Z = true) (w2 : (Jvm.Cond.static y').before a0 Z = true) (w3 : (Jvm.Cond.initialized y'.cls).before a0 Z = true) (w4 : (Jvm.Cond.code y' bytes maxL ret').before a0 Z = true)
    (hy : y'.cls ≠ "java/lang/invoke/MethodHandle" ∧ y'.cls ≠ "java/lang/invoke/VarHandle") (hst : S = argsL.reverse ++ rest) (hlen : ∀ sig, parseMethodDescriptor y'.desc = some sig → argsL.length = sig.parameters.length) (hsz : L.size = ml) (hW : (rest.map fun v => v.category).sum = W) (hf : R'.frames + 1 ≤ R.frames) (hl : W + (maxL + 11) + R'.locals ≤ R.locals)
    (hc : cells + R'.cells ≤ R.cells) (hs : slots + R'.slots ≤ R.slots) (hd : decode code pc = .ok (.invokestatic idx, 3)) (hp : pc + 3 = pc')
    (g : ∀ T' h', Wk p l e R s m args below meth c Z n0 y code ml ret T' (cells + R'.cells) (slots + R'.slots) h' → Q' h' → Goes p e below K T' m pc' L rest) : Goes p e below K T m pc L S := w_static X hM w1 w2 w3 w4 hy hst hlen hsz hW hf hl hc hs hd hp g
theorem w_static0P (X : Wk p l e R s m args below meth c Z n0 y code ml ret T cells slots h) {idx : Nat} {y' : MethodName} {bytes : ByteArray} {maxL : Nat} {ret' : Option FieldType} {R' : Room} {argsL rest : List Value} {W : Nat}
    (hM : Con l Z y' bytes maxL ret' R' argsL.toArray h n0 none (fun h' => h' = h)) (w1 : (Jvm.Cond.methodLink y.cls idx y').before a0 Z = true) (w2 : (Jvm.Cond.static y').before a0 Z = true) (w3 : (Jvm.Cond.initialized y'.cls).before a0 Z = true) (w4 : (Jvm.Cond.code y' bytes maxL ret').before a0 Z = true)
    (hy : y'.cls ≠ "java/lang/invoke/MethodHandle" ∧ y'.cls ≠ "java/lang/invoke/VarHandle") (hst : S = argsL.reverse ++ rest) (hlen : ∀ sig, parseMethodDescriptor y'.desc = some sig → argsL.length = sig.parameters.length) (hsz : L.size = ml) (hW : (rest.map fun v => v.category).sum = W) (hf : R'.frames + 1 ≤ R.frames) (hl : W + (maxL + 11) + R'.locals ≤ R.locals)
    (hc : cells + R'.cells ≤ R.cells) (hs : slots + R'.slots ≤ R.slots) (hd : decode code pc = .ok (.invokestatic idx, 3)) (hp : pc + 3 = pc')
    (g : ∀ T', Wk p l e R s m args below meth c Z n0 y code ml ret T' (cells + R'.cells) (slots + R'.slots) h → Goes p e below K T' m pc' L rest) : Goes p e below K T m pc L S := w_static0 X hM w1 w2 w3 w4 hy hst hlen hsz hW hf hl hc hs hd hp (fun T' h' X' q => by subst q; exact g T' X')
theorem w_special (X : Wk p l e R s m args below meth c Z n0 y code ml ret T cells slots h) {idx : Nat} {y' : MethodName} {bytes : ByteArray} {maxL : Nat} {R' : Room} {w' : Option Value} {Q' : Heap → Prop} {a : Addr} {argsL rest : List Value} {W : Nat}
    (hM : Con l Z y' bytes maxL none R' (.ref a :: argsL).toArray h n0 w' Q') (hi : y'.name = "<init>") (w1 : (Jvm.Cond.methodLink y.cls idx y').before a0 Z = true) (w2 : (Jvm.Cond.instanceMethod y').before a0 Z = true) (w3 : (Jvm.Cond.initialized y'.cls).before a0 Z = true) (w4 : (Jvm.Cond.code y' bytes maxL none).before a0 Z = true)
    (hy : y'.cls ≠ "java/lang/invoke/MethodHandle" ∧ y'.cls ≠ "java/lang/invoke/VarHandle") (hst : S = argsL.reverse ++ .ref a :: rest) (hlen : ∀ sig, parseMethodDescriptor y'.desc = some sig → argsL.length = sig.parameters.length) (hsz : L.size = ml) (hW : (rest.map fun v => v.category).sum = W) (hf : R'.frames + 1 ≤ R.frames) (hl : W + (maxL + 11) + R'.locals ≤ R.locals)
    (hc : cells + R'.cells ≤ R.cells) (hs : slots + R'.slots ≤ R.slots) (hd : decode code pc = .ok (.invokespecial idx, 3)) (hp : pc + 3 = pc')
    (g : ∀ T' h', Wk p l e R s m args below meth c Z n0 y code ml ret T' (cells + R'.cells) (slots + R'.slots) h' → Q' h' → Goes p e below K T' m pc' L (w'.toList ++ rest)) : Goes p e below K T m pc L S := by
  obtain ⟨hx, hZ, hby, hml, hown, hnm, hret, hlk, hn, locs, X, eT, N⟩ := X
  subst hp hW
  obtain ⟨_, _, ⟨T1, L1, k1, n1⟩, -, X1, ⟨Lc, hQ, l1, y1, z1⟩, st⟩ := X.specialBack hx (y := y') hi hown (mvT hZ w1) (mvT hZ w2) (mvT hZ w4) hy (backOf (W := (rest.map fun v => v.category).sum) (hM []) hZ w4 w3 hf hl) (g := mkF m pc L S) rfl (by rw [hml]; exact hsz) (Steps.refl _) (a := a) (argsL := argsL) (rest := rest) hlen hst (by show 2 * 0 + _ ≤ _; omega) (hb hby hd) (fun _ _ => ⟨rfl, eT, hc, hs⟩)
  dsimp only [Pt.U, Pt.locs, Pt.cells, Pt.slots] at X1 l1 y1 z1 st hQ
  subst l1 y1 z1
  obtain ⟨rfl, hQ', N', hn'⟩ := hQ
  obtain ⟨u1, a1, b1⟩ := g _ _ ⟨hx, hZ, hby, hml, hown, hnm, hret, hlk, hn', _, X1, rfl, N.app N'⟩ hQ'
  exact ⟨u1, st.trans a1, b1⟩
theorem w_special0 (X : Wk p l e R s m args below meth c Z n0 y code ml ret T cells slots h) {idx : Nat} {y' : MethodName} {bytes : ByteArray} {maxL : Nat} {R' : Room} {Q' : Heap → Prop} {a : Addr} {argsL rest : List Value} {W : Nat}
    (hM : Con l Z y' bytes maxL none R' (.ref a :: argsL).toArray h n0 none Q') (hi : y'.name = "<init>") (w1 : (Jvm.Cond.methodLink y.cls idx y').before a0 Z = true) (w2 : (Jvm.Cond.instanceMethod y').before a0 Z = true) (w3 : (Jvm.Cond.initialized y'.cls).before a0 Z = true) (w4 : (Jvm.Cond.code y' bytes maxL none).before a0 Z = true)
    (hy : y'.cls ≠ "java/lang/invoke/MethodHandle" ∧ y'.cls ≠ "java/lang/invoke/VarHandle") (hst : S = argsL.reverse ++ .ref a :: rest) (hlen : ∀ sig, parseMethodDescriptor y'.desc = some sig → argsL.length = sig.parameters.length) (hsz : L.size = ml) (hW : (rest.map fun v => v.category).sum = W) (hf : R'.frames + 1 ≤ R.frames) (hl : W + (maxL + 11) + R'.locals ≤ R.locals)
    (hc : cells + R'.cells ≤ R.cells) (hs : slots + R'.slots ≤ R.slots) (hd : decode code pc = .ok (.invokespecial idx, 3)) (hp : pc + 3 = pc')
    (g : ∀ T' h', Wk p l e R s m args below meth c Z n0 y code ml ret T' (cells + R'.cells) (slots + R'.slots) h' → Q' h' → Goes p e below K T' m pc' L rest) : Goes p e below K T m pc L S := w_special X hM hi w1 w2 w3 w4 hy hst hlen hsz hW hf hl hc hs hd hp g
theorem w_special0P (X : Wk p l e R s m args below meth c Z n0 y code ml ret T cells slots h) {idx : Nat} {y' : MethodName} {bytes : ByteArray} {maxL : Nat} {R' : Room} {a : Addr} {argsL rest : List Value} {W : Nat}
    (hM : Con l Z y' bytes maxL none R' (.ref a :: argsL).toArray h n0 none (fun h' => h' = h)) (hi : y'.name = "<init>") (w1 : (Jvm.Cond.methodLink y.cls idx y').before a0 Z = true) (w2 : (Jvm.Cond.instanceMethod y').before a0 Z = true) (w3 : (Jvm.Cond.initialized y'.cls).before a0 Z = true) (w4 : (Jvm.Cond.code y' bytes maxL none).before a0 Z = true)
    (hy : y'.cls ≠ "java/lang/invoke/MethodHandle" ∧ y'.cls ≠ "java/lang/invoke/VarHandle") (hst : S = argsL.reverse ++ .ref a :: rest) (hlen : ∀ sig, parseMethodDescriptor y'.desc = some sig → argsL.length = sig.parameters.length) (hsz : L.size = ml) (hW : (rest.map fun v => v.category).sum = W) (hf : R'.frames + 1 ≤ R.frames) (hl : W + (maxL + 11) + R'.locals ≤ R.locals)
    (hc : cells + R'.cells ≤ R.cells) (hs : slots + R'.slots ≤ R.slots) (hd : decode code pc = .ok (.invokespecial idx, 3)) (hp : pc + 3 = pc')
    (g : ∀ T', Wk p l e R s m args below meth c Z n0 y code ml ret T' (cells + R'.cells) (slots + R'.slots) h → Goes p e below K T' m pc' L rest) : Goes p e below K T m pc L S := w_special0 X hM hi w1 w2 w3 w4 hy hst hlen hsz hW hf hl hc hs hd hp (fun T' h' X' q => by subst q; exact g T' X')
theorem w_virtual (X : Wk p l e R s m args below meth c Z n0 y code ml ret T cells slots h) {idx : Nat} {C : String} {y' : MethodName} {bytes : ByteArray} {maxL : Nat} {ret' : Option FieldType} {R' : Room} {w' : Option Value} {Q' : Heap → Prop} {a : Addr} {argsL rest : List Value} {W : Nat}
    (hM : Con l Z y' bytes maxL ret' R' (.ref a :: argsL).toArray h n0 w' Q') (E : Exa Z h a C) (w1 : (Jvm.Cond.methodLink y.cls idx y').before a0 Z = true) (w2 : (Jvm.Cond.declares y').before a0 Z = true) (w5 : (Jvm.Cond.selects C y' y').before a0 Z = true) (w6 : (Jvm.Cond.instanceMethod y').before a0 Z = true) (w3 : (Jvm.Cond.initialized y'.cls).before a0 Z = true) (w4 : (Jvm.Cond.code y' bytes maxL ret').before a0 Z = true)
    (hy : y'.cls ≠ "java/lang/invoke/MethodHandle" ∧ y'.cls ≠ "java/lang/invoke/VarHandle") (hst : S = argsL.reverse ++ .ref a :: rest) (hlen : ∀ sig, parseMethodDescriptor y'.desc = some sig → argsL.length = sig.parameters.length) (hsz : L.size = ml) (hW : (rest.map fun v => v.category).sum = W) (hf : R'.frames + 1 ≤ R.frames) (hl : W + (maxL + 11) + R'.locals ≤ R.locals)
    (hc : cells + R'.cells ≤ R.cells) (hs : slots + R'.slots ≤ R.slots) (hd : decode code pc = .ok (.invokevirtual idx, 3)) (hp : pc + 3 = pc')
    (g : ∀ T' h', Wk p l e R s m args below meth c Z n0 y code ml ret T' (cells + R'.cells) (slots + R'.slots) h' → Q' h' → Goes p e below K T' m pc' L (w'.toList ++ rest)) : Goes p e below K T m pc L S := by
  obtain ⟨hx, hZ, hby, hml, hown, hnm, hret, hlk, hn, locs, X, eT, N⟩ := X
  subst hp hW
  obtain ⟨cq, kq, qa, qb, qc⟩ := isOf hZ eT E
  obtain ⟨_, _, ⟨T1, L1, k1, n1⟩, -, X1, ⟨Lc, hQ, l1, y1, z1⟩, st⟩ := X.virtualBack hx (y := y') (z := y') hown (mvT hZ w1) (mvT hZ w2) (notFace_of_selects (args := #[]) (mvT hZ w5)) (mvT hZ w5) (mvT hZ w6) hy (backOf (W := (rest.map fun v => v.category).sum) (hM []) hZ w4 w3 hf hl) qa qc (g := mkF m pc L S) rfl (by rw [hml]; exact hsz) (Steps.refl _) (argsL := argsL) (rest := rest) hlen hst (by show 2 * 0 + _ ≤ _; omega) (hb hby hd) (fun _ _ => ⟨rfl, eT, hc, hs⟩)
  dsimp only [Pt.U, Pt.locs, Pt.cells, Pt.slots] at X1 l1 y1 z1 st hQ
  subst l1 y1 z1
  obtain ⟨rfl, hQ', N', hn'⟩ := hQ
  obtain ⟨u1, a1, b1⟩ := g _ _ ⟨hx, hZ, hby, hml, hown, hnm, hret, hlk, hn', _, X1, rfl, N.app N'⟩ hQ'
  exact ⟨u1, st.trans a1, b1⟩
theorem w_virtualV (X : Wk p l e R s m args below meth c Z n0 y code ml ret T cells slots h) {idx : Nat} {C : String} {y' : MethodName} {bytes : ByteArray} {maxL : Nat} {ret' : Option FieldType} {R' : Room} {v' : Value} {Q' : Heap → Prop} {a : Addr} {argsL rest : List Value} {W : Nat}
    (hM : Con l Z y' bytes maxL ret' R' (.ref a :: argsL).toArray h n0 (some v') Q') (E : Exa Z h a C) (w1 : (Jvm.Cond.methodLink y.cls idx y').before a0 Z = true) (w2 : (Jvm.Cond.declares y').before a0 Z = true) (w5 : (Jvm.Cond.selects C y' y').before a0 Z = true) (w6 : (Jvm.Cond.instanceMethod y').before a0 Z = true) (w3 : (Jvm.Cond.initialized y'.cls).before a0 Z = true) (w4 : (Jvm.Cond.code y' bytes maxL ret').before a0 Z = true)
    (hy : y'.cls ≠ "java/lang/invoke/MethodHandle" ∧ y'.cls ≠ "java/lang/invoke/VarHandle") (hst : S = argsL.reverse ++ .ref a :: rest) (hlen : ∀ sig, parseMethodDescriptor y'.desc = some sig → argsL.length = sig.parameters.length) (hsz : L.size = ml) (hW : (rest.map fun v => v.category).sum = W) (hf : R'.frames + 1 ≤ R.frames) (hl : W + (maxL + 11) + R'.locals ≤ R.locals)
    (hc : cells + R'.cells ≤ R.cells) (hs : slots + R'.slots ≤ R.slots) (hd : decode code pc = .ok (.invokevirtual idx, 3)) (hp : pc + 3 = pc')
    (g : ∀ T' h', Wk p l e R s m args below meth c Z n0 y code ml ret T' (cells + R'.cells) (slots + R'.slots) h' → Q' h' → Goes p e below K T' m pc' L (v' :: rest)) : Goes p e below K T m pc L S := w_virtual X hM E w1 w2 w5 w6 w3 w4 hy hst hlen hsz hW hf hl hc hs hd hp g
theorem w_virtualVP (X : Wk p l e R s m args below meth c Z n0 y code ml ret T cells slots h) {idx : Nat} {C : String} {y' : MethodName} {bytes : ByteArray} {maxL : Nat} {ret' : Option FieldType} {R' : Room} {v' : Value} {a : Addr} {argsL rest : List Value} {W : Nat}
    (hM : Con l Z y' bytes maxL ret' R' (.ref a :: argsL).toArray h n0 (some v') (fun h' => h' = h)) (E : Exa Z h a C) (w1 : (Jvm.Cond.methodLink y.cls idx y').before a0 Z = true) (w2 : (Jvm.Cond.declares y').before a0 Z = true) (w5 : (Jvm.Cond.selects C y' y').before a0 Z = true) (w6 : (Jvm.Cond.instanceMethod y').before a0 Z = true) (w3 : (Jvm.Cond.initialized y'.cls).before a0 Z = true) (w4 : (Jvm.Cond.code y' bytes maxL ret').before a0 Z = true)
    (hy : y'.cls ≠ "java/lang/invoke/MethodHandle" ∧ y'.cls ≠ "java/lang/invoke/VarHandle") (hst : S = argsL.reverse ++ .ref a :: rest) (hlen : ∀ sig, parseMethodDescriptor y'.desc = some sig → argsL.length = sig.parameters.length) (hsz : L.size = ml) (hW : (rest.map fun v => v.category).sum = W) (hf : R'.frames + 1 ≤ R.frames) (hl : W + (maxL + 11) + R'.locals ≤ R.locals)
    (hc : cells + R'.cells ≤ R.cells) (hs : slots + R'.slots ≤ R.slots) (hd : decode code pc = .ok (.invokevirtual idx, 3)) (hp : pc + 3 = pc')
    (g : ∀ T', Wk p l e R s m args below meth c Z n0 y code ml ret T' (cells + R'.cells) (slots + R'.slots) h → Goes p e below K T' m pc' L (v' :: rest)) : Goes p e below K T m pc L S := w_virtualV X hM E w1 w2 w5 w6 w3 w4 hy hst hlen hsz hW hf hl hc hs hd hp (fun T' h' X' q => by subst q; exact g T' X')
theorem w_virtual0 (X : Wk p l e R s m args below meth c Z n0 y code ml ret T cells slots h) {idx : Nat} {C : String} {y' : MethodName} {bytes : ByteArray} {maxL : Nat} {ret' : Option FieldType} {R' : Room} {Q' : Heap → Prop} {a : Addr} {argsL rest : List Value} {W : Nat}
    (hM : Con l Z y' bytes maxL ret' R' (.ref a :: argsL).toArray h n0 none Q') (E : Exa Z h a C) (w1 : (Jvm.Cond.methodLink y.cls idx y').before a0 Z = true) (w2 : (Jvm.Cond.declares y').before a0 Z = true) (w5 : (Jvm.Cond.selects C y' y').before a0 Z = true) (w6 : (Jvm.Cond.instanceMethod y').before a0 Z = true) (w3 : (Jvm.Cond.initialized y'.cls).before a0 Z = true) (w4 : (Jvm.Cond.code y' bytes maxL ret').before a0 Z = true)
    (hy : y'.cls ≠ "java/lang/invoke/MethodHandle" ∧ y'.cls ≠ "java/lang/invoke/VarHandle") (hst : S = argsL.reverse ++ .ref a :: rest) (hlen : ∀ sig, parseMethodDescriptor y'.desc = some sig → argsL.length = sig.parameters.length) (hsz : L.size = ml) (hW : (rest.map fun v => v.category).sum = W) (hf : R'.frames + 1 ≤ R.frames) (hl : W + (maxL + 11) + R'.locals ≤ R.locals)
    (hc : cells + R'.cells ≤ R.cells) (hs : slots + R'.slots ≤ R.slots) (hd : decode code pc = .ok (.invokevirtual idx, 3)) (hp : pc + 3 = pc')
    (g : ∀ T' h', Wk p l e R s m args below meth c Z n0 y code ml ret T' (cells + R'.cells) (slots + R'.slots) h' → Q' h' → Goes p e below K T' m pc' L rest) : Goes p e below K T m pc L S := w_virtual X hM E w1 w2 w5 w6 w3 w4 hy hst hlen hsz hW hf hl hc hs hd hp g
theorem w_virtual0P (X : Wk p l e R s m args below meth c Z n0 y code ml ret T cells slots h) {idx : Nat} {C : String} {y' : MethodName} {bytes : ByteArray} {maxL : Nat} {ret' : Option FieldType} {R' : Room} {a : Addr} {argsL rest : List Value} {W : Nat}
    (hM : Con l Z y' bytes maxL ret' R' (.ref a :: argsL).toArray h n0 none (fun h' => h' = h)) (E : Exa Z h a C) (w1 : (Jvm.Cond.methodLink y.cls idx y').before a0 Z = true) (w2 : (Jvm.Cond.declares y').before a0 Z = true) (w5 : (Jvm.Cond.selects C y' y').before a0 Z = true) (w6 : (Jvm.Cond.instanceMethod y').before a0 Z = true) (w3 : (Jvm.Cond.initialized y'.cls).before a0 Z = true) (w4 : (Jvm.Cond.code y' bytes maxL ret').before a0 Z = true)
    (hy : y'.cls ≠ "java/lang/invoke/MethodHandle" ∧ y'.cls ≠ "java/lang/invoke/VarHandle") (hst : S = argsL.reverse ++ .ref a :: rest) (hlen : ∀ sig, parseMethodDescriptor y'.desc = some sig → argsL.length = sig.parameters.length) (hsz : L.size = ml) (hW : (rest.map fun v => v.category).sum = W) (hf : R'.frames + 1 ≤ R.frames) (hl : W + (maxL + 11) + R'.locals ≤ R.locals)
    (hc : cells + R'.cells ≤ R.cells) (hs : slots + R'.slots ≤ R.slots) (hd : decode code pc = .ok (.invokevirtual idx, 3)) (hp : pc + 3 = pc')
    (g : ∀ T', Wk p l e R s m args below meth c Z n0 y code ml ret T' (cells + R'.cells) (slots + R'.slots) h → Goes p e below K T' m pc' L rest) : Goes p e below K T m pc L S := w_virtual0 X hM E w1 w2 w5 w6 w3 w4 hy hst hlen hsz hW hf hl hc hs hd hp (fun T' h' X' q => by subst q; exact g T' X')
theorem w_private (X : Wk p l e R s m args below meth c Z n0 y code ml ret T cells slots h) {idx : Nat} {C : String} {y' : MethodName} {bytes : ByteArray} {maxL : Nat} {ret' : Option FieldType} {R' : Room} {w' : Option Value} {Q' : Heap → Prop} {a : Addr} {argsL rest : List Value} {W : Nat}
    (hM : Con l Z y' bytes maxL ret' R' (.ref a :: argsL).toArray h n0 w' Q') (E : Exa Z h a C) (w1 : (Jvm.Cond.methodLink y.cls idx y').before a0 Z = true) (w6 : (Jvm.Cond.instanceMethod y').before a0 Z = true) {kk : Nat} (w5 : (Jvm.Cond.instantiable y'.cls kk).before a0 Z = true) (w7 : (Jvm.Cond.privateMethod y').before a0 Z = true) (w3 : (Jvm.Cond.initialized y'.cls).before a0 Z = true) (w4 : (Jvm.Cond.code y' bytes maxL ret').before a0 Z = true)
    (hy : y'.cls ≠ "java/lang/invoke/MethodHandle" ∧ y'.cls ≠ "java/lang/invoke/VarHandle") (hst : S = argsL.reverse ++ .ref a :: rest) (hlen : ∀ sig, parseMethodDescriptor y'.desc = some sig → argsL.length = sig.parameters.length) (hsz : L.size = ml) (hW : (rest.map fun v => v.category).sum = W) (hf : R'.frames + 1 ≤ R.frames) (hl : W + (maxL + 11) + R'.locals ≤ R.locals)
    (hc : cells + R'.cells ≤ R.cells) (hs : slots + R'.slots ≤ R.slots) (hd : decode code pc = .ok (.invokevirtual idx, 3)) (hp : pc + 3 = pc')
    (g : ∀ T' h', Wk p l e R s m args below meth c Z n0 y code ml ret T' (cells + R'.cells) (slots + R'.slots) h' → Q' h' → Goes p e below K T' m pc' L (w'.toList ++ rest)) : Goes p e below K T m pc L S := by
  obtain ⟨hx, hZ, hby, hml, hown, hnm, hret, hlk, hn, locs, X, eT, N⟩ := X
  subst hp hW
  have hin : (Jvm.Cond.instanceMethod y').before args s = true := mvT hZ w6
  have hpr : s.PrivateAt y' := Cond.privateMethod_at (mvP hZ w7 (args := #[]))
  obtain ⟨cc, kc, r1, r2, -, r4, -⟩ := Cond.instantiable_spec (show (Jvm.Cond.instantiable y'.cls kk).before args s = true from mvT hZ w5)
  have sel : (Jvm.Cond.selects y'.cls y' y').before args s = true := Jvm.Stand.selects_self_of_private r1 r2 (by simp only [Bool.or_eq_false_iff] at r4; exact r4.1) hpr hin hy
  obtain ⟨cq, q, q'⟩ := E.cell
  obtain ⟨_, _, ⟨T1, L1, k1, n1⟩, -, X1, ⟨Lc, hQ, l1, y1, z1⟩, st⟩ := X.privateBack hx (y := y') hown (mvT hZ w1) hin sel hpr (mvT hZ w4) hy (backOf (W := (rest.map fun v => v.category).sum) (hM []) hZ w4 w3 hf hl) (g := mkF m pc L S) rfl (by rw [hml]; exact hsz) (Steps.refl _) (a := a) (by rw [eT]; exact q) q' (argsL := argsL) (rest := rest) hlen hst (by show 2 * 0 + _ ≤ _; omega) (hb hby hd) (fun _ _ => ⟨rfl, eT, hc, hs⟩)
  dsimp only [Pt.U, Pt.locs, Pt.cells, Pt.slots] at X1 l1 y1 z1 st hQ
  subst l1 y1 z1
  obtain ⟨rfl, hQ', N', hn'⟩ := hQ
  obtain ⟨u1, a1, b1⟩ := g _ _ ⟨hx, hZ, hby, hml, hown, hnm, hret, hlk, hn', _, X1, rfl, N.app N'⟩ hQ'
  exact ⟨u1, st.trans a1, b1⟩
theorem w_privateV (X : Wk p l e R s m args below meth c Z n0 y code ml ret T cells slots h) {idx : Nat} {C : String} {y' : MethodName} {bytes : ByteArray} {maxL : Nat} {ret' : Option FieldType} {R' : Room} {v' : Value} {Q' : Heap → Prop} {a : Addr} {argsL rest : List Value} {W : Nat}
    (hM : Con l Z y' bytes maxL ret' R' (.ref a :: argsL).toArray h n0 (some v') Q') (E : Exa Z h a C) (w1 : (Jvm.Cond.methodLink y.cls idx y').before a0 Z = true) (w6 : (Jvm.Cond.instanceMethod y').before a0 Z = true) {kk : Nat} (w5 : (Jvm.Cond.instantiable y'.cls kk).before a0 Z = true) (w7 : (Jvm.Cond.privateMethod y').before a0 Z = true) (w3 : (Jvm.Cond.initialized y'.cls).before a0 Z = true) (w4 : (Jvm.Cond.code y' bytes maxL ret').before a0 Z = true)
    (hy : y'.cls ≠ "java/lang/invoke/MethodHandle" ∧ y'.cls ≠ "java/lang/invoke/VarHandle") (hst : S = argsL.reverse ++ .ref a :: rest) (hlen : ∀ sig, parseMethodDescriptor y'.desc = some sig → argsL.length = sig.parameters.length) (hsz : L.size = ml) (hW : (rest.map fun v => v.category).sum = W) (hf : R'.frames + 1 ≤ R.frames) (hl : W + (maxL + 11) + R'.locals ≤ R.locals)
    (hc : cells + R'.cells ≤ R.cells) (hs : slots + R'.slots ≤ R.slots) (hd : decode code pc = .ok (.invokevirtual idx, 3)) (hp : pc + 3 = pc')
    (g : ∀ T' h', Wk p l e R s m args below meth c Z n0 y code ml ret T' (cells + R'.cells) (slots + R'.slots) h' → Q' h' → Goes p e below K T' m pc' L (v' :: rest)) : Goes p e below K T m pc L S := w_private X hM E w1 w6 w5 w7 w3 w4 hy hst hlen hsz hW hf hl hc hs hd hp g
theorem w_privateVP (X : Wk p l e R s m args below meth c Z n0 y code ml ret T cells slots h) {idx : Nat} {C : String} {y' : MethodName} {bytes : ByteArray} {maxL : Nat} {ret' : Option FieldType} {R' : Room} {v' : Value} {a : Addr} {argsL rest : List Value} {W : Nat}
    (hM : Con l Z y' bytes maxL ret' R' (.ref a :: argsL).toArray h n0 (some v') (fun h' => h' = h)) (E : Exa Z h a C) (w1 : (Jvm.Cond.methodLink y.cls idx y').before a0 Z = true) (w6 : (Jvm.Cond.instanceMethod y').before a0 Z = true) {kk : Nat} (w5 : (Jvm.Cond.instantiable y'.cls kk).before a0 Z = true) (w7 : (Jvm.Cond.privateMethod y').before a0 Z = true) (w3 : (Jvm.Cond.initialized y'.cls).before a0 Z = true) (w4 : (Jvm.Cond.code y' bytes maxL ret').before a0 Z = true)
    (hy : y'.cls ≠ "java/lang/invoke/MethodHandle" ∧ y'.cls ≠ "java/lang/invoke/VarHandle") (hst : S = argsL.reverse ++ .ref a :: rest) (hlen : ∀ sig, parseMethodDescriptor y'.desc = some sig → argsL.length = sig.parameters.length) (hsz : L.size = ml) (hW : (rest.map fun v => v.category).sum = W) (hf : R'.frames + 1 ≤ R.frames) (hl : W + (maxL + 11) + R'.locals ≤ R.locals)
    (hc : cells + R'.cells ≤ R.cells) (hs : slots + R'.slots ≤ R.slots) (hd : decode code pc = .ok (.invokevirtual idx, 3)) (hp : pc + 3 = pc')
    (g : ∀ T', Wk p l e R s m args below meth c Z n0 y code ml ret T' (cells + R'.cells) (slots + R'.slots) h → Goes p e below K T' m pc' L (v' :: rest)) : Goes p e below K T m pc L S := w_privateV X hM E w1 w6 w5 w7 w3 w4 hy hst hlen hsz hW hf hl hc hs hd hp (fun T' h' X' q => by subst q; exact g T' X')
theorem w_private0 (X : Wk p l e R s m args below meth c Z n0 y code ml ret T cells slots h) {idx : Nat} {C : String} {y' : MethodName} {bytes : ByteArray} {maxL : Nat} {ret' : Option FieldType} {R' : Room} {Q' : Heap → Prop} {a : Addr} {argsL rest : List Value} {W : Nat}
    (hM : Con l Z y' bytes maxL ret' R' (.ref a :: argsL).toArray h n0 none Q') (E : Exa Z h a C) (w1 : (Jvm.Cond.methodLink y.cls idx y').before a0 Z = true) (w6 : (Jvm.Cond.instanceMethod y').before a0 Z = true) {kk : Nat} (w5 : (Jvm.Cond.instantiable y'.cls kk).before a0 Z = true) (w7 : (Jvm.Cond.privateMethod y').before a0 Z = true) (w3 : (Jvm.Cond.initialized y'.cls).before a0 Z = true) (w4 : (Jvm.Cond.code y' bytes maxL ret').before a0 Z = true)
    (hy : y'.cls ≠ "java/lang/invoke/MethodHandle" ∧ y'.cls ≠ "java/lang/invoke/VarHandle") (hst : S = argsL.reverse ++ .ref a :: rest) (hlen : ∀ sig, parseMethodDescriptor y'.desc = some sig → argsL.length = sig.parameters.length) (hsz : L.size = ml) (hW : (rest.map fun v => v.category).sum = W) (hf : R'.frames + 1 ≤ R.frames) (hl : W + (maxL + 11) + R'.locals ≤ R.locals)
    (hc : cells + R'.cells ≤ R.cells) (hs : slots + R'.slots ≤ R.slots) (hd : decode code pc = .ok (.invokevirtual idx, 3)) (hp : pc + 3 = pc')
    (g : ∀ T' h', Wk p l e R s m args below meth c Z n0 y code ml ret T' (cells + R'.cells) (slots + R'.slots) h' → Q' h' → Goes p e below K T' m pc' L rest) : Goes p e below K T m pc L S := w_private X hM E w1 w6 w5 w7 w3 w4 hy hst hlen hsz hW hf hl hc hs hd hp g
theorem w_private0P (X : Wk p l e R s m args below meth c Z n0 y code ml ret T cells slots h) {idx : Nat} {C : String} {y' : MethodName} {bytes : ByteArray} {maxL : Nat} {ret' : Option FieldType} {R' : Room} {a : Addr} {argsL rest : List Value} {W : Nat}
    (hM : Con l Z y' bytes maxL ret' R' (.ref a :: argsL).toArray h n0 none (fun h' => h' = h)) (E : Exa Z h a C) (w1 : (Jvm.Cond.methodLink y.cls idx y').before a0 Z = true) (w6 : (Jvm.Cond.instanceMethod y').before a0 Z = true) {kk : Nat} (w5 : (Jvm.Cond.instantiable y'.cls kk).before a0 Z = true) (w7 : (Jvm.Cond.privateMethod y').before a0 Z = true) (w3 : (Jvm.Cond.initialized y'.cls).before a0 Z = true) (w4 : (Jvm.Cond.code y' bytes maxL ret').before a0 Z = true)
    (hy : y'.cls ≠ "java/lang/invoke/MethodHandle" ∧ y'.cls ≠ "java/lang/invoke/VarHandle") (hst : S = argsL.reverse ++ .ref a :: rest) (hlen : ∀ sig, parseMethodDescriptor y'.desc = some sig → argsL.length = sig.parameters.length) (hsz : L.size = ml) (hW : (rest.map fun v => v.category).sum = W) (hf : R'.frames + 1 ≤ R.frames) (hl : W + (maxL + 11) + R'.locals ≤ R.locals)
    (hc : cells + R'.cells ≤ R.cells) (hs : slots + R'.slots ≤ R.slots) (hd : decode code pc = .ok (.invokevirtual idx, 3)) (hp : pc + 3 = pc')
    (g : ∀ T', Wk p l e R s m args below meth c Z n0 y code ml ret T' (cells + R'.cells) (slots + R'.slots) h → Goes p e below K T' m pc' L rest) : Goes p e below K T m pc L S := w_private0 X hM E w1 w6 w5 w7 w3 w4 hy hst hlen hsz hW hf hl hc hs hd hp (fun T' h' X' q => by subst q; exact g T' X')
theorem w_initO (X : Wk p l e R s m args below meth c Z n0 y code ml ret T cells slots h) {idx : Nat} {a : Addr} {W : Nat} (w1 : (Jvm.Cond.methodLink y.cls idx Lib.objectInit).before a0 Z = true) (w2 : (Jvm.Cond.instanceMethod Lib.objectInit).before a0 Z = true) (w3 : (Jvm.Cond.code Lib.objectInit ⟨#[0xb1]⟩ 1 none).before a0 Z = true)
    (hsz : L.size = ml) (hW : (S.map fun v => v.category).sum = W) (hf : 1 ≤ R.frames) (hl : W + 12 ≤ R.locals) (hd : decode code pc = .ok (.invokespecial idx, 3)) (hp : pc + 3 = pc')
    (g : ∀ T', Wk p l e R s m args below meth c Z n0 y code ml ret T' cells slots h → Goes p e below K T' m pc' L S) : Goes p e below K T m pc L (.ref a :: S) := by
  obtain ⟨hx, hZ, hby, hml, hown, hnm, hret, hlk, hn, locs, X, eT, N⟩ := X
  subst hp hW
  obtain ⟨T1, X1, e1, st⟩ := initO X hx hZ hown w1 w2 w3 eT (g := mkF m pc L (.ref a :: S)) rfl (by rw [hml]; exact hsz) rfl (hb hby hd) hf (W := (S.map fun v => v.category).sum) (by show 2 * 0 + _ ≤ _; omega) hl
  obtain ⟨u1, a1, b1⟩ := g _ ⟨hx, hZ, hby, hml, hown, hnm, hret, hlk, hn, _, X1, e1, N⟩
  exact ⟨u1, st _ a1, b1⟩
-- fields and objects
theorem w_getF (X : Wk p l e R s m args below meth c Z n0 y code ml ret T cells slots h) {R0 O n d host : String} {idx : Nat} {a : Addr} {v : Value} (w : (Jvm.Cond.fieldLink y.cls idx R0 n d).before a0 Z = true ∨ (Jvm.Cond.fieldLinkNest y.cls idx R0 n d host).before a0 Z = true) (via : Via Z R0 O n d)
    (F : Fld Z h a O n d v) (hd : decode code pc = .ok (.getfield idx, 3)) (hp : pc + 3 = pc') (g : ∀ T', Wk p l e R s m args below meth c Z n0 y code ml ret T' cells slots h → Goes p e below K T' m pc' L (v :: S)) : Goes p e below K T m pc L (.ref a :: S) := by
  obtain ⟨hx, hZ, hby, hml, hown, hnm, hret, hlk, hn, locs, X, eT, N⟩ := X
  subst hp
  obtain ⟨T1, X1, e1, st⟩ := getF X hx hZ hown w via eT F (g := mkF m pc L (.ref a :: S)) rfl rfl (hb hby hd)
  obtain ⟨u1, a1, b1⟩ := g _ ⟨hx, hZ, hby, hml, hown, hnm, hret, hlk, hn, _, X1, e1, N⟩
  exact ⟨u1, st _ a1, b1⟩
theorem w_putF (X : Wk p l e R s m args below meth c Z n0 y code ml ret T cells slots h) {R0 O n d host C : String} {idx kk : Nat} {ty : FieldType} {a : Addr} {v old : Value} (w : (Jvm.Cond.fieldLink y.cls idx R0 n d).before a0 Z = true ∨ (Jvm.Cond.fieldLinkNest y.cls idx R0 n d host).before a0 Z = true) (via : Via Z R0 O n d)
    (F : Fld Z h a O n d old) (E : Exa Z h a C) (Lw : (Jvm.Cond.lays C O n d).before a0 Z = true ∨ ((Jvm.Cond.laysFinal C O n d).before a0 Z = true ∧ y.cls = O ∧ y.name = "<init>")) (wi : (Jvm.Cond.instantiable C kk).before a0 Z = true) (hty : parseFieldDescriptor d = some ty) (hnv : narrow ty v = v) (hfv : fits ty v = true) (ha : n0 ≤ a)
    (hd : decode code pc = .ok (.putfield idx, 3)) (hp : pc + 3 = pc') (g : ∀ T' h', Wk p l e R s m args below meth c Z n0 y code ml ret T' cells slots h' → Wr h h' a (Jvm.RoadKit.slotOf Z O n d) v → Goes p e below K T' m pc' L S) : Goes p e below K T m pc L (v :: .ref a :: S) := by
  obtain ⟨hx, hZ, hby, hml, hown, hnm, hret, hlk, hn, locs, X, eT, N⟩ := X
  subst hp
  obtain ⟨T1, h1, X1, e1, W1, st⟩ := putF X hx hZ hown w via eT F E (Lw.imp id fun q => ⟨q.1, q.2.1, hnm.trans q.2.2⟩) wi hty hnv hfv (g := mkF m pc L (v :: .ref a :: S)) rfl rfl (hb hby hd)
  obtain ⟨u1, a1, b1⟩ := g _ _ ⟨hx, hZ, hby, hml, hown, hnm, hret, hlk, W1.size.symm ▸ hn, _, X1, e1, Fr.snoc X1 N ha⟩ W1
  exact ⟨u1, st _ a1, b1⟩
theorem w_putFN (X : Wk p l e R s m args below meth c Z n0 y code ml ret T cells slots h) {R0 O n d C : String} {idx kk : Nat} {ty : FieldType} {a : Addr} {v v' old : Value} (w : (Jvm.Cond.fieldLink y.cls idx R0 n d).before a0 Z = true) (via : Via Z R0 O n d)
    (F : Fld Z h a O n d old) (E : Exa Z h a C) (Lw : (Jvm.Cond.lays C O n d).before a0 Z = true ∨ ((Jvm.Cond.laysFinal C O n d).before a0 Z = true ∧ y.cls = O ∧ y.name = "<init>")) (wi : (Jvm.Cond.instantiable C kk).before a0 Z = true) (hty : parseFieldDescriptor d = some ty) (hnv : narrow ty v = v') (hfv : fits ty v' = true) (ha : n0 ≤ a)
    (hd : decode code pc = .ok (.putfield idx, 3)) (hp : pc + 3 = pc') (g : ∀ T' h', Wk p l e R s m args below meth c Z n0 y code ml ret T' cells slots h' → Wr h h' a (Jvm.RoadKit.slotOf Z O n d) v' → Goes p e below K T' m pc' L S) : Goes p e below K T m pc L (v :: .ref a :: S) := by
  obtain ⟨hx, hZ, hby, hml, hown, hnm, hret, hlk, hn, locs, X, eT, N⟩ := X
  subst hp
  obtain ⟨T1, h1, X1, e1, W1, st⟩ := putFN X hx hZ hown w via eT F E (Lw.imp id fun q => ⟨q.1, q.2.1, hnm.trans q.2.2⟩) wi hty hnv hfv (g := mkF m pc L (v :: .ref a :: S)) rfl rfl (hb hby hd)
  obtain ⟨u1, a1, b1⟩ := g _ _ ⟨hx, hZ, hby, hml, hown, hnm, hret, hlk, W1.size.symm ▸ hn, _, X1, e1, Fr.snoc X1 N ha⟩ W1
  exact ⟨u1, st _ a1, b1⟩
theorem w_new (X : Wk p l e R s m args below meth c Z n0 y code ml ret T cells slots h) {C : String} {idx n : Nat} (w : (Jvm.Cond.classLink y.cls idx C).before a0 Z = true) (wi : (Jvm.Cond.instantiable C n).before a0 Z = true) (wz : (Jvm.Cond.initialized C).before a0 Z = true) (hc : cells + 1 ≤ R.cells) (hl : slots + n ≤ R.slots) (hd : decode code pc = .ok (.new idx, 3)) (hp : pc + 3 = pc')
    (g : ∀ T' h' a, Wk p l e R s m args below meth c Z n0 y code ml ret T' (cells + 1) (slots + n) h' → a = h.size → n0 ≤ a → Ext h h' → Exa Z h' a C → (∀ {O nm d : String} {ty : FieldType}, Laid Z a0 C O nm d → parseFieldDescriptor d = some ty → Fld Z h' a O nm d (defaultValue ty)) → Goes p e below K T' m pc' L (.ref a :: S)) : Goes p e below K T m pc L S := by
  obtain ⟨hx, hZ, hby, hml, hown, hnm, hret, hlk, hn, locs, X, eT, N⟩ := X
  subst hp
  obtain ⟨T1, h1, X1, e1, E1, A1, D1, -, st⟩ := newO X hx hZ hown w wi wz eT (g := mkF m pc L S) rfl (hb hby hd) hc hl
  obtain ⟨u1, a1, b1⟩ := g _ _ _ ⟨hx, hZ, hby, hml, hown, hnm, hret, hlk, Nat.le_trans hn E1.1, _, X1, e1, N⟩ rfl hn E1 A1 D1
  exact ⟨u1, st _ a1, b1⟩
-- arrays
/-- the array at a holds vs -/
def AV (Z : State) (h : Heap) (a : Addr) (ty : FieldType) (vs : List Value) : Prop := ∃ c : Cell, Arr Z h a c ty ∧ c.slots.toList = vs ∧ vs.length < 2 ^ 31
theorem AV.lt {a : Addr} {ty : FieldType} {vs : List Value} (A : AV Z h a ty vs) : a < h.size := by obtain ⟨c, A, -⟩ := A; exact A.lt
theorem AV.ext {a : Addr} {ty : FieldType} {vs : List Value} {h' : Heap} (A : AV Z h a ty vs) (E : Ext h h') : AV Z h' a ty vs := by obtain ⟨c, A, r⟩ := A; exact ⟨c, A.ext E, r⟩
theorem AV.other {a b : Addr} {ty : FieldType} {vs : List Value} {h' : Heap} {sl : Nat} {v : Value} (A : AV Z h b ty vs) (W : Wr h h' a sl v) (q : b ≠ a) : AV Z h' b ty vs := by obtain ⟨c, A, r⟩ := A; exact ⟨c, A.other W q, r⟩
theorem AV.keep {a : Addr} {ty : FieldType} {vs : List Value} {h' : Heap} {ws : List Addr} (A : AV Z h a ty vs) (Kp : Keep h h' ws) (q : a ∉ ws) : AV Z h' a ty vs := by obtain ⟨c, A, r⟩ := A; exact ⟨c, ⟨Kp.2.1 _ _ A.1 q, A.2⟩, r⟩
theorem AV.set {a : Addr} {ty : FieldType} {vs : List Value} {h' : Heap} {i : Nat} {v : Value} (A : AV Z h a ty vs) (W : Wr h h' a i v) : AV Z h' a ty (vs.set i v) := by
  obtain ⟨c, A, r1, r2⟩ := A
  refine ⟨_, A.same W, ?_, by simpa using r2⟩
  subst r1
  simp [Cell.setSlot]
theorem AV.ne_exa {a b : Addr} {ty : FieldType} {vs : List Value} {C : String} {k : Nat} (A : AV Z h a ty vs) (E : Exa Z h b C) (wi : (Jvm.Cond.instantiable C k).before a0 Z = true) : b ≠ a := by obtain ⟨c, A, -⟩ := A; exact ne_arr E wi A
theorem AV.len {a : Addr} {ty : FieldType} {vs : List Value} (A : AV Z h a ty vs) : vs.length < 2 ^ 31 := by obtain ⟨c, -, -, r⟩ := A; exact r
theorem av_in {c : Cell} {vs : List Value} (r : c.slots.toList = vs) {j : Int32} {i : Nat} (h0 : ¬ j < 0) (hi : j.toNatClampNeg = i) (hlt : i < vs.length) : ¬ (j < 0 ∨ c.slots.size ≤ j.toNatClampNeg) := by
  subst r hi
  rintro (q | q)
  · exact h0 q
  · simp at hlt; omega
theorem av_at {c : Cell} {vs : List Value} (r : c.slots.toList = vs) {i : Nat} {v : Value} (hv : vs[i]? = some v) : c.slots[i]? = some v := by
  subst r
  simpa using hv
theorem w_newP (X : Wk p l e R s m args below meth c Z n0 y code ml ret T cells slots h) {aty : ArrayType} {n : Int32} {k : Nat} (w : (Jvm.Cond.arrayClass (newarray.typeOf aty)).before a0 Z = true) (hn : ¬ n < 0) (hk : n.toNatClampNeg = k) {cap : Nat} (hcap : k ≤ cap) (hb0 : cap * 8 ≤ 536870912) (hc : cells + 1 ≤ R.cells) (hl : slots + cap ≤ R.slots) (hd : decode code pc = .ok (.newarray aty, 2)) (hp : pc + 2 = pc')
    (g : ∀ T' h' a, Wk p l e R s m args below meth c Z n0 y code ml ret T' (cells + 1) (slots + cap) h' → a = h.size → n0 ≤ a → Ext h h' → AV Z h' a (newarray.typeOf aty) (List.replicate k (defaultValue (newarray.typeOf aty))) → Goes p e below K T' m pc' L (.ref a :: S)) : Goes p e below K T m pc L (.int n :: S) := by
  obtain ⟨hx, hZ, hby, hml, hown, hnm, hret, hlk, hn', locs, X, eT, N⟩ := X
  subst hp hk
  obtain ⟨T1, h1, cA, X1, e1, E1, A1, st⟩ := newP X hx hZ w eT (g := mkF m pc L (.int n :: S)) rfl (hb hby hd) rfl hn hcap hb0 hc hl
  obtain ⟨u1, a1, b1⟩ := g _ _ _ ⟨hx, hZ, hby, hml, hown, hnm, hret, hlk, Nat.le_trans hn' E1.1, _, X1, e1, N⟩ rfl hn' E1 ⟨_, A1, (by simp [newA]), (by simp only [List.length_replicate]; exact (back32 hn).2)⟩
  exact ⟨u1, st _ a1, b1⟩
theorem w_iaload (X : Wk p l e R s m args below meth c Z n0 y code ml ret T cells slots h) {a : Addr} {vs : List Value} {j : Int32} {i : Nat} {v : Value} (A : AV Z h a .int vs) (h0 : ¬ j < 0) (hi : j.toNatClampNeg = i) (hv : vs[i]? = some v) (hd : decode code pc = .ok (.iaload, 1)) (hp : pc + 1 = pc') (g : Goes p e below K T m pc' L (v :: S)) : Goes p e below K T m pc L (.int j :: .ref a :: S) := by
  obtain ⟨hx, hZ, hby, hml, hown, hnm, hret, hlk, hn, locs, X, eT, N⟩ := X
  obtain ⟨cl, A, r, -⟩ := A
  subst hp
  obtain ⟨u1, a1, b1⟩ := g
  exact ⟨u1, X.iaload hx (by rw [eT]; exact A.1) (State.isArrayOf_alike hZ.alike A.2.1) A.2.2 (av_in r h0 hi (List.getElem?_eq_some_iff.mp hv).1) (by rw [hi]; exact av_at r hv) (g := mkF m pc L (.int j :: .ref a :: S)) rfl rfl (hb hby hd) _ a1, b1⟩
theorem w_laload (X : Wk p l e R s m args below meth c Z n0 y code ml ret T cells slots h) {a : Addr} {vs : List Value} {j : Int32} {i : Nat} {v : Value} (A : AV Z h a .long vs) (h0 : ¬ j < 0) (hi : j.toNatClampNeg = i) (hv : vs[i]? = some v) (hd : decode code pc = .ok (.laload, 1)) (hp : pc + 1 = pc') (g : Goes p e below K T m pc' L (v :: S)) : Goes p e below K T m pc L (.int j :: .ref a :: S) := by
  obtain ⟨hx, hZ, hby, hml, hown, hnm, hret, hlk, hn, locs, X, eT, N⟩ := X
  obtain ⟨cl, A, r, -⟩ := A
  subst hp
  obtain ⟨u1, a1, b1⟩ := g
  exact ⟨u1, X.laload hx (by rw [eT]; exact A.1) (State.isArrayOf_alike hZ.alike A.2.1) A.2.2 (av_in r h0 hi (List.getElem?_eq_some_iff.mp hv).1) (by rw [hi]; exact av_at r hv) (g := mkF m pc L (.int j :: .ref a :: S)) rfl rfl (hb hby hd) _ a1, b1⟩
theorem w_caload (X : Wk p l e R s m args below meth c Z n0 y code ml ret T cells slots h) {a : Addr} {vs : List Value} {j : Int32} {i : Nat} {v : Value} (A : AV Z h a .char vs) (h0 : ¬ j < 0) (hi : j.toNatClampNeg = i) (hv : vs[i]? = some v) (hd : decode code pc = .ok (.caload, 1)) (hp : pc + 1 = pc') (g : Goes p e below K T m pc' L (v :: S)) : Goes p e below K T m pc L (.int j :: .ref a :: S) := by
  obtain ⟨hx, hZ, hby, hml, hown, hnm, hret, hlk, hn, locs, X, eT, N⟩ := X
  obtain ⟨cl, A, r, -⟩ := A
  subst hp
  obtain ⟨u1, a1, b1⟩ := g
  exact ⟨u1, X.caload hx (by rw [eT]; exact A.1) (State.isArrayOf_alike hZ.alike A.2.1) A.2.2 (av_in r h0 hi (List.getElem?_eq_some_iff.mp hv).1) (by rw [hi]; exact av_at r hv) (g := mkF m pc L (.int j :: .ref a :: S)) rfl rfl (hb hby hd) _ a1, b1⟩
theorem w_baloadB (X : Wk p l e R s m args below meth c Z n0 y code ml ret T cells slots h) {a : Addr} {vs : List Value} {j : Int32} {i : Nat} {v : Value} (A : AV Z h a .byte vs) (h0 : ¬ j < 0) (hi : j.toNatClampNeg = i) (hv : vs[i]? = some v) (hd : decode code pc = .ok (.baload, 1)) (hp : pc + 1 = pc') (g : Goes p e below K T m pc' L (v :: S)) : Goes p e below K T m pc L (.int j :: .ref a :: S) := by
  obtain ⟨hx, hZ, hby, hml, hown, hnm, hret, hlk, hn, locs, X, eT, N⟩ := X
  obtain ⟨cl, A, r, -⟩ := A
  subst hp
  obtain ⟨u1, a1, b1⟩ := g
  exact ⟨u1, X.baloadBytes hx (by rw [eT]; exact A.1) (State.isArrayOf_alike hZ.alike A.2.1) A.2.2 (av_in r h0 hi (List.getElem?_eq_some_iff.mp hv).1) (by rw [hi]; exact av_at r hv) (g := mkF m pc L (.int j :: .ref a :: S)) rfl rfl (hb hby hd) _ a1, b1⟩
theorem w_baloadZ (X : Wk p l e R s m args below meth c Z n0 y code ml ret T cells slots h) {a : Addr} {vs : List Value} {j : Int32} {i : Nat} {v : Value} (A : AV Z h a .boolean vs) (h0 : ¬ j < 0) (hi : j.toNatClampNeg = i) (hv : vs[i]? = some v) (hd : decode code pc = .ok (.baload, 1)) (hp : pc + 1 = pc') (g : Goes p e below K T m pc' L (v :: S)) : Goes p e below K T m pc L (.int j :: .ref a :: S) := by
  obtain ⟨hx, hZ, hby, hml, hown, hnm, hret, hlk, hn, locs, X, eT, N⟩ := X
  obtain ⟨cl, A, r, -⟩ := A
  subst hp
  obtain ⟨u1, a1, b1⟩ := g
  exact ⟨u1, X.baloadBooleans hx (by rw [eT]; exact A.1) (State.isArrayOf_alike hZ.alike A.2.1) A.2.2 (av_in r h0 hi (List.getElem?_eq_some_iff.mp hv).1) (by rw [hi]; exact av_at r hv) (g := mkF m pc L (.int j :: .ref a :: S)) rfl rfl (hb hby hd) _ a1, b1⟩
theorem w_arraylength (X : Wk p l e R s m args below meth c Z n0 y code ml ret T cells slots h) {a : Addr} {ty : FieldType} {vs : List Value} {n : Int32} (A : AV Z h a ty vs) (hn : vs.length.toInt32 = n) (hd : decode code pc = .ok (.arraylength, 1)) (hp : pc + 1 = pc') (g : Goes p e below K T m pc' L (.int n :: S)) : Goes p e below K T m pc L (.ref a :: S) := by
  obtain ⟨hx, hZ, hby, hml, hown, hnm, hret, hlk, hn', locs, X, eT, N⟩ := X
  obtain ⟨cl, A, r, -⟩ := A
  have q : cl.slots.size.toInt32 = n := by rw [← hn, ← r]; simp
  subst hp q
  obtain ⟨u1, a1, b1⟩ := g
  exact ⟨u1, X.arraylength hx (by rw [eT]; exact A.1) (State.isArrayOf_alike hZ.alike A.2.1) (g := mkF m pc L (.ref a :: S)) rfl rfl (hb hby hd) _ a1, b1⟩
theorem w_iastore (X : Wk p l e R s m args below meth c Z n0 y code ml ret T cells slots h) {a : Addr} {vs : List Value} {j : Int32} {i : Nat} {x : Int32} (A : AV Z h a .int vs) (h0 : ¬ j < 0) (hi : j.toNatClampNeg = i) (hlt : i < vs.length) (ha : n0 ≤ a) (hd : decode code pc = .ok (.iastore, 1)) (hp : pc + 1 = pc') (g : ∀ T' h', Wk p l e R s m args below meth c Z n0 y code ml ret T' cells slots h' → Wr h h' a i (.int x) → AV Z h' a .int (vs.set i (.int x)) → Goes p e below K T' m pc' L S) : Goes p e below K T m pc L (.int x :: .int j :: .ref a :: S) := by
  obtain ⟨hx, hZ, hby, hml, hown, hnm, hret, hlk, hn, locs, X, eT, N⟩ := X
  have A0 := A
  obtain ⟨cl, A, r, -⟩ := A
  subst hp hi
  obtain ⟨T1, h1, X1, e1, W1, st⟩ := stI X hx hZ eT A (j := j) (av_in r h0 rfl hlt) (g := mkF m pc L (.int x :: .int j :: .ref a :: S)) rfl rfl (hb hby hd)
  obtain ⟨u1, a1, b1⟩ := g _ _ ⟨hx, hZ, hby, hml, hown, hnm, hret, hlk, W1.size.symm ▸ hn, _, X1, e1, Fr.snoc X1 N ha⟩ W1 (A0.set W1)
  exact ⟨u1, st _ a1, b1⟩
theorem w_lastore (X : Wk p l e R s m args below meth c Z n0 y code ml ret T cells slots h) {a : Addr} {vs : List Value} {j : Int32} {i : Nat} {x : Int64} (A : AV Z h a .long vs) (h0 : ¬ j < 0) (hi : j.toNatClampNeg = i) (hlt : i < vs.length) (ha : n0 ≤ a) (hd : decode code pc = .ok (.lastore, 1)) (hp : pc + 1 = pc') (g : ∀ T' h', Wk p l e R s m args below meth c Z n0 y code ml ret T' cells slots h' → Wr h h' a i (.long x) → AV Z h' a .long (vs.set i (.long x)) → Goes p e below K T' m pc' L S) : Goes p e below K T m pc L (.long x :: .int j :: .ref a :: S) := by
  obtain ⟨hx, hZ, hby, hml, hown, hnm, hret, hlk, hn, locs, X, eT, N⟩ := X
  have A0 := A
  obtain ⟨cl, A, r, -⟩ := A
  subst hp hi
  obtain ⟨T1, h1, X1, e1, W1, st⟩ := stJ X hx hZ eT A (j := j) (av_in r h0 rfl hlt) (g := mkF m pc L (.long x :: .int j :: .ref a :: S)) rfl rfl (hb hby hd)
  obtain ⟨u1, a1, b1⟩ := g _ _ ⟨hx, hZ, hby, hml, hown, hnm, hret, hlk, W1.size.symm ▸ hn, _, X1, e1, Fr.snoc X1 N ha⟩ W1 (A0.set W1)
  exact ⟨u1, st _ a1, b1⟩
theorem w_castore (X : Wk p l e R s m args below meth c Z n0 y code ml ret T cells slots h) {a : Addr} {vs : List Value} {j : Int32} {i : Nat} {x : Int32} (A : AV Z h a .char vs) (h0 : ¬ j < 0) (hi : j.toNatClampNeg = i) (hlt : i < vs.length) (ha : n0 ≤ a) (hd : decode code pc = .ok (.castore, 1)) (hp : pc + 1 = pc') (g : ∀ T' h', Wk p l e R s m args below meth c Z n0 y code ml ret T' cells slots h' → Wr h h' a i (.int (nar .char x)) → AV Z h' a .char (vs.set i (.int (nar .char x))) → Goes p e below K T' m pc' L S) : Goes p e below K T m pc L (.int x :: .int j :: .ref a :: S) := by
  obtain ⟨hx, hZ, hby, hml, hown, hnm, hret, hlk, hn, locs, X, eT, N⟩ := X
  have A0 := A
  obtain ⟨cl, A, r, -⟩ := A
  subst hp hi
  obtain ⟨T1, h1, X1, e1, W1, st⟩ := stC X hx hZ eT A (j := j) (av_in r h0 rfl hlt) (g := mkF m pc L (.int x :: .int j :: .ref a :: S)) rfl rfl (hb hby hd)
  obtain ⟨u1, a1, b1⟩ := g _ _ ⟨hx, hZ, hby, hml, hown, hnm, hret, hlk, W1.size.symm ▸ hn, _, X1, e1, Fr.snoc X1 N ha⟩ W1 (A0.set W1)
  exact ⟨u1, st _ a1, b1⟩
theorem w_bastoreB (X : Wk p l e R s m args below meth c Z n0 y code ml ret T cells slots h) {a : Addr} {vs : List Value} {j : Int32} {i : Nat} {x : Int32} (A : AV Z h a .byte vs) (h0 : ¬ j < 0) (hi : j.toNatClampNeg = i) (hlt : i < vs.length) (ha : n0 ≤ a) (hd : decode code pc = .ok (.bastore, 1)) (hp : pc + 1 = pc') (g : ∀ T' h', Wk p l e R s m args below meth c Z n0 y code ml ret T' cells slots h' → Wr h h' a i (.int (nar .byte x)) → AV Z h' a .byte (vs.set i (.int (nar .byte x))) → Goes p e below K T' m pc' L S) : Goes p e below K T m pc L (.int x :: .int j :: .ref a :: S) := by
  obtain ⟨hx, hZ, hby, hml, hown, hnm, hret, hlk, hn, locs, X, eT, N⟩ := X
  have A0 := A
  obtain ⟨cl, A, r, -⟩ := A
  subst hp hi
  obtain ⟨T1, h1, X1, e1, W1, st⟩ := stB X hx hZ eT A (j := j) (av_in r h0 rfl hlt) (g := mkF m pc L (.int x :: .int j :: .ref a :: S)) rfl rfl (hb hby hd)
  obtain ⟨u1, a1, b1⟩ := g _ _ ⟨hx, hZ, hby, hml, hown, hnm, hret, hlk, W1.size.symm ▸ hn, _, X1, e1, Fr.snoc X1 N ha⟩ W1 (A0.set W1)
  exact ⟨u1, st _ a1, b1⟩
theorem w_bastoreZ (X : Wk p l e R s m args below meth c Z n0 y code ml ret T cells slots h) {a : Addr} {vs : List Value} {j : Int32} {i : Nat} {x : Int32} (A : AV Z h a .boolean vs) (h0 : ¬ j < 0) (hi : j.toNatClampNeg = i) (hlt : i < vs.length) (ha : n0 ≤ a) (hd : decode code pc = .ok (.bastore, 1)) (hp : pc + 1 = pc') (g : ∀ T' h', Wk p l e R s m args below meth c Z n0 y code ml ret T' cells slots h' → Wr h h' a i (.int (nar .boolean x)) → AV Z h' a .boolean (vs.set i (.int (nar .boolean x))) → Goes p e below K T' m pc' L S) : Goes p e below K T m pc L (.int x :: .int j :: .ref a :: S) := by
  obtain ⟨hx, hZ, hby, hml, hown, hnm, hret, hlk, hn, locs, X, eT, N⟩ := X
  have A0 := A
  obtain ⟨cl, A, r, -⟩ := A
  subst hp hi
  obtain ⟨T1, h1, X1, e1, W1, st⟩ := stZ X hx hZ eT A (j := j) (av_in r h0 rfl hlt) (g := mkF m pc L (.int x :: .int j :: .ref a :: S)) rfl rfl (hb hby hd)
  obtain ⟨u1, a1, b1⟩ := g _ _ ⟨hx, hZ, hby, hml, hown, hnm, hret, hlk, W1.size.symm ▸ hn, _, X1, e1, Fr.snoc X1 N ha⟩ W1 (A0.set W1)
  exact ⟨u1, st _ a1, b1⟩
theorem getI {xs : List Int32} {i : Nat} (q : i < xs.length) : (xs.map Value.int)[i]? = some (.int (xs.getD i 0)) := by
  simp [List.getD_eq_getElem?_getD, List.getElem?_eq_getElem q]
theorem getL {xs : List Int64} {i : Nat} (q : i < xs.length) : (xs.map Value.long)[i]? = some (.long (xs.getD i 0)) := by
  simp [List.getD_eq_getElem?_getD, List.getElem?_eq_getElem q]
/-- a new name for a value -/
theorem nameI {K' : Prop} (v : Int32) (g : ∀ z, z = v → K') : K' := g v rfl
theorem nameL {K' : Prop} (v : Int64) (g : ∀ z, z = v → K') : K' := g v rfl
end Rules
end Jvm.Own
namespace Jvm.Pilot.@@N@@
open Jvm Jvm.ClassFile Sem Op Lib Jvm.Free Jvm.Stand Jvm.LawKit Jvm.RoadKit Bundle Jvm.Own Jvm.Pilot.@@N@@.Jvm.D
def four : List Int32 := [0, 1, 2, 3]
def five : List Int32 := [0, 1, 2, 3, 4]
def S4 : List (List Int32) := four.flatMap fun a => four.flatMap fun b => four.flatMap fun c => four.map fun d => [a, b, c, d]
def g4 (xs : List Int32) (x : Int32) : Int32 := xs.getD x.toNatClampNeg 0
def okb (hs : List Int32) (c : Int32) : Bool := match hs with
  | [a, b, d, e] => (decide (c < 2) || decide (a ≠ b)) && (decide (c < 3) || (decide (a ≠ d) && decide (b ≠ d))) && (decide (c < 4) || (decide (a ≠ e) && decide (b ≠ e) && decide (d ≠ e)))
  | _ => false
def pl1 (hs : List Int32) (c x : Int32) : Int32 := match hs with
  | [a, b, d, e] => if 0 < c ∧ a = x then 0 else if 1 < c ∧ b = x then 1 else if 2 < c ∧ d = x then 2 else if 3 < c ∧ e = x then 3 else -1
  | _ => -1
def plc (hs : List Int32) (c : Int32) : List Int32 := [pl1 hs c 0, pl1 hs c 1, pl1 hs c 2, pl1 hs c 3]
def b1 (x : Int32) : Int32 := if x < 0 then 0 else 1
def mm (hs : List Int32) (c : Int32) : List Int32 := [b1 (pl1 hs c 0), b1 (pl1 hs c 1), b1 (pl1 hs c 2), b1 (pl1 hs c 3)]
def prs : List (Int32 × Int32) := [(1, 0), (2, 0), (3, 1), (0, 1), (0, 2), (1, 3)]
theorem D0 : ∀ x ∈ four, ¬ x < 0 ∧ x.toNatClampNeg < 4 ∧ 0 ≤ x.toInt ∧ x.toInt < 4 := by decide +kernel
theorem DN4 : ∀ x ∈ four, ∀ y ∈ four, x ≠ y → x.toNatClampNeg ≠ y.toNatClampNeg := by decide +kernel
theorem DLen : ∀ hs ∈ S4, hs.length = 4 ∧ ∀ x ∈ four, hs.getD x.toNatClampNeg 0 ∈ four := by decide +kernel
theorem DSet : ∀ hs ∈ S4, ∀ i ∈ four, ∀ x ∈ four, hs.set i.toNatClampNeg x ∈ S4 := by decide +kernel
theorem DPar : ∀ p ∈ four, ¬ 0 < p ∨ (((p - (1 : Int32)) / (2 : Int32)) ∈ four ∧ (p, ((p - (1 : Int32)) / (2 : Int32))) ∈ prs ∧ ((p - (1 : Int32)) / (2 : Int32)) < p) := by decide +kernel
theorem DChi : ∀ c ∈ five, ∀ p ∈ four, (((2 : Int32) * p) + (1 : Int32)) < c → (((2 : Int32) * p) + (1 : Int32)) ∈ four ∧ (p, (((2 : Int32) * p) + (1 : Int32))) ∈ prs ∧ p < (((2 : Int32) * p) + (1 : Int32)) := by decide +kernel
theorem DChj : ∀ c ∈ five, ∀ p ∈ four, ((((2 : Int32) * p) + (1 : Int32)) + (1 : Int32)) < c → ((((2 : Int32) * p) + (1 : Int32)) + (1 : Int32)) ∈ four ∧ (p, ((((2 : Int32) * p) + (1 : Int32)) + (1 : Int32))) ∈ prs ∧ p < ((((2 : Int32) * p) + (1 : Int32)) + (1 : Int32)) := by decide +kernel
theorem DPrs : ∀ q ∈ prs, q.1 ∈ four ∧ q.2 ∈ four ∧ q.1 ≠ q.2 := by decide +kernel
theorem DPl : ∀ hs ∈ S4, ∀ c ∈ five, okb hs c = true → ∀ x ∈ four, ¬ (plc hs c).getD x.toNatClampNeg 0 < 0 → (plc hs c).getD x.toNatClampNeg 0 ∈ four ∧ (plc hs c).getD x.toNatClampNeg 0 < c ∧ hs.set ((plc hs c).getD x.toNatClampNeg 0).toNatClampNeg x = hs ∧ (plc hs c).set x.toNatClampNeg ((plc hs c).getD x.toNatClampNeg 0) = plc hs c := by decide +kernel
theorem DSw : ∀ hs ∈ S4, ∀ c ∈ five, okb hs c = true → ∀ q ∈ prs, q.1 < c → q.2 < c → g4 hs q.1 ≠ g4 hs q.2 ∧ okb ((hs.set q.1.toNatClampNeg (g4 hs q.2)).set q.2.toNatClampNeg (g4 hs q.1)) c = true ∧ plc ((hs.set q.1.toNatClampNeg (g4 hs q.2)).set q.2.toNatClampNeg (g4 hs q.1)) c = ((plc hs c).set (g4 hs q.2).toNatClampNeg q.1).set (g4 hs q.1).toNatClampNeg q.2 ∧ mm ((hs.set q.1.toNatClampNeg (g4 hs q.2)).set q.2.toNatClampNeg (g4 hs q.1)) c = mm hs c := by decide +kernel
theorem DIn : ∀ hs ∈ S4, ∀ c ∈ five, okb hs c = true → ∀ x ∈ four, (plc hs c).getD x.toNatClampNeg 0 < 0 → c ∈ four ∧ (c + (1 : Int32)) ∈ five ∧ okb (hs.set c.toNatClampNeg x) (c + (1 : Int32)) = true ∧ (plc hs c).set x.toNatClampNeg c = plc (hs.set c.toNatClampNeg x) (c + (1 : Int32)) ∧ mm (hs.set c.toNatClampNeg x) (c + (1 : Int32)) = (mm hs c).set x.toNatClampNeg 1 ∧ ¬ (plc (hs.set c.toNatClampNeg x) (c + (1 : Int32))).getD x.toNatClampNeg 0 < 0 := by decide +kernel
theorem DMx : ∀ hs ∈ S4, ∀ c ∈ five, ∀ x ∈ four, ((plc hs c).getD x.toNatClampNeg 0 < 0 → (mm hs c).getD x.toNatClampNeg 0 = 0 ∧ (mm hs c).set x.toNatClampNeg 0 = mm hs c) ∧ (¬ (plc hs c).getD x.toNatClampNeg 0 < 0 → (mm hs c).getD x.toNatClampNeg 0 = 1 ∧ (mm hs c).set x.toNatClampNeg 1 = mm hs c) := by decide +kernel
theorem DRm : ∀ hs ∈ S4, ∀ c ∈ five, okb hs c = true → ∀ x ∈ four, ¬ (plc hs c).getD x.toNatClampNeg 0 < 0 → (c - (1 : Int32)) ∈ four ∧ (c - (1 : Int32)) ∈ five ∧ g4 hs (c - (1 : Int32)) ∈ four ∧
    (g4 hs (c - (1 : Int32)) = x → okb hs (c - (1 : Int32)) = true ∧ (plc hs c).set x.toNatClampNeg (-1 : Int32) = plc hs (c - (1 : Int32)) ∧ mm hs (c - (1 : Int32)) = (mm hs c).set x.toNatClampNeg 0) ∧
    (¬ g4 hs (c - (1 : Int32)) = x → okb (hs.set ((plc hs c).getD x.toNatClampNeg 0).toNatClampNeg (g4 hs (c - (1 : Int32)))) (c - (1 : Int32)) = true ∧ ((plc hs c).set x.toNatClampNeg (-1 : Int32)).set (g4 hs (c - (1 : Int32))).toNatClampNeg ((plc hs c).getD x.toNatClampNeg 0) = plc (hs.set ((plc hs c).getD x.toNatClampNeg 0).toNatClampNeg (g4 hs (c - (1 : Int32)))) (c - (1 : Int32)) ∧ mm (hs.set ((plc hs c).getD x.toNatClampNeg 0).toNatClampNeg (g4 hs (c - (1 : Int32)))) (c - (1 : Int32)) = (mm hs c).set x.toNatClampNeg 0 ∧ ¬ (plc (hs.set ((plc hs c).getD x.toNatClampNeg 0).toNatClampNeg (g4 hs (c - (1 : Int32)))) (c - (1 : Int32))).getD (g4 hs (c - (1 : Int32))).toNatClampNeg 0 < 0) := by decide +kernel
theorem DCn : ∀ hs ∈ S4, ∀ c ∈ five, okb hs c = true → c = g4 (mm hs c) 0 + g4 (mm hs c) 1 + g4 (mm hs c) 2 + g4 (mm hs c) 3 := by decide +kernel
theorem own_fin (z : Int32) (n : Nat) (h0 : 0 ≤ z.toInt) (h1 : z.toInt < n) : ∃ k : Fin n, z = Int32.ofNat k.val := by
  refine ⟨⟨z.toInt.toNat, by omega⟩, ?_⟩
  apply Int32.toInt_inj.mp
  have := z.toInt_lt
  rw [Int32.toInt_ofNat_of_lt (by show z.toInt.toNat < 2 ^ 31; omega)]
  show z.toInt = ((z.toInt.toNat : Nat) : Int)
  omega
theorem own_four (x : Int32) : x &&& (3 : Int32) ∈ four := by
  obtain ⟨q1, q2⟩ := c_and x 3 (by decide)
  have e : (3 : Int32).toInt = 3 := by decide
  obtain ⟨k, hk⟩ := own_fin (x &&& 3) 4 q1 (by omega)
  rw [hk]; clear hk q1 q2; revert k; decide
theorem set_vir (H : List Int32) (i j : Nat) (x y : Int32) : ((H.set i x).set i y).set j x = (H.set i y).set j x := by rw [List.set_set]
theorem set_virP (P : List Int32) (a b : Nat) (h : a ≠ b) (u v : Int32) : ((P.set a u).set b u).set a v = (P.set b u).set a v := by
  rw [List.set_comm _ _ h, List.set_set]
theorem get_set (H : List Int32) (i : Nat) (x : Int32) (h : i < H.length) : (H.set i x).getD i 0 = x := by
  rw [List.getD_eq_getElem?_getD, List.getElem?_set_self h]; rfl
theorem get_set_ne (H : List Int32) (i j : Nat) (x : Int32) (h : i ≠ j) : (H.set i x).getD j 0 = H.getD j 0 := by
  rw [List.getD_eq_getElem?_getD, List.getElem?_set_ne h, ← List.getD_eq_getElem?_getD]
def mv (hs : List Int32) (p q x : Int32) : List Int32 := (hs.set p.toNatClampNeg (g4 hs q)).set q.toNatClampNeg x
theorem DMem : ∀ hs ∈ S4, ∀ c ∈ five, okb hs c = true → ∀ i ∈ four, i < c → g4 (mm hs c) (g4 hs i) = 1 := by decide +kernel
/-- one move of the place p to q: what stands for the whole -/
theorem own_mv (hs H P : List Int32) (c p q x : Int32) (hs4 : hs ∈ S4) (hc : c ∈ five) (ho : okb hs c = true) (hpq : (p, q) ∈ prs) (hp : p < c) (hq : q < c) (v1 : H.set p.toNatClampNeg x = hs) (v2 : P.set x.toNatClampNeg p = plc hs c) (hl : H.length = 4) (hx : x ∈ four) :
    mv hs p q x ∈ S4 ∧ okb (mv hs p q x) c = true ∧ mm (mv hs p q x) c = mm hs c ∧ (H.set p.toNatClampNeg (H.getD q.toNatClampNeg 0)).set q.toNatClampNeg x = mv hs p q x ∧ (P.set (H.getD q.toNatClampNeg 0).toNatClampNeg p).set x.toNatClampNeg q = plc (mv hs p q x) c ∧ H.getD q.toNatClampNeg 0 ∈ four ∧ H.getD q.toNatClampNeg 0 = g4 hs q ∧ g4 (mm hs c) (g4 hs q) = 1 := by
  obtain ⟨p4, q4, pq⟩ := DPrs _ hpq
  have nn := DN4 _ p4 _ q4 pq
  have gp : g4 hs p = x := by rw [← v1]; exact get_set H _ x (by rw [hl]; exact (D0 _ p4).2.1)
  have gq : g4 hs q = H.getD q.toNatClampNeg 0 := by rw [← v1]; exact get_set_ne H _ _ x nn
  obtain ⟨n1, n2, n3, n4⟩ := DSw hs hs4 c hc ho (p, q) hpq hp hq
  dsimp only at n1 n2 n3 n4
  have y4 : g4 hs q ∈ four := (DLen hs hs4).2 q q4
  have m1 : hs.set p.toNatClampNeg (g4 hs q) ∈ S4 := DSet hs hs4 p p4 _ y4
  have m2 : (hs.set p.toNatClampNeg (g4 hs q)).set q.toNatClampNeg (g4 hs p) ∈ S4 := DSet _ m1 q q4 _ (by rw [gp]; exact hx)
  have nxy : x.toNatClampNeg ≠ (g4 hs q).toNatClampNeg := DN4 _ hx _ y4 (by rw [← gp]; exact n1)
  rw [gp] at m2 n2 n3 n4
  refine ⟨m2, n2, n4, ?_, ?_, by rw [← gq]; exact y4, gq.symm, DMem hs hs4 c hc ho q q4 hq⟩
  · rw [← gq, mv, ← set_vir H p.toNatClampNeg q.toNatClampNeg x (g4 hs q), v1]
  · rw [← gq, mv, n3, ← v2, set_virP _ _ _ nxy]
def up (bf : Int32 → Int32 → Int32) : Nat → List Int32 → Int32 → Int32 → List Int32
  | 0, hs, _, _ => hs
  | k + 1, hs, pl, x => if 0 < pl then (if bf x (g4 hs ((pl - (1 : Int32)) / (2 : Int32))) = 0 then hs else up bf k (mv hs pl ((pl - (1 : Int32)) / (2 : Int32)) x) ((pl - (1 : Int32)) / (2 : Int32)) x) else hs
def dn (bf : Int32 → Int32 → Int32) (c : Int32) : Nat → List Int32 → Int32 → Int32 → List Int32
  | 0, hs, _, _ => hs
  | k + 1, hs, pl, x => if (((2 : Int32) * pl) + (1 : Int32)) < c then (if ((((2 : Int32) * pl) + (1 : Int32)) + (1 : Int32)) < c then (if bf (g4 hs ((((2 : Int32) * pl) + (1 : Int32)) + (1 : Int32))) (g4 hs (((2 : Int32) * pl) + (1 : Int32))) = 0 then (if bf (g4 hs (((2 : Int32) * pl) + (1 : Int32))) x = 0 then hs else dn bf c k (mv hs pl (((2 : Int32) * pl) + (1 : Int32)) x) (((2 : Int32) * pl) + (1 : Int32)) x) else (if bf (g4 hs ((((2 : Int32) * pl) + (1 : Int32)) + (1 : Int32))) x = 0 then hs else dn bf c k (mv hs pl ((((2 : Int32) * pl) + (1 : Int32)) + (1 : Int32)) x) ((((2 : Int32) * pl) + (1 : Int32)) + (1 : Int32)) x)) else (if bf (g4 hs (((2 : Int32) * pl) + (1 : Int32))) x = 0 then hs else dn bf c k (mv hs pl (((2 : Int32) * pl) + (1 : Int32)) x) (((2 : Int32) * pl) + (1 : Int32)) x)) else hs
theorem own_lt (a b c : Int32) (h1 : a < b) (h2 : b < c) : a < c := by rw [Int32.lt_iff_toInt_lt] at *; omega
theorem own_ltI (a b : Int32) (h : a < b) : a.toInt < b.toInt := Int32.lt_iff_toInt_lt.mp h
theorem own_ml (hs : List Int32) (c : Int32) (hs4 : hs ∈ S4) (hc : c ∈ five) (x : Int32) (hx : x ∈ four) (h : ¬ (plc hs c).getD x.toNatClampNeg 0 < 0) : g4 (mm hs c) x = 1 := ((DMx hs hs4 c hc x hx).2 h).1

theorem own_pl (hs : List Int32) (c : Int32) (hs4 : hs ∈ S4) (hc : c ∈ five) (x : Int32) (hx : x ∈ four) (h : g4 (mm hs c) x = 1) : ¬ (plc hs c).getD x.toNatClampNeg 0 < 0 := fun q => by
  have e := ((DMx hs hs4 c hc x hx).1 q).1
  rw [g4, e] at h; exact absurd h (by decide)
theorem own_g1 (L : List Int32) (hl : L.length = 4) (x : Int32) (hx : x ∈ four) : g4 (L.set x.toNatClampNeg 1) x = 1 := get_set L _ 1 (by rw [hl]; exact (D0 _ hx).2.1)
def putI (hs : List Int32) (c x : Int32) : List Int32 := if g4 (plc hs c) x < 0 then hs.set c.toNatClampNeg x else hs
def putC (hs : List Int32) (c x : Int32) : Int32 := if g4 (plc hs c) x < 0 then c + 1 else c
def sift (bf : Int32 → Int32 → Int32) (hs : List Int32) (c x : Int32) : List Int32 := dn bf c 5 (up bf 4 hs (g4 (plc hs c) x) x) (g4 (plc (up bf 4 hs (g4 (plc hs c) x) x) c) x) x
def putH (bf : Int32 → Int32 → Int32) (hs : List Int32) (c x : Int32) : List Int32 := sift bf (putI hs c x) (putC hs c x) x
def remC (hs : List Int32) (c x : Int32) : Int32 := if g4 (plc hs c) x < 0 then c else c - 1
def remH (bf : Int32 → Int32 → Int32) (hs : List Int32) (c x : Int32) : List Int32 := if g4 (plc hs c) x < 0 then hs else (if g4 hs (c - 1) = x then hs else sift bf (hs.set (g4 (plc hs c) x).toNatClampNeg (g4 hs (c - 1))) (c - 1) (g4 hs (c - 1)))
theorem DCn2 : ∀ hs ∈ S4, ∀ c ∈ five, okb hs c = true → c = (if g4 (mm hs c) (0 : Int32) = 0 then (0 : Int32) else (1 : Int32)) + (if g4 (mm hs c) (1 : Int32) = 0 then (0 : Int32) else (1 : Int32)) + (if g4 (mm hs c) (2 : Int32) = 0 then (0 : Int32) else (1 : Int32)) + (if g4 (mm hs c) (3 : Int32) = 0 then (0 : Int32) else (1 : Int32)) := by decide +kernel
theorem own_ct (hs : List Int32) (c x : Int32) (hs4 : hs ∈ S4) (hc : c ∈ five) (hx : x ∈ four) : (if ((plc hs c).getD (x).toNatClampNeg 0) < 0 then (0 : Int32) else (1 : Int32)) = (mm hs c).getD (x).toNatClampNeg 0 := by
  by_cases q : (plc hs c).getD x.toNatClampNeg 0 < 0
  · rw [if_pos q, ((DMx hs hs4 c hc x hx).1 q).1]
  · rw [if_neg q, ((DMx hs hs4 c hc x hx).2 q).1]
def ONs (Z : State) (h : Heap) (o1 ha pa wa ra : Addr) (H P : List Int32) (c : Int32) (ws : List Int32) (rs : List Int64) : Prop :=
  Exa Z h o1 "com/example/knotweave/knotweave/OpenNeeds" ∧ Fld Z h o1 "com/example/knotweave/knotweave/OpenNeeds" "heap" "[I" (.ref ha) ∧ Fld Z h o1 "com/example/knotweave/knotweave/OpenNeeds" "placeOf" "[I" (.ref pa) ∧ Fld Z h o1 "com/example/knotweave/knotweave/OpenNeeds" "waysOf" "[I" (.ref wa) ∧ Fld Z h o1 "com/example/knotweave/knotweave/OpenNeeds" "rankOf" "[J" (.ref ra) ∧ Fld Z h o1 "com/example/knotweave/knotweave/OpenNeeds" "count" "I" (.int c) ∧ AV Z h ha .int (H.map Value.int) ∧ AV Z h pa .int (P.map Value.int) ∧ AV Z h wa .int (ws.map Value.int) ∧ AV Z h ra .long (rs.map Value.long)
def Dst (o1 ha pa wa ra : Addr) : Prop := o1 ≠ ha ∧ o1 ≠ pa ∧ o1 ≠ wa ∧ o1 ≠ ra ∧ ha ≠ pa ∧ ha ≠ wa ∧ ha ≠ ra ∧ pa ≠ wa ∧ pa ≠ ra ∧ wa ≠ ra
def Ges (n0 : Nat) (o1 ha pa wa ra : Addr) : Prop := n0 ≤ o1 ∧ n0 ≤ ha ∧ n0 ≤ pa ∧ n0 ≤ wa ∧ n0 ≤ ra
theorem d6_0 : decode prog_39_method_9_code 0 = .ok (.aload_n 0, 1) := by decide +kernel
theorem d6_1 : decode prog_39_method_9_code 1 = .ok (.getfield 7, 3) := by decide +kernel
theorem d6_4 : decode prog_39_method_9_code 4 = .ok (.iload_n 2, 1) := by decide +kernel
theorem d6_5 : decode prog_39_method_9_code 5 = .ok (.iload_n 1, 1) := by decide +kernel
theorem d6_6 : decode prog_39_method_9_code 6 = .ok (.iastore, 1) := by decide +kernel
theorem d6_7 : decode prog_39_method_9_code 7 = .ok (.aload_n 0, 1) := by decide +kernel
theorem d6_8 : decode prog_39_method_9_code 8 = .ok (.getfield 13, 3) := by decide +kernel
theorem d6_11 : decode prog_39_method_9_code 11 = .ok (.iload_n 1, 1) := by decide +kernel
theorem d6_12 : decode prog_39_method_9_code 12 = .ok (.iload_n 2, 1) := by decide +kernel
theorem d6_13 : decode prog_39_method_9_code 13 = .ok (.iastore, 1) := by decide +kernel
theorem d6_14 : decode prog_39_method_9_code 14 = .ok (.return_, 1) := by decide +kernel
theorem pn_6 : plainName "com/example/knotweave/knotweave/OpenNeeds" = true := by first | (simp [plainName, overriddenIn]; done) | decide +kernel
theorem ef_6 (m : MethodId) (o1 : Addr) (p2 : Int32) (p3 : Int32) : entryFrame m #[(.ref o1), (.int p2), (.int p3)] 3 = mkF m 0 #[.val (.ref o1), .val (.int p2), .val (.int p3)] [] := by first | (simp [entryFrame, mkF, argsToLocals, Value.category]; done) | rfl
set_option maxRecDepth 65536 in
set_option maxHeartbeats 4000000 in
theorem rm_settle (l : Launch) (Z : State) (a0 : Array Value) (hw : ∀ d ∈ tables_1, d.before a0 Z = true) (o1 : Addr) (p2 : Int32) (p3 : Int32) (ha : Addr) (pa : Addr) (wa : Addr) (ra : Addr) (H : List Int32) (P : List Int32) (c0 : Int32) (ws : List Int32) (rs : List Int64) (h0 : Heap) (n0 : Nat) (Z0 : n0 ≤ h0.size) (O : ONs Z h0 o1 ha pa wa ra H P c0 ws rs) (D : Dst o1 ha pa wa ra) (G : Ges n0 o1 ha pa wa ra) (hp : p2 ∈ four) (hq : p3 ∈ four) (lH : H.length = 4) (lP : P.length = 4) :
    Con l Z (⟨"com/example/knotweave/knotweave/OpenNeeds", "settle", "(II)V"⟩ : MethodName) prog_39_method_9_code 3 none ({ frames := 0, cells := 0, slots := 0, locals := 0 } : Room) #[(.ref o1), (.int p2), (.int p3)] h0 n0 none (fun h => Keep h0 h [o1, ha, pa, wa, ra] ∧ ONs Z h o1 ha pa wa ra (H.set (p3).toNatClampNeg p2) (P.set (p2).toNatClampNeg p3) c0 ws rs) := by
  refine con_of (plainFor_of_name pn_6) Z0 (fun m => ef_6 m o1 p2 p3) ?_
  intro p e s m below meth c T0 X0
  obtain ⟨E_o, F_h, F_p, F_w, F_r, F_c, A_h, A_p, A_w, A_r⟩ := O
  obtain ⟨ne_o1_ha, ne_o1_pa, ne_o1_wa, ne_o1_ra, ne_ha_pa, ne_ha_wa, ne_ha_ra, ne_pa_wa, ne_pa_ra, ne_wa_ra⟩ := D
  obtain ⟨g_o1, g_ha, g_pa, g_wa, g_ra⟩ := G
  refine w_aloadN X0 d6_0 rfl rfl rfl ?_
  refine w_getF X0 (host := "") (Or.inl (hw _ (List.mem_of_getElem? (i := 11) rfl))) Via.refl F_h d6_1 rfl fun T1 X2 => ?_
  refine w_iloadN X2 d6_4 rfl rfl ?_
  refine w_iloadN X2 d6_5 rfl rfl ?_
  refine w_iastore X2 A_h (D0 _ hq).1 rfl (by rw [List.length_map]; exact (by rw [lH]; exact (D0 _ hq).2.1)) g_ha d6_6 rfl fun T3 h6 X4 W5 A7 => ?_
  rw [← List.map_set] at A7
  obtain ⟨xs8, hxs8⟩ : ∃ z, z = (H.set (p3).toNatClampNeg p2) := ⟨_, rfl⟩
  rw [← hxs8] at A7
  have f9 : Exa Z h6 o1 "com/example/knotweave/knotweave/OpenNeeds" := Exa.wr W5 E_o
  have f10 : Fld Z h6 o1 "com/example/knotweave/knotweave/OpenNeeds" "heap" "[I" (.ref ha) := Fld.other W5 F_h (Or.inl ne_o1_ha)
  have f11 : Fld Z h6 o1 "com/example/knotweave/knotweave/OpenNeeds" "placeOf" "[I" (.ref pa) := Fld.other W5 F_p (Or.inl ne_o1_ha)
  have f12 : Fld Z h6 o1 "com/example/knotweave/knotweave/OpenNeeds" "waysOf" "[I" (.ref wa) := Fld.other W5 F_w (Or.inl ne_o1_ha)
  have f13 : Fld Z h6 o1 "com/example/knotweave/knotweave/OpenNeeds" "rankOf" "[J" (.ref ra) := Fld.other W5 F_r (Or.inl ne_o1_ha)
  have f14 : Fld Z h6 o1 "com/example/knotweave/knotweave/OpenNeeds" "count" "I" (.int c0) := Fld.other W5 F_c (Or.inl ne_o1_ha)
  have f15 : AV Z h6 ha .int (xs8.map Value.int) := A7
  have f16 : AV Z h6 pa .int (P.map Value.int) := A_p.other W5 (Ne.symm ne_ha_pa)
  have f17 : AV Z h6 wa .int (ws.map Value.int) := A_w.other W5 (Ne.symm ne_ha_wa)
  have f18 : AV Z h6 ra .long (rs.map Value.long) := A_r.other W5 (Ne.symm ne_ha_ra)
  have k19 : Keep h0 h6 [o1, ha, pa, wa, ra] := (Keep.refl h0 [o1, ha, pa, wa, ra]).wr W5 (Or.inl (List.mem_of_getElem? (i := 1) rfl))
  refine w_aloadN X4 d6_7 rfl rfl rfl ?_
  refine w_getF X4 (host := "") (Or.inl (hw _ (List.mem_of_getElem? (i := 13) rfl))) Via.refl f11 d6_8 rfl fun T20 X21 => ?_
  refine w_iloadN X21 d6_11 rfl rfl ?_
  refine w_iloadN X21 d6_12 rfl rfl ?_
  refine w_iastore X21 f16 (D0 _ hp).1 rfl (by rw [List.length_map]; exact (by rw [lP]; exact (D0 _ hp).2.1)) g_pa d6_13 rfl fun T22 h25 X23 W24 A26 => ?_
  rw [← List.map_set] at A26
  obtain ⟨xs27, hxs27⟩ : ∃ z, z = (P.set (p2).toNatClampNeg p3) := ⟨_, rfl⟩
  rw [← hxs27] at A26
  have f28 : Exa Z h25 o1 "com/example/knotweave/knotweave/OpenNeeds" := Exa.wr W24 f9
  have f29 : Fld Z h25 o1 "com/example/knotweave/knotweave/OpenNeeds" "heap" "[I" (.ref ha) := Fld.other W24 f10 (Or.inl ne_o1_pa)
  have f30 : Fld Z h25 o1 "com/example/knotweave/knotweave/OpenNeeds" "placeOf" "[I" (.ref pa) := Fld.other W24 f11 (Or.inl ne_o1_pa)
  have f31 : Fld Z h25 o1 "com/example/knotweave/knotweave/OpenNeeds" "waysOf" "[I" (.ref wa) := Fld.other W24 f12 (Or.inl ne_o1_pa)
  have f32 : Fld Z h25 o1 "com/example/knotweave/knotweave/OpenNeeds" "rankOf" "[J" (.ref ra) := Fld.other W24 f13 (Or.inl ne_o1_pa)
  have f33 : Fld Z h25 o1 "com/example/knotweave/knotweave/OpenNeeds" "count" "I" (.int c0) := Fld.other W24 f14 (Or.inl ne_o1_pa)
  have f34 : AV Z h25 ha .int (xs8.map Value.int) := f15.other W24 ne_ha_pa
  have f35 : AV Z h25 pa .int (xs27.map Value.int) := A26
  have f36 : AV Z h25 wa .int (ws.map Value.int) := f17.other W24 (Ne.symm ne_pa_wa)
  have f37 : AV Z h25 ra .long (rs.map Value.long) := f18.other W24 (Ne.symm ne_pa_ra)
  have k38 : Keep h0 h25 [o1, ha, pa, wa, ra] := k19.wr W24 (Or.inl (List.mem_of_getElem? (i := 2) rfl))
  exact w_return X23 d6_14 rfl ⟨k38, (by rw [← hxs8, ← hxs27]; exact ⟨f28, f29, f30, f31, f32, f33, f34, f35, f36, f37⟩)⟩ (by decide) (by decide)
def f_bf (ws : List Int32) (rs : List Int64) (a b : Int32) : Int32 := if (ws.getD (a).toNatClampNeg 0) < (ws.getD (b).toNatClampNeg 0) then 1 else (if (ws.getD (a).toNatClampNeg 0) = (ws.getD (b).toNatClampNeg 0) then (if (rs.getD (a).toNatClampNeg 0) < (rs.getD (b).toNatClampNeg 0) then 1 else 0) else 0)
theorem d12_0 : decode prog_39_method_10_code 0 = .ok (.aload_n 0, 1) := by decide +kernel
theorem d12_1 : decode prog_39_method_10_code 1 = .ok (.getfield 16, 3) := by decide +kernel
theorem d12_4 : decode prog_39_method_10_code 4 = .ok (.iload_n 1, 1) := by decide +kernel
theorem d12_5 : decode prog_39_method_10_code 5 = .ok (.iaload, 1) := by decide +kernel
theorem d12_6 : decode prog_39_method_10_code 6 = .ok (.aload_n 0, 1) := by decide +kernel
theorem d12_7 : decode prog_39_method_10_code 7 = .ok (.getfield 16, 3) := by decide +kernel
theorem d12_10 : decode prog_39_method_10_code 10 = .ok (.iload_n 2, 1) := by decide +kernel
theorem d12_11 : decode prog_39_method_10_code 11 = .ok (.iaload, 1) := by decide +kernel
theorem d12_12 : decode prog_39_method_10_code 12 = .ok (.if_icmp .lt 34, 3) := by decide +kernel
theorem d12_15 : decode prog_39_method_10_code 15 = .ok (.aload_n 0, 1) := by decide +kernel
theorem d12_16 : decode prog_39_method_10_code 16 = .ok (.getfield 16, 3) := by decide +kernel
theorem d12_19 : decode prog_39_method_10_code 19 = .ok (.iload_n 1, 1) := by decide +kernel
theorem d12_20 : decode prog_39_method_10_code 20 = .ok (.iaload, 1) := by decide +kernel
theorem d12_21 : decode prog_39_method_10_code 21 = .ok (.aload_n 0, 1) := by decide +kernel
theorem d12_22 : decode prog_39_method_10_code 22 = .ok (.getfield 16, 3) := by decide +kernel
theorem d12_25 : decode prog_39_method_10_code 25 = .ok (.iload_n 2, 1) := by decide +kernel
theorem d12_26 : decode prog_39_method_10_code 26 = .ok (.iaload, 1) := by decide +kernel
theorem d12_27 : decode prog_39_method_10_code 27 = .ok (.if_icmp .ne 23, 3) := by decide +kernel
theorem d12_30 : decode prog_39_method_10_code 30 = .ok (.aload_n 0, 1) := by decide +kernel
theorem d12_31 : decode prog_39_method_10_code 31 = .ok (.getfield 19, 3) := by decide +kernel
theorem d12_34 : decode prog_39_method_10_code 34 = .ok (.iload_n 1, 1) := by decide +kernel
theorem d12_35 : decode prog_39_method_10_code 35 = .ok (.laload, 1) := by decide +kernel
theorem d12_36 : decode prog_39_method_10_code 36 = .ok (.aload_n 0, 1) := by decide +kernel
theorem d12_37 : decode prog_39_method_10_code 37 = .ok (.getfield 19, 3) := by decide +kernel
theorem d12_40 : decode prog_39_method_10_code 40 = .ok (.iload_n 2, 1) := by decide +kernel
theorem d12_41 : decode prog_39_method_10_code 41 = .ok (.laload, 1) := by decide +kernel
theorem d12_42 : decode prog_39_method_10_code 42 = .ok (.lcmp, 1) := by decide +kernel
theorem d12_43 : decode prog_39_method_10_code 43 = .ok (.ifCond .ge 7, 3) := by decide +kernel
theorem d12_46 : decode prog_39_method_10_code 46 = .ok (.iconst 1, 1) := by decide +kernel
theorem d12_47 : decode prog_39_method_10_code 47 = .ok (.goto 4, 3) := by decide +kernel
theorem d12_50 : decode prog_39_method_10_code 50 = .ok (.iconst 0, 1) := by decide +kernel
theorem d12_51 : decode prog_39_method_10_code 51 = .ok (.ireturn, 1) := by decide +kernel
theorem pn_12 : plainName "com/example/knotweave/knotweave/OpenNeeds" = true := by first | (simp [plainName, overriddenIn]; done) | decide +kernel
theorem ef_12 (m : MethodId) (o1 : Addr) (p2 : Int32) (p3 : Int32) : entryFrame m #[(.ref o1), (.int p2), (.int p3)] 3 = mkF m 0 #[.val (.ref o1), .val (.int p2), .val (.int p3)] [] := by first | (simp [entryFrame, mkF, argsToLocals, Value.category]; done) | rfl
set_option maxRecDepth 65536 in
set_option maxHeartbeats 4000000 in
theorem rm_before (l : Launch) (Z : State) (a0 : Array Value) (hw : ∀ d ∈ tables_1, d.before a0 Z = true) (o1 : Addr) (p2 : Int32) (p3 : Int32) (ha : Addr) (pa : Addr) (wa : Addr) (ra : Addr) (H : List Int32) (P : List Int32) (c0 : Int32) (ws : List Int32) (rs : List Int64) (h0 : Heap) (n0 : Nat) (Z0 : n0 ≤ h0.size) (O : ONs Z h0 o1 ha pa wa ra H P c0 ws rs) (D : Dst o1 ha pa wa ra) (G : Ges n0 o1 ha pa wa ra) (hp : p2 ∈ four) (hq : p3 ∈ four) (lw : ws.length = 4) (lr : rs.length = 4) :
    Con l Z (⟨"com/example/knotweave/knotweave/OpenNeeds", "before", "(II)Z"⟩ : MethodName) prog_39_method_10_code 3 (some .boolean) ({ frames := 0, cells := 0, slots := 0, locals := 0 } : Room) #[(.ref o1), (.int p2), (.int p3)] h0 n0 (some (.int (f_bf ws rs p2 p3))) (fun h => h = h0) := by
  refine con_of (plainFor_of_name pn_12) Z0 (fun m => ef_12 m o1 p2 p3) ?_
  intro p e s m below meth c T0 X0
  obtain ⟨E_o, F_h, F_p, F_w, F_r, F_c, A_h, A_p, A_w, A_r⟩ := O
  obtain ⟨ne_o1_ha, ne_o1_pa, ne_o1_wa, ne_o1_ra, ne_ha_pa, ne_ha_wa, ne_ha_ra, ne_pa_wa, ne_pa_ra, ne_wa_ra⟩ := D
  obtain ⟨g_o1, g_ha, g_pa, g_wa, g_ra⟩ := G
  refine w_aloadN X0 d12_0 rfl rfl rfl ?_
  refine w_getF X0 (host := "") (Or.inl (hw _ (List.mem_of_getElem? (i := 15) rfl))) Via.refl F_w d12_1 rfl fun T1 X2 => ?_
  refine w_iloadN X2 d12_4 rfl rfl ?_
  refine w_iaload X2 A_w (D0 _ hp).1 rfl (getI (by rw [lw]; exact (D0 _ hp).2.1)) d12_5 rfl ?_
  refine w_aloadN X2 d12_6 rfl rfl rfl ?_
  refine w_getF X2 (host := "") (Or.inl (hw _ (List.mem_of_getElem? (i := 15) rfl))) Via.refl F_w d12_7 rfl fun T3 X4 => ?_
  refine w_iloadN X4 d12_10 rfl rfl ?_
  refine w_iaload X4 A_w (D0 _ hq).1 rfl (getI (by rw [lw]; exact (D0 _ hq).2.1)) d12_11 rfl ?_
  refine w_icmp_lt X4 d12_12 (by decide) (pcT := 46) (pcF := 15) (by decide) rfl (fun c5 => ?_) (fun c5 => ?_)
  · refine w_iconst X4 d12_46 (v := (1 : Int32)) rfl rfl ?_
    refine w_goto X4 d12_47 (by decide) (pc' := 51) (by decide) ?_
    exact w_nreturn X4 (t := .boolean) (by simp) d12_51 (by unfold f_bf; rw [if_pos c5]; rfl) rfl (by decide) (by decide)
  · refine w_aloadN X4 d12_15 rfl rfl rfl ?_
    refine w_getF X4 (host := "") (Or.inl (hw _ (List.mem_of_getElem? (i := 15) rfl))) Via.refl F_w d12_16 rfl fun T6 X7 => ?_
    refine w_iloadN X7 d12_19 rfl rfl ?_
    refine w_iaload X7 A_w (D0 _ hp).1 rfl (getI (by rw [lw]; exact (D0 _ hp).2.1)) d12_20 rfl ?_
    refine w_aloadN X7 d12_21 rfl rfl rfl ?_
    refine w_getF X7 (host := "") (Or.inl (hw _ (List.mem_of_getElem? (i := 15) rfl))) Via.refl F_w d12_22 rfl fun T8 X9 => ?_
    refine w_iloadN X9 d12_25 rfl rfl ?_
    refine w_iaload X9 A_w (D0 _ hq).1 rfl (getI (by rw [lw]; exact (D0 _ hq).2.1)) d12_26 rfl ?_
    refine w_icmp_ne X9 d12_27 (by decide) (pcT := 50) (pcF := 30) (by decide) rfl (fun c10 => ?_) (fun c10 => ?_)
    · refine w_iconst X9 d12_50 (v := (0 : Int32)) rfl rfl ?_
      exact w_nreturn X9 (t := .boolean) (by simp) d12_51 (by unfold f_bf; rw [if_neg c5, if_neg c10]; rfl) rfl (by decide) (by decide)
    · refine w_aloadN X9 d12_30 rfl rfl rfl ?_
      refine w_getF X9 (host := "") (Or.inl (hw _ (List.mem_of_getElem? (i := 17) rfl))) Via.refl F_r d12_31 rfl fun T11 X12 => ?_
      refine w_iloadN X12 d12_34 rfl rfl ?_
      refine w_laload X12 A_r (D0 _ hp).1 rfl (getL (by rw [lr]; exact (D0 _ hp).2.1)) d12_35 rfl ?_
      refine w_aloadN X12 d12_36 rfl rfl rfl ?_
      refine w_getF X12 (host := "") (Or.inl (hw _ (List.mem_of_getElem? (i := 17) rfl))) Via.refl F_r d12_37 rfl fun T13 X14 => ?_
      refine w_iloadN X14 d12_40 rfl rfl ?_
      refine w_laload X14 A_r (D0 _ hq).1 rfl (getL (by rw [lr]; exact (D0 _ hq).2.1)) d12_41 rfl ?_
      refine w_lcmp_ge X14 d12_42 rfl d12_43 (by decide) (pcT := 50) (pcF := 46) (by decide) rfl (fun c15 => ?_) (fun c15 => ?_)
      · refine w_iconst X14 d12_50 (v := (0 : Int32)) rfl rfl ?_
        exact w_nreturn X14 (t := .boolean) (by simp) d12_51 (by unfold f_bf; rw [if_neg c5, if_pos c10, if_neg c15]; rfl) rfl (by decide) (by decide)
      · refine w_iconst X14 d12_46 (v := (1 : Int32)) rfl rfl ?_
        refine w_goto X14 d12_47 (by decide) (pc' := 51) (by decide) ?_
        exact w_nreturn X14 (t := .boolean) (by simp) d12_51 (by unfold f_bf; rw [if_neg c5, if_pos c10, if_pos c15]; rfl) rfl (by decide) (by decide)
theorem d5_0 : decode prog_39_method_7_code 0 = .ok (.aload_n 0, 1) := by decide +kernel
theorem d5_1 : decode prog_39_method_7_code 1 = .ok (.getfield 13, 3) := by decide +kernel
theorem d5_4 : decode prog_39_method_7_code 4 = .ok (.iload_n 1, 1) := by decide +kernel
theorem d5_5 : decode prog_39_method_7_code 5 = .ok (.iaload, 1) := by decide +kernel
theorem d5_6 : decode prog_39_method_7_code 6 = .ok (.istore_n 2, 1) := by decide +kernel
theorem d5_7 : decode prog_39_method_7_code 7 = .ok (.iload_n 2, 1) := by decide +kernel
theorem d5_8 : decode prog_39_method_7_code 8 = .ok (.ifCond .le 43, 3) := by decide +kernel
theorem d5_11 : decode prog_39_method_7_code 11 = .ok (.aload_n 0, 1) := by decide +kernel
theorem d5_12 : decode prog_39_method_7_code 12 = .ok (.iload_n 1, 1) := by decide +kernel
theorem d5_13 : decode prog_39_method_7_code 13 = .ok (.aload_n 0, 1) := by decide +kernel
theorem d5_14 : decode prog_39_method_7_code 14 = .ok (.getfield 7, 3) := by decide +kernel
theorem d5_17 : decode prog_39_method_7_code 17 = .ok (.iload_n 2, 1) := by decide +kernel
theorem d5_18 : decode prog_39_method_7_code 18 = .ok (.iconst 1, 1) := by decide +kernel
theorem d5_19 : decode prog_39_method_7_code 19 = .ok (.isub, 1) := by decide +kernel
theorem d5_20 : decode prog_39_method_7_code 20 = .ok (.iconst 2, 1) := by decide +kernel
theorem d5_21 : decode prog_39_method_7_code 21 = .ok (.idiv, 1) := by decide +kernel
theorem d5_22 : decode prog_39_method_7_code 22 = .ok (.iaload, 1) := by decide +kernel
theorem d5_23 : decode prog_39_method_7_code 23 = .ok (.invokevirtual 40, 3) := by decide +kernel
theorem d5_26 : decode prog_39_method_7_code 26 = .ok (.ifCond .eq 25, 3) := by decide +kernel
theorem d5_29 : decode prog_39_method_7_code 29 = .ok (.iload_n 2, 1) := by decide +kernel
theorem d5_30 : decode prog_39_method_7_code 30 = .ok (.iconst 1, 1) := by decide +kernel
theorem d5_31 : decode prog_39_method_7_code 31 = .ok (.isub, 1) := by decide +kernel
theorem d5_32 : decode prog_39_method_7_code 32 = .ok (.iconst 2, 1) := by decide +kernel
theorem d5_33 : decode prog_39_method_7_code 33 = .ok (.idiv, 1) := by decide +kernel
theorem d5_34 : decode prog_39_method_7_code 34 = .ok (.istore_n 3, 1) := by decide +kernel
theorem d5_35 : decode prog_39_method_7_code 35 = .ok (.aload_n 0, 1) := by decide +kernel
theorem d5_36 : decode prog_39_method_7_code 36 = .ok (.aload_n 0, 1) := by decide +kernel
theorem d5_37 : decode prog_39_method_7_code 37 = .ok (.getfield 7, 3) := by decide +kernel
theorem d5_40 : decode prog_39_method_7_code 40 = .ok (.iload_n 3, 1) := by decide +kernel
theorem d5_41 : decode prog_39_method_7_code 41 = .ok (.iaload, 1) := by decide +kernel
theorem d5_42 : decode prog_39_method_7_code 42 = .ok (.iload_n 2, 1) := by decide +kernel
theorem d5_43 : decode prog_39_method_7_code 43 = .ok (.invokevirtual 44, 3) := by decide +kernel
theorem d5_46 : decode prog_39_method_7_code 46 = .ok (.iload_n 3, 1) := by decide +kernel
theorem d5_47 : decode prog_39_method_7_code 47 = .ok (.istore_n 2, 1) := by decide +kernel
theorem d5_48 : decode prog_39_method_7_code 48 = .ok (.goto (-41), 3) := by decide +kernel
theorem d5_51 : decode prog_39_method_7_code 51 = .ok (.aload_n 0, 1) := by decide +kernel
theorem d5_52 : decode prog_39_method_7_code 52 = .ok (.iload_n 1, 1) := by decide +kernel
theorem d5_53 : decode prog_39_method_7_code 53 = .ok (.iload_n 2, 1) := by decide +kernel
theorem d5_54 : decode prog_39_method_7_code 54 = .ok (.invokevirtual 44, 3) := by decide +kernel
theorem d5_57 : decode prog_39_method_7_code 57 = .ok (.return_, 1) := by decide +kernel
theorem pd_0 : parseMethodDescriptor "(II)V" = some ⟨[.int, .int], none⟩ := by decide +kernel
theorem pd_1 : parseMethodDescriptor "(II)Z" = some ⟨[.int, .int], some .boolean⟩ := by decide +kernel
theorem pn_5 : plainName "com/example/knotweave/knotweave/OpenNeeds" = true := by first | (simp [plainName, overriddenIn]; done) | decide +kernel
theorem ef_5 (m : MethodId) (o1 : Addr) (p2 : Int32) : entryFrame m #[(.ref o1), (.int p2)] 4 = mkF m 0 #[.val (.ref o1), .val (.int p2), .unset, .unset] [] := by first | (simp [entryFrame, mkF, argsToLocals, Value.category]; done) | rfl
set_option maxRecDepth 65536 in
set_option maxHeartbeats 40000000 in
theorem rm_up (l : Launch) (Z : State) (a0 : Array Value) (hw : ∀ d ∈ tables_1, d.before a0 Z = true) (o1 : Addr) (p2 : Int32) (ha : Addr) (pa : Addr) (wa : Addr) (ra : Addr) (hs : List Int32) (c0 : Int32) (ws : List Int32) (rs : List Int64) (h0 : Heap) (n0 : Nat) (Z0 : n0 ≤ h0.size) (O : ONs Z h0 o1 ha pa wa ra hs (plc hs c0) c0 ws rs) (D : Dst o1 ha pa wa ra) (G : Ges n0 o1 ha pa wa ra) (bf : Int32 → Int32 → Int32) (hb : ∀ a b, g4 (mm hs c0) a = 1 → g4 (mm hs c0) b = 1 → f_bf ws rs a b = bf a b) (hs4 : hs ∈ S4) (hc : c0 ∈ five) (ho : okb hs c0 = true) (hp : p2 ∈ four) (hpl : ¬ (plc hs c0).getD (p2).toNatClampNeg 0 < 0) (lw : ws.length = 4) (lr : rs.length = 4) :
    Con l Z (⟨"com/example/knotweave/knotweave/OpenNeeds", "siftUp", "(I)V"⟩ : MethodName) prog_39_method_7_code 4 none ({ frames := 1, cells := 0, slots := 0, locals := 14 } : Room) #[(.ref o1), (.int p2)] h0 n0 none (fun h => ∃ hs', hs' ∈ S4 ∧ okb hs' c0 = true ∧ mm hs' c0 = mm hs c0 ∧ hs' = up bf 4 hs (g4 (plc hs c0) p2) p2 ∧ Keep h0 h [o1, ha, pa, wa, ra] ∧ ONs Z h o1 ha pa wa ra hs' (plc hs' c0) c0 ws rs) := by
  refine con_of (plainFor_of_name pn_5) Z0 (fun m => ef_5 m o1 p2) ?_
  intro p e s m below meth c T0 X0
  have O0 := O
  obtain ⟨E_o, F_h, F_p, F_w, F_r, F_c, A_h, A_p, A_w, A_r⟩ := O
  obtain ⟨ne_o1_ha, ne_o1_pa, ne_o1_wa, ne_o1_ra, ne_ha_pa, ne_ha_wa, ne_ha_ra, ne_pa_wa, ne_pa_ra, ne_wa_ra⟩ := D
  obtain ⟨g_o1, g_ha, g_pa, g_wa, g_ra⟩ := G
  refine w_aloadN X0 d5_0 rfl rfl rfl ?_
  refine w_getF X0 (host := "") (Or.inl (hw _ (List.mem_of_getElem? (i := 13) rfl))) Via.refl F_p d5_1 rfl fun T1 X2 => ?_
  refine w_iloadN X2 d5_4 rfl rfl ?_
  refine w_iaload X2 A_p (D0 _ hp).1 rfl (getI (D0 _ hp).2.1) d5_5 rfl ?_
  refine w_istoreN X2 d5_6 rfl (L' := #[.val (.ref o1), .val (.int p2), .val (.int ((plc hs c0).getD (p2).toNatClampNeg 0)), .unset]) rfl ?_
  have loop : ∀ (k : Nat) (H P hs1 : List Int32) (pl : Int32) (s3 : Slot) (T1 : State) (h1 : Heap), Wk p l e ({ frames := 1, cells := 0, slots := 0, locals := 14 } : Room) s m #[(.ref o1), (.int p2)] below meth c Z n0 (⟨"com/example/knotweave/knotweave/OpenNeeds", "siftUp", "(I)V"⟩ : MethodName) prog_39_method_7_code 4 none T1 0 0 h1 → ONs Z h1 o1 ha pa wa ra H P c0 ws rs → Keep h0 h1 [o1, ha, pa, wa, ra] → hs1 ∈ S4 → okb hs1 c0 = true → mm hs1 c0 = mm hs c0 → H.set (pl).toNatClampNeg p2 = hs1 → P.set (p2).toNatClampNeg pl = plc hs1 c0 → H.length = 4 → P.length = 4 → pl ∈ four → pl < c0 → pl.toInt < k → up bf 4 hs (g4 (plc hs c0) p2) p2 = up bf k hs1 pl p2 → OneS s3 → Goes p e below (Done below s n0 ({ frames := 1, cells := 0, slots := 0, locals := 14 } : Room) none (fun h => ∃ hs', hs' ∈ S4 ∧ okb hs' c0 = true ∧ mm hs' c0 = mm hs c0 ∧ hs' = up bf 4 hs (g4 (plc hs c0) p2) p2 ∧ Keep h0 h [o1, ha, pa, wa, ra] ∧ ONs Z h o1 ha pa wa ra hs' (plc hs' c0) c0 ws rs)) T1 m 7 #[.val (.ref o1), .val (.int p2), .val (.int pl), s3] [] := by
    intro k
    induction k with
    | zero => intro H P hs1 pl s3 T1 h1 X1 O1 k1 m1 o1k mm1 v1 v2 lH lP f1 plc1 b1_; exact absurd b1_ (by have := (D0 _ f1).2.2; omega)
    | succ k ih =>
      intro H P hs1 pl s3 T1 h1 X1 O1 k1 m1 o1k mm1 v1 v2 lH lP f1 plc1 b1_ e1 hs3
      obtain ⟨n0_, n1_, n2_, n3_, n4_, n5_, n6_, n7_, n8_, n9_⟩ := O1
      refine w_iloadN X1 d5_7 rfl rfl ?_
      refine w_if_le X1 d5_8 (by decide) (pcT := 51) (pcF := 11) (by decide) rfl (fun c3 => ?_) (fun c3 => ?_)
      · refine w_aloadN X1 d5_51 rfl rfl rfl ?_
        refine w_iloadN X1 d5_52 rfl rfl ?_
        refine w_iloadN X1 d5_53 rfl rfl ?_
        refine w_private0 X1 (rm_settle l Z a0 hw o1 p2 pl ha pa wa ra H P c0 ws rs h1 n0 X1.size ⟨n0_, n1_, n2_, n3_, n4_, n5_, n6_, n7_, n8_, n9_⟩ ⟨ne_o1_ha, ne_o1_pa, ne_o1_wa, ne_o1_ra, ne_ha_pa, ne_ha_wa, ne_ha_ra, ne_pa_wa, ne_pa_ra, ne_wa_ra⟩ ⟨g_o1, g_ha, g_pa, g_wa, g_ra⟩ hp f1 lH lP) n0_ (hw _ (List.mem_of_getElem? (i := 34) rfl)) (hw _ (List.mem_of_getElem? (i := 35) rfl)) (hw _ (List.mem_of_getElem? (i := 3) rfl)) (hw _ (List.mem_of_getElem? (i := 36) rfl)) (hw _ (List.mem_of_getElem? (i := 4) rfl)) (hw _ (List.mem_of_getElem? (i := 37) rfl)) (by decide) (argsL := [(.int p2), (.int pl)]) (rest := []) rfl (lenOf pd_0 rfl) rfl (W := 0) rfl (by decide) (by decide) (by decide) (by decide) d5_54 rfl fun T4 h5 X6 q7 => ?_
        obtain ⟨K18, n8, n9, n10, n11, n12, n13, n14, n15, n16, n17⟩ := q7
        have f19 : Exa Z h5 o1 "com/example/knotweave/knotweave/OpenNeeds" := n0_.keep K18
        have k20 : Keep h0 h5 [o1, ha, pa, wa, ra] := k1.trans K18 (allS (Or.inl (List.mem_of_getElem? (i := 0) rfl)) (allS (Or.inl (List.mem_of_getElem? (i := 1) rfl)) (allS (Or.inl (List.mem_of_getElem? (i := 2) rfl)) (allS (Or.inl (List.mem_of_getElem? (i := 3) rfl)) (allS (Or.inl (List.mem_of_getElem? (i := 4) rfl)) all0)))))
        exact w_return X6 d5_57 rfl ⟨hs1, m1, o1k, mm1, (by rw [e1, up, if_neg c3]), k20, (by rw [← v2, ← v1]; exact ⟨n8, n9, n10, n11, n12, n13, n14, n15, n16, n17⟩)⟩ (by decide) (by decide)
      · obtain ⟨pr4, prp, prl⟩ := (DPar pl f1).resolve_left (fun q => q c3)
        have prc := own_lt _ _ _ prl plc1
        have M := own_mv hs1 H P c0 pl ((pl - (1 : Int32)) / (2 : Int32)) p2 m1 hc o1k prp plc1 prc v1 v2 lH hp
        have y4 := M.2.2.2.2.2.1
        have hbf : f_bf ws rs p2 (H.getD (((pl - (1 : Int32)) / (2 : Int32))).toNatClampNeg 0) = bf p2 (g4 hs1 ((pl - (1 : Int32)) / (2 : Int32))) := by rw [M.2.2.2.2.2.2.1]; exact hb _ _ (own_ml hs c0 hs4 hc p2 hp hpl) (by rw [← mm1]; exact M.2.2.2.2.2.2.2)
        refine w_aloadN X1 d5_11 rfl rfl rfl ?_
        refine w_iloadN X1 d5_12 rfl rfl ?_
        refine w_aloadN X1 d5_13 rfl rfl rfl ?_
        refine w_getF X1 (host := "") (Or.inl (hw _ (List.mem_of_getElem? (i := 11) rfl))) Via.refl n1_ d5_14 rfl fun T21 X22 => ?_
        refine w_iloadN X22 d5_17 rfl rfl ?_
        refine w_iconst X22 d5_18 (v := (1 : Int32)) rfl rfl ?_
        refine w_isub X22 d5_19 rfl ?_
        refine w_iconst X22 d5_20 (v := (2 : Int32)) rfl rfl ?_
        refine w_idiv X22 d5_21 rfl (by decide) ?_
        refine w_iaload X22 n6_ (D0 _ pr4).1 rfl (getI (by rw [lH]; exact (D0 _ pr4).2.1)) d5_22 rfl ?_
        refine w_privateVP X22 (rm_before l Z a0 hw o1 p2 (H.getD (((pl - (1 : Int32)) / (2 : Int32))).toNatClampNeg 0) ha pa wa ra H P c0 ws rs h1 n0 X22.size ⟨n0_, n1_, n2_, n3_, n4_, n5_, n6_, n7_, n8_, n9_⟩ ⟨ne_o1_ha, ne_o1_pa, ne_o1_wa, ne_o1_ra, ne_ha_pa, ne_ha_wa, ne_ha_ra, ne_pa_wa, ne_pa_ra, ne_wa_ra⟩ ⟨g_o1, g_ha, g_pa, g_wa, g_ra⟩ hp y4 lw lr) n0_ (hw _ (List.mem_of_getElem? (i := 61) rfl)) (hw _ (List.mem_of_getElem? (i := 62) rfl)) (hw _ (List.mem_of_getElem? (i := 3) rfl)) (hw _ (List.mem_of_getElem? (i := 63) rfl)) (hw _ (List.mem_of_getElem? (i := 4) rfl)) (hw _ (List.mem_of_getElem? (i := 64) rfl)) (by decide) (argsL := [(.int p2), (.int (H.getD (((pl - (1 : Int32)) / (2 : Int32))).toNatClampNeg 0))]) (rest := []) rfl (lenOf pd_1 rfl) rfl (W := 0) rfl (by decide) (by decide) (by decide) (by decide) d5_23 rfl fun T23 X25 => ?_
        refine w_if_eq X25 d5_26 (by decide) (pcT := 51) (pcF := 29) (by decide) rfl (fun c27 => ?_) (fun c27 => ?_)
        · refine w_aloadN X25 d5_51 rfl rfl rfl ?_
          refine w_iloadN X25 d5_52 rfl rfl ?_
          refine w_iloadN X25 d5_53 rfl rfl ?_
          refine w_private0 X25 (rm_settle l Z a0 hw o1 p2 pl ha pa wa ra H P c0 ws rs h1 n0 X25.size ⟨n0_, n1_, n2_, n3_, n4_, n5_, n6_, n7_, n8_, n9_⟩ ⟨ne_o1_ha, ne_o1_pa, ne_o1_wa, ne_o1_ra, ne_ha_pa, ne_ha_wa, ne_ha_ra, ne_pa_wa, ne_pa_ra, ne_wa_ra⟩ ⟨g_o1, g_ha, g_pa, g_wa, g_ra⟩ hp f1 lH lP) n0_ (hw _ (List.mem_of_getElem? (i := 34) rfl)) (hw _ (List.mem_of_getElem? (i := 35) rfl)) (hw _ (List.mem_of_getElem? (i := 3) rfl)) (hw _ (List.mem_of_getElem? (i := 36) rfl)) (hw _ (List.mem_of_getElem? (i := 4) rfl)) (hw _ (List.mem_of_getElem? (i := 37) rfl)) (by decide) (argsL := [(.int p2), (.int pl)]) (rest := []) rfl (lenOf pd_0 rfl) rfl (W := 0) rfl (by decide) (by decide) (by decide) (by decide) d5_54 rfl fun T28 h29 X30 q31 => ?_
          obtain ⟨K42, n32, n33, n34, n35, n36, n37, n38, n39, n40, n41⟩ := q31
          have f43 : Exa Z h29 o1 "com/example/knotweave/knotweave/OpenNeeds" := n0_.keep K42
          have k44 : Keep h0 h29 [o1, ha, pa, wa, ra] := k1.trans K42 (allS (Or.inl (List.mem_of_getElem? (i := 0) rfl)) (allS (Or.inl (List.mem_of_getElem? (i := 1) rfl)) (allS (Or.inl (List.mem_of_getElem? (i := 2) rfl)) (allS (Or.inl (List.mem_of_getElem? (i := 3) rfl)) (allS (Or.inl (List.mem_of_getElem? (i := 4) rfl)) all0)))))
          exact w_return X30 d5_57 rfl ⟨hs1, m1, o1k, mm1, (by rw [e1, up, if_pos c3, if_pos (hbf.symm.trans c27)]), k44, (by rw [← v2, ← v1]; exact ⟨n32, n33, n34, n35, n36, n37, n38, n39, n40, n41⟩)⟩ (by decide) (by decide)
        · refine w_iloadN X25 d5_29 rfl rfl ?_
          refine w_iconst X25 d5_30 (v := (1 : Int32)) rfl rfl ?_
          refine w_isub X25 d5_31 rfl ?_
          refine w_iconst X25 d5_32 (v := (2 : Int32)) rfl rfl ?_
          refine w_idiv X25 d5_33 rfl (by decide) ?_
          refine w_istoreN X25 d5_34 rfl (L' := #[.val (.ref o1), .val (.int p2), .val (.int pl), .val (.int ((pl - (1 : Int32)) / (2 : Int32)))]) (XS.store1 (o := s3) rfl hs3 rfl) ?_
          refine w_aloadN X25 d5_35 rfl rfl rfl ?_
          refine w_aloadN X25 d5_36 rfl rfl rfl ?_
          refine w_getF X25 (host := "") (Or.inl (hw _ (List.mem_of_getElem? (i := 11) rfl))) Via.refl n1_ d5_37 rfl fun T45 X46 => ?_
          refine w_iloadN X46 d5_40 rfl rfl ?_
          refine w_iaload X46 n6_ (D0 _ pr4).1 rfl (getI (by rw [lH]; exact (D0 _ pr4).2.1)) d5_41 rfl ?_
          refine w_iloadN X46 d5_42 rfl rfl ?_
          refine w_private0 X46 (rm_settle l Z a0 hw o1 (H.getD (((pl - (1 : Int32)) / (2 : Int32))).toNatClampNeg 0) pl ha pa wa ra H P c0 ws rs h1 n0 X46.size ⟨n0_, n1_, n2_, n3_, n4_, n5_, n6_, n7_, n8_, n9_⟩ ⟨ne_o1_ha, ne_o1_pa, ne_o1_wa, ne_o1_ra, ne_ha_pa, ne_ha_wa, ne_ha_ra, ne_pa_wa, ne_pa_ra, ne_wa_ra⟩ ⟨g_o1, g_ha, g_pa, g_wa, g_ra⟩ y4 f1 lH lP) n0_ (hw _ (List.mem_of_getElem? (i := 34) rfl)) (hw _ (List.mem_of_getElem? (i := 35) rfl)) (hw _ (List.mem_of_getElem? (i := 3) rfl)) (hw _ (List.mem_of_getElem? (i := 36) rfl)) (hw _ (List.mem_of_getElem? (i := 4) rfl)) (hw _ (List.mem_of_getElem? (i := 37) rfl)) (by decide) (argsL := [(.int (H.getD (((pl - (1 : Int32)) / (2 : Int32))).toNatClampNeg 0)), (.int pl)]) (rest := []) rfl (lenOf pd_0 rfl) rfl (W := 0) rfl (by decide) (by decide) (by decide) (by decide) d5_43 rfl fun T47 h48 X49 q50 => ?_
          obtain ⟨K61, n51, n52, n53, n54, n55, n56, n57, n58, n59, n60⟩ := q50
          have f62 : Exa Z h48 o1 "com/example/knotweave/knotweave/OpenNeeds" := n0_.keep K61
          have k63 : Keep h0 h48 [o1, ha, pa, wa, ra] := k1.trans K61 (allS (Or.inl (List.mem_of_getElem? (i := 0) rfl)) (allS (Or.inl (List.mem_of_getElem? (i := 1) rfl)) (allS (Or.inl (List.mem_of_getElem? (i := 2) rfl)) (allS (Or.inl (List.mem_of_getElem? (i := 3) rfl)) (allS (Or.inl (List.mem_of_getElem? (i := 4) rfl)) all0)))))
          refine w_iloadN X49 d5_46 rfl rfl ?_
          refine w_istoreN X49 d5_47 rfl (L' := #[.val (.ref o1), .val (.int p2), .val (.int ((pl - (1 : Int32)) / (2 : Int32))), .val (.int ((pl - (1 : Int32)) / (2 : Int32)))]) rfl ?_
          refine w_goto X49 d5_48 (by decide) (pc' := 7) (by decide) ?_
          exact ih (H.set (pl).toNatClampNeg (H.getD (((pl - (1 : Int32)) / (2 : Int32))).toNatClampNeg 0)) (P.set ((H.getD (((pl - (1 : Int32)) / (2 : Int32))).toNatClampNeg 0)).toNatClampNeg pl) _ ((pl - (1 : Int32)) / (2 : Int32)) _ _ _ X49 ⟨n51, n52, n53, n54, n55, n56, n57, n58, n59, n60⟩ k63 M.1 M.2.1 (M.2.2.1.trans mm1) M.2.2.2.1 M.2.2.2.2.1 (by rw [List.length_set]; exact lH) (by rw [List.length_set]; exact lP) pr4 prc (by have := own_ltI _ _ prl; omega) (by rw [e1, up, if_pos c3, if_neg (fun q => c27 (hbf.trans q))]) (OneS.i _)
  have hpi := DPl hs hs4 c0 hc ho p2 hp hpl
  exact loop 4 hs (plc hs c0) hs _ .unset _ _ X2 O0 (Keep.refl h0 [o1, ha, pa, wa, ra]) hs4 ho rfl hpi.2.2.1 hpi.2.2.2 (DLen hs hs4).1 rfl hpi.1 hpi.2.1 (by have := (D0 _ hpi.1).2.2; omega) rfl OneS.u
theorem d7_0 : decode prog_39_method_8_code 0 = .ok (.aload_n 0, 1) := by decide +kernel
theorem d7_1 : decode prog_39_method_8_code 1 = .ok (.getfield 13, 3) := by decide +kernel
theorem d7_4 : decode prog_39_method_8_code 4 = .ok (.iload_n 1, 1) := by decide +kernel
theorem d7_5 : decode prog_39_method_8_code 5 = .ok (.iaload, 1) := by decide +kernel
theorem d7_6 : decode prog_39_method_8_code 6 = .ok (.istore_n 2, 1) := by decide +kernel
theorem d7_7 : decode prog_39_method_8_code 7 = .ok (.iconst 2, 1) := by decide +kernel
theorem d7_8 : decode prog_39_method_8_code 8 = .ok (.iload_n 2, 1) := by decide +kernel
theorem d7_9 : decode prog_39_method_8_code 9 = .ok (.imul, 1) := by decide +kernel
theorem d7_10 : decode prog_39_method_8_code 10 = .ok (.iconst 1, 1) := by decide +kernel
theorem d7_11 : decode prog_39_method_8_code 11 = .ok (.iadd, 1) := by decide +kernel
theorem d7_12 : decode prog_39_method_8_code 12 = .ok (.istore_n 3, 1) := by decide +kernel
theorem d7_13 : decode prog_39_method_8_code 13 = .ok (.iload_n 3, 1) := by decide +kernel
theorem d7_14 : decode prog_39_method_8_code 14 = .ok (.aload_n 0, 1) := by decide +kernel
theorem d7_15 : decode prog_39_method_8_code 15 = .ok (.getfield 29, 3) := by decide +kernel
theorem d7_18 : decode prog_39_method_8_code 18 = .ok (.if_icmp .ge 76, 3) := by decide +kernel
theorem d7_21 : decode prog_39_method_8_code 21 = .ok (.iload_n 3, 1) := by decide +kernel
theorem d7_22 : decode prog_39_method_8_code 22 = .ok (.iconst 1, 1) := by decide +kernel
theorem d7_23 : decode prog_39_method_8_code 23 = .ok (.iadd, 1) := by decide +kernel
theorem d7_24 : decode prog_39_method_8_code 24 = .ok (.aload_n 0, 1) := by decide +kernel
theorem d7_25 : decode prog_39_method_8_code 25 = .ok (.getfield 29, 3) := by decide +kernel
theorem d7_28 : decode prog_39_method_8_code 28 = .ok (.if_icmp .ge 27, 3) := by decide +kernel
theorem d7_31 : decode prog_39_method_8_code 31 = .ok (.aload_n 0, 1) := by decide +kernel
theorem d7_32 : decode prog_39_method_8_code 32 = .ok (.aload_n 0, 1) := by decide +kernel
theorem d7_33 : decode prog_39_method_8_code 33 = .ok (.getfield 7, 3) := by decide +kernel
theorem d7_36 : decode prog_39_method_8_code 36 = .ok (.iload_n 3, 1) := by decide +kernel
theorem d7_37 : decode prog_39_method_8_code 37 = .ok (.iconst 1, 1) := by decide +kernel
theorem d7_38 : decode prog_39_method_8_code 38 = .ok (.iadd, 1) := by decide +kernel
theorem d7_39 : decode prog_39_method_8_code 39 = .ok (.iaload, 1) := by decide +kernel
theorem d7_40 : decode prog_39_method_8_code 40 = .ok (.aload_n 0, 1) := by decide +kernel
theorem d7_41 : decode prog_39_method_8_code 41 = .ok (.getfield 7, 3) := by decide +kernel
theorem d7_44 : decode prog_39_method_8_code 44 = .ok (.iload_n 3, 1) := by decide +kernel
theorem d7_45 : decode prog_39_method_8_code 45 = .ok (.iaload, 1) := by decide +kernel
theorem d7_46 : decode prog_39_method_8_code 46 = .ok (.invokevirtual 40, 3) := by decide +kernel
theorem d7_49 : decode prog_39_method_8_code 49 = .ok (.ifCond .eq 6, 3) := by decide +kernel
theorem d7_52 : decode prog_39_method_8_code 52 = .ok (.iinc 3 1, 3) := by decide +kernel
theorem d7_55 : decode prog_39_method_8_code 55 = .ok (.aload_n 0, 1) := by decide +kernel
theorem d7_56 : decode prog_39_method_8_code 56 = .ok (.aload_n 0, 1) := by decide +kernel
theorem d7_57 : decode prog_39_method_8_code 57 = .ok (.getfield 7, 3) := by decide +kernel
theorem d7_60 : decode prog_39_method_8_code 60 = .ok (.iload_n 3, 1) := by decide +kernel
theorem d7_61 : decode prog_39_method_8_code 61 = .ok (.iaload, 1) := by decide +kernel
theorem d7_62 : decode prog_39_method_8_code 62 = .ok (.iload_n 1, 1) := by decide +kernel
theorem d7_63 : decode prog_39_method_8_code 63 = .ok (.invokevirtual 40, 3) := by decide +kernel
theorem d7_66 : decode prog_39_method_8_code 66 = .ok (.ifCond .ne 6, 3) := by decide +kernel
theorem d7_69 : decode prog_39_method_8_code 69 = .ok (.goto 25, 3) := by decide +kernel
theorem d7_72 : decode prog_39_method_8_code 72 = .ok (.aload_n 0, 1) := by decide +kernel
theorem d7_73 : decode prog_39_method_8_code 73 = .ok (.aload_n 0, 1) := by decide +kernel
theorem d7_74 : decode prog_39_method_8_code 74 = .ok (.getfield 7, 3) := by decide +kernel
theorem d7_77 : decode prog_39_method_8_code 77 = .ok (.iload_n 3, 1) := by decide +kernel
theorem d7_78 : decode prog_39_method_8_code 78 = .ok (.iaload, 1) := by decide +kernel
theorem d7_79 : decode prog_39_method_8_code 79 = .ok (.iload_n 2, 1) := by decide +kernel
theorem d7_80 : decode prog_39_method_8_code 80 = .ok (.invokevirtual 44, 3) := by decide +kernel
theorem d7_83 : decode prog_39_method_8_code 83 = .ok (.iload_n 3, 1) := by decide +kernel
theorem d7_84 : decode prog_39_method_8_code 84 = .ok (.istore_n 2, 1) := by decide +kernel
theorem d7_85 : decode prog_39_method_8_code 85 = .ok (.iconst 2, 1) := by decide +kernel
theorem d7_86 : decode prog_39_method_8_code 86 = .ok (.iload_n 2, 1) := by decide +kernel
theorem d7_87 : decode prog_39_method_8_code 87 = .ok (.imul, 1) := by decide +kernel
theorem d7_88 : decode prog_39_method_8_code 88 = .ok (.iconst 1, 1) := by decide +kernel
theorem d7_89 : decode prog_39_method_8_code 89 = .ok (.iadd, 1) := by decide +kernel
theorem d7_90 : decode prog_39_method_8_code 90 = .ok (.istore_n 3, 1) := by decide +kernel
theorem d7_91 : decode prog_39_method_8_code 91 = .ok (.goto (-78), 3) := by decide +kernel
theorem d7_94 : decode prog_39_method_8_code 94 = .ok (.aload_n 0, 1) := by decide +kernel
theorem d7_95 : decode prog_39_method_8_code 95 = .ok (.iload_n 1, 1) := by decide +kernel
theorem d7_96 : decode prog_39_method_8_code 96 = .ok (.iload_n 2, 1) := by decide +kernel
theorem d7_97 : decode prog_39_method_8_code 97 = .ok (.invokevirtual 44, 3) := by decide +kernel
theorem d7_100 : decode prog_39_method_8_code 100 = .ok (.return_, 1) := by decide +kernel
theorem pn_7 : plainName "com/example/knotweave/knotweave/OpenNeeds" = true := by first | (simp [plainName, overriddenIn]; done) | decide +kernel
theorem ef_7 (m : MethodId) (o1 : Addr) (p2 : Int32) : entryFrame m #[(.ref o1), (.int p2)] 4 = mkF m 0 #[.val (.ref o1), .val (.int p2), .unset, .unset] [] := by first | (simp [entryFrame, mkF, argsToLocals, Value.category]; done) | rfl
set_option maxRecDepth 65536 in
set_option maxHeartbeats 40000000 in
theorem rm_dn (l : Launch) (Z : State) (a0 : Array Value) (hw : ∀ d ∈ tables_1, d.before a0 Z = true) (o1 : Addr) (p2 : Int32) (ha : Addr) (pa : Addr) (wa : Addr) (ra : Addr) (hs : List Int32) (c0 : Int32) (ws : List Int32) (rs : List Int64) (h0 : Heap) (n0 : Nat) (Z0 : n0 ≤ h0.size) (O : ONs Z h0 o1 ha pa wa ra hs (plc hs c0) c0 ws rs) (D : Dst o1 ha pa wa ra) (G : Ges n0 o1 ha pa wa ra) (bf : Int32 → Int32 → Int32) (hb : ∀ a b, g4 (mm hs c0) a = 1 → g4 (mm hs c0) b = 1 → f_bf ws rs a b = bf a b) (hs4 : hs ∈ S4) (hc : c0 ∈ five) (ho : okb hs c0 = true) (hp : p2 ∈ four) (hpl : ¬ (plc hs c0).getD (p2).toNatClampNeg 0 < 0) (lw : ws.length = 4) (lr : rs.length = 4) :
    Con l Z (⟨"com/example/knotweave/knotweave/OpenNeeds", "siftDown", "(I)V"⟩ : MethodName) prog_39_method_8_code 4 none ({ frames := 1, cells := 0, slots := 0, locals := 14 } : Room) #[(.ref o1), (.int p2)] h0 n0 none (fun h => ∃ hs', hs' ∈ S4 ∧ okb hs' c0 = true ∧ mm hs' c0 = mm hs c0 ∧ hs' = dn bf c0 5 hs (g4 (plc hs c0) p2) p2 ∧ Keep h0 h [o1, ha, pa, wa, ra] ∧ ONs Z h o1 ha pa wa ra hs' (plc hs' c0) c0 ws rs) := by
  refine con_of (plainFor_of_name pn_7) Z0 (fun m => ef_7 m o1 p2) ?_
  intro p e s m below meth c T0 X0
  have O0 := O
  obtain ⟨E_o, F_h, F_p, F_w, F_r, F_c, A_h, A_p, A_w, A_r⟩ := O
  obtain ⟨ne_o1_ha, ne_o1_pa, ne_o1_wa, ne_o1_ra, ne_ha_pa, ne_ha_wa, ne_ha_ra, ne_pa_wa, ne_pa_ra, ne_wa_ra⟩ := D
  obtain ⟨g_o1, g_ha, g_pa, g_wa, g_ra⟩ := G
  refine w_aloadN X0 d7_0 rfl rfl rfl ?_
  refine w_getF X0 (host := "") (Or.inl (hw _ (List.mem_of_getElem? (i := 13) rfl))) Via.refl F_p d7_1 rfl fun T1 X2 => ?_
  refine w_iloadN X2 d7_4 rfl rfl ?_
  refine w_iaload X2 A_p (D0 _ hp).1 rfl (getI (D0 _ hp).2.1) d7_5 rfl ?_
  refine w_istoreN X2 d7_6 rfl (L' := #[.val (.ref o1), .val (.int p2), .val (.int ((plc hs c0).getD (p2).toNatClampNeg 0)), .unset]) rfl ?_
  refine w_iconst X2 d7_7 (v := (2 : Int32)) rfl rfl ?_
  refine w_iloadN X2 d7_8 rfl rfl ?_
  refine w_imul X2 d7_9 rfl ?_
  refine w_iconst X2 d7_10 (v := (1 : Int32)) rfl rfl ?_
  refine w_iadd X2 d7_11 rfl ?_
  refine w_istoreN X2 d7_12 rfl (L' := #[.val (.ref o1), .val (.int p2), .val (.int ((plc hs c0).getD (p2).toNatClampNeg 0)), .val (.int (((2 : Int32) * ((plc hs c0).getD (p2).toNatClampNeg 0)) + (1 : Int32)))]) rfl ?_
  have loop : ∀ (k : Nat) (H P hs1 : List Int32) (pl : Int32) (s3 : Slot) (T1 : State) (h1 : Heap), Wk p l e ({ frames := 1, cells := 0, slots := 0, locals := 14 } : Room) s m #[(.ref o1), (.int p2)] below meth c Z n0 (⟨"com/example/knotweave/knotweave/OpenNeeds", "siftDown", "(I)V"⟩ : MethodName) prog_39_method_8_code 4 none T1 0 0 h1 → ONs Z h1 o1 ha pa wa ra H P c0 ws rs → Keep h0 h1 [o1, ha, pa, wa, ra] → hs1 ∈ S4 → okb hs1 c0 = true → mm hs1 c0 = mm hs c0 → H.set (pl).toNatClampNeg p2 = hs1 → P.set (p2).toNatClampNeg pl = plc hs1 c0 → H.length = 4 → P.length = 4 → pl ∈ four → pl < c0 → (4 : Int) - pl.toInt < k → dn bf c0 5 hs (g4 (plc hs c0) p2) p2 = dn bf c0 k hs1 pl p2 → OneS s3 → Goes p e below (Done below s n0 ({ frames := 1, cells := 0, slots := 0, locals := 14 } : Room) none (fun h => ∃ hs', hs' ∈ S4 ∧ okb hs' c0 = true ∧ mm hs' c0 = mm hs c0 ∧ hs' = dn bf c0 5 hs (g4 (plc hs c0) p2) p2 ∧ Keep h0 h [o1, ha, pa, wa, ra] ∧ ONs Z h o1 ha pa wa ra hs' (plc hs' c0) c0 ws rs)) T1 m 13 #[.val (.ref o1), .val (.int p2), .val (.int pl), .val (.int (((2 : Int32) * pl) + (1 : Int32)))] [] := by
    intro k
    induction k with
    | zero => intro H P hs1 pl s3 T1 h1 X1 O1 k1 m1 o1k mm1 v1 v2 lH lP f1 plc1 b1_; exact absurd b1_ (by have := (D0 _ f1).2.2; omega)
    | succ k ih =>
      intro H P hs1 pl s3 T1 h1 X1 O1 k1 m1 o1k mm1 v1 v2 lH lP f1 plc1 b1_ e1 hs3
      obtain ⟨n0_, n1_, n2_, n3_, n4_, n5_, n6_, n7_, n8_, n9_⟩ := O1
      refine w_iloadN X1 d7_13 rfl rfl ?_
      refine w_aloadN X1 d7_14 rfl rfl rfl ?_
      refine w_getF X1 (host := "") (Or.inl (hw _ (List.mem_of_getElem? (i := 28) rfl))) Via.refl n5_ d7_15 rfl fun T3 X4 => ?_
      refine w_icmp_ge X4 d7_18 (by decide) (pcT := 94) (pcF := 21) (by decide) rfl (fun c5 => ?_) (fun c5 => ?_)
      · refine w_aloadN X4 d7_94 rfl rfl rfl ?_
        refine w_iloadN X4 d7_95 rfl rfl ?_
        refine w_iloadN X4 d7_96 rfl rfl ?_
        refine w_private0 X4 (rm_settle l Z a0 hw o1 p2 pl ha pa wa ra H P c0 ws rs h1 n0 X4.size ⟨n0_, n1_, n2_, n3_, n4_, n5_, n6_, n7_, n8_, n9_⟩ ⟨ne_o1_ha, ne_o1_pa, ne_o1_wa, ne_o1_ra, ne_ha_pa, ne_ha_wa, ne_ha_ra, ne_pa_wa, ne_pa_ra, ne_wa_ra⟩ ⟨g_o1, g_ha, g_pa, g_wa, g_ra⟩ hp f1 lH lP) n0_ (hw _ (List.mem_of_getElem? (i := 34) rfl)) (hw _ (List.mem_of_getElem? (i := 35) rfl)) (hw _ (List.mem_of_getElem? (i := 3) rfl)) (hw _ (List.mem_of_getElem? (i := 36) rfl)) (hw _ (List.mem_of_getElem? (i := 4) rfl)) (hw _ (List.mem_of_getElem? (i := 37) rfl)) (by decide) (argsL := [(.int p2), (.int pl)]) (rest := []) rfl (lenOf pd_0 rfl) rfl (W := 0) rfl (by decide) (by decide) (by decide) (by decide) d7_97 rfl fun T6 h7 X8 q9 => ?_
        obtain ⟨K20, n10, n11, n12, n13, n14, n15, n16, n17, n18, n19⟩ := q9
        have f21 : Exa Z h7 o1 "com/example/knotweave/knotweave/OpenNeeds" := n0_.keep K20
        have k22 : Keep h0 h7 [o1, ha, pa, wa, ra] := k1.trans K20 (allS (Or.inl (List.mem_of_getElem? (i := 0) rfl)) (allS (Or.inl (List.mem_of_getElem? (i := 1) rfl)) (allS (Or.inl (List.mem_of_getElem? (i := 2) rfl)) (allS (Or.inl (List.mem_of_getElem? (i := 3) rfl)) (allS (Or.inl (List.mem_of_getElem? (i := 4) rfl)) all0)))))
        exact w_return X8 d7_100 rfl ⟨hs1, m1, o1k, mm1, (by rw [e1, dn, if_neg c5]), k22, (by rw [← v2, ← v1]; exact ⟨n10, n11, n12, n13, n14, n15, n16, n17, n18, n19⟩)⟩ (by decide) (by decide)
      · obtain ⟨q4a, qpa, qla⟩ := DChi c0 hc pl f1 c5
        have Ma := own_mv hs1 H P c0 pl (((2 : Int32) * pl) + (1 : Int32)) p2 m1 hc o1k qpa plc1 c5 v1 v2 lH hp
        have y4a := Ma.2.2.2.2.2.1
        have yea := Ma.2.2.2.2.2.2.1
        have yma : g4 (mm hs c0) (g4 hs1 (((2 : Int32) * pl) + (1 : Int32))) = 1 := by rw [← mm1]; exact Ma.2.2.2.2.2.2.2
        have hba : f_bf ws rs (H.getD ((((2 : Int32) * pl) + (1 : Int32))).toNatClampNeg 0) p2 = bf (g4 hs1 (((2 : Int32) * pl) + (1 : Int32))) p2 := by rw [yea]; exact hb _ _ yma (own_ml hs c0 hs4 hc p2 hp hpl)
        refine w_iloadN X4 d7_21 rfl rfl ?_
        refine w_iconst X4 d7_22 (v := (1 : Int32)) rfl rfl ?_
        refine w_iadd X4 d7_23 rfl ?_
        refine w_aloadN X4 d7_24 rfl rfl rfl ?_
        refine w_getF X4 (host := "") (Or.inl (hw _ (List.mem_of_getElem? (i := 28) rfl))) Via.refl n5_ d7_25 rfl fun T23 X24 => ?_
        refine w_icmp_ge X24 d7_28 (by decide) (pcT := 55) (pcF := 31) (by decide) rfl (fun c25 => ?_) (fun c25 => ?_)
        · refine w_aloadN X24 d7_55 rfl rfl rfl ?_
          refine w_aloadN X24 d7_56 rfl rfl rfl ?_
          refine w_getF X24 (host := "") (Or.inl (hw _ (List.mem_of_getElem? (i := 11) rfl))) Via.refl n1_ d7_57 rfl fun T26 X27 => ?_
          refine w_iloadN X27 d7_60 rfl rfl ?_
          refine w_iaload X27 n6_ (D0 _ q4a).1 rfl (getI (by rw [lH]; exact (D0 _ q4a).2.1)) d7_61 rfl ?_
          refine w_iloadN X27 d7_62 rfl rfl ?_
          refine w_privateVP X27 (rm_before l Z a0 hw o1 (H.getD ((((2 : Int32) * pl) + (1 : Int32))).toNatClampNeg 0) p2 ha pa wa ra H P c0 ws rs h1 n0 X27.size ⟨n0_, n1_, n2_, n3_, n4_, n5_, n6_, n7_, n8_, n9_⟩ ⟨ne_o1_ha, ne_o1_pa, ne_o1_wa, ne_o1_ra, ne_ha_pa, ne_ha_wa, ne_ha_ra, ne_pa_wa, ne_pa_ra, ne_wa_ra⟩ ⟨g_o1, g_ha, g_pa, g_wa, g_ra⟩ y4a hp lw lr) n0_ (hw _ (List.mem_of_getElem? (i := 61) rfl)) (hw _ (List.mem_of_getElem? (i := 62) rfl)) (hw _ (List.mem_of_getElem? (i := 3) rfl)) (hw _ (List.mem_of_getElem? (i := 63) rfl)) (hw _ (List.mem_of_getElem? (i := 4) rfl)) (hw _ (List.mem_of_getElem? (i := 64) rfl)) (by decide) (argsL := [(.int (H.getD ((((2 : Int32) * pl) + (1 : Int32))).toNatClampNeg 0)), (.int p2)]) (rest := []) rfl (lenOf pd_1 rfl) rfl (W := 0) rfl (by decide) (by decide) (by decide) (by decide) d7_63 rfl fun T28 X30 => ?_
          refine w_if_ne X30 d7_66 (by decide) (pcT := 72) (pcF := 69) (by decide) rfl (fun c32 => ?_) (fun c32 => ?_)
          · refine w_aloadN X30 d7_72 rfl rfl rfl ?_
            refine w_aloadN X30 d7_73 rfl rfl rfl ?_
            refine w_getF X30 (host := "") (Or.inl (hw _ (List.mem_of_getElem? (i := 11) rfl))) Via.refl n1_ d7_74 rfl fun T33 X34 => ?_
            refine w_iloadN X34 d7_77 rfl rfl ?_
            refine w_iaload X34 n6_ (D0 _ q4a).1 rfl (getI (by rw [lH]; exact (D0 _ q4a).2.1)) d7_78 rfl ?_
            refine w_iloadN X34 d7_79 rfl rfl ?_
            refine w_private0 X34 (rm_settle l Z a0 hw o1 (H.getD ((((2 : Int32) * pl) + (1 : Int32))).toNatClampNeg 0) pl ha pa wa ra H P c0 ws rs h1 n0 X34.size ⟨n0_, n1_, n2_, n3_, n4_, n5_, n6_, n7_, n8_, n9_⟩ ⟨ne_o1_ha, ne_o1_pa, ne_o1_wa, ne_o1_ra, ne_ha_pa, ne_ha_wa, ne_ha_ra, ne_pa_wa, ne_pa_ra, ne_wa_ra⟩ ⟨g_o1, g_ha, g_pa, g_wa, g_ra⟩ y4a f1 lH lP) n0_ (hw _ (List.mem_of_getElem? (i := 34) rfl)) (hw _ (List.mem_of_getElem? (i := 35) rfl)) (hw _ (List.mem_of_getElem? (i := 3) rfl)) (hw _ (List.mem_of_getElem? (i := 36) rfl)) (hw _ (List.mem_of_getElem? (i := 4) rfl)) (hw _ (List.mem_of_getElem? (i := 37) rfl)) (by decide) (argsL := [(.int (H.getD ((((2 : Int32) * pl) + (1 : Int32))).toNatClampNeg 0)), (.int pl)]) (rest := []) rfl (lenOf pd_0 rfl) rfl (W := 0) rfl (by decide) (by decide) (by decide) (by decide) d7_80 rfl fun T35 h36 X37 q38 => ?_
            obtain ⟨K49, n39, n40, n41, n42, n43, n44, n45, n46, n47, n48⟩ := q38
            have f50 : Exa Z h36 o1 "com/example/knotweave/knotweave/OpenNeeds" := n0_.keep K49
            have k51 : Keep h0 h36 [o1, ha, pa, wa, ra] := k1.trans K49 (allS (Or.inl (List.mem_of_getElem? (i := 0) rfl)) (allS (Or.inl (List.mem_of_getElem? (i := 1) rfl)) (allS (Or.inl (List.mem_of_getElem? (i := 2) rfl)) (allS (Or.inl (List.mem_of_getElem? (i := 3) rfl)) (allS (Or.inl (List.mem_of_getElem? (i := 4) rfl)) all0)))))
            refine w_iloadN X37 d7_83 rfl rfl ?_
            refine w_istoreN X37 d7_84 rfl (L' := #[.val (.ref o1), .val (.int p2), .val (.int (((2 : Int32) * pl) + (1 : Int32))), .val (.int (((2 : Int32) * pl) + (1 : Int32)))]) rfl ?_
            refine w_iconst X37 d7_85 (v := (2 : Int32)) rfl rfl ?_
            refine w_iloadN X37 d7_86 rfl rfl ?_
            refine w_imul X37 d7_87 rfl ?_
            refine w_iconst X37 d7_88 (v := (1 : Int32)) rfl rfl ?_
            refine w_iadd X37 d7_89 rfl ?_
            refine w_istoreN X37 d7_90 rfl (L' := #[.val (.ref o1), .val (.int p2), .val (.int (((2 : Int32) * pl) + (1 : Int32))), .val (.int (((2 : Int32) * (((2 : Int32) * pl) + (1 : Int32))) + (1 : Int32)))]) rfl ?_
            refine w_goto X37 d7_91 (by decide) (pc' := 13) (by decide) ?_
            exact ih (H.set (pl).toNatClampNeg (H.getD ((((2 : Int32) * pl) + (1 : Int32))).toNatClampNeg 0)) (P.set ((H.getD ((((2 : Int32) * pl) + (1 : Int32))).toNatClampNeg 0)).toNatClampNeg pl) _ (((2 : Int32) * pl) + (1 : Int32)) .unset _ _ X37 ⟨n39, n40, n41, n42, n43, n44, n45, n46, n47, n48⟩ k51 Ma.1 Ma.2.1 (Ma.2.2.1.trans mm1) Ma.2.2.2.1 Ma.2.2.2.2.1 (by rw [List.length_set]; exact lH) (by rw [List.length_set]; exact lP) q4a c5 (by have := own_ltI _ _ qla; omega) (by rw [e1, dn, if_pos c5, if_neg c25, if_neg (fun q => c32 (hba.trans q))]) OneS.u
          · refine w_goto X30 d7_69 (by decide) (pc' := 94) (by decide) ?_
            refine w_aloadN X30 d7_94 rfl rfl rfl ?_
            refine w_iloadN X30 d7_95 rfl rfl ?_
            refine w_iloadN X30 d7_96 rfl rfl ?_
            refine w_private0 X30 (rm_settle l Z a0 hw o1 p2 pl ha pa wa ra H P c0 ws rs h1 n0 X30.size ⟨n0_, n1_, n2_, n3_, n4_, n5_, n6_, n7_, n8_, n9_⟩ ⟨ne_o1_ha, ne_o1_pa, ne_o1_wa, ne_o1_ra, ne_ha_pa, ne_ha_wa, ne_ha_ra, ne_pa_wa, ne_pa_ra, ne_wa_ra⟩ ⟨g_o1, g_ha, g_pa, g_wa, g_ra⟩ hp f1 lH lP) n0_ (hw _ (List.mem_of_getElem? (i := 34) rfl)) (hw _ (List.mem_of_getElem? (i := 35) rfl)) (hw _ (List.mem_of_getElem? (i := 3) rfl)) (hw _ (List.mem_of_getElem? (i := 36) rfl)) (hw _ (List.mem_of_getElem? (i := 4) rfl)) (hw _ (List.mem_of_getElem? (i := 37) rfl)) (by decide) (argsL := [(.int p2), (.int pl)]) (rest := []) rfl (lenOf pd_0 rfl) rfl (W := 0) rfl (by decide) (by decide) (by decide) (by decide) d7_97 rfl fun T52 h53 X54 q55 => ?_
            obtain ⟨K66, n56, n57, n58, n59, n60, n61, n62, n63, n64, n65⟩ := q55
            have f67 : Exa Z h53 o1 "com/example/knotweave/knotweave/OpenNeeds" := n0_.keep K66
            have k68 : Keep h0 h53 [o1, ha, pa, wa, ra] := k1.trans K66 (allS (Or.inl (List.mem_of_getElem? (i := 0) rfl)) (allS (Or.inl (List.mem_of_getElem? (i := 1) rfl)) (allS (Or.inl (List.mem_of_getElem? (i := 2) rfl)) (allS (Or.inl (List.mem_of_getElem? (i := 3) rfl)) (allS (Or.inl (List.mem_of_getElem? (i := 4) rfl)) all0)))))
            exact w_return X54 d7_100 rfl ⟨hs1, m1, o1k, mm1, (by rw [e1, dn, if_pos c5, if_neg c25, if_pos (hba.symm.trans c32)]), k68, (by rw [← v2, ← v1]; exact ⟨n56, n57, n58, n59, n60, n61, n62, n63, n64, n65⟩)⟩ (by decide) (by decide)
        · obtain ⟨q4b, qpb, qlb⟩ := DChj c0 hc pl f1 c25
          have Mb := own_mv hs1 H P c0 pl ((((2 : Int32) * pl) + (1 : Int32)) + (1 : Int32)) p2 m1 hc o1k qpb plc1 c25 v1 v2 lH hp
          have y4b := Mb.2.2.2.2.2.1
          have yeb := Mb.2.2.2.2.2.2.1
          have ymb : g4 (mm hs c0) (g4 hs1 ((((2 : Int32) * pl) + (1 : Int32)) + (1 : Int32))) = 1 := by rw [← mm1]; exact Mb.2.2.2.2.2.2.2
          have hbb : f_bf ws rs (H.getD (((((2 : Int32) * pl) + (1 : Int32)) + (1 : Int32))).toNatClampNeg 0) p2 = bf (g4 hs1 ((((2 : Int32) * pl) + (1 : Int32)) + (1 : Int32))) p2 := by rw [yeb]; exact hb _ _ ymb (own_ml hs c0 hs4 hc p2 hp hpl)
          have hbc : f_bf ws rs (H.getD (((((2 : Int32) * pl) + (1 : Int32)) + (1 : Int32))).toNatClampNeg 0) (H.getD ((((2 : Int32) * pl) + (1 : Int32))).toNatClampNeg 0) = bf (g4 hs1 ((((2 : Int32) * pl) + (1 : Int32)) + (1 : Int32))) (g4 hs1 (((2 : Int32) * pl) + (1 : Int32))) := by rw [yea, yeb]; exact hb _ _ ymb yma
          refine w_aloadN X24 d7_31 rfl rfl rfl ?_
          refine w_aloadN X24 d7_32 rfl rfl rfl ?_
          refine w_getF X24 (host := "") (Or.inl (hw _ (List.mem_of_getElem? (i := 11) rfl))) Via.refl n1_ d7_33 rfl fun T69 X70 => ?_
          refine w_iloadN X70 d7_36 rfl rfl ?_
          refine w_iconst X70 d7_37 (v := (1 : Int32)) rfl rfl ?_
          refine w_iadd X70 d7_38 rfl ?_
          refine w_iaload X70 n6_ (D0 _ q4b).1 rfl (getI (by rw [lH]; exact (D0 _ q4b).2.1)) d7_39 rfl ?_
          refine w_aloadN X70 d7_40 rfl rfl rfl ?_
          refine w_getF X70 (host := "") (Or.inl (hw _ (List.mem_of_getElem? (i := 11) rfl))) Via.refl n1_ d7_41 rfl fun T71 X72 => ?_
          refine w_iloadN X72 d7_44 rfl rfl ?_
          refine w_iaload X72 n6_ (D0 _ q4a).1 rfl (getI (by rw [lH]; exact (D0 _ q4a).2.1)) d7_45 rfl ?_
          refine w_privateVP X72 (rm_before l Z a0 hw o1 (H.getD (((((2 : Int32) * pl) + (1 : Int32)) + (1 : Int32))).toNatClampNeg 0) (H.getD ((((2 : Int32) * pl) + (1 : Int32))).toNatClampNeg 0) ha pa wa ra H P c0 ws rs h1 n0 X72.size ⟨n0_, n1_, n2_, n3_, n4_, n5_, n6_, n7_, n8_, n9_⟩ ⟨ne_o1_ha, ne_o1_pa, ne_o1_wa, ne_o1_ra, ne_ha_pa, ne_ha_wa, ne_ha_ra, ne_pa_wa, ne_pa_ra, ne_wa_ra⟩ ⟨g_o1, g_ha, g_pa, g_wa, g_ra⟩ y4b y4a lw lr) n0_ (hw _ (List.mem_of_getElem? (i := 61) rfl)) (hw _ (List.mem_of_getElem? (i := 62) rfl)) (hw _ (List.mem_of_getElem? (i := 3) rfl)) (hw _ (List.mem_of_getElem? (i := 63) rfl)) (hw _ (List.mem_of_getElem? (i := 4) rfl)) (hw _ (List.mem_of_getElem? (i := 64) rfl)) (by decide) (argsL := [(.int (H.getD (((((2 : Int32) * pl) + (1 : Int32)) + (1 : Int32))).toNatClampNeg 0)), (.int (H.getD ((((2 : Int32) * pl) + (1 : Int32))).toNatClampNeg 0))]) (rest := []) rfl (lenOf pd_1 rfl) rfl (W := 0) rfl (by decide) (by decide) (by decide) (by decide) d7_46 rfl fun T73 X75 => ?_
          refine w_if_eq X75 d7_49 (by decide) (pcT := 55) (pcF := 52) (by decide) rfl (fun c77 => ?_) (fun c77 => ?_)
          · refine w_aloadN X75 d7_55 rfl rfl rfl ?_
            refine w_aloadN X75 d7_56 rfl rfl rfl ?_
            refine w_getF X75 (host := "") (Or.inl (hw _ (List.mem_of_getElem? (i := 11) rfl))) Via.refl n1_ d7_57 rfl fun T78 X79 => ?_
            refine w_iloadN X79 d7_60 rfl rfl ?_
            refine w_iaload X79 n6_ (D0 _ q4a).1 rfl (getI (by rw [lH]; exact (D0 _ q4a).2.1)) d7_61 rfl ?_
            refine w_iloadN X79 d7_62 rfl rfl ?_
            refine w_privateVP X79 (rm_before l Z a0 hw o1 (H.getD ((((2 : Int32) * pl) + (1 : Int32))).toNatClampNeg 0) p2 ha pa wa ra H P c0 ws rs h1 n0 X79.size ⟨n0_, n1_, n2_, n3_, n4_, n5_, n6_, n7_, n8_, n9_⟩ ⟨ne_o1_ha, ne_o1_pa, ne_o1_wa, ne_o1_ra, ne_ha_pa, ne_ha_wa, ne_ha_ra, ne_pa_wa, ne_pa_ra, ne_wa_ra⟩ ⟨g_o1, g_ha, g_pa, g_wa, g_ra⟩ y4a hp lw lr) n0_ (hw _ (List.mem_of_getElem? (i := 61) rfl)) (hw _ (List.mem_of_getElem? (i := 62) rfl)) (hw _ (List.mem_of_getElem? (i := 3) rfl)) (hw _ (List.mem_of_getElem? (i := 63) rfl)) (hw _ (List.mem_of_getElem? (i := 4) rfl)) (hw _ (List.mem_of_getElem? (i := 64) rfl)) (by decide) (argsL := [(.int (H.getD ((((2 : Int32) * pl) + (1 : Int32))).toNatClampNeg 0)), (.int p2)]) (rest := []) rfl (lenOf pd_1 rfl) rfl (W := 0) rfl (by decide) (by decide) (by decide) (by decide) d7_63 rfl fun T80 X82 => ?_
            refine w_if_ne X82 d7_66 (by decide) (pcT := 72) (pcF := 69) (by decide) rfl (fun c84 => ?_) (fun c84 => ?_)
            · refine w_aloadN X82 d7_72 rfl rfl rfl ?_
              refine w_aloadN X82 d7_73 rfl rfl rfl ?_
              refine w_getF X82 (host := "") (Or.inl (hw _ (List.mem_of_getElem? (i := 11) rfl))) Via.refl n1_ d7_74 rfl fun T85 X86 => ?_
              refine w_iloadN X86 d7_77 rfl rfl ?_
              refine w_iaload X86 n6_ (D0 _ q4a).1 rfl (getI (by rw [lH]; exact (D0 _ q4a).2.1)) d7_78 rfl ?_
              refine w_iloadN X86 d7_79 rfl rfl ?_
              refine w_private0 X86 (rm_settle l Z a0 hw o1 (H.getD ((((2 : Int32) * pl) + (1 : Int32))).toNatClampNeg 0) pl ha pa wa ra H P c0 ws rs h1 n0 X86.size ⟨n0_, n1_, n2_, n3_, n4_, n5_, n6_, n7_, n8_, n9_⟩ ⟨ne_o1_ha, ne_o1_pa, ne_o1_wa, ne_o1_ra, ne_ha_pa, ne_ha_wa, ne_ha_ra, ne_pa_wa, ne_pa_ra, ne_wa_ra⟩ ⟨g_o1, g_ha, g_pa, g_wa, g_ra⟩ y4a f1 lH lP) n0_ (hw _ (List.mem_of_getElem? (i := 34) rfl)) (hw _ (List.mem_of_getElem? (i := 35) rfl)) (hw _ (List.mem_of_getElem? (i := 3) rfl)) (hw _ (List.mem_of_getElem? (i := 36) rfl)) (hw _ (List.mem_of_getElem? (i := 4) rfl)) (hw _ (List.mem_of_getElem? (i := 37) rfl)) (by decide) (argsL := [(.int (H.getD ((((2 : Int32) * pl) + (1 : Int32))).toNatClampNeg 0)), (.int pl)]) (rest := []) rfl (lenOf pd_0 rfl) rfl (W := 0) rfl (by decide) (by decide) (by decide) (by decide) d7_80 rfl fun T87 h88 X89 q90 => ?_
              obtain ⟨K101, n91, n92, n93, n94, n95, n96, n97, n98, n99, n100⟩ := q90
              have f102 : Exa Z h88 o1 "com/example/knotweave/knotweave/OpenNeeds" := n0_.keep K101
              have k103 : Keep h0 h88 [o1, ha, pa, wa, ra] := k1.trans K101 (allS (Or.inl (List.mem_of_getElem? (i := 0) rfl)) (allS (Or.inl (List.mem_of_getElem? (i := 1) rfl)) (allS (Or.inl (List.mem_of_getElem? (i := 2) rfl)) (allS (Or.inl (List.mem_of_getElem? (i := 3) rfl)) (allS (Or.inl (List.mem_of_getElem? (i := 4) rfl)) all0)))))
              refine w_iloadN X89 d7_83 rfl rfl ?_
              refine w_istoreN X89 d7_84 rfl (L' := #[.val (.ref o1), .val (.int p2), .val (.int (((2 : Int32) * pl) + (1 : Int32))), .val (.int (((2 : Int32) * pl) + (1 : Int32)))]) rfl ?_
              refine w_iconst X89 d7_85 (v := (2 : Int32)) rfl rfl ?_
              refine w_iloadN X89 d7_86 rfl rfl ?_
              refine w_imul X89 d7_87 rfl ?_
              refine w_iconst X89 d7_88 (v := (1 : Int32)) rfl rfl ?_
              refine w_iadd X89 d7_89 rfl ?_
              refine w_istoreN X89 d7_90 rfl (L' := #[.val (.ref o1), .val (.int p2), .val (.int (((2 : Int32) * pl) + (1 : Int32))), .val (.int (((2 : Int32) * (((2 : Int32) * pl) + (1 : Int32))) + (1 : Int32)))]) rfl ?_
              refine w_goto X89 d7_91 (by decide) (pc' := 13) (by decide) ?_
              exact ih (H.set (pl).toNatClampNeg (H.getD ((((2 : Int32) * pl) + (1 : Int32))).toNatClampNeg 0)) (P.set ((H.getD ((((2 : Int32) * pl) + (1 : Int32))).toNatClampNeg 0)).toNatClampNeg pl) _ (((2 : Int32) * pl) + (1 : Int32)) .unset _ _ X89 ⟨n91, n92, n93, n94, n95, n96, n97, n98, n99, n100⟩ k103 Ma.1 Ma.2.1 (Ma.2.2.1.trans mm1) Ma.2.2.2.1 Ma.2.2.2.2.1 (by rw [List.length_set]; exact lH) (by rw [List.length_set]; exact lP) q4a c5 (by have := own_ltI _ _ qla; omega) (by rw [e1, dn, if_pos c5, if_pos c25, if_pos (hbc.symm.trans c77), if_neg (fun q => c84 (hba.trans q))]) OneS.u
            · refine w_goto X82 d7_69 (by decide) (pc' := 94) (by decide) ?_
              refine w_aloadN X82 d7_94 rfl rfl rfl ?_
              refine w_iloadN X82 d7_95 rfl rfl ?_
              refine w_iloadN X82 d7_96 rfl rfl ?_
              refine w_private0 X82 (rm_settle l Z a0 hw o1 p2 pl ha pa wa ra H P c0 ws rs h1 n0 X82.size ⟨n0_, n1_, n2_, n3_, n4_, n5_, n6_, n7_, n8_, n9_⟩ ⟨ne_o1_ha, ne_o1_pa, ne_o1_wa, ne_o1_ra, ne_ha_pa, ne_ha_wa, ne_ha_ra, ne_pa_wa, ne_pa_ra, ne_wa_ra⟩ ⟨g_o1, g_ha, g_pa, g_wa, g_ra⟩ hp f1 lH lP) n0_ (hw _ (List.mem_of_getElem? (i := 34) rfl)) (hw _ (List.mem_of_getElem? (i := 35) rfl)) (hw _ (List.mem_of_getElem? (i := 3) rfl)) (hw _ (List.mem_of_getElem? (i := 36) rfl)) (hw _ (List.mem_of_getElem? (i := 4) rfl)) (hw _ (List.mem_of_getElem? (i := 37) rfl)) (by decide) (argsL := [(.int p2), (.int pl)]) (rest := []) rfl (lenOf pd_0 rfl) rfl (W := 0) rfl (by decide) (by decide) (by decide) (by decide) d7_97 rfl fun T104 h105 X106 q107 => ?_
              obtain ⟨K118, n108, n109, n110, n111, n112, n113, n114, n115, n116, n117⟩ := q107
              have f119 : Exa Z h105 o1 "com/example/knotweave/knotweave/OpenNeeds" := n0_.keep K118
              have k120 : Keep h0 h105 [o1, ha, pa, wa, ra] := k1.trans K118 (allS (Or.inl (List.mem_of_getElem? (i := 0) rfl)) (allS (Or.inl (List.mem_of_getElem? (i := 1) rfl)) (allS (Or.inl (List.mem_of_getElem? (i := 2) rfl)) (allS (Or.inl (List.mem_of_getElem? (i := 3) rfl)) (allS (Or.inl (List.mem_of_getElem? (i := 4) rfl)) all0)))))
              exact w_return X106 d7_100 rfl ⟨hs1, m1, o1k, mm1, (by rw [e1, dn, if_pos c5, if_pos c25, if_pos (hbc.symm.trans c77), if_pos (hba.symm.trans c84)]), k120, (by rw [← v2, ← v1]; exact ⟨n108, n109, n110, n111, n112, n113, n114, n115, n116, n117⟩)⟩ (by decide) (by decide)
          · refine w_iinc X75 d7_52 rfl rfl (v' := ((((2 : Int32) * pl) + (1 : Int32)) + (1 : Int32))) rfl (L' := #[.val (.ref o1), .val (.int p2), .val (.int pl), .val (.int ((((2 : Int32) * pl) + (1 : Int32)) + (1 : Int32)))]) rfl ?_
            refine w_aloadN X75 d7_55 rfl rfl rfl ?_
            refine w_aloadN X75 d7_56 rfl rfl rfl ?_
            refine w_getF X75 (host := "") (Or.inl (hw _ (List.mem_of_getElem? (i := 11) rfl))) Via.refl n1_ d7_57 rfl fun T121 X122 => ?_
            refine w_iloadN X122 d7_60 rfl rfl ?_
            refine w_iaload X122 n6_ (D0 _ q4b).1 rfl (getI (by rw [lH]; exact (D0 _ q4b).2.1)) d7_61 rfl ?_
            refine w_iloadN X122 d7_62 rfl rfl ?_
            refine w_privateVP X122 (rm_before l Z a0 hw o1 (H.getD (((((2 : Int32) * pl) + (1 : Int32)) + (1 : Int32))).toNatClampNeg 0) p2 ha pa wa ra H P c0 ws rs h1 n0 X122.size ⟨n0_, n1_, n2_, n3_, n4_, n5_, n6_, n7_, n8_, n9_⟩ ⟨ne_o1_ha, ne_o1_pa, ne_o1_wa, ne_o1_ra, ne_ha_pa, ne_ha_wa, ne_ha_ra, ne_pa_wa, ne_pa_ra, ne_wa_ra⟩ ⟨g_o1, g_ha, g_pa, g_wa, g_ra⟩ y4b hp lw lr) n0_ (hw _ (List.mem_of_getElem? (i := 61) rfl)) (hw _ (List.mem_of_getElem? (i := 62) rfl)) (hw _ (List.mem_of_getElem? (i := 3) rfl)) (hw _ (List.mem_of_getElem? (i := 63) rfl)) (hw _ (List.mem_of_getElem? (i := 4) rfl)) (hw _ (List.mem_of_getElem? (i := 64) rfl)) (by decide) (argsL := [(.int (H.getD (((((2 : Int32) * pl) + (1 : Int32)) + (1 : Int32))).toNatClampNeg 0)), (.int p2)]) (rest := []) rfl (lenOf pd_1 rfl) rfl (W := 0) rfl (by decide) (by decide) (by decide) (by decide) d7_63 rfl fun T123 X125 => ?_
            refine w_if_ne X125 d7_66 (by decide) (pcT := 72) (pcF := 69) (by decide) rfl (fun c127 => ?_) (fun c127 => ?_)
            · refine w_aloadN X125 d7_72 rfl rfl rfl ?_
              refine w_aloadN X125 d7_73 rfl rfl rfl ?_
              refine w_getF X125 (host := "") (Or.inl (hw _ (List.mem_of_getElem? (i := 11) rfl))) Via.refl n1_ d7_74 rfl fun T128 X129 => ?_
              refine w_iloadN X129 d7_77 rfl rfl ?_
              refine w_iaload X129 n6_ (D0 _ q4b).1 rfl (getI (by rw [lH]; exact (D0 _ q4b).2.1)) d7_78 rfl ?_
              refine w_iloadN X129 d7_79 rfl rfl ?_
              refine w_private0 X129 (rm_settle l Z a0 hw o1 (H.getD (((((2 : Int32) * pl) + (1 : Int32)) + (1 : Int32))).toNatClampNeg 0) pl ha pa wa ra H P c0 ws rs h1 n0 X129.size ⟨n0_, n1_, n2_, n3_, n4_, n5_, n6_, n7_, n8_, n9_⟩ ⟨ne_o1_ha, ne_o1_pa, ne_o1_wa, ne_o1_ra, ne_ha_pa, ne_ha_wa, ne_ha_ra, ne_pa_wa, ne_pa_ra, ne_wa_ra⟩ ⟨g_o1, g_ha, g_pa, g_wa, g_ra⟩ y4b f1 lH lP) n0_ (hw _ (List.mem_of_getElem? (i := 34) rfl)) (hw _ (List.mem_of_getElem? (i := 35) rfl)) (hw _ (List.mem_of_getElem? (i := 3) rfl)) (hw _ (List.mem_of_getElem? (i := 36) rfl)) (hw _ (List.mem_of_getElem? (i := 4) rfl)) (hw _ (List.mem_of_getElem? (i := 37) rfl)) (by decide) (argsL := [(.int (H.getD (((((2 : Int32) * pl) + (1 : Int32)) + (1 : Int32))).toNatClampNeg 0)), (.int pl)]) (rest := []) rfl (lenOf pd_0 rfl) rfl (W := 0) rfl (by decide) (by decide) (by decide) (by decide) d7_80 rfl fun T130 h131 X132 q133 => ?_
              obtain ⟨K144, n134, n135, n136, n137, n138, n139, n140, n141, n142, n143⟩ := q133
              have f145 : Exa Z h131 o1 "com/example/knotweave/knotweave/OpenNeeds" := n0_.keep K144
              have k146 : Keep h0 h131 [o1, ha, pa, wa, ra] := k1.trans K144 (allS (Or.inl (List.mem_of_getElem? (i := 0) rfl)) (allS (Or.inl (List.mem_of_getElem? (i := 1) rfl)) (allS (Or.inl (List.mem_of_getElem? (i := 2) rfl)) (allS (Or.inl (List.mem_of_getElem? (i := 3) rfl)) (allS (Or.inl (List.mem_of_getElem? (i := 4) rfl)) all0)))))
              refine w_iloadN X132 d7_83 rfl rfl ?_
              refine w_istoreN X132 d7_84 rfl (L' := #[.val (.ref o1), .val (.int p2), .val (.int ((((2 : Int32) * pl) + (1 : Int32)) + (1 : Int32))), .val (.int ((((2 : Int32) * pl) + (1 : Int32)) + (1 : Int32)))]) rfl ?_
              refine w_iconst X132 d7_85 (v := (2 : Int32)) rfl rfl ?_
              refine w_iloadN X132 d7_86 rfl rfl ?_
              refine w_imul X132 d7_87 rfl ?_
              refine w_iconst X132 d7_88 (v := (1 : Int32)) rfl rfl ?_
              refine w_iadd X132 d7_89 rfl ?_
              refine w_istoreN X132 d7_90 rfl (L' := #[.val (.ref o1), .val (.int p2), .val (.int ((((2 : Int32) * pl) + (1 : Int32)) + (1 : Int32))), .val (.int (((2 : Int32) * ((((2 : Int32) * pl) + (1 : Int32)) + (1 : Int32))) + (1 : Int32)))]) rfl ?_
              refine w_goto X132 d7_91 (by decide) (pc' := 13) (by decide) ?_
              exact ih (H.set (pl).toNatClampNeg (H.getD (((((2 : Int32) * pl) + (1 : Int32)) + (1 : Int32))).toNatClampNeg 0)) (P.set ((H.getD (((((2 : Int32) * pl) + (1 : Int32)) + (1 : Int32))).toNatClampNeg 0)).toNatClampNeg pl) _ ((((2 : Int32) * pl) + (1 : Int32)) + (1 : Int32)) .unset _ _ X132 ⟨n134, n135, n136, n137, n138, n139, n140, n141, n142, n143⟩ k146 Mb.1 Mb.2.1 (Mb.2.2.1.trans mm1) Mb.2.2.2.1 Mb.2.2.2.2.1 (by rw [List.length_set]; exact lH) (by rw [List.length_set]; exact lP) q4b c25 (by have := own_ltI _ _ qlb; omega) (by rw [e1, dn, if_pos c5, if_pos c25, if_neg (fun q => c77 (hbc.trans q)), if_neg (fun q => c127 (hbb.trans q))]) OneS.u
            · refine w_goto X125 d7_69 (by decide) (pc' := 94) (by decide) ?_
              refine w_aloadN X125 d7_94 rfl rfl rfl ?_
              refine w_iloadN X125 d7_95 rfl rfl ?_
              refine w_iloadN X125 d7_96 rfl rfl ?_
              refine w_private0 X125 (rm_settle l Z a0 hw o1 p2 pl ha pa wa ra H P c0 ws rs h1 n0 X125.size ⟨n0_, n1_, n2_, n3_, n4_, n5_, n6_, n7_, n8_, n9_⟩ ⟨ne_o1_ha, ne_o1_pa, ne_o1_wa, ne_o1_ra, ne_ha_pa, ne_ha_wa, ne_ha_ra, ne_pa_wa, ne_pa_ra, ne_wa_ra⟩ ⟨g_o1, g_ha, g_pa, g_wa, g_ra⟩ hp f1 lH lP) n0_ (hw _ (List.mem_of_getElem? (i := 34) rfl)) (hw _ (List.mem_of_getElem? (i := 35) rfl)) (hw _ (List.mem_of_getElem? (i := 3) rfl)) (hw _ (List.mem_of_getElem? (i := 36) rfl)) (hw _ (List.mem_of_getElem? (i := 4) rfl)) (hw _ (List.mem_of_getElem? (i := 37) rfl)) (by decide) (argsL := [(.int p2), (.int pl)]) (rest := []) rfl (lenOf pd_0 rfl) rfl (W := 0) rfl (by decide) (by decide) (by decide) (by decide) d7_97 rfl fun T147 h148 X149 q150 => ?_
              obtain ⟨K161, n151, n152, n153, n154, n155, n156, n157, n158, n159, n160⟩ := q150
              have f162 : Exa Z h148 o1 "com/example/knotweave/knotweave/OpenNeeds" := n0_.keep K161
              have k163 : Keep h0 h148 [o1, ha, pa, wa, ra] := k1.trans K161 (allS (Or.inl (List.mem_of_getElem? (i := 0) rfl)) (allS (Or.inl (List.mem_of_getElem? (i := 1) rfl)) (allS (Or.inl (List.mem_of_getElem? (i := 2) rfl)) (allS (Or.inl (List.mem_of_getElem? (i := 3) rfl)) (allS (Or.inl (List.mem_of_getElem? (i := 4) rfl)) all0)))))
              exact w_return X149 d7_100 rfl ⟨hs1, m1, o1k, mm1, (by rw [e1, dn, if_pos c5, if_pos c25, if_neg (fun q => c77 (hbc.trans q)), if_pos (hbb.symm.trans c127)]), k163, (by rw [← v2, ← v1]; exact ⟨n151, n152, n153, n154, n155, n156, n157, n158, n159, n160⟩)⟩ (by decide) (by decide)
  have hpi := DPl hs hs4 c0 hc ho p2 hp hpl
  exact loop 5 hs (plc hs c0) hs _ .unset _ _ X2 O0 (Keep.refl h0 [o1, ha, pa, wa, ra]) hs4 ho rfl hpi.2.2.1 hpi.2.2.2 (DLen hs hs4).1 rfl hpi.1 hpi.2.1 (by have := (D0 _ hpi.1).2.2; omega) rfl OneS.u
theorem d4_0 : decode prog_39_method_5_code 0 = .ok (.aload_n 0, 1) := by decide +kernel
theorem d4_1 : decode prog_39_method_5_code 1 = .ok (.getfield 16, 3) := by decide +kernel
theorem d4_4 : decode prog_39_method_5_code 4 = .ok (.iload_n 1, 1) := by decide +kernel
theorem d4_5 : decode prog_39_method_5_code 5 = .ok (.iload_n 2, 1) := by decide +kernel
theorem d4_6 : decode prog_39_method_5_code 6 = .ok (.iastore, 1) := by decide +kernel
theorem d4_7 : decode prog_39_method_5_code 7 = .ok (.aload_n 0, 1) := by decide +kernel
theorem d4_8 : decode prog_39_method_5_code 8 = .ok (.getfield 19, 3) := by decide +kernel
theorem d4_11 : decode prog_39_method_5_code 11 = .ok (.iload_n 1, 1) := by decide +kernel
theorem d4_12 : decode prog_39_method_5_code 12 = .ok (.lload_n 3, 1) := by decide +kernel
theorem d4_13 : decode prog_39_method_5_code 13 = .ok (.lastore, 1) := by decide +kernel
theorem d4_14 : decode prog_39_method_5_code 14 = .ok (.aload_n 0, 1) := by decide +kernel
theorem d4_15 : decode prog_39_method_5_code 15 = .ok (.getfield 13, 3) := by decide +kernel
theorem d4_18 : decode prog_39_method_5_code 18 = .ok (.iload_n 1, 1) := by decide +kernel
theorem d4_19 : decode prog_39_method_5_code 19 = .ok (.iaload, 1) := by decide +kernel
theorem d4_20 : decode prog_39_method_5_code 20 = .ok (.ifCond .ge 30, 3) := by decide +kernel
theorem d4_23 : decode prog_39_method_5_code 23 = .ok (.aload_n 0, 1) := by decide +kernel
theorem d4_24 : decode prog_39_method_5_code 24 = .ok (.getfield 13, 3) := by decide +kernel
theorem d4_27 : decode prog_39_method_5_code 27 = .ok (.iload_n 1, 1) := by decide +kernel
theorem d4_28 : decode prog_39_method_5_code 28 = .ok (.aload_n 0, 1) := by decide +kernel
theorem d4_29 : decode prog_39_method_5_code 29 = .ok (.getfield 29, 3) := by decide +kernel
theorem d4_32 : decode prog_39_method_5_code 32 = .ok (.iastore, 1) := by decide +kernel
theorem d4_33 : decode prog_39_method_5_code 33 = .ok (.aload_n 0, 1) := by decide +kernel
theorem d4_34 : decode prog_39_method_5_code 34 = .ok (.getfield 7, 3) := by decide +kernel
theorem d4_37 : decode prog_39_method_5_code 37 = .ok (.aload_n 0, 1) := by decide +kernel
theorem d4_38 : decode prog_39_method_5_code 38 = .ok (.dup, 1) := by decide +kernel
theorem d4_39 : decode prog_39_method_5_code 39 = .ok (.getfield 29, 3) := by decide +kernel
theorem d4_42 : decode prog_39_method_5_code 42 = .ok (.dup_x1, 1) := by decide +kernel
theorem d4_43 : decode prog_39_method_5_code 43 = .ok (.iconst 1, 1) := by decide +kernel
theorem d4_44 : decode prog_39_method_5_code 44 = .ok (.iadd, 1) := by decide +kernel
theorem d4_45 : decode prog_39_method_5_code 45 = .ok (.putfield 29, 3) := by decide +kernel
theorem d4_48 : decode prog_39_method_5_code 48 = .ok (.iload_n 1, 1) := by decide +kernel
theorem d4_49 : decode prog_39_method_5_code 49 = .ok (.iastore, 1) := by decide +kernel
theorem d4_50 : decode prog_39_method_5_code 50 = .ok (.aload_n 0, 1) := by decide +kernel
theorem d4_51 : decode prog_39_method_5_code 51 = .ok (.iload_n 1, 1) := by decide +kernel
theorem d4_52 : decode prog_39_method_5_code 52 = .ok (.invokevirtual 33, 3) := by decide +kernel
theorem d4_55 : decode prog_39_method_5_code 55 = .ok (.aload_n 0, 1) := by decide +kernel
theorem d4_56 : decode prog_39_method_5_code 56 = .ok (.iload_n 1, 1) := by decide +kernel
theorem d4_57 : decode prog_39_method_5_code 57 = .ok (.invokevirtual 37, 3) := by decide +kernel
theorem d4_60 : decode prog_39_method_5_code 60 = .ok (.return_, 1) := by decide +kernel
theorem pd_2 : parseMethodDescriptor "(I)V" = some ⟨[.int], none⟩ := by decide +kernel
theorem pn_4 : plainName "com/example/knotweave/knotweave/OpenNeeds" = true := by first | (simp [plainName, overriddenIn]; done) | decide +kernel
theorem ef_4 (m : MethodId) (o1 : Addr) (p2 : Int32) (p3 : Int32) (q4 : Int64) : entryFrame m #[(.ref o1), (.int p2), (.int p3), (.long q4)] 5 = mkF m 0 #[.val (.ref o1), .val (.int p2), .val (.int p3), .val (.long q4), .second] [] := by first | (simp [entryFrame, mkF, argsToLocals, Value.category]; done) | rfl
set_option maxRecDepth 65536 in
set_option maxHeartbeats 40000000 in
theorem rm_put (l : Launch) (Z : State) (a0 : Array Value) (hw : ∀ d ∈ tables_1, d.before a0 Z = true) (o1 : Addr) (p2 : Int32) (p3 : Int32) (q4 : Int64) (ha : Addr) (pa : Addr) (wa : Addr) (ra : Addr) (hs : List Int32) (c0 : Int32) (ws : List Int32) (rs : List Int64) (h0 : Heap) (n0 : Nat) (Z0 : n0 ≤ h0.size) (O : ONs Z h0 o1 ha pa wa ra hs (plc hs c0) c0 ws rs) (D : Dst o1 ha pa wa ra) (G : Ges n0 o1 ha pa wa ra) (bf : Int32 → Int32 → Int32) (hb : ∀ a b, g4 ((mm hs c0).set (p2).toNatClampNeg 1) a = 1 → g4 ((mm hs c0).set (p2).toNatClampNeg 1) b = 1 → f_bf (ws.set (p2).toNatClampNeg p3) (rs.set (p2).toNatClampNeg q4) a b = bf a b) (hs4 : hs ∈ S4) (hc : c0 ∈ five) (ho : okb hs c0 = true) (hp : p2 ∈ four) (lw : ws.length = 4) (lr : rs.length = 4) :
    Con l Z (⟨"com/example/knotweave/knotweave/OpenNeeds", "put", "(IIJ)V"⟩ : MethodName) prog_39_method_5_code 5 none ({ frames := 2, cells := 0, slots := 0, locals := 29 } : Room) #[(.ref o1), (.int p2), (.int p3), (.long q4)] h0 n0 none (fun h => ∃ hs', hs' ∈ S4 ∧ putC hs c0 p2 ∈ five ∧ okb hs' (putC hs c0 p2) = true ∧ mm hs' (putC hs c0 p2) = (mm hs c0).set (p2).toNatClampNeg 1 ∧ hs' = putH bf hs c0 p2 ∧ Keep h0 h [o1, ha, pa, wa, ra] ∧ ONs Z h o1 ha pa wa ra hs' (plc hs' (putC hs c0 p2)) (putC hs c0 p2) (ws.set (p2).toNatClampNeg p3) (rs.set (p2).toNatClampNeg q4)) := by
  refine con_of (plainFor_of_name pn_4) Z0 (fun m => ef_4 m o1 p2 p3 q4) ?_
  intro p e s m below meth c T0 X0
  obtain ⟨E_o, F_h, F_p, F_w, F_r, F_c, A_h, A_p, A_w, A_r⟩ := O
  obtain ⟨ne_o1_ha, ne_o1_pa, ne_o1_wa, ne_o1_ra, ne_ha_pa, ne_ha_wa, ne_ha_ra, ne_pa_wa, ne_pa_ra, ne_wa_ra⟩ := D
  obtain ⟨g_o1, g_ha, g_pa, g_wa, g_ra⟩ := G
  refine w_aloadN X0 d4_0 rfl rfl rfl ?_
  refine w_getF X0 (host := "") (Or.inl (hw _ (List.mem_of_getElem? (i := 15) rfl))) Via.refl F_w d4_1 rfl fun T1 X2 => ?_
  refine w_iloadN X2 d4_4 rfl rfl ?_
  refine w_iloadN X2 d4_5 rfl rfl ?_
  refine w_iastore X2 A_w (D0 _ hp).1 rfl (by rw [List.length_map]; exact (by rw [lw]; exact (D0 _ hp).2.1)) g_wa d4_6 rfl fun T3 h6 X4 W5 A7 => ?_
  rw [← List.map_set] at A7
  obtain ⟨xs8, hxs8⟩ : ∃ z, z = (ws.set (p2).toNatClampNeg p3) := ⟨_, rfl⟩
  rw [← hxs8] at A7
  have f9 : Exa Z h6 o1 "com/example/knotweave/knotweave/OpenNeeds" := Exa.wr W5 E_o
  have f10 : Fld Z h6 o1 "com/example/knotweave/knotweave/OpenNeeds" "heap" "[I" (.ref ha) := Fld.other W5 F_h (Or.inl ne_o1_wa)
  have f11 : Fld Z h6 o1 "com/example/knotweave/knotweave/OpenNeeds" "placeOf" "[I" (.ref pa) := Fld.other W5 F_p (Or.inl ne_o1_wa)
  have f12 : Fld Z h6 o1 "com/example/knotweave/knotweave/OpenNeeds" "waysOf" "[I" (.ref wa) := Fld.other W5 F_w (Or.inl ne_o1_wa)
  have f13 : Fld Z h6 o1 "com/example/knotweave/knotweave/OpenNeeds" "rankOf" "[J" (.ref ra) := Fld.other W5 F_r (Or.inl ne_o1_wa)
  have f14 : Fld Z h6 o1 "com/example/knotweave/knotweave/OpenNeeds" "count" "I" (.int c0) := Fld.other W5 F_c (Or.inl ne_o1_wa)
  have f15 : AV Z h6 ha .int (hs.map Value.int) := A_h.other W5 ne_ha_wa
  have f16 : AV Z h6 pa .int ((plc hs c0).map Value.int) := A_p.other W5 ne_pa_wa
  have f17 : AV Z h6 wa .int (xs8.map Value.int) := A7
  have f18 : AV Z h6 ra .long (rs.map Value.long) := A_r.other W5 (Ne.symm ne_wa_ra)
  have k19 : Keep h0 h6 [o1, ha, pa, wa, ra] := (Keep.refl h0 [o1, ha, pa, wa, ra]).wr W5 (Or.inl (List.mem_of_getElem? (i := 3) rfl))
  refine w_aloadN X4 d4_7 rfl rfl rfl ?_
  refine w_getF X4 (host := "") (Or.inl (hw _ (List.mem_of_getElem? (i := 17) rfl))) Via.refl f13 d4_8 rfl fun T20 X21 => ?_
  refine w_iloadN X21 d4_11 rfl rfl ?_
  refine w_lloadN X21 d4_12 rfl rfl ?_
  refine w_lastore X21 f18 (D0 _ hp).1 rfl (by rw [List.length_map]; exact (by rw [lr]; exact (D0 _ hp).2.1)) g_ra d4_13 rfl fun T22 h25 X23 W24 A26 => ?_
  rw [← List.map_set] at A26
  obtain ⟨xs27, hxs27⟩ : ∃ z, z = (rs.set (p2).toNatClampNeg q4) := ⟨_, rfl⟩
  rw [← hxs27] at A26
  have f28 : Exa Z h25 o1 "com/example/knotweave/knotweave/OpenNeeds" := Exa.wr W24 f9
  have f29 : Fld Z h25 o1 "com/example/knotweave/knotweave/OpenNeeds" "heap" "[I" (.ref ha) := Fld.other W24 f10 (Or.inl ne_o1_ra)
  have f30 : Fld Z h25 o1 "com/example/knotweave/knotweave/OpenNeeds" "placeOf" "[I" (.ref pa) := Fld.other W24 f11 (Or.inl ne_o1_ra)
  have f31 : Fld Z h25 o1 "com/example/knotweave/knotweave/OpenNeeds" "waysOf" "[I" (.ref wa) := Fld.other W24 f12 (Or.inl ne_o1_ra)
  have f32 : Fld Z h25 o1 "com/example/knotweave/knotweave/OpenNeeds" "rankOf" "[J" (.ref ra) := Fld.other W24 f13 (Or.inl ne_o1_ra)
  have f33 : Fld Z h25 o1 "com/example/knotweave/knotweave/OpenNeeds" "count" "I" (.int c0) := Fld.other W24 f14 (Or.inl ne_o1_ra)
  have f34 : AV Z h25 ha .int (hs.map Value.int) := f15.other W24 ne_ha_ra
  have f35 : AV Z h25 pa .int ((plc hs c0).map Value.int) := f16.other W24 ne_pa_ra
  have f36 : AV Z h25 wa .int (xs8.map Value.int) := f17.other W24 ne_wa_ra
  have f37 : AV Z h25 ra .long (xs27.map Value.long) := A26
  have k38 : Keep h0 h25 [o1, ha, pa, wa, ra] := k19.wr W24 (Or.inl (List.mem_of_getElem? (i := 4) rfl))
  refine w_aloadN X23 d4_14 rfl rfl rfl ?_
  refine w_getF X23 (host := "") (Or.inl (hw _ (List.mem_of_getElem? (i := 13) rfl))) Via.refl f30 d4_15 rfl fun T39 X40 => ?_
  refine w_iloadN X40 d4_18 rfl rfl ?_
  refine w_iaload X40 f35 (D0 _ hp).1 rfl (getI (D0 _ hp).2.1) d4_19 rfl ?_
  refine w_if_ge X40 d4_20 (by decide) (pcT := 50) (pcF := 23) (by decide) rfl (fun c41 => ?_) (fun c41 => ?_)
  · have f42 : AV Z h25 wa .int ((ws.set (p2).toNatClampNeg p3).map Value.int) := by rw [← hxs8]; exact f36
    have f43 : AV Z h25 ra .long ((rs.set (p2).toNatClampNeg q4).map Value.long) := by rw [← hxs27]; exact f37
    have lm : (mm hs c0).length = 4 := rfl
    have I_ := (DMx hs hs4 c0 hc p2 hp).2 c41
    have hI : putI hs c0 p2 = hs := if_neg c41
    have hC : putC hs c0 p2 = c0 := if_neg c41
    refine w_aloadN X40 d4_50 rfl rfl rfl ?_
    refine w_iloadN X40 d4_51 rfl rfl ?_
    refine w_private0 X40 (rm_up l Z a0 hw o1 p2 ha pa wa ra hs c0 (ws.set (p2).toNatClampNeg p3) (rs.set (p2).toNatClampNeg q4) h25 n0 X40.size ⟨f28, f29, f30, f31, f32, f33, f34, f35, f42, f43⟩ ⟨ne_o1_ha, ne_o1_pa, ne_o1_wa, ne_o1_ra, ne_ha_pa, ne_ha_wa, ne_ha_ra, ne_pa_wa, ne_pa_ra, ne_wa_ra⟩ ⟨g_o1, g_ha, g_pa, g_wa, g_ra⟩ bf (by rw [I_.2.symm]; exact hb) hs4 hc ho hp (own_pl _ _ hs4 hc _ hp (by rw [I_.2.symm]; exact (own_g1 _ lm _ hp))) (by rw [List.length_set]; exact lw) (by rw [List.length_set]; exact lr)) f28 (hw _ (List.mem_of_getElem? (i := 30) rfl)) (hw _ (List.mem_of_getElem? (i := 31) rfl)) (hw _ (List.mem_of_getElem? (i := 3) rfl)) (hw _ (List.mem_of_getElem? (i := 32) rfl)) (hw _ (List.mem_of_getElem? (i := 4) rfl)) (hw _ (List.mem_of_getElem? (i := 33) rfl)) (by decide) (argsL := [(.int p2)]) (rest := []) rfl (lenOf pd_2 rfl) rfl (W := 0) rfl (by decide) (by decide) (by decide) (by decide) d4_52 rfl fun T44 h45 X46 q47 => ?_
    obtain ⟨hs58, m59, ok60, mm61, md62, K63, n48, n49, n50, n51, n52, n53, n54, n55, n56, n57⟩ := q47
    have f64 : Exa Z h45 o1 "com/example/knotweave/knotweave/OpenNeeds" := f28.keep K63
    have k65 : Keep h0 h45 [o1, ha, pa, wa, ra] := k38.trans K63 (allS (Or.inl (List.mem_of_getElem? (i := 0) rfl)) (allS (Or.inl (List.mem_of_getElem? (i := 1) rfl)) (allS (Or.inl (List.mem_of_getElem? (i := 2) rfl)) (allS (Or.inl (List.mem_of_getElem? (i := 3) rfl)) (allS (Or.inl (List.mem_of_getElem? (i := 4) rfl)) all0)))))
    refine w_aloadN X46 d4_55 rfl rfl rfl ?_
    refine w_iloadN X46 d4_56 rfl rfl ?_
    refine w_private0 X46 (rm_dn l Z a0 hw o1 p2 ha pa wa ra hs58 c0 (ws.set (p2).toNatClampNeg p3) (rs.set (p2).toNatClampNeg q4) h45 n0 X46.size ⟨n48, n49, n50, n51, n52, n53, n54, n55, n56, n57⟩ ⟨ne_o1_ha, ne_o1_pa, ne_o1_wa, ne_o1_ra, ne_ha_pa, ne_ha_wa, ne_ha_ra, ne_pa_wa, ne_pa_ra, ne_wa_ra⟩ ⟨g_o1, g_ha, g_pa, g_wa, g_ra⟩ bf (by rw [(mm61.trans I_.2.symm)]; exact hb) m59 hc ok60 hp (own_pl _ _ m59 hc _ hp (by rw [(mm61.trans I_.2.symm)]; exact (own_g1 _ lm _ hp))) (by rw [List.length_set]; exact lw) (by rw [List.length_set]; exact lr)) n48 (hw _ (List.mem_of_getElem? (i := 38) rfl)) (hw _ (List.mem_of_getElem? (i := 39) rfl)) (hw _ (List.mem_of_getElem? (i := 3) rfl)) (hw _ (List.mem_of_getElem? (i := 40) rfl)) (hw _ (List.mem_of_getElem? (i := 4) rfl)) (hw _ (List.mem_of_getElem? (i := 41) rfl)) (by decide) (argsL := [(.int p2)]) (rest := []) rfl (lenOf pd_2 rfl) rfl (W := 0) rfl (by decide) (by decide) (by decide) (by decide) d4_57 rfl fun T66 h67 X68 q69 => ?_
    obtain ⟨hs80, m81, ok82, mm83, md84, K85, n70, n71, n72, n73, n74, n75, n76, n77, n78, n79⟩ := q69
    have f86 : Exa Z h67 o1 "com/example/knotweave/knotweave/OpenNeeds" := n48.keep K85
    have k87 : Keep h0 h67 [o1, ha, pa, wa, ra] := k65.trans K85 (allS (Or.inl (List.mem_of_getElem? (i := 0) rfl)) (allS (Or.inl (List.mem_of_getElem? (i := 1) rfl)) (allS (Or.inl (List.mem_of_getElem? (i := 2) rfl)) (allS (Or.inl (List.mem_of_getElem? (i := 3) rfl)) (allS (Or.inl (List.mem_of_getElem? (i := 4) rfl)) all0)))))
    exact w_return X68 d4_60 rfl ⟨hs80, m81, (by rw [hC]; exact hc), (by rw [hC]; exact ok82), (by rw [hC]; exact ((mm83.trans mm61).trans I_.2.symm)), (by rw [putH, sift, hI, hC, ← md62, ← md84]), k87, (by rw [hC]; exact ⟨n70, n71, n72, n73, n74, n75, n76, n77, n78, n79⟩)⟩ (by decide) (by decide)
  · have I_ := DIn hs hs4 c0 hc ho p2 hp c41
    refine w_aloadN X40 d4_23 rfl rfl rfl ?_
    refine w_getF X40 (host := "") (Or.inl (hw _ (List.mem_of_getElem? (i := 13) rfl))) Via.refl f30 d4_24 rfl fun T88 X89 => ?_
    refine w_iloadN X89 d4_27 rfl rfl ?_
    refine w_aloadN X89 d4_28 rfl rfl rfl ?_
    refine w_getF X89 (host := "") (Or.inl (hw _ (List.mem_of_getElem? (i := 28) rfl))) Via.refl f33 d4_29 rfl fun T90 X91 => ?_
    refine w_iastore X91 f35 (D0 _ hp).1 rfl (by rw [List.length_map]; exact (D0 _ hp).2.1) g_pa d4_32 rfl fun T92 h95 X93 W94 A96 => ?_
    rw [← List.map_set] at A96
    obtain ⟨xs97, hxs97⟩ : ∃ z, z = ((plc hs c0).set (p2).toNatClampNeg c0) := ⟨_, rfl⟩
    rw [← hxs97] at A96
    have f98 : Exa Z h95 o1 "com/example/knotweave/knotweave/OpenNeeds" := Exa.wr W94 f28
    have f99 : Fld Z h95 o1 "com/example/knotweave/knotweave/OpenNeeds" "heap" "[I" (.ref ha) := Fld.other W94 f29 (Or.inl ne_o1_pa)
    have f100 : Fld Z h95 o1 "com/example/knotweave/knotweave/OpenNeeds" "placeOf" "[I" (.ref pa) := Fld.other W94 f30 (Or.inl ne_o1_pa)
    have f101 : Fld Z h95 o1 "com/example/knotweave/knotweave/OpenNeeds" "waysOf" "[I" (.ref wa) := Fld.other W94 f31 (Or.inl ne_o1_pa)
    have f102 : Fld Z h95 o1 "com/example/knotweave/knotweave/OpenNeeds" "rankOf" "[J" (.ref ra) := Fld.other W94 f32 (Or.inl ne_o1_pa)
    have f103 : Fld Z h95 o1 "com/example/knotweave/knotweave/OpenNeeds" "count" "I" (.int c0) := Fld.other W94 f33 (Or.inl ne_o1_pa)
    have f104 : AV Z h95 ha .int (hs.map Value.int) := f34.other W94 ne_ha_pa
    have f105 : AV Z h95 pa .int (xs97.map Value.int) := A96
    have f106 : AV Z h95 wa .int (xs8.map Value.int) := f36.other W94 (Ne.symm ne_pa_wa)
    have f107 : AV Z h95 ra .long (xs27.map Value.long) := f37.other W94 (Ne.symm ne_pa_ra)
    have k108 : Keep h0 h95 [o1, ha, pa, wa, ra] := k38.wr W94 (Or.inl (List.mem_of_getElem? (i := 2) rfl))
    refine w_aloadN X93 d4_33 rfl rfl rfl ?_
    refine w_getF X93 (host := "") (Or.inl (hw _ (List.mem_of_getElem? (i := 11) rfl))) Via.refl f99 d4_34 rfl fun T109 X110 => ?_
    refine w_aloadN X110 d4_37 rfl rfl rfl ?_
    refine w_dup X110 d4_38 rfl rfl ?_
    refine w_getF X110 (host := "") (Or.inl (hw _ (List.mem_of_getElem? (i := 28) rfl))) Via.refl f103 d4_39 rfl fun T111 X112 => ?_
    refine w_dupX1 X112 d4_42 rfl rfl rfl ?_
    refine w_iconst X112 d4_43 (v := (1 : Int32)) rfl rfl ?_
    refine w_iadd X112 d4_44 rfl ?_
    refine w_putF X112 (host := "") (Or.inl (hw _ (List.mem_of_getElem? (i := 28) rfl))) Via.refl f103 f98 (Or.inl (hw _ (List.mem_of_getElem? (i := 29) rfl))) (hw _ (List.mem_of_getElem? (i := 3) rfl)) (ty := .int) (by decide) rfl rfl g_o1 d4_45 rfl fun T113 h116 X114 W115 => ?_
    have f117 : Exa Z h116 o1 "com/example/knotweave/knotweave/OpenNeeds" := Exa.wr W115 f98
    have f118 : Fld Z h116 o1 "com/example/knotweave/knotweave/OpenNeeds" "heap" "[I" (.ref ha) := Fld.other W115 f99 (Or.inr (slot_ne (Or.inr (hw _ (List.mem_of_getElem? (i := 12) rfl))) (Or.inl (hw _ (List.mem_of_getElem? (i := 29) rfl))) (by decide) (t := (.array .int)) (t' := .int) (by decide) (by decide)))
    have f119 : Fld Z h116 o1 "com/example/knotweave/knotweave/OpenNeeds" "placeOf" "[I" (.ref pa) := Fld.other W115 f100 (Or.inr (slot_ne (Or.inr (hw _ (List.mem_of_getElem? (i := 14) rfl))) (Or.inl (hw _ (List.mem_of_getElem? (i := 29) rfl))) (by decide) (t := (.array .int)) (t' := .int) (by decide) (by decide)))
    have f120 : Fld Z h116 o1 "com/example/knotweave/knotweave/OpenNeeds" "waysOf" "[I" (.ref wa) := Fld.other W115 f101 (Or.inr (slot_ne (Or.inr (hw _ (List.mem_of_getElem? (i := 16) rfl))) (Or.inl (hw _ (List.mem_of_getElem? (i := 29) rfl))) (by decide) (t := (.array .int)) (t' := .int) (by decide) (by decide)))
    have f121 : Fld Z h116 o1 "com/example/knotweave/knotweave/OpenNeeds" "rankOf" "[J" (.ref ra) := Fld.other W115 f102 (Or.inr (slot_ne (Or.inr (hw _ (List.mem_of_getElem? (i := 18) rfl))) (Or.inl (hw _ (List.mem_of_getElem? (i := 29) rfl))) (by decide) (t := (.array .long)) (t' := .int) (by decide) (by decide)))
    have f122 : Fld Z h116 o1 "com/example/knotweave/knotweave/OpenNeeds" "count" "I" (.int (c0 + (1 : Int32))) := Fld.same W115 f103
    have f123 : AV Z h116 ha .int (hs.map Value.int) := f104.other W115 (Ne.symm ne_o1_ha)
    have f124 : AV Z h116 pa .int (xs97.map Value.int) := f105.other W115 (Ne.symm ne_o1_pa)
    have f125 : AV Z h116 wa .int (xs8.map Value.int) := f106.other W115 (Ne.symm ne_o1_wa)
    have f126 : AV Z h116 ra .long (xs27.map Value.long) := f107.other W115 (Ne.symm ne_o1_ra)
    have k127 : Keep h0 h116 [o1, ha, pa, wa, ra] := k108.wr W115 (Or.inl (List.mem_of_getElem? (i := 0) rfl))
    refine w_iloadN X114 d4_48 rfl rfl ?_
    refine w_iastore X114 f123 (D0 _ I_.1).1 rfl (by rw [List.length_map]; exact (by rw [(DLen hs hs4).1]; exact (D0 _ I_.1).2.1)) g_ha d4_49 rfl fun T128 h131 X129 W130 A132 => ?_
    rw [← List.map_set] at A132
    obtain ⟨xs133, hxs133⟩ : ∃ z, z = (hs.set (c0).toNatClampNeg p2) := ⟨_, rfl⟩
    rw [← hxs133] at A132
    have f134 : Exa Z h131 o1 "com/example/knotweave/knotweave/OpenNeeds" := Exa.wr W130 f117
    have f135 : Fld Z h131 o1 "com/example/knotweave/knotweave/OpenNeeds" "heap" "[I" (.ref ha) := Fld.other W130 f118 (Or.inl ne_o1_ha)
    have f136 : Fld Z h131 o1 "com/example/knotweave/knotweave/OpenNeeds" "placeOf" "[I" (.ref pa) := Fld.other W130 f119 (Or.inl ne_o1_ha)
    have f137 : Fld Z h131 o1 "com/example/knotweave/knotweave/OpenNeeds" "waysOf" "[I" (.ref wa) := Fld.other W130 f120 (Or.inl ne_o1_ha)
    have f138 : Fld Z h131 o1 "com/example/knotweave/knotweave/OpenNeeds" "rankOf" "[J" (.ref ra) := Fld.other W130 f121 (Or.inl ne_o1_ha)
    have f139 : Fld Z h131 o1 "com/example/knotweave/knotweave/OpenNeeds" "count" "I" (.int (c0 + (1 : Int32))) := Fld.other W130 f122 (Or.inl ne_o1_ha)
    have f140 : AV Z h131 ha .int (xs133.map Value.int) := A132
    have f141 : AV Z h131 pa .int (xs97.map Value.int) := f124.other W130 (Ne.symm ne_ha_pa)
    have f142 : AV Z h131 wa .int (xs8.map Value.int) := f125.other W130 (Ne.symm ne_ha_wa)
    have f143 : AV Z h131 ra .long (xs27.map Value.long) := f126.other W130 (Ne.symm ne_ha_ra)
    have k144 : Keep h0 h131 [o1, ha, pa, wa, ra] := k127.wr W130 (Or.inl (List.mem_of_getElem? (i := 1) rfl))
    have f145 : AV Z h131 wa .int ((ws.set (p2).toNatClampNeg p3).map Value.int) := by rw [← hxs8]; exact f142
    have f146 : AV Z h131 ra .long ((rs.set (p2).toNatClampNeg q4).map Value.long) := by rw [← hxs27]; exact f143
    have lm : (mm hs c0).length = 4 := rfl
    have f147 : AV Z h131 ha .int ((hs.set (c0).toNatClampNeg p2).map Value.int) := by rw [← hxs133]; exact f140
    have f148 : AV Z h131 pa .int ((plc (hs.set (c0).toNatClampNeg p2) (c0 + (1 : Int32))).map Value.int) := by rw [← I_.2.2.2.1, ← hxs97]; exact f141
    have hI : putI hs c0 p2 = (hs.set (c0).toNatClampNeg p2) := if_pos c41
    have hC : putC hs c0 p2 = c0 + 1 := if_pos c41
    refine w_aloadN X129 d4_50 rfl rfl rfl ?_
    refine w_iloadN X129 d4_51 rfl rfl ?_
    refine w_private0 X129 (rm_up l Z a0 hw o1 p2 ha pa wa ra (hs.set (c0).toNatClampNeg p2) (c0 + (1 : Int32)) (ws.set (p2).toNatClampNeg p3) (rs.set (p2).toNatClampNeg q4) h131 n0 X129.size ⟨f134, f135, f136, f137, f138, f139, f147, f148, f145, f146⟩ ⟨ne_o1_ha, ne_o1_pa, ne_o1_wa, ne_o1_ra, ne_ha_pa, ne_ha_wa, ne_ha_ra, ne_pa_wa, ne_pa_ra, ne_wa_ra⟩ ⟨g_o1, g_ha, g_pa, g_wa, g_ra⟩ bf (by rw [I_.2.2.2.2.1]; exact hb) (DSet hs hs4 c0 I_.1 p2 hp) I_.2.1 I_.2.2.1 hp (own_pl _ _ (DSet hs hs4 c0 I_.1 p2 hp) I_.2.1 _ hp (by rw [I_.2.2.2.2.1]; exact (own_g1 _ lm _ hp))) (by rw [List.length_set]; exact lw) (by rw [List.length_set]; exact lr)) f134 (hw _ (List.mem_of_getElem? (i := 30) rfl)) (hw _ (List.mem_of_getElem? (i := 31) rfl)) (hw _ (List.mem_of_getElem? (i := 3) rfl)) (hw _ (List.mem_of_getElem? (i := 32) rfl)) (hw _ (List.mem_of_getElem? (i := 4) rfl)) (hw _ (List.mem_of_getElem? (i := 33) rfl)) (by decide) (argsL := [(.int p2)]) (rest := []) rfl (lenOf pd_2 rfl) rfl (W := 0) rfl (by decide) (by decide) (by decide) (by decide) d4_52 rfl fun T149 h150 X151 q152 => ?_
    obtain ⟨hs163, m164, ok165, mm166, md167, K168, n153, n154, n155, n156, n157, n158, n159, n160, n161, n162⟩ := q152
    have f169 : Exa Z h150 o1 "com/example/knotweave/knotweave/OpenNeeds" := f134.keep K168
    have k170 : Keep h0 h150 [o1, ha, pa, wa, ra] := k144.trans K168 (allS (Or.inl (List.mem_of_getElem? (i := 0) rfl)) (allS (Or.inl (List.mem_of_getElem? (i := 1) rfl)) (allS (Or.inl (List.mem_of_getElem? (i := 2) rfl)) (allS (Or.inl (List.mem_of_getElem? (i := 3) rfl)) (allS (Or.inl (List.mem_of_getElem? (i := 4) rfl)) all0)))))
    refine w_aloadN X151 d4_55 rfl rfl rfl ?_
    refine w_iloadN X151 d4_56 rfl rfl ?_
    refine w_private0 X151 (rm_dn l Z a0 hw o1 p2 ha pa wa ra hs163 (c0 + (1 : Int32)) (ws.set (p2).toNatClampNeg p3) (rs.set (p2).toNatClampNeg q4) h150 n0 X151.size ⟨n153, n154, n155, n156, n157, n158, n159, n160, n161, n162⟩ ⟨ne_o1_ha, ne_o1_pa, ne_o1_wa, ne_o1_ra, ne_ha_pa, ne_ha_wa, ne_ha_ra, ne_pa_wa, ne_pa_ra, ne_wa_ra⟩ ⟨g_o1, g_ha, g_pa, g_wa, g_ra⟩ bf (by rw [(mm166.trans I_.2.2.2.2.1)]; exact hb) m164 I_.2.1 ok165 hp (own_pl _ _ m164 I_.2.1 _ hp (by rw [(mm166.trans I_.2.2.2.2.1)]; exact (own_g1 _ lm _ hp))) (by rw [List.length_set]; exact lw) (by rw [List.length_set]; exact lr)) n153 (hw _ (List.mem_of_getElem? (i := 38) rfl)) (hw _ (List.mem_of_getElem? (i := 39) rfl)) (hw _ (List.mem_of_getElem? (i := 3) rfl)) (hw _ (List.mem_of_getElem? (i := 40) rfl)) (hw _ (List.mem_of_getElem? (i := 4) rfl)) (hw _ (List.mem_of_getElem? (i := 41) rfl)) (by decide) (argsL := [(.int p2)]) (rest := []) rfl (lenOf pd_2 rfl) rfl (W := 0) rfl (by decide) (by decide) (by decide) (by decide) d4_57 rfl fun T171 h172 X173 q174 => ?_
    obtain ⟨hs185, m186, ok187, mm188, md189, K190, n175, n176, n177, n178, n179, n180, n181, n182, n183, n184⟩ := q174
    have f191 : Exa Z h172 o1 "com/example/knotweave/knotweave/OpenNeeds" := n153.keep K190
    have k192 : Keep h0 h172 [o1, ha, pa, wa, ra] := k170.trans K190 (allS (Or.inl (List.mem_of_getElem? (i := 0) rfl)) (allS (Or.inl (List.mem_of_getElem? (i := 1) rfl)) (allS (Or.inl (List.mem_of_getElem? (i := 2) rfl)) (allS (Or.inl (List.mem_of_getElem? (i := 3) rfl)) (allS (Or.inl (List.mem_of_getElem? (i := 4) rfl)) all0)))))
    exact w_return X173 d4_60 rfl ⟨hs185, m186, (by rw [hC]; exact I_.2.1), (by rw [hC]; exact ok187), (by rw [hC]; exact ((mm188.trans mm166).trans I_.2.2.2.2.1)), (by rw [putH, sift, hI, hC, ← md167, ← md189]), k192, (by rw [hC]; exact ⟨n175, n176, n177, n178, n179, n180, n181, n182, n183, n184⟩)⟩ (by decide) (by decide)
theorem d8_0 : decode prog_39_method_6_code 0 = .ok (.aload_n 0, 1) := by decide +kernel
theorem d8_1 : decode prog_39_method_6_code 1 = .ok (.getfield 13, 3) := by decide +kernel
theorem d8_4 : decode prog_39_method_6_code 4 = .ok (.iload_n 1, 1) := by decide +kernel
theorem d8_5 : decode prog_39_method_6_code 5 = .ok (.iaload, 1) := by decide +kernel
theorem d8_6 : decode prog_39_method_6_code 6 = .ok (.istore_n 2, 1) := by decide +kernel
theorem d8_7 : decode prog_39_method_6_code 7 = .ok (.iload_n 2, 1) := by decide +kernel
theorem d8_8 : decode prog_39_method_6_code 8 = .ok (.ifCond .ge 4, 3) := by decide +kernel
theorem d8_11 : decode prog_39_method_6_code 11 = .ok (.return_, 1) := by decide +kernel
theorem d8_12 : decode prog_39_method_6_code 12 = .ok (.aload_n 0, 1) := by decide +kernel
theorem d8_13 : decode prog_39_method_6_code 13 = .ok (.getfield 13, 3) := by decide +kernel
theorem d8_16 : decode prog_39_method_6_code 16 = .ok (.iload_n 1, 1) := by decide +kernel
theorem d8_17 : decode prog_39_method_6_code 17 = .ok (.iconst (-1), 1) := by decide +kernel
theorem d8_18 : decode prog_39_method_6_code 18 = .ok (.iastore, 1) := by decide +kernel
theorem d8_19 : decode prog_39_method_6_code 19 = .ok (.aload_n 0, 1) := by decide +kernel
theorem d8_20 : decode prog_39_method_6_code 20 = .ok (.getfield 7, 3) := by decide +kernel
theorem d8_23 : decode prog_39_method_6_code 23 = .ok (.aload_n 0, 1) := by decide +kernel
theorem d8_24 : decode prog_39_method_6_code 24 = .ok (.dup, 1) := by decide +kernel
theorem d8_25 : decode prog_39_method_6_code 25 = .ok (.getfield 29, 3) := by decide +kernel
theorem d8_28 : decode prog_39_method_6_code 28 = .ok (.iconst 1, 1) := by decide +kernel
theorem d8_29 : decode prog_39_method_6_code 29 = .ok (.isub, 1) := by decide +kernel
theorem d8_30 : decode prog_39_method_6_code 30 = .ok (.dup_x1, 1) := by decide +kernel
theorem d8_31 : decode prog_39_method_6_code 31 = .ok (.putfield 29, 3) := by decide +kernel
theorem d8_34 : decode prog_39_method_6_code 34 = .ok (.iaload, 1) := by decide +kernel
theorem d8_35 : decode prog_39_method_6_code 35 = .ok (.istore_n 3, 1) := by decide +kernel
theorem d8_36 : decode prog_39_method_6_code 36 = .ok (.iload_n 3, 1) := by decide +kernel
theorem d8_37 : decode prog_39_method_6_code 37 = .ok (.iload_n 1, 1) := by decide +kernel
theorem d8_38 : decode prog_39_method_6_code 38 = .ok (.if_icmp .eq 27, 3) := by decide +kernel
theorem d8_41 : decode prog_39_method_6_code 41 = .ok (.aload_n 0, 1) := by decide +kernel
theorem d8_42 : decode prog_39_method_6_code 42 = .ok (.getfield 7, 3) := by decide +kernel
theorem d8_45 : decode prog_39_method_6_code 45 = .ok (.iload_n 2, 1) := by decide +kernel
theorem d8_46 : decode prog_39_method_6_code 46 = .ok (.iload_n 3, 1) := by decide +kernel
theorem d8_47 : decode prog_39_method_6_code 47 = .ok (.iastore, 1) := by decide +kernel
theorem d8_48 : decode prog_39_method_6_code 48 = .ok (.aload_n 0, 1) := by decide +kernel
theorem d8_49 : decode prog_39_method_6_code 49 = .ok (.getfield 13, 3) := by decide +kernel
theorem d8_52 : decode prog_39_method_6_code 52 = .ok (.iload_n 3, 1) := by decide +kernel
theorem d8_53 : decode prog_39_method_6_code 53 = .ok (.iload_n 2, 1) := by decide +kernel
theorem d8_54 : decode prog_39_method_6_code 54 = .ok (.iastore, 1) := by decide +kernel
theorem d8_55 : decode prog_39_method_6_code 55 = .ok (.aload_n 0, 1) := by decide +kernel
theorem d8_56 : decode prog_39_method_6_code 56 = .ok (.iload_n 3, 1) := by decide +kernel
theorem d8_57 : decode prog_39_method_6_code 57 = .ok (.invokevirtual 33, 3) := by decide +kernel
theorem d8_60 : decode prog_39_method_6_code 60 = .ok (.aload_n 0, 1) := by decide +kernel
theorem d8_61 : decode prog_39_method_6_code 61 = .ok (.iload_n 3, 1) := by decide +kernel
theorem d8_62 : decode prog_39_method_6_code 62 = .ok (.invokevirtual 37, 3) := by decide +kernel
theorem d8_65 : decode prog_39_method_6_code 65 = .ok (.return_, 1) := by decide +kernel
theorem pn_8 : plainName "com/example/knotweave/knotweave/OpenNeeds" = true := by first | (simp [plainName, overriddenIn]; done) | decide +kernel
theorem ef_8 (m : MethodId) (o1 : Addr) (p2 : Int32) : entryFrame m #[(.ref o1), (.int p2)] 4 = mkF m 0 #[.val (.ref o1), .val (.int p2), .unset, .unset] [] := by first | (simp [entryFrame, mkF, argsToLocals, Value.category]; done) | rfl
set_option maxRecDepth 65536 in
set_option maxHeartbeats 40000000 in
theorem rm_remove (l : Launch) (Z : State) (a0 : Array Value) (hw : ∀ d ∈ tables_1, d.before a0 Z = true) (o1 : Addr) (p2 : Int32) (ha : Addr) (pa : Addr) (wa : Addr) (ra : Addr) (hs : List Int32) (c0 : Int32) (ws : List Int32) (rs : List Int64) (h0 : Heap) (n0 : Nat) (Z0 : n0 ≤ h0.size) (O : ONs Z h0 o1 ha pa wa ra hs (plc hs c0) c0 ws rs) (D : Dst o1 ha pa wa ra) (G : Ges n0 o1 ha pa wa ra) (bf : Int32 → Int32 → Int32) (hb : ∀ a b, g4 ((mm hs c0).set (p2).toNatClampNeg 0) a = 1 → g4 ((mm hs c0).set (p2).toNatClampNeg 0) b = 1 → f_bf ws rs a b = bf a b) (hs4 : hs ∈ S4) (hc : c0 ∈ five) (ho : okb hs c0 = true) (hp : p2 ∈ four) (lw : ws.length = 4) (lr : rs.length = 4) :
    Con l Z (⟨"com/example/knotweave/knotweave/OpenNeeds", "remove", "(I)V"⟩ : MethodName) prog_39_method_6_code 4 none ({ frames := 2, cells := 0, slots := 0, locals := 29 } : Room) #[(.ref o1), (.int p2)] h0 n0 none (fun h => ∃ hs', hs' ∈ S4 ∧ remC hs c0 p2 ∈ five ∧ okb hs' (remC hs c0 p2) = true ∧ mm hs' (remC hs c0 p2) = (mm hs c0).set (p2).toNatClampNeg 0 ∧ hs' = remH bf hs c0 p2 ∧ Keep h0 h [o1, ha, pa, wa, ra] ∧ ONs Z h o1 ha pa wa ra hs' (plc hs' (remC hs c0 p2)) (remC hs c0 p2) ws rs) := by
  refine con_of (plainFor_of_name pn_8) Z0 (fun m => ef_8 m o1 p2) ?_
  intro p e s m below meth c T0 X0
  obtain ⟨E_o, F_h, F_p, F_w, F_r, F_c, A_h, A_p, A_w, A_r⟩ := O
  obtain ⟨ne_o1_ha, ne_o1_pa, ne_o1_wa, ne_o1_ra, ne_ha_pa, ne_ha_wa, ne_ha_ra, ne_pa_wa, ne_pa_ra, ne_wa_ra⟩ := D
  obtain ⟨g_o1, g_ha, g_pa, g_wa, g_ra⟩ := G
  refine w_aloadN X0 d8_0 rfl rfl rfl ?_
  refine w_getF X0 (host := "") (Or.inl (hw _ (List.mem_of_getElem? (i := 13) rfl))) Via.refl F_p d8_1 rfl fun T1 X2 => ?_
  refine w_iloadN X2 d8_4 rfl rfl ?_
  refine w_iaload X2 A_p (D0 _ hp).1 rfl (getI (D0 _ hp).2.1) d8_5 rfl ?_
  refine w_istoreN X2 d8_6 rfl (L' := #[.val (.ref o1), .val (.int p2), .val (.int ((plc hs c0).getD (p2).toNatClampNeg 0)), .unset]) rfl ?_
  refine w_iloadN X2 d8_7 rfl rfl ?_
  refine w_if_ge X2 d8_8 (by decide) (pcT := 12) (pcF := 11) (by decide) rfl (fun c3 => ?_) (fun c3 => ?_)
  · have I_ := DRm hs hs4 c0 hc ho p2 hp c3
    have pi := DPl hs hs4 c0 hc ho p2 hp c3
    refine w_aloadN X2 d8_12 rfl rfl rfl ?_
    refine w_getF X2 (host := "") (Or.inl (hw _ (List.mem_of_getElem? (i := 13) rfl))) Via.refl F_p d8_13 rfl fun T4 X5 => ?_
    refine w_iloadN X5 d8_16 rfl rfl ?_
    refine w_iconst X5 d8_17 (v := (-1 : Int32)) rfl rfl ?_
    refine w_iastore X5 A_p (D0 _ hp).1 rfl (by rw [List.length_map]; exact (D0 _ hp).2.1) g_pa d8_18 rfl fun T6 h9 X7 W8 A10 => ?_
    rw [← List.map_set] at A10
    obtain ⟨xs11, hxs11⟩ : ∃ z, z = ((plc hs c0).set (p2).toNatClampNeg (-1 : Int32)) := ⟨_, rfl⟩
    rw [← hxs11] at A10
    have f12 : Exa Z h9 o1 "com/example/knotweave/knotweave/OpenNeeds" := Exa.wr W8 E_o
    have f13 : Fld Z h9 o1 "com/example/knotweave/knotweave/OpenNeeds" "heap" "[I" (.ref ha) := Fld.other W8 F_h (Or.inl ne_o1_pa)
    have f14 : Fld Z h9 o1 "com/example/knotweave/knotweave/OpenNeeds" "placeOf" "[I" (.ref pa) := Fld.other W8 F_p (Or.inl ne_o1_pa)
    have f15 : Fld Z h9 o1 "com/example/knotweave/knotweave/OpenNeeds" "waysOf" "[I" (.ref wa) := Fld.other W8 F_w (Or.inl ne_o1_pa)
    have f16 : Fld Z h9 o1 "com/example/knotweave/knotweave/OpenNeeds" "rankOf" "[J" (.ref ra) := Fld.other W8 F_r (Or.inl ne_o1_pa)
    have f17 : Fld Z h9 o1 "com/example/knotweave/knotweave/OpenNeeds" "count" "I" (.int c0) := Fld.other W8 F_c (Or.inl ne_o1_pa)
    have f18 : AV Z h9 ha .int (hs.map Value.int) := A_h.other W8 ne_ha_pa
    have f19 : AV Z h9 pa .int (xs11.map Value.int) := A10
    have f20 : AV Z h9 wa .int (ws.map Value.int) := A_w.other W8 (Ne.symm ne_pa_wa)
    have f21 : AV Z h9 ra .long (rs.map Value.long) := A_r.other W8 (Ne.symm ne_pa_ra)
    have k22 : Keep h0 h9 [o1, ha, pa, wa, ra] := (Keep.refl h0 [o1, ha, pa, wa, ra]).wr W8 (Or.inl (List.mem_of_getElem? (i := 2) rfl))
    refine w_aloadN X7 d8_19 rfl rfl rfl ?_
    refine w_getF X7 (host := "") (Or.inl (hw _ (List.mem_of_getElem? (i := 11) rfl))) Via.refl f13 d8_20 rfl fun T23 X24 => ?_
    refine w_aloadN X24 d8_23 rfl rfl rfl ?_
    refine w_dup X24 d8_24 rfl rfl ?_
    refine w_getF X24 (host := "") (Or.inl (hw _ (List.mem_of_getElem? (i := 28) rfl))) Via.refl f17 d8_25 rfl fun T25 X26 => ?_
    refine w_iconst X26 d8_28 (v := (1 : Int32)) rfl rfl ?_
    refine w_isub X26 d8_29 rfl ?_
    refine w_dupX1 X26 d8_30 rfl rfl rfl ?_
    refine w_putF X26 (host := "") (Or.inl (hw _ (List.mem_of_getElem? (i := 28) rfl))) Via.refl f17 f12 (Or.inl (hw _ (List.mem_of_getElem? (i := 29) rfl))) (hw _ (List.mem_of_getElem? (i := 3) rfl)) (ty := .int) (by decide) rfl rfl g_o1 d8_31 rfl fun T27 h30 X28 W29 => ?_
    have f31 : Exa Z h30 o1 "com/example/knotweave/knotweave/OpenNeeds" := Exa.wr W29 f12
    have f32 : Fld Z h30 o1 "com/example/knotweave/knotweave/OpenNeeds" "heap" "[I" (.ref ha) := Fld.other W29 f13 (Or.inr (slot_ne (Or.inr (hw _ (List.mem_of_getElem? (i := 12) rfl))) (Or.inl (hw _ (List.mem_of_getElem? (i := 29) rfl))) (by decide) (t := (.array .int)) (t' := .int) (by decide) (by decide)))
    have f33 : Fld Z h30 o1 "com/example/knotweave/knotweave/OpenNeeds" "placeOf" "[I" (.ref pa) := Fld.other W29 f14 (Or.inr (slot_ne (Or.inr (hw _ (List.mem_of_getElem? (i := 14) rfl))) (Or.inl (hw _ (List.mem_of_getElem? (i := 29) rfl))) (by decide) (t := (.array .int)) (t' := .int) (by decide) (by decide)))
    have f34 : Fld Z h30 o1 "com/example/knotweave/knotweave/OpenNeeds" "waysOf" "[I" (.ref wa) := Fld.other W29 f15 (Or.inr (slot_ne (Or.inr (hw _ (List.mem_of_getElem? (i := 16) rfl))) (Or.inl (hw _ (List.mem_of_getElem? (i := 29) rfl))) (by decide) (t := (.array .int)) (t' := .int) (by decide) (by decide)))
    have f35 : Fld Z h30 o1 "com/example/knotweave/knotweave/OpenNeeds" "rankOf" "[J" (.ref ra) := Fld.other W29 f16 (Or.inr (slot_ne (Or.inr (hw _ (List.mem_of_getElem? (i := 18) rfl))) (Or.inl (hw _ (List.mem_of_getElem? (i := 29) rfl))) (by decide) (t := (.array .long)) (t' := .int) (by decide) (by decide)))
    have f36 : Fld Z h30 o1 "com/example/knotweave/knotweave/OpenNeeds" "count" "I" (.int (c0 - (1 : Int32))) := Fld.same W29 f17
    have f37 : AV Z h30 ha .int (hs.map Value.int) := f18.other W29 (Ne.symm ne_o1_ha)
    have f38 : AV Z h30 pa .int (xs11.map Value.int) := f19.other W29 (Ne.symm ne_o1_pa)
    have f39 : AV Z h30 wa .int (ws.map Value.int) := f20.other W29 (Ne.symm ne_o1_wa)
    have f40 : AV Z h30 ra .long (rs.map Value.long) := f21.other W29 (Ne.symm ne_o1_ra)
    have k41 : Keep h0 h30 [o1, ha, pa, wa, ra] := k22.wr W29 (Or.inl (List.mem_of_getElem? (i := 0) rfl))
    refine w_iaload X28 f37 (D0 _ I_.1).1 rfl (getI (by rw [(DLen hs hs4).1]; exact (D0 _ I_.1).2.1)) d8_34 rfl ?_
    refine w_istoreN X28 d8_35 rfl (L' := #[.val (.ref o1), .val (.int p2), .val (.int ((plc hs c0).getD (p2).toNatClampNeg 0)), .val (.int (hs.getD ((c0 - (1 : Int32))).toNatClampNeg 0))]) rfl ?_
    refine w_iloadN X28 d8_36 rfl rfl ?_
    refine w_iloadN X28 d8_37 rfl rfl ?_
    refine w_icmp_eq X28 d8_38 (by decide) (pcT := 65) (pcF := 41) (by decide) rfl (fun c42 => ?_) (fun c42 => ?_)
    · have hC : remC hs c0 p2 = c0 - 1 := if_neg c3
      have J := I_.2.2.2.1 c42
      have f43 : AV Z h30 pa .int ((plc hs (c0 - (1 : Int32))).map Value.int) := by rw [← J.2.1, ← hxs11]; exact f38
      exact w_return X28 d8_65 rfl ⟨hs, hs4, (by rw [hC]; exact I_.2.1), (by rw [hC]; exact J.1), (by rw [hC]; exact J.2.2), (by rw [remH]; exact ((if_neg c3).trans (if_pos c42)).symm), k41, (by rw [hC]; exact ⟨f31, f32, f33, f34, f35, f36, f37, f43, f39, f40⟩)⟩ (by decide) (by decide)
    · refine w_aloadN X28 d8_41 rfl rfl rfl ?_
      refine w_getF X28 (host := "") (Or.inl (hw _ (List.mem_of_getElem? (i := 11) rfl))) Via.refl f32 d8_42 rfl fun T44 X45 => ?_
      refine w_iloadN X45 d8_45 rfl rfl ?_
      refine w_iloadN X45 d8_46 rfl rfl ?_
      refine w_iastore X45 f37 (D0 _ pi.1).1 rfl (by rw [List.length_map]; exact (by rw [(DLen hs hs4).1]; exact (D0 _ pi.1).2.1)) g_ha d8_47 rfl fun T46 h49 X47 W48 A50 => ?_
      rw [← List.map_set] at A50
      obtain ⟨xs51, hxs51⟩ : ∃ z, z = (hs.set (((plc hs c0).getD (p2).toNatClampNeg 0)).toNatClampNeg (hs.getD ((c0 - (1 : Int32))).toNatClampNeg 0)) := ⟨_, rfl⟩
      rw [← hxs51] at A50
      have f52 : Exa Z h49 o1 "com/example/knotweave/knotweave/OpenNeeds" := Exa.wr W48 f31
      have f53 : Fld Z h49 o1 "com/example/knotweave/knotweave/OpenNeeds" "heap" "[I" (.ref ha) := Fld.other W48 f32 (Or.inl ne_o1_ha)
      have f54 : Fld Z h49 o1 "com/example/knotweave/knotweave/OpenNeeds" "placeOf" "[I" (.ref pa) := Fld.other W48 f33 (Or.inl ne_o1_ha)
      have f55 : Fld Z h49 o1 "com/example/knotweave/knotweave/OpenNeeds" "waysOf" "[I" (.ref wa) := Fld.other W48 f34 (Or.inl ne_o1_ha)
      have f56 : Fld Z h49 o1 "com/example/knotweave/knotweave/OpenNeeds" "rankOf" "[J" (.ref ra) := Fld.other W48 f35 (Or.inl ne_o1_ha)
      have f57 : Fld Z h49 o1 "com/example/knotweave/knotweave/OpenNeeds" "count" "I" (.int (c0 - (1 : Int32))) := Fld.other W48 f36 (Or.inl ne_o1_ha)
      have f58 : AV Z h49 ha .int (xs51.map Value.int) := A50
      have f59 : AV Z h49 pa .int (xs11.map Value.int) := f38.other W48 (Ne.symm ne_ha_pa)
      have f60 : AV Z h49 wa .int (ws.map Value.int) := f39.other W48 (Ne.symm ne_ha_wa)
      have f61 : AV Z h49 ra .long (rs.map Value.long) := f40.other W48 (Ne.symm ne_ha_ra)
      have k62 : Keep h0 h49 [o1, ha, pa, wa, ra] := k41.wr W48 (Or.inl (List.mem_of_getElem? (i := 1) rfl))
      refine w_aloadN X47 d8_48 rfl rfl rfl ?_
      refine w_getF X47 (host := "") (Or.inl (hw _ (List.mem_of_getElem? (i := 13) rfl))) Via.refl f54 d8_49 rfl fun T63 X64 => ?_
      refine w_iloadN X64 d8_52 rfl rfl ?_
      refine w_iloadN X64 d8_53 rfl rfl ?_
      refine w_iastore X64 f59 (D0 _ I_.2.2.1).1 rfl (by rw [List.length_map]; exact (by rw [hxs11, List.length_set]; exact (D0 _ I_.2.2.1).2.1)) g_pa d8_54 rfl fun T65 h68 X66 W67 A69 => ?_
      rw [← List.map_set] at A69
      obtain ⟨xs70, hxs70⟩ : ∃ z, z = (xs11.set ((hs.getD ((c0 - (1 : Int32))).toNatClampNeg 0)).toNatClampNeg ((plc hs c0).getD (p2).toNatClampNeg 0)) := ⟨_, rfl⟩
      rw [← hxs70] at A69
      have f71 : Exa Z h68 o1 "com/example/knotweave/knotweave/OpenNeeds" := Exa.wr W67 f52
      have f72 : Fld Z h68 o1 "com/example/knotweave/knotweave/OpenNeeds" "heap" "[I" (.ref ha) := Fld.other W67 f53 (Or.inl ne_o1_pa)
      have f73 : Fld Z h68 o1 "com/example/knotweave/knotweave/OpenNeeds" "placeOf" "[I" (.ref pa) := Fld.other W67 f54 (Or.inl ne_o1_pa)
      have f74 : Fld Z h68 o1 "com/example/knotweave/knotweave/OpenNeeds" "waysOf" "[I" (.ref wa) := Fld.other W67 f55 (Or.inl ne_o1_pa)
      have f75 : Fld Z h68 o1 "com/example/knotweave/knotweave/OpenNeeds" "rankOf" "[J" (.ref ra) := Fld.other W67 f56 (Or.inl ne_o1_pa)
      have f76 : Fld Z h68 o1 "com/example/knotweave/knotweave/OpenNeeds" "count" "I" (.int (c0 - (1 : Int32))) := Fld.other W67 f57 (Or.inl ne_o1_pa)
      have f77 : AV Z h68 ha .int (xs51.map Value.int) := f58.other W67 ne_ha_pa
      have f78 : AV Z h68 pa .int (xs70.map Value.int) := A69
      have f79 : AV Z h68 wa .int (ws.map Value.int) := f60.other W67 (Ne.symm ne_pa_wa)
      have f80 : AV Z h68 ra .long (rs.map Value.long) := f61.other W67 (Ne.symm ne_pa_ra)
      have k81 : Keep h0 h68 [o1, ha, pa, wa, ra] := k62.wr W67 (Or.inl (List.mem_of_getElem? (i := 2) rfl))
      have J := I_.2.2.2.2 c42
      have f82 : AV Z h68 ha .int ((hs.set (((plc hs c0).getD (p2).toNatClampNeg 0)).toNatClampNeg (hs.getD ((c0 - (1 : Int32))).toNatClampNeg 0)).map Value.int) := by rw [← hxs51]; exact f77
      have f83 : AV Z h68 pa .int ((plc (hs.set (((plc hs c0).getD (p2).toNatClampNeg 0)).toNatClampNeg (hs.getD ((c0 - (1 : Int32))).toNatClampNeg 0)) (c0 - (1 : Int32))).map Value.int) := by rw [show plc (hs.set (((plc hs c0).getD (p2).toNatClampNeg 0)).toNatClampNeg (hs.getD ((c0 - (1 : Int32))).toNatClampNeg 0)) (c0 - (1 : Int32)) = xs70 from by rw [hxs70, hxs11]; exact J.2.1.symm]; exact f78
      have m0 : (hs.set (((plc hs c0).getD (p2).toNatClampNeg 0)).toNatClampNeg (hs.getD ((c0 - (1 : Int32))).toNatClampNeg 0)) ∈ S4 := DSet hs hs4 _ pi.1 _ I_.2.2.1
      have l4 : (hs.getD ((c0 - (1 : Int32))).toNatClampNeg 0) ∈ four := I_.2.2.1
      have JE : mm (hs.set (((plc hs c0).getD (p2).toNatClampNeg 0)).toNatClampNeg (hs.getD ((c0 - (1 : Int32))).toNatClampNeg 0)) (c0 - (1 : Int32)) = (mm hs c0).set (p2).toNatClampNeg 0 := J.2.2.1
      refine w_aloadN X66 d8_55 rfl rfl rfl ?_
      refine w_iloadN X66 d8_56 rfl rfl ?_
      refine w_private0 X66 (rm_up l Z a0 hw o1 (hs.getD ((c0 - (1 : Int32))).toNatClampNeg 0) ha pa wa ra (hs.set (((plc hs c0).getD (p2).toNatClampNeg 0)).toNatClampNeg (hs.getD ((c0 - (1 : Int32))).toNatClampNeg 0)) (c0 - (1 : Int32)) ws rs h68 n0 X66.size ⟨f71, f72, f73, f74, f75, f76, f82, f83, f79, f80⟩ ⟨ne_o1_ha, ne_o1_pa, ne_o1_wa, ne_o1_ra, ne_ha_pa, ne_ha_wa, ne_ha_ra, ne_pa_wa, ne_pa_ra, ne_wa_ra⟩ ⟨g_o1, g_ha, g_pa, g_wa, g_ra⟩ bf (by rw [JE]; exact hb) m0 I_.2.1 J.1 l4 (own_pl _ _ m0 I_.2.1 _ l4 (by rw [JE]; exact (by rw [← JE]; exact own_ml _ _ m0 I_.2.1 _ l4 J.2.2.2))) lw lr) f71 (hw _ (List.mem_of_getElem? (i := 30) rfl)) (hw _ (List.mem_of_getElem? (i := 31) rfl)) (hw _ (List.mem_of_getElem? (i := 3) rfl)) (hw _ (List.mem_of_getElem? (i := 32) rfl)) (hw _ (List.mem_of_getElem? (i := 4) rfl)) (hw _ (List.mem_of_getElem? (i := 33) rfl)) (by decide) (argsL := [(.int (hs.getD ((c0 - (1 : Int32))).toNatClampNeg 0))]) (rest := []) rfl (lenOf pd_2 rfl) rfl (W := 0) rfl (by decide) (by decide) (by decide) (by decide) d8_57 rfl fun T84 h85 X86 q87 => ?_
      obtain ⟨hs98, m99, ok100, mm101, md102, K103, n88, n89, n90, n91, n92, n93, n94, n95, n96, n97⟩ := q87
      have f104 : Exa Z h85 o1 "com/example/knotweave/knotweave/OpenNeeds" := f71.keep K103
      have k105 : Keep h0 h85 [o1, ha, pa, wa, ra] := k81.trans K103 (allS (Or.inl (List.mem_of_getElem? (i := 0) rfl)) (allS (Or.inl (List.mem_of_getElem? (i := 1) rfl)) (allS (Or.inl (List.mem_of_getElem? (i := 2) rfl)) (allS (Or.inl (List.mem_of_getElem? (i := 3) rfl)) (allS (Or.inl (List.mem_of_getElem? (i := 4) rfl)) all0)))))
      refine w_aloadN X86 d8_60 rfl rfl rfl ?_
      refine w_iloadN X86 d8_61 rfl rfl ?_
      refine w_private0 X86 (rm_dn l Z a0 hw o1 (hs.getD ((c0 - (1 : Int32))).toNatClampNeg 0) ha pa wa ra hs98 (c0 - (1 : Int32)) ws rs h85 n0 X86.size ⟨n88, n89, n90, n91, n92, n93, n94, n95, n96, n97⟩ ⟨ne_o1_ha, ne_o1_pa, ne_o1_wa, ne_o1_ra, ne_ha_pa, ne_ha_wa, ne_ha_ra, ne_pa_wa, ne_pa_ra, ne_wa_ra⟩ ⟨g_o1, g_ha, g_pa, g_wa, g_ra⟩ bf (by rw [(mm101.trans JE)]; exact hb) m99 I_.2.1 ok100 l4 (own_pl _ _ m99 I_.2.1 _ l4 (by rw [(mm101.trans JE)]; exact (by rw [← JE]; exact own_ml _ _ m0 I_.2.1 _ l4 J.2.2.2))) lw lr) n88 (hw _ (List.mem_of_getElem? (i := 38) rfl)) (hw _ (List.mem_of_getElem? (i := 39) rfl)) (hw _ (List.mem_of_getElem? (i := 3) rfl)) (hw _ (List.mem_of_getElem? (i := 40) rfl)) (hw _ (List.mem_of_getElem? (i := 4) rfl)) (hw _ (List.mem_of_getElem? (i := 41) rfl)) (by decide) (argsL := [(.int (hs.getD ((c0 - (1 : Int32))).toNatClampNeg 0))]) (rest := []) rfl (lenOf pd_2 rfl) rfl (W := 0) rfl (by decide) (by decide) (by decide) (by decide) d8_62 rfl fun T106 h107 X108 q109 => ?_
      obtain ⟨hs120, m121, ok122, mm123, md124, K125, n110, n111, n112, n113, n114, n115, n116, n117, n118, n119⟩ := q109
      have f126 : Exa Z h107 o1 "com/example/knotweave/knotweave/OpenNeeds" := n88.keep K125
      have k127 : Keep h0 h107 [o1, ha, pa, wa, ra] := k105.trans K125 (allS (Or.inl (List.mem_of_getElem? (i := 0) rfl)) (allS (Or.inl (List.mem_of_getElem? (i := 1) rfl)) (allS (Or.inl (List.mem_of_getElem? (i := 2) rfl)) (allS (Or.inl (List.mem_of_getElem? (i := 3) rfl)) (allS (Or.inl (List.mem_of_getElem? (i := 4) rfl)) all0)))))
      have hC : remC hs c0 p2 = c0 - 1 := if_neg c3
      exact w_return X108 d8_65 rfl ⟨hs120, m121, (by rw [hC]; exact I_.2.1), (by rw [hC]; exact ok122), (by rw [hC]; exact ((mm123.trans mm101).trans JE)), (by rw [remH, if_neg (show ¬ g4 (plc hs c0) p2 < 0 from c3), if_neg (show ¬ g4 hs (c0 - 1) = p2 from c42), sift]; rw [md124, md102]; rfl), k127, (by rw [hC]; exact ⟨n110, n111, n112, n113, n114, n115, n116, n117, n118, n119⟩)⟩ (by decide) (by decide)
  · have hC : remC hs c0 p2 = c0 := if_pos c3
    exact w_return X2 d8_11 rfl ⟨hs, hs4, (by rw [hC]; exact hc), (by rw [hC]; exact ho), (by rw [hC]; exact ((DMx hs hs4 c0 hc p2 hp).1 c3).2.symm), (by rw [remH]; exact (if_pos c3).symm), (Keep.refl h0 [o1, ha, pa, wa, ra]), (by rw [hC]; exact ⟨E_o, F_h, F_p, F_w, F_r, F_c, A_h, A_p, A_w, A_r⟩)⟩ (by decide) (by decide)
theorem d11_0 : decode prog_39_method_4_code 0 = .ok (.aload_n 0, 1) := by decide +kernel
theorem d11_1 : decode prog_39_method_4_code 1 = .ok (.getfield 13, 3) := by decide +kernel
theorem d11_4 : decode prog_39_method_4_code 4 = .ok (.iload_n 1, 1) := by decide +kernel
theorem d11_5 : decode prog_39_method_4_code 5 = .ok (.iaload, 1) := by decide +kernel
theorem d11_6 : decode prog_39_method_4_code 6 = .ok (.ifCond .lt 7, 3) := by decide +kernel
theorem d11_9 : decode prog_39_method_4_code 9 = .ok (.iconst 1, 1) := by decide +kernel
theorem d11_10 : decode prog_39_method_4_code 10 = .ok (.goto 4, 3) := by decide +kernel
theorem d11_13 : decode prog_39_method_4_code 13 = .ok (.iconst 0, 1) := by decide +kernel
theorem d11_14 : decode prog_39_method_4_code 14 = .ok (.ireturn, 1) := by decide +kernel
theorem pn_11 : plainName "com/example/knotweave/knotweave/OpenNeeds" = true := by first | (simp [plainName, overriddenIn]; done) | decide +kernel
theorem ef_11 (m : MethodId) (o1 : Addr) (p2 : Int32) : entryFrame m #[(.ref o1), (.int p2)] 2 = mkF m 0 #[.val (.ref o1), .val (.int p2)] [] := by first | (simp [entryFrame, mkF, argsToLocals, Value.category]; done) | rfl
set_option maxRecDepth 65536 in
set_option maxHeartbeats 4000000 in
theorem rm_contains (l : Launch) (Z : State) (a0 : Array Value) (hw : ∀ d ∈ tables_1, d.before a0 Z = true) (o1 : Addr) (p2 : Int32) (ha : Addr) (pa : Addr) (wa : Addr) (ra : Addr) (H : List Int32) (P : List Int32) (c0 : Int32) (ws : List Int32) (rs : List Int64) (h0 : Heap) (n0 : Nat) (Z0 : n0 ≤ h0.size) (O : ONs Z h0 o1 ha pa wa ra H P c0 ws rs) (D : Dst o1 ha pa wa ra) (G : Ges n0 o1 ha pa wa ra) (hp : p2 ∈ four) (lP : P.length = 4) :
    Con l Z (⟨"com/example/knotweave/knotweave/OpenNeeds", "contains", "(I)Z"⟩ : MethodName) prog_39_method_4_code 2 (some .boolean) ({ frames := 0, cells := 0, slots := 0, locals := 0 } : Room) #[(.ref o1), (.int p2)] h0 n0 (some (.int (if (P.getD (p2).toNatClampNeg 0) < 0 then (0 : Int32) else (1 : Int32)))) (fun h => h = h0) := by
  refine con_of (plainFor_of_name pn_11) Z0 (fun m => ef_11 m o1 p2) ?_
  intro p e s m below meth c T0 X0
  obtain ⟨E_o, F_h, F_p, F_w, F_r, F_c, A_h, A_p, A_w, A_r⟩ := O
  obtain ⟨ne_o1_ha, ne_o1_pa, ne_o1_wa, ne_o1_ra, ne_ha_pa, ne_ha_wa, ne_ha_ra, ne_pa_wa, ne_pa_ra, ne_wa_ra⟩ := D
  obtain ⟨g_o1, g_ha, g_pa, g_wa, g_ra⟩ := G
  refine w_aloadN X0 d11_0 rfl rfl rfl ?_
  refine w_getF X0 (host := "") (Or.inl (hw _ (List.mem_of_getElem? (i := 13) rfl))) Via.refl F_p d11_1 rfl fun T1 X2 => ?_
  refine w_iloadN X2 d11_4 rfl rfl ?_
  refine w_iaload X2 A_p (D0 _ hp).1 rfl (getI (by rw [lP]; exact (D0 _ hp).2.1)) d11_5 rfl ?_
  refine w_if_lt X2 d11_6 (by decide) (pcT := 13) (pcF := 9) (by decide) rfl (fun c3 => ?_) (fun c3 => ?_)
  · refine w_iconst X2 d11_13 (v := (0 : Int32)) rfl rfl ?_
    exact w_nreturn X2 (t := .boolean) (by simp) d11_14 (by rw [if_pos c3]; rfl) rfl (by decide) (by decide)
  · refine w_iconst X2 d11_9 (v := (1 : Int32)) rfl rfl ?_
    refine w_goto X2 d11_10 (by decide) (pc' := 14) (by decide) ?_
    exact w_nreturn X2 (t := .boolean) (by simp) d11_14 (by rw [if_neg c3]; rfl) rfl (by decide) (by decide)
theorem d10_0 : decode prog_39_method_2_code 0 = .ok (.aload_n 0, 1) := by decide +kernel
theorem d10_1 : decode prog_39_method_2_code 1 = .ok (.getfield 29, 3) := by decide +kernel
theorem d10_4 : decode prog_39_method_2_code 4 = .ok (.ireturn, 1) := by decide +kernel
theorem pn_10 : plainName "com/example/knotweave/knotweave/OpenNeeds" = true := by first | (simp [plainName, overriddenIn]; done) | decide +kernel
theorem ef_10 (m : MethodId) (o1 : Addr) : entryFrame m #[(.ref o1)] 1 = mkF m 0 #[.val (.ref o1)] [] := by first | (simp [entryFrame, mkF, argsToLocals, Value.category]; done) | rfl
set_option maxRecDepth 65536 in
set_option maxHeartbeats 4000000 in
theorem rm_count (l : Launch) (Z : State) (a0 : Array Value) (hw : ∀ d ∈ tables_1, d.before a0 Z = true) (o1 : Addr) (ha : Addr) (pa : Addr) (wa : Addr) (ra : Addr) (H : List Int32) (P : List Int32) (c0 : Int32) (ws : List Int32) (rs : List Int64) (h0 : Heap) (n0 : Nat) (Z0 : n0 ≤ h0.size) (O : ONs Z h0 o1 ha pa wa ra H P c0 ws rs) (D : Dst o1 ha pa wa ra) (G : Ges n0 o1 ha pa wa ra) :
    Con l Z (⟨"com/example/knotweave/knotweave/OpenNeeds", "count", "()I"⟩ : MethodName) prog_39_method_2_code 1 (some .int) ({ frames := 0, cells := 0, slots := 0, locals := 0 } : Room) #[(.ref o1)] h0 n0 (some (.int c0)) (fun h => h = h0) := by
  refine con_of (plainFor_of_name pn_10) Z0 (fun m => ef_10 m o1) ?_
  intro p e s m below meth c T0 X0
  obtain ⟨E_o, F_h, F_p, F_w, F_r, F_c, A_h, A_p, A_w, A_r⟩ := O
  obtain ⟨ne_o1_ha, ne_o1_pa, ne_o1_wa, ne_o1_ra, ne_ha_pa, ne_ha_wa, ne_ha_ra, ne_pa_wa, ne_pa_ra, ne_wa_ra⟩ := D
  obtain ⟨g_o1, g_ha, g_pa, g_wa, g_ra⟩ := G
  refine w_aloadN X0 d10_0 rfl rfl rfl ?_
  refine w_getF X0 (host := "") (Or.inl (hw _ (List.mem_of_getElem? (i := 28) rfl))) Via.refl F_c d10_1 rfl fun T1 X2 => ?_
  exact w_ireturn X2 d10_4 rfl rfl (by decide) (by decide)
theorem d13_0 : decode prog_39_method_3_code 0 = .ok (.aload_n 0, 1) := by decide +kernel
theorem d13_1 : decode prog_39_method_3_code 1 = .ok (.getfield 7, 3) := by decide +kernel
theorem d13_4 : decode prog_39_method_3_code 4 = .ok (.iload_n 1, 1) := by decide +kernel
theorem d13_5 : decode prog_39_method_3_code 5 = .ok (.iaload, 1) := by decide +kernel
theorem d13_6 : decode prog_39_method_3_code 6 = .ok (.ireturn, 1) := by decide +kernel
theorem pn_13 : plainName "com/example/knotweave/knotweave/OpenNeeds" = true := by first | (simp [plainName, overriddenIn]; done) | decide +kernel
theorem ef_13 (m : MethodId) (o1 : Addr) (p2 : Int32) : entryFrame m #[(.ref o1), (.int p2)] 2 = mkF m 0 #[.val (.ref o1), .val (.int p2)] [] := by first | (simp [entryFrame, mkF, argsToLocals, Value.category]; done) | rfl
set_option maxRecDepth 65536 in
set_option maxHeartbeats 4000000 in
theorem rm_get (l : Launch) (Z : State) (a0 : Array Value) (hw : ∀ d ∈ tables_1, d.before a0 Z = true) (o1 : Addr) (p2 : Int32) (ha : Addr) (pa : Addr) (wa : Addr) (ra : Addr) (H : List Int32) (P : List Int32) (c0 : Int32) (ws : List Int32) (rs : List Int64) (h0 : Heap) (n0 : Nat) (Z0 : n0 ≤ h0.size) (O : ONs Z h0 o1 ha pa wa ra H P c0 ws rs) (D : Dst o1 ha pa wa ra) (G : Ges n0 o1 ha pa wa ra) (hp : p2 ∈ four) (lH : H.length = 4) :
    Con l Z (⟨"com/example/knotweave/knotweave/OpenNeeds", "get", "(I)I"⟩ : MethodName) prog_39_method_3_code 2 (some .int) ({ frames := 0, cells := 0, slots := 0, locals := 0 } : Room) #[(.ref o1), (.int p2)] h0 n0 (some (.int (H.getD (p2).toNatClampNeg 0))) (fun h => h = h0) := by
  refine con_of (plainFor_of_name pn_13) Z0 (fun m => ef_13 m o1 p2) ?_
  intro p e s m below meth c T0 X0
  obtain ⟨E_o, F_h, F_p, F_w, F_r, F_c, A_h, A_p, A_w, A_r⟩ := O
  obtain ⟨ne_o1_ha, ne_o1_pa, ne_o1_wa, ne_o1_ra, ne_ha_pa, ne_ha_wa, ne_ha_ra, ne_pa_wa, ne_pa_ra, ne_wa_ra⟩ := D
  obtain ⟨g_o1, g_ha, g_pa, g_wa, g_ra⟩ := G
  refine w_aloadN X0 d13_0 rfl rfl rfl ?_
  refine w_getF X0 (host := "") (Or.inl (hw _ (List.mem_of_getElem? (i := 11) rfl))) Via.refl F_h d13_1 rfl fun T1 X2 => ?_
  refine w_iloadN X2 d13_4 rfl rfl ?_
  refine w_iaload X2 A_h (D0 _ hp).1 rfl (getI (by rw [lH]; exact (D0 _ hp).2.1)) d13_5 rfl ?_
  exact w_ireturn X2 d13_6 rfl rfl (by decide) (by decide)
def f_fill_o1_0 (p2 : Int32) (e1_0 : Int32) (e1_1 : Int32) (e1_2 : Int32) (e1_3 : Int32) : Int32 :=
  p2
def f_fill_o1_1 (p2 : Int32) (e1_0 : Int32) (e1_1 : Int32) (e1_2 : Int32) (e1_3 : Int32) : Int32 :=
  p2
def f_fill_o1_2 (p2 : Int32) (e1_0 : Int32) (e1_1 : Int32) (e1_2 : Int32) (e1_3 : Int32) : Int32 :=
  p2
def f_fill_o1_3 (p2 : Int32) (e1_0 : Int32) (e1_1 : Int32) (e1_2 : Int32) (e1_3 : Int32) : Int32 :=
  p2
theorem d3_0 : decode jdk_65_method_103_code 0 = .ok (.iconst 0, 1) := by decide +kernel
theorem d3_1 : decode jdk_65_method_103_code 1 = .ok (.istore_n 2, 1) := by decide +kernel
theorem d3_2 : decode jdk_65_method_103_code 2 = .ok (.aload_n 0, 1) := by decide +kernel
theorem d3_3 : decode jdk_65_method_103_code 3 = .ok (.arraylength, 1) := by decide +kernel
theorem d3_4 : decode jdk_65_method_103_code 4 = .ok (.istore_n 3, 1) := by decide +kernel
theorem d3_5 : decode jdk_65_method_103_code 5 = .ok (.iload_n 2, 1) := by decide +kernel
theorem d3_6 : decode jdk_65_method_103_code 6 = .ok (.iload_n 3, 1) := by decide +kernel
theorem d3_7 : decode jdk_65_method_103_code 7 = .ok (.if_icmp .ge 13, 3) := by decide +kernel
theorem d3_10 : decode jdk_65_method_103_code 10 = .ok (.aload_n 0, 1) := by decide +kernel
theorem d3_11 : decode jdk_65_method_103_code 11 = .ok (.iload_n 2, 1) := by decide +kernel
theorem d3_12 : decode jdk_65_method_103_code 12 = .ok (.iload_n 1, 1) := by decide +kernel
theorem d3_13 : decode jdk_65_method_103_code 13 = .ok (.iastore, 1) := by decide +kernel
theorem d3_14 : decode jdk_65_method_103_code 14 = .ok (.iinc 2 1, 3) := by decide +kernel
theorem d3_17 : decode jdk_65_method_103_code 17 = .ok (.goto (-12), 3) := by decide +kernel
theorem d3_20 : decode jdk_65_method_103_code 20 = .ok (.return_, 1) := by decide +kernel
theorem pn_3 : plainName "java/util/Arrays" = true := by first | (simp [plainName, overriddenIn]; done) | decide +kernel
theorem ef_3 (m : MethodId) (o1 : Addr) (p2 : Int32) : entryFrame m #[(.ref o1), (.int p2)] 4 = mkF m 0 #[.val (.ref o1), .val (.int p2), .unset, .unset] [] := by first | (simp [entryFrame, mkF, argsToLocals, Value.category]; done) | rfl
set_option maxRecDepth 65536 in
set_option maxHeartbeats 4000000 in
theorem rm_fill (l : Launch) (Z : State) (a0 : Array Value) (hw : ∀ d ∈ tables_1, d.before a0 Z = true) (o1 : Addr) (p2 : Int32) (e1_0 : Int32) (e1_1 : Int32) (e1_2 : Int32) (e1_3 : Int32) (h0 : Heap) (n0 : Nat) (Z0 : n0 ≤ h0.size) (A_o1 : AV Z h0 o1 .int [(.int e1_0), (.int e1_1), (.int e1_2), (.int e1_3)]) (g_o1 : n0 ≤ o1) :
    Con l Z (⟨"java/util/Arrays", "fill", "([II)V"⟩ : MethodName) jdk_65_method_103_code 4 none ({ frames := 0, cells := 0, slots := 0, locals := 0 } : Room) #[(.ref o1), (.int p2)] h0 n0 none (fun h => Keep h0 h [o1] ∧ AV Z h o1 .int [(.int (f_fill_o1_0 p2 e1_0 e1_1 e1_2 e1_3)), (.int (f_fill_o1_1 p2 e1_0 e1_1 e1_2 e1_3)), (.int (f_fill_o1_2 p2 e1_0 e1_1 e1_2 e1_3)), (.int (f_fill_o1_3 p2 e1_0 e1_1 e1_2 e1_3))]) := by
  refine con_of (plainFor_of_name pn_3) Z0 (fun m => ef_3 m o1 p2) ?_
  intro p e s m below meth c T0 X0
  refine w_iconst X0 d3_0 (v := (0 : Int32)) rfl rfl ?_
  refine w_istoreN X0 d3_1 rfl (L' := #[.val (.ref o1), .val (.int p2), .val (.int (0 : Int32)), .unset]) rfl ?_
  refine w_aloadN X0 d3_2 rfl rfl rfl ?_
  refine w_arraylength X0 A_o1 (n := (4 : Int32)) rfl d3_3 rfl ?_
  refine w_istoreN X0 d3_4 rfl (L' := #[.val (.ref o1), .val (.int p2), .val (.int (0 : Int32)), .val (.int (4 : Int32))]) rfl ?_
  refine w_iloadN X0 d3_5 rfl rfl ?_
  refine w_iloadN X0 d3_6 rfl rfl ?_
  refine w_icmp_ge X0 d3_7 (by decide) (pcT := 20) (pcF := 10) (by decide) rfl (fun c1 => absurd c1 (by decide)) (fun c1 => ?_)
  refine w_aloadN X0 d3_10 rfl rfl rfl ?_
  refine w_iloadN X0 d3_11 rfl rfl ?_
  refine w_iloadN X0 d3_12 rfl rfl ?_
  refine w_iastore X0 A_o1 (by decide) (i := 0) (by decide) (Nat.le_of_ble_eq_true rfl) g_o1 d3_13 rfl fun T2 h5 X3 W4 A6 => ?_
  have f7 : AV Z h5 o1 .int [(.int p2), (.int e1_1), (.int e1_2), (.int e1_3)] := A6
  have k8 : Keep h0 h5 [o1] := (Keep.refl h0 [o1]).wr W4 (Or.inl (List.mem_of_getElem? (i := 0) rfl))
  refine w_iinc X3 d3_14 rfl rfl (v' := (1 : Int32)) rfl (L' := #[.val (.ref o1), .val (.int p2), .val (.int (1 : Int32)), .val (.int (4 : Int32))]) rfl ?_
  refine w_goto X3 d3_17 (by decide) (pc' := 5) (by decide) ?_
  refine w_iloadN X3 d3_5 rfl rfl ?_
  refine w_iloadN X3 d3_6 rfl rfl ?_
  refine w_icmp_ge X3 d3_7 (by decide) (pcT := 20) (pcF := 10) (by decide) rfl (fun c9 => absurd c9 (by decide)) (fun c9 => ?_)
  refine w_aloadN X3 d3_10 rfl rfl rfl ?_
  refine w_iloadN X3 d3_11 rfl rfl ?_
  refine w_iloadN X3 d3_12 rfl rfl ?_
  refine w_iastore X3 f7 (by decide) (i := 1) (by decide) (Nat.le_of_ble_eq_true rfl) g_o1 d3_13 rfl fun T10 h13 X11 W12 A14 => ?_
  have f15 : AV Z h13 o1 .int [(.int p2), (.int p2), (.int e1_2), (.int e1_3)] := A14
  have k16 : Keep h0 h13 [o1] := k8.wr W12 (Or.inl (List.mem_of_getElem? (i := 0) rfl))
  refine w_iinc X11 d3_14 rfl rfl (v' := (2 : Int32)) rfl (L' := #[.val (.ref o1), .val (.int p2), .val (.int (2 : Int32)), .val (.int (4 : Int32))]) rfl ?_
  refine w_goto X11 d3_17 (by decide) (pc' := 5) (by decide) ?_
  refine w_iloadN X11 d3_5 rfl rfl ?_
  refine w_iloadN X11 d3_6 rfl rfl ?_
  refine w_icmp_ge X11 d3_7 (by decide) (pcT := 20) (pcF := 10) (by decide) rfl (fun c17 => absurd c17 (by decide)) (fun c17 => ?_)
  refine w_aloadN X11 d3_10 rfl rfl rfl ?_
  refine w_iloadN X11 d3_11 rfl rfl ?_
  refine w_iloadN X11 d3_12 rfl rfl ?_
  refine w_iastore X11 f15 (by decide) (i := 2) (by decide) (Nat.le_of_ble_eq_true rfl) g_o1 d3_13 rfl fun T18 h21 X19 W20 A22 => ?_
  have f23 : AV Z h21 o1 .int [(.int p2), (.int p2), (.int p2), (.int e1_3)] := A22
  have k24 : Keep h0 h21 [o1] := k16.wr W20 (Or.inl (List.mem_of_getElem? (i := 0) rfl))
  refine w_iinc X19 d3_14 rfl rfl (v' := (3 : Int32)) rfl (L' := #[.val (.ref o1), .val (.int p2), .val (.int (3 : Int32)), .val (.int (4 : Int32))]) rfl ?_
  refine w_goto X19 d3_17 (by decide) (pc' := 5) (by decide) ?_
  refine w_iloadN X19 d3_5 rfl rfl ?_
  refine w_iloadN X19 d3_6 rfl rfl ?_
  refine w_icmp_ge X19 d3_7 (by decide) (pcT := 20) (pcF := 10) (by decide) rfl (fun c25 => absurd c25 (by decide)) (fun c25 => ?_)
  refine w_aloadN X19 d3_10 rfl rfl rfl ?_
  refine w_iloadN X19 d3_11 rfl rfl ?_
  refine w_iloadN X19 d3_12 rfl rfl ?_
  refine w_iastore X19 f23 (by decide) (i := 3) (by decide) (Nat.le_of_ble_eq_true rfl) g_o1 d3_13 rfl fun T26 h29 X27 W28 A30 => ?_
  have f31 : AV Z h29 o1 .int [(.int p2), (.int p2), (.int p2), (.int p2)] := A30
  have k32 : Keep h0 h29 [o1] := k24.wr W28 (Or.inl (List.mem_of_getElem? (i := 0) rfl))
  refine w_iinc X27 d3_14 rfl rfl (v' := (4 : Int32)) rfl (L' := #[.val (.ref o1), .val (.int p2), .val (.int (4 : Int32)), .val (.int (4 : Int32))]) rfl ?_
  refine w_goto X27 d3_17 (by decide) (pc' := 5) (by decide) ?_
  refine w_iloadN X27 d3_5 rfl rfl ?_
  refine w_iloadN X27 d3_6 rfl rfl ?_
  refine w_icmp_ge X27 d3_7 (by decide) (pcT := 20) (pcF := 10) (by decide) rfl (fun c33 => ?_) (fun c33 => absurd c33 (by decide))
  exact w_return X27 d3_20 rfl (by skip; exact ⟨k32, f31⟩) (by decide) (by decide)
theorem d1_0 : decode prog_39_method_1_code 0 = .ok (.aload_n 0, 1) := by decide +kernel
theorem d1_1 : decode prog_39_method_1_code 1 = .ok (.invokespecial 1, 3) := by decide +kernel
theorem d1_4 : decode prog_39_method_1_code 4 = .ok (.aload_n 0, 1) := by decide +kernel
theorem d1_5 : decode prog_39_method_1_code 5 = .ok (.iload_n 1, 1) := by decide +kernel
theorem d1_6 : decode prog_39_method_1_code 6 = .ok (.newarray .int, 2) := by decide +kernel
theorem d1_8 : decode prog_39_method_1_code 8 = .ok (.putfield 7, 3) := by decide +kernel
theorem d1_11 : decode prog_39_method_1_code 11 = .ok (.aload_n 0, 1) := by decide +kernel
theorem d1_12 : decode prog_39_method_1_code 12 = .ok (.iload_n 1, 1) := by decide +kernel
theorem d1_13 : decode prog_39_method_1_code 13 = .ok (.newarray .int, 2) := by decide +kernel
theorem d1_15 : decode prog_39_method_1_code 15 = .ok (.putfield 13, 3) := by decide +kernel
theorem d1_18 : decode prog_39_method_1_code 18 = .ok (.aload_n 0, 1) := by decide +kernel
theorem d1_19 : decode prog_39_method_1_code 19 = .ok (.iload_n 1, 1) := by decide +kernel
theorem d1_20 : decode prog_39_method_1_code 20 = .ok (.newarray .int, 2) := by decide +kernel
theorem d1_22 : decode prog_39_method_1_code 22 = .ok (.putfield 16, 3) := by decide +kernel
theorem d1_25 : decode prog_39_method_1_code 25 = .ok (.aload_n 0, 1) := by decide +kernel
theorem d1_26 : decode prog_39_method_1_code 26 = .ok (.iload_n 1, 1) := by decide +kernel
theorem d1_27 : decode prog_39_method_1_code 27 = .ok (.newarray .long, 2) := by decide +kernel
theorem d1_29 : decode prog_39_method_1_code 29 = .ok (.putfield 19, 3) := by decide +kernel
theorem d1_32 : decode prog_39_method_1_code 32 = .ok (.aload_n 0, 1) := by decide +kernel
theorem d1_33 : decode prog_39_method_1_code 33 = .ok (.getfield 13, 3) := by decide +kernel
theorem d1_36 : decode prog_39_method_1_code 36 = .ok (.iconst (-1), 1) := by decide +kernel
theorem d1_37 : decode prog_39_method_1_code 37 = .ok (.invokestatic 23, 3) := by decide +kernel
theorem d1_40 : decode prog_39_method_1_code 40 = .ok (.return_, 1) := by decide +kernel
theorem pd_3 : parseMethodDescriptor "([II)V" = some ⟨[(.array .int), .int], none⟩ := by decide +kernel
theorem pn_1 : plainName "com/example/knotweave/knotweave/OpenNeeds" = true := by first | (simp [plainName, overriddenIn]; done) | decide +kernel
theorem ef_1 (m : MethodId) (o1 : Addr) (p2 : Int32) : entryFrame m #[(.ref o1), (.int p2)] 2 = mkF m 0 #[.val (.ref o1), .val (.int p2)] [] := by first | (simp [entryFrame, mkF, argsToLocals, Value.category]; done) | rfl
set_option maxRecDepth 65536 in
set_option maxHeartbeats 40000000 in
theorem rm_init (l : Launch) (Z : State) (a0 : Array Value) (hw : ∀ d ∈ tables_1, d.before a0 Z = true) (o1 : Addr) (h0 : Heap) (n0 : Nat) (Z0 : n0 ≤ h0.size) (E_p : Exa Z h0 o1 "com/example/knotweave/knotweave/OpenNeeds") (F0_heap : Fld Z h0 o1 "com/example/knotweave/knotweave/OpenNeeds" "heap" "[I" .null) (F0_placeOf : Fld Z h0 o1 "com/example/knotweave/knotweave/OpenNeeds" "placeOf" "[I" .null) (F0_waysOf : Fld Z h0 o1 "com/example/knotweave/knotweave/OpenNeeds" "waysOf" "[I" .null) (F0_rankOf : Fld Z h0 o1 "com/example/knotweave/knotweave/OpenNeeds" "rankOf" "[J" .null) (F0_count : Fld Z h0 o1 "com/example/knotweave/knotweave/OpenNeeds" "count" "I" (.int (0 : Int32))) (g_o1 : n0 ≤ o1) :
    Con l Z (⟨"com/example/knotweave/knotweave/OpenNeeds", "<init>", "(I)V"⟩ : MethodName) prog_39_method_1_code 2 none ({ frames := 1, cells := 4, slots := 16, locals := 15 } : Room) #[(.ref o1), (.int (4 : Int32))] h0 n0 none (fun h => ∃ ha pa wa ra, (n0 ≤ ha ∧ n0 ≤ pa ∧ n0 ≤ wa ∧ n0 ≤ ra) ∧ (h0.size ≤ ha ∧ h0.size ≤ pa ∧ h0.size ≤ wa ∧ h0.size ≤ ra) ∧ Dst o1 ha pa wa ra ∧ Keep h0 h [o1] ∧ ONs Z h o1 ha pa wa ra [0, 0, 0, 0] (plc [0, 0, 0, 0] 0) 0 [0, 0, 0, 0] [0, 0, 0, 0]) := by
  refine con_of (plainFor_of_name pn_1) Z0 (fun m => ef_1 m o1 (4 : Int32)) ?_
  intro p e s m below meth c T0 X0
  refine w_aloadN X0 d1_0 rfl rfl rfl ?_
  refine w_initO X0 (W := 0) (hw _ (List.mem_of_getElem? (i := 8) rfl)) (hw _ (List.mem_of_getElem? (i := 9) rfl)) (hw _ (List.mem_of_getElem? (i := 10) rfl)) rfl rfl (by decide) (by decide) d1_1 rfl fun T1 X2 => ?_
  refine w_aloadN X2 d1_4 rfl rfl rfl ?_
  refine w_iloadN X2 d1_5 rfl rfl ?_
  refine w_newP X2 (hw _ (List.mem_of_getElem? (i := 0) rfl)) (by decide) (k := 4) (by decide) (cap := 4) (by decide) (by decide) (by decide) (by decide) d1_6 rfl fun T3 h5 a6 X4 ga7 gn8 E9 A10 => ?_
  have ne11 : o1 ≠ a6 := by rw [ga7]; exact Nat.ne_of_lt E_p.lt
  have g012 : h0.size ≤ a6 := by rw [ga7]; exact (Keep.refl h0 [o1]).1
  have f13 : Exa Z h5 o1 "com/example/knotweave/knotweave/OpenNeeds" := Exa.ext E9 E_p
  have f14 : Fld Z h5 o1 "com/example/knotweave/knotweave/OpenNeeds" "heap" "[I" .null := Fld.ext E9 F0_heap
  have f15 : Fld Z h5 o1 "com/example/knotweave/knotweave/OpenNeeds" "placeOf" "[I" .null := Fld.ext E9 F0_placeOf
  have f16 : Fld Z h5 o1 "com/example/knotweave/knotweave/OpenNeeds" "waysOf" "[I" .null := Fld.ext E9 F0_waysOf
  have f17 : Fld Z h5 o1 "com/example/knotweave/knotweave/OpenNeeds" "rankOf" "[J" .null := Fld.ext E9 F0_rankOf
  have f18 : Fld Z h5 o1 "com/example/knotweave/knotweave/OpenNeeds" "count" "I" (.int (0 : Int32)) := Fld.ext E9 F0_count
  have k19 : Keep h0 h5 [o1] := (Keep.refl h0 [o1]).ext E9
  have f20 : AV Z h5 a6 .int [(.int (0 : Int32)), (.int (0 : Int32)), (.int (0 : Int32)), (.int (0 : Int32))] := A10
  refine w_putF X4 (host := "") (Or.inl (hw _ (List.mem_of_getElem? (i := 11) rfl))) Via.refl f14 f13 (Or.inr ⟨(hw _ (List.mem_of_getElem? (i := 12) rfl)), rfl, rfl⟩) (hw _ (List.mem_of_getElem? (i := 3) rfl)) (ty := (.array .int)) (by decide) rfl rfl g_o1 d1_8 rfl fun T21 h24 X22 W23 => ?_
  have f25 : Exa Z h24 o1 "com/example/knotweave/knotweave/OpenNeeds" := Exa.wr W23 f13
  have f26 : Fld Z h24 o1 "com/example/knotweave/knotweave/OpenNeeds" "heap" "[I" (.ref a6) := Fld.same W23 f14
  have f27 : Fld Z h24 o1 "com/example/knotweave/knotweave/OpenNeeds" "placeOf" "[I" .null := Fld.other W23 f15 (Or.inr (slot_ne (Or.inr (hw _ (List.mem_of_getElem? (i := 14) rfl))) (Or.inr (hw _ (List.mem_of_getElem? (i := 12) rfl))) (by decide) (t := (.array .int)) (t' := (.array .int)) (by decide) (by decide)))
  have f28 : Fld Z h24 o1 "com/example/knotweave/knotweave/OpenNeeds" "waysOf" "[I" .null := Fld.other W23 f16 (Or.inr (slot_ne (Or.inr (hw _ (List.mem_of_getElem? (i := 16) rfl))) (Or.inr (hw _ (List.mem_of_getElem? (i := 12) rfl))) (by decide) (t := (.array .int)) (t' := (.array .int)) (by decide) (by decide)))
  have f29 : Fld Z h24 o1 "com/example/knotweave/knotweave/OpenNeeds" "rankOf" "[J" .null := Fld.other W23 f17 (Or.inr (slot_ne (Or.inr (hw _ (List.mem_of_getElem? (i := 18) rfl))) (Or.inr (hw _ (List.mem_of_getElem? (i := 12) rfl))) (by decide) (t := (.array .long)) (t' := (.array .int)) (by decide) (by decide)))
  have f30 : Fld Z h24 o1 "com/example/knotweave/knotweave/OpenNeeds" "count" "I" (.int (0 : Int32)) := Fld.other W23 f18 (Or.inr (slot_ne (Or.inl (hw _ (List.mem_of_getElem? (i := 29) rfl))) (Or.inr (hw _ (List.mem_of_getElem? (i := 12) rfl))) (by decide) (t := .int) (t' := (.array .int)) (by decide) (by decide)))
  have f31 : AV Z h24 a6 .int [(.int (0 : Int32)), (.int (0 : Int32)), (.int (0 : Int32)), (.int (0 : Int32))] := f20.other W23 (Ne.symm ne11)
  have k32 : Keep h0 h24 [o1] := k19.wr W23 (Or.inl (List.mem_of_getElem? (i := 0) rfl))
  refine w_aloadN X22 d1_11 rfl rfl rfl ?_
  refine w_iloadN X22 d1_12 rfl rfl ?_
  refine w_newP X22 (hw _ (List.mem_of_getElem? (i := 0) rfl)) (by decide) (k := 4) (by decide) (cap := 4) (by decide) (by decide) (by decide) (by decide) d1_13 rfl fun T33 h35 a36 X34 ga37 gn38 E39 A40 => ?_
  have ne41 : o1 ≠ a36 := by rw [ga37]; exact Nat.ne_of_lt f25.lt
  have ne42 : a6 ≠ a36 := by rw [ga37]; exact Nat.ne_of_lt f31.lt
  have g043 : h0.size ≤ a36 := by rw [ga37]; exact k32.1
  have f44 : Exa Z h35 o1 "com/example/knotweave/knotweave/OpenNeeds" := Exa.ext E39 f25
  have f45 : Fld Z h35 o1 "com/example/knotweave/knotweave/OpenNeeds" "heap" "[I" (.ref a6) := Fld.ext E39 f26
  have f46 : Fld Z h35 o1 "com/example/knotweave/knotweave/OpenNeeds" "placeOf" "[I" .null := Fld.ext E39 f27
  have f47 : Fld Z h35 o1 "com/example/knotweave/knotweave/OpenNeeds" "waysOf" "[I" .null := Fld.ext E39 f28
  have f48 : Fld Z h35 o1 "com/example/knotweave/knotweave/OpenNeeds" "rankOf" "[J" .null := Fld.ext E39 f29
  have f49 : Fld Z h35 o1 "com/example/knotweave/knotweave/OpenNeeds" "count" "I" (.int (0 : Int32)) := Fld.ext E39 f30
  have f50 : AV Z h35 a6 .int [(.int (0 : Int32)), (.int (0 : Int32)), (.int (0 : Int32)), (.int (0 : Int32))] := f31.ext E39
  have k51 : Keep h0 h35 [o1] := k32.ext E39
  have f52 : AV Z h35 a36 .int [(.int (0 : Int32)), (.int (0 : Int32)), (.int (0 : Int32)), (.int (0 : Int32))] := A40
  refine w_putF X34 (host := "") (Or.inl (hw _ (List.mem_of_getElem? (i := 13) rfl))) Via.refl f46 f44 (Or.inr ⟨(hw _ (List.mem_of_getElem? (i := 14) rfl)), rfl, rfl⟩) (hw _ (List.mem_of_getElem? (i := 3) rfl)) (ty := (.array .int)) (by decide) rfl rfl g_o1 d1_15 rfl fun T53 h56 X54 W55 => ?_
  have f57 : Exa Z h56 o1 "com/example/knotweave/knotweave/OpenNeeds" := Exa.wr W55 f44
  have f58 : Fld Z h56 o1 "com/example/knotweave/knotweave/OpenNeeds" "heap" "[I" (.ref a6) := Fld.other W55 f45 (Or.inr (slot_ne (Or.inr (hw _ (List.mem_of_getElem? (i := 12) rfl))) (Or.inr (hw _ (List.mem_of_getElem? (i := 14) rfl))) (by decide) (t := (.array .int)) (t' := (.array .int)) (by decide) (by decide)))
  have f59 : Fld Z h56 o1 "com/example/knotweave/knotweave/OpenNeeds" "placeOf" "[I" (.ref a36) := Fld.same W55 f46
  have f60 : Fld Z h56 o1 "com/example/knotweave/knotweave/OpenNeeds" "waysOf" "[I" .null := Fld.other W55 f47 (Or.inr (slot_ne (Or.inr (hw _ (List.mem_of_getElem? (i := 16) rfl))) (Or.inr (hw _ (List.mem_of_getElem? (i := 14) rfl))) (by decide) (t := (.array .int)) (t' := (.array .int)) (by decide) (by decide)))
  have f61 : Fld Z h56 o1 "com/example/knotweave/knotweave/OpenNeeds" "rankOf" "[J" .null := Fld.other W55 f48 (Or.inr (slot_ne (Or.inr (hw _ (List.mem_of_getElem? (i := 18) rfl))) (Or.inr (hw _ (List.mem_of_getElem? (i := 14) rfl))) (by decide) (t := (.array .long)) (t' := (.array .int)) (by decide) (by decide)))
  have f62 : Fld Z h56 o1 "com/example/knotweave/knotweave/OpenNeeds" "count" "I" (.int (0 : Int32)) := Fld.other W55 f49 (Or.inr (slot_ne (Or.inl (hw _ (List.mem_of_getElem? (i := 29) rfl))) (Or.inr (hw _ (List.mem_of_getElem? (i := 14) rfl))) (by decide) (t := .int) (t' := (.array .int)) (by decide) (by decide)))
  have f63 : AV Z h56 a6 .int [(.int (0 : Int32)), (.int (0 : Int32)), (.int (0 : Int32)), (.int (0 : Int32))] := f50.other W55 (Ne.symm ne11)
  have f64 : AV Z h56 a36 .int [(.int (0 : Int32)), (.int (0 : Int32)), (.int (0 : Int32)), (.int (0 : Int32))] := f52.other W55 (Ne.symm ne41)
  have k65 : Keep h0 h56 [o1] := k51.wr W55 (Or.inl (List.mem_of_getElem? (i := 0) rfl))
  refine w_aloadN X54 d1_18 rfl rfl rfl ?_
  refine w_iloadN X54 d1_19 rfl rfl ?_
  refine w_newP X54 (hw _ (List.mem_of_getElem? (i := 0) rfl)) (by decide) (k := 4) (by decide) (cap := 4) (by decide) (by decide) (by decide) (by decide) d1_20 rfl fun T66 h68 a69 X67 ga70 gn71 E72 A73 => ?_
  have ne74 : o1 ≠ a69 := by rw [ga70]; exact Nat.ne_of_lt f57.lt
  have ne75 : a6 ≠ a69 := by rw [ga70]; exact Nat.ne_of_lt f63.lt
  have ne76 : a36 ≠ a69 := by rw [ga70]; exact Nat.ne_of_lt f64.lt
  have g077 : h0.size ≤ a69 := by rw [ga70]; exact k65.1
  have f78 : Exa Z h68 o1 "com/example/knotweave/knotweave/OpenNeeds" := Exa.ext E72 f57
  have f79 : Fld Z h68 o1 "com/example/knotweave/knotweave/OpenNeeds" "heap" "[I" (.ref a6) := Fld.ext E72 f58
  have f80 : Fld Z h68 o1 "com/example/knotweave/knotweave/OpenNeeds" "placeOf" "[I" (.ref a36) := Fld.ext E72 f59
  have f81 : Fld Z h68 o1 "com/example/knotweave/knotweave/OpenNeeds" "waysOf" "[I" .null := Fld.ext E72 f60
  have f82 : Fld Z h68 o1 "com/example/knotweave/knotweave/OpenNeeds" "rankOf" "[J" .null := Fld.ext E72 f61
  have f83 : Fld Z h68 o1 "com/example/knotweave/knotweave/OpenNeeds" "count" "I" (.int (0 : Int32)) := Fld.ext E72 f62
  have f84 : AV Z h68 a6 .int [(.int (0 : Int32)), (.int (0 : Int32)), (.int (0 : Int32)), (.int (0 : Int32))] := f63.ext E72
  have f85 : AV Z h68 a36 .int [(.int (0 : Int32)), (.int (0 : Int32)), (.int (0 : Int32)), (.int (0 : Int32))] := f64.ext E72
  have k86 : Keep h0 h68 [o1] := k65.ext E72
  have f87 : AV Z h68 a69 .int [(.int (0 : Int32)), (.int (0 : Int32)), (.int (0 : Int32)), (.int (0 : Int32))] := A73
  refine w_putF X67 (host := "") (Or.inl (hw _ (List.mem_of_getElem? (i := 15) rfl))) Via.refl f81 f78 (Or.inr ⟨(hw _ (List.mem_of_getElem? (i := 16) rfl)), rfl, rfl⟩) (hw _ (List.mem_of_getElem? (i := 3) rfl)) (ty := (.array .int)) (by decide) rfl rfl g_o1 d1_22 rfl fun T88 h91 X89 W90 => ?_
  have f92 : Exa Z h91 o1 "com/example/knotweave/knotweave/OpenNeeds" := Exa.wr W90 f78
  have f93 : Fld Z h91 o1 "com/example/knotweave/knotweave/OpenNeeds" "heap" "[I" (.ref a6) := Fld.other W90 f79 (Or.inr (slot_ne (Or.inr (hw _ (List.mem_of_getElem? (i := 12) rfl))) (Or.inr (hw _ (List.mem_of_getElem? (i := 16) rfl))) (by decide) (t := (.array .int)) (t' := (.array .int)) (by decide) (by decide)))
  have f94 : Fld Z h91 o1 "com/example/knotweave/knotweave/OpenNeeds" "placeOf" "[I" (.ref a36) := Fld.other W90 f80 (Or.inr (slot_ne (Or.inr (hw _ (List.mem_of_getElem? (i := 14) rfl))) (Or.inr (hw _ (List.mem_of_getElem? (i := 16) rfl))) (by decide) (t := (.array .int)) (t' := (.array .int)) (by decide) (by decide)))
  have f95 : Fld Z h91 o1 "com/example/knotweave/knotweave/OpenNeeds" "waysOf" "[I" (.ref a69) := Fld.same W90 f81
  have f96 : Fld Z h91 o1 "com/example/knotweave/knotweave/OpenNeeds" "rankOf" "[J" .null := Fld.other W90 f82 (Or.inr (slot_ne (Or.inr (hw _ (List.mem_of_getElem? (i := 18) rfl))) (Or.inr (hw _ (List.mem_of_getElem? (i := 16) rfl))) (by decide) (t := (.array .long)) (t' := (.array .int)) (by decide) (by decide)))
  have f97 : Fld Z h91 o1 "com/example/knotweave/knotweave/OpenNeeds" "count" "I" (.int (0 : Int32)) := Fld.other W90 f83 (Or.inr (slot_ne (Or.inl (hw _ (List.mem_of_getElem? (i := 29) rfl))) (Or.inr (hw _ (List.mem_of_getElem? (i := 16) rfl))) (by decide) (t := .int) (t' := (.array .int)) (by decide) (by decide)))
  have f98 : AV Z h91 a6 .int [(.int (0 : Int32)), (.int (0 : Int32)), (.int (0 : Int32)), (.int (0 : Int32))] := f84.other W90 (Ne.symm ne11)
  have f99 : AV Z h91 a36 .int [(.int (0 : Int32)), (.int (0 : Int32)), (.int (0 : Int32)), (.int (0 : Int32))] := f85.other W90 (Ne.symm ne41)
  have f100 : AV Z h91 a69 .int [(.int (0 : Int32)), (.int (0 : Int32)), (.int (0 : Int32)), (.int (0 : Int32))] := f87.other W90 (Ne.symm ne74)
  have k101 : Keep h0 h91 [o1] := k86.wr W90 (Or.inl (List.mem_of_getElem? (i := 0) rfl))
  refine w_aloadN X89 d1_25 rfl rfl rfl ?_
  refine w_iloadN X89 d1_26 rfl rfl ?_
  refine w_newP X89 (hw _ (List.mem_of_getElem? (i := 1) rfl)) (by decide) (k := 4) (by decide) (cap := 4) (by decide) (by decide) (by decide) (by decide) d1_27 rfl fun T102 h104 a105 X103 ga106 gn107 E108 A109 => ?_
  have ne110 : o1 ≠ a105 := by rw [ga106]; exact Nat.ne_of_lt f92.lt
  have ne111 : a6 ≠ a105 := by rw [ga106]; exact Nat.ne_of_lt f98.lt
  have ne112 : a36 ≠ a105 := by rw [ga106]; exact Nat.ne_of_lt f99.lt
  have ne113 : a69 ≠ a105 := by rw [ga106]; exact Nat.ne_of_lt f100.lt
  have g0114 : h0.size ≤ a105 := by rw [ga106]; exact k101.1
  have f115 : Exa Z h104 o1 "com/example/knotweave/knotweave/OpenNeeds" := Exa.ext E108 f92
  have f116 : Fld Z h104 o1 "com/example/knotweave/knotweave/OpenNeeds" "heap" "[I" (.ref a6) := Fld.ext E108 f93
  have f117 : Fld Z h104 o1 "com/example/knotweave/knotweave/OpenNeeds" "placeOf" "[I" (.ref a36) := Fld.ext E108 f94
  have f118 : Fld Z h104 o1 "com/example/knotweave/knotweave/OpenNeeds" "waysOf" "[I" (.ref a69) := Fld.ext E108 f95
  have f119 : Fld Z h104 o1 "com/example/knotweave/knotweave/OpenNeeds" "rankOf" "[J" .null := Fld.ext E108 f96
  have f120 : Fld Z h104 o1 "com/example/knotweave/knotweave/OpenNeeds" "count" "I" (.int (0 : Int32)) := Fld.ext E108 f97
  have f121 : AV Z h104 a6 .int [(.int (0 : Int32)), (.int (0 : Int32)), (.int (0 : Int32)), (.int (0 : Int32))] := f98.ext E108
  have f122 : AV Z h104 a36 .int [(.int (0 : Int32)), (.int (0 : Int32)), (.int (0 : Int32)), (.int (0 : Int32))] := f99.ext E108
  have f123 : AV Z h104 a69 .int [(.int (0 : Int32)), (.int (0 : Int32)), (.int (0 : Int32)), (.int (0 : Int32))] := f100.ext E108
  have k124 : Keep h0 h104 [o1] := k101.ext E108
  have f125 : AV Z h104 a105 .long [(.long (0 : Int64)), (.long (0 : Int64)), (.long (0 : Int64)), (.long (0 : Int64))] := A109
  refine w_putF X103 (host := "") (Or.inl (hw _ (List.mem_of_getElem? (i := 17) rfl))) Via.refl f119 f115 (Or.inr ⟨(hw _ (List.mem_of_getElem? (i := 18) rfl)), rfl, rfl⟩) (hw _ (List.mem_of_getElem? (i := 3) rfl)) (ty := (.array .long)) (by decide) rfl rfl g_o1 d1_29 rfl fun T126 h129 X127 W128 => ?_
  have f130 : Exa Z h129 o1 "com/example/knotweave/knotweave/OpenNeeds" := Exa.wr W128 f115
  have f131 : Fld Z h129 o1 "com/example/knotweave/knotweave/OpenNeeds" "heap" "[I" (.ref a6) := Fld.other W128 f116 (Or.inr (slot_ne (Or.inr (hw _ (List.mem_of_getElem? (i := 12) rfl))) (Or.inr (hw _ (List.mem_of_getElem? (i := 18) rfl))) (by decide) (t := (.array .int)) (t' := (.array .long)) (by decide) (by decide)))
  have f132 : Fld Z h129 o1 "com/example/knotweave/knotweave/OpenNeeds" "placeOf" "[I" (.ref a36) := Fld.other W128 f117 (Or.inr (slot_ne (Or.inr (hw _ (List.mem_of_getElem? (i := 14) rfl))) (Or.inr (hw _ (List.mem_of_getElem? (i := 18) rfl))) (by decide) (t := (.array .int)) (t' := (.array .long)) (by decide) (by decide)))
  have f133 : Fld Z h129 o1 "com/example/knotweave/knotweave/OpenNeeds" "waysOf" "[I" (.ref a69) := Fld.other W128 f118 (Or.inr (slot_ne (Or.inr (hw _ (List.mem_of_getElem? (i := 16) rfl))) (Or.inr (hw _ (List.mem_of_getElem? (i := 18) rfl))) (by decide) (t := (.array .int)) (t' := (.array .long)) (by decide) (by decide)))
  have f134 : Fld Z h129 o1 "com/example/knotweave/knotweave/OpenNeeds" "rankOf" "[J" (.ref a105) := Fld.same W128 f119
  have f135 : Fld Z h129 o1 "com/example/knotweave/knotweave/OpenNeeds" "count" "I" (.int (0 : Int32)) := Fld.other W128 f120 (Or.inr (slot_ne (Or.inl (hw _ (List.mem_of_getElem? (i := 29) rfl))) (Or.inr (hw _ (List.mem_of_getElem? (i := 18) rfl))) (by decide) (t := .int) (t' := (.array .long)) (by decide) (by decide)))
  have f136 : AV Z h129 a6 .int [(.int (0 : Int32)), (.int (0 : Int32)), (.int (0 : Int32)), (.int (0 : Int32))] := f121.other W128 (Ne.symm ne11)
  have f137 : AV Z h129 a36 .int [(.int (0 : Int32)), (.int (0 : Int32)), (.int (0 : Int32)), (.int (0 : Int32))] := f122.other W128 (Ne.symm ne41)
  have f138 : AV Z h129 a69 .int [(.int (0 : Int32)), (.int (0 : Int32)), (.int (0 : Int32)), (.int (0 : Int32))] := f123.other W128 (Ne.symm ne74)
  have f139 : AV Z h129 a105 .long [(.long (0 : Int64)), (.long (0 : Int64)), (.long (0 : Int64)), (.long (0 : Int64))] := f125.other W128 (Ne.symm ne110)
  have k140 : Keep h0 h129 [o1] := k124.wr W128 (Or.inl (List.mem_of_getElem? (i := 0) rfl))
  refine w_aloadN X127 d1_32 rfl rfl rfl ?_
  refine w_getF X127 (host := "") (Or.inl (hw _ (List.mem_of_getElem? (i := 13) rfl))) Via.refl f132 d1_33 rfl fun T141 X142 => ?_
  refine w_iconst X142 d1_36 (v := (-1 : Int32)) rfl rfl ?_
  refine w_static0 X142 (rm_fill l Z a0 hw a36 (-1 : Int32) (0 : Int32) (0 : Int32) (0 : Int32) (0 : Int32) h129 n0 X142.size f137 gn38) (hw _ (List.mem_of_getElem? (i := 19) rfl)) (hw _ (List.mem_of_getElem? (i := 20) rfl)) (hw _ (List.mem_of_getElem? (i := 21) rfl)) (hw _ (List.mem_of_getElem? (i := 22) rfl)) (by decide) (argsL := [(.ref a36), (.int (-1 : Int32))]) (rest := []) rfl (lenOf pd_3 rfl) rfl (W := 0) rfl (by decide) (by decide) (by decide) (by decide) d1_37 rfl fun T143 h144 X145 q146 => ?_
  obtain ⟨K147, f148⟩ := q146
  have f149 : Exa Z h144 o1 "com/example/knotweave/knotweave/OpenNeeds" := f130.keep K147
  have f150 : Fld Z h144 o1 "com/example/knotweave/knotweave/OpenNeeds" "heap" "[I" (.ref a6) := f131.keep K147 (ninS ne41 nin0)
  have f151 : Fld Z h144 o1 "com/example/knotweave/knotweave/OpenNeeds" "placeOf" "[I" (.ref a36) := f132.keep K147 (ninS ne41 nin0)
  have f152 : Fld Z h144 o1 "com/example/knotweave/knotweave/OpenNeeds" "waysOf" "[I" (.ref a69) := f133.keep K147 (ninS ne41 nin0)
  have f153 : Fld Z h144 o1 "com/example/knotweave/knotweave/OpenNeeds" "rankOf" "[J" (.ref a105) := f134.keep K147 (ninS ne41 nin0)
  have f154 : Fld Z h144 o1 "com/example/knotweave/knotweave/OpenNeeds" "count" "I" (.int (0 : Int32)) := f135.keep K147 (ninS ne41 nin0)
  have f155 : AV Z h144 a6 .int [(.int (0 : Int32)), (.int (0 : Int32)), (.int (0 : Int32)), (.int (0 : Int32))] := f136.keep K147 (ninS ne42 nin0)
  have f156 : AV Z h144 a69 .int [(.int (0 : Int32)), (.int (0 : Int32)), (.int (0 : Int32)), (.int (0 : Int32))] := f138.keep K147 (ninS (Ne.symm ne76) nin0)
  have f157 : AV Z h144 a105 .long [(.long (0 : Int64)), (.long (0 : Int64)), (.long (0 : Int64)), (.long (0 : Int64))] := f139.keep K147 (ninS (Ne.symm ne112) nin0)
  have k158 : Keep h0 h144 [o1] := k140.trans K147 (allS (Or.inr g043) all0)
  obtain ⟨z159, hz159⟩ : ∃ z, z = (f_fill_o1_0 (-1 : Int32) (0 : Int32) (0 : Int32) (0 : Int32) (0 : Int32)) := ⟨_, rfl⟩
  obtain ⟨z160, hz160⟩ : ∃ z, z = (f_fill_o1_1 (-1 : Int32) (0 : Int32) (0 : Int32) (0 : Int32) (0 : Int32)) := ⟨_, rfl⟩
  obtain ⟨z161, hz161⟩ : ∃ z, z = (f_fill_o1_2 (-1 : Int32) (0 : Int32) (0 : Int32) (0 : Int32) (0 : Int32)) := ⟨_, rfl⟩
  obtain ⟨z162, hz162⟩ : ∃ z, z = (f_fill_o1_3 (-1 : Int32) (0 : Int32) (0 : Int32) (0 : Int32) (0 : Int32)) := ⟨_, rfl⟩
  have f163 : AV Z h144 a36 .int [(.int z159), (.int z160), (.int z161), (.int z162)] := by subst hz162 hz161 hz160 hz159; exact f148
  exact w_return X145 d1_40 rfl ⟨a6, a36, a69, a105, ⟨gn8, gn38, gn71, gn107⟩, ⟨g012, g043, g077, g0114⟩, ⟨ne11, ne41, ne74, ne110, ne42, ne75, ne111, ne76, ne112, ne113⟩, k158, (by subst hz162 hz161 hz160 hz159; exact ⟨f149, f150, f151, f152, f153, f154, f155, f163, f156, f157⟩)⟩ (by decide) (by decide)
def f_bit (p1 : Int32) : Int32 :=
  if p1 < 0 then (16 : Int32) else (if p1 < (4 : Int32) then ((1 : Int32) <<< (p1 &&& 31)) else (16 : Int32))
theorem d14_0 : decode method_4_code 0 = .ok (.iload_n 0, 1) := by decide +kernel
theorem d14_1 : decode method_4_code 1 = .ok (.ifCond .lt 12, 3) := by decide +kernel
theorem d14_4 : decode method_4_code 4 = .ok (.iload_n 0, 1) := by decide +kernel
theorem d14_5 : decode method_4_code 5 = .ok (.iconst 4, 1) := by decide +kernel
theorem d14_6 : decode method_4_code 6 = .ok (.if_icmp .ge 7, 3) := by decide +kernel
theorem d14_9 : decode method_4_code 9 = .ok (.iconst 1, 1) := by decide +kernel
theorem d14_10 : decode method_4_code 10 = .ok (.iload_n 0, 1) := by decide +kernel
theorem d14_11 : decode method_4_code 11 = .ok (.ishl, 1) := by decide +kernel
theorem d14_12 : decode method_4_code 12 = .ok (.ireturn, 1) := by decide +kernel
theorem d14_13 : decode method_4_code 13 = .ok (.bipush 16, 2) := by decide +kernel
theorem d14_15 : decode method_4_code 15 = .ok (.ireturn, 1) := by decide +kernel
theorem pn_14 : plainName "com/example/knotweave/knotweave/OpenNeedsRemovePinLaw" = true := by first | (simp [plainName, overriddenIn]; done) | decide +kernel
theorem ef_14 (m : MethodId) (p1 : Int32) : entryFrame m #[(.int p1)] 1 = mkF m 0 #[.val (.int p1)] [] := by first | (simp [entryFrame, mkF, argsToLocals, Value.category]; done) | rfl
set_option maxRecDepth 65536 in
set_option maxHeartbeats 4000000 in
theorem rm14 (l : Launch) (Z : State) (a0 : Array Value) (hw : ∀ d ∈ tables_1, d.before a0 Z = true) (p1 : Int32) (h0 : Heap) (n0 : Nat) (Z0 : n0 ≤ h0.size) :
    Con l Z (⟨"com/example/knotweave/knotweave/OpenNeedsRemovePinLaw", "bit", "(I)I"⟩ : MethodName) method_4_code 1 (some .int) ({ frames := 0, cells := 0, slots := 0, locals := 0 } : Room) #[(.int p1)] h0 n0 (some (.int (f_bit p1))) (fun h => h = h0) := by
  refine con_of (plainFor_of_name pn_14) Z0 (fun m => ef_14 m p1) ?_
  intro p e s m below meth c T0 X0
  refine w_iloadN X0 d14_0 rfl rfl ?_
  refine w_if_lt X0 d14_1 (by decide) (pcT := 13) (pcF := 4) (by decide) rfl (fun c1 => ?_) (fun c1 => ?_)
  · refine w_bipush X0 d14_13 (v := (16 : Int32)) rfl rfl ?_
    exact w_ireturn X0 d14_15 (by unfold f_bit; rw [if_pos c1]) rfl (by decide) (by decide)
  · refine w_iloadN X0 d14_4 rfl rfl ?_
    refine w_iconst X0 d14_5 (v := (4 : Int32)) rfl rfl ?_
    refine w_icmp_ge X0 d14_6 (by decide) (pcT := 13) (pcF := 9) (by decide) rfl (fun c2 => ?_) (fun c2 => ?_)
    · refine w_bipush X0 d14_13 (v := (16 : Int32)) rfl rfl ?_
      exact w_ireturn X0 d14_15 (by unfold f_bit; rw [if_neg c1, if_neg c2]) rfl (by decide) (by decide)
    · refine w_iconst X0 d14_9 (v := (1 : Int32)) rfl rfl ?_
      refine w_iloadN X0 d14_10 rfl rfl ?_
      refine w_ishl X0 d14_11 rfl ?_
      exact w_ireturn X0 d14_12 (by unfold f_bit; rw [if_neg c1, if_pos c2]) rfl (by decide) (by decide)
def sixteen : List Int32 := [0, 1, 2, 3, 4, 5, 6, 7, 8, 9, 10, 11, 12, 13, 14, 15]
def perms : List (List Int32) := S4.filter fun h => okb h 4
def bk (κ : List Int32) (a b : Int32) : Int32 := if g4 κ a < g4 κ b then 1 else 0
def z4 : List Int32 := [0, 0, 0, 0]
def t1H (bf : Int32 → Int32 → Int32) (o : Int32) : List Int32 := if (o &&& (1 : Int32)) = 0 then z4 else putH bf z4 (0 : Int32) (0 : Int32)
def t1C (o : Int32) : Int32 := if (o &&& (1 : Int32)) = 0 then (0 : Int32) else putC z4 (0 : Int32) (0 : Int32)
def t2H (bf : Int32 → Int32 → Int32) (o : Int32) : List Int32 := if (o &&& (2 : Int32)) = 0 then t1H bf o else putH bf (t1H bf o) (t1C o) (1 : Int32)
def t2C (bf : Int32 → Int32 → Int32) (o : Int32) : Int32 := if (o &&& (2 : Int32)) = 0 then t1C o else putC (t1H bf o) (t1C o) (1 : Int32)
def t3H (bf : Int32 → Int32 → Int32) (o : Int32) : List Int32 := if (o &&& (4 : Int32)) = 0 then t2H bf o else putH bf (t2H bf o) (t2C bf o) (2 : Int32)
def t3C (bf : Int32 → Int32 → Int32) (o : Int32) : Int32 := if (o &&& (4 : Int32)) = 0 then t2C bf o else putC (t2H bf o) (t2C bf o) (2 : Int32)
def t4H (bf : Int32 → Int32 → Int32) (o : Int32) : List Int32 := if (o &&& (8 : Int32)) = 0 then t3H bf o else putH bf (t3H bf o) (t3C bf o) (3 : Int32)
def t4C (bf : Int32 → Int32 → Int32) (o : Int32) : Int32 := if (o &&& (8 : Int32)) = 0 then t3C bf o else putC (t3H bf o) (t3C bf o) (3 : Int32)
def f_pkB (bf : Int32 → Int32 → Int32) (m i rem : Int32) : Int32 := if ((rem >>> (i &&& 31)) &&& (1 : Int32)) = 0 then m else (if m < 0 then i else (if bf i m = 0 then m else i))
def remO (o k : Int32) : Int32 := o &&& (((1 : Int32) <<< (k &&& 31)) ^^^ (-1 : Int32))
def cntO (r : Int32) : Int32 := (((r &&& (1 : Int32)) + ((r >>> ((1 : Int32) &&& 31)) &&& (1 : Int32))) + ((r >>> ((2 : Int32) &&& 31)) &&& (1 : Int32))) + ((r >>> ((3 : Int32) &&& 31)) &&& (1 : Int32))
def minO (bf : Int32 → Int32 → Int32) (r : Int32) : Int32 := f_pkB bf (f_pkB bf (f_pkB bf (f_pkB bf (-1 : Int32) (0 : Int32) r) (1 : Int32) r) (2 : Int32) r) (3 : Int32) r
def ac1 (hs : List Int32) (n : Int32) : Int32 := if 0 < n then (0 : Int32) ||| f_bit (hs.getD ((0 : Int32)).toNatClampNeg 0) else (0 : Int32)
def ac2 (hs : List Int32) (n : Int32) : Int32 := if (1 : Int32) < n then ac1 hs n ||| f_bit (hs.getD ((1 : Int32)).toNatClampNeg 0) else ac1 hs n
def ac3 (hs : List Int32) (n : Int32) : Int32 := if (2 : Int32) < n then ac2 hs n ||| f_bit (hs.getD ((2 : Int32)).toNatClampNeg 0) else ac2 hs n
def ckS (bf : Int32 → Int32 → Int32) (r k : Int32) (hs : List Int32) (c : Int32) : Bool := decide (c = cntO r) && decide ((plc hs c).getD (k).toNatClampNeg 0 < 0) && (decide (¬ 0 < cntO r) || decide (hs.getD ((0 : Int32)).toNatClampNeg 0 = minO bf r)) && decide (ac3 hs (cntO r) = r)
def ckR (bf : Int32 → Int32 → Int32) (o : Int32) (hs : List Int32) (c : Int32) : Bool := four.all fun k => ckS bf (remO o k) k (remH bf hs c k) (remC hs c k)
theorem DCK : ∀ κ ∈ perms, ∀ o ∈ sixteen, ckR (bk κ) o (t4H (bk κ) o) (t4C (bk κ) o) = true := by decide +kernel
theorem bf_iff (ws : List Int32) (rs : List Int64) (a b : Int32) : f_bf ws rs a b = 1 ↔ ((ws.getD (a).toNatClampNeg 0).toInt < (ws.getD (b).toNatClampNeg 0).toInt ∨ ((ws.getD (a).toNatClampNeg 0).toInt = (ws.getD (b).toNatClampNeg 0).toInt ∧ (rs.getD (a).toNatClampNeg 0).toInt < (rs.getD (b).toNatClampNeg 0).toInt)) := by
  unfold f_bf
  simp only [Int32.lt_iff_toInt_lt, Int64.lt_iff_toInt_lt]
  by_cases c1 : (ws.getD (a).toNatClampNeg 0).toInt < (ws.getD (b).toNatClampNeg 0).toInt
  · rw [if_pos c1]; exact ⟨fun _ => Or.inl c1, fun _ => rfl⟩
  · rw [if_neg c1]
    by_cases c2 : (ws.getD (a).toNatClampNeg 0) = (ws.getD (b).toNatClampNeg 0)
    · rw [if_pos c2]
      by_cases c3 : (rs.getD (a).toNatClampNeg 0).toInt < (rs.getD (b).toNatClampNeg 0).toInt
      · rw [if_pos c3]; exact ⟨fun _ => Or.inr ⟨by rw [c2], c3⟩, fun _ => rfl⟩
      · rw [if_neg c3]; exact ⟨fun q => absurd q (by decide), fun q => by omega⟩
    · rw [if_neg c2]
      have n : (ws.getD (a).toNatClampNeg 0).toInt ≠ (ws.getD (b).toNatClampNeg 0).toInt := fun r => c2 (Int32.toInt_inj.mp r)
      exact ⟨fun q => absurd q (by decide), fun q => by omega⟩
theorem bf_01 (ws : List Int32) (rs : List Int64) (a b : Int32) : f_bf ws rs a b = 0 ∨ f_bf ws rs a b = 1 := by
  unfold f_bf
  split
  · exact Or.inr rfl
  · split
    · split
      · exact Or.inr rfl
      · exact Or.inl rfl
    · exact Or.inl rfl
def bi (x : Bool) : Int32 := if x then 1 else 0
def tri (x y z : Bool) : Bool := !(x && y && !z) && !(!x && !y && z)
theorem FK : ∀ x01 x02 x03 x12 x13 x23 : Bool, (tri x01 x12 x02 && tri x01 x13 x03 && tri x02 x23 x03 && tri x12 x23 x13) = true → (perms.any fun κ => decide (bk κ 0 1 = bi x01 ∧ bk κ 1 0 = bi (!x01) ∧ bk κ 0 2 = bi x02 ∧ bk κ 2 0 = bi (!x02) ∧ bk κ 0 3 = bi x03 ∧ bk κ 3 0 = bi (!x03) ∧ bk κ 1 2 = bi x12 ∧ bk κ 2 1 = bi (!x12) ∧ bk κ 1 3 = bi x13 ∧ bk κ 3 1 = bi (!x13) ∧ bk κ 2 3 = bi x23 ∧ bk κ 3 2 = bi (!x23) ∧ bk κ 0 0 = 0 ∧ bk κ 1 1 = 0 ∧ bk κ 2 2 = 0 ∧ bk κ 3 3 = 0)) = true := by decide +kernel
theorem bf_b (ws : List Int32) (rs : List Int64) (a b : Int32) : f_bf ws rs a b = bi (decide (f_bf ws rs a b = 1)) := by
  rcases bf_01 ws rs a b with q | q <;> rw [q] <;> decide
theorem bf_not (ws : List Int32) (rs : List Int64) (a b : Int32) (h : (rs.getD (a).toNatClampNeg 0).toInt ≠ (rs.getD (b).toNatClampNeg 0).toInt) : f_bf ws rs b a = bi (!decide (f_bf ws rs a b = 1)) := by
  have e1 := bf_iff ws rs a b; have e2 := bf_iff ws rs b a
  by_cases c : f_bf ws rs a b = 1
  · have n : ¬ f_bf ws rs b a = 1 := fun q => by have := e1.mp c; have := e2.mp q; omega
    rcases bf_01 ws rs b a with q | q
    · rw [q]; simp [c, bi]
    · exact absurd q n
  · have n : f_bf ws rs b a = 1 := e2.mpr (by have := mt e1.mpr c; omega)
    rw [n]; simp [c, bi]
theorem bf_self (ws : List Int32) (rs : List Int64) (a : Int32) : f_bf ws rs a a = 0 := by
  rcases bf_01 ws rs a a with q | q
  · exact q
  · have := (bf_iff ws rs a a).mp q; omega
theorem bf_tri (ws : List Int32) (rs : List Int64) (a b c : Int32) (h1 : (rs.getD (a).toNatClampNeg 0).toInt ≠ (rs.getD (b).toNatClampNeg 0).toInt) (h2 : (rs.getD (b).toNatClampNeg 0).toInt ≠ (rs.getD (c).toNatClampNeg 0).toInt) (h3 : (rs.getD (a).toNatClampNeg 0).toInt ≠ (rs.getD (c).toNatClampNeg 0).toInt) : tri (decide (f_bf ws rs a b = 1)) (decide (f_bf ws rs b c = 1)) (decide (f_bf ws rs a c = 1)) = true := by
  have e1 := bf_iff ws rs a b; have e2 := bf_iff ws rs b c; have e3 := bf_iff ws rs a c
  by_cases c1 : f_bf ws rs a b = 1 <;> by_cases c2 : f_bf ws rs b c = 1 <;> by_cases c3 : f_bf ws rs a c = 1 <;> simp [tri, c1, c2, c3]
  · have := e1.mp c1; have := e2.mp c2; exact c3 (e3.mpr (by omega))
  · have := e3.mp c3; have a1 := mt e1.mpr c1; have a2 := mt e2.mpr c2; omega
theorem own_idx (ws : List Int32) (rs : List Int64) (κ : List Int32) (a b a' b' : Int32) (h1 : a.toNatClampNeg = a'.toNatClampNeg) (h2 : b.toNatClampNeg = b'.toNatClampNeg) (h : f_bf ws rs a' b' = bk κ a' b') : f_bf ws rs a b = bk κ a b := by
  unfold f_bf bk g4 at *
  rw [h1, h2]; exact h
theorem own_kappa (ws : List Int32) (rs : List Int64) (hd : ∀ a ∈ four, ∀ b ∈ four, a ≠ b → (rs.getD (a).toNatClampNeg 0).toInt ≠ (rs.getD (b).toNatClampNeg 0).toInt) : ∃ κ ∈ perms, ∀ a b : Int32, a.toNatClampNeg < 4 → b.toNatClampNeg < 4 → f_bf ws rs a b = bk κ a b := by
  have d : ∀ a b : Int32, a ∈ four → b ∈ four → a ≠ b → (rs.getD (a).toNatClampNeg 0).toInt ≠ (rs.getD (b).toNatClampNeg 0).toInt := fun a b p q r => hd a p b q r
  have d01 := d 0 1 (by decide) (by decide) (by decide); have d02 := d 0 2 (by decide) (by decide) (by decide); have d03 := d 0 3 (by decide) (by decide) (by decide)
  have d12 := d 1 2 (by decide) (by decide) (by decide); have d13 := d 1 3 (by decide) (by decide) (by decide); have d23 := d 2 3 (by decide) (by decide) (by decide)
  have fk := FK (decide (f_bf ws rs 0 1 = 1)) (decide (f_bf ws rs 0 2 = 1)) (decide (f_bf ws rs 0 3 = 1)) (decide (f_bf ws rs 1 2 = 1)) (decide (f_bf ws rs 1 3 = 1)) (decide (f_bf ws rs 2 3 = 1)) (by
    rw [bf_tri ws rs 0 1 2 d01 d12 d02, bf_tri ws rs 0 1 3 d01 d13 d03, bf_tri ws rs 0 2 3 d02 d23 d03, bf_tri ws rs 1 2 3 d12 d23 d13]; rfl)
  obtain ⟨κ, hκ, fk⟩ := List.any_eq_true.mp fk
  obtain ⟨e01, e10, e02, e20, e03, e30, e12, e21, e13, e31, e23, e32, e00, e11, e22, e33⟩ := of_decide_eq_true fk
  have key : ∀ a ∈ four, ∀ b ∈ four, f_bf ws rs a b = bk κ a b := by
    intro a ha b hb
    simp only [four, List.mem_cons, List.not_mem_nil, or_false] at ha hb
    rcases ha with rfl | rfl | rfl | rfl <;> rcases hb with rfl | rfl | rfl | rfl
    · rw [bf_self, e00]
    · rw [e01, ← bf_b]
    · rw [e02, ← bf_b]
    · rw [e03, ← bf_b]
    · rw [e10, ← bf_not _ _ _ _ d01]
    · rw [bf_self, e11]
    · rw [e12, ← bf_b]
    · rw [e13, ← bf_b]
    · rw [e20, ← bf_not _ _ _ _ d02]
    · rw [e21, ← bf_not _ _ _ _ d12]
    · rw [bf_self, e22]
    · rw [e23, ← bf_b]
    · rw [e30, ← bf_not _ _ _ _ d03]
    · rw [e31, ← bf_not _ _ _ _ d13]
    · rw [e32, ← bf_not _ _ _ _ d23]
    · rw [bf_self, e33]
  have nat4 : ∀ i : Fin 4, (Int32.ofNat i.val).toNatClampNeg = i.val ∧ Int32.ofNat i.val ∈ four := by decide
  refine ⟨κ, hκ, fun a b ha hb => ?_⟩
  obtain ⟨i1, i2⟩ := nat4 ⟨_, ha⟩; obtain ⟨j1, j2⟩ := nat4 ⟨_, hb⟩
  exact own_idx ws rs κ a b _ _ i1.symm j1.symm (key _ i2 _ j2)
def JJ (m ws : List Int32) (rs : List Int64) (WS : List Int32) (RS : List Int64) : Prop := ∀ i : Nat, m.getD i 0 = 1 → ws.getD i 0 = WS.getD i 0 ∧ rs.getD i 0 = RS.getD i 0
theorem own_hb (m ws : List Int32) (rs : List Int64) (WS : List Int32) (RS : List Int64) (κ : List Int32) (hl : m.length = 4) (J : JJ m ws rs WS RS) (HB : ∀ a b : Int32, a.toNatClampNeg < 4 → b.toNatClampNeg < 4 → f_bf WS RS a b = bk κ a b) : ∀ a b, g4 m a = 1 → g4 m b = 1 → f_bf ws rs a b = bk κ a b := by
  have lt : ∀ a, g4 m a = 1 → a.toNatClampNeg < 4 := fun a h => by
    refine Nat.lt_of_not_le fun q => ?_
    rw [g4, List.getD_eq_getElem?_getD, List.getElem?_eq_none (by omega)] at h
    exact absurd h (by decide)
  intro a b ha hb
  obtain ⟨p1, p2⟩ := J _ ha; obtain ⟨q1, q2⟩ := J _ hb
  have k := HB a b (lt a ha) (lt b hb)
  rw [← k]; unfold f_bf; rw [p1, q1, p2, q2]
theorem getD_set (L : List Int32) (x i : Nat) (v : Int32) (h : x < L.length) : (L.set x v).getD i 0 = if i = x then v else L.getD i 0 := by
  by_cases c : i = x
  · rw [if_pos c, c]; exact get_set L x v h
  · rw [if_neg c]; exact get_set_ne L x i v (fun q => c q.symm)
theorem getD_setL (L : List Int64) (x i : Nat) (v : Int64) (h : x < L.length) : (L.set x v).getD i 0 = if i = x then v else L.getD i 0 := by
  rw [List.getD_eq_getElem?_getD, List.getElem?_set]
  by_cases c : i = x
  · rw [if_pos c, if_pos c.symm, if_pos h]; rfl
  · rw [if_neg c, if_neg (fun q => c q.symm), ← List.getD_eq_getElem?_getD]
theorem J_put (m ws : List Int32) (rs : List Int64) (WS : List Int32) (RS : List Int64) (x : Int32) (hx : x ∈ four) (lm : m.length = 4) (lw : ws.length = 4) (lr : rs.length = 4) (J : JJ m ws rs WS RS) : JJ (m.set x.toNatClampNeg 1) (ws.set x.toNatClampNeg (WS.getD x.toNatClampNeg 0)) (rs.set x.toNatClampNeg (RS.getD x.toNatClampNeg 0)) WS RS := by
  intro i hi
  have hx4 := (D0 _ hx).2.1
  rw [getD_set _ _ _ _ (by omega)] at hi
  rw [getD_set _ _ _ _ (by omega), getD_setL _ _ _ _ (by omega)]
  by_cases c : i = x.toNatClampNeg
  · rw [if_pos c, if_pos c, c]; exact ⟨rfl, rfl⟩
  · rw [if_neg c] at hi; rw [if_neg c, if_neg c]; exact J i hi
theorem J_rem (m ws : List Int32) (rs : List Int64) (WS : List Int32) (RS : List Int64) (x : Int32) (hx : x ∈ four) (lm : m.length = 4) (J : JJ m ws rs WS RS) : JJ (m.set x.toNatClampNeg 0) ws rs WS RS := by
  intro i hi
  have hx4 := (D0 _ hx).2.1
  rw [getD_set _ _ _ _ (by omega)] at hi
  by_cases c : i = x.toNatClampNeg
  · rw [if_pos c] at hi; exact absurd hi (by decide)
  · rw [if_neg c] at hi; exact J i hi
theorem pk_in (bf : Int32 → Int32 → Int32) (m i r : Int32) (hm : m < 0 ∨ m ∈ four) (hi : i ∈ four) : f_pkB bf m i r < 0 ∨ f_pkB bf m i r ∈ four := by
  unfold f_pkB; split
  · exact hm
  · split
    · exact Or.inr hi
    · split
      · exact hm
      · exact Or.inr hi
theorem own_16 (x : Int32) : x &&& (15 : Int32) ∈ sixteen := by
  obtain ⟨q1, q2⟩ := c_and x 15 (by decide)
  have e : (15 : Int32).toInt = 15 := by decide
  obtain ⟨k, hk⟩ := own_fin (x &&& 15) 16 q1 (by omega)
  rw [hk]; clear hk q1 q2; revert k; decide
theorem own_rk : ∀ p ∈ four, ∀ a ∈ four, ∀ b ∈ four, a ≠ b → ((a ^^^ p).toInt64 ≠ (b ^^^ p).toInt64) := by decide +kernel
theorem own_ck (κ : List Int32) (hκ : κ ∈ perms) (o k : Int32) (ho : o ∈ sixteen) (hk : k ∈ four) (hs : List Int32) (c : Int32) (hh : hs = remH (bk κ) (t4H (bk κ) o) (t4C (bk κ) o) k) (hc : c = remC (t4H (bk κ) o) (t4C (bk κ) o) k) :
    c = cntO (remO o k) ∧ (plc hs c).getD (k).toNatClampNeg 0 < 0 ∧ (0 < cntO (remO o k) → hs.getD ((0 : Int32)).toNatClampNeg 0 = minO (bk κ) (remO o k)) ∧ ac3 hs (cntO (remO o k)) = remO o k := by
  have h := DCK κ hκ o ho
  have h := List.all_eq_true.mp h k hk
  rw [← hh, ← hc] at h
  simp only [ckS, Bool.and_eq_true, decide_eq_true_eq, Bool.or_eq_true] at h
  obtain ⟨⟨⟨a1, a2⟩, a3⟩, a4⟩ := h
  exact ⟨a1, a2, fun q => a3.resolve_left (fun r => r q), a4⟩
theorem J0 (ws : List Int32) (rs : List Int64) (WS : List Int32) (RS : List Int64) : JJ (mm z4 (0 : Int32)) ws rs WS RS := by
  intro i hi
  rw [show mm z4 (0 : Int32) = [0, 0, 0, 0] from by decide +kernel] at hi
  match i with
  | 0 => exact absurd hi (by decide)
  | 1 => exact absurd hi (by decide)
  | 2 => exact absurd hi (by decide)
  | 3 => exact absurd hi (by decide)
  | n + 4 => exact absurd (show (0 : Int32) = 1 from hi) (by decide)
theorem own_rd (b x y : Int64) (h : (b + x).toInt = (b + y).toInt) : x = y := by
  have e := Int64.toInt_inj.mp h
  have : b + x - b = b + y - b := by rw [e]
  rwa [Int64.add_comm b x, Int64.add_comm b y, Int64.add_sub_cancel, Int64.add_sub_cancel] at this
theorem own_dist (RS : List Int64) (b : Int64) (p : Int32) (hp : p ∈ four) (hr : ∀ a ∈ four, RS.getD (a).toNatClampNeg 0 = b + (a ^^^ p).toInt64) : ∀ a ∈ four, ∀ c ∈ four, a ≠ c → (RS.getD (a).toNatClampNeg 0).toInt ≠ (RS.getD (c).toNatClampNeg 0).toInt := by
  intro a ha c hc hne q
  rw [hr a ha, hr c hc] at q
  exact own_rk p hp a ha c hc hne (own_rd _ _ _ q)
theorem d9_0 : decode method_3_code 0 = .ok (.iload_n 2, 1) := by decide +kernel
theorem d9_1 : decode method_3_code 1 = .ok (.iload_n 1, 1) := by decide +kernel
theorem d9_2 : decode method_3_code 2 = .ok (.ishr, 1) := by decide +kernel
theorem d9_3 : decode method_3_code 3 = .ok (.iconst 1, 1) := by decide +kernel
theorem d9_4 : decode method_3_code 4 = .ok (.iand, 1) := by decide +kernel
theorem d9_5 : decode method_3_code 5 = .ok (.ifCond .ne 5, 3) := by decide +kernel
theorem d9_8 : decode method_3_code 8 = .ok (.iload_n 0, 1) := by decide +kernel
theorem d9_9 : decode method_3_code 9 = .ok (.ireturn, 1) := by decide +kernel
theorem d9_10 : decode method_3_code 10 = .ok (.iload_n 0, 1) := by decide +kernel
theorem d9_11 : decode method_3_code 11 = .ok (.ifCond .ge 5, 3) := by decide +kernel
theorem d9_14 : decode method_3_code 14 = .ok (.iload_n 1, 1) := by decide +kernel
theorem d9_15 : decode method_3_code 15 = .ok (.ireturn, 1) := by decide +kernel
theorem d9_16 : decode method_3_code 16 = .ok (.aload_n 3, 1) := by decide +kernel
theorem d9_17 : decode method_3_code 17 = .ok (.iload_n 1, 1) := by decide +kernel
theorem d9_18 : decode method_3_code 18 = .ok (.iaload, 1) := by decide +kernel
theorem d9_19 : decode method_3_code 19 = .ok (.aload_n 3, 1) := by decide +kernel
theorem d9_20 : decode method_3_code 20 = .ok (.iload_n 0, 1) := by decide +kernel
theorem d9_21 : decode method_3_code 21 = .ok (.iaload, 1) := by decide +kernel
theorem d9_22 : decode method_3_code 22 = .ok (.if_icmp .lt 24, 3) := by decide +kernel
theorem d9_25 : decode method_3_code 25 = .ok (.aload_n 3, 1) := by decide +kernel
theorem d9_26 : decode method_3_code 26 = .ok (.iload_n 1, 1) := by decide +kernel
theorem d9_27 : decode method_3_code 27 = .ok (.iaload, 1) := by decide +kernel
theorem d9_28 : decode method_3_code 28 = .ok (.aload_n 3, 1) := by decide +kernel
theorem d9_29 : decode method_3_code 29 = .ok (.iload_n 0, 1) := by decide +kernel
theorem d9_30 : decode method_3_code 30 = .ok (.iaload, 1) := by decide +kernel
theorem d9_31 : decode method_3_code 31 = .ok (.if_icmp .ne 17, 3) := by decide +kernel
theorem d9_34 : decode method_3_code 34 = .ok (.aload 4, 2) := by decide +kernel
theorem d9_36 : decode method_3_code 36 = .ok (.iload_n 1, 1) := by decide +kernel
theorem d9_37 : decode method_3_code 37 = .ok (.laload, 1) := by decide +kernel
theorem d9_38 : decode method_3_code 38 = .ok (.aload 4, 2) := by decide +kernel
theorem d9_40 : decode method_3_code 40 = .ok (.iload_n 0, 1) := by decide +kernel
theorem d9_41 : decode method_3_code 41 = .ok (.laload, 1) := by decide +kernel
theorem d9_42 : decode method_3_code 42 = .ok (.lcmp, 1) := by decide +kernel
theorem d9_43 : decode method_3_code 43 = .ok (.ifCond .ge 5, 3) := by decide +kernel
theorem d9_46 : decode method_3_code 46 = .ok (.iload_n 1, 1) := by decide +kernel
theorem d9_47 : decode method_3_code 47 = .ok (.ireturn, 1) := by decide +kernel
theorem d9_48 : decode method_3_code 48 = .ok (.iload_n 0, 1) := by decide +kernel
theorem d9_49 : decode method_3_code 49 = .ok (.ireturn, 1) := by decide +kernel
theorem pn_9 : plainName "com/example/knotweave/knotweave/OpenNeedsRemovePinLaw" = true := by first | (simp [plainName, overriddenIn]; done) | decide +kernel
theorem ef_9 (m : MethodId) (p1 : Int32) (p2 : Int32) (p3 : Int32) (o4 : Addr) (o5 : Addr) : entryFrame m #[(.int p1), (.int p2), (.int p3), (.ref o4), (.ref o5)] 5 = mkF m 0 #[.val (.int p1), .val (.int p2), .val (.int p3), .val (.ref o4), .val (.ref o5)] [] := by first | (simp [entryFrame, mkF, argsToLocals, Value.category]; done) | rfl
set_option maxRecDepth 65536 in
set_option maxHeartbeats 4000000 in
theorem rm_pick (l : Launch) (Z : State) (a0 : Array Value) (hw : ∀ d ∈ tables_1, d.before a0 Z = true) (p1 : Int32) (p2 : Int32) (p3 : Int32) (o4 : Addr) (o5 : Addr) (ws : List Int32) (rs : List Int64) (bf : Int32 → Int32 → Int32) (h0 : Heap) (n0 : Nat) (Z0 : n0 ≤ h0.size) (A_w : AV Z h0 o4 .int (ws.map Value.int)) (A_r : AV Z h0 o5 .long (rs.map Value.long)) (hb : ∀ a b : Int32, a.toNatClampNeg < 4 → b.toNatClampNeg < 4 → f_bf ws rs a b = bf a b) (hi : p2 ∈ four) (hm : p1 < 0 ∨ p1 ∈ four) (lw : ws.length = 4) (lr : rs.length = 4) :
    Con l Z (⟨"com/example/knotweave/knotweave/OpenNeedsRemovePinLaw", "pick", "(III[I[J)I"⟩ : MethodName) method_3_code 5 (some .int) ({ frames := 0, cells := 0, slots := 0, locals := 0 } : Room) #[(.int p1), (.int p2), (.int p3), (.ref o4), (.ref o5)] h0 n0 (some (.int (f_pkB bf p1 p2 p3))) (fun h => h = h0) := by
  refine con_of (plainFor_of_name pn_9) Z0 (fun m => ef_9 m p1 p2 p3 o4 o5) ?_
  intro p e s m below meth c T0 X0
  refine w_iloadN X0 d9_0 rfl rfl ?_
  refine w_iloadN X0 d9_1 rfl rfl ?_
  refine w_ishr X0 d9_2 rfl ?_
  refine w_iconst X0 d9_3 (v := (1 : Int32)) rfl rfl ?_
  refine w_iand X0 d9_4 rfl ?_
  refine w_if_ne X0 d9_5 (by decide) (pcT := 10) (pcF := 8) (by decide) rfl (fun c1 => ?_) (fun c1 => ?_)
  · refine w_iloadN X0 d9_10 rfl rfl ?_
    refine w_if_ge X0 d9_11 (by decide) (pcT := 16) (pcF := 14) (by decide) rfl (fun c2 => ?_) (fun c2 => ?_)
    · refine w_aloadN X0 d9_16 rfl rfl rfl ?_
      refine w_iloadN X0 d9_17 rfl rfl ?_
      refine w_iaload X0 A_w (D0 _ hi).1 rfl (getI (by rw [lw]; exact (D0 _ hi).2.1)) d9_18 rfl ?_
      refine w_aloadN X0 d9_19 rfl rfl rfl ?_
      refine w_iloadN X0 d9_20 rfl rfl ?_
      refine w_iaload X0 A_w (D0 _ (hm.resolve_left c2)).1 rfl (getI (by rw [lw]; exact (D0 _ (hm.resolve_left c2)).2.1)) d9_21 rfl ?_
      refine w_icmp_lt X0 d9_22 (by decide) (pcT := 46) (pcF := 25) (by decide) rfl (fun c3 => ?_) (fun c3 => ?_)
      · refine w_iloadN X0 d9_46 rfl rfl ?_
        refine w_ireturn X0 d9_47 ?_ rfl (by decide) (by decide)
        have e : f_bf ws rs p2 p1 = 1 := by unfold f_bf; rw [if_pos c3]
        rw [f_pkB, if_neg c1, if_neg c2, ← hb _ _ (D0 _ hi).2.1 (D0 _ (hm.resolve_left c2)).2.1, e]; rfl
      · refine w_aloadN X0 d9_25 rfl rfl rfl ?_
        refine w_iloadN X0 d9_26 rfl rfl ?_
        refine w_iaload X0 A_w (D0 _ hi).1 rfl (getI (by rw [lw]; exact (D0 _ hi).2.1)) d9_27 rfl ?_
        refine w_aloadN X0 d9_28 rfl rfl rfl ?_
        refine w_iloadN X0 d9_29 rfl rfl ?_
        refine w_iaload X0 A_w (D0 _ (hm.resolve_left c2)).1 rfl (getI (by rw [lw]; exact (D0 _ (hm.resolve_left c2)).2.1)) d9_30 rfl ?_
        refine w_icmp_ne X0 d9_31 (by decide) (pcT := 48) (pcF := 34) (by decide) rfl (fun c4 => ?_) (fun c4 => ?_)
        · refine w_iloadN X0 d9_48 rfl rfl ?_
          refine w_ireturn X0 d9_49 ?_ rfl (by decide) (by decide)
          have e : f_bf ws rs p2 p1 = 0 := by unfold f_bf; rw [if_neg c3, if_neg c4]
          rw [f_pkB, if_neg c1, if_neg c2, ← hb _ _ (D0 _ hi).2.1 (D0 _ (hm.resolve_left c2)).2.1, e]; rfl
        · refine w_aload X0 d9_34 rfl rfl rfl ?_
          refine w_iloadN X0 d9_36 rfl rfl ?_
          refine w_laload X0 A_r (D0 _ hi).1 rfl (getL (by rw [lr]; exact (D0 _ hi).2.1)) d9_37 rfl ?_
          refine w_aload X0 d9_38 rfl rfl rfl ?_
          refine w_iloadN X0 d9_40 rfl rfl ?_
          refine w_laload X0 A_r (D0 _ (hm.resolve_left c2)).1 rfl (getL (by rw [lr]; exact (D0 _ (hm.resolve_left c2)).2.1)) d9_41 rfl ?_
          refine w_lcmp_ge X0 d9_42 rfl d9_43 (by decide) (pcT := 48) (pcF := 46) (by decide) rfl (fun c5 => ?_) (fun c5 => ?_)
          · refine w_iloadN X0 d9_48 rfl rfl ?_
            refine w_ireturn X0 d9_49 ?_ rfl (by decide) (by decide)
            have e : f_bf ws rs p2 p1 = 0 := by unfold f_bf; rw [if_neg c3, if_pos c4, if_neg c5]
            rw [f_pkB, if_neg c1, if_neg c2, ← hb _ _ (D0 _ hi).2.1 (D0 _ (hm.resolve_left c2)).2.1, e]; rfl
          · refine w_iloadN X0 d9_46 rfl rfl ?_
            refine w_ireturn X0 d9_47 ?_ rfl (by decide) (by decide)
            have e : f_bf ws rs p2 p1 = 1 := by unfold f_bf; rw [if_neg c3, if_pos c4, if_pos c5]
            rw [f_pkB, if_neg c1, if_neg c2, ← hb _ _ (D0 _ hi).2.1 (D0 _ (hm.resolve_left c2)).2.1, e]; rfl
    · refine w_iloadN X0 d9_14 rfl rfl ?_
      refine w_ireturn X0 d9_15 ?_ rfl (by decide) (by decide)
      rw [f_pkB, if_neg c1, if_pos c2]
  · refine w_iloadN X0 d9_8 rfl rfl ?_
    refine w_ireturn X0 d9_9 ?_ rfl (by decide) (by decide)
    rw [f_pkB, if_pos c1]
theorem pd_4 : parseMethodDescriptor "(IIJ)V" = some ⟨[.int, .int, .long], none⟩ := by decide +kernel
theorem pd_5 : parseMethodDescriptor "(III[I[J)I" = some ⟨[.int, .int, .int, (.array .int), (.array .long)], some .int⟩ := by decide +kernel
theorem pd_6 : parseMethodDescriptor "()I" = some ⟨[], some .int⟩ := by decide +kernel
theorem pd_7 : parseMethodDescriptor "(I)Z" = some ⟨[.int], some .boolean⟩ := by decide +kernel
theorem pd_8 : parseMethodDescriptor "(I)I" = some ⟨[.int], some .int⟩ := by decide +kernel
theorem pn_0 : plainName "com/example/knotweave/knotweave/OpenNeedsRemovePinLaw" = true := by first | (simp [plainName, overriddenIn]; done) | decide +kernel
theorem ef_0 (m : MethodId) (p1 : Int32) (p2 : Int32) (p3 : Int32) (p4 : Int32) (q5 : Int64) : entryFrame m #[(.int p1), (.int p2), (.int p3), (.int p4), (.long q5)] maxLocals = mkF m 0 #[.val (.int p1), .val (.int p2), .val (.int p3), .val (.int p4), .val (.long q5), .second, .unset, .unset, .unset, .unset, .unset, .unset, .unset, .unset, .unset, .unset, .unset] [] := by first | (simp [entryFrame, mkF, argsToLocals, Value.category, maxLocals]; done) | rfl
set_option maxRecDepth 65536 in
set_option maxHeartbeats 40000000 in
theorem rm0 (l : Launch) (Z : State) (a0 : Array Value) (hw : ∀ d ∈ tables_1, d.before a0 Z = true) (p1 : Int32) (p2 : Int32) (p3 : Int32) (p4 : Int32) (q5 : Int64) (h0 : Heap) (n0 : Nat) (Z0 : n0 ≤ h0.size) :
    Con l Z x code maxLocals ret room_1 #[(.int p1), (.int p2), (.int p3), (.int p4), (.long q5)] h0 n0 (some (.int 1)) (fun _ => True) := by
  refine con_of (plainFor_of_name pn_0) Z0 (fun m => ef_0 m p1 p2 p3 p4 q5) ?_
  intro p e s m below meth c T0 X0
  refine w_iloadN X0 at_0 rfl rfl ?_
  refine w_iconst X0 at_1 (v := (3 : Int32)) rfl rfl ?_
  refine w_iand X0 at_2 rfl ?_
  generalize hz1 : (p2 &&& (3 : Int32)) = z1
  refine w_istore X0 at_3 rfl (L' := #[.val (.int p1), .val (.int p2), .val (.int p3), .val (.int p4), .val (.long q5), .second, .val (.int z1), .unset, .unset, .unset, .unset, .unset, .unset, .unset, .unset, .unset, .unset]) rfl ?_
  refine w_iconst X0 at_5 (v := (4 : Int32)) rfl rfl ?_
  refine w_newP X0 (hw _ (List.mem_of_getElem? (i := 0) rfl)) (by decide) (k := 4) (by decide) (cap := 4) (by decide) (by decide) (by decide) (by decide) at_6 rfl fun T2 h4 a5 X3 ga6 gn7 E8 A9 => ?_
  have g010 : h0.size ≤ a5 := by rw [ga6]; exact (Keep.refl h0 []).1
  have k11 : Keep h0 h4 [] := (Keep.refl h0 []).ext E8
  have f12 : AV Z h4 a5 .int [(.int (0 : Int32)), (.int (0 : Int32)), (.int (0 : Int32)), (.int (0 : Int32))] := A9
  refine w_astore X3 at_8 rfl rfl (L' := #[.val (.int p1), .val (.int p2), .val (.int p3), .val (.int p4), .val (.long q5), .second, .val (.int z1), .val (.ref a5), .unset, .unset, .unset, .unset, .unset, .unset, .unset, .unset, .unset]) rfl ?_
  refine w_iconst X3 at_10 (v := (4 : Int32)) rfl rfl ?_
  refine w_newP X3 (hw _ (List.mem_of_getElem? (i := 1) rfl)) (by decide) (k := 4) (by decide) (cap := 4) (by decide) (by decide) (by decide) (by decide) at_11 rfl fun T13 h15 a16 X14 ga17 gn18 E19 A20 => ?_
  have ne21 : a5 ≠ a16 := by rw [ga17]; exact Nat.ne_of_lt f12.lt
  have g022 : h0.size ≤ a16 := by rw [ga17]; exact k11.1
  have f23 : AV Z h15 a5 .int [(.int (0 : Int32)), (.int (0 : Int32)), (.int (0 : Int32)), (.int (0 : Int32))] := f12.ext E19
  have k24 : Keep h0 h15 [] := k11.ext E19
  have f25 : AV Z h15 a16 .long [(.long (0 : Int64)), (.long (0 : Int64)), (.long (0 : Int64)), (.long (0 : Int64))] := A20
  refine w_astore X14 at_13 rfl rfl (L' := #[.val (.int p1), .val (.int p2), .val (.int p3), .val (.int p4), .val (.long q5), .second, .val (.int z1), .val (.ref a5), .val (.ref a16), .unset, .unset, .unset, .unset, .unset, .unset, .unset, .unset]) rfl ?_
  refine w_aload X14 at_15 rfl rfl rfl ?_
  refine w_iconst X14 at_17 (v := (0 : Int32)) rfl rfl ?_
  refine w_iloadN X14 at_18 rfl rfl ?_
  refine w_iconst X14 at_19 (v := (3 : Int32)) rfl rfl ?_
  refine w_iand X14 at_20 rfl ?_
  refine w_iastore X14 f23 (by decide) (i := 0) (by decide) (Nat.le_of_ble_eq_true rfl) gn7 at_21 rfl fun T26 h29 X27 W28 A30 => ?_
  obtain ⟨z31, hz31⟩ : ∃ z, z = (p1 &&& (3 : Int32)) := ⟨_, rfl⟩
  have f32 : AV Z h29 a5 .int [(.int z31), (.int (0 : Int32)), (.int (0 : Int32)), (.int (0 : Int32))] := (by subst hz31; exact A30)
  have f33 : AV Z h29 a16 .long [(.long (0 : Int64)), (.long (0 : Int64)), (.long (0 : Int64)), (.long (0 : Int64))] := f25.other W28 (Ne.symm ne21)
  have k34 : Keep h0 h29 [] := k24.wr W28 (Or.inr g010)
  refine w_aload X27 at_22 rfl rfl rfl ?_
  refine w_iconst X27 at_24 (v := (1 : Int32)) rfl rfl ?_
  refine w_iloadN X27 at_25 rfl rfl ?_
  refine w_iconst X27 at_26 (v := (2 : Int32)) rfl rfl ?_
  refine w_iushr X27 at_27 rfl ?_
  refine w_iconst X27 at_28 (v := (3 : Int32)) rfl rfl ?_
  refine w_iand X27 at_29 rfl ?_
  refine w_iastore X27 f32 (by decide) (i := 1) (by decide) (Nat.le_of_ble_eq_true rfl) gn7 at_30 rfl fun T35 h38 X36 W37 A39 => ?_
  obtain ⟨z40, hz40⟩ : ∃ z, z = ((ush p1 (2 : Int32)) &&& (3 : Int32)) := ⟨_, rfl⟩
  have f41 : AV Z h38 a5 .int [(.int z31), (.int z40), (.int (0 : Int32)), (.int (0 : Int32))] := (by subst hz40; exact A39)
  have f42 : AV Z h38 a16 .long [(.long (0 : Int64)), (.long (0 : Int64)), (.long (0 : Int64)), (.long (0 : Int64))] := f33.other W37 (Ne.symm ne21)
  have k43 : Keep h0 h38 [] := k34.wr W37 (Or.inr g010)
  refine w_aload X36 at_31 rfl rfl rfl ?_
  refine w_iconst X36 at_33 (v := (2 : Int32)) rfl rfl ?_
  refine w_iloadN X36 at_34 rfl rfl ?_
  refine w_iconst X36 at_35 (v := (4 : Int32)) rfl rfl ?_
  refine w_iushr X36 at_36 rfl ?_
  refine w_iconst X36 at_37 (v := (3 : Int32)) rfl rfl ?_
  refine w_iand X36 at_38 rfl ?_
  refine w_iastore X36 f41 (by decide) (i := 2) (by decide) (Nat.le_of_ble_eq_true rfl) gn7 at_39 rfl fun T44 h47 X45 W46 A48 => ?_
  obtain ⟨z49, hz49⟩ : ∃ z, z = ((ush p1 (4 : Int32)) &&& (3 : Int32)) := ⟨_, rfl⟩
  have f50 : AV Z h47 a5 .int [(.int z31), (.int z40), (.int z49), (.int (0 : Int32))] := (by subst hz49; exact A48)
  have f51 : AV Z h47 a16 .long [(.long (0 : Int64)), (.long (0 : Int64)), (.long (0 : Int64)), (.long (0 : Int64))] := f42.other W46 (Ne.symm ne21)
  have k52 : Keep h0 h47 [] := k43.wr W46 (Or.inr g010)
  refine w_aload X45 at_40 rfl rfl rfl ?_
  refine w_iconst X45 at_42 (v := (3 : Int32)) rfl rfl ?_
  refine w_iloadN X45 at_43 rfl rfl ?_
  refine w_bipush X45 at_44 (v := (6 : Int32)) rfl rfl ?_
  refine w_iushr X45 at_46 rfl ?_
  refine w_iconst X45 at_47 (v := (3 : Int32)) rfl rfl ?_
  refine w_iand X45 at_48 rfl ?_
  refine w_iastore X45 f50 (by decide) (i := 3) (by decide) (Nat.le_of_ble_eq_true rfl) gn7 at_49 rfl fun T53 h56 X54 W55 A57 => ?_
  obtain ⟨z58, hz58⟩ : ∃ z, z = ((ush p1 (6 : Int32)) &&& (3 : Int32)) := ⟨_, rfl⟩
  have f59 : AV Z h56 a5 .int [(.int z31), (.int z40), (.int z49), (.int z58)] := (by subst hz58; exact A57)
  have f60 : AV Z h56 a16 .long [(.long (0 : Int64)), (.long (0 : Int64)), (.long (0 : Int64)), (.long (0 : Int64))] := f51.other W55 (Ne.symm ne21)
  have k61 : Keep h0 h56 [] := k52.wr W55 (Or.inr g010)
  refine w_aload X54 at_50 rfl rfl rfl ?_
  refine w_iconst X54 at_52 (v := (0 : Int32)) rfl rfl ?_
  refine w_lload X54 at_53 rfl rfl ?_
  refine w_iconst X54 at_55 (v := (0 : Int32)) rfl rfl ?_
  refine w_iload X54 at_56 rfl rfl ?_
  refine w_ixor X54 at_58 rfl ?_
  refine w_i2l X54 at_59 rfl ?_
  refine w_ladd X54 at_60 rfl ?_
  refine w_lastore X54 f60 (by decide) (i := 0) (by decide) (Nat.le_of_ble_eq_true rfl) gn18 at_61 rfl fun T62 h65 X63 W64 A66 => ?_
  obtain ⟨z67, hz67⟩ : ∃ z, z = (q5 + (((0 : Int32) ^^^ z1).toInt64)) := ⟨_, rfl⟩
  have f68 : AV Z h65 a5 .int [(.int z31), (.int z40), (.int z49), (.int z58)] := f59.other W64 ne21
  have f69 : AV Z h65 a16 .long [(.long z67), (.long (0 : Int64)), (.long (0 : Int64)), (.long (0 : Int64))] := (by subst hz67; exact A66)
  have k70 : Keep h0 h65 [] := k61.wr W64 (Or.inr g022)
  refine w_aload X63 at_62 rfl rfl rfl ?_
  refine w_iconst X63 at_64 (v := (1 : Int32)) rfl rfl ?_
  refine w_lload X63 at_65 rfl rfl ?_
  refine w_iconst X63 at_67 (v := (1 : Int32)) rfl rfl ?_
  refine w_iload X63 at_68 rfl rfl ?_
  refine w_ixor X63 at_70 rfl ?_
  refine w_i2l X63 at_71 rfl ?_
  refine w_ladd X63 at_72 rfl ?_
  refine w_lastore X63 f69 (by decide) (i := 1) (by decide) (Nat.le_of_ble_eq_true rfl) gn18 at_73 rfl fun T71 h74 X72 W73 A75 => ?_
  obtain ⟨z76, hz76⟩ : ∃ z, z = (q5 + (((1 : Int32) ^^^ z1).toInt64)) := ⟨_, rfl⟩
  have f77 : AV Z h74 a5 .int [(.int z31), (.int z40), (.int z49), (.int z58)] := f68.other W73 ne21
  have f78 : AV Z h74 a16 .long [(.long z67), (.long z76), (.long (0 : Int64)), (.long (0 : Int64))] := (by subst hz76; exact A75)
  have k79 : Keep h0 h74 [] := k70.wr W73 (Or.inr g022)
  refine w_aload X72 at_74 rfl rfl rfl ?_
  refine w_iconst X72 at_76 (v := (2 : Int32)) rfl rfl ?_
  refine w_lload X72 at_77 rfl rfl ?_
  refine w_iconst X72 at_79 (v := (2 : Int32)) rfl rfl ?_
  refine w_iload X72 at_80 rfl rfl ?_
  refine w_ixor X72 at_82 rfl ?_
  refine w_i2l X72 at_83 rfl ?_
  refine w_ladd X72 at_84 rfl ?_
  refine w_lastore X72 f78 (by decide) (i := 2) (by decide) (Nat.le_of_ble_eq_true rfl) gn18 at_85 rfl fun T80 h83 X81 W82 A84 => ?_
  obtain ⟨z85, hz85⟩ : ∃ z, z = (q5 + (((2 : Int32) ^^^ z1).toInt64)) := ⟨_, rfl⟩
  have f86 : AV Z h83 a5 .int [(.int z31), (.int z40), (.int z49), (.int z58)] := f77.other W82 ne21
  have f87 : AV Z h83 a16 .long [(.long z67), (.long z76), (.long z85), (.long (0 : Int64))] := (by subst hz85; exact A84)
  have k88 : Keep h0 h83 [] := k79.wr W82 (Or.inr g022)
  refine w_aload X81 at_86 rfl rfl rfl ?_
  refine w_iconst X81 at_88 (v := (3 : Int32)) rfl rfl ?_
  refine w_lload X81 at_89 rfl rfl ?_
  refine w_iconst X81 at_91 (v := (3 : Int32)) rfl rfl ?_
  refine w_iload X81 at_92 rfl rfl ?_
  refine w_ixor X81 at_94 rfl ?_
  refine w_i2l X81 at_95 rfl ?_
  refine w_ladd X81 at_96 rfl ?_
  refine w_lastore X81 f87 (by decide) (i := 3) (by decide) (Nat.le_of_ble_eq_true rfl) gn18 at_97 rfl fun T89 h92 X90 W91 A93 => ?_
  obtain ⟨z94, hz94⟩ : ∃ z, z = (q5 + (((3 : Int32) ^^^ z1).toInt64)) := ⟨_, rfl⟩
  have f95 : AV Z h92 a5 .int [(.int z31), (.int z40), (.int z49), (.int z58)] := f86.other W91 ne21
  have f96 : AV Z h92 a16 .long [(.long z67), (.long z76), (.long z85), (.long z94)] := (by subst hz94; exact A93)
  have k97 : Keep h0 h92 [] := k88.wr W91 (Or.inr g022)
  obtain ⟨WS, hWS⟩ : ∃ z : List Int32, z = [z31, z40, z49, z58] := ⟨_, rfl⟩
  obtain ⟨RS, hRS⟩ : ∃ z : List Int64, z = [z67, z76, z85, z94] := ⟨_, rfl⟩
  have f98 : AV Z h92 a5 .int (WS.map Value.int) := by rw [hWS]; exact f95
  have f99 : AV Z h92 a16 .long (RS.map Value.long) := by rw [hRS]; exact f96
  have lWS : WS.length = 4 := by rw [hWS]; rfl
  have lRS : RS.length = 4 := by rw [hRS]; rfl
  have hr : ∀ a ∈ four, RS.getD (a).toNatClampNeg 0 = q5 + (a ^^^ z1).toInt64 := by
    intro a ha
    rw [hRS]
    simp only [four, List.mem_cons, List.not_mem_nil, or_false] at ha
    rcases ha with q | q | q | q <;> rw [q]
    · exact hz67
    · exact hz76
    · exact hz85
    · exact hz94
  obtain ⟨κ, hκ, HB⟩ := own_kappa WS RS (own_dist RS q5 z1 (by rw [← hz1]; exact own_four _) hr)
  refine w_iloadN X90 at_98 rfl rfl ?_
  refine w_bipush X90 at_99 (v := (15 : Int32)) rfl rfl ?_
  refine w_iand X90 at_101 rfl ?_
  generalize hz100 : (p3 &&& (15 : Int32)) = z100
  refine w_istore X90 at_102 rfl (L' := #[.val (.int p1), .val (.int p2), .val (.int p3), .val (.int p4), .val (.long q5), .second, .val (.int z1), .val (.ref a5), .val (.ref a16), .val (.int z100), .unset, .unset, .unset, .unset, .unset, .unset, .unset]) rfl ?_
  refine w_iloadN X90 at_104 rfl rfl ?_
  refine w_iconst X90 at_105 (v := (3 : Int32)) rfl rfl ?_
  refine w_iand X90 at_106 rfl ?_
  generalize hz101 : (p4 &&& (3 : Int32)) = z101
  refine w_istore X90 at_107 rfl (L' := #[.val (.int p1), .val (.int p2), .val (.int p3), .val (.int p4), .val (.long q5), .second, .val (.int z1), .val (.ref a5), .val (.ref a16), .val (.int z100), .val (.int z101), .unset, .unset, .unset, .unset, .unset, .unset]) rfl ?_
  refine w_new X90 (hw _ (List.mem_of_getElem? (i := 2) rfl)) (hw _ (List.mem_of_getElem? (i := 3) rfl)) (hw _ (List.mem_of_getElem? (i := 4) rfl)) (by decide) (by decide) at_109 rfl fun T102 h104 a105 X103 ga106 gn107 E108 A109 D110 => ?_
  have ne111 : a5 ≠ a105 := by rw [ga106]; exact Nat.ne_of_lt f98.lt
  have ne112 : a16 ≠ a105 := by rw [ga106]; exact Nat.ne_of_lt f99.lt
  have g0113 : h0.size ≤ a105 := by rw [ga106]; exact k97.1
  have f114 : AV Z h104 a5 .int (WS.map Value.int) := f98.ext E108
  have f115 : AV Z h104 a16 .long (RS.map Value.long) := f99.ext E108
  have k116 : Keep h0 h104 [] := k97.ext E108
  have f117 : Fld Z h104 a105 "com/example/knotweave/knotweave/OpenNeeds" "heap" "[I" .null := D110 (Or.inr (hw _ (List.mem_of_getElem? (i := 12) rfl))) (ty := (.array .int)) (by decide)
  have f118 : Fld Z h104 a105 "com/example/knotweave/knotweave/OpenNeeds" "placeOf" "[I" .null := D110 (Or.inr (hw _ (List.mem_of_getElem? (i := 14) rfl))) (ty := (.array .int)) (by decide)
  have f119 : Fld Z h104 a105 "com/example/knotweave/knotweave/OpenNeeds" "waysOf" "[I" .null := D110 (Or.inr (hw _ (List.mem_of_getElem? (i := 16) rfl))) (ty := (.array .int)) (by decide)
  have f120 : Fld Z h104 a105 "com/example/knotweave/knotweave/OpenNeeds" "rankOf" "[J" .null := D110 (Or.inr (hw _ (List.mem_of_getElem? (i := 18) rfl))) (ty := (.array .long)) (by decide)
  have f121 : Fld Z h104 a105 "com/example/knotweave/knotweave/OpenNeeds" "count" "I" (.int (0 : Int32)) := D110 (Or.inl (hw _ (List.mem_of_getElem? (i := 29) rfl))) (ty := .int) (by decide)
  refine w_dup X103 at_112 rfl rfl ?_
  refine w_iconst X103 at_113 (v := (4 : Int32)) rfl rfl ?_
  refine w_special0 X103 (rm_init l Z a0 hw a105 h104 n0 X103.size A109 f117 f118 f119 f120 f121 gn107) rfl (hw _ (List.mem_of_getElem? (i := 5) rfl)) (hw _ (List.mem_of_getElem? (i := 6) rfl)) (hw _ (List.mem_of_getElem? (i := 4) rfl)) (hw _ (List.mem_of_getElem? (i := 7) rfl)) (by decide) (argsL := [(.int (4 : Int32))]) (rest := [(.ref a105)]) rfl (lenOf pd_2 rfl) rfl (W := 1) rfl (by decide) (by decide) (by decide) (by decide) at_114 rfl fun T122 h123 X124 q125 => ?_
  obtain ⟨ha127, pa128, wa129, ra130, ⟨g131, g132, g133, g134⟩, ⟨s135, s136, s137, s138⟩, ⟨ne139, ne140, ne141, ne142, ne143, ne144, ne145, ne146, ne147, ne148⟩, K126, n149, n150, n151, n152, n153, n154, n155, n156, n157, n158⟩ := q125
  have g0159 : h0.size ≤ ha127 := Nat.le_trans k116.1 s135
  have ne160 : a5 ≠ ha127 := Nat.ne_of_lt (Nat.lt_of_lt_of_le f114.lt s135)
  have ne161 : a16 ≠ ha127 := Nat.ne_of_lt (Nat.lt_of_lt_of_le f115.lt s135)
  have g0162 : h0.size ≤ pa128 := Nat.le_trans k116.1 s136
  have ne163 : a5 ≠ pa128 := Nat.ne_of_lt (Nat.lt_of_lt_of_le f114.lt s136)
  have ne164 : a16 ≠ pa128 := Nat.ne_of_lt (Nat.lt_of_lt_of_le f115.lt s136)
  have g0165 : h0.size ≤ wa129 := Nat.le_trans k116.1 s137
  have ne166 : a5 ≠ wa129 := Nat.ne_of_lt (Nat.lt_of_lt_of_le f114.lt s137)
  have ne167 : a16 ≠ wa129 := Nat.ne_of_lt (Nat.lt_of_lt_of_le f115.lt s137)
  have g0168 : h0.size ≤ ra130 := Nat.le_trans k116.1 s138
  have ne169 : a5 ≠ ra130 := Nat.ne_of_lt (Nat.lt_of_lt_of_le f114.lt s138)
  have ne170 : a16 ≠ ra130 := Nat.ne_of_lt (Nat.lt_of_lt_of_le f115.lt s138)
  have f171 : AV Z h123 a5 .int (WS.map Value.int) := f114.keep K126 (ninS ne111 nin0)
  have f172 : AV Z h123 a16 .long (RS.map Value.long) := f115.keep K126 (ninS ne112 nin0)
  have f173 : Exa Z h123 a105 "com/example/knotweave/knotweave/OpenNeeds" := A109.keep K126
  have k174 : Keep h0 h123 [] := k116.trans K126 (allS (Or.inr g0113) all0)
  refine w_astore X124 at_117 rfl rfl (L' := #[.val (.int p1), .val (.int p2), .val (.int p3), .val (.int p4), .val (.long q5), .second, .val (.int z1), .val (.ref a5), .val (.ref a16), .val (.int z100), .val (.int z101), .val (.ref a105), .unset, .unset, .unset, .unset, .unset]) rfl ?_
  obtain ⟨hs0, hs0e⟩ : ∃ z : List Int32, z = z4 := ⟨_, rfl⟩
  have f175 : AV Z h123 ha127 .int (hs0.map Value.int) := by rw [hs0e]; exact n155
  have f176 : AV Z h123 pa128 .int ((plc hs0 (0 : Int32)).map Value.int) := by rw [hs0e]; exact n156
  have hm0 : hs0 ∈ S4 := by rw [hs0e]; decide +kernel
  have ok0 : okb hs0 (0 : Int32) = true := by rw [hs0e]; decide +kernel
  have J_0 : JJ (mm hs0 (0 : Int32)) ([0, 0, 0, 0] : List Int32) ([0, 0, 0, 0] : List Int64) WS RS := by rw [hs0e]; exact J0 _ _ _ _
  refine w_iload X124 at_119 rfl rfl ?_
  refine w_iconst X124 at_121 (v := (1 : Int32)) rfl rfl ?_
  refine w_iand X124 at_122 rfl ?_
  suffices jn192 : ∀ (T177 : State) (h178 : Heap) (hs1_ : List Int32) (c1_ : Int32) (ws1_ : List Int32) (rs1_ : List Int64), (Wk p l e room_1 s m #[(.int p1), (.int p2), (.int p3), (.int p4), (.long q5)] below meth c Z n0 x code maxLocals ret T177 7 29 h178) → (ONs Z h178 a105 ha127 pa128 wa129 ra130 hs1_ (plc hs1_ c1_) c1_ ws1_ rs1_) → (AV Z h178 a5 .int (WS.map Value.int)) → (AV Z h178 a16 .long (RS.map Value.long)) → (Keep h0 h178 []) → (hs1_ ∈ S4) → (c1_ ∈ five) → (okb hs1_ c1_ = true) → (JJ (mm hs1_ c1_) ws1_ rs1_ WS RS) → (ws1_.length = 4) → (rs1_.length = 4) → (hs1_ = (if (z100 &&& (1 : Int32)) = 0 then hs0 else putH (bk κ) hs0 (0 : Int32) (0 : Int32))) → (c1_ = (if (z100 &&& (1 : Int32)) = 0 then (0 : Int32) else putC hs0 (0 : Int32) (0 : Int32))) → Goes p e below (Done below s n0 room_1 (some (.int 1)) (fun _ => True)) T177 m 140 #[.val (.int p1), .val (.int p2), .val (.int p3), .val (.int p4), .val (.long q5), .second, .val (.int z1), .val (.ref a5), .val (.ref a16), .val (.int z100), .val (.int z101), .val (.ref a105), .unset, .unset, .unset, .unset, .unset] [] by
    refine w_if_eq X124 at_123 (by decide) (pcT := 140) (pcF := 126) (by decide) rfl (fun c193 => ?_) (fun c193 => ?_)
    · exact jn192 _ _ _ _ _ _ X124 ⟨n149, n150, n151, n152, n153, n154, f175, f176, n157, n158⟩ f171 f172 k174 hm0 (by decide) ok0 J_0 rfl rfl (if_pos c193).symm (if_pos c193).symm
    · refine w_aload X124 at_126 rfl rfl rfl ?_
      refine w_iconst X124 at_128 (v := (0 : Int32)) rfl rfl ?_
      refine w_aload X124 at_129 rfl rfl rfl ?_
      refine w_iconst X124 at_131 (v := (0 : Int32)) rfl rfl ?_
      refine w_iaload X124 f171 (by decide) rfl (getI (by rw [lWS]; exact Nat.le_of_ble_eq_true rfl)) at_132 rfl ?_
      refine w_aload X124 at_133 rfl rfl rfl ?_
      refine w_iconst X124 at_135 (v := (0 : Int32)) rfl rfl ?_
      refine w_laload X124 f172 (by decide) rfl (getL (by rw [lRS]; exact Nat.le_of_ble_eq_true rfl)) at_136 rfl ?_
      refine w_virtual0 X124 (rm_put l Z a0 hw a105 (0 : Int32) (WS.getD ((0 : Int32)).toNatClampNeg 0) (RS.getD ((0 : Int32)).toNatClampNeg 0) ha127 pa128 wa129 ra130 hs0 (0 : Int32) ([0, 0, 0, 0] : List Int32) ([0, 0, 0, 0] : List Int64) h123 n0 X124.size ⟨n149, n150, n151, n152, n153, n154, f175, f176, n157, n158⟩ ⟨ne139, ne140, ne141, ne142, ne143, ne144, ne145, ne146, ne147, ne148⟩ ⟨gn107, g131, g132, g133, g134⟩ (bk κ) (own_hb _ _ _ WS RS κ rfl (J_put _ _ _ WS RS (0 : Int32) (by decide) rfl rfl rfl J_0) HB) hm0 (by decide) ok0 (by decide) rfl rfl) n149 (hw _ (List.mem_of_getElem? (i := 23) rfl)) (hw _ (List.mem_of_getElem? (i := 24) rfl)) (hw _ (List.mem_of_getElem? (i := 26) rfl)) (hw _ (List.mem_of_getElem? (i := 25) rfl)) (hw _ (List.mem_of_getElem? (i := 4) rfl)) (hw _ (List.mem_of_getElem? (i := 27) rfl)) (by decide) (argsL := [(.int (0 : Int32)), (.int (WS.getD ((0 : Int32)).toNatClampNeg 0)), (.long (RS.getD ((0 : Int32)).toNatClampNeg 0))]) (rest := []) rfl (lenOf pd_4 rfl) rfl (W := 0) rfl (by decide) (by decide) (by decide) (by decide) at_137 rfl fun T194 h195 X196 q197 => ?_
      obtain ⟨hs208, m209, hc210, ok211, mm212, md213, K214, n198, n199, n200, n201, n202, n203, n204, n205, n206, n207⟩ := q197
      have f215 : AV Z h195 a5 .int (WS.map Value.int) := f171.keep K214 (ninS ne111 (ninS ne160 (ninS ne163 (ninS ne166 (ninS ne169 nin0)))))
      have f216 : AV Z h195 a16 .long (RS.map Value.long) := f172.keep K214 (ninS ne112 (ninS ne161 (ninS ne164 (ninS ne167 (ninS ne170 nin0)))))
      have f217 : Exa Z h195 a105 "com/example/knotweave/knotweave/OpenNeeds" := n149.keep K214
      have k218 : Keep h0 h195 [] := k174.trans K214 (allS (Or.inr g0113) (allS (Or.inr g0159) (allS (Or.inr g0162) (allS (Or.inr g0165) (allS (Or.inr g0168) all0)))))
      exact jn192 _ _ _ _ _ _ X196 ⟨n198, n199, n200, n201, n202, n203, n204, n205, n206, n207⟩ f215 f216 k218 m209 hc210 ok211 (by rw [mm212]; exact J_put _ _ _ WS RS (0 : Int32) (by decide) rfl rfl rfl J_0) (by rw [List.length_set]; exact rfl) (by rw [List.length_set]; exact rfl) (md213.trans (if_neg c193).symm) (if_neg c193).symm
  intro T177 h178 hs1_ c1_ ws1_ rs1_ X179 O180 A181 B182 K183 m184 hc185 ok186 J187 lw188 lr189 eH190 eC191
  obtain ⟨n219, n220, n221, n222, n223, n224, n225, n226, n227, n228⟩ := O180
  have ea229 : hs1_ = t1H (bk κ) z100 := by rw [eH190, hs0e]; rfl
  have eb230 : c1_ = t1C z100 := by rw [eC191, hs0e]; rfl
  refine w_iload X179 at_140 rfl rfl ?_
  refine w_iconst X179 at_142 (v := (2 : Int32)) rfl rfl ?_
  refine w_iand X179 at_143 rfl ?_
  suffices jn246 : ∀ (T231 : State) (h232 : Heap) (hs2_ : List Int32) (c2_ : Int32) (ws2_ : List Int32) (rs2_ : List Int64), (Wk p l e room_1 s m #[(.int p1), (.int p2), (.int p3), (.int p4), (.long q5)] below meth c Z n0 x code maxLocals ret T231 7 29 h232) → (ONs Z h232 a105 ha127 pa128 wa129 ra130 hs2_ (plc hs2_ c2_) c2_ ws2_ rs2_) → (AV Z h232 a5 .int (WS.map Value.int)) → (AV Z h232 a16 .long (RS.map Value.long)) → (Keep h0 h232 []) → (hs2_ ∈ S4) → (c2_ ∈ five) → (okb hs2_ c2_ = true) → (JJ (mm hs2_ c2_) ws2_ rs2_ WS RS) → (ws2_.length = 4) → (rs2_.length = 4) → (hs2_ = (if (z100 &&& (2 : Int32)) = 0 then hs1_ else putH (bk κ) hs1_ c1_ (1 : Int32))) → (c2_ = (if (z100 &&& (2 : Int32)) = 0 then c1_ else putC hs1_ c1_ (1 : Int32))) → Goes p e below (Done below s n0 room_1 (some (.int 1)) (fun _ => True)) T231 m 161 #[.val (.int p1), .val (.int p2), .val (.int p3), .val (.int p4), .val (.long q5), .second, .val (.int z1), .val (.ref a5), .val (.ref a16), .val (.int z100), .val (.int z101), .val (.ref a105), .unset, .unset, .unset, .unset, .unset] [] by
    refine w_if_eq X179 at_144 (by decide) (pcT := 161) (pcF := 147) (by decide) rfl (fun c247 => ?_) (fun c247 => ?_)
    · exact jn246 _ _ _ _ _ _ X179 ⟨n219, n220, n221, n222, n223, n224, n225, n226, n227, n228⟩ A181 B182 K183 m184 hc185 ok186 J187 lw188 lr189 (if_pos c247).symm (if_pos c247).symm
    · refine w_aload X179 at_147 rfl rfl rfl ?_
      refine w_iconst X179 at_149 (v := (1 : Int32)) rfl rfl ?_
      refine w_aload X179 at_150 rfl rfl rfl ?_
      refine w_iconst X179 at_152 (v := (1 : Int32)) rfl rfl ?_
      refine w_iaload X179 A181 (by decide) rfl (getI (by rw [lWS]; exact Nat.le_of_ble_eq_true rfl)) at_153 rfl ?_
      refine w_aload X179 at_154 rfl rfl rfl ?_
      refine w_iconst X179 at_156 (v := (1 : Int32)) rfl rfl ?_
      refine w_laload X179 B182 (by decide) rfl (getL (by rw [lRS]; exact Nat.le_of_ble_eq_true rfl)) at_157 rfl ?_
      refine w_virtual0 X179 (rm_put l Z a0 hw a105 (1 : Int32) (WS.getD ((1 : Int32)).toNatClampNeg 0) (RS.getD ((1 : Int32)).toNatClampNeg 0) ha127 pa128 wa129 ra130 hs1_ c1_ ws1_ rs1_ h178 n0 X179.size ⟨n219, n220, n221, n222, n223, n224, n225, n226, n227, n228⟩ ⟨ne139, ne140, ne141, ne142, ne143, ne144, ne145, ne146, ne147, ne148⟩ ⟨gn107, g131, g132, g133, g134⟩ (bk κ) (own_hb _ _ _ WS RS κ rfl (J_put _ _ _ WS RS (1 : Int32) (by decide) rfl lw188 lr189 J187) HB) m184 hc185 ok186 (by decide) lw188 lr189) n219 (hw _ (List.mem_of_getElem? (i := 23) rfl)) (hw _ (List.mem_of_getElem? (i := 24) rfl)) (hw _ (List.mem_of_getElem? (i := 26) rfl)) (hw _ (List.mem_of_getElem? (i := 25) rfl)) (hw _ (List.mem_of_getElem? (i := 4) rfl)) (hw _ (List.mem_of_getElem? (i := 27) rfl)) (by decide) (argsL := [(.int (1 : Int32)), (.int (WS.getD ((1 : Int32)).toNatClampNeg 0)), (.long (RS.getD ((1 : Int32)).toNatClampNeg 0))]) (rest := []) rfl (lenOf pd_4 rfl) rfl (W := 0) rfl (by decide) (by decide) (by decide) (by decide) at_158 rfl fun T248 h249 X250 q251 => ?_
      obtain ⟨hs262, m263, hc264, ok265, mm266, md267, K268, n252, n253, n254, n255, n256, n257, n258, n259, n260, n261⟩ := q251
      have f269 : AV Z h249 a5 .int (WS.map Value.int) := A181.keep K268 (ninS ne111 (ninS ne160 (ninS ne163 (ninS ne166 (ninS ne169 nin0)))))
      have f270 : AV Z h249 a16 .long (RS.map Value.long) := B182.keep K268 (ninS ne112 (ninS ne161 (ninS ne164 (ninS ne167 (ninS ne170 nin0)))))
      have f271 : Exa Z h249 a105 "com/example/knotweave/knotweave/OpenNeeds" := n219.keep K268
      have k272 : Keep h0 h249 [] := K183.trans K268 (allS (Or.inr g0113) (allS (Or.inr g0159) (allS (Or.inr g0162) (allS (Or.inr g0165) (allS (Or.inr g0168) all0)))))
      exact jn246 _ _ _ _ _ _ X250 ⟨n252, n253, n254, n255, n256, n257, n258, n259, n260, n261⟩ f269 f270 k272 m263 hc264 ok265 (by rw [mm266]; exact J_put _ _ _ WS RS (1 : Int32) (by decide) rfl lw188 lr189 J187) (by rw [List.length_set]; exact lw188) (by rw [List.length_set]; exact lr189) (md267.trans (if_neg c247).symm) (if_neg c247).symm
  intro T231 h232 hs2_ c2_ ws2_ rs2_ X233 O234 A235 B236 K237 m238 hc239 ok240 J241 lw242 lr243 eH244 eC245
  obtain ⟨n273, n274, n275, n276, n277, n278, n279, n280, n281, n282⟩ := O234
  have ea283 : hs2_ = t2H (bk κ) z100 := by rw [eH244, ea229, eb230]; rfl
  have eb284 : c2_ = t2C (bk κ) z100 := by rw [eC245, ea229, eb230]; rfl
  refine w_iload X233 at_161 rfl rfl ?_
  refine w_iconst X233 at_163 (v := (4 : Int32)) rfl rfl ?_
  refine w_iand X233 at_164 rfl ?_
  suffices jn300 : ∀ (T285 : State) (h286 : Heap) (hs3_ : List Int32) (c3_ : Int32) (ws3_ : List Int32) (rs3_ : List Int64), (Wk p l e room_1 s m #[(.int p1), (.int p2), (.int p3), (.int p4), (.long q5)] below meth c Z n0 x code maxLocals ret T285 7 29 h286) → (ONs Z h286 a105 ha127 pa128 wa129 ra130 hs3_ (plc hs3_ c3_) c3_ ws3_ rs3_) → (AV Z h286 a5 .int (WS.map Value.int)) → (AV Z h286 a16 .long (RS.map Value.long)) → (Keep h0 h286 []) → (hs3_ ∈ S4) → (c3_ ∈ five) → (okb hs3_ c3_ = true) → (JJ (mm hs3_ c3_) ws3_ rs3_ WS RS) → (ws3_.length = 4) → (rs3_.length = 4) → (hs3_ = (if (z100 &&& (4 : Int32)) = 0 then hs2_ else putH (bk κ) hs2_ c2_ (2 : Int32))) → (c3_ = (if (z100 &&& (4 : Int32)) = 0 then c2_ else putC hs2_ c2_ (2 : Int32))) → Goes p e below (Done below s n0 room_1 (some (.int 1)) (fun _ => True)) T285 m 182 #[.val (.int p1), .val (.int p2), .val (.int p3), .val (.int p4), .val (.long q5), .second, .val (.int z1), .val (.ref a5), .val (.ref a16), .val (.int z100), .val (.int z101), .val (.ref a105), .unset, .unset, .unset, .unset, .unset] [] by
    refine w_if_eq X233 at_165 (by decide) (pcT := 182) (pcF := 168) (by decide) rfl (fun c301 => ?_) (fun c301 => ?_)
    · exact jn300 _ _ _ _ _ _ X233 ⟨n273, n274, n275, n276, n277, n278, n279, n280, n281, n282⟩ A235 B236 K237 m238 hc239 ok240 J241 lw242 lr243 (if_pos c301).symm (if_pos c301).symm
    · refine w_aload X233 at_168 rfl rfl rfl ?_
      refine w_iconst X233 at_170 (v := (2 : Int32)) rfl rfl ?_
      refine w_aload X233 at_171 rfl rfl rfl ?_
      refine w_iconst X233 at_173 (v := (2 : Int32)) rfl rfl ?_
      refine w_iaload X233 A235 (by decide) rfl (getI (by rw [lWS]; exact Nat.le_of_ble_eq_true rfl)) at_174 rfl ?_
      refine w_aload X233 at_175 rfl rfl rfl ?_
      refine w_iconst X233 at_177 (v := (2 : Int32)) rfl rfl ?_
      refine w_laload X233 B236 (by decide) rfl (getL (by rw [lRS]; exact Nat.le_of_ble_eq_true rfl)) at_178 rfl ?_
      refine w_virtual0 X233 (rm_put l Z a0 hw a105 (2 : Int32) (WS.getD ((2 : Int32)).toNatClampNeg 0) (RS.getD ((2 : Int32)).toNatClampNeg 0) ha127 pa128 wa129 ra130 hs2_ c2_ ws2_ rs2_ h232 n0 X233.size ⟨n273, n274, n275, n276, n277, n278, n279, n280, n281, n282⟩ ⟨ne139, ne140, ne141, ne142, ne143, ne144, ne145, ne146, ne147, ne148⟩ ⟨gn107, g131, g132, g133, g134⟩ (bk κ) (own_hb _ _ _ WS RS κ rfl (J_put _ _ _ WS RS (2 : Int32) (by decide) rfl lw242 lr243 J241) HB) m238 hc239 ok240 (by decide) lw242 lr243) n273 (hw _ (List.mem_of_getElem? (i := 23) rfl)) (hw _ (List.mem_of_getElem? (i := 24) rfl)) (hw _ (List.mem_of_getElem? (i := 26) rfl)) (hw _ (List.mem_of_getElem? (i := 25) rfl)) (hw _ (List.mem_of_getElem? (i := 4) rfl)) (hw _ (List.mem_of_getElem? (i := 27) rfl)) (by decide) (argsL := [(.int (2 : Int32)), (.int (WS.getD ((2 : Int32)).toNatClampNeg 0)), (.long (RS.getD ((2 : Int32)).toNatClampNeg 0))]) (rest := []) rfl (lenOf pd_4 rfl) rfl (W := 0) rfl (by decide) (by decide) (by decide) (by decide) at_179 rfl fun T302 h303 X304 q305 => ?_
      obtain ⟨hs316, m317, hc318, ok319, mm320, md321, K322, n306, n307, n308, n309, n310, n311, n312, n313, n314, n315⟩ := q305
      have f323 : AV Z h303 a5 .int (WS.map Value.int) := A235.keep K322 (ninS ne111 (ninS ne160 (ninS ne163 (ninS ne166 (ninS ne169 nin0)))))
      have f324 : AV Z h303 a16 .long (RS.map Value.long) := B236.keep K322 (ninS ne112 (ninS ne161 (ninS ne164 (ninS ne167 (ninS ne170 nin0)))))
      have f325 : Exa Z h303 a105 "com/example/knotweave/knotweave/OpenNeeds" := n273.keep K322
      have k326 : Keep h0 h303 [] := K237.trans K322 (allS (Or.inr g0113) (allS (Or.inr g0159) (allS (Or.inr g0162) (allS (Or.inr g0165) (allS (Or.inr g0168) all0)))))
      exact jn300 _ _ _ _ _ _ X304 ⟨n306, n307, n308, n309, n310, n311, n312, n313, n314, n315⟩ f323 f324 k326 m317 hc318 ok319 (by rw [mm320]; exact J_put _ _ _ WS RS (2 : Int32) (by decide) rfl lw242 lr243 J241) (by rw [List.length_set]; exact lw242) (by rw [List.length_set]; exact lr243) (md321.trans (if_neg c301).symm) (if_neg c301).symm
  intro T285 h286 hs3_ c3_ ws3_ rs3_ X287 O288 A289 B290 K291 m292 hc293 ok294 J295 lw296 lr297 eH298 eC299
  obtain ⟨n327, n328, n329, n330, n331, n332, n333, n334, n335, n336⟩ := O288
  have ea337 : hs3_ = t3H (bk κ) z100 := by rw [eH298, ea283, eb284]; rfl
  have eb338 : c3_ = t3C (bk κ) z100 := by rw [eC299, ea283, eb284]; rfl
  refine w_iload X287 at_182 rfl rfl ?_
  refine w_bipush X287 at_184 (v := (8 : Int32)) rfl rfl ?_
  refine w_iand X287 at_186 rfl ?_
  suffices jn354 : ∀ (T339 : State) (h340 : Heap) (hs4_ : List Int32) (c4_ : Int32) (ws4_ : List Int32) (rs4_ : List Int64), (Wk p l e room_1 s m #[(.int p1), (.int p2), (.int p3), (.int p4), (.long q5)] below meth c Z n0 x code maxLocals ret T339 7 29 h340) → (ONs Z h340 a105 ha127 pa128 wa129 ra130 hs4_ (plc hs4_ c4_) c4_ ws4_ rs4_) → (AV Z h340 a5 .int (WS.map Value.int)) → (AV Z h340 a16 .long (RS.map Value.long)) → (Keep h0 h340 []) → (hs4_ ∈ S4) → (c4_ ∈ five) → (okb hs4_ c4_ = true) → (JJ (mm hs4_ c4_) ws4_ rs4_ WS RS) → (ws4_.length = 4) → (rs4_.length = 4) → (hs4_ = (if (z100 &&& (8 : Int32)) = 0 then hs3_ else putH (bk κ) hs3_ c3_ (3 : Int32))) → (c4_ = (if (z100 &&& (8 : Int32)) = 0 then c3_ else putC hs3_ c3_ (3 : Int32))) → Goes p e below (Done below s n0 room_1 (some (.int 1)) (fun _ => True)) T339 m 204 #[.val (.int p1), .val (.int p2), .val (.int p3), .val (.int p4), .val (.long q5), .second, .val (.int z1), .val (.ref a5), .val (.ref a16), .val (.int z100), .val (.int z101), .val (.ref a105), .unset, .unset, .unset, .unset, .unset] [] by
    refine w_if_eq X287 at_187 (by decide) (pcT := 204) (pcF := 190) (by decide) rfl (fun c355 => ?_) (fun c355 => ?_)
    · exact jn354 _ _ _ _ _ _ X287 ⟨n327, n328, n329, n330, n331, n332, n333, n334, n335, n336⟩ A289 B290 K291 m292 hc293 ok294 J295 lw296 lr297 (if_pos c355).symm (if_pos c355).symm
    · refine w_aload X287 at_190 rfl rfl rfl ?_
      refine w_iconst X287 at_192 (v := (3 : Int32)) rfl rfl ?_
      refine w_aload X287 at_193 rfl rfl rfl ?_
      refine w_iconst X287 at_195 (v := (3 : Int32)) rfl rfl ?_
      refine w_iaload X287 A289 (by decide) rfl (getI (by rw [lWS]; exact Nat.le_of_ble_eq_true rfl)) at_196 rfl ?_
      refine w_aload X287 at_197 rfl rfl rfl ?_
      refine w_iconst X287 at_199 (v := (3 : Int32)) rfl rfl ?_
      refine w_laload X287 B290 (by decide) rfl (getL (by rw [lRS]; exact Nat.le_of_ble_eq_true rfl)) at_200 rfl ?_
      refine w_virtual0 X287 (rm_put l Z a0 hw a105 (3 : Int32) (WS.getD ((3 : Int32)).toNatClampNeg 0) (RS.getD ((3 : Int32)).toNatClampNeg 0) ha127 pa128 wa129 ra130 hs3_ c3_ ws3_ rs3_ h286 n0 X287.size ⟨n327, n328, n329, n330, n331, n332, n333, n334, n335, n336⟩ ⟨ne139, ne140, ne141, ne142, ne143, ne144, ne145, ne146, ne147, ne148⟩ ⟨gn107, g131, g132, g133, g134⟩ (bk κ) (own_hb _ _ _ WS RS κ rfl (J_put _ _ _ WS RS (3 : Int32) (by decide) rfl lw296 lr297 J295) HB) m292 hc293 ok294 (by decide) lw296 lr297) n327 (hw _ (List.mem_of_getElem? (i := 23) rfl)) (hw _ (List.mem_of_getElem? (i := 24) rfl)) (hw _ (List.mem_of_getElem? (i := 26) rfl)) (hw _ (List.mem_of_getElem? (i := 25) rfl)) (hw _ (List.mem_of_getElem? (i := 4) rfl)) (hw _ (List.mem_of_getElem? (i := 27) rfl)) (by decide) (argsL := [(.int (3 : Int32)), (.int (WS.getD ((3 : Int32)).toNatClampNeg 0)), (.long (RS.getD ((3 : Int32)).toNatClampNeg 0))]) (rest := []) rfl (lenOf pd_4 rfl) rfl (W := 0) rfl (by decide) (by decide) (by decide) (by decide) at_201 rfl fun T356 h357 X358 q359 => ?_
      obtain ⟨hs370, m371, hc372, ok373, mm374, md375, K376, n360, n361, n362, n363, n364, n365, n366, n367, n368, n369⟩ := q359
      have f377 : AV Z h357 a5 .int (WS.map Value.int) := A289.keep K376 (ninS ne111 (ninS ne160 (ninS ne163 (ninS ne166 (ninS ne169 nin0)))))
      have f378 : AV Z h357 a16 .long (RS.map Value.long) := B290.keep K376 (ninS ne112 (ninS ne161 (ninS ne164 (ninS ne167 (ninS ne170 nin0)))))
      have f379 : Exa Z h357 a105 "com/example/knotweave/knotweave/OpenNeeds" := n327.keep K376
      have k380 : Keep h0 h357 [] := K291.trans K376 (allS (Or.inr g0113) (allS (Or.inr g0159) (allS (Or.inr g0162) (allS (Or.inr g0165) (allS (Or.inr g0168) all0)))))
      exact jn354 _ _ _ _ _ _ X358 ⟨n360, n361, n362, n363, n364, n365, n366, n367, n368, n369⟩ f377 f378 k380 m371 hc372 ok373 (by rw [mm374]; exact J_put _ _ _ WS RS (3 : Int32) (by decide) rfl lw296 lr297 J295) (by rw [List.length_set]; exact lw296) (by rw [List.length_set]; exact lr297) (md375.trans (if_neg c355).symm) (if_neg c355).symm
  intro T339 h340 hs4_ c4_ ws4_ rs4_ X341 O342 A343 B344 K345 m346 hc347 ok348 J349 lw350 lr351 eH352 eC353
  obtain ⟨n381, n382, n383, n384, n385, n386, n387, n388, n389, n390⟩ := O342
  have ea391 : hs4_ = t4H (bk κ) z100 := by rw [eH352, ea337, eb338]; rfl
  have eb392 : c4_ = t4C (bk κ) z100 := by rw [eC353, ea337, eb338]; rfl
  refine w_aload X341 at_204 rfl rfl rfl ?_
  refine w_iload X341 at_206 rfl rfl ?_
  refine w_virtual0 X341 (rm_remove l Z a0 hw a105 z101 ha127 pa128 wa129 ra130 hs4_ c4_ ws4_ rs4_ h340 n0 X341.size ⟨n381, n382, n383, n384, n385, n386, n387, n388, n389, n390⟩ ⟨ne139, ne140, ne141, ne142, ne143, ne144, ne145, ne146, ne147, ne148⟩ ⟨gn107, g131, g132, g133, g134⟩ (bk κ) (own_hb _ _ _ WS RS κ (by rw [List.length_set]; rfl) (J_rem _ _ _ WS RS z101 (by rw [← hz101]; exact own_four _) rfl J349) HB) m346 hc347 ok348 (by rw [← hz101]; exact own_four _) lw350 lr351) n381 (hw _ (List.mem_of_getElem? (i := 42) rfl)) (hw _ (List.mem_of_getElem? (i := 43) rfl)) (hw _ (List.mem_of_getElem? (i := 45) rfl)) (hw _ (List.mem_of_getElem? (i := 44) rfl)) (hw _ (List.mem_of_getElem? (i := 4) rfl)) (hw _ (List.mem_of_getElem? (i := 46) rfl)) (by decide) (argsL := [(.int z101)]) (rest := []) rfl (lenOf pd_2 rfl) rfl (W := 0) rfl (by decide) (by decide) (by decide) (by decide) at_208 rfl fun T393 h394 X395 q396 => ?_
  obtain ⟨hs407, m408, hc409, ok410, mm411, md412, K413, n397, n398, n399, n400, n401, n402, n403, n404, n405, n406⟩ := q396
  have f414 : AV Z h394 a5 .int (WS.map Value.int) := A343.keep K413 (ninS ne111 (ninS ne160 (ninS ne163 (ninS ne166 (ninS ne169 nin0)))))
  have f415 : AV Z h394 a16 .long (RS.map Value.long) := B344.keep K413 (ninS ne112 (ninS ne161 (ninS ne164 (ninS ne167 (ninS ne170 nin0)))))
  have f416 : Exa Z h394 a105 "com/example/knotweave/knotweave/OpenNeeds" := n381.keep K413
  have k417 : Keep h0 h394 [] := K345.trans K413 (allS (Or.inr g0113) (allS (Or.inr g0159) (allS (Or.inr g0162) (allS (Or.inr g0165) (allS (Or.inr g0168) all0)))))
  refine w_iload X395 at_211 rfl rfl ?_
  refine w_iconst X395 at_213 (v := (1 : Int32)) rfl rfl ?_
  refine w_iload X395 at_214 rfl rfl ?_
  refine w_ishl X395 at_216 rfl ?_
  refine w_iconst X395 at_217 (v := (-1 : Int32)) rfl rfl ?_
  refine w_ixor X395 at_218 rfl ?_
  refine w_iand X395 at_219 rfl ?_
  generalize hz418 : (z100 &&& (((1 : Int32) <<< (z101 &&& 31)) ^^^ (-1 : Int32))) = z418
  refine w_istore X395 at_220 rfl (L' := #[.val (.int p1), .val (.int p2), .val (.int p3), .val (.int p4), .val (.long q5), .second, .val (.int z1), .val (.ref a5), .val (.ref a16), .val (.int z100), .val (.int z101), .val (.ref a105), .val (.int z418), .unset, .unset, .unset, .unset]) rfl ?_
  have CK := own_ck κ hκ z100 z101 (by rw [← hz100]; exact own_16 _) (by rw [← hz101]; exact own_four _) hs407 (remC hs4_ c4_ z101) (md412.trans (by rw [ea391, eb392])) (by rw [ea391, eb392])
  refine w_iload X395 at_222 rfl rfl ?_
  refine w_iconst X395 at_224 (v := (1 : Int32)) rfl rfl ?_
  refine w_iand X395 at_225 rfl ?_
  refine w_iload X395 at_226 rfl rfl ?_
  refine w_iconst X395 at_228 (v := (1 : Int32)) rfl rfl ?_
  refine w_ishr X395 at_229 rfl ?_
  refine w_iconst X395 at_230 (v := (1 : Int32)) rfl rfl ?_
  refine w_iand X395 at_231 rfl ?_
  refine w_iadd X395 at_232 rfl ?_
  refine w_iload X395 at_233 rfl rfl ?_
  refine w_iconst X395 at_235 (v := (2 : Int32)) rfl rfl ?_
  refine w_ishr X395 at_236 rfl ?_
  refine w_iconst X395 at_237 (v := (1 : Int32)) rfl rfl ?_
  refine w_iand X395 at_238 rfl ?_
  refine w_iadd X395 at_239 rfl ?_
  refine w_iload X395 at_240 rfl rfl ?_
  refine w_iconst X395 at_242 (v := (3 : Int32)) rfl rfl ?_
  refine w_ishr X395 at_243 rfl ?_
  refine w_iconst X395 at_244 (v := (1 : Int32)) rfl rfl ?_
  refine w_iand X395 at_245 rfl ?_
  refine w_iadd X395 at_246 rfl ?_
  generalize hz419 : ((((z418 &&& (1 : Int32)) + ((z418 >>> ((1 : Int32) &&& 31)) &&& (1 : Int32))) + ((z418 >>> ((2 : Int32) &&& 31)) &&& (1 : Int32))) + ((z418 >>> ((3 : Int32) &&& 31)) &&& (1 : Int32))) = z419
  refine w_istore X395 at_247 rfl (L' := #[.val (.int p1), .val (.int p2), .val (.int p3), .val (.int p4), .val (.long q5), .second, .val (.int z1), .val (.ref a5), .val (.ref a16), .val (.int z100), .val (.int z101), .val (.ref a105), .val (.int z418), .val (.int z419), .unset, .unset, .unset]) rfl ?_
  have hrO : remO z100 z101 = z418 := hz418
  have hnO : cntO z418 = z419 := hz419
  rw [hrO, hnO] at CK
  refine w_iconst X395 at_249 (v := (-1 : Int32)) rfl rfl ?_
  refine w_istore X395 at_250 rfl (L' := #[.val (.int p1), .val (.int p2), .val (.int p3), .val (.int p4), .val (.long q5), .second, .val (.int z1), .val (.ref a5), .val (.ref a16), .val (.int z100), .val (.int z101), .val (.ref a105), .val (.int z418), .val (.int z419), .val (.int (-1 : Int32)), .unset, .unset]) rfl ?_
  refine w_iload X395 at_252 rfl rfl ?_
  refine w_iconst X395 at_254 (v := (0 : Int32)) rfl rfl ?_
  refine w_iload X395 at_255 rfl rfl ?_
  refine w_aload X395 at_257 rfl rfl rfl ?_
  refine w_aload X395 at_259 rfl rfl rfl ?_
  refine w_staticVP X395 (rm_pick l Z a0 hw (-1 : Int32) (0 : Int32) z418 a5 a16 WS RS (bk κ) h394 n0 X395.size f414 f415 HB (by decide) (Or.inl (by decide)) lWS lRS) (hw _ (List.mem_of_getElem? (i := 47) rfl)) (hw _ (List.mem_of_getElem? (i := 48) rfl)) (hw _ (List.mem_of_getElem? (i := 49) rfl)) (hw _ (List.mem_of_getElem? (i := 50) rfl)) (by decide) (argsL := [(.int (-1 : Int32)), (.int (0 : Int32)), (.int z418), (.ref a5), (.ref a16)]) (rest := []) rfl (lenOf pd_5 rfl) rfl (W := 0) rfl (by decide) (by decide) (by decide) (by decide) at_261 rfl fun T420 X421 => ?_
  generalize hz422 : (f_pkB (bk κ) (-1 : Int32) (0 : Int32) z418) = z422
  refine w_istore X421 at_264 rfl (L' := #[.val (.int p1), .val (.int p2), .val (.int p3), .val (.int p4), .val (.long q5), .second, .val (.int z1), .val (.ref a5), .val (.ref a16), .val (.int z100), .val (.int z101), .val (.ref a105), .val (.int z418), .val (.int z419), .val (.int z422), .unset, .unset]) rfl ?_
  refine w_iload X421 at_266 rfl rfl ?_
  refine w_iconst X421 at_268 (v := (1 : Int32)) rfl rfl ?_
  refine w_iload X421 at_269 rfl rfl ?_
  refine w_aload X421 at_271 rfl rfl rfl ?_
  refine w_aload X421 at_273 rfl rfl rfl ?_
  refine w_staticVP X421 (rm_pick l Z a0 hw z422 (1 : Int32) z418 a5 a16 WS RS (bk κ) h394 n0 X421.size f414 f415 HB (by decide) (by rw [← hz422]; exact pk_in _ _ _ _ (Or.inl (by decide)) (by decide)) lWS lRS) (hw _ (List.mem_of_getElem? (i := 47) rfl)) (hw _ (List.mem_of_getElem? (i := 48) rfl)) (hw _ (List.mem_of_getElem? (i := 49) rfl)) (hw _ (List.mem_of_getElem? (i := 50) rfl)) (by decide) (argsL := [(.int z422), (.int (1 : Int32)), (.int z418), (.ref a5), (.ref a16)]) (rest := []) rfl (lenOf pd_5 rfl) rfl (W := 0) rfl (by decide) (by decide) (by decide) (by decide) at_275 rfl fun T423 X424 => ?_
  generalize hz425 : (f_pkB (bk κ) z422 (1 : Int32) z418) = z425
  refine w_istore X424 at_278 rfl (L' := #[.val (.int p1), .val (.int p2), .val (.int p3), .val (.int p4), .val (.long q5), .second, .val (.int z1), .val (.ref a5), .val (.ref a16), .val (.int z100), .val (.int z101), .val (.ref a105), .val (.int z418), .val (.int z419), .val (.int z425), .unset, .unset]) rfl ?_
  refine w_iload X424 at_280 rfl rfl ?_
  refine w_iconst X424 at_282 (v := (2 : Int32)) rfl rfl ?_
  refine w_iload X424 at_283 rfl rfl ?_
  refine w_aload X424 at_285 rfl rfl rfl ?_
  refine w_aload X424 at_287 rfl rfl rfl ?_
  refine w_staticVP X424 (rm_pick l Z a0 hw z425 (2 : Int32) z418 a5 a16 WS RS (bk κ) h394 n0 X424.size f414 f415 HB (by decide) (by rw [← hz425]; exact pk_in _ _ _ _ (by rw [← hz422]; exact pk_in _ _ _ _ (Or.inl (by decide)) (by decide)) (by decide)) lWS lRS) (hw _ (List.mem_of_getElem? (i := 47) rfl)) (hw _ (List.mem_of_getElem? (i := 48) rfl)) (hw _ (List.mem_of_getElem? (i := 49) rfl)) (hw _ (List.mem_of_getElem? (i := 50) rfl)) (by decide) (argsL := [(.int z425), (.int (2 : Int32)), (.int z418), (.ref a5), (.ref a16)]) (rest := []) rfl (lenOf pd_5 rfl) rfl (W := 0) rfl (by decide) (by decide) (by decide) (by decide) at_289 rfl fun T426 X427 => ?_
  generalize hz428 : (f_pkB (bk κ) z425 (2 : Int32) z418) = z428
  refine w_istore X427 at_292 rfl (L' := #[.val (.int p1), .val (.int p2), .val (.int p3), .val (.int p4), .val (.long q5), .second, .val (.int z1), .val (.ref a5), .val (.ref a16), .val (.int z100), .val (.int z101), .val (.ref a105), .val (.int z418), .val (.int z419), .val (.int z428), .unset, .unset]) rfl ?_
  refine w_iload X427 at_294 rfl rfl ?_
  refine w_iconst X427 at_296 (v := (3 : Int32)) rfl rfl ?_
  refine w_iload X427 at_297 rfl rfl ?_
  refine w_aload X427 at_299 rfl rfl rfl ?_
  refine w_aload X427 at_301 rfl rfl rfl ?_
  refine w_staticVP X427 (rm_pick l Z a0 hw z428 (3 : Int32) z418 a5 a16 WS RS (bk κ) h394 n0 X427.size f414 f415 HB (by decide) (by rw [← hz428]; exact pk_in _ _ _ _ (by rw [← hz425]; exact pk_in _ _ _ _ (by rw [← hz422]; exact pk_in _ _ _ _ (Or.inl (by decide)) (by decide)) (by decide)) (by decide)) lWS lRS) (hw _ (List.mem_of_getElem? (i := 47) rfl)) (hw _ (List.mem_of_getElem? (i := 48) rfl)) (hw _ (List.mem_of_getElem? (i := 49) rfl)) (hw _ (List.mem_of_getElem? (i := 50) rfl)) (by decide) (argsL := [(.int z428), (.int (3 : Int32)), (.int z418), (.ref a5), (.ref a16)]) (rest := []) rfl (lenOf pd_5 rfl) rfl (W := 0) rfl (by decide) (by decide) (by decide) (by decide) at_303 rfl fun T429 X430 => ?_
  generalize hz431 : (f_pkB (bk κ) z428 (3 : Int32) z418) = z431
  refine w_istore X430 at_306 rfl (L' := #[.val (.int p1), .val (.int p2), .val (.int p3), .val (.int p4), .val (.long q5), .second, .val (.int z1), .val (.ref a5), .val (.ref a16), .val (.int z100), .val (.int z101), .val (.ref a105), .val (.int z418), .val (.int z419), .val (.int z431), .unset, .unset]) rfl ?_
  have hmin : minO (bk κ) z418 = z431 := by rw [← hz431, ← hz428, ← hz425, ← hz422]; rfl
  refine w_aload X430 at_308 rfl rfl rfl ?_
  refine w_virtualVP X430 (rm_count l Z a0 hw a105 ha127 pa128 wa129 ra130 hs407 (plc hs407 (remC hs4_ c4_ z101)) (remC hs4_ c4_ z101) ws4_ rs4_ h394 n0 X430.size ⟨n397, n398, n399, n400, n401, n402, n403, n404, n405, n406⟩ ⟨ne139, ne140, ne141, ne142, ne143, ne144, ne145, ne146, ne147, ne148⟩ ⟨gn107, g131, g132, g133, g134⟩ ) n397 (hw _ (List.mem_of_getElem? (i := 51) rfl)) (hw _ (List.mem_of_getElem? (i := 52) rfl)) (hw _ (List.mem_of_getElem? (i := 54) rfl)) (hw _ (List.mem_of_getElem? (i := 53) rfl)) (hw _ (List.mem_of_getElem? (i := 4) rfl)) (hw _ (List.mem_of_getElem? (i := 55) rfl)) (by decide) (argsL := []) (rest := []) rfl (lenOf pd_6 rfl) rfl (W := 0) rfl (by decide) (by decide) (by decide) (by decide) at_310 rfl fun T432 X434 => ?_
  refine w_iload X434 at_313 rfl rfl ?_
  refine w_icmp_eq X434 at_315 (by decide) (pcT := 320) (pcF := 318) (by decide) rfl (fun c436 => ?_) (fun c436 => ?_)
  · refine w_aload X434 at_320 rfl rfl rfl ?_
    refine w_iload X434 at_322 rfl rfl ?_
    refine w_virtualVP X434 (rm_contains l Z a0 hw a105 z101 ha127 pa128 wa129 ra130 hs407 (plc hs407 (remC hs4_ c4_ z101)) (remC hs4_ c4_ z101) ws4_ rs4_ h394 n0 X434.size ⟨n397, n398, n399, n400, n401, n402, n403, n404, n405, n406⟩ ⟨ne139, ne140, ne141, ne142, ne143, ne144, ne145, ne146, ne147, ne148⟩ ⟨gn107, g131, g132, g133, g134⟩ (by rw [← hz101]; exact own_four _) rfl) n397 (hw _ (List.mem_of_getElem? (i := 56) rfl)) (hw _ (List.mem_of_getElem? (i := 57) rfl)) (hw _ (List.mem_of_getElem? (i := 59) rfl)) (hw _ (List.mem_of_getElem? (i := 58) rfl)) (hw _ (List.mem_of_getElem? (i := 4) rfl)) (hw _ (List.mem_of_getElem? (i := 60) rfl)) (by decide) (argsL := [(.int z101)]) (rest := []) rfl (lenOf pd_7 rfl) rfl (W := 0) rfl (by decide) (by decide) (by decide) (by decide) at_324 rfl fun T437 X439 => ?_
    refine w_if_eq X439 at_327 (by decide) (pcT := 332) (pcF := 330) (by decide) rfl (fun c441 => ?_) (fun c441 => ?_)
    · refine w_iconst X439 at_332 (v := (0 : Int32)) rfl rfl ?_
      refine w_istore X439 at_333 rfl (L' := #[.val (.int p1), .val (.int p2), .val (.int p3), .val (.int p4), .val (.long q5), .second, .val (.int z1), .val (.ref a5), .val (.ref a16), .val (.int z100), .val (.int z101), .val (.ref a105), .val (.int z418), .val (.int z419), .val (.int z431), .val (.int (0 : Int32)), .unset]) rfl ?_
      refine w_iload X439 at_335 rfl rfl ?_
      refine w_if_le X439 at_337 (by decide) (pcT := 367) (pcF := 340) (by decide) rfl (fun c442 => ?_) (fun c442 => ?_)
      · refine w_iload X439 at_367 rfl rfl ?_
        refine w_iconst X439 at_369 (v := (1 : Int32)) rfl rfl ?_
        refine w_icmp_le X439 at_370 (by decide) (pcT := 387) (pcF := 373) (by decide) rfl (fun c443 => ?_) (fun c443 => ?_)
        · refine w_iload X439 at_387 rfl rfl ?_
          refine w_iconst X439 at_389 (v := (2 : Int32)) rfl rfl ?_
          refine w_icmp_le X439 at_390 (by decide) (pcT := 407) (pcF := 393) (by decide) rfl (fun c444 => ?_) (fun c444 => ?_)
          · refine w_iload X439 at_407 rfl rfl ?_
            refine w_iload X439 at_409 rfl rfl ?_
            refine w_icmp_ne X439 at_411 (by decide) (pcT := 418) (pcF := 414) (by decide) rfl (fun c445 => ?_) (fun c445 => ?_)
            · exact False.elim (c445 (by skip; have k := CK.2.2.2; simp only [ac3, ac2, ac1, if_neg c442, if_neg c443, if_neg c444] at k; exact k))
            · refine w_iconst X439 at_414 (v := (1 : Int32)) rfl rfl ?_
              refine w_goto X439 at_415 (by decide) (pc' := 419) (by decide) ?_
              exact w_nreturn X439 (t := .boolean) (by simp) at_419 rfl trivial (by decide) (by decide)
          · refine w_iload X439 at_393 rfl rfl ?_
            refine w_aload X439 at_395 rfl rfl rfl ?_
            refine w_iconst X439 at_397 (v := (2 : Int32)) rfl rfl ?_
            refine w_virtualVP X439 (rm_get l Z a0 hw a105 (2 : Int32) ha127 pa128 wa129 ra130 hs407 (plc hs407 (remC hs4_ c4_ z101)) (remC hs4_ c4_ z101) ws4_ rs4_ h394 n0 X439.size ⟨n397, n398, n399, n400, n401, n402, n403, n404, n405, n406⟩ ⟨ne139, ne140, ne141, ne142, ne143, ne144, ne145, ne146, ne147, ne148⟩ ⟨gn107, g131, g132, g133, g134⟩ (by decide) (DLen _ m408).1) n397 (hw _ (List.mem_of_getElem? (i := 65) rfl)) (hw _ (List.mem_of_getElem? (i := 66) rfl)) (hw _ (List.mem_of_getElem? (i := 68) rfl)) (hw _ (List.mem_of_getElem? (i := 67) rfl)) (hw _ (List.mem_of_getElem? (i := 4) rfl)) (hw _ (List.mem_of_getElem? (i := 69) rfl)) (by decide) (argsL := [(.int (2 : Int32))]) (rest := [(.int (0 : Int32))]) rfl (lenOf pd_8 rfl) rfl (W := 1) rfl (by decide) (by decide) (by decide) (by decide) at_398 rfl fun T446 X448 => ?_
            refine w_staticVP X448 (rm14 l Z a0 hw (hs407.getD ((2 : Int32)).toNatClampNeg 0) h394 n0 X448.size ) (hw _ (List.mem_of_getElem? (i := 70) rfl)) (hw _ (List.mem_of_getElem? (i := 71) rfl)) (hw _ (List.mem_of_getElem? (i := 49) rfl)) (hw _ (List.mem_of_getElem? (i := 72) rfl)) (by decide) (argsL := [(.int (hs407.getD ((2 : Int32)).toNatClampNeg 0))]) (rest := [(.int (0 : Int32))]) rfl (lenOf pd_8 rfl) rfl (W := 1) rfl (by decide) (by decide) (by decide) (by decide) at_401 rfl fun T450 X451 => ?_
            refine w_ior X451 at_404 rfl ?_
            generalize hz452 : ((0 : Int32) ||| (f_bit (hs407.getD ((2 : Int32)).toNatClampNeg 0))) = z452
            refine w_istore X451 at_405 rfl (L' := #[.val (.int p1), .val (.int p2), .val (.int p3), .val (.int p4), .val (.long q5), .second, .val (.int z1), .val (.ref a5), .val (.ref a16), .val (.int z100), .val (.int z101), .val (.ref a105), .val (.int z418), .val (.int z419), .val (.int z431), .val (.int z452), .unset]) rfl ?_
            refine w_iload X451 at_407 rfl rfl ?_
            refine w_iload X451 at_409 rfl rfl ?_
            refine w_icmp_ne X451 at_411 (by decide) (pcT := 418) (pcF := 414) (by decide) rfl (fun c453 => ?_) (fun c453 => ?_)
            · exact False.elim (c453 (by subst hz452; have k := CK.2.2.2; simp only [ac3, ac2, ac1, if_neg c442, if_neg c443, if_pos c444] at k; exact k))
            · refine w_iconst X451 at_414 (v := (1 : Int32)) rfl rfl ?_
              refine w_goto X451 at_415 (by decide) (pc' := 419) (by decide) ?_
              exact w_nreturn X451 (t := .boolean) (by simp) at_419 rfl trivial (by decide) (by decide)
        · refine w_iload X439 at_373 rfl rfl ?_
          refine w_aload X439 at_375 rfl rfl rfl ?_
          refine w_iconst X439 at_377 (v := (1 : Int32)) rfl rfl ?_
          refine w_virtualVP X439 (rm_get l Z a0 hw a105 (1 : Int32) ha127 pa128 wa129 ra130 hs407 (plc hs407 (remC hs4_ c4_ z101)) (remC hs4_ c4_ z101) ws4_ rs4_ h394 n0 X439.size ⟨n397, n398, n399, n400, n401, n402, n403, n404, n405, n406⟩ ⟨ne139, ne140, ne141, ne142, ne143, ne144, ne145, ne146, ne147, ne148⟩ ⟨gn107, g131, g132, g133, g134⟩ (by decide) (DLen _ m408).1) n397 (hw _ (List.mem_of_getElem? (i := 65) rfl)) (hw _ (List.mem_of_getElem? (i := 66) rfl)) (hw _ (List.mem_of_getElem? (i := 68) rfl)) (hw _ (List.mem_of_getElem? (i := 67) rfl)) (hw _ (List.mem_of_getElem? (i := 4) rfl)) (hw _ (List.mem_of_getElem? (i := 69) rfl)) (by decide) (argsL := [(.int (1 : Int32))]) (rest := [(.int (0 : Int32))]) rfl (lenOf pd_8 rfl) rfl (W := 1) rfl (by decide) (by decide) (by decide) (by decide) at_378 rfl fun T454 X456 => ?_
          refine w_staticVP X456 (rm14 l Z a0 hw (hs407.getD ((1 : Int32)).toNatClampNeg 0) h394 n0 X456.size ) (hw _ (List.mem_of_getElem? (i := 70) rfl)) (hw _ (List.mem_of_getElem? (i := 71) rfl)) (hw _ (List.mem_of_getElem? (i := 49) rfl)) (hw _ (List.mem_of_getElem? (i := 72) rfl)) (by decide) (argsL := [(.int (hs407.getD ((1 : Int32)).toNatClampNeg 0))]) (rest := [(.int (0 : Int32))]) rfl (lenOf pd_8 rfl) rfl (W := 1) rfl (by decide) (by decide) (by decide) (by decide) at_381 rfl fun T458 X459 => ?_
          refine w_ior X459 at_384 rfl ?_
          generalize hz460 : ((0 : Int32) ||| (f_bit (hs407.getD ((1 : Int32)).toNatClampNeg 0))) = z460
          refine w_istore X459 at_385 rfl (L' := #[.val (.int p1), .val (.int p2), .val (.int p3), .val (.int p4), .val (.long q5), .second, .val (.int z1), .val (.ref a5), .val (.ref a16), .val (.int z100), .val (.int z101), .val (.ref a105), .val (.int z418), .val (.int z419), .val (.int z431), .val (.int z460), .unset]) rfl ?_
          refine w_iload X459 at_387 rfl rfl ?_
          refine w_iconst X459 at_389 (v := (2 : Int32)) rfl rfl ?_
          refine w_icmp_le X459 at_390 (by decide) (pcT := 407) (pcF := 393) (by decide) rfl (fun c461 => ?_) (fun c461 => ?_)
          · refine w_iload X459 at_407 rfl rfl ?_
            refine w_iload X459 at_409 rfl rfl ?_
            refine w_icmp_ne X459 at_411 (by decide) (pcT := 418) (pcF := 414) (by decide) rfl (fun c462 => ?_) (fun c462 => ?_)
            · exact False.elim (c462 (by subst hz460; have k := CK.2.2.2; simp only [ac3, ac2, ac1, if_neg c442, if_pos c443, if_neg c461] at k; exact k))
            · refine w_iconst X459 at_414 (v := (1 : Int32)) rfl rfl ?_
              refine w_goto X459 at_415 (by decide) (pc' := 419) (by decide) ?_
              exact w_nreturn X459 (t := .boolean) (by simp) at_419 rfl trivial (by decide) (by decide)
          · refine w_iload X459 at_393 rfl rfl ?_
            refine w_aload X459 at_395 rfl rfl rfl ?_
            refine w_iconst X459 at_397 (v := (2 : Int32)) rfl rfl ?_
            refine w_virtualVP X459 (rm_get l Z a0 hw a105 (2 : Int32) ha127 pa128 wa129 ra130 hs407 (plc hs407 (remC hs4_ c4_ z101)) (remC hs4_ c4_ z101) ws4_ rs4_ h394 n0 X459.size ⟨n397, n398, n399, n400, n401, n402, n403, n404, n405, n406⟩ ⟨ne139, ne140, ne141, ne142, ne143, ne144, ne145, ne146, ne147, ne148⟩ ⟨gn107, g131, g132, g133, g134⟩ (by decide) (DLen _ m408).1) n397 (hw _ (List.mem_of_getElem? (i := 65) rfl)) (hw _ (List.mem_of_getElem? (i := 66) rfl)) (hw _ (List.mem_of_getElem? (i := 68) rfl)) (hw _ (List.mem_of_getElem? (i := 67) rfl)) (hw _ (List.mem_of_getElem? (i := 4) rfl)) (hw _ (List.mem_of_getElem? (i := 69) rfl)) (by decide) (argsL := [(.int (2 : Int32))]) (rest := [(.int z460)]) rfl (lenOf pd_8 rfl) rfl (W := 1) rfl (by decide) (by decide) (by decide) (by decide) at_398 rfl fun T463 X465 => ?_
            refine w_staticVP X465 (rm14 l Z a0 hw (hs407.getD ((2 : Int32)).toNatClampNeg 0) h394 n0 X465.size ) (hw _ (List.mem_of_getElem? (i := 70) rfl)) (hw _ (List.mem_of_getElem? (i := 71) rfl)) (hw _ (List.mem_of_getElem? (i := 49) rfl)) (hw _ (List.mem_of_getElem? (i := 72) rfl)) (by decide) (argsL := [(.int (hs407.getD ((2 : Int32)).toNatClampNeg 0))]) (rest := [(.int z460)]) rfl (lenOf pd_8 rfl) rfl (W := 1) rfl (by decide) (by decide) (by decide) (by decide) at_401 rfl fun T467 X468 => ?_
            refine w_ior X468 at_404 rfl ?_
            generalize hz469 : (z460 ||| (f_bit (hs407.getD ((2 : Int32)).toNatClampNeg 0))) = z469
            refine w_istore X468 at_405 rfl (L' := #[.val (.int p1), .val (.int p2), .val (.int p3), .val (.int p4), .val (.long q5), .second, .val (.int z1), .val (.ref a5), .val (.ref a16), .val (.int z100), .val (.int z101), .val (.ref a105), .val (.int z418), .val (.int z419), .val (.int z431), .val (.int z469), .unset]) rfl ?_
            refine w_iload X468 at_407 rfl rfl ?_
            refine w_iload X468 at_409 rfl rfl ?_
            refine w_icmp_ne X468 at_411 (by decide) (pcT := 418) (pcF := 414) (by decide) rfl (fun c470 => ?_) (fun c470 => ?_)
            · exact False.elim (c470 (by subst hz469 hz460; have k := CK.2.2.2; simp only [ac3, ac2, ac1, if_neg c442, if_pos c443, if_pos c461] at k; exact k))
            · refine w_iconst X468 at_414 (v := (1 : Int32)) rfl rfl ?_
              refine w_goto X468 at_415 (by decide) (pc' := 419) (by decide) ?_
              exact w_nreturn X468 (t := .boolean) (by simp) at_419 rfl trivial (by decide) (by decide)
      · refine w_aload X439 at_340 rfl rfl rfl ?_
        refine w_iconst X439 at_342 (v := (0 : Int32)) rfl rfl ?_
        refine w_virtualVP X439 (rm_get l Z a0 hw a105 (0 : Int32) ha127 pa128 wa129 ra130 hs407 (plc hs407 (remC hs4_ c4_ z101)) (remC hs4_ c4_ z101) ws4_ rs4_ h394 n0 X439.size ⟨n397, n398, n399, n400, n401, n402, n403, n404, n405, n406⟩ ⟨ne139, ne140, ne141, ne142, ne143, ne144, ne145, ne146, ne147, ne148⟩ ⟨gn107, g131, g132, g133, g134⟩ (by decide) (DLen _ m408).1) n397 (hw _ (List.mem_of_getElem? (i := 65) rfl)) (hw _ (List.mem_of_getElem? (i := 66) rfl)) (hw _ (List.mem_of_getElem? (i := 68) rfl)) (hw _ (List.mem_of_getElem? (i := 67) rfl)) (hw _ (List.mem_of_getElem? (i := 4) rfl)) (hw _ (List.mem_of_getElem? (i := 69) rfl)) (by decide) (argsL := [(.int (0 : Int32))]) (rest := []) rfl (lenOf pd_8 rfl) rfl (W := 0) rfl (by decide) (by decide) (by decide) (by decide) at_343 rfl fun T471 X473 => ?_
        generalize hz475 : (hs407.getD ((0 : Int32)).toNatClampNeg 0) = z475
        refine w_istore X473 at_346 rfl (L' := #[.val (.int p1), .val (.int p2), .val (.int p3), .val (.int p4), .val (.long q5), .second, .val (.int z1), .val (.ref a5), .val (.ref a16), .val (.int z100), .val (.int z101), .val (.ref a105), .val (.int z418), .val (.int z419), .val (.int z431), .val (.int (0 : Int32)), .val (.int z475)]) rfl ?_
        refine w_iload X473 at_348 rfl rfl ?_
        refine w_iload X473 at_350 rfl rfl ?_
        refine w_icmp_eq X473 at_352 (by decide) (pcT := 357) (pcF := 355) (by decide) rfl (fun c476 => ?_) (fun c476 => ?_)
        · refine w_iload X473 at_357 rfl rfl ?_
          refine w_iload X473 at_359 rfl rfl ?_
          refine w_staticVP X473 (rm14 l Z a0 hw z475 h394 n0 X473.size ) (hw _ (List.mem_of_getElem? (i := 70) rfl)) (hw _ (List.mem_of_getElem? (i := 71) rfl)) (hw _ (List.mem_of_getElem? (i := 49) rfl)) (hw _ (List.mem_of_getElem? (i := 72) rfl)) (by decide) (argsL := [(.int z475)]) (rest := [(.int (0 : Int32))]) rfl (lenOf pd_8 rfl) rfl (W := 1) rfl (by decide) (by decide) (by decide) (by decide) at_361 rfl fun T477 X478 => ?_
          refine w_ior X478 at_364 rfl ?_
          generalize hz479 : ((0 : Int32) ||| (f_bit z475)) = z479
          refine w_istore X478 at_365 rfl (L' := #[.val (.int p1), .val (.int p2), .val (.int p3), .val (.int p4), .val (.long q5), .second, .val (.int z1), .val (.ref a5), .val (.ref a16), .val (.int z100), .val (.int z101), .val (.ref a105), .val (.int z418), .val (.int z419), .val (.int z431), .val (.int z479), .val (.int z475)]) rfl ?_
          refine w_iload X478 at_367 rfl rfl ?_
          refine w_iconst X478 at_369 (v := (1 : Int32)) rfl rfl ?_
          refine w_icmp_le X478 at_370 (by decide) (pcT := 387) (pcF := 373) (by decide) rfl (fun c480 => ?_) (fun c480 => ?_)
          · refine w_iload X478 at_387 rfl rfl ?_
            refine w_iconst X478 at_389 (v := (2 : Int32)) rfl rfl ?_
            refine w_icmp_le X478 at_390 (by decide) (pcT := 407) (pcF := 393) (by decide) rfl (fun c481 => ?_) (fun c481 => ?_)
            · refine w_iload X478 at_407 rfl rfl ?_
              refine w_iload X478 at_409 rfl rfl ?_
              refine w_icmp_ne X478 at_411 (by decide) (pcT := 418) (pcF := 414) (by decide) rfl (fun c482 => ?_) (fun c482 => ?_)
              · exact False.elim (c482 (by subst hz479 hz475; have k := CK.2.2.2; simp only [ac3, ac2, ac1, if_pos c442, if_neg c480, if_neg c481] at k; exact k))
              · refine w_iconst X478 at_414 (v := (1 : Int32)) rfl rfl ?_
                refine w_goto X478 at_415 (by decide) (pc' := 419) (by decide) ?_
                exact w_nreturn X478 (t := .boolean) (by simp) at_419 rfl trivial (by decide) (by decide)
            · refine w_iload X478 at_393 rfl rfl ?_
              refine w_aload X478 at_395 rfl rfl rfl ?_
              refine w_iconst X478 at_397 (v := (2 : Int32)) rfl rfl ?_
              refine w_virtualVP X478 (rm_get l Z a0 hw a105 (2 : Int32) ha127 pa128 wa129 ra130 hs407 (plc hs407 (remC hs4_ c4_ z101)) (remC hs4_ c4_ z101) ws4_ rs4_ h394 n0 X478.size ⟨n397, n398, n399, n400, n401, n402, n403, n404, n405, n406⟩ ⟨ne139, ne140, ne141, ne142, ne143, ne144, ne145, ne146, ne147, ne148⟩ ⟨gn107, g131, g132, g133, g134⟩ (by decide) (DLen _ m408).1) n397 (hw _ (List.mem_of_getElem? (i := 65) rfl)) (hw _ (List.mem_of_getElem? (i := 66) rfl)) (hw _ (List.mem_of_getElem? (i := 68) rfl)) (hw _ (List.mem_of_getElem? (i := 67) rfl)) (hw _ (List.mem_of_getElem? (i := 4) rfl)) (hw _ (List.mem_of_getElem? (i := 69) rfl)) (by decide) (argsL := [(.int (2 : Int32))]) (rest := [(.int z479)]) rfl (lenOf pd_8 rfl) rfl (W := 1) rfl (by decide) (by decide) (by decide) (by decide) at_398 rfl fun T483 X485 => ?_
              refine w_staticVP X485 (rm14 l Z a0 hw (hs407.getD ((2 : Int32)).toNatClampNeg 0) h394 n0 X485.size ) (hw _ (List.mem_of_getElem? (i := 70) rfl)) (hw _ (List.mem_of_getElem? (i := 71) rfl)) (hw _ (List.mem_of_getElem? (i := 49) rfl)) (hw _ (List.mem_of_getElem? (i := 72) rfl)) (by decide) (argsL := [(.int (hs407.getD ((2 : Int32)).toNatClampNeg 0))]) (rest := [(.int z479)]) rfl (lenOf pd_8 rfl) rfl (W := 1) rfl (by decide) (by decide) (by decide) (by decide) at_401 rfl fun T487 X488 => ?_
              refine w_ior X488 at_404 rfl ?_
              generalize hz489 : (z479 ||| (f_bit (hs407.getD ((2 : Int32)).toNatClampNeg 0))) = z489
              refine w_istore X488 at_405 rfl (L' := #[.val (.int p1), .val (.int p2), .val (.int p3), .val (.int p4), .val (.long q5), .second, .val (.int z1), .val (.ref a5), .val (.ref a16), .val (.int z100), .val (.int z101), .val (.ref a105), .val (.int z418), .val (.int z419), .val (.int z431), .val (.int z489), .val (.int z475)]) rfl ?_
              refine w_iload X488 at_407 rfl rfl ?_
              refine w_iload X488 at_409 rfl rfl ?_
              refine w_icmp_ne X488 at_411 (by decide) (pcT := 418) (pcF := 414) (by decide) rfl (fun c490 => ?_) (fun c490 => ?_)
              · exact False.elim (c490 (by subst hz489 hz479 hz475; have k := CK.2.2.2; simp only [ac3, ac2, ac1, if_pos c442, if_neg c480, if_pos c481] at k; exact k))
              · refine w_iconst X488 at_414 (v := (1 : Int32)) rfl rfl ?_
                refine w_goto X488 at_415 (by decide) (pc' := 419) (by decide) ?_
                exact w_nreturn X488 (t := .boolean) (by simp) at_419 rfl trivial (by decide) (by decide)
          · refine w_iload X478 at_373 rfl rfl ?_
            refine w_aload X478 at_375 rfl rfl rfl ?_
            refine w_iconst X478 at_377 (v := (1 : Int32)) rfl rfl ?_
            refine w_virtualVP X478 (rm_get l Z a0 hw a105 (1 : Int32) ha127 pa128 wa129 ra130 hs407 (plc hs407 (remC hs4_ c4_ z101)) (remC hs4_ c4_ z101) ws4_ rs4_ h394 n0 X478.size ⟨n397, n398, n399, n400, n401, n402, n403, n404, n405, n406⟩ ⟨ne139, ne140, ne141, ne142, ne143, ne144, ne145, ne146, ne147, ne148⟩ ⟨gn107, g131, g132, g133, g134⟩ (by decide) (DLen _ m408).1) n397 (hw _ (List.mem_of_getElem? (i := 65) rfl)) (hw _ (List.mem_of_getElem? (i := 66) rfl)) (hw _ (List.mem_of_getElem? (i := 68) rfl)) (hw _ (List.mem_of_getElem? (i := 67) rfl)) (hw _ (List.mem_of_getElem? (i := 4) rfl)) (hw _ (List.mem_of_getElem? (i := 69) rfl)) (by decide) (argsL := [(.int (1 : Int32))]) (rest := [(.int z479)]) rfl (lenOf pd_8 rfl) rfl (W := 1) rfl (by decide) (by decide) (by decide) (by decide) at_378 rfl fun T491 X493 => ?_
            refine w_staticVP X493 (rm14 l Z a0 hw (hs407.getD ((1 : Int32)).toNatClampNeg 0) h394 n0 X493.size ) (hw _ (List.mem_of_getElem? (i := 70) rfl)) (hw _ (List.mem_of_getElem? (i := 71) rfl)) (hw _ (List.mem_of_getElem? (i := 49) rfl)) (hw _ (List.mem_of_getElem? (i := 72) rfl)) (by decide) (argsL := [(.int (hs407.getD ((1 : Int32)).toNatClampNeg 0))]) (rest := [(.int z479)]) rfl (lenOf pd_8 rfl) rfl (W := 1) rfl (by decide) (by decide) (by decide) (by decide) at_381 rfl fun T495 X496 => ?_
            refine w_ior X496 at_384 rfl ?_
            generalize hz497 : (z479 ||| (f_bit (hs407.getD ((1 : Int32)).toNatClampNeg 0))) = z497
            refine w_istore X496 at_385 rfl (L' := #[.val (.int p1), .val (.int p2), .val (.int p3), .val (.int p4), .val (.long q5), .second, .val (.int z1), .val (.ref a5), .val (.ref a16), .val (.int z100), .val (.int z101), .val (.ref a105), .val (.int z418), .val (.int z419), .val (.int z431), .val (.int z497), .val (.int z475)]) rfl ?_
            refine w_iload X496 at_387 rfl rfl ?_
            refine w_iconst X496 at_389 (v := (2 : Int32)) rfl rfl ?_
            refine w_icmp_le X496 at_390 (by decide) (pcT := 407) (pcF := 393) (by decide) rfl (fun c498 => ?_) (fun c498 => ?_)
            · refine w_iload X496 at_407 rfl rfl ?_
              refine w_iload X496 at_409 rfl rfl ?_
              refine w_icmp_ne X496 at_411 (by decide) (pcT := 418) (pcF := 414) (by decide) rfl (fun c499 => ?_) (fun c499 => ?_)
              · exact False.elim (c499 (by subst hz497 hz479 hz475; have k := CK.2.2.2; simp only [ac3, ac2, ac1, if_pos c442, if_pos c480, if_neg c498] at k; exact k))
              · refine w_iconst X496 at_414 (v := (1 : Int32)) rfl rfl ?_
                refine w_goto X496 at_415 (by decide) (pc' := 419) (by decide) ?_
                exact w_nreturn X496 (t := .boolean) (by simp) at_419 rfl trivial (by decide) (by decide)
            · refine w_iload X496 at_393 rfl rfl ?_
              refine w_aload X496 at_395 rfl rfl rfl ?_
              refine w_iconst X496 at_397 (v := (2 : Int32)) rfl rfl ?_
              refine w_virtualVP X496 (rm_get l Z a0 hw a105 (2 : Int32) ha127 pa128 wa129 ra130 hs407 (plc hs407 (remC hs4_ c4_ z101)) (remC hs4_ c4_ z101) ws4_ rs4_ h394 n0 X496.size ⟨n397, n398, n399, n400, n401, n402, n403, n404, n405, n406⟩ ⟨ne139, ne140, ne141, ne142, ne143, ne144, ne145, ne146, ne147, ne148⟩ ⟨gn107, g131, g132, g133, g134⟩ (by decide) (DLen _ m408).1) n397 (hw _ (List.mem_of_getElem? (i := 65) rfl)) (hw _ (List.mem_of_getElem? (i := 66) rfl)) (hw _ (List.mem_of_getElem? (i := 68) rfl)) (hw _ (List.mem_of_getElem? (i := 67) rfl)) (hw _ (List.mem_of_getElem? (i := 4) rfl)) (hw _ (List.mem_of_getElem? (i := 69) rfl)) (by decide) (argsL := [(.int (2 : Int32))]) (rest := [(.int z497)]) rfl (lenOf pd_8 rfl) rfl (W := 1) rfl (by decide) (by decide) (by decide) (by decide) at_398 rfl fun T500 X502 => ?_
              refine w_staticVP X502 (rm14 l Z a0 hw (hs407.getD ((2 : Int32)).toNatClampNeg 0) h394 n0 X502.size ) (hw _ (List.mem_of_getElem? (i := 70) rfl)) (hw _ (List.mem_of_getElem? (i := 71) rfl)) (hw _ (List.mem_of_getElem? (i := 49) rfl)) (hw _ (List.mem_of_getElem? (i := 72) rfl)) (by decide) (argsL := [(.int (hs407.getD ((2 : Int32)).toNatClampNeg 0))]) (rest := [(.int z497)]) rfl (lenOf pd_8 rfl) rfl (W := 1) rfl (by decide) (by decide) (by decide) (by decide) at_401 rfl fun T504 X505 => ?_
              refine w_ior X505 at_404 rfl ?_
              generalize hz506 : (z497 ||| (f_bit (hs407.getD ((2 : Int32)).toNatClampNeg 0))) = z506
              refine w_istore X505 at_405 rfl (L' := #[.val (.int p1), .val (.int p2), .val (.int p3), .val (.int p4), .val (.long q5), .second, .val (.int z1), .val (.ref a5), .val (.ref a16), .val (.int z100), .val (.int z101), .val (.ref a105), .val (.int z418), .val (.int z419), .val (.int z431), .val (.int z506), .val (.int z475)]) rfl ?_
              refine w_iload X505 at_407 rfl rfl ?_
              refine w_iload X505 at_409 rfl rfl ?_
              refine w_icmp_ne X505 at_411 (by decide) (pcT := 418) (pcF := 414) (by decide) rfl (fun c507 => ?_) (fun c507 => ?_)
              · exact False.elim (c507 (by subst hz506 hz497 hz479 hz475; have k := CK.2.2.2; simp only [ac3, ac2, ac1, if_pos c442, if_pos c480, if_pos c498] at k; exact k))
              · refine w_iconst X505 at_414 (v := (1 : Int32)) rfl rfl ?_
                refine w_goto X505 at_415 (by decide) (pc' := 419) (by decide) ?_
                exact w_nreturn X505 (t := .boolean) (by simp) at_419 rfl trivial (by decide) (by decide)
        · exact False.elim (c476 (hz475.symm.trans ((CK.2.2.1 c442).trans hmin)))
    · exact False.elim (c441 (if_pos CK.2.1))
  · exact False.elim (c436 CK.1)
set_option maxRecDepth 65536 in
set_option maxHeartbeats 4000000 in
theorem comes_1 {Post : Tables → Env → Array Value → State → Outcome → State → Prop} (hpost : ∀ tb e args s v u, (limb_1_1.after args s (.returned v) u = true ∧ limb_1_2.after args s (.returned v) u = true ∧ True) → FrameEnd s (.returned v) u (Jvm.fieldLocs frame_1_writes args s ++ Jvm.arrayLocs frame_1_arrays args s ++ Jvm.staticLocs frame_1_statics s) 24 128 → Post tb e args s (.returned v) u) :
    ArmFor flags0 classFile x code maxLocals ret World_1 tables_1 room_1 Calls_1 rest_1 Pre_1 Post := by
  intro l hfl _ _ p e ha hc hk s m args below hf hA hF happ hP
  obtain ⟨hcalls, hrest, hpre⟩ := hP
  obtain ⟨-, -, -, hnamed, -, -, -, hat⟩ := (Spec.applies_iff hf).mp happ
  obtain ⟨hg, hn⟩ := and_e (Cond.before_iff.mp (show (Jvm.Cond.and given_1 narrow_1).before args s = true from hpre))
  obtain ⟨gc, hg⟩ := and_e hg
  obtain ⟨g0, hg⟩ := and_e hg
  obtain ⟨g1, hg⟩ := and_e hg
  obtain ⟨g2, hg⟩ := and_e hg
  obtain ⟨g3, hg⟩ := and_e hg
  have g4 := hg
  obtain ⟨w0, w1, w2, w3, w4, rfl⟩ : ∃ w0 w1 w2 w3 w4 : Value, args = #[w0, w1, w2, w3, w4] := by
    have hs : args.size = 5 := by simpa [Cond.value, given_1] using gc
    obtain ⟨L⟩ := args
    match L, hs with
    | [w0, w1, w2, w3, w4], _ => exact ⟨w0, w1, w2, w3, w4, rfl⟩
  have hw := fun d (hd : d ∈ tables_1) => atoms_spec (ws := Jvm.Cond.code x code maxLocals ret :: tables_1) hat d (List.mem_cons_of_mem _ hd)
  obtain ⟨i0, ei0⟩ := is_v g0
  obtain rfl : w0 = (.int i0) := Option.some.inj ei0
  obtain ⟨i1, ei1⟩ := is_v g1
  obtain rfl : w1 = (.int i1) := Option.some.inj ei1
  obtain ⟨i2, ei2⟩ := is_v g2
  obtain rfl : w2 = (.int i2) := Option.some.inj ei2
  obtain ⟨i3, ei3⟩ := is_v g3
  obtain rfl : w3 = (.int i3) := Option.some.inj ei3
  obtain ⟨i4, ei4⟩ := isL_v g4
  obtain rfl : w4 = (.long i4) := Option.some.inj ei4
  obtain ⟨n, o, h1, h2, h3, _, L, rfl, ⟨rfl, -, N, -⟩, hq⟩ := rm0 l s _ hw i0 i1 i2 i3 i4 s.heap s.heap.size (Nat.le_refl _) tables_1 p e ha hc hk s m _ below hf ((Spec.applies_iff_loose hf).mp happ).1 ⟨rfl, State.Warmed39.refl s, rfl⟩ trivial
  refine ⟨n, _, h1, h2, h3, hpost _ _ _ _ _ _ ⟨Cond.after_iff.mpr rfl, Cond.after_iff.mpr (eq_i res_at (Term.int_eval (1)) rfl), trivial⟩ ⟨hq.1, hq.2.1, (hq.2.2.sift fun y hy => Or.inr (N y hy)).mono (by decide) (by decide)⟩⟩
theorem main_1_1 : Claimed_1_1 := comes_1 fun _ _ _ _ _ _ h hF => ⟨h.1, hF⟩
theorem main_1_2 : Claimed_1_2 := comes_1 fun _ _ _ _ _ _ h hF => ⟨h.2.1, hF⟩
end Jvm.Pilot.@@N@@
namespace Jvm.Pilot.@@N@@
open Jvm Jvm.ClassFile Sem Op Lib Jvm.Free Jvm.Stand Jvm.Pilot.@@N@@.Jvm.D
/-! MADE BY PROGRAM (witnessworld.py) out of the Statement's table words and the real class files: 12 classes; the members and pool entries that the words name. The judged class is class 1, her method 1. -/
namespace start1
open Jvm.ClassFile
def u (s : String) : CpInfo := .utf8 (stringToUtf16 s)
/-- a pool by its gaps: so many unusable entries, then the entry; so many at the end -/
def gap : Nat → List CpInfo → List CpInfo
  | 0, r => r
  | n + 1, r => .unusable :: gap n r
def poolList (es : List (Nat × CpInfo)) (last : Nat) : List CpInfo := es.foldr (fun e r => gap e.1 (e.2 :: r)) (gap last [])
def pool (es : List (Nat × CpInfo)) (last : Nat) : Array CpInfo := ⟨poolList es last⟩
def fileOf (pool : Array CpInfo) (this : Nat) (attrs : Array Attribute := #[]) (ms : Array MethodInfo := #[]) (fl : Nat := 33) (sup : Nat := 0) (ifs : Array Nat := #[]) (fds : Array FieldInfo := #[]) : ClassFile where
  minorVersion := 0
  majorVersion := 65
  constantPool := pool
  accessFlags := fl
  thisClass := this
  superClass := sup
  interfaces := ifs
  fields := fds
  methods := ms
  attributes := attrs
def plain (name : String) (sup : Option ClassId) : Class where
  name := name
  kind := .ordinary
  loader := none
  accessFlags := 33
  super := sup
  interfaces := #[]
  cf := none
  fields := #[]
  methods := #[]
  instanceTypes := #[]
  staticTypes := #[]
  resolved := #[]
  callSites := []
  init := .initialized
  statics := none
  mirror := none

def pool0 : Array CpInfo := pool [(5, u "<init>"), (0, u "()V"), (1, .class_ 10), (1, u "java/lang/Object")] 113

def k0c0 : Code := { maxStack := 0, maxLocals := 1, code := object_method_1_code, exceptionTable := #[], attributes := #[] }
def k0m0 : Method := { name := "<init>", desc := "()V", sig := { parameters := [], returnType := none }, accessFlags := 1, code := some k0c0 }
/-- java/lang/Object -/
def k0 : Class := { plain "java/lang/Object" none with
  accessFlags := 33
  interfaces := #[]
  cf := some (fileOf pool0 8 #[] #[{ accessFlags := 1, nameIndex := 5, descriptorIndex := 6, attributes := #[] }] 33 0 #[] #[])
  fields := #[]
  methods := #[k0m0]
  instanceTypes := #[]
  staticTypes := #[]
  resolved := Array.replicate 124 none
  statics := none }

def pool1 : Array CpInfo := pool [(2, .class_ 4), (1, u "java/lang/Object"), (0, u "<init>"), (0, u "()V"), (0, .class_ 8), (0, u "com/example/knotweave/knotweave/OpenNeeds"), (0, .methodref 7 10), (0, .nameAndType 5 11), (0, u "(I)V"), (0, .methodref 7 13), (0, .nameAndType 14 15), (0, u "put"), (0, u "(IIJ)V"), (0, .methodref 7 17), (0, .nameAndType 18 11), (0, u "remove"), (0, .methodref 20 21), (0, .class_ 22), (0, .nameAndType 23 24), (0, u "com/example/knotweave/knotweave/OpenNeedsRemovePinLaw"), (0, u "pick"), (0, u "(III[I[J)I"), (0, .methodref 7 26), (0, .nameAndType 27 28), (0, u "count"), (0, u "()I"), (0, .methodref 7 30), (0, .nameAndType 31 32), (0, u "contains"), (0, u "(I)Z"), (0, .methodref 7 34), (0, .nameAndType 35 36), (0, u "get"), (0, u "(I)I"), (0, .methodref 20 38), (0, .nameAndType 39 36), (0, u "bit"), (2, u "law"), (0, u "(IIIIJ)Z")] 7

def k1m0 : Method := { name := "<init>", desc := "()V", sig := { parameters := [], returnType := none }, accessFlags := 1, code := none }
def k1c1 : Code := { maxStack := 6, maxLocals := 17, code := code, exceptionTable := #[], attributes := #[] }
def k1m1 : Method := { name := "law", desc := "(IIIIJ)Z", sig := { parameters := [.int, .int, .int, .int, .long], returnType := some .boolean }, accessFlags := 9, code := some k1c1 }
def k1c2 : Code := { maxStack := 4, maxLocals := 5, code := method_3_code, exceptionTable := #[], attributes := #[] }
def k1m2 : Method := { name := "pick", desc := "(III[I[J)I", sig := { parameters := [.int, .int, .int, (.array .int), (.array .long)], returnType := some .int }, accessFlags := 10, code := some k1c2 }
def k1c3 : Code := { maxStack := 2, maxLocals := 1, code := method_4_code, exceptionTable := #[], attributes := #[] }
def k1m3 : Method := { name := "bit", desc := "(I)I", sig := { parameters := [.int], returnType := some .int }, accessFlags := 10, code := some k1c3 }
/-- com/example/knotweave/knotweave/OpenNeedsRemovePinLaw -/
def k1 : Class := { plain "com/example/knotweave/knotweave/OpenNeedsRemovePinLaw" (some 0) with
  accessFlags := 49
  interfaces := #[]
  cf := some (fileOf pool1 20 #[] #[{ accessFlags := 1, nameIndex := 5, descriptorIndex := 6, attributes := #[] }, { accessFlags := 9, nameIndex := 42, descriptorIndex := 43, attributes := #[] }, { accessFlags := 10, nameIndex := 23, descriptorIndex := 24, attributes := #[] }, { accessFlags := 10, nameIndex := 39, descriptorIndex := 36, attributes := #[] }] 49 2 #[] #[])
  fields := #[]
  methods := #[k1m0, k1m1, k1m2, k1m3]
  instanceTypes := #[]
  staticTypes := #[]
  resolved := Array.replicate 51 none
  statics := none }

def pool2 : Array CpInfo := pool [(1, .methodref 2 3), (0, .class_ 4), (0, .nameAndType 5 6), (0, u "java/lang/Object"), (0, u "<init>"), (0, u "()V"), (0, .fieldref 8 9), (0, .class_ 10), (0, .nameAndType 11 12), (0, u "com/example/knotweave/knotweave/OpenNeeds"), (0, u "heap"), (0, u "[I"), (0, .fieldref 8 14), (0, .nameAndType 15 12), (0, u "placeOf"), (0, .fieldref 8 17), (0, .nameAndType 18 12), (0, u "waysOf"), (0, .fieldref 8 20), (0, .nameAndType 21 22), (0, u "rankOf"), (0, u "[J"), (0, .methodref 24 25), (0, .class_ 26), (0, .nameAndType 27 28), (0, u "java/util/Arrays"), (0, u "fill"), (0, u "([II)V"), (0, .fieldref 8 30), (0, .nameAndType 31 32), (0, u "count"), (0, u "I"), (0, .methodref 8 34), (0, .nameAndType 35 36), (0, u "siftUp"), (0, u "(I)V"), (0, .methodref 8 38), (0, .nameAndType 39 36), (0, u "siftDown"), (0, .methodref 8 41), (0, .nameAndType 42 43), (0, u "before"), (0, u "(II)Z"), (0, .methodref 8 45), (0, .nameAndType 46 47), (0, u "settle"), (0, u "(II)V"), (2, u "()I"), (0, u "get"), (0, u "(I)I"), (0, u "contains"), (0, u "(I)Z"), (1, u "put"), (0, u "(IIJ)V"), (0, u "remove")] 2

def k2c0 : Code := { maxStack := 2, maxLocals := 2, code := prog_39_method_1_code, exceptionTable := #[], attributes := #[] }
def k2m0 : Method := { name := "<init>", desc := "(I)V", sig := { parameters := [.int], returnType := none }, accessFlags := 0, code := some k2c0 }
def k2c1 : Code := { maxStack := 1, maxLocals := 1, code := prog_39_method_2_code, exceptionTable := #[], attributes := #[] }
def k2m1 : Method := { name := "count", desc := "()I", sig := { parameters := [], returnType := some .int }, accessFlags := 0, code := some k2c1 }
def k2c2 : Code := { maxStack := 2, maxLocals := 2, code := prog_39_method_3_code, exceptionTable := #[], attributes := #[] }
def k2m2 : Method := { name := "get", desc := "(I)I", sig := { parameters := [.int], returnType := some .int }, accessFlags := 0, code := some k2c2 }
def k2c3 : Code := { maxStack := 2, maxLocals := 2, code := prog_39_method_4_code, exceptionTable := #[], attributes := #[] }
def k2m3 : Method := { name := "contains", desc := "(I)Z", sig := { parameters := [.int], returnType := some .boolean }, accessFlags := 0, code := some k2c3 }
def k2c4 : Code := { maxStack := 5, maxLocals := 5, code := prog_39_method_5_code, exceptionTable := #[], attributes := #[] }
def k2m4 : Method := { name := "put", desc := "(IIJ)V", sig := { parameters := [.int, .int, .long], returnType := none }, accessFlags := 0, code := some k2c4 }
def k2c5 : Code := { maxStack := 4, maxLocals := 4, code := prog_39_method_6_code, exceptionTable := #[], attributes := #[] }
def k2m5 : Method := { name := "remove", desc := "(I)V", sig := { parameters := [.int], returnType := none }, accessFlags := 0, code := some k2c5 }
def k2c6 : Code := { maxStack := 5, maxLocals := 4, code := prog_39_method_7_code, exceptionTable := #[], attributes := #[] }
def k2m6 : Method := { name := "siftUp", desc := "(I)V", sig := { parameters := [.int], returnType := none }, accessFlags := 2, code := some k2c6 }
def k2c7 : Code := { maxStack := 4, maxLocals := 4, code := prog_39_method_8_code, exceptionTable := #[], attributes := #[] }
def k2m7 : Method := { name := "siftDown", desc := "(I)V", sig := { parameters := [.int], returnType := none }, accessFlags := 2, code := some k2c7 }
def k2c8 : Code := { maxStack := 3, maxLocals := 3, code := prog_39_method_9_code, exceptionTable := #[], attributes := #[] }
def k2m8 : Method := { name := "settle", desc := "(II)V", sig := { parameters := [.int, .int], returnType := none }, accessFlags := 2, code := some k2c8 }
def k2c9 : Code := { maxStack := 4, maxLocals := 3, code := prog_39_method_10_code, exceptionTable := #[], attributes := #[] }
def k2m9 : Method := { name := "before", desc := "(II)Z", sig := { parameters := [.int, .int], returnType := some .boolean }, accessFlags := 2, code := some k2c9 }
/-- com/example/knotweave/knotweave/OpenNeeds -/
def k2 : Class := { plain "com/example/knotweave/knotweave/OpenNeeds" (some 0) with
  accessFlags := 48
  interfaces := #[]
  cf := some (fileOf pool2 8 #[] #[{ accessFlags := 0, nameIndex := 5, descriptorIndex := 36, attributes := #[] }, { accessFlags := 0, nameIndex := 31, descriptorIndex := 50, attributes := #[] }, { accessFlags := 0, nameIndex := 51, descriptorIndex := 52, attributes := #[] }, { accessFlags := 0, nameIndex := 53, descriptorIndex := 54, attributes := #[] }, { accessFlags := 0, nameIndex := 56, descriptorIndex := 57, attributes := #[] }, { accessFlags := 0, nameIndex := 58, descriptorIndex := 36, attributes := #[] }, { accessFlags := 2, nameIndex := 35, descriptorIndex := 36, attributes := #[] }, { accessFlags := 2, nameIndex := 39, descriptorIndex := 36, attributes := #[] }, { accessFlags := 2, nameIndex := 46, descriptorIndex := 47, attributes := #[] }, { accessFlags := 2, nameIndex := 42, descriptorIndex := 43, attributes := #[] }] 48 2 #[] #[{ accessFlags := 18, nameIndex := 11, descriptorIndex := 12, attributes := #[] }, { accessFlags := 18, nameIndex := 15, descriptorIndex := 12, attributes := #[] }, { accessFlags := 18, nameIndex := 18, descriptorIndex := 12, attributes := #[] }, { accessFlags := 18, nameIndex := 21, descriptorIndex := 22, attributes := #[] }, { accessFlags := 2, nameIndex := 31, descriptorIndex := 32, attributes := #[] }])
  fields := #[{ name := "heap", type := (.array .int), accessFlags := 18, slot := 0, constantValue := 0 }, { name := "placeOf", type := (.array .int), accessFlags := 18, slot := 1, constantValue := 0 }, { name := "waysOf", type := (.array .int), accessFlags := 18, slot := 2, constantValue := 0 }, { name := "rankOf", type := (.array .long), accessFlags := 18, slot := 3, constantValue := 0 }, { name := "count", type := .int, accessFlags := 2, slot := 4, constantValue := 0 }]
  methods := #[k2m0, k2m1, k2m2, k2m3, k2m4, k2m5, k2m6, k2m7, k2m8, k2m9]
  instanceTypes := #[(.array .int), (.array .int), (.array .int), (.array .long), .int]
  staticTypes := #[]
  resolved := Array.replicate 61 none
  statics := none }

def pool3 : Array CpInfo := pool [(2, .class_ 4), (1, u "java/lang/Object"), (0, u "<init>"), (0, u "()V"), (7, .class_ 16), (1, u "java/util/Arrays"), (57, .class_ 76), (1, u "java/util/Arrays$NaturalOrder"), (36, .class_ 115), (1, u "java/util/Arrays$LegacyMergeSort"), (1, u "Z"), (257, .class_ 376), (0, u "java/util/Arrays$ArrayList"), (68, u "$assertionsDisabled"), (269, u "MIN_ARRAY_SORT_GRAN"), (0, u "I"), (2, u "INSERTIONSORT_THRESHOLD"), (120, u "fill"), (4, u "([II)V"), (129, .class_ 976), (0, u "java/util/Arrays$ArrayItr")] 52

def k3m0 : Method := { name := "<init>", desc := "()V", sig := { parameters := [], returnType := none }, accessFlags := 2, code := none }
def k3c1 : Code := { maxStack := 3, maxLocals := 4, code := jdk_65_method_103_code, exceptionTable := #[], attributes := #[] }
def k3m1 : Method := { name := "fill", desc := "([II)V", sig := { parameters := [(.array .int), .int], returnType := none }, accessFlags := 9, code := some k3c1 }
/-- java/util/Arrays -/
def k3 : Class := { plain "java/util/Arrays" (some 0) with
  accessFlags := 49
  interfaces := #[]
  cf := some (fileOf pool3 14 #[.nestMembers #[975, 375, 113, 74]] #[{ accessFlags := 2, nameIndex := 5, descriptorIndex := 6, attributes := #[] }, { accessFlags := 9, nameIndex := 840, descriptorIndex := 845, attributes := #[] }] 49 2 #[] #[{ accessFlags := 26, nameIndex := 715, descriptorIndex := 716, attributes := #[] }, { accessFlags := 26, nameIndex := 719, descriptorIndex := 716, attributes := #[] }, { accessFlags := 4120, nameIndex := 445, descriptorIndex := 117, attributes := #[] }])
  fields := #[{ name := "MIN_ARRAY_SORT_GRAN", type := .int, accessFlags := 26, slot := 0, constantValue := 0 }, { name := "INSERTIONSORT_THRESHOLD", type := .int, accessFlags := 26, slot := 1, constantValue := 0 }, { name := "$assertionsDisabled", type := .boolean, accessFlags := 4120, slot := 2, constantValue := 0 }]
  methods := #[k3m0, k3m1]
  instanceTypes := #[]
  staticTypes := #[.int, .int, .boolean]
  resolved := Array.replicate 1029 none
  statics := none }

def pool4 : Array CpInfo := pool [(1, u "java/lang/Cloneable"), (0, .class_ 1), (0, u "java/lang/Object"), (0, .class_ 3)] 3

/-- java/lang/Cloneable -/
def k4 : Class := { plain "java/lang/Cloneable" (some 0) with
  accessFlags := 1537
  interfaces := #[]
  cf := some (fileOf pool4 2 #[] #[] 1537 4 #[] #[])
  fields := #[]
  methods := #[]
  instanceTypes := #[]
  staticTypes := #[]
  resolved := Array.replicate 8 none
  statics := none }

def pool5 : Array CpInfo := pool [(1, u "java/io/Serializable"), (0, .class_ 1), (0, u "java/lang/Object"), (0, .class_ 3)] 3

/-- java/io/Serializable -/
def k5 : Class := { plain "java/io/Serializable" (some 0) with
  accessFlags := 1537
  interfaces := #[]
  cf := some (fileOf pool5 2 #[] #[] 1537 4 #[] #[])
  fields := #[]
  methods := #[]
  instanceTypes := #[]
  staticTypes := #[]
  resolved := Array.replicate 8 none
  statics := none }

/-- the primitive byte -/
def k6 : Class := { plain "byte" none with kind := .primitive 'B', accessFlags := 0x411 }
/-- [B -/
def k7 : Class := { plain "[B" (some 0) with kind := .array 6 .byte, interfaces := #[4, 5], accessFlags := 1041 }

/-- the primitive int -/
def k8 : Class := { plain "int" none with kind := .primitive 'I', accessFlags := 0x411 }
/-- [I -/
def k9 : Class := { plain "[I" (some 0) with kind := .array 8 .int, interfaces := #[4, 5], accessFlags := 1041 }

/-- the primitive long -/
def k10 : Class := { plain "long" none with kind := .primitive 'J', accessFlags := 0x411 }
/-- [J -/
def k11 : Class := { plain "[J" (some 0) with kind := .array 10 .long, interfaces := #[4, 5], accessFlags := 1041 }

def heap : Heap := #[]
def classes : Array Class := #[k0, k1, k2, k3, k4, k5, k6, k7, k8, k9, k10, k11]
def interned : List (Array UInt16 × Addr) := []
def slotsUsed : Nat := 0
def theMethod : MethodId := ⟨1, 1⟩
def args0 : Array Value := #[.int 5, .int 4, .int 3, .int 6, .long 9]
def aboutOver (below : List Frame) : State where
  vm := { classes := classes, interned := interned.toArray }
  heap := heap
  slotsUsed := slotsUsed
  threads := #[{ frames := .invoking theMethod args0 :: below }]
def below0 : List Frame := [.native { method := ⟨0, 0⟩, args := #[] }]
def about1 : State := aboutOver below0
def p0 : Program := .bare "" "" ""
def e0 : Env := launch0.env 0 0 0
theorem w_frames : about1.frames = Frame.invoking theMethod args0 :: below0 := rfl
set_option maxRecDepth 65536 in
theorem w_args : argsFit about1.vm theMethod args0 = true := by decide +kernel
set_option maxRecDepth 65536 in
theorem w_heap : heapFits about1 = true := by decide +kernel
set_option maxRecDepth 65536 in
theorem w_runnable : about1.curStatus? = some .runnable := by decide +kernel
set_option maxRecDepth 65536 in
theorem w_alone : about1.alone = true := by decide +kernel
set_option maxRecDepth 65536 in
theorem w_named : about1.methodNamed? x = some theMethod := by decide +kernel
set_option maxRecDepth 65536 in
theorem w_hears : about1.hears theMethod below0 = true := by decide +kernel
set_option maxRecDepth 65536 in
theorem w_ripe : about1.ripe theMethod args0 below0 = true := by decide +kernel
theorem w_running : about1.status = .running := rfl
set_option maxRecDepth 65536 in
theorem w_room : about1.hasRoom e0.platform room_1 = true :=
  launch0.hasRoom_least _ room_1 (by decide +kernel) (by decide +kernel) (by decide +kernel) (by decide +kernel) (by decide +kernel) (by decide +kernel)
theorem allAtoms_all (ts : List Jvm.Cond) (a : Array Jvm.Value) (st : Jvm.State) : (allAtoms ts).before a st = ts.all (fun c => c.before a st) := by
  induction ts with
  | nil => rfl
  | cons c t ih =>
    show (Jvm.Cond.and c (allAtoms t)).before a st = _
    rw [Jvm.Cond.before_and, ih, List.all_cons]
def words1 : List Jvm.Cond := Jvm.Cond.code x code maxLocals ret :: tables_1
/-- a 'code' word, met by the world's own term for the bytes: nothing is compared byte by byte -/
theorem code_word {y : MethodName} {bytes : ByteArray} {mx : Nat} {rt : Option FieldType} {a : Array Value} {s : State} {m : MethodId} {meth : Method} {c : Code} (h1 : s.methodNamed? y = some m) (h2 : s.vm.method? m = some meth) (h3 : meth.code = some c) (h4 : c.code = bytes)
    (h5 : (c.maxLocals == mx && c.exceptionTable.isEmpty && decide (c.maxStack ≤ mostOperands) && decide (meth.sig.returnType = rt) && !meth.locks && decide (parseMethodDescriptor y.desc = some meth.sig)) = true) : (Jvm.Cond.code y bytes mx rt).before a s = true := by
  simp only [Bool.and_eq_true, beq_iff_eq, Bool.not_eq_true', decide_eq_true_eq] at h5
  obtain ⟨⟨⟨⟨⟨g1, g2⟩, g3⟩, g4⟩, g5⟩, g6⟩ := h5
  simp [Cond.before, Cond.holds, Cond.value, h1, h2, h3, h4, g1, g2, g3, g4, g5, g6]
def isCode : Jvm.Cond → Bool
  | .code _ _ _ _ => true
  | _ => false
theorem all_split {L : List Jvm.Cond} {P : Jvm.Cond → Bool} (h1 : L.all (fun c => isCode c || P c) = true) (h2 : ∀ c ∈ L.filter isCode, P c = true) : L.all P = true := by
  refine List.all_eq_true.mpr fun c hc => ?_
  have h := List.all_eq_true.mp h1 c hc
  rcases Bool.eq_false_or_eq_true (isCode c) with hi | hi
  · exact h2 c (List.mem_filter.mpr ⟨hc, hi⟩)
  · simpa [hi] using h
set_option maxRecDepth 65536 in
theorem w_c0 : (Jvm.Cond.code x code maxLocals ret).before args0 about1 = true := code_word (m := ⟨1, 1⟩) (meth := k1m1) (c := k1c1) (by decide +kernel) rfl rfl rfl (by decide +kernel)
set_option maxRecDepth 65536 in
theorem w_c1 : (Jvm.Cond.code ({ cls := "com/example/knotweave/knotweave/OpenNeeds", name := "<init>", desc := "(I)V" } : Jvm.MethodName) prog_39_method_1_code (2 : Nat) (Option.none : Option Jvm.ClassFile.FieldType)).before args0 about1 = true := code_word (m := ⟨2, 0⟩) (meth := k2m0) (c := k2c0) (by decide +kernel) rfl rfl rfl (by decide +kernel)
set_option maxRecDepth 65536 in
theorem w_c2 : (Jvm.Cond.code ({ cls := "java/lang/Object", name := "<init>", desc := "()V" } : Jvm.MethodName) object_method_1_code (1 : Nat) (Option.none : Option Jvm.ClassFile.FieldType)).before args0 about1 = true := code_word (m := ⟨0, 0⟩) (meth := k0m0) (c := k0c0) (by decide +kernel) rfl rfl rfl (by decide +kernel)
set_option maxRecDepth 65536 in
theorem w_c3 : (Jvm.Cond.code ({ cls := "java/util/Arrays", name := "fill", desc := "([II)V" } : Jvm.MethodName) jdk_65_method_103_code (4 : Nat) (Option.none : Option Jvm.ClassFile.FieldType)).before args0 about1 = true := code_word (m := ⟨3, 1⟩) (meth := k3m1) (c := k3c1) (by decide +kernel) rfl rfl rfl (by decide +kernel)
set_option maxRecDepth 65536 in
theorem w_c4 : (Jvm.Cond.code ({ cls := "com/example/knotweave/knotweave/OpenNeeds", name := "put", desc := "(IIJ)V" } : Jvm.MethodName) prog_39_method_5_code (5 : Nat) (Option.none : Option Jvm.ClassFile.FieldType)).before args0 about1 = true := code_word (m := ⟨2, 4⟩) (meth := k2m4) (c := k2c4) (by decide +kernel) rfl rfl rfl (by decide +kernel)
set_option maxRecDepth 65536 in
theorem w_c5 : (Jvm.Cond.code ({ cls := "com/example/knotweave/knotweave/OpenNeeds", name := "siftUp", desc := "(I)V" } : Jvm.MethodName) prog_39_method_7_code (4 : Nat) (Option.none : Option Jvm.ClassFile.FieldType)).before args0 about1 = true := code_word (m := ⟨2, 6⟩) (meth := k2m6) (c := k2c6) (by decide +kernel) rfl rfl rfl (by decide +kernel)
set_option maxRecDepth 65536 in
theorem w_c6 : (Jvm.Cond.code ({ cls := "com/example/knotweave/knotweave/OpenNeeds", name := "settle", desc := "(II)V" } : Jvm.MethodName) prog_39_method_9_code (3 : Nat) (Option.none : Option Jvm.ClassFile.FieldType)).before args0 about1 = true := code_word (m := ⟨2, 8⟩) (meth := k2m8) (c := k2c8) (by decide +kernel) rfl rfl rfl (by decide +kernel)
set_option maxRecDepth 65536 in
theorem w_c7 : (Jvm.Cond.code ({ cls := "com/example/knotweave/knotweave/OpenNeeds", name := "siftDown", desc := "(I)V" } : Jvm.MethodName) prog_39_method_8_code (4 : Nat) (Option.none : Option Jvm.ClassFile.FieldType)).before args0 about1 = true := code_word (m := ⟨2, 7⟩) (meth := k2m7) (c := k2c7) (by decide +kernel) rfl rfl rfl (by decide +kernel)
set_option maxRecDepth 65536 in
theorem w_c8 : (Jvm.Cond.code ({ cls := "com/example/knotweave/knotweave/OpenNeeds", name := "remove", desc := "(I)V" } : Jvm.MethodName) prog_39_method_6_code (4 : Nat) (Option.none : Option Jvm.ClassFile.FieldType)).before args0 about1 = true := code_word (m := ⟨2, 5⟩) (meth := k2m5) (c := k2c5) (by decide +kernel) rfl rfl rfl (by decide +kernel)
set_option maxRecDepth 65536 in
theorem w_c9 : (Jvm.Cond.code ({ cls := "com/example/knotweave/knotweave/OpenNeedsRemovePinLaw", name := "pick", desc := "(III[I[J)I" } : Jvm.MethodName) method_3_code (5 : Nat) (Option.some Jvm.ClassFile.FieldType.int)).before args0 about1 = true := code_word (m := ⟨1, 2⟩) (meth := k1m2) (c := k1c2) (by decide +kernel) rfl rfl rfl (by decide +kernel)
set_option maxRecDepth 65536 in
theorem w_c10 : (Jvm.Cond.code ({ cls := "com/example/knotweave/knotweave/OpenNeeds", name := "count", desc := "()I" } : Jvm.MethodName) prog_39_method_2_code (1 : Nat) (Option.some Jvm.ClassFile.FieldType.int)).before args0 about1 = true := code_word (m := ⟨2, 1⟩) (meth := k2m1) (c := k2c1) (by decide +kernel) rfl rfl rfl (by decide +kernel)
set_option maxRecDepth 65536 in
theorem w_c11 : (Jvm.Cond.code ({ cls := "com/example/knotweave/knotweave/OpenNeeds", name := "contains", desc := "(I)Z" } : Jvm.MethodName) prog_39_method_4_code (2 : Nat) (Option.some Jvm.ClassFile.FieldType.boolean)).before args0 about1 = true := code_word (m := ⟨2, 3⟩) (meth := k2m3) (c := k2c3) (by decide +kernel) rfl rfl rfl (by decide +kernel)
set_option maxRecDepth 65536 in
theorem w_c12 : (Jvm.Cond.code ({ cls := "com/example/knotweave/knotweave/OpenNeeds", name := "before", desc := "(II)Z" } : Jvm.MethodName) prog_39_method_10_code (3 : Nat) (Option.some Jvm.ClassFile.FieldType.boolean)).before args0 about1 = true := code_word (m := ⟨2, 9⟩) (meth := k2m9) (c := k2c9) (by decide +kernel) rfl rfl rfl (by decide +kernel)
set_option maxRecDepth 65536 in
theorem w_c13 : (Jvm.Cond.code ({ cls := "com/example/knotweave/knotweave/OpenNeeds", name := "get", desc := "(I)I" } : Jvm.MethodName) prog_39_method_3_code (2 : Nat) (Option.some Jvm.ClassFile.FieldType.int)).before args0 about1 = true := code_word (m := ⟨2, 2⟩) (meth := k2m2) (c := k2c2) (by decide +kernel) rfl rfl rfl (by decide +kernel)
set_option maxRecDepth 65536 in
theorem w_c14 : (Jvm.Cond.code ({ cls := "com/example/knotweave/knotweave/OpenNeedsRemovePinLaw", name := "bit", desc := "(I)I" } : Jvm.MethodName) method_4_code (1 : Nat) (Option.some Jvm.ClassFile.FieldType.int)).before args0 about1 = true := code_word (m := ⟨1, 3⟩) (meth := k1m3) (c := k1c3) (by decide +kernel) rfl rfl rfl (by decide +kernel)
def codes1 : List Jvm.Cond := [Jvm.Cond.code x code maxLocals ret, Jvm.Cond.code ({ cls := "com/example/knotweave/knotweave/OpenNeeds", name := "<init>", desc := "(I)V" } : Jvm.MethodName) prog_39_method_1_code (2 : Nat) (Option.none : Option Jvm.ClassFile.FieldType), Jvm.Cond.code ({ cls := "java/lang/Object", name := "<init>", desc := "()V" } : Jvm.MethodName) object_method_1_code (1 : Nat) (Option.none : Option Jvm.ClassFile.FieldType), Jvm.Cond.code ({ cls := "java/util/Arrays", name := "fill", desc := "([II)V" } : Jvm.MethodName) jdk_65_method_103_code (4 : Nat) (Option.none : Option Jvm.ClassFile.FieldType), Jvm.Cond.code ({ cls := "com/example/knotweave/knotweave/OpenNeeds", name := "put", desc := "(IIJ)V" } : Jvm.MethodName) prog_39_method_5_code (5 : Nat) (Option.none : Option Jvm.ClassFile.FieldType), Jvm.Cond.code ({ cls := "com/example/knotweave/knotweave/OpenNeeds", name := "siftUp", desc := "(I)V" } : Jvm.MethodName) prog_39_method_7_code (4 : Nat) (Option.none : Option Jvm.ClassFile.FieldType), Jvm.Cond.code ({ cls := "com/example/knotweave/knotweave/OpenNeeds", name := "settle", desc := "(II)V" } : Jvm.MethodName) prog_39_method_9_code (3 : Nat) (Option.none : Option Jvm.ClassFile.FieldType), Jvm.Cond.code ({ cls := "com/example/knotweave/knotweave/OpenNeeds", name := "siftDown", desc := "(I)V" } : Jvm.MethodName) prog_39_method_8_code (4 : Nat) (Option.none : Option Jvm.ClassFile.FieldType), Jvm.Cond.code ({ cls := "com/example/knotweave/knotweave/OpenNeeds", name := "remove", desc := "(I)V" } : Jvm.MethodName) prog_39_method_6_code (4 : Nat) (Option.none : Option Jvm.ClassFile.FieldType), Jvm.Cond.code ({ cls := "com/example/knotweave/knotweave/OpenNeedsRemovePinLaw", name := "pick", desc := "(III[I[J)I" } : Jvm.MethodName) method_3_code (5 : Nat) (Option.some Jvm.ClassFile.FieldType.int), Jvm.Cond.code ({ cls := "com/example/knotweave/knotweave/OpenNeeds", name := "count", desc := "()I" } : Jvm.MethodName) prog_39_method_2_code (1 : Nat) (Option.some Jvm.ClassFile.FieldType.int), Jvm.Cond.code ({ cls := "com/example/knotweave/knotweave/OpenNeeds", name := "contains", desc := "(I)Z" } : Jvm.MethodName) prog_39_method_4_code (2 : Nat) (Option.some Jvm.ClassFile.FieldType.boolean), Jvm.Cond.code ({ cls := "com/example/knotweave/knotweave/OpenNeeds", name := "before", desc := "(II)Z" } : Jvm.MethodName) prog_39_method_10_code (3 : Nat) (Option.some Jvm.ClassFile.FieldType.boolean), Jvm.Cond.code ({ cls := "com/example/knotweave/knotweave/OpenNeeds", name := "get", desc := "(I)I" } : Jvm.MethodName) prog_39_method_3_code (2 : Nat) (Option.some Jvm.ClassFile.FieldType.int), Jvm.Cond.code ({ cls := "com/example/knotweave/knotweave/OpenNeedsRemovePinLaw", name := "bit", desc := "(I)I" } : Jvm.MethodName) method_4_code (1 : Nat) (Option.some Jvm.ClassFile.FieldType.int)]
set_option maxRecDepth 65536 in
theorem codes_eq : words1.filter isCode = codes1 := rfl
theorem w_codes : ∀ c ∈ words1.filter isCode, c.before args0 about1 = true := by
  rw [codes_eq]
  intro c hc
  simp only [codes1, List.mem_cons, List.not_mem_nil, or_false] at hc
  rcases hc with rfl | rfl | rfl | rfl | rfl | rfl | rfl | rfl | rfl | rfl | rfl | rfl | rfl | rfl | rfl
  · exact w_c0
  · exact w_c1
  · exact w_c2
  · exact w_c3
  · exact w_c4
  · exact w_c5
  · exact w_c6
  · exact w_c7
  · exact w_c8
  · exact w_c9
  · exact w_c10
  · exact w_c11
  · exact w_c12
  · exact w_c13
  · exact w_c14
set_option maxRecDepth 65536 in
theorem w_t1 : (words1.take 24).all (fun c => isCode c || c.before args0 about1) = true := by decide +kernel
set_option maxRecDepth 65536 in
theorem w_t2 : ((words1.drop 24).take 24).all (fun c => isCode c || c.before args0 about1) = true := by decide +kernel
set_option maxRecDepth 65536 in
theorem w_t3 : (((words1.drop 24).drop 24).take 24).all (fun c => isCode c || c.before args0 about1) = true := by decide +kernel
set_option maxRecDepth 65536 in
theorem w_t4 : (((words1.drop 24).drop 24).drop 24).all (fun c => isCode c || c.before args0 about1) = true := by decide +kernel
theorem w_tables : (allAtoms (Jvm.Cond.code x code maxLocals ret :: tables_1)).before args0 about1 = true := by
  rw [allAtoms_all]
  show words1.all (fun c => c.before args0 about1) = true
  refine all_split ?_ w_codes
  rw [← List.take_append_drop 24 words1, List.all_append, w_t1, ← List.take_append_drop 24 (words1.drop 24), List.all_append, w_t2, ← List.take_append_drop 24 ((words1.drop 24).drop 24), List.all_append, w_t3, w_t4]
  rfl
set_option maxRecDepth 65536 in
theorem w_case : (Jvm.Cond.and given_1 narrow_1).before args0 about1 = true := by decide +kernel
theorem w_applies : (headSpec (Jvm.Cond.code x code maxLocals ret :: tables_1) room_1).applies x e0.platform about1 = true :=
  (Spec.applies_iff w_frames).mpr ⟨w_running, w_runnable, w_alone, w_named, w_hears, w_ripe, w_room, w_tables⟩
theorem atStart : AtStart classFile x code maxLocals ret World_1 tables_1 room_1 Calls_1 rest_1 Pre_1 launch0 p0 e0 about1 theMethod args0 below0 :=
  ⟨lists_1, trivial, launch0.admits_env _ _ _, launch0.least_env, fairChoices_fair.cas, fairChoices_fair.clock, w_frames, w_args, w_heap, w_applies, trivial, trivial, w_case⟩
end start1
theorem witness_1 : WitnessClaimed_1 := ⟨start1.p0, start1.e0, start1.about1, start1.theMethod, start1.args0, start1.below0, start1.atStart⟩
end Jvm.Pilot.@@N@@
