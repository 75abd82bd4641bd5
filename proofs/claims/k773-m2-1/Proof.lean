import JvmDerived
import JvmDerived.Pilot.@@N@@Statement
import JvmDerived.Pilot.@@N@@Code
set_option linter.unusedVariables false
set_option linter.unusedSimpArgs false
namespace Jvm.OwnWalk
open Sem ClassFile Op Lib Jvm.Stand Jvm.Free Jvm.LawKit Jvm.RoadKit
/-- where a run stands: the library's Stand, its written places new, its heap -/
def Sd (p : Program) (l : Launch) (e : Env) (R : Room) (s : State) (m : MethodId) (args : Array Value) (below : List Frame) (meth : Method) (c : Code) (n0 : Nat) (T : State) (h : Heap) (cells slots : Nat) : Prop :=
  ∃ locs, Stand p l e R s m args below meth c T locs cells slots ∧ Fr n0 locs ∧ T.heap = h ∧ n0 ≤ s.heap.size
/-- what stays through a walk -/
def Cx (Z : State) (own nm : String) (bytes : ByteArray) (maxL : Nat) (ret : Option FieldType) (p : Program) (s : State) (m : MethodId) (meth : Method) (c : Code) : Prop :=
  p.tables.exec = Jvm.exec ∧ c.code = bytes ∧ Z.Warmed39 s.vm ∧ s.vm.findClass own = some m.cls ∧ meth.name = nm ∧ c.maxLocals = maxL ∧ meth.sig.returnType = ret ∧ meth.locks = false
/-- from A the body returns, and P holds of what it returns and of the heap -/
def Gl (p : Program) (e : Env) (below : List Frame) (s : State) (n0 : Nat) (P : Option Value → Heap → Prop) (C S : Nat) (A : State) : Prop :=
  ∃ t o, Steps p.tables e below A t ∧ t.status = .running ∧ Ended t below o ∧ ∃ v L, o = .returned v ∧ (P v t.heap ∧ Fr n0 L) ∧ FrameEnd s o t L C S
/-- a method's contract -/
def Con (l : Launch) (Z : State) (y : MethodName) (bytes : ByteArray) (maxL : Nat) (ret : Option FieldType) (ws : List Jvm.Cond) (rm : Room) (C S : Nat) (as' : Array Value) (h0 : Heap) (n0 : Nat) (P : Option Value → Heap → Prop) : Prop :=
  MetFree l y (head1 (Jvm.Cond.code y bytes maxL ret :: ws) rm) (fun a U => a = as' ∧ Z.Warmed39 U.vm ∧ U.heap = h0) (fun _ _ _ _ _ => True) (fun _ U o U' => ∃ v L, o = .returned v ∧ (P v U'.heap ∧ Fr n0 L) ∧ FrameEnd U o U' L C S)
theorem Con.met {l : Launch} {Z : State} {y : MethodName} {bytes : ByteArray} {maxL : Nat} {ret : Option FieldType} {ws : List Jvm.Cond} {rm : Room} {C S : Nat} {as' : Array Value} {h0 : Heap} {n0 : Nat} {P : Option Value → Heap → Prop} (h : Con l Z y bytes maxL ret ws rm C S as' h0 n0 P) :
  MetFree l y (head1 (Jvm.Cond.code y bytes maxL ret :: ws) rm) (fun a U => a = as' ∧ Z.Warmed39 U.vm ∧ U.heap = h0) (fun _ _ _ _ _ => True) (fun _ U o U' => ∃ v L, o = .returned v ∧ (P v U'.heap ∧ Fr n0 L) ∧ FrameEnd U o U' L C S) := h
theorem Con.of {l : Launch} {Z : State} {y : MethodName} {bytes : ByteArray} {maxL : Nat} {ret : Option FieldType} {ws : List Jvm.Cond} {rm : Room} {C S : Nat} {as' : Array Value} {h0 : Heap} {n0 : Nat} {P : Option Value → Heap → Prop} (hpl : plainFor y = true) (hn : n0 ≤ h0.size)
    (hb : ∀ p e s m below meth c T, Cx Z y.cls y.name bytes maxL ret p s m meth c → Sd p l e rm s m as' below meth c n0 T h0 0 0 → Gl p e below s n0 P C S (T.setTop (entryFrame m as' maxL))) : Con l Z y bytes maxL ret ws rm C S as' h0 n0 P := by
  refine MetFree.of_bodySF hpl hisR ?_
  intro p e s m args below meth c s₁ Bd hml0 hP hK
  obtain ⟨rfl, hZ, hh⟩ := hP
  have hlk : meth.locks = false := Bd.notSynchronized
  exact hb p e s m below meth c s₁ ⟨Bd.exec, Bd.bytes, hZ, findClass_of_methodNamed Bd.named, (name_of_methodNamed Bd.named Bd.method).1, hml0, Bd.returns, hlk⟩ ⟨[], Stand.of_body Bd, Fr.nil n0, by rw [← hh, Bd.state]; rfl, by rw [hh]; exact hn⟩
/-- the contract of a method that returns a value; of one that returns nothing -/
abbrev ConV (l : Launch) (Z : State) (y : MethodName) (bytes : ByteArray) (maxL : Nat) (ret : Option FieldType) (rm : Room) (as' : Array Value) (h0 : Heap) (n0 : Nat) (Q : Value → Heap → Prop) : Prop := Con l Z y bytes maxL ret [] rm rm.cells rm.slots as' h0 n0 (fun r h => ∃ v, r = some v ∧ Q v h)
abbrev ConN (l : Launch) (Z : State) (y : MethodName) (bytes : ByteArray) (maxL : Nat) (rm : Room) (as' : Array Value) (h0 : Heap) (n0 : Nat) (Q : Heap → Prop) : Prop := Con l Z y bytes maxL none [] rm rm.cells rm.slots as' h0 n0 (fun r h => r = none ∧ Q h)
section Walk
variable {p : Program} {l : Launch} {e : Env} {R : Room} {s : State} {m : MethodId} {args : Array Value} {below : List Frame} {meth : Method} {c : Code} {T A B : State} {h : Heap} {cells slots n0 C S : Nat} {P : Option Value → Heap → Prop}
variable {Z : State} {a0 : Array Value} {own nm : String} {bytes : ByteArray} {maxL : Nat} {ret : Option FieldType}
variable {pc n : Nat} {ls : Array Slot} {st : List Value}
theorem Gl.of (hst : ∀ t, Steps p.tables e below B t → Steps p.tables e below A t) (k : Gl p e below s n0 P C S B) : Gl p e below s n0 P C S A := by
  obtain ⟨t, o, h1, r⟩ := k; exact ⟨t, o, hst t h1, r⟩
theorem Sd.le (X : Sd p l e R s m args below meth c n0 T h cells slots) : n0 ≤ h.size := by
  obtain ⟨_, X, -, eh, hn⟩ := X
  have q : s.heap.size ≤ T.heap.size := X.same.2.1
  rw [← eh]; omega
theorem Gl.enter {as' : Array Value} (ef : entryFrame m as' maxL = mkF m 0 ls []) (k : Gl p e below s n0 P C S (T.setTop (mkF m 0 ls []))) : Gl p e below s n0 P C S (T.setTop (entryFrame m as' maxL)) := by rw [ef]; exact k
theorem gIload (X : Sd p l e R s m args below meth c n0 T h cells slots) (w : Cx Z own nm bytes maxL ret p s m meth c) {k : Nat} {v : Int32} (hd : decode bytes pc = .ok (.iload k, 2)) (hl : ls[k]? = some (.val (.int v))) (hn : pc + 2 = n) (K : Gl p e below s n0 P C S (T.setTop (mkF m n ls (.int v :: st)))) : Gl p e below s n0 P C S (T.setTop (mkF m pc ls st)) := by
  obtain ⟨_, X, -⟩ := X; obtain ⟨hx, hby, hZ, hown, -⟩ := w; subst hn
  exact Gl.of (fun t k => XS.iload X.here hx rfl (hb hby hd) hl k) K
theorem gIloadN (X : Sd p l e R s m args below meth c n0 T h cells slots) (w : Cx Z own nm bytes maxL ret p s m meth c) {k : Fin 4} {v : Int32} (hd : decode bytes pc = .ok (.iload_n k, 1)) (hl : ls[k.val]? = some (.val (.int v))) (hn : pc + 1 = n) (K : Gl p e below s n0 P C S (T.setTop (mkF m n ls (.int v :: st)))) : Gl p e below s n0 P C S (T.setTop (mkF m pc ls st)) := by
  obtain ⟨_, X, -⟩ := X; obtain ⟨hx, hby, hZ, hown, -⟩ := w; subst hn
  exact Gl.of (fun t k => XS.iloadN X.here hx rfl (hb hby hd) hl k) K
theorem gJload (X : Sd p l e R s m args below meth c n0 T h cells slots) (w : Cx Z own nm bytes maxL ret p s m meth c) {k : Nat} {v : Int64} (hd : decode bytes pc = .ok (.lload k, 2)) (hl : ls[k]? = some (.val (.long v))) (hn : pc + 2 = n) (K : Gl p e below s n0 P C S (T.setTop (mkF m n ls (.long v :: st)))) : Gl p e below s n0 P C S (T.setTop (mkF m pc ls st)) := by
  obtain ⟨_, X, -⟩ := X; obtain ⟨hx, hby, hZ, hown, -⟩ := w; subst hn
  exact Gl.of (fun t k => XT.lload X.here hx rfl (hb hby hd) hl k) K
theorem gJloadN (X : Sd p l e R s m args below meth c n0 T h cells slots) (w : Cx Z own nm bytes maxL ret p s m meth c) {k : Fin 4} {v : Int64} (hd : decode bytes pc = .ok (.lload_n k, 1)) (hl : ls[k.val]? = some (.val (.long v))) (hn : pc + 1 = n) (K : Gl p e below s n0 P C S (T.setTop (mkF m n ls (.long v :: st)))) : Gl p e below s n0 P C S (T.setTop (mkF m pc ls st)) := by
  obtain ⟨_, X, -⟩ := X; obtain ⟨hx, hby, hZ, hown, -⟩ := w; subst hn
  exact Gl.of (fun t k => XT.lloadN X.here hx rfl (hb hby hd) hl k) K
theorem gAload (X : Sd p l e R s m args below meth c n0 T h cells slots) (w : Cx Z own nm bytes maxL ret p s m meth c) {k : Nat} {v : Value} (hd : decode bytes pc = .ok (.aload k, 2)) (hl : ls[k]? = some (.val v)) (hv : v.isRef = true) (hn : pc + 2 = n) (K : Gl p e below s n0 P C S (T.setTop (mkF m n ls (v :: st)))) : Gl p e below s n0 P C S (T.setTop (mkF m pc ls st)) := by
  obtain ⟨_, X, -⟩ := X; obtain ⟨hx, hby, hZ, hown, -⟩ := w; subst hn
  exact Gl.of (fun t k => XS.aload X.here hx rfl (hb hby hd) hl hv k) K
theorem gAloadN (X : Sd p l e R s m args below meth c n0 T h cells slots) (w : Cx Z own nm bytes maxL ret p s m meth c) {k : Fin 4} {v : Value} (hd : decode bytes pc = .ok (.aload_n k, 1)) (hl : ls[k.val]? = some (.val v)) (hv : v.isRef = true) (hn : pc + 1 = n) (K : Gl p e below s n0 P C S (T.setTop (mkF m n ls (v :: st)))) : Gl p e below s n0 P C S (T.setTop (mkF m pc ls st)) := by
  obtain ⟨_, X, -⟩ := X; obtain ⟨hx, hby, hZ, hown, -⟩ := w; subst hn
  exact Gl.of (fun t k => XS.aloadN X.here hx rfl (hb hby hd) hl hv k) K
theorem gDload (X : Sd p l e R s m args below meth c n0 T h cells slots) (w : Cx Z own nm bytes maxL ret p s m meth c) {k : Nat} {v : UInt64} (hd : decode bytes pc = .ok (.dload k, 2)) (hl : ls[k]? = some (.val (.double v))) (hn : pc + 2 = n) (K : Gl p e below s n0 P C S (T.setTop (mkF m n ls (.double v :: st)))) : Gl p e below s n0 P C S (T.setTop (mkF m pc ls st)) := by
  obtain ⟨_, X, -⟩ := X; obtain ⟨hx, hby, hZ, hown, -⟩ := w; subst hn
  exact Gl.of (fun t k => XS.dload X.here hx rfl (hb hby hd) hl k) K
theorem gDloadN (X : Sd p l e R s m args below meth c n0 T h cells slots) (w : Cx Z own nm bytes maxL ret p s m meth c) {k : Fin 4} {v : UInt64} (hd : decode bytes pc = .ok (.dload_n k, 1)) (hl : ls[k.val]? = some (.val (.double v))) (hn : pc + 1 = n) (K : Gl p e below s n0 P C S (T.setTop (mkF m n ls (.double v :: st)))) : Gl p e below s n0 P C S (T.setTop (mkF m pc ls st)) := by
  obtain ⟨_, X, -⟩ := X; obtain ⟨hx, hby, hZ, hown, -⟩ := w; subst hn
  exact Gl.of (fun t k => XS.dloadN X.here hx rfl (hb hby hd) hl k) K
theorem gDstore (X : Sd p l e R s m args below meth c n0 T h cells slots) (w : Cx Z own nm bytes maxL ret p s m meth c) {k : Nat} {x : UInt64} (hd : decode bytes pc = .ok (.dstore k, 2)) (l' : Array Slot) (hl : storeLocals ls k (.double x) = some l') (hn : pc + 2 = n) (K : Gl p e below s n0 P C S (T.setTop (mkF m n l' st))) : Gl p e below s n0 P C S (T.setTop (mkF m pc ls (.double x :: st))) := by
  obtain ⟨_, X, -⟩ := X; obtain ⟨hx, hby, hZ, hown, -⟩ := w; subst hn
  exact Gl.of (fun t k => XS.dstore X.here hx rfl (hb hby hd) rfl hl k) K
theorem gDstoreN (X : Sd p l e R s m args below meth c n0 T h cells slots) (w : Cx Z own nm bytes maxL ret p s m meth c) {k : Fin 4} {x : UInt64} (hd : decode bytes pc = .ok (.dstore_n k, 1)) (l' : Array Slot) (hl : storeLocals ls k.val (.double x) = some l') (hn : pc + 1 = n) (K : Gl p e below s n0 P C S (T.setTop (mkF m n l' st))) : Gl p e below s n0 P C S (T.setTop (mkF m pc ls (.double x :: st))) := by
  obtain ⟨_, X, -⟩ := X; obtain ⟨hx, hby, hZ, hown, -⟩ := w; subst hn
  exact Gl.of (fun t k => XS.dstoreN X.here hx rfl (hb hby hd) rfl hl k) K
theorem gI2d (X : Sd p l e R s m args below meth c n0 T h cells slots) (w : Cx Z own nm bytes maxL ret p s m meth c) {x : Int32} {z : UInt64} (hd : decode bytes pc = .ok (.i2d, 1)) (hz : FP.i2d x = z) (hn : pc + 1 = n) (K : Gl p e below s n0 P C S (T.setTop (mkF m n ls (.double z :: st)))) : Gl p e below s n0 P C S (T.setTop (mkF m pc ls (.int x :: st))) := by
  obtain ⟨_, X, -⟩ := X; obtain ⟨hx, hby, hZ, hown, -⟩ := w; subst hn
  exact Gl.of (fun t k => XS.i2dS X.here hx rfl (hb hby hd) rfl hz k) K
theorem gL2d (X : Sd p l e R s m args below meth c n0 T h cells slots) (w : Cx Z own nm bytes maxL ret p s m meth c) {x : Int64} {z : UInt64} (hd : decode bytes pc = .ok (.l2d, 1)) (hz : FP.l2d x = z) (hn : pc + 1 = n) (K : Gl p e below s n0 P C S (T.setTop (mkF m n ls (.double z :: st)))) : Gl p e below s n0 P C S (T.setTop (mkF m pc ls (.long x :: st))) := by
  obtain ⟨_, X, -⟩ := X; obtain ⟨hx, hby, hZ, hown, -⟩ := w; subst hn
  exact Gl.of (fun t k => XS.l2dS X.here hx rfl (hb hby hd) rfl hz k) K
theorem gDneg (X : Sd p l e R s m args below meth c n0 T h cells slots) (w : Cx Z own nm bytes maxL ret p s m meth c) {x z : UInt64} (hd : decode bytes pc = .ok (.dneg, 1)) (hz : FP.dneg x = z) (hn : pc + 1 = n) (K : Gl p e below s n0 P C S (T.setTop (mkF m n ls (.double z :: st)))) : Gl p e below s n0 P C S (T.setTop (mkF m pc ls (.double x :: st))) := by
  obtain ⟨_, X, -⟩ := X; obtain ⟨hx, hby, hZ, hown, -⟩ := w; subst hn
  exact Gl.of (fun t k => XS.dnegS X.here hx rfl (hb hby hd) rfl hz k) K
theorem gDcmp (X : Sd p l e R s m args below meth c n0 T h cells slots) (w : Cx Z own nm bytes maxL ret p s m meth c) {x y : UInt64} {o : CmpOp} {z : Int32} (hd : decode bytes pc = .ok (.dcmp o, 1)) (hz : cmpValue (FP.dcmp x y) o = z) (hn : pc + 1 = n) (K : Gl p e below s n0 P C S (T.setTop (mkF m n ls (.int z :: st)))) : Gl p e below s n0 P C S (T.setTop (mkF m pc ls (.double y :: .double x :: st))) := by
  obtain ⟨_, X, -⟩ := X; obtain ⟨hx, hby, hZ, hown, -⟩ := w; subst hn
  exact Gl.of (fun t k => XS.dcmpS X.here hx rfl (hb hby hd) rfl hz k) K
theorem gDadd (X : Sd p l e R s m args below meth c n0 T h cells slots) (w : Cx Z own nm bytes maxL ret p s m meth c) {x y z : UInt64} (hd : decode bytes pc = .ok (.dadd, 1)) (hnn : Jvm.Free.Fl.NoNaN64 (FP.dadd x y)) (hz : FP.dadd x y = z) (hn : pc + 1 = n) (K : Gl p e below s n0 P C S (T.setTop (mkF m n ls (.double z :: st)))) : Gl p e below s n0 P C S (T.setTop (mkF m pc ls (.double y :: .double x :: st))) := by
  obtain ⟨_, X, -⟩ := X; obtain ⟨hx, hby, hZ, hown, -⟩ := w; subst hn
  exact Gl.of (fun t k => XS.daddS X.here hx rfl (hb hby hd) rfl hnn hz k) K
theorem gDsub (X : Sd p l e R s m args below meth c n0 T h cells slots) (w : Cx Z own nm bytes maxL ret p s m meth c) {x y z : UInt64} (hd : decode bytes pc = .ok (.dsub, 1)) (hnn : Jvm.Free.Fl.NoNaN64 (FP.dsub x y)) (hz : FP.dsub x y = z) (hn : pc + 1 = n) (K : Gl p e below s n0 P C S (T.setTop (mkF m n ls (.double z :: st)))) : Gl p e below s n0 P C S (T.setTop (mkF m pc ls (.double y :: .double x :: st))) := by
  obtain ⟨_, X, -⟩ := X; obtain ⟨hx, hby, hZ, hown, -⟩ := w; subst hn
  exact Gl.of (fun t k => XS.dsubS X.here hx rfl (hb hby hd) rfl hnn hz k) K
theorem gDmul (X : Sd p l e R s m args below meth c n0 T h cells slots) (w : Cx Z own nm bytes maxL ret p s m meth c) {x y z : UInt64} (hd : decode bytes pc = .ok (.dmul, 1)) (hnn : Jvm.Free.Fl.NoNaN64 (FP.dmul x y)) (hz : FP.dmul x y = z) (hn : pc + 1 = n) (K : Gl p e below s n0 P C S (T.setTop (mkF m n ls (.double z :: st)))) : Gl p e below s n0 P C S (T.setTop (mkF m pc ls (.double y :: .double x :: st))) := by
  obtain ⟨_, X, -⟩ := X; obtain ⟨hx, hby, hZ, hown, -⟩ := w; subst hn
  exact Gl.of (fun t k => XS.dmulS X.here hx rfl (hb hby hd) rfl hnn hz k) K
theorem gDdiv (X : Sd p l e R s m args below meth c n0 T h cells slots) (w : Cx Z own nm bytes maxL ret p s m meth c) {x y z : UInt64} (hd : decode bytes pc = .ok (.ddiv, 1)) (hnn : Jvm.Free.Fl.NoNaN64 (FP.ddiv x y)) (hz : FP.ddiv x y = z) (hn : pc + 1 = n) (K : Gl p e below s n0 P C S (T.setTop (mkF m n ls (.double z :: st)))) : Gl p e below s n0 P C S (T.setTop (mkF m pc ls (.double y :: .double x :: st))) := by
  obtain ⟨_, X, -⟩ := X; obtain ⟨hx, hby, hZ, hown, -⟩ := w; subst hn
  exact Gl.of (fun t k => XS.ddivS X.here hx rfl (hb hby hd) rfl hnn hz k) K
theorem gDconst0 (X : Sd p l e R s m args below meth c n0 T h cells slots) (w : Cx Z own nm bytes maxL ret p s m meth c) {z : UInt64} (hd : decode bytes pc = .ok (.dconst 0, 1)) (hz : FP.dconst0 = z) (hn : pc + 1 = n) (K : Gl p e below s n0 P C S (T.setTop (mkF m n ls (.double z :: st)))) : Gl p e below s n0 P C S (T.setTop (mkF m pc ls st)) := by
  obtain ⟨_, X, -⟩ := X; obtain ⟨hx, hby, hZ, hown, -⟩ := w; subst hn
  exact Gl.of (fun t k => XS.dconst0 X.here hx rfl (hb hby hd) hz k) K
theorem gDconst1 (X : Sd p l e R s m args below meth c n0 T h cells slots) (w : Cx Z own nm bytes maxL ret p s m meth c) {z : UInt64} (hd : decode bytes pc = .ok (.dconst 1, 1)) (hz : FP.dconst1 = z) (hn : pc + 1 = n) (K : Gl p e below s n0 P C S (T.setTop (mkF m n ls (.double z :: st)))) : Gl p e below s n0 P C S (T.setTop (mkF m pc ls st)) := by
  obtain ⟨_, X, -⟩ := X; obtain ⟨hx, hby, hZ, hown, -⟩ := w; subst hn
  exact Gl.of (fun t k => XS.dconst1 X.here hx rfl (hb hby hd) hz k) K
theorem gLdc2D (X : Sd p l e R s m args below meth c n0 T h cells slots) (w : Cx Z own nm bytes maxL ret p s m meth c) {i : Nat} {z : UInt64} (wc : (Jvm.Cond.constantDouble own i z).before a0 Z = true) (hd : decode bytes pc = .ok (.ldc2_w i, 3)) (hn : pc + 3 = n) (K : Gl p e below s n0 P C S (T.setTop (mkF m n ls (.double z :: st)))) : Gl p e below s n0 P C S (T.setTop (mkF m pc ls st)) := by
  obtain ⟨_, X, -⟩ := X; obtain ⟨hx, hby, hZ, hown, -⟩ := w; subst hn
  exact Gl.of (fun t k => X.ldc2DoubleC hx hown (mvT hZ wc (by simp [Cond.onTables, Cond.keepsFace, Cond.keeps, Cond.steady])) (g := mkF m pc ls st) rfl (hb hby hd) t k) K
theorem gIconst (X : Sd p l e R s m args below meth c n0 T h cells slots) (w : Cx Z own nm bytes maxL ret p s m meth c) {i : Int} {z : Int32} (hd : decode bytes pc = .ok (.iconst i, 1)) (hz : Int32.ofInt i = z) (hn : pc + 1 = n) (K : Gl p e below s n0 P C S (T.setTop (mkF m n ls (.int z :: st)))) : Gl p e below s n0 P C S (T.setTop (mkF m pc ls st)) := by
  obtain ⟨_, X, -⟩ := X; obtain ⟨hx, hby, hZ, hown, -⟩ := w; subst hn hz
  exact Gl.of (fun t k => XS.iconst X.here hx rfl (hb hby hd) k) K
theorem gBipush (X : Sd p l e R s m args below meth c n0 T h cells slots) (w : Cx Z own nm bytes maxL ret p s m meth c) {i : Int} {z : Int32} (hd : decode bytes pc = .ok (.bipush i, 2)) (hz : (Int8.ofInt i).toInt32 = z) (hn : pc + 2 = n) (K : Gl p e below s n0 P C S (T.setTop (mkF m n ls (.int z :: st)))) : Gl p e below s n0 P C S (T.setTop (mkF m pc ls st)) := by
  obtain ⟨_, X, -⟩ := X; obtain ⟨hx, hby, hZ, hown, -⟩ := w; subst hn hz
  exact Gl.of (fun t k => XS.bipush X.here hx rfl (hb hby hd) k) K
theorem gSipush (X : Sd p l e R s m args below meth c n0 T h cells slots) (w : Cx Z own nm bytes maxL ret p s m meth c) {i : Int} {z : Int32} (hd : decode bytes pc = .ok (.sipush i, 3)) (hz : (Int16.ofInt i).toInt32 = z) (hn : pc + 3 = n) (K : Gl p e below s n0 P C S (T.setTop (mkF m n ls (.int z :: st)))) : Gl p e below s n0 P C S (T.setTop (mkF m pc ls st)) := by
  obtain ⟨_, X, -⟩ := X; obtain ⟨hx, hby, hZ, hown, -⟩ := w; subst hn hz
  exact Gl.of (fun t k => XS.sipush X.here hx rfl (hb hby hd) k) K
theorem gLconst (X : Sd p l e R s m args below meth c n0 T h cells slots) (w : Cx Z own nm bytes maxL ret p s m meth c) {i : Fin 2} {z : Int64} (hd : decode bytes pc = .ok (.lconst i, 1)) (hz : Int64.ofNat i = z) (hn : pc + 1 = n) (K : Gl p e below s n0 P C S (T.setTop (mkF m n ls (.long z :: st)))) : Gl p e below s n0 P C S (T.setTop (mkF m pc ls st)) := by
  obtain ⟨_, X, -⟩ := X; obtain ⟨hx, hby, hZ, hown, -⟩ := w; subst hn hz
  exact Gl.of (fun t k => XT.lconst X.here hx rfl (hb hby hd) k) K
theorem gNull (X : Sd p l e R s m args below meth c n0 T h cells slots) (w : Cx Z own nm bytes maxL ret p s m meth c)  (hd : decode bytes pc = .ok (.aconst_null, 1)) (hn : pc + 1 = n) (K : Gl p e below s n0 P C S (T.setTop (mkF m n ls (.null :: st)))) : Gl p e below s n0 P C S (T.setTop (mkF m pc ls st)) := by
  obtain ⟨_, X, -⟩ := X; obtain ⟨hx, hby, hZ, hown, -⟩ := w; subst hn
  exact Gl.of (fun t k => XS.aconstNull X.here hx rfl (hb hby hd) k) K
theorem gLdc (X : Sd p l e R s m args below meth c n0 T h cells slots) (w : Cx Z own nm bytes maxL ret p s m meth c) {i : Nat} {z : Int32} (wc : (Jvm.Cond.constant own i z).before a0 Z = true) (hd : decode bytes pc = .ok (.ldc i, 2)) (hn : pc + 2 = n) (K : Gl p e below s n0 P C S (T.setTop (mkF m n ls (.int z :: st)))) : Gl p e below s n0 P C S (T.setTop (mkF m pc ls st)) := by
  obtain ⟨_, X, -⟩ := X; obtain ⟨hx, hby, hZ, hown, -⟩ := w; subst hn
  exact Gl.of (fun t k => X.ldcI hx hown (mvT hZ wc) rfl (hb hby hd) k) K
theorem gLdc2 (X : Sd p l e R s m args below meth c n0 T h cells slots) (w : Cx Z own nm bytes maxL ret p s m meth c) {i : Nat} {z : Int64} (wc : (Jvm.Cond.constantLong own i z).before a0 Z = true) (hd : decode bytes pc = .ok (.ldc2_w i, 3)) (hn : pc + 3 = n) (K : Gl p e below s n0 P C S (T.setTop (mkF m n ls (.long z :: st)))) : Gl p e below s n0 P C S (T.setTop (mkF m pc ls st)) := by
  obtain ⟨_, X, -⟩ := X; obtain ⟨hx, hby, hZ, hown, -⟩ := w; subst hn
  exact Gl.of (fun t k => X.ldc2J hx hown (mvT hZ wc) rfl (hb hby hd) k) K
theorem gIadd (X : Sd p l e R s m args below meth c n0 T h cells slots) (w : Cx Z own nm bytes maxL ret p s m meth c) {x y z : Int32} (hd : decode bytes pc = .ok (.iadd, 1)) (hz : x + y = z) (hn : pc + 1 = n) (K : Gl p e below s n0 P C S (T.setTop (mkF m n ls (.int z :: st)))) : Gl p e below s n0 P C S (T.setTop (mkF m pc ls (.int y :: .int x :: st))) := by
  obtain ⟨_, X, -⟩ := X; obtain ⟨hx, hby, hZ, hown, -⟩ := w; subst hn hz
  exact Gl.of (fun t k => XS.iadd X.here hx rfl (hb hby hd) rfl k) K
theorem gIsub (X : Sd p l e R s m args below meth c n0 T h cells slots) (w : Cx Z own nm bytes maxL ret p s m meth c) {x y z : Int32} (hd : decode bytes pc = .ok (.isub, 1)) (hz : x - y = z) (hn : pc + 1 = n) (K : Gl p e below s n0 P C S (T.setTop (mkF m n ls (.int z :: st)))) : Gl p e below s n0 P C S (T.setTop (mkF m pc ls (.int y :: .int x :: st))) := by
  obtain ⟨_, X, -⟩ := X; obtain ⟨hx, hby, hZ, hown, -⟩ := w; subst hn hz
  exact Gl.of (fun t k => XS.isub X.here hx rfl (hb hby hd) rfl k) K
theorem gImul (X : Sd p l e R s m args below meth c n0 T h cells slots) (w : Cx Z own nm bytes maxL ret p s m meth c) {x y z : Int32} (hd : decode bytes pc = .ok (.imul, 1)) (hz : x * y = z) (hn : pc + 1 = n) (K : Gl p e below s n0 P C S (T.setTop (mkF m n ls (.int z :: st)))) : Gl p e below s n0 P C S (T.setTop (mkF m pc ls (.int y :: .int x :: st))) := by
  obtain ⟨_, X, -⟩ := X; obtain ⟨hx, hby, hZ, hown, -⟩ := w; subst hn hz
  exact Gl.of (fun t k => XS.imul X.here hx rfl (hb hby hd) rfl k) K
theorem gIand (X : Sd p l e R s m args below meth c n0 T h cells slots) (w : Cx Z own nm bytes maxL ret p s m meth c) {x y z : Int32} (hd : decode bytes pc = .ok (.iand, 1)) (hz : x &&& y = z) (hn : pc + 1 = n) (K : Gl p e below s n0 P C S (T.setTop (mkF m n ls (.int z :: st)))) : Gl p e below s n0 P C S (T.setTop (mkF m pc ls (.int y :: .int x :: st))) := by
  obtain ⟨_, X, -⟩ := X; obtain ⟨hx, hby, hZ, hown, -⟩ := w; subst hn hz
  exact Gl.of (fun t k => XS.iand X.here hx rfl (hb hby hd) rfl k) K
theorem gIor (X : Sd p l e R s m args below meth c n0 T h cells slots) (w : Cx Z own nm bytes maxL ret p s m meth c) {x y z : Int32} (hd : decode bytes pc = .ok (.ior, 1)) (hz : x ||| y = z) (hn : pc + 1 = n) (K : Gl p e below s n0 P C S (T.setTop (mkF m n ls (.int z :: st)))) : Gl p e below s n0 P C S (T.setTop (mkF m pc ls (.int y :: .int x :: st))) := by
  obtain ⟨_, X, -⟩ := X; obtain ⟨hx, hby, hZ, hown, -⟩ := w; subst hn hz
  exact Gl.of (fun t k => XT.ior X.here hx rfl (hb hby hd) rfl k) K
theorem gIxor (X : Sd p l e R s m args below meth c n0 T h cells slots) (w : Cx Z own nm bytes maxL ret p s m meth c) {x y z : Int32} (hd : decode bytes pc = .ok (.ixor, 1)) (hz : x ^^^ y = z) (hn : pc + 1 = n) (K : Gl p e below s n0 P C S (T.setTop (mkF m n ls (.int z :: st)))) : Gl p e below s n0 P C S (T.setTop (mkF m pc ls (.int y :: .int x :: st))) := by
  obtain ⟨_, X, -⟩ := X; obtain ⟨hx, hby, hZ, hown, -⟩ := w; subst hn hz
  exact Gl.of (fun t k => XT.ixor X.here hx rfl (hb hby hd) rfl k) K
theorem gIshl (X : Sd p l e R s m args below meth c n0 T h cells slots) (w : Cx Z own nm bytes maxL ret p s m meth c) {x y z : Int32} (hd : decode bytes pc = .ok (.ishl, 1)) (hz : x <<< (y &&& 31) = z) (hn : pc + 1 = n) (K : Gl p e below s n0 P C S (T.setTop (mkF m n ls (.int z :: st)))) : Gl p e below s n0 P C S (T.setTop (mkF m pc ls (.int y :: .int x :: st))) := by
  obtain ⟨_, X, -⟩ := X; obtain ⟨hx, hby, hZ, hown, -⟩ := w; subst hn hz
  exact Gl.of (fun t k => XT.ishl X.here hx rfl (hb hby hd) rfl k) K
theorem gIshr (X : Sd p l e R s m args below meth c n0 T h cells slots) (w : Cx Z own nm bytes maxL ret p s m meth c) {x y z : Int32} (hd : decode bytes pc = .ok (.ishr, 1)) (hz : x >>> (y &&& 31) = z) (hn : pc + 1 = n) (K : Gl p e below s n0 P C S (T.setTop (mkF m n ls (.int z :: st)))) : Gl p e below s n0 P C S (T.setTop (mkF m pc ls (.int y :: .int x :: st))) := by
  obtain ⟨_, X, -⟩ := X; obtain ⟨hx, hby, hZ, hown, -⟩ := w; subst hn hz
  exact Gl.of (fun t k => XT.ishr X.here hx rfl (hb hby hd) rfl k) K
theorem gIushr (X : Sd p l e R s m args below meth c n0 T h cells slots) (w : Cx Z own nm bytes maxL ret p s m meth c) {x y z : Int32} (hd : decode bytes pc = .ok (.iushr, 1)) (hz : XT.ushr x y = z) (hn : pc + 1 = n) (K : Gl p e below s n0 P C S (T.setTop (mkF m n ls (.int z :: st)))) : Gl p e below s n0 P C S (T.setTop (mkF m pc ls (.int y :: .int x :: st))) := by
  obtain ⟨_, X, -⟩ := X; obtain ⟨hx, hby, hZ, hown, -⟩ := w; subst hn hz
  exact Gl.of (fun t k => XT.iushr X.here hx rfl (hb hby hd) rfl k) K
theorem gIdiv (X : Sd p l e R s m args below meth c n0 T h cells slots) (w : Cx Z own nm bytes maxL ret p s m meth c) {x y z : Int32} (hd : decode bytes pc = .ok (.idiv, 1)) (hy : y ≠ 0) (hz : x / y = z) (hn : pc + 1 = n) (K : Gl p e below s n0 P C S (T.setTop (mkF m n ls (.int z :: st)))) : Gl p e below s n0 P C S (T.setTop (mkF m pc ls (.int y :: .int x :: st))) := by
  obtain ⟨_, X, -⟩ := X; obtain ⟨hx, hby, hZ, hown, -⟩ := w; subst hn hz
  exact Gl.of (fun t k => XS.idiv X.here hx rfl (hb hby hd) rfl hy k) K
theorem gIrem (X : Sd p l e R s m args below meth c n0 T h cells slots) (w : Cx Z own nm bytes maxL ret p s m meth c) {x y z : Int32} (hd : decode bytes pc = .ok (.irem, 1)) (hy : y ≠ 0) (hz : x % y = z) (hn : pc + 1 = n) (K : Gl p e below s n0 P C S (T.setTop (mkF m n ls (.int z :: st)))) : Gl p e below s n0 P C S (T.setTop (mkF m pc ls (.int y :: .int x :: st))) := by
  obtain ⟨_, X, -⟩ := X; obtain ⟨hx, hby, hZ, hown, -⟩ := w; subst hn hz
  exact Gl.of (fun t k => iremM X hx rfl (hb hby hd) rfl hy k) K
theorem gIneg (X : Sd p l e R s m args below meth c n0 T h cells slots) (w : Cx Z own nm bytes maxL ret p s m meth c) {x z : Int32} (hd : decode bytes pc = .ok (.ineg, 1)) (hz : -x = z) (hn : pc + 1 = n) (K : Gl p e below s n0 P C S (T.setTop (mkF m n ls (.int z :: st)))) : Gl p e below s n0 P C S (T.setTop (mkF m pc ls (.int x :: st))) := by
  obtain ⟨_, X, -⟩ := X; obtain ⟨hx, hby, hZ, hown, -⟩ := w; subst hn hz
  exact Gl.of (fun t k => XS.ineg X.here hx rfl (hb hby hd) rfl k) K
theorem gLadd (X : Sd p l e R s m args below meth c n0 T h cells slots) (w : Cx Z own nm bytes maxL ret p s m meth c) {x y z : Int64} (hd : decode bytes pc = .ok (.ladd, 1)) (hz : x + y = z) (hn : pc + 1 = n) (K : Gl p e below s n0 P C S (T.setTop (mkF m n ls (.long z :: st)))) : Gl p e below s n0 P C S (T.setTop (mkF m pc ls (.long y :: .long x :: st))) := by
  obtain ⟨_, X, -⟩ := X; obtain ⟨hx, hby, hZ, hown, -⟩ := w; subst hn hz
  exact Gl.of (fun t k => XT.ladd X.here hx rfl (hb hby hd) rfl k) K
theorem gLsub (X : Sd p l e R s m args below meth c n0 T h cells slots) (w : Cx Z own nm bytes maxL ret p s m meth c) {x y z : Int64} (hd : decode bytes pc = .ok (.lsub, 1)) (hz : x - y = z) (hn : pc + 1 = n) (K : Gl p e below s n0 P C S (T.setTop (mkF m n ls (.long z :: st)))) : Gl p e below s n0 P C S (T.setTop (mkF m pc ls (.long y :: .long x :: st))) := by
  obtain ⟨_, X, -⟩ := X; obtain ⟨hx, hby, hZ, hown, -⟩ := w; subst hn hz
  exact Gl.of (fun t k => XT.lsub X.here hx rfl (hb hby hd) rfl k) K
theorem gLmul (X : Sd p l e R s m args below meth c n0 T h cells slots) (w : Cx Z own nm bytes maxL ret p s m meth c) {x y z : Int64} (hd : decode bytes pc = .ok (.lmul, 1)) (hz : x * y = z) (hn : pc + 1 = n) (K : Gl p e below s n0 P C S (T.setTop (mkF m n ls (.long z :: st)))) : Gl p e below s n0 P C S (T.setTop (mkF m pc ls (.long y :: .long x :: st))) := by
  obtain ⟨_, X, -⟩ := X; obtain ⟨hx, hby, hZ, hown, -⟩ := w; subst hn hz
  exact Gl.of (fun t k => XT.lmul X.here hx rfl (hb hby hd) rfl k) K
theorem gLand (X : Sd p l e R s m args below meth c n0 T h cells slots) (w : Cx Z own nm bytes maxL ret p s m meth c) {x y z : Int64} (hd : decode bytes pc = .ok (.land, 1)) (hz : x &&& y = z) (hn : pc + 1 = n) (K : Gl p e below s n0 P C S (T.setTop (mkF m n ls (.long z :: st)))) : Gl p e below s n0 P C S (T.setTop (mkF m pc ls (.long y :: .long x :: st))) := by
  obtain ⟨_, X, -⟩ := X; obtain ⟨hx, hby, hZ, hown, -⟩ := w; subst hn hz
  exact Gl.of (fun t k => XT.land X.here hx rfl (hb hby hd) rfl k) K
theorem gLor (X : Sd p l e R s m args below meth c n0 T h cells slots) (w : Cx Z own nm bytes maxL ret p s m meth c) {x y z : Int64} (hd : decode bytes pc = .ok (.lor, 1)) (hz : x ||| y = z) (hn : pc + 1 = n) (K : Gl p e below s n0 P C S (T.setTop (mkF m n ls (.long z :: st)))) : Gl p e below s n0 P C S (T.setTop (mkF m pc ls (.long y :: .long x :: st))) := by
  obtain ⟨_, X, -⟩ := X; obtain ⟨hx, hby, hZ, hown, -⟩ := w; subst hn hz
  exact Gl.of (fun t k => XT.lor X.here hx rfl (hb hby hd) rfl k) K
theorem gLxor (X : Sd p l e R s m args below meth c n0 T h cells slots) (w : Cx Z own nm bytes maxL ret p s m meth c) {x y z : Int64} (hd : decode bytes pc = .ok (.lxor, 1)) (hz : x ^^^ y = z) (hn : pc + 1 = n) (K : Gl p e below s n0 P C S (T.setTop (mkF m n ls (.long z :: st)))) : Gl p e below s n0 P C S (T.setTop (mkF m pc ls (.long y :: .long x :: st))) := by
  obtain ⟨_, X, -⟩ := X; obtain ⟨hx, hby, hZ, hown, -⟩ := w; subst hn hz
  exact Gl.of (fun t k => XT.lxor X.here hx rfl (hb hby hd) rfl k) K
theorem gLshl (X : Sd p l e R s m args below meth c n0 T h cells slots) (w : Cx Z own nm bytes maxL ret p s m meth c) {x z : Int64} {y : Int32} (hd : decode bytes pc = .ok (.lshl, 1)) (hz : x <<< (y.toInt64 &&& 63) = z) (hn : pc + 1 = n) (K : Gl p e below s n0 P C S (T.setTop (mkF m n ls (.long z :: st)))) : Gl p e below s n0 P C S (T.setTop (mkF m pc ls (.int y :: .long x :: st))) := by
  obtain ⟨_, X, -⟩ := X; obtain ⟨hx, hby, hZ, hown, -⟩ := w; subst hn hz
  exact Gl.of (fun t k => XT.lshl X.here hx rfl (hb hby hd) rfl k) K
theorem gLshr (X : Sd p l e R s m args below meth c n0 T h cells slots) (w : Cx Z own nm bytes maxL ret p s m meth c) {x z : Int64} {y : Int32} (hd : decode bytes pc = .ok (.lshr, 1)) (hz : x >>> (y.toInt64 &&& 63) = z) (hn : pc + 1 = n) (K : Gl p e below s n0 P C S (T.setTop (mkF m n ls (.long z :: st)))) : Gl p e below s n0 P C S (T.setTop (mkF m pc ls (.int y :: .long x :: st))) := by
  obtain ⟨_, X, -⟩ := X; obtain ⟨hx, hby, hZ, hown, -⟩ := w; subst hn hz
  exact Gl.of (fun t k => XT.lshr X.here hx rfl (hb hby hd) rfl k) K
theorem gLushr (X : Sd p l e R s m args below meth c n0 T h cells slots) (w : Cx Z own nm bytes maxL ret p s m meth c) {x z : Int64} {y : Int32} (hd : decode bytes pc = .ok (.lushr, 1)) (hz : XT.ushrL x y = z) (hn : pc + 1 = n) (K : Gl p e below s n0 P C S (T.setTop (mkF m n ls (.long z :: st)))) : Gl p e below s n0 P C S (T.setTop (mkF m pc ls (.int y :: .long x :: st))) := by
  obtain ⟨_, X, -⟩ := X; obtain ⟨hx, hby, hZ, hown, -⟩ := w; subst hn hz
  exact Gl.of (fun t k => XT.lushr X.here hx rfl (hb hby hd) rfl k) K
theorem gLneg (X : Sd p l e R s m args below meth c n0 T h cells slots) (w : Cx Z own nm bytes maxL ret p s m meth c) {x z : Int64} (hd : decode bytes pc = .ok (.lneg, 1)) (hz : -x = z) (hn : pc + 1 = n) (K : Gl p e below s n0 P C S (T.setTop (mkF m n ls (.long z :: st)))) : Gl p e below s n0 P C S (T.setTop (mkF m pc ls (.long x :: st))) := by
  obtain ⟨_, X, -⟩ := X; obtain ⟨hx, hby, hZ, hown, -⟩ := w; subst hn hz
  exact Gl.of (fun t k => XT.lneg X.here hx rfl (hb hby hd) rfl k) K
theorem gLdiv (X : Sd p l e R s m args below meth c n0 T h cells slots) (w : Cx Z own nm bytes maxL ret p s m meth c) {x y z : Int64} (hd : decode bytes pc = .ok (.ldiv, 1)) (hy : y ≠ 0) (hz : x / y = z) (hn : pc + 1 = n) (K : Gl p e below s n0 P C S (T.setTop (mkF m n ls (.long z :: st)))) : Gl p e below s n0 P C S (T.setTop (mkF m pc ls (.long y :: .long x :: st))) := by
  obtain ⟨_, X, -⟩ := X; obtain ⟨hx, hby, hZ, hown, -⟩ := w; subst hn hz
  exact Gl.of (fun t k => XT.ldiv X.here hx rfl (hb hby hd) rfl hy k) K
theorem gLrem (X : Sd p l e R s m args below meth c n0 T h cells slots) (w : Cx Z own nm bytes maxL ret p s m meth c) {x y z : Int64} (hd : decode bytes pc = .ok (.lrem, 1)) (hy : y ≠ 0) (hz : x % y = z) (hn : pc + 1 = n) (K : Gl p e below s n0 P C S (T.setTop (mkF m n ls (.long z :: st)))) : Gl p e below s n0 P C S (T.setTop (mkF m pc ls (.long y :: .long x :: st))) := by
  obtain ⟨_, X, -⟩ := X; obtain ⟨hx, hby, hZ, hown, -⟩ := w; subst hn; rw [← lrem_mod] at hz; subst hz
  exact Gl.of (fun t k => XT.lrem X.here hx rfl (hb hby hd) rfl hy k) K
theorem gLcmp (X : Sd p l e R s m args below meth c n0 T h cells slots) (w : Cx Z own nm bytes maxL ret p s m meth c) {x y : Int64} {z : Int32} (hd : decode bytes pc = .ok (.lcmp, 1)) (hz : XT.cmpL x y = z) (hn : pc + 1 = n) (K : Gl p e below s n0 P C S (T.setTop (mkF m n ls (.int z :: st)))) : Gl p e below s n0 P C S (T.setTop (mkF m pc ls (.long y :: .long x :: st))) := by
  obtain ⟨_, X, -⟩ := X; obtain ⟨hx, hby, hZ, hown, -⟩ := w; subst hn hz
  exact Gl.of (fun t k => XT.lcmp X.here hx rfl (hb hby hd) rfl k) K
theorem gI2l (X : Sd p l e R s m args below meth c n0 T h cells slots) (w : Cx Z own nm bytes maxL ret p s m meth c) {x : Int32} {z : Int64} (hd : decode bytes pc = .ok (.i2l, 1)) (hz : x.toInt64 = z) (hn : pc + 1 = n) (K : Gl p e below s n0 P C S (T.setTop (mkF m n ls (.long z :: st)))) : Gl p e below s n0 P C S (T.setTop (mkF m pc ls (.int x :: st))) := by
  obtain ⟨_, X, -⟩ := X; obtain ⟨hx, hby, hZ, hown, -⟩ := w; subst hn hz
  exact Gl.of (fun t k => XT.i2l X.here hx rfl (hb hby hd) rfl k) K
theorem gL2i (X : Sd p l e R s m args below meth c n0 T h cells slots) (w : Cx Z own nm bytes maxL ret p s m meth c) {x : Int64} {z : Int32} (hd : decode bytes pc = .ok (.l2i, 1)) (hz : x.toInt32 = z) (hn : pc + 1 = n) (K : Gl p e below s n0 P C S (T.setTop (mkF m n ls (.int z :: st)))) : Gl p e below s n0 P C S (T.setTop (mkF m pc ls (.long x :: st))) := by
  obtain ⟨_, X, -⟩ := X; obtain ⟨hx, hby, hZ, hown, -⟩ := w; subst hn hz
  exact Gl.of (fun t k => XT.l2i X.here hx rfl (hb hby hd) rfl k) K
theorem gI2b (X : Sd p l e R s m args below meth c n0 T h cells slots) (w : Cx Z own nm bytes maxL ret p s m meth c) {x : Int32} {z : Int32} (hd : decode bytes pc = .ok (.i2b, 1)) (hz : x.toInt8.toInt32 = z) (hn : pc + 1 = n) (K : Gl p e below s n0 P C S (T.setTop (mkF m n ls (.int z :: st)))) : Gl p e below s n0 P C S (T.setTop (mkF m pc ls (.int x :: st))) := by
  obtain ⟨_, X, -⟩ := X; obtain ⟨hx, hby, hZ, hown, -⟩ := w; subst hn hz
  exact Gl.of (fun t k => XT.i2b X.here hx rfl (hb hby hd) rfl k) K
theorem gI2c (X : Sd p l e R s m args below meth c n0 T h cells slots) (w : Cx Z own nm bytes maxL ret p s m meth c) {x : Int32} {z : Int32} (hd : decode bytes pc = .ok (.i2c, 1)) (hz : x.toUInt32.toUInt16.toUInt32.toInt32 = z) (hn : pc + 1 = n) (K : Gl p e below s n0 P C S (T.setTop (mkF m n ls (.int z :: st)))) : Gl p e below s n0 P C S (T.setTop (mkF m pc ls (.int x :: st))) := by
  obtain ⟨_, X, -⟩ := X; obtain ⟨hx, hby, hZ, hown, -⟩ := w; subst hn hz
  exact Gl.of (fun t k => XT.i2c X.here hx rfl (hb hby hd) rfl k) K
theorem gI2s (X : Sd p l e R s m args below meth c n0 T h cells slots) (w : Cx Z own nm bytes maxL ret p s m meth c) {x : Int32} {z : Int32} (hd : decode bytes pc = .ok (.i2s, 1)) (hz : x.toInt16.toInt32 = z) (hn : pc + 1 = n) (K : Gl p e below s n0 P C S (T.setTop (mkF m n ls (.int z :: st)))) : Gl p e below s n0 P C S (T.setTop (mkF m pc ls (.int x :: st))) := by
  obtain ⟨_, X, -⟩ := X; obtain ⟨hx, hby, hZ, hown, -⟩ := w; subst hn hz
  exact Gl.of (fun t k => XT.i2s X.here hx rfl (hb hby hd) rfl k) K
theorem gIstore (X : Sd p l e R s m args below meth c n0 T h cells slots) (w : Cx Z own nm bytes maxL ret p s m meth c) {k : Nat} {x : Int32} (hd : decode bytes pc = .ok (.istore k, 2)) (l' : Array Slot) (hl : storeLocals ls k (.int x) = some l') (hn : pc + 2 = n) (K : Gl p e below s n0 P C S (T.setTop (mkF m n l' st))) : Gl p e below s n0 P C S (T.setTop (mkF m pc ls (.int x :: st))) := by
  obtain ⟨_, X, -⟩ := X; obtain ⟨hx, hby, hZ, hown, -⟩ := w; subst hn
  exact Gl.of (fun t k => XS.istore X.here hx rfl (hb hby hd) rfl hl k) K
theorem gIstoreN (X : Sd p l e R s m args below meth c n0 T h cells slots) (w : Cx Z own nm bytes maxL ret p s m meth c) {k : Fin 4} {x : Int32} (hd : decode bytes pc = .ok (.istore_n k, 1)) (l' : Array Slot) (hl : storeLocals ls k.val (.int x) = some l') (hn : pc + 1 = n) (K : Gl p e below s n0 P C S (T.setTop (mkF m n l' st))) : Gl p e below s n0 P C S (T.setTop (mkF m pc ls (.int x :: st))) := by
  obtain ⟨_, X, -⟩ := X; obtain ⟨hx, hby, hZ, hown, -⟩ := w; subst hn
  exact Gl.of (fun t k => XS.istoreN X.here hx rfl (hb hby hd) rfl hl k) K
theorem gJstore (X : Sd p l e R s m args below meth c n0 T h cells slots) (w : Cx Z own nm bytes maxL ret p s m meth c) {k : Nat} {x : Int64} (hd : decode bytes pc = .ok (.lstore k, 2)) (l' : Array Slot) (hl : storeLocals ls k (.long x) = some l') (hn : pc + 2 = n) (K : Gl p e below s n0 P C S (T.setTop (mkF m n l' st))) : Gl p e below s n0 P C S (T.setTop (mkF m pc ls (.long x :: st))) := by
  obtain ⟨_, X, -⟩ := X; obtain ⟨hx, hby, hZ, hown, -⟩ := w; subst hn
  exact Gl.of (fun t k => XT.lstore X.here hx rfl (hb hby hd) rfl hl k) K
theorem gJstoreN (X : Sd p l e R s m args below meth c n0 T h cells slots) (w : Cx Z own nm bytes maxL ret p s m meth c) {k : Fin 4} {x : Int64} (hd : decode bytes pc = .ok (.lstore_n k, 1)) (l' : Array Slot) (hl : storeLocals ls k.val (.long x) = some l') (hn : pc + 1 = n) (K : Gl p e below s n0 P C S (T.setTop (mkF m n l' st))) : Gl p e below s n0 P C S (T.setTop (mkF m pc ls (.long x :: st))) := by
  obtain ⟨_, X, -⟩ := X; obtain ⟨hx, hby, hZ, hown, -⟩ := w; subst hn
  exact Gl.of (fun t k => XT.lstoreN X.here hx rfl (hb hby hd) rfl hl k) K
theorem gAstore (X : Sd p l e R s m args below meth c n0 T h cells slots) (w : Cx Z own nm bytes maxL ret p s m meth c) {k : Nat} {x : Value} (hd : decode bytes pc = .ok (.astore k, 2)) (hv : x.isRef = true) (l' : Array Slot) (hl : storeLocals ls k x = some l') (hn : pc + 2 = n) (K : Gl p e below s n0 P C S (T.setTop (mkF m n l' st))) : Gl p e below s n0 P C S (T.setTop (mkF m pc ls (x :: st))) := by
  obtain ⟨_, X, -⟩ := X; obtain ⟨hx, hby, hZ, hown, -⟩ := w; subst hn
  exact Gl.of (fun t k => XS.astore X.here hx rfl (hb hby hd) rfl hv hl k) K
theorem gAstoreN (X : Sd p l e R s m args below meth c n0 T h cells slots) (w : Cx Z own nm bytes maxL ret p s m meth c) {k : Fin 4} {x : Value} (hd : decode bytes pc = .ok (.astore_n k, 1)) (hv : x.isRef = true) (l' : Array Slot) (hl : storeLocals ls k.val x = some l') (hn : pc + 1 = n) (K : Gl p e below s n0 P C S (T.setTop (mkF m n l' st))) : Gl p e below s n0 P C S (T.setTop (mkF m pc ls (x :: st))) := by
  obtain ⟨_, X, -⟩ := X; obtain ⟨hx, hby, hZ, hown, -⟩ := w; subst hn
  exact Gl.of (fun t k => XS.astoreN X.here hx rfl (hb hby hd) rfl hv hl k) K
theorem gIinc (X : Sd p l e R s m args below meth c n0 T h cells slots) (w : Cx Z own nm bytes maxL ret p s m meth c) {k : Nat} {i : Int} {x z : Int32} (hd : decode bytes pc = .ok (.iinc k i, 3)) (hl0 : ls[k]? = some (.val (.int x))) (hz : x + Int32.ofInt i = z) (l' : Array Slot) (hl : storeLocals ls k (.int z) = some l') (hn : pc + 3 = n) (K : Gl p e below s n0 P C S (T.setTop (mkF m n l' st))) : Gl p e below s n0 P C S (T.setTop (mkF m pc ls st)) := by
  obtain ⟨_, X, -⟩ := X; obtain ⟨hx, hby, hZ, hown, -⟩ := w; subst hn hz
  exact Gl.of (fun t k => XS.iinc X.here hx rfl (hb hby hd) hl0 hl k) K
theorem gDup (X : Sd p l e R s m args below meth c n0 T h cells slots) (w : Cx Z own nm bytes maxL ret p s m meth c) {x : Value} (hd : decode bytes pc = .ok (.dup, 1)) (hc : x.category = 1) (hn : pc + 1 = n) (K : Gl p e below s n0 P C S (T.setTop (mkF m n ls (x :: x :: st)))) : Gl p e below s n0 P C S (T.setTop (mkF m pc ls (x :: st))) := by
  obtain ⟨_, X, -⟩ := X; obtain ⟨hx, hby, hZ, hown, -⟩ := w; subst hn
  exact Gl.of (fun t k => XS.dup X.here hx rfl (hb hby hd) rfl hc k) K
theorem gPop (X : Sd p l e R s m args below meth c n0 T h cells slots) (w : Cx Z own nm bytes maxL ret p s m meth c) {x : Value} (hd : decode bytes pc = .ok (.pop, 1)) (hc : x.category = 1) (hn : pc + 1 = n) (K : Gl p e below s n0 P C S (T.setTop (mkF m n ls st))) : Gl p e below s n0 P C S (T.setTop (mkF m pc ls (x :: st))) := by
  obtain ⟨_, X, -⟩ := X; obtain ⟨hx, hby, hZ, hown, -⟩ := w; subst hn
  exact Gl.of (fun t k => XT.pop X.here hx rfl (hb hby hd) rfl hc k) K
theorem gDupX1 (X : Sd p l e R s m args below meth c n0 T h cells slots) (w : Cx Z own nm bytes maxL ret p s m meth c) {x y : Value} (hd : decode bytes pc = .ok (.dup_x1, 1)) (hc : x.category = 1) (hc' : y.category = 1) (hn : pc + 1 = n) (K : Gl p e below s n0 P C S (T.setTop (mkF m n ls (x :: y :: x :: st)))) : Gl p e below s n0 P C S (T.setTop (mkF m pc ls (x :: y :: st))) := by
  obtain ⟨_, X, -⟩ := X; obtain ⟨hx, hby, hZ, hown, -⟩ := w; subst hn
  exact Gl.of (fun t k => XT.dupX1 X.here hx rfl (hb hby hd) rfl hc hc' k) K
theorem gDup2 (X : Sd p l e R s m args below meth c n0 T h cells slots) (w : Cx Z own nm bytes maxL ret p s m meth c) {x y : Value} (hd : decode bytes pc = .ok (.dup2, 1)) (hc : x.category = 1) (hc' : y.category = 1) (hn : pc + 1 = n) (K : Gl p e below s n0 P C S (T.setTop (mkF m n ls (x :: y :: x :: y :: st)))) : Gl p e below s n0 P C S (T.setTop (mkF m pc ls (x :: y :: st))) := by
  obtain ⟨_, X, -⟩ := X; obtain ⟨hx, hby, hZ, hown, -⟩ := w; subst hn
  exact Gl.of (fun t k => XT.dup2 X.here hx rfl (hb hby hd) rfl hc hc' k) K
theorem gDup2L (X : Sd p l e R s m args below meth c n0 T h cells slots) (w : Cx Z own nm bytes maxL ret p s m meth c) {x : Int64} (hd : decode bytes pc = .ok (.dup2, 1)) (hn : pc + 1 = n) (K : Gl p e below s n0 P C S (T.setTop (mkF m n ls (.long x :: .long x :: st)))) : Gl p e below s n0 P C S (T.setTop (mkF m pc ls (.long x :: st))) := by
  obtain ⟨_, X, -⟩ := X; obtain ⟨hx, hby, hZ, hown, -⟩ := w; subst hn
  exact Gl.of (fun t k => XT.dup2L X.here hx rfl (hb hby hd) rfl k) K
theorem gGoto (X : Sd p l e R s m args below meth c n0 T h cells slots) (w : Cx Z own nm bytes maxL ret p s m meth c) {o : Int} (hd : decode bytes pc = .ok (.goto o, 3)) (ho : 0 ≤ (pc : Int) + o) (hp : ((pc : Int) + o).toNat = n) (K : Gl p e below s n0 P C S (T.setTop (mkF m n ls st))) : Gl p e below s n0 P C S (T.setTop (mkF m pc ls st)) := by
  obtain ⟨_, X, -⟩ := X; obtain ⟨hx, hby, hZ, hown, -⟩ := w; 
  exact Gl.of (fun t k => XS.goto X.here hx rfl rfl (hb hby hd) ho hp k) K
theorem gIf_eq (X : Sd p l e R s m args below meth c n0 T h cells slots) (w : Cx Z own nm bytes maxL ret p s m meth c) {x : Int32} {o : Int} (hd : decode bytes pc = .ok (.ifCond .eq o, 3)) (ho : 0 ≤ (pc : Int) + o) {n' : Nat} (hp : ((pc : Int) + o).toNat = n) (hn : pc + 3 = n') (K1 : x = (0 : Int32) ∧ x.toInt = 0 → Gl p e below s n0 P C S (T.setTop (mkF m n ls st))) (K2 : ¬ x = (0 : Int32) ∧ ¬ x.toInt = 0 → Gl p e below s n0 P C S (T.setTop (mkF m n' ls st))) : Gl p e below s n0 P C S (T.setTop (mkF m pc ls (.int x :: st))) := by
  obtain ⟨_, X, -⟩ := X; obtain ⟨hx, hby, -⟩ := w; subst hn
  by_cases q : x = (0 : Int32)
  · exact Gl.of (fun t k => XS.ifYes X.here hx rfl rfl (hb hby hd) rfl (XT.i0_eq_t q) ho hp k) (K1 ⟨q, by rw [q]; rfl⟩)
  · exact Gl.of (fun t k => XS.ifNo X.here hx rfl (hb hby hd) rfl (XT.i0_eq_f q) k) (K2 ⟨q, fun q' => q (Int32.toInt_inj.mp q')⟩)
theorem gIcmp_eq (X : Sd p l e R s m args below meth c n0 T h cells slots) (w : Cx Z own nm bytes maxL ret p s m meth c) {x y : Int32} {o : Int} (hd : decode bytes pc = .ok (.if_icmp .eq o, 3)) (ho : 0 ≤ (pc : Int) + o) {n' : Nat} (hp : ((pc : Int) + o).toNat = n) (hn : pc + 3 = n') (K1 : x = y ∧ x.toInt = y.toInt → Gl p e below s n0 P C S (T.setTop (mkF m n ls st))) (K2 : ¬ x = y ∧ ¬ x.toInt = y.toInt → Gl p e below s n0 P C S (T.setTop (mkF m n' ls st))) : Gl p e below s n0 P C S (T.setTop (mkF m pc ls (.int y :: .int x :: st))) := by
  obtain ⟨_, X, -⟩ := X; obtain ⟨hx, hby, -⟩ := w; subst hn
  by_cases q : x = y
  · exact Gl.of (fun t k => XS.icmpYes X.here hx rfl rfl (hb hby hd) rfl (XT.ii_eq_t q) ho hp k) (K1 ⟨q, by rw [q]⟩)
  · exact Gl.of (fun t k => XS.icmpNo X.here hx rfl (hb hby hd) rfl (XT.ii_eq_f q) k) (K2 ⟨q, fun q' => q (Int32.toInt_inj.mp q')⟩)
theorem gIfL_eq (X : Sd p l e R s m args below meth c n0 T h cells slots) (w : Cx Z own nm bytes maxL ret p s m meth c) {x y : Int64} {o : Int} (hd : decode bytes pc = .ok (.ifCond .eq o, 3)) (ho : 0 ≤ (pc : Int) + o) {n' : Nat} (hp : ((pc : Int) + o).toNat = n) (hn : pc + 3 = n') (K1 : x = y ∧ x.toInt = y.toInt → Gl p e below s n0 P C S (T.setTop (mkF m n ls st))) (K2 : ¬ x = y ∧ ¬ x.toInt = y.toInt → Gl p e below s n0 P C S (T.setTop (mkF m n' ls st))) : Gl p e below s n0 P C S (T.setTop (mkF m pc ls (.int (XT.cmpL x y) :: st))) := by
  obtain ⟨_, X, -⟩ := X; obtain ⟨hx, hby, -⟩ := w; subst hn
  by_cases q : x = y
  · exact Gl.of (fun t k => XS.ifYes X.here hx rfl rfl (hb hby hd) rfl (XT.ll_eq_t q) ho hp k) (K1 ⟨q, by rw [q]⟩)
  · exact Gl.of (fun t k => XS.ifNo X.here hx rfl (hb hby hd) rfl (XT.ll_eq_f q) k) (K2 ⟨q, fun q' => q (Int64.toInt_inj.mp q')⟩)
theorem gIf_ne (X : Sd p l e R s m args below meth c n0 T h cells slots) (w : Cx Z own nm bytes maxL ret p s m meth c) {x : Int32} {o : Int} (hd : decode bytes pc = .ok (.ifCond .ne o, 3)) (ho : 0 ≤ (pc : Int) + o) {n' : Nat} (hp : ((pc : Int) + o).toNat = n) (hn : pc + 3 = n') (K1 : ¬ x = (0 : Int32) ∧ ¬ x.toInt = 0 → Gl p e below s n0 P C S (T.setTop (mkF m n ls st))) (K2 : x = (0 : Int32) ∧ x.toInt = 0 → Gl p e below s n0 P C S (T.setTop (mkF m n' ls st))) : Gl p e below s n0 P C S (T.setTop (mkF m pc ls (.int x :: st))) := by
  obtain ⟨_, X, -⟩ := X; obtain ⟨hx, hby, -⟩ := w; subst hn
  by_cases q : x = (0 : Int32)
  · exact Gl.of (fun t k => XS.ifNo X.here hx rfl (hb hby hd) rfl (XT.i0_ne_f q) k) (K2 ⟨q, by rw [q]; rfl⟩)
  · exact Gl.of (fun t k => XS.ifYes X.here hx rfl rfl (hb hby hd) rfl (XT.i0_ne_t q) ho hp k) (K1 ⟨q, fun q' => q (Int32.toInt_inj.mp q')⟩)
theorem gIcmp_ne (X : Sd p l e R s m args below meth c n0 T h cells slots) (w : Cx Z own nm bytes maxL ret p s m meth c) {x y : Int32} {o : Int} (hd : decode bytes pc = .ok (.if_icmp .ne o, 3)) (ho : 0 ≤ (pc : Int) + o) {n' : Nat} (hp : ((pc : Int) + o).toNat = n) (hn : pc + 3 = n') (K1 : ¬ x = y ∧ ¬ x.toInt = y.toInt → Gl p e below s n0 P C S (T.setTop (mkF m n ls st))) (K2 : x = y ∧ x.toInt = y.toInt → Gl p e below s n0 P C S (T.setTop (mkF m n' ls st))) : Gl p e below s n0 P C S (T.setTop (mkF m pc ls (.int y :: .int x :: st))) := by
  obtain ⟨_, X, -⟩ := X; obtain ⟨hx, hby, -⟩ := w; subst hn
  by_cases q : x = y
  · exact Gl.of (fun t k => XS.icmpNo X.here hx rfl (hb hby hd) rfl (XT.ii_ne_f q) k) (K2 ⟨q, by rw [q]⟩)
  · exact Gl.of (fun t k => XS.icmpYes X.here hx rfl rfl (hb hby hd) rfl (XT.ii_ne_t q) ho hp k) (K1 ⟨q, fun q' => q (Int32.toInt_inj.mp q')⟩)
theorem gIfL_ne (X : Sd p l e R s m args below meth c n0 T h cells slots) (w : Cx Z own nm bytes maxL ret p s m meth c) {x y : Int64} {o : Int} (hd : decode bytes pc = .ok (.ifCond .ne o, 3)) (ho : 0 ≤ (pc : Int) + o) {n' : Nat} (hp : ((pc : Int) + o).toNat = n) (hn : pc + 3 = n') (K1 : ¬ x = y ∧ ¬ x.toInt = y.toInt → Gl p e below s n0 P C S (T.setTop (mkF m n ls st))) (K2 : x = y ∧ x.toInt = y.toInt → Gl p e below s n0 P C S (T.setTop (mkF m n' ls st))) : Gl p e below s n0 P C S (T.setTop (mkF m pc ls (.int (XT.cmpL x y) :: st))) := by
  obtain ⟨_, X, -⟩ := X; obtain ⟨hx, hby, -⟩ := w; subst hn
  by_cases q : x = y
  · exact Gl.of (fun t k => XS.ifNo X.here hx rfl (hb hby hd) rfl (XT.ll_ne_f q) k) (K2 ⟨q, by rw [q]⟩)
  · exact Gl.of (fun t k => XS.ifYes X.here hx rfl rfl (hb hby hd) rfl (XT.ll_ne_t q) ho hp k) (K1 ⟨q, fun q' => q (Int64.toInt_inj.mp q')⟩)
theorem gIf_lt (X : Sd p l e R s m args below meth c n0 T h cells slots) (w : Cx Z own nm bytes maxL ret p s m meth c) {x : Int32} {o : Int} (hd : decode bytes pc = .ok (.ifCond .lt o, 3)) (ho : 0 ≤ (pc : Int) + o) {n' : Nat} (hp : ((pc : Int) + o).toNat = n) (hn : pc + 3 = n') (K1 : x.toInt < 0 → Gl p e below s n0 P C S (T.setTop (mkF m n ls st))) (K2 : 0 ≤ x.toInt → Gl p e below s n0 P C S (T.setTop (mkF m n' ls st))) : Gl p e below s n0 P C S (T.setTop (mkF m pc ls (.int x :: st))) := by
  obtain ⟨_, X, -⟩ := X; obtain ⟨hx, hby, -⟩ := w; subst hn
  by_cases q : x < (0 : Int32)
  · exact Gl.of (fun t k => XS.ifYes X.here hx rfl rfl (hb hby hd) rfl (XT.i0_lt_t q) ho hp k) (K1 (Int32.lt_iff_toInt_lt.mp q))
  · exact Gl.of (fun t k => XS.ifNo X.here hx rfl (hb hby hd) rfl (XT.i0_lt_f q) k) (K2 (Int.not_lt.mp fun q' => q (Int32.lt_iff_toInt_lt.mpr q')))
theorem gIcmp_lt (X : Sd p l e R s m args below meth c n0 T h cells slots) (w : Cx Z own nm bytes maxL ret p s m meth c) {x y : Int32} {o : Int} (hd : decode bytes pc = .ok (.if_icmp .lt o, 3)) (ho : 0 ≤ (pc : Int) + o) {n' : Nat} (hp : ((pc : Int) + o).toNat = n) (hn : pc + 3 = n') (K1 : x.toInt < y.toInt → Gl p e below s n0 P C S (T.setTop (mkF m n ls st))) (K2 : y.toInt ≤ x.toInt → Gl p e below s n0 P C S (T.setTop (mkF m n' ls st))) : Gl p e below s n0 P C S (T.setTop (mkF m pc ls (.int y :: .int x :: st))) := by
  obtain ⟨_, X, -⟩ := X; obtain ⟨hx, hby, -⟩ := w; subst hn
  by_cases q : x < y
  · exact Gl.of (fun t k => XS.icmpYes X.here hx rfl rfl (hb hby hd) rfl (XT.ii_lt_t q) ho hp k) (K1 (Int32.lt_iff_toInt_lt.mp q))
  · exact Gl.of (fun t k => XS.icmpNo X.here hx rfl (hb hby hd) rfl (XT.ii_lt_f q) k) (K2 (Int.not_lt.mp fun q' => q (Int32.lt_iff_toInt_lt.mpr q')))
theorem gIfL_lt (X : Sd p l e R s m args below meth c n0 T h cells slots) (w : Cx Z own nm bytes maxL ret p s m meth c) {x y : Int64} {o : Int} (hd : decode bytes pc = .ok (.ifCond .lt o, 3)) (ho : 0 ≤ (pc : Int) + o) {n' : Nat} (hp : ((pc : Int) + o).toNat = n) (hn : pc + 3 = n') (K1 : x.toInt < y.toInt → Gl p e below s n0 P C S (T.setTop (mkF m n ls st))) (K2 : y.toInt ≤ x.toInt → Gl p e below s n0 P C S (T.setTop (mkF m n' ls st))) : Gl p e below s n0 P C S (T.setTop (mkF m pc ls (.int (XT.cmpL x y) :: st))) := by
  obtain ⟨_, X, -⟩ := X; obtain ⟨hx, hby, -⟩ := w; subst hn
  by_cases q : x < y
  · exact Gl.of (fun t k => XS.ifYes X.here hx rfl rfl (hb hby hd) rfl (XT.ll_lt_t q) ho hp k) (K1 (Int64.lt_iff_toInt_lt.mp q))
  · exact Gl.of (fun t k => XS.ifNo X.here hx rfl (hb hby hd) rfl (XT.ll_lt_f q) k) (K2 (Int.not_lt.mp fun q' => q (Int64.lt_iff_toInt_lt.mpr q')))
theorem gIf_ge (X : Sd p l e R s m args below meth c n0 T h cells slots) (w : Cx Z own nm bytes maxL ret p s m meth c) {x : Int32} {o : Int} (hd : decode bytes pc = .ok (.ifCond .ge o, 3)) (ho : 0 ≤ (pc : Int) + o) {n' : Nat} (hp : ((pc : Int) + o).toNat = n) (hn : pc + 3 = n') (K1 : 0 ≤ x.toInt → Gl p e below s n0 P C S (T.setTop (mkF m n ls st))) (K2 : x.toInt < 0 → Gl p e below s n0 P C S (T.setTop (mkF m n' ls st))) : Gl p e below s n0 P C S (T.setTop (mkF m pc ls (.int x :: st))) := by
  obtain ⟨_, X, -⟩ := X; obtain ⟨hx, hby, -⟩ := w; subst hn
  by_cases q : x < (0 : Int32)
  · exact Gl.of (fun t k => XS.ifNo X.here hx rfl (hb hby hd) rfl (XT.i0_ge_f q) k) (K2 (Int32.lt_iff_toInt_lt.mp q))
  · exact Gl.of (fun t k => XS.ifYes X.here hx rfl rfl (hb hby hd) rfl (XT.i0_ge_t q) ho hp k) (K1 (Int.not_lt.mp fun q' => q (Int32.lt_iff_toInt_lt.mpr q')))
theorem gIcmp_ge (X : Sd p l e R s m args below meth c n0 T h cells slots) (w : Cx Z own nm bytes maxL ret p s m meth c) {x y : Int32} {o : Int} (hd : decode bytes pc = .ok (.if_icmp .ge o, 3)) (ho : 0 ≤ (pc : Int) + o) {n' : Nat} (hp : ((pc : Int) + o).toNat = n) (hn : pc + 3 = n') (K1 : y.toInt ≤ x.toInt → Gl p e below s n0 P C S (T.setTop (mkF m n ls st))) (K2 : x.toInt < y.toInt → Gl p e below s n0 P C S (T.setTop (mkF m n' ls st))) : Gl p e below s n0 P C S (T.setTop (mkF m pc ls (.int y :: .int x :: st))) := by
  obtain ⟨_, X, -⟩ := X; obtain ⟨hx, hby, -⟩ := w; subst hn
  by_cases q : x < y
  · exact Gl.of (fun t k => XS.icmpNo X.here hx rfl (hb hby hd) rfl (XT.ii_ge_f q) k) (K2 (Int32.lt_iff_toInt_lt.mp q))
  · exact Gl.of (fun t k => XS.icmpYes X.here hx rfl rfl (hb hby hd) rfl (XT.ii_ge_t q) ho hp k) (K1 (Int.not_lt.mp fun q' => q (Int32.lt_iff_toInt_lt.mpr q')))
theorem gIfL_ge (X : Sd p l e R s m args below meth c n0 T h cells slots) (w : Cx Z own nm bytes maxL ret p s m meth c) {x y : Int64} {o : Int} (hd : decode bytes pc = .ok (.ifCond .ge o, 3)) (ho : 0 ≤ (pc : Int) + o) {n' : Nat} (hp : ((pc : Int) + o).toNat = n) (hn : pc + 3 = n') (K1 : y.toInt ≤ x.toInt → Gl p e below s n0 P C S (T.setTop (mkF m n ls st))) (K2 : x.toInt < y.toInt → Gl p e below s n0 P C S (T.setTop (mkF m n' ls st))) : Gl p e below s n0 P C S (T.setTop (mkF m pc ls (.int (XT.cmpL x y) :: st))) := by
  obtain ⟨_, X, -⟩ := X; obtain ⟨hx, hby, -⟩ := w; subst hn
  by_cases q : x < y
  · exact Gl.of (fun t k => XS.ifNo X.here hx rfl (hb hby hd) rfl (XT.ll_ge_f q) k) (K2 (Int64.lt_iff_toInt_lt.mp q))
  · exact Gl.of (fun t k => XS.ifYes X.here hx rfl rfl (hb hby hd) rfl (XT.ll_ge_t q) ho hp k) (K1 (Int.not_lt.mp fun q' => q (Int64.lt_iff_toInt_lt.mpr q')))
theorem gIf_gt (X : Sd p l e R s m args below meth c n0 T h cells slots) (w : Cx Z own nm bytes maxL ret p s m meth c) {x : Int32} {o : Int} (hd : decode bytes pc = .ok (.ifCond .gt o, 3)) (ho : 0 ≤ (pc : Int) + o) {n' : Nat} (hp : ((pc : Int) + o).toNat = n) (hn : pc + 3 = n') (K1 : 0 < x.toInt → Gl p e below s n0 P C S (T.setTop (mkF m n ls st))) (K2 : x.toInt ≤ 0 → Gl p e below s n0 P C S (T.setTop (mkF m n' ls st))) : Gl p e below s n0 P C S (T.setTop (mkF m pc ls (.int x :: st))) := by
  obtain ⟨_, X, -⟩ := X; obtain ⟨hx, hby, -⟩ := w; subst hn
  by_cases q : (0 : Int32) < x
  · exact Gl.of (fun t k => XS.ifYes X.here hx rfl rfl (hb hby hd) rfl (XT.i0_gt_t q) ho hp k) (K1 (Int32.lt_iff_toInt_lt.mp q))
  · exact Gl.of (fun t k => XS.ifNo X.here hx rfl (hb hby hd) rfl (XT.i0_gt_f q) k) (K2 (Int.not_lt.mp fun q' => q (Int32.lt_iff_toInt_lt.mpr q')))
theorem gIcmp_gt (X : Sd p l e R s m args below meth c n0 T h cells slots) (w : Cx Z own nm bytes maxL ret p s m meth c) {x y : Int32} {o : Int} (hd : decode bytes pc = .ok (.if_icmp .gt o, 3)) (ho : 0 ≤ (pc : Int) + o) {n' : Nat} (hp : ((pc : Int) + o).toNat = n) (hn : pc + 3 = n') (K1 : y.toInt < x.toInt → Gl p e below s n0 P C S (T.setTop (mkF m n ls st))) (K2 : x.toInt ≤ y.toInt → Gl p e below s n0 P C S (T.setTop (mkF m n' ls st))) : Gl p e below s n0 P C S (T.setTop (mkF m pc ls (.int y :: .int x :: st))) := by
  obtain ⟨_, X, -⟩ := X; obtain ⟨hx, hby, -⟩ := w; subst hn
  by_cases q : y < x
  · exact Gl.of (fun t k => XS.icmpYes X.here hx rfl rfl (hb hby hd) rfl (XT.ii_gt_t q) ho hp k) (K1 (Int32.lt_iff_toInt_lt.mp q))
  · exact Gl.of (fun t k => XS.icmpNo X.here hx rfl (hb hby hd) rfl (XT.ii_gt_f q) k) (K2 (Int.not_lt.mp fun q' => q (Int32.lt_iff_toInt_lt.mpr q')))
theorem gIfL_gt (X : Sd p l e R s m args below meth c n0 T h cells slots) (w : Cx Z own nm bytes maxL ret p s m meth c) {x y : Int64} {o : Int} (hd : decode bytes pc = .ok (.ifCond .gt o, 3)) (ho : 0 ≤ (pc : Int) + o) {n' : Nat} (hp : ((pc : Int) + o).toNat = n) (hn : pc + 3 = n') (K1 : y.toInt < x.toInt → Gl p e below s n0 P C S (T.setTop (mkF m n ls st))) (K2 : x.toInt ≤ y.toInt → Gl p e below s n0 P C S (T.setTop (mkF m n' ls st))) : Gl p e below s n0 P C S (T.setTop (mkF m pc ls (.int (XT.cmpL x y) :: st))) := by
  obtain ⟨_, X, -⟩ := X; obtain ⟨hx, hby, -⟩ := w; subst hn
  by_cases q : y < x
  · exact Gl.of (fun t k => XS.ifYes X.here hx rfl rfl (hb hby hd) rfl (XT.ll_gt_t q) ho hp k) (K1 (Int64.lt_iff_toInt_lt.mp q))
  · exact Gl.of (fun t k => XS.ifNo X.here hx rfl (hb hby hd) rfl (XT.ll_gt_f q) k) (K2 (Int.not_lt.mp fun q' => q (Int64.lt_iff_toInt_lt.mpr q')))
theorem gIf_le (X : Sd p l e R s m args below meth c n0 T h cells slots) (w : Cx Z own nm bytes maxL ret p s m meth c) {x : Int32} {o : Int} (hd : decode bytes pc = .ok (.ifCond .le o, 3)) (ho : 0 ≤ (pc : Int) + o) {n' : Nat} (hp : ((pc : Int) + o).toNat = n) (hn : pc + 3 = n') (K1 : x.toInt ≤ 0 → Gl p e below s n0 P C S (T.setTop (mkF m n ls st))) (K2 : 0 < x.toInt → Gl p e below s n0 P C S (T.setTop (mkF m n' ls st))) : Gl p e below s n0 P C S (T.setTop (mkF m pc ls (.int x :: st))) := by
  obtain ⟨_, X, -⟩ := X; obtain ⟨hx, hby, -⟩ := w; subst hn
  by_cases q : (0 : Int32) < x
  · exact Gl.of (fun t k => XS.ifNo X.here hx rfl (hb hby hd) rfl (XT.i0_le_f q) k) (K2 (Int32.lt_iff_toInt_lt.mp q))
  · exact Gl.of (fun t k => XS.ifYes X.here hx rfl rfl (hb hby hd) rfl (XT.i0_le_t q) ho hp k) (K1 (Int.not_lt.mp fun q' => q (Int32.lt_iff_toInt_lt.mpr q')))
theorem gIcmp_le (X : Sd p l e R s m args below meth c n0 T h cells slots) (w : Cx Z own nm bytes maxL ret p s m meth c) {x y : Int32} {o : Int} (hd : decode bytes pc = .ok (.if_icmp .le o, 3)) (ho : 0 ≤ (pc : Int) + o) {n' : Nat} (hp : ((pc : Int) + o).toNat = n) (hn : pc + 3 = n') (K1 : x.toInt ≤ y.toInt → Gl p e below s n0 P C S (T.setTop (mkF m n ls st))) (K2 : y.toInt < x.toInt → Gl p e below s n0 P C S (T.setTop (mkF m n' ls st))) : Gl p e below s n0 P C S (T.setTop (mkF m pc ls (.int y :: .int x :: st))) := by
  obtain ⟨_, X, -⟩ := X; obtain ⟨hx, hby, -⟩ := w; subst hn
  by_cases q : y < x
  · exact Gl.of (fun t k => XS.icmpNo X.here hx rfl (hb hby hd) rfl (XT.ii_le_f q) k) (K2 (Int32.lt_iff_toInt_lt.mp q))
  · exact Gl.of (fun t k => XS.icmpYes X.here hx rfl rfl (hb hby hd) rfl (XT.ii_le_t q) ho hp k) (K1 (Int.not_lt.mp fun q' => q (Int32.lt_iff_toInt_lt.mpr q')))
theorem gIfL_le (X : Sd p l e R s m args below meth c n0 T h cells slots) (w : Cx Z own nm bytes maxL ret p s m meth c) {x y : Int64} {o : Int} (hd : decode bytes pc = .ok (.ifCond .le o, 3)) (ho : 0 ≤ (pc : Int) + o) {n' : Nat} (hp : ((pc : Int) + o).toNat = n) (hn : pc + 3 = n') (K1 : x.toInt ≤ y.toInt → Gl p e below s n0 P C S (T.setTop (mkF m n ls st))) (K2 : y.toInt < x.toInt → Gl p e below s n0 P C S (T.setTop (mkF m n' ls st))) : Gl p e below s n0 P C S (T.setTop (mkF m pc ls (.int (XT.cmpL x y) :: st))) := by
  obtain ⟨_, X, -⟩ := X; obtain ⟨hx, hby, -⟩ := w; subst hn
  by_cases q : y < x
  · exact Gl.of (fun t k => XS.ifNo X.here hx rfl (hb hby hd) rfl (XT.ll_le_f q) k) (K2 (Int64.lt_iff_toInt_lt.mp q))
  · exact Gl.of (fun t k => XS.ifYes X.here hx rfl rfl (hb hby hd) rfl (XT.ll_le_t q) ho hp k) (K1 (Int.not_lt.mp fun q' => q (Int64.lt_iff_toInt_lt.mpr q')))
theorem gAcmp_eq (X : Sd p l e R s m args below meth c n0 T h cells slots) (w : Cx Z own nm bytes maxL ret p s m meth c) {x y : Value} {o : Int} (hd : decode bytes pc = .ok (.if_acmp .eq o, 3)) (hx' : x.isRef = true) (hy' : y.isRef = true) (ho : 0 ≤ (pc : Int) + o) {n' : Nat} (hp : ((pc : Int) + o).toNat = n) (hn : pc + 3 = n') (K1 : x = y → Gl p e below s n0 P C S (T.setTop (mkF m n ls st))) (K2 : ¬ x = y → Gl p e below s n0 P C S (T.setTop (mkF m n' ls st))) : Gl p e below s n0 P C S (T.setTop (mkF m pc ls (y :: x :: st))) := by
  obtain ⟨_, X, -⟩ := X; obtain ⟨hx, hby, -⟩ := w; subst hn
  by_cases q : x = y
  · exact Gl.of (fun t k => XT.acmpYes X.here hx rfl rfl (hb hby hd) rfl hx' hy' (XT.aa_eq_t q) ho hp k) (K1 q)
  · exact Gl.of (fun t k => XT.acmpNo X.here hx rfl (hb hby hd) rfl hx' hy' (XT.aa_eq_f q) k) (K2 q)
theorem gAcmp_ne (X : Sd p l e R s m args below meth c n0 T h cells slots) (w : Cx Z own nm bytes maxL ret p s m meth c) {x y : Value} {o : Int} (hd : decode bytes pc = .ok (.if_acmp .ne o, 3)) (hx' : x.isRef = true) (hy' : y.isRef = true) (ho : 0 ≤ (pc : Int) + o) {n' : Nat} (hp : ((pc : Int) + o).toNat = n) (hn : pc + 3 = n') (K1 : ¬ x = y → Gl p e below s n0 P C S (T.setTop (mkF m n ls st))) (K2 : x = y → Gl p e below s n0 P C S (T.setTop (mkF m n' ls st))) : Gl p e below s n0 P C S (T.setTop (mkF m pc ls (y :: x :: st))) := by
  obtain ⟨_, X, -⟩ := X; obtain ⟨hx, hby, -⟩ := w; subst hn
  by_cases q : x = y
  · exact Gl.of (fun t k => XT.acmpNo X.here hx rfl (hb hby hd) rfl hx' hy' (XT.aa_ne_f q) k) (K2 q)
  · exact Gl.of (fun t k => XT.acmpYes X.here hx rfl rfl (hb hby hd) rfl hx' hy' (XT.aa_ne_t q) ho hp k) (K1 q)
theorem gIfnullY (X : Sd p l e R s m args below meth c n0 T h cells slots) (w : Cx Z own nm bytes maxL ret p s m meth c) {o : Int} (hd : decode bytes pc = .ok (.ifnull o, 3)) (ho : 0 ≤ (pc : Int) + o) (hp : ((pc : Int) + o).toNat = n) (K : Gl p e below s n0 P C S (T.setTop (mkF m n ls st))) : Gl p e below s n0 P C S (T.setTop (mkF m pc ls (.null :: st))) := by
  obtain ⟨_, X, -⟩ := X; obtain ⟨hx, hby, hZ, hown, -⟩ := w; 
  exact Gl.of (fun t k => XS.ifnullYes X.here hx rfl rfl (hb hby hd) rfl ho hp k) K
theorem gIfnullN (X : Sd p l e R s m args below meth c n0 T h cells slots) (w : Cx Z own nm bytes maxL ret p s m meth c) {o : Int} {b : Addr} (hd : decode bytes pc = .ok (.ifnull o, 3)) (hn : pc + 3 = n) (K : Gl p e below s n0 P C S (T.setTop (mkF m n ls st))) : Gl p e below s n0 P C S (T.setTop (mkF m pc ls (.ref b :: st))) := by
  obtain ⟨_, X, -⟩ := X; obtain ⟨hx, hby, hZ, hown, -⟩ := w; subst hn
  exact Gl.of (fun t k => XS.ifnullNo X.here hx rfl (hb hby hd) rfl k) K
theorem gIfnonnullY (X : Sd p l e R s m args below meth c n0 T h cells slots) (w : Cx Z own nm bytes maxL ret p s m meth c) {o : Int} {b : Addr} (hd : decode bytes pc = .ok (.ifnonnull o, 3)) (ho : 0 ≤ (pc : Int) + o) (hp : ((pc : Int) + o).toNat = n) (K : Gl p e below s n0 P C S (T.setTop (mkF m n ls st))) : Gl p e below s n0 P C S (T.setTop (mkF m pc ls (.ref b :: st))) := by
  obtain ⟨_, X, -⟩ := X; obtain ⟨hx, hby, hZ, hown, -⟩ := w; 
  exact Gl.of (fun t k => XT.ifnonnullYes X.here hx rfl rfl (hb hby hd) rfl ho hp k) K
theorem gIfnonnullN (X : Sd p l e R s m args below meth c n0 T h cells slots) (w : Cx Z own nm bytes maxL ret p s m meth c) {o : Int} (hd : decode bytes pc = .ok (.ifnonnull o, 3)) (hn : pc + 3 = n) (K : Gl p e below s n0 P C S (T.setTop (mkF m n ls st))) : Gl p e below s n0 P C S (T.setTop (mkF m pc ls (.null :: st))) := by
  obtain ⟨_, X, -⟩ := X; obtain ⟨hx, hby, hZ, hown, -⟩ := w; subst hn
  exact Gl.of (fun t k => XT.ifnonnullNo X.here hx rfl (hb hby hd) rfl k) K
theorem gRet (X : Sd p l e R s m args below meth c n0 T h cells slots) (w : Cx Z own nm bytes maxL ret p s m meth c) {v : Value} {t : FieldType} {i : Instr} (hret : ret = some t) (hn : narrow t v = v) (hi : (i = .ireturn ∧ (t = .int ∨ t = .boolean ∨ t = .byte ∨ t = .char ∨ t = .short) ∧ ∃ z, v = .int z) ∨ (i = .lreturn ∧ t = .long ∧ ∃ z, v = .long z) ∨ (i = .dreturn ∧ t = .double ∧ ∃ z, v = .double z) ∨ (i = .freturn ∧ t = .float ∧ ∃ z, v = .float z) ∨ (i = .areturn ∧ t.isReference = true ∧ v.isRef = true))
    (hd : decode bytes pc = .ok (i, 1)) (hc : cells ≤ C) (hs : slots ≤ S) (hP : P (some v) h) : Gl p e below s n0 P C S (T.setTop (mkF m pc ls (v :: st))) := by
  obtain ⟨locs, X, N, eh, -⟩ := X; obtain ⟨hx, hby, hZ, hown, -, -, hr', hlk⟩ := w
  obtain ⟨fs, hr, hrun, hended, hW, hsame⟩ := X.leave (v := some v) (fun q => by rw [hr', hret] at q; cases q) hlk
  refine ⟨_, _, retOut X hx (hr'.trans hret) hn hi (hb hby hd) hr, hrun, hended, _, _, rfl, ⟨?_, N⟩, ⟨_, rfl⟩, hW, hsame.mono hc hs⟩
  show P (some v) T.heap
  rw [eh]; exact hP
theorem gRetI (X : Sd p l e R s m args below meth c n0 T h cells slots) (w : Cx Z own nm bytes maxL ret p s m meth c) {z : Int32} (hret : ret = some .int) (hd : decode bytes pc = .ok (.ireturn, 1)) (hc : cells ≤ C) (hs : slots ≤ S) (hP : P (some (.int z)) h) : Gl p e below s n0 P C S (T.setTop (mkF m pc ls (.int z :: st))) := gRet X w hret rfl (Or.inl ⟨rfl, Or.inl rfl, z, rfl⟩) hd hc hs hP
theorem gRetZ (X : Sd p l e R s m args below meth c n0 T h cells slots) (w : Cx Z own nm bytes maxL ret p s m meth c) {z : Int32} (hret : ret = some .boolean) (hz : z = 0 ∨ z = 1) (hd : decode bytes pc = .ok (.ireturn, 1)) (hc : cells ≤ C) (hs : slots ≤ S) (hP : P (some (.int z)) h) : Gl p e below s n0 P C S (T.setTop (mkF m pc ls (.int z :: st))) := gRet X w hret (by rcases hz with rfl | rfl <;> rfl) (Or.inl ⟨rfl, Or.inr (Or.inl rfl), z, rfl⟩) hd hc hs hP
theorem gRetJ (X : Sd p l e R s m args below meth c n0 T h cells slots) (w : Cx Z own nm bytes maxL ret p s m meth c) {z : Int64} (hret : ret = some .long) (hd : decode bytes pc = .ok (.lreturn, 1)) (hc : cells ≤ C) (hs : slots ≤ S) (hP : P (some (.long z)) h) : Gl p e below s n0 P C S (T.setTop (mkF m pc ls (.long z :: st))) := gRet X w hret rfl (Or.inr (Or.inl ⟨rfl, rfl, z, rfl⟩)) hd hc hs hP
theorem gRetD (X : Sd p l e R s m args below meth c n0 T h cells slots) (w : Cx Z own nm bytes maxL ret p s m meth c) {z : UInt64} (hret : ret = some .double) (hd : decode bytes pc = .ok (.dreturn, 1)) (hc : cells ≤ C) (hs : slots ≤ S) (hP : P (some (.double z)) h) : Gl p e below s n0 P C S (T.setTop (mkF m pc ls (.double z :: st))) := gRet X w hret rfl (Or.inr (Or.inr (Or.inl ⟨rfl, rfl, z, rfl⟩))) hd hc hs hP
theorem gRetA (X : Sd p l e R s m args below meth c n0 T h cells slots) (w : Cx Z own nm bytes maxL ret p s m meth c) {v : Value} {t : FieldType} (hret : ret = some t) (ht : t.isReference = true) (hv : v.isRef = true) (hd : decode bytes pc = .ok (.areturn, 1)) (hc : cells ≤ C) (hs : slots ≤ S) (hP : P (some v) h) : Gl p e below s n0 P C S (T.setTop (mkF m pc ls (v :: st))) := gRet X w hret (by rcases ref_cases hv with rfl | ⟨a, rfl⟩ <;> cases t <;> first | rfl | cases ht) (Or.inr (Or.inr (Or.inr (Or.inr ⟨rfl, ht, hv⟩)))) hd hc hs hP
theorem gRetV (X : Sd p l e R s m args below meth c n0 T h cells slots) (w : Cx Z own nm bytes maxL ret p s m meth c) (hret : ret = none) (hd : decode bytes pc = .ok (.return_, 1)) (hc : cells ≤ C) (hs : slots ≤ S) (hP : P none h) : Gl p e below s n0 P C S (T.setTop (mkF m pc ls [])) := by
  obtain ⟨locs, X, N, eh, -⟩ := X; obtain ⟨hx, hby, hZ, hown, -, -, hr', hlk⟩ := w
  obtain ⟨fs, hr, hrun, hended, hW, hsame⟩ := X.leave (v := none) (fun q => rfl) hlk
  refine ⟨_, _, X.returnOut hx (hr'.trans hret) (hb hby hd) hr, hrun, hended, _, _, rfl, ⟨?_, N⟩, ⟨_, rfl⟩, hW, hsame.mono hc hs⟩
  show P none T.heap
  rw [eh]; exact hP
theorem gCallS (X : Sd p l e R s m args below meth c n0 T h cells slots) (w : Cx Z own nm bytes maxL ret p s m meth c) {y : MethodName} {yb : ByteArray} {yl : Nat} {yr : Option FieldType} {rm : Room} {Q : Option Value → Heap → Prop} {idx W : Nat} (aL rest : List Value) {ps : List FieldType} {r : Option FieldType}
    (hM : Con l Z y yb yl yr [] rm rm.cells rm.slots aL.toArray h n0 Q) (w1 : (Jvm.Cond.methodLink own idx y).before a0 Z = true) (w2 : (Jvm.Cond.static y).before a0 Z = true) (w3 : (Jvm.Cond.initialized y.cls).before a0 Z = true) (w4 : (Jvm.Cond.code y yb yl yr).before a0 Z = true) (hy : y.cls ≠ "java/lang/invoke/MethodHandle" ∧ y.cls ≠ "java/lang/invoke/VarHandle")
    (hpd : parseMethodDescriptor y.desc = some ⟨ps, r⟩) (hlen : aL.length = ps.length) (hstk : st = aL.reverse ++ rest) (hd : decode bytes pc = .ok (.invokestatic idx, 3)) (hsz : ls.size = maxL) (hW : (rest.map fun v => v.category).sum ≤ W)
    (hf : rm.frames + 1 ≤ R.frames) (hl : W + (yl + 11) + rm.locals ≤ R.locals) (hcc : cells + rm.cells ≤ R.cells) (hss : slots + rm.slots ≤ R.slots) (hn : pc + 3 = n)
    (K : ∀ T' h' v, Q v h' → Sd p l e R s m args below meth c n0 T' h' (cells + rm.cells) (slots + rm.slots) → Gl p e below s n0 P C S (T'.setTop (mkF m n ls (v.toList ++ rest)))) : Gl p e below s n0 P C S (T.setTop (mkF m pc ls st)) := by
  obtain ⟨locs, X, N, eh, hn0⟩ := X; obtain ⟨hx, hby, hZ, hown, -, hml, -⟩ := w; subst hn
  obtain ⟨v, vm, ⟨T', L, k, sl⟩, -, X', ⟨Lc, ⟨hQ, NL⟩, l1, y1, z1⟩, st'⟩ := Jvm.LawKit.callS X hx (y := y) hown (mvT hZ w1) (mvT hZ w2) (mvT hZ w3) (mvT hZ w4) hy (backOf (W := W) (Q := fun v h L => Q v h ∧ Fr n0 L) (Con.met hM) hZ w4 w3 hf hl) (g := mkF m pc ls st) rfl (by rw [hml]; exact hsz) (argsL := aL) (rest := rest) (lenOf hpd hlen) hstk (by show 2 * 0 + _ ≤ _; rw [Nat.mul_zero, Nat.zero_add]; exact hW) (hb hby hd) (fun _ _ => ⟨rfl, eh, hcc, hss⟩)
  dsimp only [Pt.U, Pt.locs, Pt.cells, Pt.slots] at X' l1 y1 z1 st' hQ
  subst l1 y1 z1
  exact Gl.of st' (K T' T'.heap v hQ ⟨_, X', Fr.app N NL, rfl, hn0⟩)
theorem gCallV (X : Sd p l e R s m args below meth c n0 T h cells slots) (w : Cx Z own nm bytes maxL ret p s m meth c) {y z : MethodName} {yb : ByteArray} {yl : Nat} {yr : Option FieldType} {rm : Room} {Q : Option Value → Heap → Prop} {idx W : Nat} {b : Addr} {C0 : String} (aL rest : List Value) {ps : List FieldType} {r : Option FieldType} (E : Exa Z h b C0)
    (hM : Con l Z z yb yl yr [] rm rm.cells rm.slots (.ref b :: aL).toArray h n0 Q) (w1 : (Jvm.Cond.methodLink own idx y).before a0 Z = true) (w2 : (Jvm.Cond.declares y).before a0 Z = true) (hnf : NotFace s y) (w5 : (Jvm.Cond.selects C0 y z).before a0 Z = true) (w6 : (Jvm.Cond.instanceMethod z).before a0 Z = true) (w3 : (Jvm.Cond.initialized z.cls).before a0 Z = true) (w4 : (Jvm.Cond.code z yb yl yr).before a0 Z = true) (hy : y.cls ≠ "java/lang/invoke/MethodHandle" ∧ y.cls ≠ "java/lang/invoke/VarHandle")
    (hpd : parseMethodDescriptor y.desc = some ⟨ps, r⟩) (hlen : aL.length = ps.length) (hstk : st = aL.reverse ++ .ref b :: rest) (hd : decode bytes pc = .ok (.invokevirtual idx, 3)) (hsz : ls.size = maxL) (hW : (rest.map fun v => v.category).sum ≤ W)
    (hf : rm.frames + 1 ≤ R.frames) (hl : W + (yl + 11) + rm.locals ≤ R.locals) (hcc : cells + rm.cells ≤ R.cells) (hss : slots + rm.slots ≤ R.slots) (hn : pc + 3 = n)
    (K : ∀ T' h' v, Q v h' → Sd p l e R s m args below meth c n0 T' h' (cells + rm.cells) (slots + rm.slots) → Gl p e below s n0 P C S (T'.setTop (mkF m n ls (v.toList ++ rest)))) : Gl p e below s n0 P C S (T.setTop (mkF m pc ls st)) := by
  obtain ⟨locs, X, N, eh, hn0⟩ := X; obtain ⟨hx, hby, hZ, hown, -, hml, -⟩ := w; subst hn
  obtain ⟨cq, kq, qa, qb, qc⟩ := isOf hZ eh E
  obtain ⟨v, vm, ⟨T', L, k, sl⟩, -, X', ⟨Lc, ⟨hQ, NL⟩, l1, y1, z1⟩, st'⟩ := X.virtualBack hx (y := y) (z := z) hown (mvT hZ w1) (mvT hZ w2) hnf (mvT hZ w5) (mvT hZ w6) hy (backOf (W := W) (Q := fun v h L => Q v h ∧ Fr n0 L) (Con.met hM) hZ w4 w3 hf hl) qa qc (g := mkF m pc ls st) rfl (by rw [hml]; exact hsz) (Steps.refl _) (argsL := aL) (rest := rest) (lenOf hpd hlen) hstk (by show 2 * 0 + _ ≤ _; rw [Nat.mul_zero, Nat.zero_add]; exact hW) (hb hby hd) (fun _ _ => ⟨rfl, eh, hcc, hss⟩)
  dsimp only [Pt.U, Pt.locs, Pt.cells, Pt.slots] at X' l1 y1 z1 st' hQ
  subst l1 y1 z1
  exact Gl.of (fun t k => st'.trans k) (K T' T'.heap v hQ ⟨_, X', Fr.app N NL, rfl, hn0⟩)
theorem gCallI (X : Sd p l e R s m args below meth c n0 T h cells slots) (w : Cx Z own nm bytes maxL ret p s m meth c) {y : MethodName} {yb : ByteArray} {yl : Nat} {rm : Room} {Q : Option Value → Heap → Prop} {idx W : Nat} {b : Addr} (aL rest : List Value) {ps : List FieldType} {r : Option FieldType} (hy1 : y.name = "<init>")
    (hM : Con l Z y yb yl none [] rm rm.cells rm.slots (.ref b :: aL).toArray h n0 Q) (w1 : (Jvm.Cond.methodLink own idx y).before a0 Z = true) (w2 : (Jvm.Cond.instanceMethod y).before a0 Z = true) (w3 : (Jvm.Cond.initialized y.cls).before a0 Z = true) (w4 : (Jvm.Cond.code y yb yl none).before a0 Z = true) (hy : y.cls ≠ "java/lang/invoke/MethodHandle" ∧ y.cls ≠ "java/lang/invoke/VarHandle")
    (hpd : parseMethodDescriptor y.desc = some ⟨ps, r⟩) (hlen : aL.length = ps.length) (hstk : st = aL.reverse ++ .ref b :: rest) (hd : decode bytes pc = .ok (.invokespecial idx, 3)) (hsz : ls.size = maxL) (hW : (rest.map fun v => v.category).sum ≤ W)
    (hf : rm.frames + 1 ≤ R.frames) (hl : W + (yl + 11) + rm.locals ≤ R.locals) (hcc : cells + rm.cells ≤ R.cells) (hss : slots + rm.slots ≤ R.slots) (hn : pc + 3 = n)
    (K : ∀ T' h' v, Q v h' → Sd p l e R s m args below meth c n0 T' h' (cells + rm.cells) (slots + rm.slots) → Gl p e below s n0 P C S (T'.setTop (mkF m n ls (v.toList ++ rest)))) : Gl p e below s n0 P C S (T.setTop (mkF m pc ls st)) := by
  obtain ⟨locs, X, N, eh, hn0⟩ := X; obtain ⟨hx, hby, hZ, hown, -, hml, -⟩ := w; subst hn
  obtain ⟨v, vm, ⟨T', L, k, sl⟩, -, X', ⟨Lc, ⟨hQ, NL⟩, l1, y1, z1⟩, st'⟩ := X.specialBack hx (y := y) hy1 hown (mvT hZ w1) (mvT hZ w2) (mvT hZ w4) hy (backOf (W := W) (Q := fun v h L => Q v h ∧ Fr n0 L) (Con.met hM) hZ w4 w3 hf hl) (g := mkF m pc ls st) rfl (by rw [hml]; exact hsz) (Steps.refl _) (a := b) (argsL := aL) (rest := rest) (lenOf hpd hlen) hstk (by show 2 * 0 + _ ≤ _; rw [Nat.mul_zero, Nat.zero_add]; exact hW) (hb hby hd) (fun _ _ => ⟨rfl, eh, hcc, hss⟩)
  dsimp only [Pt.U, Pt.locs, Pt.cells, Pt.slots] at X' l1 y1 z1 st' hQ
  subst l1 y1 z1
  exact Gl.of (fun t k => st'.trans k) (K T' T'.heap v hQ ⟨_, X', Fr.app N NL, rfl, hn0⟩)
theorem gCallSv (X : Sd p l e R s m args below meth c n0 T h cells slots) (w : Cx Z own nm bytes maxL ret p s m meth c) {y : MethodName} {yb : ByteArray} {yl : Nat} {yr : Option FieldType} {rm : Room} {Q : Value → Heap → Prop} {idx W : Nat} (aL rest : List Value) {ps : List FieldType} {r : Option FieldType}
    (hM : ConV l Z y yb yl yr rm aL.toArray h n0 Q) (w1 : (Jvm.Cond.methodLink own idx y).before a0 Z = true) (w2 : (Jvm.Cond.static y).before a0 Z = true) (w3 : (Jvm.Cond.initialized y.cls).before a0 Z = true) (w4 : (Jvm.Cond.code y yb yl yr).before a0 Z = true) (hy : y.cls ≠ "java/lang/invoke/MethodHandle" ∧ y.cls ≠ "java/lang/invoke/VarHandle")
    (hpd : parseMethodDescriptor y.desc = some ⟨ps, r⟩) (hlen : aL.length = ps.length) (hstk : st = aL.reverse ++ rest) (hd : decode bytes pc = .ok (.invokestatic idx, 3)) (hsz : ls.size = maxL) (hW : (rest.map fun v => v.category).sum ≤ W)
    (hf : rm.frames + 1 ≤ R.frames) (hl : W + (yl + 11) + rm.locals ≤ R.locals) (hcc : cells + rm.cells ≤ R.cells) (hss : slots + rm.slots ≤ R.slots) (hn : pc + 3 = n)
    (K : ∀ T' h' v, Q v h' → Sd p l e R s m args below meth c n0 T' h' (cells + rm.cells) (slots + rm.slots) → Gl p e below s n0 P C S (T'.setTop (mkF m n ls (v :: rest)))) : Gl p e below s n0 P C S (T.setTop (mkF m pc ls st)) :=
  gCallS X w aL rest hM w1 w2 w3 w4 hy hpd hlen hstk hd hsz hW hf hl hcc hss hn (fun T' h' v q X => by obtain ⟨v', rfl, q⟩ := q; exact K T' h' v' q X)
theorem gCallSn (X : Sd p l e R s m args below meth c n0 T h cells slots) (w : Cx Z own nm bytes maxL ret p s m meth c) {y : MethodName} {yb : ByteArray} {yl : Nat} {rm : Room} {Q : Heap → Prop} {idx W : Nat} (aL rest : List Value) {ps : List FieldType} {r : Option FieldType}
    (hM : ConN l Z y yb yl rm aL.toArray h n0 Q) (w1 : (Jvm.Cond.methodLink own idx y).before a0 Z = true) (w2 : (Jvm.Cond.static y).before a0 Z = true) (w3 : (Jvm.Cond.initialized y.cls).before a0 Z = true) (w4 : (Jvm.Cond.code y yb yl none).before a0 Z = true) (hy : y.cls ≠ "java/lang/invoke/MethodHandle" ∧ y.cls ≠ "java/lang/invoke/VarHandle")
    (hpd : parseMethodDescriptor y.desc = some ⟨ps, r⟩) (hlen : aL.length = ps.length) (hstk : st = aL.reverse ++ rest) (hd : decode bytes pc = .ok (.invokestatic idx, 3)) (hsz : ls.size = maxL) (hW : (rest.map fun v => v.category).sum ≤ W)
    (hf : rm.frames + 1 ≤ R.frames) (hl : W + (yl + 11) + rm.locals ≤ R.locals) (hcc : cells + rm.cells ≤ R.cells) (hss : slots + rm.slots ≤ R.slots) (hn : pc + 3 = n)
    (K : ∀ T' h', Q h' → Sd p l e R s m args below meth c n0 T' h' (cells + rm.cells) (slots + rm.slots) → Gl p e below s n0 P C S (T'.setTop (mkF m n ls rest))) : Gl p e below s n0 P C S (T.setTop (mkF m pc ls st)) :=
  gCallS X w aL rest hM w1 w2 w3 w4 hy hpd hlen hstk hd hsz hW hf hl hcc hss hn (fun T' h' v q X => by obtain ⟨rfl, q⟩ := q; exact K T' h' q X)
theorem gCallVv (X : Sd p l e R s m args below meth c n0 T h cells slots) (w : Cx Z own nm bytes maxL ret p s m meth c) {y z : MethodName} {yb : ByteArray} {yl : Nat} {yr : Option FieldType} {rm : Room} {Q : Value → Heap → Prop} {idx W : Nat} {b : Addr} {C0 : String} (aL rest : List Value) {ps : List FieldType} {r : Option FieldType} (E : Exa Z h b C0)
    (hM : ConV l Z z yb yl yr rm (.ref b :: aL).toArray h n0 Q) (w1 : (Jvm.Cond.methodLink own idx y).before a0 Z = true) (w2 : (Jvm.Cond.declares y).before a0 Z = true) (hnf : NotFace s y) (w5 : (Jvm.Cond.selects C0 y z).before a0 Z = true) (w6 : (Jvm.Cond.instanceMethod z).before a0 Z = true) (w3 : (Jvm.Cond.initialized z.cls).before a0 Z = true) (w4 : (Jvm.Cond.code z yb yl yr).before a0 Z = true) (hy : y.cls ≠ "java/lang/invoke/MethodHandle" ∧ y.cls ≠ "java/lang/invoke/VarHandle")
    (hpd : parseMethodDescriptor y.desc = some ⟨ps, r⟩) (hlen : aL.length = ps.length) (hstk : st = aL.reverse ++ .ref b :: rest) (hd : decode bytes pc = .ok (.invokevirtual idx, 3)) (hsz : ls.size = maxL) (hW : (rest.map fun v => v.category).sum ≤ W)
    (hf : rm.frames + 1 ≤ R.frames) (hl : W + (yl + 11) + rm.locals ≤ R.locals) (hcc : cells + rm.cells ≤ R.cells) (hss : slots + rm.slots ≤ R.slots) (hn : pc + 3 = n)
    (K : ∀ T' h' v, Q v h' → Sd p l e R s m args below meth c n0 T' h' (cells + rm.cells) (slots + rm.slots) → Gl p e below s n0 P C S (T'.setTop (mkF m n ls (v :: rest)))) : Gl p e below s n0 P C S (T.setTop (mkF m pc ls st)) :=
  gCallV X w aL rest E hM w1 w2 hnf w5 w6 w3 w4 hy hpd hlen hstk hd hsz hW hf hl hcc hss hn (fun T' h' v q X => by obtain ⟨v', rfl, q⟩ := q; exact K T' h' v' q X)
theorem gCallIn (X : Sd p l e R s m args below meth c n0 T h cells slots) (w : Cx Z own nm bytes maxL ret p s m meth c) {y : MethodName} {yb : ByteArray} {yl : Nat} {rm : Room} {Q : Heap → Prop} {idx W : Nat} {b : Addr} (aL rest : List Value) {ps : List FieldType} {r : Option FieldType} (hy1 : y.name = "<init>")
    (hM : ConN l Z y yb yl rm (.ref b :: aL).toArray h n0 Q) (w1 : (Jvm.Cond.methodLink own idx y).before a0 Z = true) (w2 : (Jvm.Cond.instanceMethod y).before a0 Z = true) (w3 : (Jvm.Cond.initialized y.cls).before a0 Z = true) (w4 : (Jvm.Cond.code y yb yl none).before a0 Z = true) (hy : y.cls ≠ "java/lang/invoke/MethodHandle" ∧ y.cls ≠ "java/lang/invoke/VarHandle")
    (hpd : parseMethodDescriptor y.desc = some ⟨ps, r⟩) (hlen : aL.length = ps.length) (hstk : st = aL.reverse ++ .ref b :: rest) (hd : decode bytes pc = .ok (.invokespecial idx, 3)) (hsz : ls.size = maxL) (hW : (rest.map fun v => v.category).sum ≤ W)
    (hf : rm.frames + 1 ≤ R.frames) (hl : W + (yl + 11) + rm.locals ≤ R.locals) (hcc : cells + rm.cells ≤ R.cells) (hss : slots + rm.slots ≤ R.slots) (hn : pc + 3 = n)
    (K : ∀ T' h', Q h' → Sd p l e R s m args below meth c n0 T' h' (cells + rm.cells) (slots + rm.slots) → Gl p e below s n0 P C S (T'.setTop (mkF m n ls rest))) : Gl p e below s n0 P C S (T.setTop (mkF m pc ls st)) :=
  gCallI X w aL rest hy1 hM w1 w2 w3 w4 hy hpd hlen hstk hd hsz hW hf hl hcc hss hn (fun T' h' v q X => by obtain ⟨rfl, q⟩ := q; exact K T' h' q X)
theorem gInitO (X : Sd p l e R s m args below meth c n0 T h cells slots) (w : Cx Z own nm bytes maxL ret p s m meth c) {idx W : Nat} {a : Addr} (w1 : (Jvm.Cond.methodLink own idx Lib.objectInit).before a0 Z = true) (w2 : (Jvm.Cond.instanceMethod Lib.objectInit).before a0 Z = true) (w3 : (Jvm.Cond.code Lib.objectInit ⟨#[0xb1]⟩ 1 none).before a0 Z = true) (hd : decode bytes pc = .ok (.invokespecial idx, 3)) (hsz : ls.size = maxL) (hf : 1 ≤ R.frames) (hW : (st.map fun v => v.category).sum ≤ W) (hl : W + 12 ≤ R.locals) (hn : pc + 3 = n)
    (K : ∀ T', Sd p l e R s m args below meth c n0 T' h cells slots → Gl p e below s n0 P C S (T'.setTop (mkF m n ls st))) : Gl p e below s n0 P C S (T.setTop (mkF m pc ls (.ref a :: st))) := by
  obtain ⟨locs, X, N, eh, hn0⟩ := X; obtain ⟨hx, hby, hZ, hown, -, hml, -⟩ := w; subst hn
  obtain ⟨T', X', e', st'⟩ := initO X hx hZ hown w1 w2 w3 eh (g := mkF m pc ls (.ref a :: st)) rfl (by rw [hml]; exact hsz) rfl (hb hby hd) hf (W := W) (by show 2 * 0 + _ ≤ _; rw [Nat.mul_zero, Nat.zero_add]; exact hW) hl
  exact Gl.of st' (K T' ⟨_, X', N, e', hn0⟩)
theorem gNew (X : Sd p l e R s m args below meth c n0 T h cells slots) (w : Cx Z own nm bytes maxL ret p s m meth c) {C0 : String} {idx k : Nat} (w1 : (Jvm.Cond.classLink own idx C0).before a0 Z = true) (w2 : (Jvm.Cond.instantiable C0 k).before a0 Z = true) (w3 : (Jvm.Cond.initialized C0).before a0 Z = true) (hd : decode bytes pc = .ok (.new idx, 3)) (hc : cells + 1 ≤ R.cells) (hl : slots + k ≤ R.slots) (hn : pc + 3 = n)
    (K : ∀ T' h' a, a = h.size → n0 ≤ a → Sd p l e R s m args below meth c n0 T' h' (cells + 1) (slots + k) → Ext h h' → Exa Z h' a C0 → (∀ {O nm d : String} {ty : FieldType}, Laid Z a0 C0 O nm d → parseFieldDescriptor d = some ty → Fld Z h' a O nm d (defaultValue ty)) → Gl p e below s n0 P C S (T'.setTop (mkF m n ls (.ref a :: st)))) : Gl p e below s n0 P C S (T.setTop (mkF m pc ls st)) := by
  obtain ⟨locs, X, N, eh, hn0⟩ := X; obtain ⟨hx, hby, hZ, hown, -, hml, -⟩ := w; subst hn
  obtain ⟨T', h', X', e', E', A', D', -, st'⟩ := newO X hx hZ hown w1 w2 w3 eh (g := mkF m pc ls st) rfl (hb hby hd) hc hl
  exact Gl.of st' (K T' h' h.size rfl (Sd.le ⟨_, X, N, eh, hn0⟩) ⟨_, X', N, e', hn0⟩ E' A' D')
theorem gGetF (X : Sd p l e R s m args below meth c n0 T h cells slots) (w : Cx Z own nm bytes maxL ret p s m meth c) {R0 O fn d : String} {idx : Nat} {a : Addr} {v : Value} (w1 : (Jvm.Cond.fieldLink own idx R0 fn d).before a0 Z = true) (via : Via Z R0 O fn d) (F : Fld Z h a O fn d v) (hd : decode bytes pc = .ok (.getfield idx, 3)) (hn : pc + 3 = n)
    (K : ∀ T', Sd p l e R s m args below meth c n0 T' h cells slots → Gl p e below s n0 P C S (T'.setTop (mkF m n ls (v :: st)))) : Gl p e below s n0 P C S (T.setTop (mkF m pc ls (.ref a :: st))) := by
  obtain ⟨locs, X, N, eh, hn0⟩ := X; obtain ⟨hx, hby, hZ, hown, -, hml, -⟩ := w; subst hn
  obtain ⟨T', X', e', st'⟩ := getF X hx hZ hown (host := "") (Or.inl w1) via eh F (g := mkF m pc ls (.ref a :: st)) rfl rfl (hb hby hd)
  exact Gl.of st' (K T' ⟨_, X', N, e', hn0⟩)
theorem gGetS (X : Sd p l e R s m args below meth c n0 T h cells slots) (w : Cx Z own nm bytes maxL ret p s m meth c) {R0 O fn d : String} {idx : Nat} {v : Value} (w1 : (Jvm.Cond.fieldLink own idx R0 fn d).before a0 Z = true) (via : Via Z R0 O fn d) (F : Sta Z h O fn d v) (hd : decode bytes pc = .ok (.getstatic idx, 3)) (hn : pc + 3 = n)
    (K : ∀ T', Sd p l e R s m args below meth c n0 T' h cells slots → Gl p e below s n0 P C S (T'.setTop (mkF m n ls (v :: st)))) : Gl p e below s n0 P C S (T.setTop (mkF m pc ls st)) := by
  obtain ⟨locs, X, N, eh, hn0⟩ := X; obtain ⟨hx, hby, hZ, hown, -, hml, -⟩ := w; subst hn
  obtain ⟨T', X', e', st'⟩ := getS X hx hZ hown (host := "") w1 via eh F (g := mkF m pc ls st) rfl (hb hby hd)
  exact Gl.of st' (K T' ⟨_, X', N, e', hn0⟩)
theorem gPutF (X : Sd p l e R s m args below meth c n0 T h cells slots) (w : Cx Z own nm bytes maxL ret p s m meth c) {R0 O fn d C0 : String} {idx k : Nat} {ty : FieldType} {a : Addr} {v old : Value} (w1 : (Jvm.Cond.fieldLink own idx R0 fn d).before a0 Z = true) (via : Via Z R0 O fn d) (F : Fld Z h a O fn d old) (E : Exa Z h a C0) (hL : (Jvm.Cond.lays C0 O fn d).before a0 Z = true ∨ ((Jvm.Cond.laysFinal C0 O fn d).before a0 Z = true ∧ own = O ∧ nm = "<init>")) (w2 : (Jvm.Cond.instantiable C0 k).before a0 Z = true) (ha : n0 ≤ a)
    (hty : parseFieldDescriptor d = some ty) (hnar : narrow ty v = v) (hfit : fits ty v = true) (hd : decode bytes pc = .ok (.putfield idx, 3)) (hn : pc + 3 = n)
    (K : ∀ T' h', Sd p l e R s m args below meth c n0 T' h' cells slots → Wr h h' a (Jvm.RoadKit.slotOf Z O fn d) v → Gl p e below s n0 P C S (T'.setTop (mkF m n ls st))) : Gl p e below s n0 P C S (T.setTop (mkF m pc ls (v :: .ref a :: st))) := by
  obtain ⟨locs, X, N, eh, hn0⟩ := X; obtain ⟨hx, hby, hZ, hown, hnm, hml, -⟩ := w; subst hn
  obtain ⟨T', h', X', e', W', st'⟩ := putF X hx hZ hown (host := "") (Or.inl w1) via eh F E (hL.imp id fun q => ⟨q.1, q.2.1, hnm.trans q.2.2⟩) w2 hty hnar hfit (g := mkF m pc ls (v :: .ref a :: st)) rfl rfl (hb hby hd)
  exact Gl.of st' (K T' h' ⟨_, X', Fr.snoc X' N ha, e', hn0⟩ W')
/-- an array with its values -/
def Av (Z : State) (h : Heap) (a : Addr) (ty : FieldType) (vs : List Value) : Prop := ∃ c : Cell, Arr Z h a c ty ∧ c.slots = vs.toArray
theorem Av.lt {a : Addr} {ty : FieldType} {vs : List Value} (F : Av Z h a ty vs) : a < h.size := by obtain ⟨c, A, -⟩ := F; exact A.lt
theorem Av.ext {h' : Heap} {a : Addr} {ty : FieldType} {vs : List Value} (F : Av Z h a ty vs) (E : Ext h h') : Av Z h' a ty vs := by obtain ⟨c, A, q⟩ := F; exact ⟨c, A.ext E, q⟩
theorem Av.other {h' : Heap} {a b : Addr} {sl : Nat} {v : Value} {ty : FieldType} {vs : List Value} (F : Av Z h b ty vs) (W : Wr h h' a sl v) (ne : b ≠ a) : Av Z h' b ty vs := by obtain ⟨c, A, q⟩ := F; exact ⟨c, A.other W ne, q⟩
theorem Av.keep {h' : Heap} {a : Addr} {ty : FieldType} {vs : List Value} {ws : List Addr} (F : Av Z h a ty vs) (K : Keep h h' ws) (ne : a ∉ ws) : Av Z h' a ty vs := by obtain ⟨c, A, q⟩ := F; exact ⟨c, ⟨K.2.1 a c A.1 ne, A.2⟩, q⟩
theorem Av.set {h' : Heap} {a : Addr} {sl : Nat} {v : Value} {ty : FieldType} {vs : List Value} (F : Av Z h a ty vs) (W : Wr h h' a sl v) : Av Z h' a ty (vs.set sl v) := by
  obtain ⟨c, A, q⟩ := F
  exact ⟨_, A.same W, by show c.slots.setIfInBounds sl v = _; rw [q]; simp⟩
theorem neOf {x a : Addr} {h : Heap} (h1 : x < h.size) (h2 : h.size ≤ a) : x ≠ a := fun e => absurd (Nat.lt_of_lt_of_le h1 h2) (by rw [e]; exact Nat.lt_irrefl _)
theorem staKeep {h' : Heap} {O fn d : String} {v : Value} {ws : List Addr} (F : Sta Z h O fn d v) (K : Keep h h' ws) (hp : ∀ x ∈ ws, ∀ c : Cell, h[x]? = some c → c.vm.isStatics = false) : Sta Z h' O fn d v := by
  obtain ⟨cf, i, k, f, st, cell, h1, h2, h3, h4, h5, h6, h7⟩ := F
  exact ⟨cf, i, k, f, st, cell, h1, h2, h3, h4, K.2.1 _ _ h5 (fun q => by rw [hp _ q _ h5] at h6; cases h6), h6, h7⟩
theorem idxIn {j : Int32} {vs : List Value} {c : Cell} (q : c.slots = vs.toArray) (hj : 0 ≤ j.toInt) (hv : j.toInt < vs.length) : ¬ (j < 0 ∨ c.slots.size ≤ j.toNatClampNeg) := by
  have e := XT.negI32 j
  have hc : j.toNatClampNeg = j.toInt.toNat := rfl
  rintro (g | g)
  · have := e.mp g; omega
  · rw [q] at g; simp only [List.size_toArray] at g; omega
theorem gNewP (X : Sd p l e R s m args below meth c n0 T h cells slots) (w : Cx Z own nm bytes maxL ret p s m meth c) {aty : ArrayType} {k : Int32} {cap : Nat} (w1 : (Jvm.Cond.arrayClass (newarray.typeOf aty)).before a0 Z = true) (hd : decode bytes pc = .ok (.newarray aty, 2)) (hk : 0 ≤ k.toInt) (hcap : k.toInt ≤ cap) (hb' : cap * 8 ≤ 536870912) (hc : cells + 1 ≤ R.cells) (hl : slots + cap ≤ R.slots) {vs : List Value} {ty : FieldType} (hvs : List.replicate k.toInt.toNat (defaultValue (newarray.typeOf aty)) = vs) (hty : newarray.typeOf aty = ty) {ad : String} (had : "[" ++ (newarray.typeOf aty).toString = ad) (hn : pc + 2 = n)
    (K : ∀ T' h' a, a = h.size → n0 ≤ a → Sd p l e R s m args below meth c n0 T' h' (cells + 1) (slots + cap) → Ext h h' → Av Z h' a ty vs → Exa Z h' a ad → Gl p e below s n0 P C S (T'.setTop (mkF m n ls (.ref a :: st)))) : Gl p e below s n0 P C S (T.setTop (mkF m pc ls (.int k :: st))) := by
  obtain ⟨locs, X, N, eh, hn0⟩ := X; obtain ⟨hx, hby, hZ, hown, -, hml, -⟩ := w; subst hn hvs hty
  have e := XT.negI32 k
  have hkc : k.toNatClampNeg = k.toInt.toNat := rfl
  obtain ⟨T', h', cA, X', e', E', A', Ex', st'⟩ := newPE X hx hZ w1 eh (g := mkF m pc ls (.int k :: st)) rfl (hb hby hd) rfl (fun g => by have := e.mp g; omega) (cap := cap) (by omega) hb' hc hl had
  exact Gl.of st' (K T' h' h.size rfl (Sd.le ⟨_, X, N, eh, hn0⟩) ⟨_, X', N, e', hn0⟩ E' ⟨_, A', by show Array.replicate _ _ = _; rw [hkc]; simp⟩ Ex')
theorem gClone (X : Sd p l e R s m args below meth c n0 T h cells slots) (w : Cx Z own nm bytes maxL ret p s m meth c) {idx W cap : Nat} {a : Addr} {ad : String} {ty : FieldType} {vs : List Value} (F : Av Z h a ty vs) (E : Exa Z h a ad) (hfit : ∀ v ∈ vs, fits ty v = true) (w1 : (Jvm.Cond.methodLink own idx ⟨ad, "clone", "()Ljava/lang/Object;"⟩).before a0 Z = true) (w2 : (Jvm.Cond.sameMethod ad "java/lang/Object" "clone" "()Ljava/lang/Object;").before a0 Z = true) (w3 : (Jvm.Cond.native ⟨"java/lang/Object", "clone", "()Ljava/lang/Object;"⟩).before a0 Z = true) (w4 : (Jvm.Cond.instanceMethod ⟨"java/lang/Object", "clone", "()Ljava/lang/Object;"⟩).before a0 Z = true) (w5 : (Jvm.Cond.selects ad ⟨ad, "clone", "()Ljava/lang/Object;"⟩ ⟨"java/lang/Object", "clone", "()Ljava/lang/Object;"⟩).before a0 Z = true) (w6 : (Jvm.Cond.castable ad "java/lang/Cloneable").before a0 Z = true)
    (hd : decode bytes pc = .ok (.invokevirtual idx, 3)) (hsz : ls.size = maxL) (hf : 1 ≤ R.frames) (hW : (st.map fun v => v.category).sum ≤ W) (hl : W + 14 ≤ R.locals) (hcap : vs.length ≤ cap) (hc : cells + 1 ≤ R.cells) (hss : slots + cap ≤ R.slots) (hn : pc + 3 = n)
    (K : ∀ T' h' b, b = h.size → n0 ≤ b → Sd p l e R s m args below meth c n0 T' h' (cells + 1) (slots + cap) → Ext h h' → Av Z h' b ty vs → Exa Z h' b ad → Gl p e below s n0 P C S (T'.setTop (mkF m n ls (.ref b :: st)))) : Gl p e below s n0 P C S (T.setTop (mkF m pc ls (.ref a :: st))) := by
  obtain ⟨locs, X, N, eh, hn0⟩ := X; obtain ⟨hx, hby, hZ, hown, -, hml, -⟩ := w; subst hn
  obtain ⟨cl, A, q⟩ := F
  have FC : FitC Z cl := fitC_of A fun i hi v hv => hfit v (by rw [q] at hv; simp only [List.getElem?_toArray] at hv; exact List.mem_of_getElem? hv)
  obtain ⟨T', h', X', e', E', A', Ex', st'⟩ := cloneA X hx hZ hown w1 w2 w3 w4 w5 w6 eh A E FC (g := mkF m pc ls (.ref a :: st)) rfl (by rw [hml]; exact hsz) rfl (hb hby hd) hf (W := W) (cap := cap) (by show 2 * 0 + _ ≤ _; rw [Nat.mul_zero, Nat.zero_add]; exact hW) hl (by rw [q]; simpa using hcap) hc hss
  exact Gl.of st' (K T' h' h.size rfl (Sd.le ⟨_, X, N, eh, hn0⟩) ⟨_, X', N, e', hn0⟩ E' ⟨_, A', q⟩ Ex')
theorem gCast (X : Sd p l e R s m args below meth c n0 T h cells slots) (w : Cx Z own nm bytes maxL ret p s m meth c) {K0 : String} {idx : Nat} {a : Addr} (w1 : (Jvm.Cond.classLink own idx K0).before a0 Z = true) (F : Ins Z h a K0 true) (hd : decode bytes pc = .ok (.checkcast idx, 3)) (hn : pc + 3 = n)
    (K : ∀ T', Sd p l e R s m args below meth c n0 T' h cells slots → Gl p e below s n0 P C S (T'.setTop (mkF m n ls (.ref a :: st)))) : Gl p e below s n0 P C S (T.setTop (mkF m pc ls (.ref a :: st))) := by
  obtain ⟨locs, X, N, eh, hn0⟩ := X; obtain ⟨hx, hby, hZ, hown, -, hml, -⟩ := w; subst hn
  obtain ⟨T', X', e', st'⟩ := castY X hx hZ hown w1 eh F (g := mkF m pc ls (.ref a :: st)) rfl rfl (hb hby hd)
  exact Gl.of st' (K T' ⟨_, X', N, e', hn0⟩)
theorem gInstY (X : Sd p l e R s m args below meth c n0 T h cells slots) (w : Cx Z own nm bytes maxL ret p s m meth c) {K0 : String} {idx : Nat} {a : Addr} (w1 : (Jvm.Cond.classLink own idx K0).before a0 Z = true) (F : Ins Z h a K0 true) (hd : decode bytes pc = .ok (.instanceof idx, 3)) (hn : pc + 3 = n)
    (K : ∀ T', Sd p l e R s m args below meth c n0 T' h cells slots → Gl p e below s n0 P C S (T'.setTop (mkF m n ls (.int 1 :: st)))) : Gl p e below s n0 P C S (T.setTop (mkF m pc ls (.ref a :: st))) := by
  obtain ⟨locs, X, N, eh, hn0⟩ := X; obtain ⟨hx, hby, hZ, hown, -, hml, -⟩ := w; subst hn
  obtain ⟨T', X', e', st'⟩ := instY X hx hZ hown w1 eh F (g := mkF m pc ls (.ref a :: st)) rfl rfl (hb hby hd)
  exact Gl.of st' (K T' ⟨_, X', N, e', hn0⟩)
theorem gIastore (X : Sd p l e R s m args below meth c n0 T h cells slots) (w : Cx Z own nm bytes maxL ret p s m meth c) {a : Addr} {j : Int32} {x : Int32} {z : Value} {vs : List Value} (F : Av Z h a .int vs) (hj : 0 ≤ j.toInt) (hjv : j.toInt < vs.length) (ha : n0 ≤ a) (hz : Value.int x = z) {vs' : List Value} (hvs : vs.set j.toInt.toNat z = vs') (hd : decode bytes pc = .ok (.iastore, 1)) (hn : pc + 1 = n)
    (K : ∀ T' h', Sd p l e R s m args below meth c n0 T' h' cells slots → Wr h h' a j.toInt.toNat z → Av Z h' a .int vs' → Gl p e below s n0 P C S (T'.setTop (mkF m n ls st))) : Gl p e below s n0 P C S (T.setTop (mkF m pc ls (.int x :: .int j :: .ref a :: st))) := by
  obtain ⟨locs, X, N, eh, hn0⟩ := X; obtain ⟨hx, hby, hZ, hown, hnm, hml, -⟩ := w; subst hn hz hvs
  obtain ⟨cl, A, q⟩ := F
  obtain ⟨T', h', X', e', W', st'⟩ := stI X hx hZ eh A (j := j) (idxIn q hj hjv) (g := mkF m pc ls (.int x :: .int j :: .ref a :: st)) rfl rfl (hb hby hd)
  exact Gl.of st' (K T' h' ⟨_, X', Fr.snoc X' N ha, e', hn0⟩ W' (Av.set ⟨cl, A, q⟩ W'))
theorem gLastore (X : Sd p l e R s m args below meth c n0 T h cells slots) (w : Cx Z own nm bytes maxL ret p s m meth c) {a : Addr} {j : Int32} {x : Int64} {z : Value} {vs : List Value} (F : Av Z h a .long vs) (hj : 0 ≤ j.toInt) (hjv : j.toInt < vs.length) (ha : n0 ≤ a) (hz : Value.long x = z) {vs' : List Value} (hvs : vs.set j.toInt.toNat z = vs') (hd : decode bytes pc = .ok (.lastore, 1)) (hn : pc + 1 = n)
    (K : ∀ T' h', Sd p l e R s m args below meth c n0 T' h' cells slots → Wr h h' a j.toInt.toNat z → Av Z h' a .long vs' → Gl p e below s n0 P C S (T'.setTop (mkF m n ls st))) : Gl p e below s n0 P C S (T.setTop (mkF m pc ls (.long x :: .int j :: .ref a :: st))) := by
  obtain ⟨locs, X, N, eh, hn0⟩ := X; obtain ⟨hx, hby, hZ, hown, hnm, hml, -⟩ := w; subst hn hz hvs
  obtain ⟨cl, A, q⟩ := F
  obtain ⟨T', h', X', e', W', st'⟩ := stJ X hx hZ eh A (j := j) (idxIn q hj hjv) (g := mkF m pc ls (.long x :: .int j :: .ref a :: st)) rfl rfl (hb hby hd)
  exact Gl.of st' (K T' h' ⟨_, X', Fr.snoc X' N ha, e', hn0⟩ W' (Av.set ⟨cl, A, q⟩ W'))
theorem gCastore (X : Sd p l e R s m args below meth c n0 T h cells slots) (w : Cx Z own nm bytes maxL ret p s m meth c) {a : Addr} {j : Int32} {x : Int32} {z : Value} {vs : List Value} (F : Av Z h a .char vs) (hj : 0 ≤ j.toInt) (hjv : j.toInt < vs.length) (ha : n0 ≤ a) (hz : Value.int (nar .char x) = z) {vs' : List Value} (hvs : vs.set j.toInt.toNat z = vs') (hd : decode bytes pc = .ok (.castore, 1)) (hn : pc + 1 = n)
    (K : ∀ T' h', Sd p l e R s m args below meth c n0 T' h' cells slots → Wr h h' a j.toInt.toNat z → Av Z h' a .char vs' → Gl p e below s n0 P C S (T'.setTop (mkF m n ls st))) : Gl p e below s n0 P C S (T.setTop (mkF m pc ls (.int x :: .int j :: .ref a :: st))) := by
  obtain ⟨locs, X, N, eh, hn0⟩ := X; obtain ⟨hx, hby, hZ, hown, hnm, hml, -⟩ := w; subst hn hz hvs
  obtain ⟨cl, A, q⟩ := F
  obtain ⟨T', h', X', e', W', st'⟩ := stC X hx hZ eh A (j := j) (idxIn q hj hjv) (g := mkF m pc ls (.int x :: .int j :: .ref a :: st)) rfl rfl (hb hby hd)
  exact Gl.of st' (K T' h' ⟨_, X', Fr.snoc X' N ha, e', hn0⟩ W' (Av.set ⟨cl, A, q⟩ W'))
theorem gBastore (X : Sd p l e R s m args below meth c n0 T h cells slots) (w : Cx Z own nm bytes maxL ret p s m meth c) {a : Addr} {j : Int32} {x : Int32} {z : Value} {vs : List Value} (F : Av Z h a .byte vs) (hj : 0 ≤ j.toInt) (hjv : j.toInt < vs.length) (ha : n0 ≤ a) (hz : Value.int (nar .byte x) = z) {vs' : List Value} (hvs : vs.set j.toInt.toNat z = vs') (hd : decode bytes pc = .ok (.bastore, 1)) (hn : pc + 1 = n)
    (K : ∀ T' h', Sd p l e R s m args below meth c n0 T' h' cells slots → Wr h h' a j.toInt.toNat z → Av Z h' a .byte vs' → Gl p e below s n0 P C S (T'.setTop (mkF m n ls st))) : Gl p e below s n0 P C S (T.setTop (mkF m pc ls (.int x :: .int j :: .ref a :: st))) := by
  obtain ⟨locs, X, N, eh, hn0⟩ := X; obtain ⟨hx, hby, hZ, hown, hnm, hml, -⟩ := w; subst hn hz hvs
  obtain ⟨cl, A, q⟩ := F
  obtain ⟨T', h', X', e', W', st'⟩ := stB X hx hZ eh A (j := j) (idxIn q hj hjv) (g := mkF m pc ls (.int x :: .int j :: .ref a :: st)) rfl rfl (hb hby hd)
  exact Gl.of st' (K T' h' ⟨_, X', Fr.snoc X' N ha, e', hn0⟩ W' (Av.set ⟨cl, A, q⟩ W'))
theorem gIaload (X : Sd p l e R s m args below meth c n0 T h cells slots) (w : Cx Z own nm bytes maxL ret p s m meth c) {a : Addr} {j : Int32} {v : Value} {vs : List Value} (F : Av Z h a .int vs) (hj : 0 ≤ j.toInt) (hv : vs[j.toInt.toNat]? = some v) (hd : decode bytes pc = .ok (.iaload, 1)) (hn : pc + 1 = n) (K : Gl p e below s n0 P C S (T.setTop (mkF m n ls (v :: st)))) : Gl p e below s n0 P C S (T.setTop (mkF m pc ls (.int j :: .ref a :: st))) := by
  obtain ⟨locs, X, N, eh, hn0⟩ := X; obtain ⟨hx, hby, hZ, hown, hnm, hml, -⟩ := w; subst hn
  obtain ⟨cl, A, q⟩ := F
  have hlt : j.toInt.toNat < vs.length := (List.getElem?_eq_some_iff.mp hv).1
  exact Gl.of (fun t k => X.iaload hx (j := j) (v := v) (by rw [eh]; exact A.1) (State.isArrayOf_alike hZ.alike A.2.1) A.2.2 (idxIn q hj (by omega)) (by rw [q]; show vs.toArray[j.toInt.toNat]? = _; simpa using hv) (g := mkF m pc ls (.int j :: .ref a :: st)) rfl rfl (hb hby hd) _ k) K
theorem gCaload (X : Sd p l e R s m args below meth c n0 T h cells slots) (w : Cx Z own nm bytes maxL ret p s m meth c) {a : Addr} {j : Int32} {v : Value} {vs : List Value} (F : Av Z h a .char vs) (hj : 0 ≤ j.toInt) (hv : vs[j.toInt.toNat]? = some v) (hd : decode bytes pc = .ok (.caload, 1)) (hn : pc + 1 = n) (K : Gl p e below s n0 P C S (T.setTop (mkF m n ls (v :: st)))) : Gl p e below s n0 P C S (T.setTop (mkF m pc ls (.int j :: .ref a :: st))) := by
  obtain ⟨locs, X, N, eh, hn0⟩ := X; obtain ⟨hx, hby, hZ, hown, hnm, hml, -⟩ := w; subst hn
  obtain ⟨cl, A, q⟩ := F
  have hlt : j.toInt.toNat < vs.length := (List.getElem?_eq_some_iff.mp hv).1
  exact Gl.of (fun t k => X.caload hx (j := j) (v := v) (by rw [eh]; exact A.1) (State.isArrayOf_alike hZ.alike A.2.1) A.2.2 (idxIn q hj (by omega)) (by rw [q]; show vs.toArray[j.toInt.toNat]? = _; simpa using hv) (g := mkF m pc ls (.int j :: .ref a :: st)) rfl rfl (hb hby hd) _ k) K
theorem gBaload (X : Sd p l e R s m args below meth c n0 T h cells slots) (w : Cx Z own nm bytes maxL ret p s m meth c) {a : Addr} {j : Int32} {v : Value} {vs : List Value} (F : Av Z h a .byte vs) (hj : 0 ≤ j.toInt) (hv : vs[j.toInt.toNat]? = some v) (hd : decode bytes pc = .ok (.baload, 1)) (hn : pc + 1 = n) (K : Gl p e below s n0 P C S (T.setTop (mkF m n ls (v :: st)))) : Gl p e below s n0 P C S (T.setTop (mkF m pc ls (.int j :: .ref a :: st))) := by
  obtain ⟨locs, X, N, eh, hn0⟩ := X; obtain ⟨hx, hby, hZ, hown, hnm, hml, -⟩ := w; subst hn
  obtain ⟨cl, A, q⟩ := F
  have hlt : j.toInt.toNat < vs.length := (List.getElem?_eq_some_iff.mp hv).1
  exact Gl.of (fun t k => X.baloadBytes hx (j := j) (v := v) (by rw [eh]; exact A.1) (State.isArrayOf_alike hZ.alike A.2.1) A.2.2 (idxIn q hj (by omega)) (by rw [q]; show vs.toArray[j.toInt.toNat]? = _; simpa using hv) (g := mkF m pc ls (.int j :: .ref a :: st)) rfl rfl (hb hby hd) _ k) K
theorem gLaload (X : Sd p l e R s m args below meth c n0 T h cells slots) (w : Cx Z own nm bytes maxL ret p s m meth c) {a : Addr} {j : Int32} {v : Value} {vs : List Value} (F : Av Z h a .long vs) (hj : 0 ≤ j.toInt) (hv : vs[j.toInt.toNat]? = some v) (hd : decode bytes pc = .ok (.laload, 1)) (hn : pc + 1 = n) (K : Gl p e below s n0 P C S (T.setTop (mkF m n ls (v :: st)))) : Gl p e below s n0 P C S (T.setTop (mkF m pc ls (.int j :: .ref a :: st))) := by
  obtain ⟨locs, X, N, eh, hn0⟩ := X; obtain ⟨hx, hby, hZ, hown, hnm, hml, -⟩ := w; subst hn
  obtain ⟨cl, A, q⟩ := F
  have hlt : j.toInt.toNat < vs.length := (List.getElem?_eq_some_iff.mp hv).1
  exact Gl.of (fun t k => X.laload hx (j := j) (v := v) (by rw [eh]; exact A.1) (State.isArrayOf_alike hZ.alike A.2.1) A.2.2 (idxIn q hj (by omega)) (by rw [q]; show vs.toArray[j.toInt.toNat]? = _; simpa using hv) (g := mkF m pc ls (.int j :: .ref a :: st)) rfl rfl (hb hby hd) _ k) K
theorem Av.arv {a : Addr} {ty : FieldType} {vs : List Value} (dv : Value) (F : Av Z h a ty vs) (hf : ∀ v ∈ vs, fits ty v = true) (hl : vs.length < 2 ^ 31) : ∃ k, Arv Z h a k ty vs.length.toInt32 vs dv := by
  obtain ⟨c, A, q⟩ := F
  have hz : vs.length.toInt32.toInt = vs.length := len_toInt hl
  have hc : vs.length.toInt32.toNatClampNeg = vs.length := by show vs.length.toInt32.toInt.toNat = _; rw [hz]; rfl
  have hs : c.slots.size = vs.length := by rw [q]; simp
  refine ⟨c.cls, c, A, rfl, by rw [hc, hs], fun g => by have := (XT.negI32 _).mp g; omega, fun i hi => ?_, fun i hi => ?_⟩
  · rw [hs] at hi; rw [q]; simp [hi]
  · rw [hs] at hi; rw [List.getD_eq_getElem?_getD, List.getElem?_eq_getElem hi]; exact hf _ (List.getElem_mem hi)
theorem avOf {a : Addr} {k : ClassId} {ty : FieldType} {z : Int32} {vs : List Value} {dv : Value} (F : Arv Z h a k ty z vs dv) (hl : z.toNatClampNeg = vs.length) : Av Z h a ty vs := by
  obtain ⟨c, A, -, S, -, H, -⟩ := F
  refine ⟨c, A, Array.ext_getElem? fun i => ?_⟩
  by_cases hi : i < c.slots.size
  · rw [H i hi]; rw [S, hl] at hi; simp [hi]
  · rw [Array.getElem?_eq_none (by omega)]; rw [S, hl] at hi; simp; omega
theorem gAcopy (X : Sd p l e R s m args below meth c n0 T h cells slots) (w : Cx Z own nm bytes maxL ret p s m meth c) {idx W : Nat} {a b : Addr} {ty : FieldType} {va vb vs' : List Value} {sp dp nn : Int32} (dv : Value) (A : Av Z h a ty va) (B : Av Z h b ty vb) (hty : refKind ty = false) (fa : ∀ v ∈ va, fits ty v = true) (fb : ∀ v ∈ vb, fits ty v = true) (la : va.length < 2 ^ 31) (lb : vb.length < 2 ^ 31)
    (w1 : (Jvm.Cond.methodLink own idx Jvm.Stand.acN).before a0 Z = true) (w2 : (Jvm.Cond.native Jvm.Stand.acN).before a0 Z = true) (w3 : (Jvm.Cond.static Jvm.Stand.acN).before a0 Z = true) (w4 : (Jvm.Cond.initialized "java/lang/System").before a0 Z = true)
    (h1 : 0 ≤ sp.toInt) (h2 : 0 ≤ dp.toInt) (h3 : 0 ≤ nn.toInt) (h4 : sp.toInt + nn.toInt ≤ va.length) (h5 : dp.toInt + nn.toInt ≤ vb.length) (hvs : vb.take dp.toInt.toNat ++ ((List.range nn.toInt.toNat).map fun i => va.getD (sp.toInt.toNat + i) dv) ++ vb.drop (dp.toInt.toNat + nn.toInt.toNat) = vs') (ge : n0 ≤ b)
    (hd : decode bytes pc = .ok (.invokestatic idx, 3)) (hsz : ls.size = maxL) (hf : 1 ≤ R.frames) (hW : (st.map fun v => v.category).sum ≤ W) (hl : W + (nativeFrameWords "java/lang/System" "arraycopy" 5 + 11) ≤ R.locals) (hn : pc + 3 = n)
    (K : ∀ T' h', Sd p l e R s m args below meth c n0 T' h' cells slots → Keep h h' [b] → Av Z h' b ty vs' → Gl p e below s n0 P C S (T'.setTop (mkF m n ls st))) : Gl p e below s n0 P C S (T.setTop (mkF m pc ls (.int nn :: .int dp :: .ref b :: .int sp :: .ref a :: st))) := by
  obtain ⟨locs, X, N, eh, hn0⟩ := X; obtain ⟨hx, hby, hZ, hown, -, hml, -⟩ := w; subst hn hvs
  obtain ⟨ka, A⟩ := A.arv dv fa la
  obtain ⟨kb, B⟩ := B.arv dv fb lb
  have za : va.length.toInt32.toNatClampNeg = va.length := by show va.length.toInt32.toInt.toNat = _; rw [len_toInt la]; rfl
  have zb : vb.length.toInt32.toNatClampNeg = vb.length := by show vb.length.toInt32.toInt.toNat = _; rw [len_toInt lb]; rfl
  have n1 : ¬ sp < 0 := fun g => by have := (XT.negI32 _).mp g; omega
  have n2 : ¬ dp < 0 := fun g => by have := (XT.negI32 _).mp g; omega
  have n3 : ¬ nn < 0 := fun g => by have := (XT.negI32 _).mp g; omega
  have e1 : sp.toNatClampNeg = sp.toInt.toNat := rfl
  have e2 : dp.toNatClampNeg = dp.toInt.toNat := rfl
  have e3 : nn.toNatClampNeg = nn.toInt.toNat := rfl
  obtain ⟨T', h', L, X', e', N', K', B', st'⟩ := cpA X hx hZ hown w1 w2 w3 w4 eh A B (Or.inl ⟨rfl, hty⟩) n1 n2 n3 (by rw [za, e1, e3]; omega) (by rw [zb, e2, e3]; omega) rfl (by rw [e2, e3]; omega) N ge (g := mkF m pc ls (.int nn :: .int dp :: .ref b :: .int sp :: .ref a :: st)) rfl (by rw [hml]; exact hsz) rfl (hb hby hd) hf (W := W) (by show 2 * 0 + _ ≤ _; rw [Nat.mul_zero, Nat.zero_add]; exact hW) hl
  exact Gl.of st' (K T' h' ⟨L, X', N', e', hn0⟩ K' (avOf B' (by rw [zb, List.length_append, List.length_append, List.length_take, List.length_map, List.length_range, List.length_drop]; omega)))
theorem gAbsD (X : Sd p l e R s m args below meth c n0 T h cells slots) (w : Cx Z own nm bytes maxL ret p s m meth c) {idx W : Nat} {u : UInt64} {rest : List Value} (hu : Jvm.Free.Fl.NoNaN64 u) (w1 : (Jvm.Cond.methodLink own idx Jvm.Free.Fl.Abs.absDN).before a0 Z = true) (w2 : (Jvm.Cond.static Jvm.Free.Fl.Abs.absDN).before a0 Z = true) (w3 : (Jvm.Cond.initialized "java/lang/Math").before a0 Z = true) (w4 : (Jvm.Cond.code Jvm.Free.Fl.Abs.absDN Jvm.Free.Fl.Abs.absDCode 2 (some .double)).before a0 Z = true)
    (hd : decode bytes pc = .ok (.invokestatic idx, 3)) (hsz : ls.size = maxL) (hf : 1 ≤ R.frames) (hW : (rest.map fun v => v.category).sum ≤ W) (hl : W + 13 ≤ R.locals) (hcc : cells ≤ R.cells) (hss : slots ≤ R.slots) (hn : pc + 3 = n)
    (K : ∀ T', Sd p l e R s m args below meth c n0 T' h cells slots → Gl p e below s n0 P C S (T'.setTop (mkF m n ls (.double (u &&& 0x7fffffffffffffff) :: rest)))) : Gl p e below s n0 P C S (T.setTop (mkF m pc ls (.double u :: rest))) := by
  obtain ⟨locs, X, N, eh, hn0⟩ := X; obtain ⟨hx, hby, hZ, hown, -, hml, -⟩ := w; subst hn
  have hpd : parseMethodDescriptor "(D)D" = some ⟨[.double], some .double⟩ := by decide +kernel
  obtain ⟨v, vm, ⟨T', L, k, sl⟩, -, X', ⟨hv, hB⟩, st'⟩ := Jvm.LawKit.callS X hx (y := Jvm.Free.Fl.Abs.absDN) hown (mvT hZ w1) (mvT hZ w2) (mvT hZ w3) (mvT hZ w4) (by decide) (Jvm.Free.Fl.Abs.absD_pays (W := W) u (mvT hZ w4) hf hl) (g := mkF m pc ls (.double u :: rest)) rfl (by rw [hml]; exact hsz) (argsL := [.double u]) (rest := rest) (lenOf hpd rfl) rfl (by show 2 * 0 + _ ≤ _; rw [Nat.mul_zero, Nat.zero_add]; exact hW) (hb hby hd) (fun _ _ => ⟨hcc, hss, rfl, hu⟩)
  dsimp only [Pt.U, Pt.locs, Pt.cells, Pt.slots] at X' st' hv hB
  cases hB; subst hv
  have e' : (T.setVm vm).heap = h := eh
  exact Gl.of st' (K _ ⟨_, X', N, e', hn0⟩)
theorem gAlen (X : Sd p l e R s m args below meth c n0 T h cells slots) (w : Cx Z own nm bytes maxL ret p s m meth c) {a : Addr} {ty : FieldType} {vs : List Value} {z : Int32} (F : Av Z h a ty vs) (hz : vs.length.toInt32 = z) (hd : decode bytes pc = .ok (.arraylength, 1)) (hn : pc + 1 = n) (K : Gl p e below s n0 P C S (T.setTop (mkF m n ls (.int z :: st)))) : Gl p e below s n0 P C S (T.setTop (mkF m pc ls (.ref a :: st))) := by
  obtain ⟨locs, X, N, eh, hn0⟩ := X; obtain ⟨hx, hby, hZ, hown, hnm, hml, -⟩ := w; subst hn hz
  obtain ⟨cl, A, q⟩ := F
  have hs : cl.slots.size = vs.length := by rw [q]; simp
  rw [← hs] at K
  exact Gl.of (fun t k => X.arraylength hx (by rw [eh]; exact A.1) (State.isArrayOf_alike hZ.alike A.2.1) (g := mkF m pc ls (.ref a :: st)) rfl rfl (hb hby hd) _ k) K
theorem eqR {args : Array Value} {s : State} {t u : Term} {b : Addr} (hu : u.eval args s none [] s = some (.ref b)) (h : (Jvm.Cond.eq t u).value args s none s [] = some true) : t.eval args s none [] s = some (.ref b) := by
  obtain ⟨x, y, hx, hy, k1, k2⟩ := cmp_v (Or.inl h)
  cases hu.symm.trans hy
  obtain ⟨-, q⟩ := (k2 : (Value.ref b).isRef = true ∧ x.isRef = true)
  have e := gotT (eq_R hx hy q rfl) h
  rw [hx, e]
theorem eqI {args : Array Value} {s : State} {t u : Term} {z : Int32} (hu : u.eval args s none [] s = some (.int z)) (h : (Jvm.Cond.eq t u).value args s none s [] = some true) : t.eval args s none [] s = some (.int z) := by
  obtain ⟨x, y, hx, hy, k1, k2⟩ := cmp_v (Or.inl h)
  cases hu.symm.trans hy
  obtain ⟨x', rfl⟩ := (k2 : ∃ z', x = .int z')
  have e : some (decide (x' = z)) = some true := by rw [← h]; simp [Cond.value, hx, hy]
  have e' : x' = z := by simpa using e
  rw [hx, e']
theorem mask31 (x : Int32) : (x &&& 2147483647).toInt = x.toInt % 2147483648 := c_mask x 2147483647 31 (by decide) (by decide)
theorem irem_pos {x y : Int32} (hx : 0 ≤ x.toInt) : (x % y).toInt = x.toInt % y.toInt := (c_irem x y _ rfl).1 hx
theorem lrem_pos {x y : Int64} (hx : 0 ≤ x.toInt) : (x % y).toInt = x.toInt % y.toInt := by rw [← lrem_mod]; exact (c_lrem x y _ rfl).1 hx
theorem ne0I {x : Int32} (h : x.toInt ≠ 0) : x ≠ 0 := fun e => h (by rw [e]; rfl)
theorem ne0L {x : Int64} (h : x.toInt ≠ 0) : x ≠ 0 := fun e => h (by rw [e]; rfl)
theorem iadd_toInt {x y : Int32} (h1 : -2147483648 ≤ x.toInt + y.toInt) (h2 : x.toInt + y.toInt < 2147483648) : (x + y).toInt = x.toInt + y.toInt := XT.add32 ⟨by omega, by omega⟩
theorem isub_toInt {x y : Int32} (h1 : -2147483648 ≤ x.toInt - y.toInt) (h2 : x.toInt - y.toInt < 2147483648) : (x - y).toInt = x.toInt - y.toInt := XT.sub32 ⟨by omega, by omega⟩
theorem ladd_toInt {x y : Int64} (h1 : -9223372036854775808 ≤ x.toInt + y.toInt) (h2 : x.toInt + y.toInt < 9223372036854775808) : (x + y).toInt = x.toInt + y.toInt := XT.add64 ⟨by omega, by omega⟩
theorem lsub_toInt {x y : Int64} (h1 : -9223372036854775808 ≤ x.toInt - y.toInt) (h2 : x.toInt - y.toInt < 9223372036854775808) : (x - y).toInt = x.toInt - y.toInt := XT.sub64 ⟨by omega, by omega⟩
theorem l2i_toInt {x : Int64} (h1 : -2147483648 ≤ x.toInt) (h2 : x.toInt < 2147483648) : x.toInt32.toInt = x.toInt := XT.narrowInt ⟨by omega, by omega⟩
end Walk
end Jvm.OwnWalk
namespace Jvm.Pilot.@@N@@
open Jvm Jvm.ClassFile Sem Op Lib Jvm.Free Jvm.Stand Jvm.LawKit Jvm.RoadKit Bundle Jvm.OwnWalk Jvm.Pilot.@@N@@.Jvm.D
theorem own_wd {a0 : Array Value} {Z : State} (hw : ∀ d ∈ tables_1, d.before a0 Z = true) (i : Nat) {d : Jvm.Cond} (q : tables_1[i]? = some d) : d.before a0 Z = true := hw _ (List.mem_of_getElem? q)
open Jvm.FP Jvm.FP.Core in
/-- the double u is worth m times two to the x, and not below nought -/
def own_dy (u : UInt64) (m : Nat) (x : Int) : Prop := ∃ (c : Nat) (q : Int), val64 u = .fin false c q ∧ -1100 ≤ q ∧ c * 2 ^ (q + 1100).toNat = m * 2 ^ (x + 1100).toNat
theorem own_cancel {c m K : Nat} {q x : Int} (h1 : 0 ≤ q + K) (h2 : 0 ≤ x + K) (h : c * 2 ^ (q + K).toNat = m * 2 ^ (x + K).toNat) : c * 2 ^ (q - x).toNat = m * 2 ^ (x - q).toNat := by
  have hp : 0 < 2 ^ (min q x + K).toNat := Nat.two_pow_pos _
  apply Nat.eq_of_mul_eq_mul_right hp
  rw [Nat.mul_assoc, Nat.mul_assoc, ← Nat.pow_add, ← Nat.pow_add, show (q - x).toNat + (min q x + K).toNat = (q + K).toNat by omega, show (x - q).toNat + (min q x + K).toNat = (x + K).toNat by omega]
  exact h
open Jvm.FP Jvm.FP.Core in
theorem own_rnd {m : Nat} {x : Int} (hm : m < 2 ^ 53) (h1 : -1074 ≤ x) (h2 : x ≤ 900) : ∃ (c : Nat) (q : Int), roundRatio b64 false m 1 x = .fin false c q ∧ -1100 ≤ q ∧ c * 2 ^ (q + 1100).toNat = m * 2 ^ (x + 1100).toNat := by
  have e1 : b64.qmin = -1074 := by decide
  have e2 : b64.qmax = 971 := by decide
  obtain ⟨c, q, r1, r2⟩ := round_exact good_b64 false (c := m) (q := x) hm (by rw [e1]; exact h1) (by rw [e2]; omega)
  have r3 := round_fits good_b64 (.fin false m x)
  rw [r1] at r3
  have r4 : -1074 ≤ q := by have := r3.2.1; rw [e1] at this; exact this
  refine ⟨c, q, r1, by omega, ?_⟩
  unfold inUnits at r2
  rw [e1] at r2
  have t1 : (q + 1100).toNat = (q - -1074).toNat + 26 := by omega
  have t2 : (x + 1100).toNat = (x - -1074).toNat + 26 := by omega
  rw [t1, t2, Nat.pow_add, Nat.pow_add, ← Nat.mul_assoc, ← Nat.mul_assoc, r2]
theorem own_dy_scale {u : UInt64} {m : Nat} {x : Int} (k : Nat) (h : own_dy u m x) (hx : -1100 ≤ x - k) : own_dy u (m * 2 ^ k) (x - k) := by
  obtain ⟨c, q, h1, h2, h3⟩ := h
  refine ⟨c, q, h1, h2, ?_⟩
  rw [h3, Nat.mul_assoc, ← Nat.pow_add]; congr 2; omega
open Jvm.FP Jvm.FP.Core in
theorem own_dy_mul {u v : UInt64} {m n : Nat} {x y : Int} (hu : own_dy u m x) (hv : own_dy v n y) (hm : m * n < 2 ^ 53) (h1 : -1000 ≤ x) (h1' : x ≤ 400) (h2 : -1000 ≤ y) (h2' : y ≤ 400) (h3 : -1074 ≤ x + y) : own_dy (FP.dmul u v) (m * n) (x + y) := by
  obtain ⟨c, q, a1, a2, a3⟩ := hu
  obtain ⟨d, r, b1, b2, b3⟩ := hv
  obtain ⟨c', q', r1, r2, r3⟩ := own_rnd (m := m * n) (x := x + y) hm h3 (by omega)
  refine ⟨c', q', ?_, r2, r3⟩
  show val64 (Core.dmul u v) = _
  rw [val64_dmul, a1, b1]
  show roundRatio b64 false (c * d) 1 (q + r) = _
  rw [← r1]
  refine roundRatio_congr (by decide) (by decide) ?_
  rw [Nat.mul_one, Nat.mul_one]
  refine own_cancel (K := 2200) (by omega) (by omega) ?_
  have t1 : (q + r + (2200 : Nat)).toNat = (q + 1100).toNat + (r + 1100).toNat := by omega
  have t2 : (x + y + (2200 : Nat)).toNat = (x + 1100).toNat + (y + 1100).toNat := by omega
  rw [t1, t2, Nat.pow_add, Nat.pow_add]
  calc c * d * (2 ^ (q + 1100).toNat * 2 ^ (r + 1100).toNat) = (c * 2 ^ (q + 1100).toNat) * (d * 2 ^ (r + 1100).toNat) := by rw [Nat.mul_mul_mul_comm]
    _ = (m * 2 ^ (x + 1100).toNat) * (n * 2 ^ (y + 1100).toNat) := by rw [a3, b3]
    _ = m * n * (2 ^ (x + 1100).toNat * 2 ^ (y + 1100).toNat) := by rw [Nat.mul_mul_mul_comm]
open Jvm.FP Jvm.FP.Core in
theorem own_dy_add {u v : UInt64} {m n : Nat} {x : Int} (hu : own_dy u m x) (hv : own_dy v n x) (hm : m + n < 2 ^ 53) (h1 : -1000 ≤ x) (h1' : x ≤ 400) : own_dy (FP.dadd u v) (m + n) x := by
  obtain ⟨c, q, a1, a2, a3⟩ := hu
  obtain ⟨d, r, b1, b2, b3⟩ := hv
  obtain ⟨c', q', r1, r2, r3⟩ := own_rnd (m := m + n) (x := x) hm (by omega) (by omega)
  refine ⟨c', q', ?_, r2, r3⟩
  show val64 (Core.dadd u v) = _
  rw [val64_dadd, a1, b1]
  have hs : exactSum (.fin false c q) (.fin false d r) = .fin false (c * 2 ^ (q - min q r).toNat + d * 2 ^ (r - min q r).toNat) (min q r) := by
    have hv : sumUnits false c q false d r (min q r) = ((c * 2 ^ (q - min q r).toNat + d * 2 ^ (r - min q r).toNat : Nat) : Int) := by
      unfold sumUnits signed inUnits; simp
    show Datum.fin _ _ _ = _
    rw [hv]
    have h0 : sumSign false false ((c * 2 ^ (q - min q r).toNat + d * 2 ^ (r - min q r).toNat : Nat) : Int) = false := by
      unfold sumSign; split
      · rfl
      · exact decide_eq_false (Int.not_lt.mpr (Int.natCast_nonneg _))
    rw [h0, Int.natAbs_natCast]
  rw [hs]
  show roundRatio b64 false (c * 2 ^ (q - min q r).toNat + d * 2 ^ (r - min q r).toNat) 1 (min q r) = _
  rw [← r1]
  refine roundRatio_congr (by decide) (by decide) ?_
  rw [Nat.mul_one, Nat.mul_one]
  refine own_cancel (K := 1100) (by omega) (by omega) ?_
  show _ * 2 ^ (min q r + 1100).toNat = (m + n) * 2 ^ (x + 1100).toNat
  rw [Nat.add_mul, Nat.add_mul, Nat.mul_assoc, Nat.mul_assoc, ← Nat.pow_add, ← Nat.pow_add, show (q - min q r).toNat + (min q r + 1100).toNat = (q + 1100).toNat by omega, show (r - min q r).toNat + (min q r + 1100).toNat = (r + 1100).toNat by omega, a3, b3]
open Jvm.FP Jvm.FP.Core in
/-- a quotient by a power of two -/
theorem own_dy_div2 {u v : UInt64} {m : Nat} {x y : Int} (hu : own_dy u m x) (hv : own_dy v 1 y) (hm : m < 2 ^ 53) (h1 : -500 ≤ x) (h1' : x ≤ 400) (h2 : -400 ≤ y) (h2' : y ≤ 400) : own_dy (FP.ddiv u v) m (x - y) := by
  obtain ⟨c, q, a1, a2, a3⟩ := hu
  obtain ⟨d, r, b1, b2, b3⟩ := hv
  obtain ⟨c', q', r1, r2, r3⟩ := own_rnd (m := m) (x := x - y) hm (by omega) (by omega)
  have hd : 0 < d := by
    rcases Nat.eq_zero_or_pos d with h | h
    · rw [h] at b3; have := Nat.two_pow_pos (y + 1100).toNat; omega
    · exact h
  refine ⟨c', q', ?_, r2, r3⟩
  show val64 (Core.ddiv u v) = _
  rw [val64_ddiv, a1, b1]
  show (if d = 0 then _ else roundRatio b64 false c d (q - r)) = _
  rw [if_neg (by omega), ← r1]
  refine roundRatio_congr hd (by decide) ?_
  rw [Nat.mul_one]
  have e1 : q - r - (x - y) = (q + y) - (x + r) := by omega
  have e2 : x - y - (q - r) = (x + r) - (q + y) := by omega
  rw [e1, e2]
  refine own_cancel (K := 2200) (by omega) (by omega) ?_
  have t1 : (q + y + (2200 : Nat)).toNat = (q + 1100).toNat + (y + 1100).toNat := by omega
  have t2 : (x + r + (2200 : Nat)).toNat = (x + 1100).toNat + (r + 1100).toNat := by omega
  rw [t1, t2, Nat.pow_add, Nat.pow_add, ← Nat.mul_assoc, a3, show m * d * (2 ^ (x + 1100).toNat * 2 ^ (r + 1100).toNat) = m * 2 ^ (x + 1100).toNat * (d * 2 ^ (r + 1100).toNat) by rw [Nat.mul_mul_mul_comm], b3, Nat.one_mul]
open Jvm.FP Jvm.FP.Core in
/-- two quotients of one worth are the same bits -/
theorem own_dy_ratio {u v u' v' : UInt64} {m n m' n' : Nat} {x y x' y' : Int} (hu : own_dy u m x) (hv : own_dy v n y) (hu' : own_dy u' m' x') (hv' : own_dy v' n' y') (hn : 0 < n) (hn' : 0 < n') (h : m * n' * (2 ^ (x + 1100).toNat * 2 ^ (y' + 1100).toNat) = m' * n * (2 ^ (x' + 1100).toNat * 2 ^ (y + 1100).toNat)) : FP.ddiv u v = FP.ddiv u' v' := by
  obtain ⟨c, q, a1, a2, a3⟩ := hu
  obtain ⟨d, r, b1, b2, b3⟩ := hv
  obtain ⟨c', q', a1', a2', a3'⟩ := hu'
  obtain ⟨d', r', b1', b2', b3'⟩ := hv'
  have pos : ∀ {d n : Nat} {r y : Int}, 0 < n → d * 2 ^ (r + 1100).toNat = n * 2 ^ (y + 1100).toNat → 0 < d := fun {d n r y} hn hh => by
    rcases Nat.eq_zero_or_pos d with h | h
    · rw [h, Nat.zero_mul] at hh; have := Nat.mul_pos hn (Nat.two_pow_pos (y + 1100).toNat); omega
    · exact h
  have hd := pos hn b3
  have hd' := pos hn' b3'
  show of64 (quotient b64 (val64 u) (val64 v)) = of64 (quotient b64 (val64 u') (val64 v'))
  rw [a1, b1, a1', b1']
  show of64 (if d = 0 then _ else roundRatio b64 false c d (q - r)) = of64 (if d' = 0 then _ else roundRatio b64 false c' d' (q' - r'))
  rw [if_neg (by omega), if_neg (by omega)]
  congr 1
  refine roundRatio_congr hd hd' ?_
  have e1 : q - r - (q' - r') = (q + r') - (q' + r) := by omega
  have e2 : q' - r' - (q - r) = (q' + r) - (q + r') := by omega
  rw [e1, e2]
  refine own_cancel (K := 2200) (by omega) (by omega) ?_
  have t1 : (q + r' + (2200 : Nat)).toNat = (q + 1100).toNat + (r' + 1100).toNat := by omega
  have t2 : (q' + r + (2200 : Nat)).toNat = (q' + 1100).toNat + (r + 1100).toNat := by omega
  rw [t1, t2, Nat.pow_add, Nat.pow_add, Nat.mul_mul_mul_comm, a3, b3']
  rw [Nat.mul_mul_mul_comm c' d, a3', b3, Nat.mul_mul_mul_comm m, Nat.mul_mul_mul_comm m']
  exact h
open Jvm.FP Jvm.FP.Core in
theorem own_dy_l2d {a : Int64} {n : Nat} (h : a.toInt = n) (hn : n < 2 ^ 53) : own_dy (FP.l2d a) n 0 := by
  obtain ⟨c', q', r1, r2, r3⟩ := own_rnd (m := n) (x := 0) hn (by omega) (by omega)
  refine ⟨c', q', ?_, r2, r3⟩
  show val64 (of64 (round b64 (ofInt a.toInt))) = _
  rw [val64_of64 (round_fits good_b64 _), h, ← r1]
  show round b64 (.fin (decide ((n : Int) < 0)) (n : Int).natAbs 0) = _
  rw [show decide ((n : Int) < 0) = false by simp]
  rfl
open Jvm.FP Jvm.FP.Core in
theorem own_dy_fin {u : UInt64} {m : Nat} {x : Int} (h : own_dy u m x) : Jvm.Free.Fl.Fin64 u := by
  obtain ⟨c, q, h1, -⟩ := h
  refine Jvm.Free.Fl.fin64_core.mpr ?_
  first | exact ⟨_, _, _, h1⟩ | (unfold DFin; rw [h1]; trivial) | (unfold DFin; rw [h1]; simp)
def own_okq (u : UInt64) (n : Int) : Bool := match Jvm.FP.Core.decode Jvm.FP.Core.b64 u.toNat with
  | .fin s c q => decide (-1100 ≤ q) && decide (Jvm.FP.Core.signed s (c * 2 ^ (q + 1100).toNat) = n * ((2 ^ 1098 : Nat) : Int))
  | _ => false
theorem own_sgn (s : Bool) (a b : Nat) : Jvm.FP.Core.signed s (a * b) = Jvm.FP.Core.signed s a * (b : Int) := by
  cases s <;> simp [Jvm.FP.Core.signed, Int.neg_mul]
theorem own_cmpq {u v : UInt64} {n m : Int} (h1 : own_okq u n = true) (h2 : own_okq v m = true) : FP.dcmp u v = some (compare n m) := by
  show Jvm.FP.Core.order (Jvm.FP.Core.decode Jvm.FP.Core.b64 u.toNat) (Jvm.FP.Core.decode Jvm.FP.Core.b64 v.toNat) = _
  unfold own_okq at h1 h2
  generalize Jvm.FP.Core.decode Jvm.FP.Core.b64 u.toNat = du at h1
  generalize Jvm.FP.Core.decode Jvm.FP.Core.b64 v.toNat = dv at h2
  cases du with
  | nan => cases h1
  | inf s => cases h1
  | fin s c q =>
    cases dv with
    | nan => cases h2
    | inf s => cases h2
    | fin t d r =>
      simp only [Bool.and_eq_true, decide_eq_true_eq] at h1 h2
      obtain ⟨a1, a2⟩ := h1
      obtain ⟨b1, b2⟩ := h2
      show some (compare (Jvm.FP.Core.signed s (c * 2 ^ (q - min q r).toNat)) (Jvm.FP.Core.signed t (d * 2 ^ (r - min q r).toNat))) = _
      have e1 : c * 2 ^ (q + 1100).toNat = c * 2 ^ (q - min q r).toNat * 2 ^ (min q r + 1100).toNat := by
        rw [Nat.mul_assoc, ← Nat.pow_add]; congr 2; omega
      have e2 : d * 2 ^ (r + 1100).toNat = d * 2 ^ (r - min q r).toNat * 2 ^ (min q r + 1100).toNat := by
        rw [Nat.mul_assoc, ← Nat.pow_add]; congr 2; omega
      rw [e1, own_sgn] at a2
      rw [e2, own_sgn] at b2
      generalize Jvm.FP.Core.signed s (c * 2 ^ (q - min q r).toNat) = x at a2
      generalize Jvm.FP.Core.signed t (d * 2 ^ (r - min q r).toNat) = y at b2
      have hP : (0 : Int) < ((2 ^ (min q r + 1100).toNat : Nat) : Int) := Int.natCast_pos.mpr (Nat.pow_pos (by decide))
      generalize ((2 ^ (min q r + 1100).toNat : Nat) : Int) = P at a2 b2 hP
      have hE : (0 : Int) < ((2 ^ 1098 : Nat) : Int) := Int.natCast_pos.mpr (Nat.pow_pos (by decide))
      generalize ((2 ^ 1098 : Nat) : Int) = E at a2 b2 hE
      have mono : ∀ {a b c : Int}, 0 < c → (a * c < b * c ↔ a < b) := fun {a b c} hc => ⟨fun g => Int.lt_of_mul_lt_mul_right g (Int.le_of_lt hc), fun g => Int.mul_lt_mul_of_pos_right g hc⟩
      have k1 : x < y ↔ n < m := by rw [← mono hP, a2, b2, mono hE]
      have k2 : y < x ↔ m < n := by rw [← mono hP, a2, b2, mono hE]
      congr 1
      rcases Int.lt_trichotomy n m with g | g | g
      · rw [Int.compare_eq_lt.mpr g, Int.compare_eq_lt.mpr (k1.mpr g)]
      · have : x = y := by
          rcases Int.lt_trichotomy x y with z | z | z
          · have := k1.mp z; omega
          · exact z
          · have := k2.mp z; omega
        rw [this, g, Int.compare_eq_eq.mpr rfl, Int.compare_eq_eq.mpr rfl]
      · rw [Int.compare_eq_gt.mpr g, Int.compare_eq_gt.mpr (k2.mpr g)]
theorem own_cmpv {u v : UInt64} {n m : Int} {o : CmpOp} {z : Int32} (h1 : own_okq u n = true) (h2 : own_okq v m = true) (hz : cmpValue (FP.dcmp u v) o = z) : (n < m → z.toInt = -1) ∧ (n = m → z.toInt = 0) ∧ (m < n → z.toInt = 1) := by
  rw [own_cmpq h1 h2] at hz
  refine ⟨fun g => ?_, fun g => ?_, fun g => ?_⟩
  · rw [Int.compare_eq_lt.mpr g] at hz; rw [← hz]; rfl
  · rw [Int.compare_eq_eq.mpr g] at hz; rw [← hz]; rfl
  · rw [Int.compare_eq_gt.mpr g] at hz; rw [← hz]; rfl
open Jvm.FP Jvm.FP.Core in
theorem own_dy_okq {u : UInt64} {m : Nat} (h : own_dy u m (-2)) : own_okq u (m : Int) = true := by
  obtain ⟨c, q, h1, h2, h3⟩ := h
  unfold own_okq
  have h1' : decode b64 u.toNat = .fin false c q := h1
  rw [h1']
  simp only [Bool.and_eq_true, decide_eq_true_eq]
  refine ⟨h2, ?_⟩
  show ((c * 2 ^ (q + 1100).toNat : Nat) : Int) = _
  rw [h3, Int.natCast_mul]; rfl
open Jvm.FP Jvm.FP.Core in
def own_dyb (u : UInt64) (m : Nat) : Bool := match val64 u with
  | .fin false c q => decide (-1100 ≤ q) && decide (c * 2 ^ (q + 1100).toNat = m * 2 ^ 1098)
  | _ => false
open Jvm.FP Jvm.FP.Core in
theorem own_dyb_dy {u : UInt64} {m : Nat} (h : own_dyb u m = true) : own_dy u m (-2) := by
  unfold own_dyb at h
  split at h
  · rename_i c q e
    simp only [Bool.and_eq_true, decide_eq_true_eq] at h
    exact ⟨c, q, e, h.1, h.2⟩
  · cases h
theorem own_dy_to {u : UInt64} {m n : Nat} {x y : Int} (h : own_dy u m x) (e : m * 2 ^ (x + 1100).toNat = n * 2 ^ (y + 1100).toNat) : own_dy u n y := by
  obtain ⟨c, q, h1, h2, h3⟩ := h
  exact ⟨c, q, h1, h2, h3.trans e⟩
theorem own_dy_e {u : UInt64} {m n : Nat} {x y : Int} (h : own_dy u m x) (e : x = y) (e' : m = n) : own_dy u n y := by subst e e'; exact h
theorem own_dy_1 : own_dy (4607182418800017408 : UInt64) 4 (-2) := own_dyb_dy (by decide +kernel)
theorem own_dy_4 : own_dy (4616189618054758400 : UInt64) 1 2 := own_dy_to (own_dyb_dy (m := 16) (by decide +kernel)) (by decide +kernel)
theorem own_dy_0 : own_dy (0 : UInt64) 0 (-2) := own_dyb_dy (by decide +kernel)
open Jvm.FP Jvm.FP.Core in
theorem own_dy_nz {u : UInt64} {m : Nat} {x : Int} (h : own_dy u m x) (hm : 0 < m) : Jvm.Free.Fl.Nz64 u := by
  obtain ⟨c, q, h1, h2, h3⟩ := h
  refine Jvm.Free.Fl.nz64_core.mpr ?_
  rintro ⟨s, q', e⟩
  rw [h1] at e
  injection e with e1 e2 e3
  rw [e2, Nat.zero_mul] at h3
  have := Nat.mul_pos hm (Nat.two_pow_pos (x + 1100).toNat)
  omega
open Jvm.FP Jvm.FP.Core in
theorem own_dy_qfin {u v : UInt64} {m n : Nat} {x y : Int} (hu : own_dy u m x) (hv : own_dy v n y) (hm : m < 2 ^ 53) (hn : 0 < n) (h1 : -400 ≤ x) (h1' : x ≤ 400) (h2 : -400 ≤ y) (h2' : y ≤ 400) : Jvm.Free.Fl.Fin64 (FP.ddiv u v) := by
  obtain ⟨c, q, a1, a2, a3⟩ := hu
  obtain ⟨d, r, b1, b2, b3⟩ := hv
  have hd : 0 < d := by
    rcases Nat.eq_zero_or_pos d with h | h
    · rw [h, Nat.zero_mul] at b3; have := Nat.mul_pos hn (Nat.two_pow_pos (y + 1100).toNat); omega
    · exact h
  refine Jvm.Free.Fl.fin64_core.mpr ?_
  show ∃ s c q, val64 (Core.ddiv u v) = .fin s c q
  rw [val64_ddiv, a1, b1]
  show ∃ s c' q', (if d = 0 then _ else roundRatio b64 false c d (q - r)) = Datum.fin s c' q'
  rw [if_neg (by omega)]
  have e0 : roundRatio b64 false c d (q - r) = roundRatio b64 false m n (x - y) := by
    refine roundRatio_congr hd hn ?_
    have e1 : q - r - (x - y) = (q + y) - (x + r) := by omega
    have e2 : x - y - (q - r) = (x + r) - (q + y) := by omega
    rw [e1, e2]
    refine own_cancel (K := 2200) (by omega) (by omega) ?_
    have t1 : (q + y + (2200 : Nat)).toNat = (q + 1100).toNat + (y + 1100).toNat := by omega
    have t2 : (x + r + (2200 : Nat)).toNat = (x + 1100).toNat + (r + 1100).toNat := by omega
    rw [t1, t2, Nat.pow_add, Nat.pow_add, Nat.mul_mul_mul_comm, a3, Nat.mul_mul_mul_comm m d, b3]
  rw [e0]
  rcases roundRatio_cases b64 false m n (x - y) with ⟨c', q', h⟩ | h
  · exact ⟨_, _, _, h⟩
  · exfalso
    have e1 : b64.qmin = -1074 := by decide
    have e2 : b64.qmax = 971 := by decide
    have g := (roundRatio_inf good_b64 (e0 := -1100) hn (by rw [e1]; decide) (by omega)).mp h
    rw [e2] at g
    unfold inUnits at g
    have p1 : 2 ^ (x - y - -1100).toNat ≤ 2 ^ 1900 := Nat.pow_le_pow_right (by decide) (by omega)
    have p2 : m * 2 ^ (x - y - -1100).toNat ≤ 2 ^ 53 * 2 ^ 1900 := Nat.mul_le_mul (by omega) p1
    have p3 : 2 ^ 53 * 2 ^ 1900 < (2 ^ (b64.p + 1) - 1) * 2 ^ ((971 : Int) - 1 - -1100).toNat := by decide +kernel
    have p4 := Nat.le_mul_of_pos_right ((2 ^ (b64.p + 1) - 1) * 2 ^ ((971 : Int) - 1 - -1100).toNat) hn
    exact absurd (Nat.lt_of_lt_of_le (Nat.lt_of_le_of_lt p2 p3) p4) (Nat.not_lt.mpr g)
theorem own_same {u : UInt64} {o : CmpOp} {z : Int32} (h : Jvm.Free.Fl.NoNaN64 u) (hz : cmpValue (FP.dcmp u u) o = z) : z = 0 := by
  have k : ¬ Jvm.Free.Fl.relNe (FP.dcmp u u) = true := fun q => Jvm.Free.Fl.relNe_self.mp q h
  rcases hc : FP.dcmp u u with _ | (_ | _ | _) <;> rw [hc] at hz k
  · exact absurd rfl k
  · exact absurd rfl k
  · rw [← hz]; rfl
  · exact absurd rfl k
open Jvm.FP Jvm.FP.Core in
theorem own_zz {u w : UInt64} {o : CmpOp} {z : Int32} (h : Jvm.Free.Fl.Fin64 u) (hz : cmpValue (FP.dcmp 0 (FP.dmul u 0)) o = z) : z = 0 := by
  obtain ⟨s, q, e0⟩ := Core.dmul_zero (Jvm.Free.Fl.fin64_core.mp h) (z := 0) ⟨false, -1074, by decide +kernel⟩
  have e : FP.dcmp 0 (FP.dmul u 0) = some .eq := by
    show order (val64 0) (val64 (Core.dmul u 0)) = _
    rw [e0, show val64 0 = .fin false 0 (-1074) by decide +kernel]
    show some (compare (signed false (0 * _)) (signed s (0 * _))) = _
    rw [Nat.zero_mul, Nat.zero_mul]
    cases s <;> rfl
  rw [e] at hz
  rw [← hz]; rfl
theorem own_subq : ∀ k : Fin 5, own_dyb (FP.dsub (4607182418800017408 : UInt64) (FP.ddiv (FP.i2d (Int32.ofInt (k.1 : Int))) (4616189618054758400 : UInt64))) (4 - k.1) = true := by decide +kernel
open Jvm.FP Jvm.FP.Core in
theorem own_dy_i2d {a : Int32} {n : Nat} (h : a.toInt = n) : own_dy (FP.i2d a) n 0 := by
  have := Int32.toInt_lt a
  obtain ⟨c', q', r1, r2, r3⟩ := own_rnd (m := n) (x := 0) (by omega) (by omega) (by omega)
  refine ⟨c', q', ?_, r2, r3⟩
  show val64 (of64 (round b64 (ofInt a.toInt))) = _
  rw [val64_of64 (round_fits good_b64 _), h, ← r1]
  show round b64 (.fin (decide ((n : Int) < 0)) (n : Int).natAbs 0) = _
  rw [show decide ((n : Int) < 0) = false by simp]
  rfl
theorem own_dy_q4 {a : Int32} {n : Nat} (h : a.toInt = n) : own_dy (FP.ddiv (FP.i2d a) (4616189618054758400 : UInt64)) n (-2) := by
  have := Int32.toInt_lt a
  exact own_dy_e (own_dy_div2 (own_dy_i2d h) own_dy_4 (by omega) (by omega) (by omega) (by omega) (by omega)) (by omega) rfl
theorem own_dy_sub1 {a : Int32} {n : Nat} (h : a.toInt = n) (hn : n ≤ 4) : own_dy (FP.dsub (4607182418800017408 : UInt64) (FP.ddiv (FP.i2d a) (4616189618054758400 : UInt64))) (4 - n) (-2) := by
  have k := own_subq ⟨n, by omega⟩
  have e : Int32.ofInt (n : Int) = a := by rw [← h]; exact Int32.ofInt_toInt a
  simp only [e] at k
  exact own_dyb_dy k
theorem own_dy_cmp0 {u : UInt64} {m : Nat} {o : CmpOp} {z : Int32} (hu : own_dy u m (-2)) (hz : cmpValue (FP.dcmp u 0) o = z) : (m = 0 → z.toInt = 0) ∧ (0 < m → z.toInt = 1) := by
  have h1 : own_okq u (m : Int) = true := own_dy_okq hu
  have h2 : own_okq 0 0 = true := by decide +kernel
  obtain ⟨a, b, c⟩ := own_cmpv h1 h2 hz
  exact ⟨fun g => b (by omega), fun g => c (by omega)⟩
theorem own_fin7 {u : UInt64} {z : Int32} (h : Jvm.Free.Fl.Fin64 u) (hz : cmpValue (FP.dcmp (u &&& 0x7fffffffffffffff) (9218868437227405311 : UInt64)) .g = z) : z.toInt ≤ 0 := by
  have k := Jvm.Free.Fl.relLe_iff.mp ((Jvm.Free.Fl.le_max_iff h.noNaN).mpr h)
  have e : (9218868437227405311 : UInt64) = Jvm.Free.Fl.maxD := rfl
  rw [e] at hz
  rcases k with k | k <;> rw [k] at hz <;> rw [← hz] <;> decide
theorem own_shl (x : Int64) (k : Fin 10) : x <<< ((Int32.ofInt (k.1 : Int)).toInt64 &&& 63) = x * Int64.ofInt ((2 ^ k.1 : Nat) : Int) := by
  have e1 : ∀ k : Fin 10, (((Int32.ofInt (k.1 : Int)).toInt64 &&& 63).toBitVec.smod 64).toNat = k.1 := by decide +kernel
  have e2 : ∀ k : Fin 10, (Int64.ofInt ((2 ^ k.1 : Nat) : Int)).toBitVec = BitVec.twoPow 64 k.1 := by decide +kernel
  apply Int64.toBitVec_inj.mp
  rw [Int64.toBitVec_shiftLeft, Int64.toBitVec_mul, BitVec.shiftLeft_eq', e1, e2, BitVec.mul_twoPow_eq_shiftLeft]
theorem own_lmul {x y z : Int64} {a b : Nat} (hx : x.toInt = a) (hy : y.toInt = b) (h : a * b < 2 ^ 62) (hz : x * y = z) : z.toInt = ((a * b : Nat) : Int) := by
  subst hz
  have c := c_lmul x y; rw [hx, hy, ← Int.natCast_mul] at c
  have h1 := Int64.toInt_lt (x * y); have h2 := Int64.le_toInt (x * y)
  generalize a * b = n at *
  omega
theorem own_ladd {x y z : Int64} {a b : Nat} (hx : x.toInt = a) (hy : y.toInt = b) (h : a + b < 2 ^ 62) (hz : x + y = z) : z.toInt = ((a + b : Nat) : Int) := by
  subst hz
  have c := c_ladd x y
  have h1 := Int64.toInt_lt (x + y); have h2 := Int64.le_toInt (x + y)
  omega
theorem own_lshl {x z : Int64} {e : Int32} {a n : Nat} (hx : x.toInt = a) (he : e.toInt = n) (hn : n < 10) (h : a * 2 ^ n < 2 ^ 62) (hz : x <<< (e.toInt64 &&& 63) = z) : z.toInt = ((a * 2 ^ n : Nat) : Int) := by
  have e0 : e = Int32.ofInt (n : Int) := by rw [← he]; exact (Int32.ofInt_toInt e).symm
  have k := own_shl x ⟨n, hn⟩
  rw [e0, k] at hz
  have e2 : ∀ k : Fin 10, (Int64.ofInt ((2 ^ k.1 : Nat) : Int)).toInt = ((2 ^ k.1 : Nat) : Int) := by decide +kernel
  exact own_lmul hx (e2 ⟨n, hn⟩) h hz
theorem own_i2l {x : Int32} {z : Int64} {a : Nat} (hx : x.toInt = a) (hz : x.toInt64 = z) : z.toInt = a := by
  subst hz; rw [← hx]; first | exact Int32.toInt_toInt64 x | simp
theorem own_pw {e : Nat} (h : e ≤ 7) : 2 ^ e ≤ 128 := by
  show 2 ^ e ≤ 2 ^ 7
  exact Nat.pow_le_pow_right (by decide) h
/-- the bounds -/
theorem own_bd {k bq t d e : Nat} (hk : k ≤ 63) (hb : bq ≤ 4) (ht : t ≤ 65535) (hd : d ≤ 1048575) (he : e ≤ 7) : bq * d ≤ 4194300 ∧ (4 - bq) * 2 ^ e ≤ 512 ∧ (k + 4) * t ≤ 4390845 ∧ k * ((4 - bq) * 2 ^ e + bq * d) ≤ 264273156 ∧ t * 2 ^ (e + 2) ≤ 33553920 ∧ (k + 4) * t * 2 ^ e ≤ 562028160 := by
  have p := own_pw he
  have a1 : bq * d ≤ 4 * 1048575 := Nat.mul_le_mul hb hd
  have a2 : (4 - bq) * 2 ^ e ≤ 4 * 128 := Nat.mul_le_mul (by omega) p
  have a3 : (k + 4) * t ≤ 67 * 65535 := Nat.mul_le_mul (by omega) ht
  have a4 : k * ((4 - bq) * 2 ^ e + bq * d) ≤ 63 * (512 + 4194300) := Nat.mul_le_mul hk (by omega)
  have a5 : t * 2 ^ (e + 2) ≤ 65535 * 512 := Nat.mul_le_mul ht (by rw [Nat.pow_succ, Nat.pow_succ]; omega)
  have a6 : (k + 4) * t * 2 ^ e ≤ 4390845 * 128 := Nat.mul_le_mul a3 p
  refine ⟨a1, a2, a3, by omega, a5, a6⟩
/-- the two quotients are one -/
theorem own_one {N D P Q : UInt64} {k bq t d e : Nat} (he : e ≤ 7) (ht : 0 < t) (hN : own_dy N ((k + 4) * t) (-4)) (hD : own_dy D (k * ((4 - bq) * 2 ^ e + bq * d) + t * 2 ^ (e + 2)) (-4 - (e : Int))) (hP : own_dy P ((k + 4) * t * 2 ^ e) 0) (hQ : own_dy Q (k * ((4 - bq) * 2 ^ e + bq * d) + t * 2 ^ (e + 2)) 0) : FP.ddiv N D = FP.ddiv P Q := by
  have h0 : 0 < k * ((4 - bq) * 2 ^ e + bq * d) + t * 2 ^ (e + 2) := Nat.add_pos_right _ (Nat.mul_pos ht (Nat.two_pow_pos _))
  refine own_dy_ratio hN hD hP hQ h0 h0 ?_
  generalize k * ((4 - bq) * 2 ^ e + bq * d) + t * 2 ^ (e + 2) = q
  generalize (k + 4) * t = p
  have h : 2 ^ ((-4 : Int) + 1100).toNat * 2 ^ ((0 : Int) + 1100).toNat = 2 ^ e * (2 ^ ((0 : Int) + 1100).toNat * 2 ^ (-4 - (e : Int) + 1100).toNat) := by
    rw [← Nat.pow_add, ← Nat.pow_add, ← Nat.pow_add]; congr 1; omega
  rw [h]
  generalize 2 ^ ((0 : Int) + 1100).toNat * 2 ^ (-4 - (e : Int) + 1100).toNat = r
  generalize 2 ^ e = s
  ac_rfl
theorem d1_0 : decode prog_50_method_1_code 0 = .ok (.aload_n 0, 1) := by decide +kernel
theorem d1_1 : decode prog_50_method_1_code 1 = .ok (.invokespecial 1, 3) := by decide +kernel
theorem d1_4 : decode prog_50_method_1_code 4 = .ok (.dload_n 1, 1) := by decide +kernel
theorem d1_5 : decode prog_50_method_1_code 5 = .ok (.dconst 0, 1) := by decide +kernel
theorem d1_6 : decode prog_50_method_1_code 6 = .ok (.dcmp .l, 1) := by decide +kernel
theorem d1_7 : decode prog_50_method_1_code 7 = .ok (.ifCond .lt 10, 3) := by decide +kernel
theorem d1_10 : decode prog_50_method_1_code 10 = .ok (.dload_n 1, 1) := by decide +kernel
theorem d1_11 : decode prog_50_method_1_code 11 = .ok (.invokestatic 7, 3) := by decide +kernel
theorem d1_14 : decode prog_50_method_1_code 14 = .ok (.ifCond .ne 17, 3) := by decide +kernel
theorem d1_31 : decode prog_50_method_1_code 31 = .ok (.dload_n 3, 1) := by decide +kernel
theorem d1_32 : decode prog_50_method_1_code 32 = .ok (.dconst 0, 1) := by decide +kernel
theorem d1_33 : decode prog_50_method_1_code 33 = .ok (.dcmp .l, 1) := by decide +kernel
theorem d1_34 : decode prog_50_method_1_code 34 = .ok (.ifCond .lt 9, 3) := by decide +kernel
theorem d1_37 : decode prog_50_method_1_code 37 = .ok (.dload_n 3, 1) := by decide +kernel
theorem d1_38 : decode prog_50_method_1_code 38 = .ok (.dconst 1, 1) := by decide +kernel
theorem d1_39 : decode prog_50_method_1_code 39 = .ok (.dcmp .g, 1) := by decide +kernel
theorem d1_40 : decode prog_50_method_1_code 40 = .ok (.ifCond .le 17, 3) := by decide +kernel
theorem d1_57 : decode prog_50_method_1_code 57 = .ok (.aload_n 0, 1) := by decide +kernel
theorem d1_58 : decode prog_50_method_1_code 58 = .ok (.dload_n 1, 1) := by decide +kernel
theorem d1_59 : decode prog_50_method_1_code 59 = .ok (.putfield 23, 3) := by decide +kernel
theorem d1_62 : decode prog_50_method_1_code 62 = .ok (.aload_n 0, 1) := by decide +kernel
theorem d1_63 : decode prog_50_method_1_code 63 = .ok (.dload_n 3, 1) := by decide +kernel
theorem d1_64 : decode prog_50_method_1_code 64 = .ok (.putfield 29, 3) := by decide +kernel
theorem d1_67 : decode prog_50_method_1_code 67 = .ok (.return_, 1) := by decide +kernel
theorem d2_0 : decode jdk_30_method_1_code 0 = .ok (.aload_n 0, 1) := by decide +kernel
theorem d2_1 : decode jdk_30_method_1_code 1 = .ok (.invokespecial 1, 3) := by decide +kernel
theorem d2_4 : decode jdk_30_method_1_code 4 = .ok (.return_, 1) := by decide +kernel
theorem d4_0 : decode jdk_117_method_8_code 0 = .ok (.dload_n 0, 1) := by decide +kernel
theorem d4_1 : decode jdk_117_method_8_code 1 = .ok (.invokestatic 38, 3) := by decide +kernel
theorem d4_4 : decode jdk_117_method_8_code 4 = .ok (.ldc2_w 111, 3) := by decide +kernel
theorem d4_7 : decode jdk_117_method_8_code 7 = .ok (.dcmp .g, 1) := by decide +kernel
theorem d4_8 : decode jdk_117_method_8_code 8 = .ok (.ifCond .gt 7, 3) := by decide +kernel
theorem d4_11 : decode jdk_117_method_8_code 11 = .ok (.iconst 1, 1) := by decide +kernel
theorem d4_12 : decode jdk_117_method_8_code 12 = .ok (.goto 4, 3) := by decide +kernel
theorem d4_16 : decode jdk_117_method_8_code 16 = .ok (.ireturn, 1) := by decide +kernel
theorem d6_0 : decode prog_50_method_4_code 0 = .ok (.dload_n 3, 1) := by decide +kernel
theorem d6_1 : decode prog_50_method_4_code 1 = .ok (.dconst 0, 1) := by decide +kernel
theorem d6_2 : decode prog_50_method_4_code 2 = .ok (.dcmp .l, 1) := by decide +kernel
theorem d6_3 : decode prog_50_method_4_code 3 = .ok (.ifCond .ne 5, 3) := by decide +kernel
theorem d6_6 : decode prog_50_method_4_code 6 = .ok (.dconst 0, 1) := by decide +kernel
theorem d6_7 : decode prog_50_method_4_code 7 = .ok (.dreturn, 1) := by decide +kernel
theorem d6_8 : decode prog_50_method_4_code 8 = .ok (.dconst 1, 1) := by decide +kernel
theorem d6_9 : decode prog_50_method_4_code 9 = .ok (.aload_n 0, 1) := by decide +kernel
theorem d6_10 : decode prog_50_method_4_code 10 = .ok (.getfield 29, 3) := by decide +kernel
theorem d6_13 : decode prog_50_method_4_code 13 = .ok (.dsub, 1) := by decide +kernel
theorem d6_14 : decode prog_50_method_4_code 14 = .ok (.aload_n 0, 1) := by decide +kernel
theorem d6_15 : decode prog_50_method_4_code 15 = .ok (.getfield 29, 3) := by decide +kernel
theorem d6_18 : decode prog_50_method_4_code 18 = .ok (.dload 5, 2) := by decide +kernel
theorem d6_20 : decode prog_50_method_4_code 20 = .ok (.dmul, 1) := by decide +kernel
theorem d6_21 : decode prog_50_method_4_code 21 = .ok (.dload 7, 2) := by decide +kernel
theorem d6_23 : decode prog_50_method_4_code 23 = .ok (.ddiv, 1) := by decide +kernel
theorem d6_24 : decode prog_50_method_4_code 24 = .ok (.dadd, 1) := by decide +kernel
theorem d6_25 : decode prog_50_method_4_code 25 = .ok (.dstore 9, 2) := by decide +kernel
theorem d6_27 : decode prog_50_method_4_code 27 = .ok (.aload_n 0, 1) := by decide +kernel
theorem d6_28 : decode prog_50_method_4_code 28 = .ok (.getfield 23, 3) := by decide +kernel
theorem d6_31 : decode prog_50_method_4_code 31 = .ok (.dconst 1, 1) := by decide +kernel
theorem d6_32 : decode prog_50_method_4_code 32 = .ok (.dadd, 1) := by decide +kernel
theorem d6_33 : decode prog_50_method_4_code 33 = .ok (.dload_n 3, 1) := by decide +kernel
theorem d6_34 : decode prog_50_method_4_code 34 = .ok (.dmul, 1) := by decide +kernel
theorem d6_35 : decode prog_50_method_4_code 35 = .ok (.aload_n 0, 1) := by decide +kernel
theorem d6_36 : decode prog_50_method_4_code 36 = .ok (.getfield 23, 3) := by decide +kernel
theorem d6_39 : decode prog_50_method_4_code 39 = .ok (.dload 9, 2) := by decide +kernel
theorem d6_41 : decode prog_50_method_4_code 41 = .ok (.dmul, 1) := by decide +kernel
theorem d6_42 : decode prog_50_method_4_code 42 = .ok (.dload_n 3, 1) := by decide +kernel
theorem d6_43 : decode prog_50_method_4_code 43 = .ok (.dadd, 1) := by decide +kernel
theorem d6_44 : decode prog_50_method_4_code 44 = .ok (.ddiv, 1) := by decide +kernel
theorem d6_45 : decode prog_50_method_4_code 45 = .ok (.dstore 11, 2) := by decide +kernel
theorem d6_47 : decode prog_50_method_4_code 47 = .ok (.dload_n 1, 1) := by decide +kernel
theorem d6_48 : decode prog_50_method_4_code 48 = .ok (.dload 11, 2) := by decide +kernel
theorem d6_50 : decode prog_50_method_4_code 50 = .ok (.dmul, 1) := by decide +kernel
theorem d6_51 : decode prog_50_method_4_code 51 = .ok (.dreturn, 1) := by decide +kernel
theorem own_pd0 : parseMethodDescriptor "()V" = some ⟨[], none⟩ := by decide +kernel
theorem own_pd1 : parseMethodDescriptor "(D)Z" = some ⟨[.double], some .boolean⟩ := by decide +kernel
theorem own_pd2 : parseMethodDescriptor "(DD)V" = some ⟨[.double, .double], none⟩ := by decide +kernel
theorem own_pd3 : parseMethodDescriptor "(DDDD)D" = some ⟨[.double, .double, .double, .double], some .double⟩ := by decide +kernel
set_option maxRecDepth 65536 in
set_option maxHeartbeats 40000000 in
theorem own_rec (l : Launch) (Z : State) (a0 : Array Value) (hw : ∀ d ∈ tables_1, d.before a0 Z = true) (a : Addr) (h0 : Heap) (n0 : Nat) (hn : n0 ≤ h0.size)  :
    ConN l Z (⟨"java/lang/Record", "<init>", "()V"⟩ : MethodName) jdk_30_method_1_code 1 ({ frames := 1, cells := 0, slots := 0, locals := 12 } : Room) #[(.ref a)] h0 n0 (fun h => h0 = h) := by
  refine Con.of (plainFor_of_name (by first | (simp [plainName, overriddenIn]; done) | decide +kernel)) hn ?_
  intro p e s m below meth c T w X
  refine Gl.enter (ls := #[.val (.ref a)]) (by first | (simp [entryFrame, mkF, argsToLocals, Value.category]; done) | rfl) ?_
  refine gAloadN X w d2_0 rfl rfl (n := 1) rfl ?_
  refine gInitO X w (own_wd hw 15 rfl) (own_wd hw 16 rfl) (own_wd hw 17 rfl) d2_1 rfl (by decide) (W := 0) (Nat.le_of_eq rfl) (by decide) (n := 4) rfl ?_
  intro T X
  exact gRetV X w rfl d2_4 (by decide) (by decide) (⟨rfl, rfl⟩)
set_option maxRecDepth 65536 in
set_option maxHeartbeats 40000000 in
theorem own_isf (l : Launch) (Z : State) (a0 : Array Value) (hw : ∀ d ∈ tables_1, d.before a0 Z = true) (u : UInt64) (h0 : Heap) (n0 : Nat) (hn : n0 ≤ h0.size) (hu : Jvm.Free.Fl.Fin64 u) :
    ConV l Z (⟨"java/lang/Double", "isFinite", "(D)Z"⟩ : MethodName) jdk_117_method_8_code 2 (some .boolean) ({ frames := 1, cells := 0, slots := 0, locals := 13 } : Room) #[(.double u)] h0 n0 (fun v h => h0 = h ∧ v = .int 1) := by
  refine Con.of (plainFor_of_name (by first | (simp [plainName, overriddenIn]; done) | decide +kernel)) hn ?_
  intro p e s m below meth c T w X
  refine Gl.enter (ls := #[.val (.double u), .second]) (by first | (simp [entryFrame, mkF, argsToLocals, Value.category]; done) | rfl) ?_
  refine gDloadN X w d4_0 rfl (n := 1) rfl ?_
  refine gAbsD X w hu.noNaN (own_wd hw 22 rfl) (own_wd hw 23 rfl) (own_wd hw 24 rfl) (own_wd hw 25 rfl) d4_1 rfl (by decide) (W := 0) (Nat.le_of_eq rfl) (by decide) (by decide) (by decide) (n := 4) rfl ?_
  intro T X
  refine gLdc2D X w (own_wd hw 26 rfl) d4_4 (n := 7) rfl ?_
  obtain ⟨x7, q7⟩ : ∃ zz_ : Int32, cmpValue (FP.dcmp (u &&& 0x7fffffffffffffff) (9218868437227405311 : UInt64)) .g = zz_ := ⟨_, rfl⟩
  refine gDcmp X w d4_7 q7 (n := 8) rfl ?_
  have f7 := own_fin7 hu q7
  refine gIf_gt X w d4_8 (n := 15) (n' := 11) (by decide) rfl rfl ?_ ?_
  · intro c8
    exfalso; omega
  · intro c8
    refine gIconst X w d4_11 (z := (1 : Int32)) rfl (n := 12) rfl ?_
    refine gGoto X w d4_12 (by decide) (n := 16) rfl ?_
    exact gRetZ X w rfl (Or.inr rfl) d4_16 (by decide) (by decide) (⟨_, rfl, rfl, rfl⟩)
set_option maxRecDepth 65536 in
set_option maxHeartbeats 40000000 in
theorem own_init (l : Launch) (Z : State) (a0 : Array Value) (hw : ∀ d ∈ tables_1, d.before a0 Z = true) (a : Addr) (K B : UInt64) (k bq : Nat) (h0 : Heap) (n0 : Nat) (hn : n0 ≤ h0.size) (na : n0 ≤ a) (A0 : Exa Z h0 a "com/example/nanchang/nanchang/search/Bm25") (F0 : Fld Z h0 a "com/example/nanchang/nanchang/search/Bm25" "k1" "D" (.double 0)) (F1 : Fld Z h0 a "com/example/nanchang/nanchang/search/Bm25" "b" "D" (.double 0)) (hK : own_dy K k (-2)) (hB : own_dy B bq (-2)) (hb : bq ≤ 4) :
    ConN l Z (⟨"com/example/nanchang/nanchang/search/Bm25", "<init>", "(DD)V"⟩ : MethodName) prog_50_method_1_code 5 ({ frames := 2, cells := 0, slots := 0, locals := 26 } : Room) #[(.ref a), (.double K), (.double B)] h0 n0 (fun h => Keep h0 h [a] ∧ Exa Z h a "com/example/nanchang/nanchang/search/Bm25" ∧ Fld Z h a "com/example/nanchang/nanchang/search/Bm25" "k1" "D" (.double K) ∧ Fld Z h a "com/example/nanchang/nanchang/search/Bm25" "b" "D" (.double B)) := by
  refine Con.of (plainFor_of_name (by first | (simp [plainName, overriddenIn]; done) | decide +kernel)) hn ?_
  intro p e s m below meth c T w X
  refine Gl.enter (ls := #[.val (.ref a), .val (.double K), .second, .val (.double B), .second]) (by first | (simp [entryFrame, mkF, argsToLocals, Value.category]; done) | rfl) ?_
  refine gAloadN X w d1_0 rfl rfl (n := 1) rfl ?_
  refine gCallIn X w [] [] rfl (own_rec l Z a0 hw a h0 n0 hn) (own_wd hw 10 rfl) (own_wd hw 11 rfl) (own_wd hw 13 rfl) (own_wd hw 14 rfl) (by decide) own_pd0 rfl rfl d1_1 rfl (W := 0) (Nat.le_of_eq rfl) (by decide) (by decide) (by decide) (by decide) (n := 4) rfl ?_
  rintro T _ rfl X
  refine gDloadN X w d1_4 rfl (n := 5) rfl ?_
  refine gDconst0 X w d1_5 (z := (0 : UInt64)) rfl (n := 6) rfl ?_
  obtain ⟨x6, q6⟩ : ∃ zz_ : Int32, cmpValue (FP.dcmp K (0 : UInt64)) .l = zz_ := ⟨_, rfl⟩
  refine gDcmp X w d1_6 q6 (n := 7) rfl ?_
  obtain ⟨f6, g6⟩ := own_dy_cmp0 hK q6
  refine gIf_lt X w d1_7 (n := 17) (n' := 10) (by decide) rfl rfl ?_ ?_
  · intro c7
    exfalso; rcases Nat.eq_zero_or_pos k with g | g <;> omega
  · intro c7
    refine gDloadN X w d1_10 rfl (n := 11) rfl ?_
    refine gCallSv X w [(.double K)] [] (own_isf l Z a0 hw K h0 n0 hn (own_dy_fin hK)) (own_wd hw 18 rfl) (own_wd hw 19 rfl) (own_wd hw 20 rfl) (own_wd hw 21 rfl) (by decide) own_pd1 rfl rfl d1_11 rfl (W := 0) (Nat.le_of_eq rfl) (by decide) (by decide) (by decide) (by decide) (n := 14) rfl ?_
    rintro T _ _ ⟨rfl, rfl⟩ X
    refine gIf_ne X w d1_14 (n := 31) (n' := 17) (by decide) rfl rfl ?_ ?_
    · rintro ⟨c14, c14'⟩
      refine gDloadN X w d1_31 rfl (n := 32) rfl ?_
      refine gDconst0 X w d1_32 (z := (0 : UInt64)) rfl (n := 33) rfl ?_
      obtain ⟨x33, q33⟩ : ∃ zz_ : Int32, cmpValue (FP.dcmp B (0 : UInt64)) .l = zz_ := ⟨_, rfl⟩
      refine gDcmp X w d1_33 q33 (n := 34) rfl ?_
      obtain ⟨f33, g33⟩ := own_dy_cmp0 hB q33
      refine gIf_lt X w d1_34 (n := 43) (n' := 37) (by decide) rfl rfl ?_ ?_
      · intro c34
        exfalso; rcases Nat.eq_zero_or_pos bq with g | g <;> omega
      · intro c34
        refine gDloadN X w d1_37 rfl (n := 38) rfl ?_
        refine gDconst1 X w d1_38 (z := (4607182418800017408 : UInt64)) rfl (n := 39) rfl ?_
        obtain ⟨x39, q39⟩ : ∃ zz_ : Int32, cmpValue (FP.dcmp B (4607182418800017408 : UInt64)) .g = zz_ := ⟨_, rfl⟩
        refine gDcmp X w d1_39 q39 (n := 40) rfl ?_
        obtain ⟨f39, g39, k39⟩ := own_cmpv (own_dy_okq hB) (own_dy_okq own_dy_1) q39
        refine gIf_le X w d1_40 (n := 57) (n' := 43) (by decide) rfl rfl ?_ ?_
        · intro c40
          refine gAloadN X w d1_57 rfl rfl (n := 58) rfl ?_
          refine gDloadN X w d1_58 rfl (n := 59) rfl ?_
          refine gPutF X w (own_wd hw 27 rfl) Via.refl F0 A0 (Or.inr ⟨own_wd hw 28 rfl, rfl, rfl⟩) (own_wd hw 4 rfl) na (ty := .double) (by decide) rfl rfl d1_59 (n := 62) rfl ?_
          intro T hp59 X W59
          have F_1 := A0.wr W59
          have F_2 := F0.same W59
          have F_3 := F1.other W59 (Or.inr (slot_ne (Or.inr (own_wd hw 30 rfl) : Laid Z a0 _ _ _ _) (Or.inr (own_wd hw 28 rfl) : Laid Z a0 _ _ _ _) (by decide) (t := .double) (t' := .double) (by decide) (by decide)))
          refine gAloadN X w d1_62 rfl rfl (n := 63) rfl ?_
          refine gDloadN X w d1_63 rfl (n := 64) rfl ?_
          refine gPutF X w (own_wd hw 29 rfl) Via.refl F_3 F_1 (Or.inr ⟨own_wd hw 30 rfl, rfl, rfl⟩) (own_wd hw 4 rfl) na (ty := .double) (by decide) rfl rfl d1_64 (n := 67) rfl ?_
          intro T hp64 X W64
          have F_4 := F_1.wr W64
          have F_5 := F_2.other W64 (Or.inr (slot_ne (Or.inr (own_wd hw 28 rfl) : Laid Z a0 _ _ _ _) (Or.inr (own_wd hw 30 rfl) : Laid Z a0 _ _ _ _) (by decide) (t := .double) (t' := .double) (by decide) (by decide)))
          have F_6 := F_3.same W64
          exact gRetV X w rfl d1_67 (by decide) (by decide) (⟨rfl, ((Keep.refl _ _).wr W59 (Or.inl (List.mem_singleton.mpr rfl))).wr W64 (Or.inl (List.mem_singleton.mpr rfl)), F_4, F_5, F_6⟩)
        · intro c40
          exfalso; omega
    · rintro ⟨c14, c14'⟩
      exact absurd c14 (by decide)
set_option maxRecDepth 65536 in
set_option maxHeartbeats 40000000 in
theorem own_term (l : Launch) (Z : State) (a0 : Array Value) (hw : ∀ d ∈ tables_1, d.before a0 Z = true) (a : Addr) (K B idf TF DL AV : UInt64) (k bq t d ee : Nat) (h0 : Heap) (n0 : Nat) (hn : n0 ≤ h0.size) (F0 : Fld Z h0 a "com/example/nanchang/nanchang/search/Bm25" "k1" "D" (.double K)) (F1 : Fld Z h0 a "com/example/nanchang/nanchang/search/Bm25" "b" "D" (.double B)) (hI : Jvm.Free.Fl.Fin64 idf) (hK : own_dy K k (-2)) (hB : own_dy B bq (-2)) (hB1 : own_dy (FP.dsub (4607182418800017408 : UInt64) B) (4 - bq) (-2)) (hT : own_dy TF t (-2)) (hL : own_dy DL d 0) (hV : own_dy AV 1 (ee : Int)) (hk : k ≤ 63) (hb : bq ≤ 4) (ht : t ≤ 65535) (hd : d ≤ 1048575) (he : ee ≤ 7) :
    ConV l Z (⟨"com/example/nanchang/nanchang/search/Bm25", "termScore", "(DDDD)D"⟩ : MethodName) prog_50_method_4_code 13 (some .double) ({ frames := 0, cells := 0, slots := 0, locals := 0 } : Room) #[(.ref a), (.double idf), (.double TF), (.double DL), (.double AV)] h0 n0 (fun v h => h0 = h ∧ ∃ r : UInt64, v = .double r ∧ (t = 0 → r = 0) ∧ (0 < t → ∃ N D : UInt64, own_dy N ((k + 4) * t) (-4) ∧ own_dy D (k * ((4 - bq) * 2 ^ ee + bq * d) + t * 2 ^ (ee + 2)) (-4 - (ee : Int)) ∧ r = FP.dmul idf (FP.ddiv N D))) := by
  refine Con.of (plainFor_of_name (by first | (simp [plainName, overriddenIn]; done) | decide +kernel)) hn ?_
  intro p e s m below meth c T w X
  refine Gl.enter (ls := #[.val (.ref a), .val (.double idf), .second, .val (.double TF), .second, .val (.double DL), .second, .val (.double AV), .second, .unset, .unset, .unset, .unset]) (by first | (simp [entryFrame, mkF, argsToLocals, Value.category]; done) | rfl) ?_
  obtain ⟨b1, b2, b3, b4, b5, b6⟩ := own_bd hk hb ht hd he
  refine gDloadN X w d6_0 rfl (n := 1) rfl ?_
  refine gDconst0 X w d6_1 (z := (0 : UInt64)) rfl (n := 2) rfl ?_
  obtain ⟨x2, q2⟩ : ∃ zz_ : Int32, cmpValue (FP.dcmp TF (0 : UInt64)) .l = zz_ := ⟨_, rfl⟩
  refine gDcmp X w d6_2 q2 (n := 3) rfl ?_
  obtain ⟨f2, g2⟩ := own_dy_cmp0 hT q2
  refine gIf_ne X w d6_3 (n := 8) (n' := 6) (by decide) rfl rfl ?_ ?_
  · rintro ⟨c3, c3'⟩
    refine gDconst1 X w d6_8 (z := (4607182418800017408 : UInt64)) rfl (n := 9) rfl ?_
    refine gAloadN X w d6_9 rfl rfl (n := 10) rfl ?_
    refine gGetF X w (own_wd hw 29 rfl) Via.refl F1 d6_10 (n := 13) rfl ?_
    intro T X
    obtain ⟨u13, q13⟩ : ∃ zz_ : UInt64, FP.dsub (4607182418800017408 : UInt64) B = zz_ := ⟨_, rfl⟩
    have nn13 := Jvm.Free.Fl.dsub_out (own_dy_fin own_dy_1).noNaN (own_dy_fin hB)
    refine gDsub X w d6_13 nn13 q13 (n := 14) rfl ?_
    have k13 : own_dy u13 (4 - bq) (-2) := by rw [← q13]; exact hB1
    have k13' := own_dy_scale ee k13 (by omega)
    refine gAloadN X w d6_14 rfl rfl (n := 15) rfl ?_
    refine gGetF X w (own_wd hw 29 rfl) Via.refl F1 d6_15 (n := 18) rfl ?_
    intro T X
    refine gDload X w d6_18 rfl (n := 20) rfl ?_
    obtain ⟨u20, q20⟩ : ∃ zz_ : UInt64, FP.dmul B DL = zz_ := ⟨_, rfl⟩
    have nn20 := Jvm.Free.Fl.dmul_out (own_dy_fin hB) (own_dy_fin hL)
    refine gDmul X w d6_20 nn20 q20 (n := 21) rfl ?_
    have k20 : own_dy u20 (bq * d) (-2) := by rw [← q20]; exact own_dy_e (own_dy_mul hB hL (by omega) (by omega) (by omega) (by omega) (by omega) (by omega)) (by omega) rfl
    refine gDload X w d6_21 rfl (n := 23) rfl ?_
    obtain ⟨u23, q23⟩ : ∃ zz_ : UInt64, FP.ddiv u20 AV = zz_ := ⟨_, rfl⟩
    have nn23 := Jvm.Free.Fl.ddiv_out (own_dy_fin k20).noNaN (own_dy_fin hV) (own_dy_nz hV (by decide))
    refine gDdiv X w d6_23 nn23 q23 (n := 24) rfl ?_
    have k23 : own_dy u23 (bq * d) (-2 - (ee : Int)) := by rw [← q23]; exact own_dy_div2 k20 hV (by omega) (by omega) (by omega) (by omega) (by omega)
    obtain ⟨u24, q24⟩ : ∃ zz_ : UInt64, FP.dadd u13 u23 = zz_ := ⟨_, rfl⟩
    have nn24 := Jvm.Free.Fl.dadd_out (own_dy_fin k13).noNaN (own_dy_fin k23)
    refine gDadd X w d6_24 nn24 q24 (n := 25) rfl ?_
    have k24 : own_dy u24 ((4 - bq) * 2 ^ ee + bq * d) (-2 - (ee : Int)) := by rw [← q24]; exact own_dy_add k13' k23 (by omega) (by omega) (by omega)
    refine gDstore X w d6_25 #[.val (.ref a), .val (.double idf), .second, .val (.double TF), .second, .val (.double DL), .second, .val (.double AV), .second, .val (.double u24), .second, .unset, .unset] rfl (n := 27) rfl ?_
    refine gAloadN X w d6_27 rfl rfl (n := 28) rfl ?_
    refine gGetF X w (own_wd hw 27 rfl) Via.refl F0 d6_28 (n := 31) rfl ?_
    intro T X
    refine gDconst1 X w d6_31 (z := (4607182418800017408 : UInt64)) rfl (n := 32) rfl ?_
    obtain ⟨u32, q32⟩ : ∃ zz_ : UInt64, FP.dadd K (4607182418800017408 : UInt64) = zz_ := ⟨_, rfl⟩
    have nn32 := Jvm.Free.Fl.dadd_out (own_dy_fin hK).noNaN (own_dy_fin own_dy_1)
    refine gDadd X w d6_32 nn32 q32 (n := 33) rfl ?_
    have k32 : own_dy u32 (k + 4) (-2) := by rw [← q32]; exact own_dy_add hK own_dy_1 (by omega) (by omega) (by omega)
    refine gDloadN X w d6_33 rfl (n := 34) rfl ?_
    obtain ⟨u34, q34⟩ : ∃ zz_ : UInt64, FP.dmul u32 TF = zz_ := ⟨_, rfl⟩
    have nn34 := Jvm.Free.Fl.dmul_out (own_dy_fin k32) (own_dy_fin hT)
    refine gDmul X w d6_34 nn34 q34 (n := 35) rfl ?_
    have k34 : own_dy u34 ((k + 4) * t) (-4) := by rw [← q34]; exact own_dy_e (own_dy_mul k32 hT (by omega) (by omega) (by omega) (by omega) (by omega) (by omega)) (by omega) rfl
    refine gAloadN X w d6_35 rfl rfl (n := 36) rfl ?_
    refine gGetF X w (own_wd hw 27 rfl) Via.refl F0 d6_36 (n := 39) rfl ?_
    intro T X
    refine gDload X w d6_39 rfl (n := 41) rfl ?_
    obtain ⟨u41, q41⟩ : ∃ zz_ : UInt64, FP.dmul K u24 = zz_ := ⟨_, rfl⟩
    have nn41 := Jvm.Free.Fl.dmul_out (own_dy_fin hK) (own_dy_fin k24)
    refine gDmul X w d6_41 nn41 q41 (n := 42) rfl ?_
    have k41 : own_dy u41 (k * ((4 - bq) * 2 ^ ee + bq * d)) (-4 - (ee : Int)) := by rw [← q41]; exact own_dy_e (own_dy_mul hK k24 (by omega) (by omega) (by omega) (by omega) (by omega) (by omega)) (by omega) rfl
    have kT : own_dy TF (t * 2 ^ (ee + 2)) (-4 - (ee : Int)) := own_dy_e (own_dy_scale (ee + 2) hT (by omega)) (by omega) rfl
    refine gDloadN X w d6_42 rfl (n := 43) rfl ?_
    obtain ⟨u43, q43⟩ : ∃ zz_ : UInt64, FP.dadd u41 TF = zz_ := ⟨_, rfl⟩
    have nn43 := Jvm.Free.Fl.dadd_out (own_dy_fin k41).noNaN (own_dy_fin hT)
    refine gDadd X w d6_43 nn43 q43 (n := 44) rfl ?_
    have k43 : own_dy u43 (k * ((4 - bq) * 2 ^ ee + bq * d) + t * 2 ^ (ee + 2)) (-4 - (ee : Int)) := by rw [← q43]; exact own_dy_add k41 kT (by omega) (by omega) (by omega)
    have pq : 0 < k * ((4 - bq) * 2 ^ ee + bq * d) + t * 2 ^ (ee + 2) := Nat.add_pos_right _ (Nat.mul_pos (Nat.pos_of_ne_zero fun g => absurd (f2 g) (by omega)) (Nat.two_pow_pos _))
    obtain ⟨u44, q44⟩ : ∃ zz_ : UInt64, FP.ddiv u34 u43 = zz_ := ⟨_, rfl⟩
    have nn44 := Jvm.Free.Fl.ddiv_out (own_dy_fin k34).noNaN (own_dy_fin k43) (own_dy_nz k43 pq)
    refine gDdiv X w d6_44 nn44 q44 (n := 45) rfl ?_
    refine gDstore X w d6_45 #[.val (.ref a), .val (.double idf), .second, .val (.double TF), .second, .val (.double DL), .second, .val (.double AV), .second, .val (.double u24), .second, .val (.double u44), .second] rfl (n := 47) rfl ?_
    refine gDloadN X w d6_47 rfl (n := 48) rfl ?_
    refine gDload X w d6_48 rfl (n := 50) rfl ?_
    obtain ⟨u50, q50⟩ : ∃ zz_ : UInt64, FP.dmul idf u44 = zz_ := ⟨_, rfl⟩
    have nn50 := Jvm.Free.Fl.dmul_out hI (show Jvm.Free.Fl.Fin64 u44 by rw [← q44]; exact own_dy_qfin k34 k43 (by omega) pq (by omega) (by omega) (by omega) (by omega))
    refine gDmul X w d6_50 nn50 q50 (n := 51) rfl ?_
    exact gRetD X w rfl d6_51 (by decide) (by decide) (⟨_, rfl, rfl, _, rfl, fun g => absurd g (by omega), fun _ => ⟨_, _, k34, k43, by rw [← q50, ← q44]⟩⟩)
  · rintro ⟨c3, c3'⟩
    refine gDconst0 X w d6_6 (z := (0 : UInt64)) rfl (n := 7) rfl ?_
    exact gRetD X w rfl d6_7 (by decide) (by decide) (⟨_, rfl, rfl, 0, rfl, fun _ => rfl, fun g => absurd (g2 g) (by omega)⟩)
set_option maxRecDepth 65536 in
set_option maxHeartbeats 40000000 in
theorem own_law (l : Launch) (Z : State) (a0 : Array Value) (hw : ∀ d ∈ tables_1, d.before a0 Z = true) (p0 p1 p2 p3 p4 p5 : Int32) (h0 : Heap) (n0 : Nat) (hn : n0 ≤ h0.size)  :
    Con l Z x code maxLocals ret tables_1 room_1 16 128 #[(.int p0), (.int p1), (.int p2), (.int p3), (.int p4), (.int p5)] h0 n0 (fun r h => r = some (.int 1)) := by
  refine Con.of (plainFor_of_name (by first | (simp [plainName, overriddenIn]; done) | decide +kernel)) hn ?_
  intro p e s m below meth c T w X
  refine Gl.enter (ls := #[.val (.int p0), .val (.int p1), .val (.int p2), .val (.int p3), .val (.int p4), .val (.int p5), .unset, .unset, .unset, .unset, .unset, .unset, .unset, .unset, .unset, .unset, .unset, .unset, .unset, .unset, .unset, .unset, .unset, .unset, .unset, .unset]) (by first | (simp [entryFrame, mkF, argsToLocals, Value.category, maxLocals]; done) | rfl) ?_
  refine gIloadN X w at_0 rfl (n := 1) rfl ?_
  refine gBipush X w at_1 (z := (63 : Int32)) (by decide) (n := 3) rfl ?_
  obtain ⟨x3, q3⟩ : ∃ zz_ : Int32, p1 &&& (63 : Int32) = zz_ := ⟨_, rfl⟩
  refine gIand X w at_3 q3 (n := 4) rfl ?_
  have f3 : x3.toInt = p1.toInt % 64 := by rw [← q3]; exact c_mask _ 63 6 (by decide) (by decide)
  obtain ⟨k, hk⟩ := Int.eq_ofNat_of_zero_le (show 0 ≤ x3.toInt by omega)
  refine gIstore X w at_4 #[.val (.int p0), .val (.int p1), .val (.int p2), .val (.int p3), .val (.int p4), .val (.int p5), .val (.int x3), .unset, .unset, .unset, .unset, .unset, .unset, .unset, .unset, .unset, .unset, .unset, .unset, .unset, .unset, .unset, .unset, .unset, .unset, .unset] rfl (n := 6) rfl ?_
  refine gIloadN X w at_6 rfl (n := 7) rfl ?_
  refine gLdc X w (own_wd hw 0 rfl) at_7 (n := 9) rfl ?_
  obtain ⟨x9, q9⟩ : ∃ zz_ : Int32, p2 &&& (2147483647 : Int32) = zz_ := ⟨_, rfl⟩
  refine gIand X w at_9 q9 (n := 10) rfl ?_
  have f9 : x9.toInt = p2.toInt % 2147483648 := by rw [← q9]; exact mask31 _
  refine gIconst X w at_10 (z := (5 : Int32)) rfl (n := 11) rfl ?_
  obtain ⟨x11, q11⟩ : ∃ zz_ : Int32, x9 % (5 : Int32) = zz_ := ⟨_, rfl⟩
  refine gIrem X w at_11 (by decide) q11 (n := 12) rfl ?_
  have f11 : x11.toInt = x9.toInt % 5 := by
    have h := irem_pos (x := x9) (y := 5) (by omega)
    rw [q11, show (5 : Int32).toInt = 5 from rfl] at h; exact h
  obtain ⟨bq, hbq⟩ := Int.eq_ofNat_of_zero_le (show 0 ≤ x11.toInt by omega)
  refine gIstore X w at_12 #[.val (.int p0), .val (.int p1), .val (.int p2), .val (.int p3), .val (.int p4), .val (.int p5), .val (.int x3), .val (.int x11), .unset, .unset, .unset, .unset, .unset, .unset, .unset, .unset, .unset, .unset, .unset, .unset, .unset, .unset, .unset, .unset, .unset, .unset] rfl (n := 14) rfl ?_
  refine gIloadN X w at_14 rfl (n := 15) rfl ?_
  refine gLdc X w (own_wd hw 1 rfl) at_15 (n := 17) rfl ?_
  obtain ⟨x17, q17⟩ : ∃ zz_ : Int32, p3 &&& (65535 : Int32) = zz_ := ⟨_, rfl⟩
  refine gIand X w at_17 q17 (n := 18) rfl ?_
  have f17 : x17.toInt = p3.toInt % 65536 := by rw [← q17]; exact c_mask _ 65535 16 (by decide) (by decide)
  obtain ⟨t, ht⟩ := Int.eq_ofNat_of_zero_le (show 0 ≤ x17.toInt by omega)
  refine gIstore X w at_18 #[.val (.int p0), .val (.int p1), .val (.int p2), .val (.int p3), .val (.int p4), .val (.int p5), .val (.int x3), .val (.int x11), .val (.int x17), .unset, .unset, .unset, .unset, .unset, .unset, .unset, .unset, .unset, .unset, .unset, .unset, .unset, .unset, .unset, .unset, .unset] rfl (n := 20) rfl ?_
  refine gIload X w at_20 rfl (n := 22) rfl ?_
  refine gLdc X w (own_wd hw 2 rfl) at_22 (n := 24) rfl ?_
  obtain ⟨x24, q24⟩ : ∃ zz_ : Int32, p4 &&& (1048575 : Int32) = zz_ := ⟨_, rfl⟩
  refine gIand X w at_24 q24 (n := 25) rfl ?_
  have f24 : x24.toInt = p4.toInt % 1048576 := by rw [← q24]; exact c_mask _ 1048575 20 (by decide) (by decide)
  obtain ⟨d, hd⟩ := Int.eq_ofNat_of_zero_le (show 0 ≤ x24.toInt by omega)
  refine gIstore X w at_25 #[.val (.int p0), .val (.int p1), .val (.int p2), .val (.int p3), .val (.int p4), .val (.int p5), .val (.int x3), .val (.int x11), .val (.int x17), .val (.int x24), .unset, .unset, .unset, .unset, .unset, .unset, .unset, .unset, .unset, .unset, .unset, .unset, .unset, .unset, .unset, .unset] rfl (n := 27) rfl ?_
  refine gIload X w at_27 rfl (n := 29) rfl ?_
  refine gBipush X w at_29 (z := (7 : Int32)) (by decide) (n := 31) rfl ?_
  obtain ⟨x31, q31⟩ : ∃ zz_ : Int32, p5 &&& (7 : Int32) = zz_ := ⟨_, rfl⟩
  refine gIand X w at_31 q31 (n := 32) rfl ?_
  have f31 : x31.toInt = p5.toInt % 8 := by rw [← q31]; exact c_mask _ 7 3 (by decide) (by decide)
  obtain ⟨ee, hee⟩ := Int.eq_ofNat_of_zero_le (show 0 ≤ x31.toInt by omega)
  obtain ⟨b1, b2, b3, b4, b5, b6⟩ := own_bd (k := k) (bq := bq) (t := t) (d := d) (e := ee) (by omega) (by omega) (by omega) (by omega) (by omega)
  have bp := own_pw (e := ee) (by omega)
  refine gIstore X w at_32 #[.val (.int p0), .val (.int p1), .val (.int p2), .val (.int p3), .val (.int p4), .val (.int p5), .val (.int x3), .val (.int x11), .val (.int x17), .val (.int x24), .val (.int x31), .unset, .unset, .unset, .unset, .unset, .unset, .unset, .unset, .unset, .unset, .unset, .unset, .unset, .unset, .unset] rfl (n := 34) rfl ?_
  refine gLconst X w at_34 (z := (1 : Int64)) (by decide) (n := 35) rfl ?_
  refine gIload X w at_35 rfl (n := 37) rfl ?_
  obtain ⟨y37, q37⟩ : ∃ zz_ : Int64, (1 : Int64) <<< (Int32.toInt64 x31 &&& 63) = zz_ := ⟨_, rfl⟩
  refine gLshl X w at_37 q37 (n := 38) rfl ?_
  have f37 : y37.toInt = ((2 ^ ee : Nat) : Int) := by have h := own_lshl (x := 1) (a := 1) rfl hee (by omega) (by omega) q37; rw [Nat.one_mul] at h; exact h
  refine gJstore X w at_38 #[.val (.int p0), .val (.int p1), .val (.int p2), .val (.int p3), .val (.int p4), .val (.int p5), .val (.int x3), .val (.int x11), .val (.int x17), .val (.int x24), .val (.int x31), .val (.long y37), .second, .unset, .unset, .unset, .unset, .unset, .unset, .unset, .unset, .unset, .unset, .unset, .unset, .unset] rfl (n := 40) rfl ?_
  refine gNew X w (own_wd hw 3 rfl) (own_wd hw 4 rfl) (own_wd hw 5 rfl) at_40 (by decide) (by decide) (n := 43) rfl ?_
  intro T hp40 ad40 ea40 na40 X E40 A40 D40
  have F_1 : Fld Z hp40 ad40 "com/example/nanchang/nanchang/search/Bm25" "k1" "D" (.double (0 : UInt64)) := D40 (Or.inr (own_wd hw 28 rfl)) (ty := .double) (by decide)
  have F_2 : Fld Z hp40 ad40 "com/example/nanchang/nanchang/search/Bm25" "b" "D" (.double (0 : UInt64)) := D40 (Or.inr (own_wd hw 30 rfl)) (ty := .double) (by decide)
  refine gDup X w at_43 rfl (n := 44) rfl ?_
  refine gIload X w at_44 rfl (n := 46) rfl ?_
  obtain ⟨u46, q46⟩ : ∃ zz_ : UInt64, FP.i2d x3 = zz_ := ⟨_, rfl⟩
  refine gI2d X w at_46 q46 (n := 47) rfl ?_
  refine gLdc2D X w (own_wd hw 6 rfl) at_47 (n := 50) rfl ?_
  obtain ⟨u50, q50⟩ : ∃ zz_ : UInt64, FP.ddiv u46 (4616189618054758400 : UInt64) = zz_ := ⟨_, rfl⟩
  have nn50 := Jvm.Free.Fl.ddiv_out (own_dy_fin (by rw [← q46]; exact own_dy_i2d hk : own_dy u46 k 0)).noNaN (own_dy_fin own_dy_4) (own_dy_nz own_dy_4 (by decide))
  refine gDdiv X w at_50 nn50 q50 (n := 51) rfl ?_
  have k50 : own_dy u50 k (-2) := by rw [← q50, ← q46]; exact own_dy_q4 hk
  refine gIload X w at_51 rfl (n := 53) rfl ?_
  obtain ⟨u53, q53⟩ : ∃ zz_ : UInt64, FP.i2d x11 = zz_ := ⟨_, rfl⟩
  refine gI2d X w at_53 q53 (n := 54) rfl ?_
  refine gLdc2D X w (own_wd hw 6 rfl) at_54 (n := 57) rfl ?_
  obtain ⟨u57, q57⟩ : ∃ zz_ : UInt64, FP.ddiv u53 (4616189618054758400 : UInt64) = zz_ := ⟨_, rfl⟩
  have nn57 := Jvm.Free.Fl.ddiv_out (own_dy_fin (by rw [← q53]; exact own_dy_i2d hbq : own_dy u53 bq 0)).noNaN (own_dy_fin own_dy_4) (own_dy_nz own_dy_4 (by decide))
  refine gDdiv X w at_57 nn57 q57 (n := 58) rfl ?_
  have k57 : own_dy u57 bq (-2) := by rw [← q57, ← q53]; exact own_dy_q4 hbq
  have k57' : own_dy (FP.dsub (4607182418800017408 : UInt64) u57) (4 - bq) (-2) := by rw [← q57, ← q53]; exact own_dy_sub1 hbq (by omega)
  refine gCallIn X w [(.double u50), (.double u57)] [(.ref ad40)] rfl (own_init l Z a0 hw ad40 u50 u57 k bq hp40 n0 (Sd.le X) na40 A40 F_1 F_2 k50 k57 (by omega)) (own_wd hw 7 rfl) (own_wd hw 8 rfl) (own_wd hw 5 rfl) (own_wd hw 9 rfl) (by decide) own_pd2 rfl rfl at_58 rfl (W := 1) (Nat.le_of_eq rfl) (by decide) (by decide) (by decide) (by decide) (n := 61) rfl ?_
  rintro T h58 ⟨K58, A58, F58, G58⟩ X
  refine gAstore X w at_61 rfl #[.val (.int p0), .val (.int p1), .val (.int p2), .val (.int p3), .val (.int p4), .val (.int p5), .val (.int x3), .val (.int x11), .val (.int x17), .val (.int x24), .val (.int x31), .val (.long y37), .second, .val (.ref ad40), .unset, .unset, .unset, .unset, .unset, .unset, .unset, .unset, .unset, .unset, .unset, .unset] rfl (n := 63) rfl ?_
  refine gIloadN X w at_63 rfl (n := 64) rfl ?_
  obtain ⟨u64, q64⟩ : ∃ zz_ : UInt64, FP.i2d p0 = zz_ := ⟨_, rfl⟩
  refine gI2d X w at_64 q64 (n := 65) rfl ?_
  have k64 : Jvm.Free.Fl.Fin64 u64 := by rw [← q64]; exact Jvm.Free.Fl.i2d_fin p0
  refine gDstore X w at_65 #[.val (.int p0), .val (.int p1), .val (.int p2), .val (.int p3), .val (.int p4), .val (.int p5), .val (.int x3), .val (.int x11), .val (.int x17), .val (.int x24), .val (.int x31), .val (.long y37), .second, .val (.ref ad40), .val (.double u64), .second, .unset, .unset, .unset, .unset, .unset, .unset, .unset, .unset, .unset, .unset] rfl (n := 67) rfl ?_
  refine gAload X w at_67 rfl rfl (n := 69) rfl ?_
  refine gDload X w at_69 rfl (n := 71) rfl ?_
  refine gIload X w at_71 rfl (n := 73) rfl ?_
  obtain ⟨u73, q73⟩ : ∃ zz_ : UInt64, FP.i2d x17 = zz_ := ⟨_, rfl⟩
  refine gI2d X w at_73 q73 (n := 74) rfl ?_
  refine gLdc2D X w (own_wd hw 6 rfl) at_74 (n := 77) rfl ?_
  obtain ⟨u77, q77⟩ : ∃ zz_ : UInt64, FP.ddiv u73 (4616189618054758400 : UInt64) = zz_ := ⟨_, rfl⟩
  have nn77 := Jvm.Free.Fl.ddiv_out (own_dy_fin (by rw [← q73]; exact own_dy_i2d ht : own_dy u73 t 0)).noNaN (own_dy_fin own_dy_4) (own_dy_nz own_dy_4 (by decide))
  refine gDdiv X w at_77 nn77 q77 (n := 78) rfl ?_
  have k77 : own_dy u77 t (-2) := by rw [← q77, ← q73]; exact own_dy_q4 ht
  refine gIload X w at_78 rfl (n := 80) rfl ?_
  obtain ⟨u80, q80⟩ : ∃ zz_ : UInt64, FP.i2d x24 = zz_ := ⟨_, rfl⟩
  refine gI2d X w at_80 q80 (n := 81) rfl ?_
  have k80 : own_dy u80 d 0 := by rw [← q80]; exact own_dy_i2d hd
  refine gJload X w at_81 rfl (n := 83) rfl ?_
  obtain ⟨u83, q83⟩ : ∃ zz_ : UInt64, FP.l2d y37 = zz_ := ⟨_, rfl⟩
  refine gL2d X w at_83 q83 (n := 84) rfl ?_
  have k83 : own_dy u83 1 (ee : Int) := own_dy_to (show own_dy u83 (2 ^ ee) 0 by rw [← q83]; exact own_dy_l2d f37 (by omega)) (by rw [Nat.one_mul, ← Nat.pow_add] <;> congr 1 <;> omega)
  refine gCallVv X w [(.double u64), (.double u77), (.double u80), (.double u83)] [] A58 (own_term l Z a0 hw ad40 u50 u57 u64 u77 u80 u83 k bq t d ee h58 n0 (Sd.le X) F58 G58 k64 k50 k57 k57' k77 k80 k83 (by omega) (by omega) (by omega) (by omega) (by omega)) (own_wd hw 31 rfl) (own_wd hw 32 rfl) (notFace_of_selects (args := #[]) (mvT w.2.2.1 (own_wd hw 34 rfl))) (own_wd hw 34 rfl) (own_wd hw 33 rfl) (own_wd hw 5 rfl) (own_wd hw 35 rfl) (by decide) own_pd3 rfl rfl at_84 rfl (W := 0) (Nat.le_of_eq rfl) (by decide) (by decide) (by decide) (by decide) (n := 87) rfl ?_
  rintro T _ _ ⟨rfl, r84, rfl, r84a, r84b⟩ X
  refine gDstore X w at_87 #[.val (.int p0), .val (.int p1), .val (.int p2), .val (.int p3), .val (.int p4), .val (.int p5), .val (.int x3), .val (.int x11), .val (.int x17), .val (.int x24), .val (.int x31), .val (.long y37), .second, .val (.ref ad40), .val (.double u64), .second, .val (.double r84), .second, .unset, .unset, .unset, .unset, .unset, .unset, .unset, .unset] rfl (n := 89) rfl ?_
  refine gIconst X w at_89 (z := (4 : Int32)) rfl (n := 90) rfl ?_
  refine gIload X w at_90 rfl (n := 92) rfl ?_
  obtain ⟨x92, q92⟩ : ∃ zz_ : Int32, (4 : Int32) - x11 = zz_ := ⟨_, rfl⟩
  refine gIsub X w at_92 q92 (n := 93) rfl ?_
  have f92 : x92.toInt = ((4 - bq : Nat) : Int) := by rw [← q92, isub_toInt] <;> rw [show (4 : Int32).toInt = 4 from rfl] <;> omega
  obtain ⟨y93, q93⟩ : ∃ zz_ : Int64, Int32.toInt64 x92 = zz_ := ⟨_, rfl⟩
  refine gI2l X w at_93 q93 (n := 94) rfl ?_
  have f93 := own_i2l f92 q93
  refine gJload X w at_94 rfl (n := 96) rfl ?_
  obtain ⟨y96, q96⟩ : ∃ zz_ : Int64, y93 * y37 = zz_ := ⟨_, rfl⟩
  refine gLmul X w at_96 q96 (n := 97) rfl ?_
  have f96 := own_lmul f93 f37 (by omega) q96
  refine gIload X w at_97 rfl (n := 99) rfl ?_
  obtain ⟨y99, q99⟩ : ∃ zz_ : Int64, Int32.toInt64 x11 = zz_ := ⟨_, rfl⟩
  refine gI2l X w at_99 q99 (n := 100) rfl ?_
  have f99 := own_i2l hbq q99
  refine gIload X w at_100 rfl (n := 102) rfl ?_
  obtain ⟨y102, q102⟩ : ∃ zz_ : Int64, Int32.toInt64 x24 = zz_ := ⟨_, rfl⟩
  refine gI2l X w at_102 q102 (n := 103) rfl ?_
  have f102 := own_i2l hd q102
  obtain ⟨y103, q103⟩ : ∃ zz_ : Int64, y99 * y102 = zz_ := ⟨_, rfl⟩
  refine gLmul X w at_103 q103 (n := 104) rfl ?_
  have f103 := own_lmul f99 f102 (by omega) q103
  obtain ⟨y104, q104⟩ : ∃ zz_ : Int64, y96 + y103 = zz_ := ⟨_, rfl⟩
  refine gLadd X w at_104 q104 (n := 105) rfl ?_
  have f104 := own_ladd f96 f103 (by omega) q104
  refine gJstore X w at_105 #[.val (.int p0), .val (.int p1), .val (.int p2), .val (.int p3), .val (.int p4), .val (.int p5), .val (.int x3), .val (.int x11), .val (.int x17), .val (.int x24), .val (.int x31), .val (.long y37), .second, .val (.ref ad40), .val (.double u64), .second, .val (.double r84), .second, .val (.long y104), .second, .unset, .unset, .unset, .unset, .unset, .unset] rfl (n := 107) rfl ?_
  refine gIload X w at_107 rfl (n := 109) rfl ?_
  refine gIconst X w at_109 (z := (4 : Int32)) rfl (n := 110) rfl ?_
  obtain ⟨x110, q110⟩ : ∃ zz_ : Int32, x3 + (4 : Int32) = zz_ := ⟨_, rfl⟩
  refine gIadd X w at_110 q110 (n := 111) rfl ?_
  have f110 : x110.toInt = ((k + 4 : Nat) : Int) := by rw [← q110, iadd_toInt] <;> rw [show (4 : Int32).toInt = 4 from rfl] <;> omega
  obtain ⟨y111, q111⟩ : ∃ zz_ : Int64, Int32.toInt64 x110 = zz_ := ⟨_, rfl⟩
  refine gI2l X w at_111 q111 (n := 112) rfl ?_
  have f111 := own_i2l f110 q111
  refine gIload X w at_112 rfl (n := 114) rfl ?_
  obtain ⟨y114, q114⟩ : ∃ zz_ : Int64, Int32.toInt64 x17 = zz_ := ⟨_, rfl⟩
  refine gI2l X w at_114 q114 (n := 115) rfl ?_
  have f114 := own_i2l ht q114
  obtain ⟨y115, q115⟩ : ∃ zz_ : Int64, y111 * y114 = zz_ := ⟨_, rfl⟩
  refine gLmul X w at_115 q115 (n := 116) rfl ?_
  have f115 := own_lmul f111 f114 (by omega) q115
  refine gIload X w at_116 rfl (n := 118) rfl ?_
  obtain ⟨y118, q118⟩ : ∃ zz_ : Int64, y115 <<< (Int32.toInt64 x31 &&& 63) = zz_ := ⟨_, rfl⟩
  refine gLshl X w at_118 q118 (n := 119) rfl ?_
  have f118 := own_lshl f115 hee (by omega) (by omega) q118
  refine gJstore X w at_119 #[.val (.int p0), .val (.int p1), .val (.int p2), .val (.int p3), .val (.int p4), .val (.int p5), .val (.int x3), .val (.int x11), .val (.int x17), .val (.int x24), .val (.int x31), .val (.long y37), .second, .val (.ref ad40), .val (.double u64), .second, .val (.double r84), .second, .val (.long y104), .second, .val (.long y118), .second, .unset, .unset, .unset, .unset] rfl (n := 121) rfl ?_
  refine gIload X w at_121 rfl (n := 123) rfl ?_
  obtain ⟨y123, q123⟩ : ∃ zz_ : Int64, Int32.toInt64 x3 = zz_ := ⟨_, rfl⟩
  refine gI2l X w at_123 q123 (n := 124) rfl ?_
  have f123 := own_i2l hk q123
  refine gJload X w at_124 rfl (n := 126) rfl ?_
  obtain ⟨y126, q126⟩ : ∃ zz_ : Int64, y123 * y104 = zz_ := ⟨_, rfl⟩
  refine gLmul X w at_126 q126 (n := 127) rfl ?_
  have f126 := own_lmul f123 f104 (by omega) q126
  refine gIload X w at_127 rfl (n := 129) rfl ?_
  obtain ⟨y129, q129⟩ : ∃ zz_ : Int64, Int32.toInt64 x17 = zz_ := ⟨_, rfl⟩
  refine gI2l X w at_129 q129 (n := 130) rfl ?_
  have f129 := own_i2l ht q129
  refine gIload X w at_130 rfl (n := 132) rfl ?_
  refine gIconst X w at_132 (z := (2 : Int32)) rfl (n := 133) rfl ?_
  obtain ⟨x133, q133⟩ : ∃ zz_ : Int32, x31 + (2 : Int32) = zz_ := ⟨_, rfl⟩
  refine gIadd X w at_133 q133 (n := 134) rfl ?_
  have f133 : x133.toInt = ((ee + 2 : Nat) : Int) := by rw [← q133, iadd_toInt] <;> rw [show (2 : Int32).toInt = 2 from rfl] <;> omega
  obtain ⟨y134, q134⟩ : ∃ zz_ : Int64, y129 <<< (Int32.toInt64 x133 &&& 63) = zz_ := ⟨_, rfl⟩
  refine gLshl X w at_134 q134 (n := 135) rfl ?_
  have f134 := own_lshl f129 f133 (by omega) (by omega) q134
  obtain ⟨y135, q135⟩ : ∃ zz_ : Int64, y126 + y134 = zz_ := ⟨_, rfl⟩
  refine gLadd X w at_135 q135 (n := 136) rfl ?_
  have f135 := own_ladd f126 f134 (by omega) q135
  refine gJstore X w at_136 #[.val (.int p0), .val (.int p1), .val (.int p2), .val (.int p3), .val (.int p4), .val (.int p5), .val (.int x3), .val (.int x11), .val (.int x17), .val (.int x24), .val (.int x31), .val (.long y37), .second, .val (.ref ad40), .val (.double u64), .second, .val (.double r84), .second, .val (.long y104), .second, .val (.long y118), .second, .val (.long y135), .second, .unset, .unset] rfl (n := 138) rfl ?_
  refine gDconst0 X w at_138 (z := (0 : UInt64)) rfl (n := 139) rfl ?_
  refine gDstore X w at_139 #[.val (.int p0), .val (.int p1), .val (.int p2), .val (.int p3), .val (.int p4), .val (.int p5), .val (.int x3), .val (.int x11), .val (.int x17), .val (.int x24), .val (.int x31), .val (.long y37), .second, .val (.ref ad40), .val (.double u64), .second, .val (.double r84), .second, .val (.long y104), .second, .val (.long y118), .second, .val (.long y135), .second, .val (.double (0 : UInt64)), .second] rfl (n := 141) rfl ?_
  refine gIload X w at_141 rfl (n := 143) rfl ?_
  refine gIf_eq X w at_143 (n := 155) (n' := 146) (by decide) rfl rfl ?_ ?_
  · rintro ⟨c143, c143'⟩
    have t0 : t = 0 := by omega
    have r0 := r84a t0
    refine gDload X w at_155 rfl (n := 157) rfl ?_
    refine gDload X w at_157 rfl (n := 159) rfl ?_
    refine gDload X w at_159 rfl (n := 161) rfl ?_
    obtain ⟨u161, q161⟩ : ∃ zz_ : UInt64, FP.dmul u64 (0 : UInt64) = zz_ := ⟨_, rfl⟩
    have nn161 := Jvm.Free.Fl.dmul_out k64 (own_dy_fin own_dy_0)
    refine gDmul X w at_161 nn161 q161 (n := 162) rfl ?_
    obtain ⟨x162, q162⟩ : ∃ zz_ : Int32, cmpValue (FP.dcmp r84 u161) .l = zz_ := ⟨_, rfl⟩
    refine gDcmp X w at_162 q162 (n := 163) rfl ?_
    have z162 : x162 = 0 := own_zz (w := 0) (o := .l) k64 (by rw [r0, ← q161] at q162; exact q162)
    refine gIf_ne X w at_163 (n := 170) (n' := 166) (by decide) rfl rfl ?_ ?_
    · rintro ⟨c163, c163'⟩
      exact absurd z162 c163
    · rintro ⟨c163, c163'⟩
      refine gIconst X w at_166 (z := (1 : Int32)) rfl (n := 167) rfl ?_
      refine gGoto X w at_167 (by decide) (n := 171) rfl ?_
      exact gRetZ X w rfl (Or.inr rfl) at_171 (by decide) (by decide) (rfl)
  · rintro ⟨c143, c143'⟩
    have t0 : 0 < t := by omega
    obtain ⟨N, D, kN, kD, r0⟩ := r84b t0
    have pq : 0 < k * ((4 - bq) * 2 ^ ee + bq * d) + t * 2 ^ (ee + 2) := Nat.add_pos_right _ (Nat.mul_pos t0 (Nat.two_pow_pos _))
    refine gJload X w at_146 rfl (n := 148) rfl ?_
    obtain ⟨u148, q148⟩ : ∃ zz_ : UInt64, FP.l2d y118 = zz_ := ⟨_, rfl⟩
    refine gL2d X w at_148 q148 (n := 149) rfl ?_
    have k148 : own_dy u148 ((k + 4) * t * 2 ^ ee) 0 := by rw [← q148]; exact own_dy_l2d f118 (by omega)
    refine gJload X w at_149 rfl (n := 151) rfl ?_
    obtain ⟨u151, q151⟩ : ∃ zz_ : UInt64, FP.l2d y135 = zz_ := ⟨_, rfl⟩
    refine gL2d X w at_151 q151 (n := 152) rfl ?_
    have k151 : own_dy u151 (k * ((4 - bq) * 2 ^ ee + bq * d) + t * 2 ^ (ee + 2)) 0 := by rw [← q151]; exact own_dy_l2d f135 (by omega)
    obtain ⟨u152, q152⟩ : ∃ zz_ : UInt64, FP.ddiv u148 u151 = zz_ := ⟨_, rfl⟩
    have nn152 := Jvm.Free.Fl.ddiv_out (own_dy_fin k148).noNaN (own_dy_fin k151) (own_dy_nz k151 pq)
    refine gDdiv X w at_152 nn152 q152 (n := 153) rfl ?_
    have e152 : FP.ddiv N D = u152 := (own_one (by omega) t0 kN kD k148 k151).trans q152
    have k152 : Jvm.Free.Fl.Fin64 u152 := by rw [← q152]; exact own_dy_qfin k148 k151 (by omega) pq (by omega) (by omega) (by omega) (by omega)
    refine gDstore X w at_153 #[.val (.int p0), .val (.int p1), .val (.int p2), .val (.int p3), .val (.int p4), .val (.int p5), .val (.int x3), .val (.int x11), .val (.int x17), .val (.int x24), .val (.int x31), .val (.long y37), .second, .val (.ref ad40), .val (.double u64), .second, .val (.double r84), .second, .val (.long y104), .second, .val (.long y118), .second, .val (.long y135), .second, .val (.double u152), .second] rfl (n := 155) rfl ?_
    refine gDload X w at_155 rfl (n := 157) rfl ?_
    refine gDload X w at_157 rfl (n := 159) rfl ?_
    refine gDload X w at_159 rfl (n := 161) rfl ?_
    obtain ⟨u161, q161⟩ : ∃ zz_ : UInt64, FP.dmul u64 u152 = zz_ := ⟨_, rfl⟩
    have nn161 := Jvm.Free.Fl.dmul_out k64 k152
    refine gDmul X w at_161 nn161 q161 (n := 162) rfl ?_
    obtain ⟨x162, q162⟩ : ∃ zz_ : Int32, cmpValue (FP.dcmp r84 u161) .l = zz_ := ⟨_, rfl⟩
    refine gDcmp X w at_162 q162 (n := 163) rfl ?_
    have z162 : x162 = 0 := own_same nn161 (by rw [← q162, q161, r0, e152, q161])
    refine gIf_ne X w at_163 (n := 170) (n' := 166) (by decide) rfl rfl ?_ ?_
    · rintro ⟨c163, c163'⟩
      exact absurd z162 c163
    · rintro ⟨c163, c163'⟩
      refine gIconst X w at_166 (z := (1 : Int32)) rfl (n := 167) rfl ?_
      refine gGoto X w at_167 (by decide) (n := 171) rfl ?_
      exact gRetZ X w rfl (Or.inr rfl) at_171 (by decide) (by decide) (rfl)
set_option maxRecDepth 65536 in
set_option maxHeartbeats 40000000 in
theorem comes_1 {Post : Tables → Env → Array Value → State → Outcome → State → Prop} (hpost : ∀ tb e args s v u, (limb_1_1.after args s (.returned v) u = true ∧ limb_1_2.after args s (.returned v) u = true ∧ True) → FrameEnd s (.returned v) u (Jvm.fieldLocs frame_1_writes args s ++ Jvm.arrayLocs frame_1_arrays args s ++ Jvm.staticLocs frame_1_statics s) 16 128 → Post tb e args s (.returned v) u) :
    ArmFor flags0 classFile x code maxLocals ret World_1 tables_1 room_1 Calls_1 rest_1 Pre_1 Post := by
  intro l hfl _ _ p e ha hc hk s m args below hf hA hF happ hP
  obtain ⟨hcalls, hrest, hpre⟩ := hP
  obtain ⟨-, -, -, hnamed, -, -, -, hat⟩ := (Spec.applies_iff hf).mp happ
  obtain ⟨hg, hn⟩ := and_e (Cond.before_iff.mp (show (Jvm.Cond.and given_1 narrow_1).before args s = true from hpre))
  obtain ⟨hcnt, g0⟩ := and_e hg
  obtain ⟨w0, w1, w2, w3, w4, w5, rfl⟩ : ∃ w0 w1 w2 w3 w4 w5 : Value, args = #[w0, w1, w2, w3, w4, w5] := by
    have hs : args.size = 6 := by simpa [Cond.value, given_1] using hcnt
    obtain ⟨L⟩ := args
    match L, hs with
    | [w0, w1, w2, w3, w4, w5], _ => exact ⟨w0, w1, w2, w3, w4, w5, rfl⟩
  have hw := fun d (hd : d ∈ tables_1) => atoms_spec (ws := Jvm.Cond.code x code maxLocals ret :: tables_1) hat d (List.mem_cons_of_mem _ hd)
  have hfit : Fit s := fun {y c} hc i hi => by
    obtain ⟨ha, rfl⟩ := Array.getElem?_eq_some_iff.mp hc
    have q := List.all_eq_true.mp ((Array.all_eq_true_iff_forall_mem.mp hF) _ (Array.getElem_mem ha)) i (List.mem_range.mpr hi)
    simpa [Array.getElem?_eq_getElem hi] using q
  obtain ⟨k0, g1⟩ := and_e g0
  obtain ⟨k1, g2⟩ := and_e g1
  obtain ⟨k2, g3⟩ := and_e g2
  obtain ⟨k3, g4⟩ := and_e g3
  obtain ⟨k4, g5⟩ := and_e g4
  obtain ⟨i0, e0⟩ := is_v k0
  obtain rfl : w0 = (.int i0) := Option.some.inj e0
  obtain ⟨i1, e1⟩ := is_v k1
  obtain rfl : w1 = (.int i1) := Option.some.inj e1
  obtain ⟨i2, e2⟩ := is_v k2
  obtain rfl : w2 = (.int i2) := Option.some.inj e2
  obtain ⟨i3, e3⟩ := is_v k3
  obtain rfl : w3 = (.int i3) := Option.some.inj e3
  obtain ⟨i4, e4⟩ := is_v k4
  obtain rfl : w4 = (.int i4) := Option.some.inj e4
  obtain ⟨i5, e5⟩ := is_v g5
  obtain rfl : w5 = (.int i5) := Option.some.inj e5
  obtain ⟨n, o, h1, h2, h3, _, L, rfl, ⟨rfl, N⟩, hq⟩ := own_law l s _ hw i0 i1 i2 i3 i4 i5 s.heap s.heap.size (Nat.le_refl _)  p e ha hc hk s m _ below hf ((Spec.applies_iff_loose hf).mp happ).1 ⟨rfl, State.Warmed39.refl s, rfl⟩ trivial
  refine ⟨n, _, h1, h2, h3, hpost _ _ _ _ _ _ ⟨Cond.after_iff.mpr rfl, Cond.after_iff.mpr (eq_i res_at (Term.int_eval (1)) rfl), trivial⟩ ⟨hq.1, hq.2.1, (hq.2.2.sift fun y hy => Or.inr (N y hy)).mono (by decide) (by decide)⟩⟩
theorem main_1_1 : Claimed_1_1 := comes_1 fun _ _ _ _ _ _ h hF => ⟨h.1, hF⟩
theorem main_1_2 : Claimed_1_2 := comes_1 fun _ _ _ _ _ _ h hF => ⟨h.2.1, hF⟩
end Jvm.Pilot.@@N@@
namespace Jvm.Pilot.@@N@@
open Jvm Jvm.ClassFile Sem Op Lib Jvm.Free Jvm.Stand Jvm.Pilot.@@N@@.Jvm.D
/-! MADE BY PROGRAM (witnessworld.py) out of the Statement's table words and the real class files: 16 classes; the members and pool entries that the words name. The judged class is class 1, her method 1. -/
namespace start1
open Jvm.ClassFile
def u (s : String) : CpInfo := .utf8 (stringToUtf16 s)
/-- a pool by its gaps: so many unusable entries, then the entry; so many at the end -/
def gap : Nat → List CpInfo → List CpInfo
  | 0, r => r
  | n + 1, r => .unusable :: gap n r
def poolList (es : List (Nat × CpInfo)) (last : Nat) : List CpInfo := es.foldr (fun e r => gap e.1 (e.2 :: r)) (gap last [])
def pool (es : List (Nat × CpInfo)) (last : Nat) : Array CpInfo := ⟨poolList es last⟩
def fileOf (pool : Array CpInfo) (this : Nat) (attrs : Array Attribute := #[]) (ms : Array MethodInfo := #[]) (fl : Nat := 33) (sup : Nat := 0) (ifs : Array Nat := #[]) (fds : Array FieldInfo := #[]) : ClassFile where
  minorVersion := 0
  majorVersion := 65
  constantPool := pool
  accessFlags := fl
  thisClass := this
  superClass := sup
  interfaces := ifs
  fields := fds
  methods := ms
  attributes := attrs
def plain (name : String) (sup : Option ClassId) : Class where
  name := name
  kind := .ordinary
  loader := none
  accessFlags := 33
  super := sup
  interfaces := #[]
  cf := none
  fields := #[]
  methods := #[]
  instanceTypes := #[]
  staticTypes := #[]
  resolved := #[]
  callSites := []
  init := .initialized
  statics := none
  mirror := none

def pool0 : Array CpInfo := pool [(5, u "<init>"), (0, u "()V"), (1, .class_ 10), (1, u "java/lang/Object")] 113

def k0c0 : Code := { maxStack := 0, maxLocals := 1, code := object_method_1_code, exceptionTable := #[], attributes := #[] }
def k0m0 : Method := { name := "<init>", desc := "()V", sig := { parameters := [], returnType := none }, accessFlags := 1, code := some k0c0 }
/-- java/lang/Object -/
def k0 : Class := { plain "java/lang/Object" none with
  accessFlags := 33
  interfaces := #[]
  cf := some (fileOf pool0 8 #[] #[{ accessFlags := 1, nameIndex := 5, descriptorIndex := 6, attributes := #[] }] 33 0 #[] #[])
  fields := #[]
  methods := #[k0m0]
  instanceTypes := #[]
  staticTypes := #[]
  resolved := Array.replicate 124 none
  statics := none }

def pool1 : Array CpInfo := pool [(2, .class_ 4), (1, u "java/lang/Object"), (0, u "<init>"), (0, u "()V"), (0, .integer 2147483647), (0, .integer 65535), (0, .integer 1048575), (0, .class_ 11), (0, u "com/example/nanchang/nanchang/search/Bm25"), (0, .double 4616189618054758400), (1, .methodref 10 15), (0, .nameAndType 5 16), (0, u "(DD)V"), (0, .methodref 10 18), (0, .nameAndType 19 20), (0, u "termScore"), (0, u "(DDDD)D"), (0, .class_ 22), (0, u "com/example/nanchang/nanchang/search/Bm25TermScorePinLaw"), (2, u "law"), (0, u "(IIIIII)Z")] 3

def k1m0 : Method := { name := "<init>", desc := "()V", sig := { parameters := [], returnType := none }, accessFlags := 1, code := none }
def k1c1 : Code := { maxStack := 9, maxLocals := 26, code := code, exceptionTable := #[], attributes := #[] }
def k1m1 : Method := { name := "law", desc := "(IIIIII)Z", sig := { parameters := [.int, .int, .int, .int, .int, .int], returnType := some .boolean }, accessFlags := 9, code := some k1c1 }
/-- com/example/nanchang/nanchang/search/Bm25TermScorePinLaw -/
def k1 : Class := { plain "com/example/nanchang/nanchang/search/Bm25TermScorePinLaw" (some 0) with
  accessFlags := 49
  interfaces := #[]
  cf := some (fileOf pool1 21 #[] #[{ accessFlags := 1, nameIndex := 5, descriptorIndex := 6, attributes := #[] }, { accessFlags := 9, nameIndex := 25, descriptorIndex := 26, attributes := #[] }] 49 2 #[] #[])
  fields := #[]
  methods := #[k1m0, k1m1]
  instanceTypes := #[]
  staticTypes := #[]
  resolved := Array.replicate 30 none
  statics := none }

def pool2 : Array CpInfo := pool [(1, .methodref 2 3), (0, .class_ 4), (0, .nameAndType 5 6), (0, u "java/lang/Object"), (0, u "<init>"), (0, u "()V"), (0, .class_ 8), (0, u "java/lang/Record")] 13

def k2c0 : Code := { maxStack := 1, maxLocals := 1, code := jdk_30_method_1_code, exceptionTable := #[], attributes := #[] }
def k2m0 : Method := { name := "<init>", desc := "()V", sig := { parameters := [], returnType := none }, accessFlags := 4, code := some k2c0 }
/-- java/lang/Record -/
def k2 : Class := { plain "java/lang/Record" (some 0) with
  accessFlags := 1057
  interfaces := #[]
  cf := some (fileOf pool2 7 #[] #[{ accessFlags := 4, nameIndex := 5, descriptorIndex := 6, attributes := #[] }] 1057 2 #[] #[])
  fields := #[]
  methods := #[k2m0]
  instanceTypes := #[]
  staticTypes := #[]
  resolved := Array.replicate 22 none
  statics := none }

def pool3 : Array CpInfo := pool [(1, .methodref 2 3), (0, .class_ 4), (0, .nameAndType 5 6), (0, u "java/lang/Record"), (0, u "<init>"), (0, u "()V"), (0, .methodref 8 9), (0, .class_ 10), (0, .nameAndType 11 12), (0, u "java/lang/Double"), (0, u "isFinite"), (0, u "(D)Z"), (10, .fieldref 24 25), (0, .class_ 26), (0, .nameAndType 27 28), (0, u "com/example/nanchang/nanchang/search/Bm25"), (0, u "k1"), (0, u "D"), (0, .fieldref 24 30), (0, .nameAndType 31 28), (0, u "b"), (46, u "(DD)V"), (2, u "DEFAULT"), (0, u "Lcom/example/nanchang/nanchang/search/Bm25;"), (7, u "termScore"), (0, u "(DDDD)D")] 36

def k3c0 : Code := { maxStack := 4, maxLocals := 5, code := prog_50_method_1_code, exceptionTable := #[], attributes := #[] }
def k3m0 : Method := { name := "<init>", desc := "(DD)V", sig := { parameters := [.double, .double], returnType := none }, accessFlags := 1, code := some k3c0 }
def k3c1 : Code := { maxStack := 6, maxLocals := 13, code := prog_50_method_4_code, exceptionTable := #[], attributes := #[] }
def k3m1 : Method := { name := "termScore", desc := "(DDDD)D", sig := { parameters := [.double, .double, .double, .double], returnType := some .double }, accessFlags := 1, code := some k3c1 }
/-- com/example/nanchang/nanchang/search/Bm25 -/
def k3 : Class := { plain "com/example/nanchang/nanchang/search/Bm25" (some 2) with
  accessFlags := 49
  interfaces := #[]
  cf := some (fileOf pool3 24 #[] #[{ accessFlags := 1, nameIndex := 5, descriptorIndex := 78, attributes := #[] }, { accessFlags := 1, nameIndex := 90, descriptorIndex := 91, attributes := #[] }] 49 2 #[] #[{ accessFlags := 18, nameIndex := 27, descriptorIndex := 28, attributes := #[] }, { accessFlags := 18, nameIndex := 31, descriptorIndex := 28, attributes := #[] }, { accessFlags := 25, nameIndex := 81, descriptorIndex := 82, attributes := #[] }])
  fields := #[{ name := "k1", type := .double, accessFlags := 18, slot := 0, constantValue := 0 }, { name := "b", type := .double, accessFlags := 18, slot := 1, constantValue := 0 }, { name := "DEFAULT", type := (.object "com/example/nanchang/nanchang/search/Bm25"), accessFlags := 25, slot := 0, constantValue := 0 }]
  methods := #[k3m0, k3m1]
  instanceTypes := #[.double, .double]
  staticTypes := #[(.object "com/example/nanchang/nanchang/search/Bm25")]
  resolved := Array.replicate 128 none
  statics := none }

def pool4 : Array CpInfo := pool [(1, .class_ 2), (0, u "java/io/Serializable"), (0, .class_ 4), (0, u "java/lang/Object")] 2

/-- java/io/Serializable -/
def k4 : Class := { plain "java/io/Serializable" (some 0) with
  accessFlags := 1537
  interfaces := #[]
  cf := some (fileOf pool4 1 #[] #[] 1537 3 #[] #[])
  fields := #[]
  methods := #[]
  instanceTypes := #[]
  staticTypes := #[]
  resolved := Array.replicate 7 none
  statics := none }

def pool5 : Array CpInfo := pool [(2, .class_ 4), (1, u "java/lang/Object"), (0, u "<init>"), (0, u "()V"), (1, .class_ 10), (1, u "java/lang/Number"), (2, .class_ 14), (0, u "java/io/Serializable"), (0, u "serialVersionUID"), (0, u "J")] 20

def k5m0 : Method := { name := "<init>", desc := "()V", sig := { parameters := [], returnType := none }, accessFlags := 1, code := none }
/-- java/lang/Number -/
def k5 : Class := { plain "java/lang/Number" (some 0) with
  accessFlags := 1057
  interfaces := #[4]
  cf := some (fileOf pool5 8 #[] #[{ accessFlags := 1, nameIndex := 5, descriptorIndex := 6, attributes := #[] }] 1057 2 #[13] #[{ accessFlags := 26, nameIndex := 15, descriptorIndex := 16, attributes := #[] }])
  fields := #[{ name := "serialVersionUID", type := .long, accessFlags := 26, slot := 0, constantValue := 0 }]
  methods := #[k5m0]
  instanceTypes := #[]
  staticTypes := #[.long]
  resolved := Array.replicate 37 none
  statics := none }

def pool6 : Array CpInfo := pool [(1, .class_ 2), (0, u "java/lang/Comparable"), (0, .class_ 4), (0, u "java/lang/Object")] 7

/-- java/lang/Comparable -/
def k6 : Class := { plain "java/lang/Comparable" (some 0) with
  accessFlags := 1537
  interfaces := #[]
  cf := some (fileOf pool6 1 #[] #[] 1537 3 #[] #[])
  fields := #[]
  methods := #[]
  instanceTypes := #[]
  staticTypes := #[]
  resolved := Array.replicate 12 none
  statics := none }

def pool7 : Array CpInfo := pool [(1, .class_ 2), (0, u "java/lang/constant/Constable"), (0, .class_ 4), (0, u "java/lang/Object")] 6

/-- java/lang/constant/Constable -/
def k7 : Class := { plain "java/lang/constant/Constable" (some 0) with
  accessFlags := 1537
  interfaces := #[]
  cf := some (fileOf pool7 1 #[] #[] 1537 3 #[] #[])
  fields := #[]
  methods := #[]
  instanceTypes := #[]
  staticTypes := #[]
  resolved := Array.replicate 11 none
  statics := none }

def pool8 : Array CpInfo := pool [(1, .class_ 2), (0, u "java/lang/constant/ConstantDesc"), (0, .class_ 4), (0, u "java/lang/Object")] 32

/-- java/lang/constant/ConstantDesc -/
def k8 : Class := { plain "java/lang/constant/ConstantDesc" (some 0) with
  accessFlags := 1537
  interfaces := #[]
  cf := some (fileOf pool8 1 #[] #[] 1537 3 #[] #[])
  fields := #[]
  methods := #[]
  instanceTypes := #[]
  staticTypes := #[]
  resolved := Array.replicate 37 none
  statics := none }

def pool9 : Array CpInfo := pool [(1, .class_ 2), (0, u "java/lang/Double"), (10, u "isFinite"), (0, u "(D)Z"), (8, .class_ 25), (1, u "java/lang/Math"), (12, .methodref 23 39), (0, .nameAndType 40 41), (0, u "abs"), (0, u "(D)D"), (69, .double 9218868437227405311), (2, .class_ 116), (1, u "java/lang/Number"), (3, u "value"), (0, u "D"), (51, u "TYPE"), (0, u "Ljava/lang/Class;"), (0, .class_ 176), (0, u "java/lang/Comparable"), (0, .class_ 178), (0, u "java/lang/constant/Constable"), (0, .class_ 180), (0, u "java/lang/constant/ConstantDesc"), (0, u "POSITIVE_INFINITY"), (3, u "NEGATIVE_INFINITY"), (2, u "NaN"), (2, u "MAX_VALUE"), (0, u "MIN_NORMAL"), (0, u "MIN_VALUE"), (2, u "SIZE"), (0, u "I"), (1, u "PRECISION"), (1, u "MAX_EXPONENT"), (1, u "MIN_EXPONENT"), (1, u "BYTES"), (3, u "serialVersionUID"), (0, u "J")] 79

def k9c0 : Code := { maxStack := 4, maxLocals := 2, code := jdk_117_method_8_code, exceptionTable := #[], attributes := #[] }
def k9m0 : Method := { name := "isFinite", desc := "(D)Z", sig := { parameters := [.double], returnType := some .boolean }, accessFlags := 9, code := some k9c0 }
/-- java/lang/Double -/
def k9 : Class := { plain "java/lang/Double" (some 5) with
  accessFlags := 49
  interfaces := #[6, 7, 8]
  cf := some (fileOf pool9 1 #[] #[{ accessFlags := 9, nameIndex := 13, descriptorIndex := 14, attributes := #[] }] 49 114 #[175, 177, 179] #[{ accessFlags := 25, nameIndex := 181, descriptorIndex := 121, attributes := #[] }, { accessFlags := 25, nameIndex := 185, descriptorIndex := 121, attributes := #[] }, { accessFlags := 25, nameIndex := 188, descriptorIndex := 121, attributes := #[] }, { accessFlags := 25, nameIndex := 191, descriptorIndex := 121, attributes := #[] }, { accessFlags := 25, nameIndex := 192, descriptorIndex := 121, attributes := #[] }, { accessFlags := 25, nameIndex := 193, descriptorIndex := 121, attributes := #[] }, { accessFlags := 25, nameIndex := 196, descriptorIndex := 197, attributes := #[] }, { accessFlags := 25, nameIndex := 199, descriptorIndex := 197, attributes := #[] }, { accessFlags := 25, nameIndex := 201, descriptorIndex := 197, attributes := #[] }, { accessFlags := 25, nameIndex := 203, descriptorIndex := 197, attributes := #[] }, { accessFlags := 25, nameIndex := 205, descriptorIndex := 197, attributes := #[] }, { accessFlags := 25, nameIndex := 173, descriptorIndex := 174, attributes := #[] }, { accessFlags := 18, nameIndex := 120, descriptorIndex := 121, attributes := #[] }, { accessFlags := 26, nameIndex := 209, descriptorIndex := 210, attributes := #[] }])
  fields := #[{ name := "POSITIVE_INFINITY", type := .double, accessFlags := 25, slot := 0, constantValue := 0 }, { name := "NEGATIVE_INFINITY", type := .double, accessFlags := 25, slot := 1, constantValue := 0 }, { name := "NaN", type := .double, accessFlags := 25, slot := 2, constantValue := 0 }, { name := "MAX_VALUE", type := .double, accessFlags := 25, slot := 3, constantValue := 0 }, { name := "MIN_NORMAL", type := .double, accessFlags := 25, slot := 4, constantValue := 0 }, { name := "MIN_VALUE", type := .double, accessFlags := 25, slot := 5, constantValue := 0 }, { name := "SIZE", type := .int, accessFlags := 25, slot := 6, constantValue := 0 }, { name := "PRECISION", type := .int, accessFlags := 25, slot := 7, constantValue := 0 }, { name := "MAX_EXPONENT", type := .int, accessFlags := 25, slot := 8, constantValue := 0 }, { name := "MIN_EXPONENT", type := .int, accessFlags := 25, slot := 9, constantValue := 0 }, { name := "BYTES", type := .int, accessFlags := 25, slot := 10, constantValue := 0 }, { name := "TYPE", type := (.object "java/lang/Class"), accessFlags := 25, slot := 11, constantValue := 0 }, { name := "value", type := .double, accessFlags := 18, slot := 0, constantValue := 0 }, { name := "serialVersionUID", type := .long, accessFlags := 26, slot := 12, constantValue := 0 }]
  methods := #[k9m0]
  instanceTypes := #[.double]
  staticTypes := #[.double, .double, .double, .double, .double, .double, .int, .int, .int, .int, .int, (.object "java/lang/Class"), .long]
  resolved := Array.replicate 290 none
  statics := none }

def pool10 : Array CpInfo := pool [(1, .class_ 2), (0, u "java/lang/Math"), (1, .class_ 6), (1, u "java/lang/Object"), (0, u "<init>"), (0, u "()V"), (5, u "(D)D"), (83, .class_ 100), (1, u "java/lang/Math$RandomNumberGeneratorHolder"), (23, u "abs"), (47, u "negativeZeroFloatBits"), (0, u "J"), (2, u "negativeZeroDoubleBits"), (68, u "$assertionsDisabled"), (0, u "Z"), (91, u "twoToTheDoubleScaleDown"), (0, u "D"), (4, u "twoToTheDoubleScaleUp"), (9, u "E"), (3, u "PI"), (2, u "TAU"), (2, u "DEGREES_TO_RADIANS"), (0, u "RADIANS_TO_DEGREES")] 94

def k10m0 : Method := { name := "<init>", desc := "()V", sig := { parameters := [], returnType := none }, accessFlags := 2, code := none }
def k10c1 : Code := { maxStack := 4, maxLocals := 2, code := jdk_29_method_64_code, exceptionTable := #[], attributes := #[] }
def k10m1 : Method := { name := "abs", desc := "(D)D", sig := { parameters := [.double], returnType := some .double }, accessFlags := 9, code := some k10c1 }
/-- java/lang/Math -/
def k10 : Class := { plain "java/lang/Math" (some 0) with
  accessFlags := 49
  interfaces := #[]
  cf := some (fileOf pool10 1 #[.nestMembers #[98]] #[{ accessFlags := 2, nameIndex := 7, descriptorIndex := 8, attributes := #[] }, { accessFlags := 9, nameIndex := 124, descriptorIndex := 14, attributes := #[] }] 49 4 #[] #[{ accessFlags := 25, nameIndex := 354, descriptorIndex := 339, attributes := #[] }, { accessFlags := 25, nameIndex := 358, descriptorIndex := 339, attributes := #[] }, { accessFlags := 25, nameIndex := 361, descriptorIndex := 339, attributes := #[] }, { accessFlags := 26, nameIndex := 364, descriptorIndex := 339, attributes := #[] }, { accessFlags := 26, nameIndex := 365, descriptorIndex := 339, attributes := #[] }, { accessFlags := 26, nameIndex := 172, descriptorIndex := 173, attributes := #[] }, { accessFlags := 26, nameIndex := 176, descriptorIndex := 173, attributes := #[] }, { accessFlags := 8, nameIndex := 344, descriptorIndex := 339, attributes := #[] }, { accessFlags := 8, nameIndex := 338, descriptorIndex := 339, attributes := #[] }, { accessFlags := 4120, nameIndex := 245, descriptorIndex := 246, attributes := #[] }])
  fields := #[{ name := "E", type := .double, accessFlags := 25, slot := 0, constantValue := 0 }, { name := "PI", type := .double, accessFlags := 25, slot := 1, constantValue := 0 }, { name := "TAU", type := .double, accessFlags := 25, slot := 2, constantValue := 0 }, { name := "DEGREES_TO_RADIANS", type := .double, accessFlags := 26, slot := 3, constantValue := 0 }, { name := "RADIANS_TO_DEGREES", type := .double, accessFlags := 26, slot := 4, constantValue := 0 }, { name := "negativeZeroFloatBits", type := .long, accessFlags := 26, slot := 5, constantValue := 0 }, { name := "negativeZeroDoubleBits", type := .long, accessFlags := 26, slot := 6, constantValue := 0 }, { name := "twoToTheDoubleScaleUp", type := .double, accessFlags := 8, slot := 7, constantValue := 0 }, { name := "twoToTheDoubleScaleDown", type := .double, accessFlags := 8, slot := 8, constantValue := 0 }, { name := "$assertionsDisabled", type := .boolean, accessFlags := 4120, slot := 9, constantValue := 0 }]
  methods := #[k10m0, k10m1]
  instanceTypes := #[]
  staticTypes := #[.double, .double, .double, .double, .double, .long, .long, .double, .double, .boolean]
  resolved := Array.replicate 460 none
  statics := none }

def pool11 : Array CpInfo := pool [(1, u "java/lang/Cloneable"), (0, .class_ 1), (0, u "java/lang/Object"), (0, .class_ 3)] 3

/-- java/lang/Cloneable -/
def k11 : Class := { plain "java/lang/Cloneable" (some 0) with
  accessFlags := 1537
  interfaces := #[]
  cf := some (fileOf pool11 2 #[] #[] 1537 4 #[] #[])
  fields := #[]
  methods := #[]
  instanceTypes := #[]
  staticTypes := #[]
  resolved := Array.replicate 8 none
  statics := none }

/-- the primitive byte -/
def k12 : Class := { plain "byte" none with kind := .primitive 'B', accessFlags := 0x411 }
/-- [B -/
def k13 : Class := { plain "[B" (some 0) with kind := .array 12 .byte, interfaces := #[11, 4], accessFlags := 1041 }

/-- the primitive int -/
def k14 : Class := { plain "int" none with kind := .primitive 'I', accessFlags := 0x411 }
/-- [I -/
def k15 : Class := { plain "[I" (some 0) with kind := .array 14 .int, interfaces := #[11, 4], accessFlags := 1041 }

def heap : Heap := #[]
def classes : Array Class := #[k0, k1, k2, k3, k4, k5, k6, k7, k8, k9, k10, k11, k12, k13, k14, k15]
def interned : List (Array UInt16 × Addr) := []
def slotsUsed : Nat := 0
def theMethod : MethodId := ⟨1, 1⟩
def args0 : Array Value := #[.int 5, .int 9, .int 7, .int 11, .int 13, .int 3]
def aboutOver (below : List Frame) : State where
  vm := { classes := classes, interned := interned.toArray }
  heap := heap
  slotsUsed := slotsUsed
  threads := #[{ frames := .invoking theMethod args0 :: below }]
def below0 : List Frame := [.native { method := ⟨0, 0⟩, args := #[] }]
def about1 : State := aboutOver below0
def p0 : Program := .bare "" "" ""
def e0 : Env := launch0.env 0 0 0
theorem w_frames : about1.frames = Frame.invoking theMethod args0 :: below0 := rfl
set_option maxRecDepth 65536 in
theorem w_args : argsFit about1.vm theMethod args0 = true := by decide +kernel
set_option maxRecDepth 65536 in
theorem w_heap : heapFits about1 = true := by decide +kernel
set_option maxRecDepth 65536 in
theorem w_runnable : about1.curStatus? = some .runnable := by decide +kernel
set_option maxRecDepth 65536 in
theorem w_alone : about1.alone = true := by decide +kernel
set_option maxRecDepth 65536 in
theorem w_named : about1.methodNamed? x = some theMethod := by decide +kernel
set_option maxRecDepth 65536 in
theorem w_hears : about1.hears theMethod below0 = true := by decide +kernel
set_option maxRecDepth 65536 in
theorem w_ripe : about1.ripe theMethod args0 below0 = true := by decide +kernel
theorem w_running : about1.status = .running := rfl
set_option maxRecDepth 65536 in
theorem w_room : about1.hasRoom e0.platform room_1 = true :=
  launch0.hasRoom_least _ room_1 (by decide +kernel) (by decide +kernel) (by decide +kernel) (by decide +kernel) (by decide +kernel) (by decide +kernel)
theorem allAtoms_all (ts : List Jvm.Cond) (a : Array Jvm.Value) (st : Jvm.State) : (allAtoms ts).before a st = ts.all (fun c => c.before a st) := by
  induction ts with
  | nil => rfl
  | cons c t ih =>
    show (Jvm.Cond.and c (allAtoms t)).before a st = _
    rw [Jvm.Cond.before_and, ih, List.all_cons]
def words1 : List Jvm.Cond := Jvm.Cond.code x code maxLocals ret :: tables_1
/-- a 'code' word, met by the world's own term for the bytes: nothing is compared byte by byte -/
theorem code_word {y : MethodName} {bytes : ByteArray} {mx : Nat} {rt : Option FieldType} {a : Array Value} {s : State} {m : MethodId} {meth : Method} {c : Code} (h1 : s.methodNamed? y = some m) (h2 : s.vm.method? m = some meth) (h3 : meth.code = some c) (h4 : c.code = bytes)
    (h5 : (c.maxLocals == mx && c.exceptionTable.isEmpty && decide (c.maxStack ≤ mostOperands) && decide (meth.sig.returnType = rt) && !meth.locks && decide (parseMethodDescriptor y.desc = some meth.sig)) = true) : (Jvm.Cond.code y bytes mx rt).before a s = true := by
  simp only [Bool.and_eq_true, beq_iff_eq, Bool.not_eq_true', decide_eq_true_eq] at h5
  obtain ⟨⟨⟨⟨⟨g1, g2⟩, g3⟩, g4⟩, g5⟩, g6⟩ := h5
  simp [Cond.before, Cond.holds, Cond.value, h1, h2, h3, h4, g1, g2, g3, g4, g5, g6]
def isCode : Jvm.Cond → Bool
  | .code _ _ _ _ => true
  | _ => false
theorem all_split {L : List Jvm.Cond} {P : Jvm.Cond → Bool} (h1 : L.all (fun c => isCode c || P c) = true) (h2 : ∀ c ∈ L.filter isCode, P c = true) : L.all P = true := by
  refine List.all_eq_true.mpr fun c hc => ?_
  have h := List.all_eq_true.mp h1 c hc
  rcases Bool.eq_false_or_eq_true (isCode c) with hi | hi
  · exact h2 c (List.mem_filter.mpr ⟨hc, hi⟩)
  · simpa [hi] using h
set_option maxRecDepth 65536 in
theorem w_c0 : (Jvm.Cond.code x code maxLocals ret).before args0 about1 = true := code_word (m := ⟨1, 1⟩) (meth := k1m1) (c := k1c1) (by decide +kernel) rfl rfl rfl (by decide +kernel)
set_option maxRecDepth 65536 in
theorem w_c1 : (Jvm.Cond.code ({ cls := "com/example/nanchang/nanchang/search/Bm25", name := "<init>", desc := "(DD)V" } : Jvm.MethodName) prog_50_method_1_code (5 : Nat) (Option.none : Option Jvm.ClassFile.FieldType)).before args0 about1 = true := code_word (m := ⟨3, 0⟩) (meth := k3m0) (c := k3c0) (by decide +kernel) rfl rfl rfl (by decide +kernel)
set_option maxRecDepth 65536 in
theorem w_c2 : (Jvm.Cond.code ({ cls := "java/lang/Record", name := "<init>", desc := "()V" } : Jvm.MethodName) jdk_30_method_1_code (1 : Nat) (Option.none : Option Jvm.ClassFile.FieldType)).before args0 about1 = true := code_word (m := ⟨2, 0⟩) (meth := k2m0) (c := k2c0) (by decide +kernel) rfl rfl rfl (by decide +kernel)
set_option maxRecDepth 65536 in
theorem w_c3 : (Jvm.Cond.code ({ cls := "java/lang/Object", name := "<init>", desc := "()V" } : Jvm.MethodName) object_method_1_code (1 : Nat) (Option.none : Option Jvm.ClassFile.FieldType)).before args0 about1 = true := code_word (m := ⟨0, 0⟩) (meth := k0m0) (c := k0c0) (by decide +kernel) rfl rfl rfl (by decide +kernel)
set_option maxRecDepth 65536 in
theorem w_c4 : (Jvm.Cond.code ({ cls := "java/lang/Double", name := "isFinite", desc := "(D)Z" } : Jvm.MethodName) jdk_117_method_8_code (2 : Nat) (Option.some Jvm.ClassFile.FieldType.boolean)).before args0 about1 = true := code_word (m := ⟨9, 0⟩) (meth := k9m0) (c := k9c0) (by decide +kernel) rfl rfl rfl (by decide +kernel)
set_option maxRecDepth 65536 in
theorem w_c5 : (Jvm.Cond.code ({ cls := "java/lang/Math", name := "abs", desc := "(D)D" } : Jvm.MethodName) jdk_29_method_64_code (2 : Nat) (Option.some Jvm.ClassFile.FieldType.double)).before args0 about1 = true := code_word (m := ⟨10, 1⟩) (meth := k10m1) (c := k10c1) (by decide +kernel) rfl rfl rfl (by decide +kernel)
set_option maxRecDepth 65536 in
theorem w_c6 : (Jvm.Cond.code ({ cls := "com/example/nanchang/nanchang/search/Bm25", name := "termScore", desc := "(DDDD)D" } : Jvm.MethodName) prog_50_method_4_code (13 : Nat) (Option.some Jvm.ClassFile.FieldType.double)).before args0 about1 = true := code_word (m := ⟨3, 1⟩) (meth := k3m1) (c := k3c1) (by decide +kernel) rfl rfl rfl (by decide +kernel)
def codes1 : List Jvm.Cond := [Jvm.Cond.code x code maxLocals ret, Jvm.Cond.code ({ cls := "com/example/nanchang/nanchang/search/Bm25", name := "<init>", desc := "(DD)V" } : Jvm.MethodName) prog_50_method_1_code (5 : Nat) (Option.none : Option Jvm.ClassFile.FieldType), Jvm.Cond.code ({ cls := "java/lang/Record", name := "<init>", desc := "()V" } : Jvm.MethodName) jdk_30_method_1_code (1 : Nat) (Option.none : Option Jvm.ClassFile.FieldType), Jvm.Cond.code ({ cls := "java/lang/Object", name := "<init>", desc := "()V" } : Jvm.MethodName) object_method_1_code (1 : Nat) (Option.none : Option Jvm.ClassFile.FieldType), Jvm.Cond.code ({ cls := "java/lang/Double", name := "isFinite", desc := "(D)Z" } : Jvm.MethodName) jdk_117_method_8_code (2 : Nat) (Option.some Jvm.ClassFile.FieldType.boolean), Jvm.Cond.code ({ cls := "java/lang/Math", name := "abs", desc := "(D)D" } : Jvm.MethodName) jdk_29_method_64_code (2 : Nat) (Option.some Jvm.ClassFile.FieldType.double), Jvm.Cond.code ({ cls := "com/example/nanchang/nanchang/search/Bm25", name := "termScore", desc := "(DDDD)D" } : Jvm.MethodName) prog_50_method_4_code (13 : Nat) (Option.some Jvm.ClassFile.FieldType.double)]
set_option maxRecDepth 65536 in
theorem codes_eq : words1.filter isCode = codes1 := rfl
theorem w_codes : ∀ c ∈ words1.filter isCode, c.before args0 about1 = true := by
  rw [codes_eq]
  intro c hc
  simp only [codes1, List.mem_cons, List.not_mem_nil, or_false] at hc
  rcases hc with rfl | rfl | rfl | rfl | rfl | rfl | rfl
  · exact w_c0
  · exact w_c1
  · exact w_c2
  · exact w_c3
  · exact w_c4
  · exact w_c5
  · exact w_c6
set_option maxRecDepth 65536 in
theorem w_t1 : (words1.take 24).all (fun c => isCode c || c.before args0 about1) = true := by decide +kernel
set_option maxRecDepth 65536 in
theorem w_t2 : (words1.drop 24).all (fun c => isCode c || c.before args0 about1) = true := by decide +kernel
theorem w_tables : (allAtoms (Jvm.Cond.code x code maxLocals ret :: tables_1)).before args0 about1 = true := by
  rw [allAtoms_all]
  show words1.all (fun c => c.before args0 about1) = true
  refine all_split ?_ w_codes
  rw [← List.take_append_drop 24 words1, List.all_append, w_t1, w_t2]
  rfl
set_option maxRecDepth 65536 in
theorem w_case : (Jvm.Cond.and given_1 narrow_1).before args0 about1 = true := by decide +kernel
theorem w_applies : (headSpec (Jvm.Cond.code x code maxLocals ret :: tables_1) room_1).applies x e0.platform about1 = true :=
  (Spec.applies_iff w_frames).mpr ⟨w_running, w_runnable, w_alone, w_named, w_hears, w_ripe, w_room, w_tables⟩
theorem atStart : AtStart classFile x code maxLocals ret World_1 tables_1 room_1 Calls_1 rest_1 Pre_1 launch0 p0 e0 about1 theMethod args0 below0 :=
  ⟨lists_1, trivial, launch0.admits_env _ _ _, launch0.least_env, fairChoices_fair.cas, fairChoices_fair.clock, w_frames, w_args, w_heap, w_applies, trivial, trivial, w_case⟩
end start1
theorem witness_1 : WitnessClaimed_1 := ⟨start1.p0, start1.e0, start1.about1, start1.theMethod, start1.args0, start1.below0, start1.atStart⟩
end Jvm.Pilot.@@N@@
