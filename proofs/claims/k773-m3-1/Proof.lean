import JvmDerived
import JvmDerived.Pilot.@@N@@Statement
import JvmDerived.Pilot.@@N@@Code
set_option linter.unusedVariables false
set_option linter.unusedSimpArgs false
namespace Jvm.OwnWalk
open Sem ClassFile Op Lib Jvm.Stand Jvm.Free Jvm.LawKit Jvm.RoadKit
/-- where a run stands: the library's Stand, its written places new, its heap -/
def Sd (p : Program) (l : Launch) (e : Env) (R : Room) (s : State) (m : MethodId) (args : Array Value) (below : List Frame) (meth : Method) (c : Code) (n0 : Nat) (T : State) (h : Heap) (cells slots : Nat) : Prop :=
  ∃ locs, Stand p l e R s m args below meth c T locs cells slots ∧ Fr n0 locs ∧ T.heap = h ∧ n0 ≤ s.heap.size
/-- what stays through a walk -/
def Cx (Z : State) (own nm : String) (bytes : ByteArray) (maxL : Nat) (ret : Option FieldType) (p : Program) (s : State) (m : MethodId) (meth : Method) (c : Code) : Prop :=
  p.tables.exec = Jvm.exec ∧ c.code = bytes ∧ Z.Warmed39 s.vm ∧ s.vm.findClass own = some m.cls ∧ meth.name = nm ∧ c.maxLocals = maxL ∧ meth.sig.returnType = ret ∧ meth.locks = false
/-- from A the body returns, and P holds of what it returns and of the heap -/
def Gl (p : Program) (e : Env) (below : List Frame) (s : State) (n0 : Nat) (P : Option Value → Heap → Prop) (C S : Nat) (A : State) : Prop :=
  ∃ t o, Steps p.tables e below A t ∧ t.status = .running ∧ Ended t below o ∧ ∃ v L, o = .returned v ∧ (P v t.heap ∧ Fr n0 L) ∧ FrameEnd s o t L C S
/-- a method's contract -/
def Con (l : Launch) (Z : State) (y : MethodName) (bytes : ByteArray) (maxL : Nat) (ret : Option FieldType) (ws : List Jvm.Cond) (rm : Room) (C S : Nat) (as' : Array Value) (h0 : Heap) (n0 : Nat) (P : Option Value → Heap → Prop) : Prop :=
  MetFree l y (head1 (Jvm.Cond.code y bytes maxL ret :: ws) rm) (fun a U => a = as' ∧ Z.Warmed39 U.vm ∧ U.heap = h0) (fun _ _ _ _ _ => True) (fun _ U o U' => ∃ v L, o = .returned v ∧ (P v U'.heap ∧ Fr n0 L) ∧ FrameEnd U o U' L C S)
theorem Con.met {l : Launch} {Z : State} {y : MethodName} {bytes : ByteArray} {maxL : Nat} {ret : Option FieldType} {ws : List Jvm.Cond} {rm : Room} {C S : Nat} {as' : Array Value} {h0 : Heap} {n0 : Nat} {P : Option Value → Heap → Prop} (h : Con l Z y bytes maxL ret ws rm C S as' h0 n0 P) :
  MetFree l y (head1 (Jvm.Cond.code y bytes maxL ret :: ws) rm) (fun a U => a = as' ∧ Z.Warmed39 U.vm ∧ U.heap = h0) (fun _ _ _ _ _ => True) (fun _ U o U' => ∃ v L, o = .returned v ∧ (P v U'.heap ∧ Fr n0 L) ∧ FrameEnd U o U' L C S) := h
theorem Con.of {l : Launch} {Z : State} {y : MethodName} {bytes : ByteArray} {maxL : Nat} {ret : Option FieldType} {ws : List Jvm.Cond} {rm : Room} {C S : Nat} {as' : Array Value} {h0 : Heap} {n0 : Nat} {P : Option Value → Heap → Prop} (hpl : plainFor y = true) (hn : n0 ≤ h0.size)
    (hb : ∀ p e s m below meth c T, Cx Z y.cls y.name bytes maxL ret p s m meth c → Sd p l e rm s m as' below meth c n0 T h0 0 0 → Gl p e below s n0 P C S (T.setTop (entryFrame m as' maxL))) : Con l Z y bytes maxL ret ws rm C S as' h0 n0 P := by
  refine MetFree.of_bodySF hpl hisR ?_
  intro p e s m args below meth c s₁ Bd hml0 hP hK
  obtain ⟨rfl, hZ, hh⟩ := hP
  have hlk : meth.locks = false := Bd.notSynchronized
  exact hb p e s m below meth c s₁ ⟨Bd.exec, Bd.bytes, hZ, findClass_of_methodNamed Bd.named, (name_of_methodNamed Bd.named Bd.method).1, hml0, Bd.returns, hlk⟩ ⟨[], Stand.of_body Bd, Fr.nil n0, by rw [← hh, Bd.state]; rfl, by rw [hh]; exact hn⟩
/-- the contract of a method that returns a value; of one that returns nothing -/
abbrev ConV (l : Launch) (Z : State) (y : MethodName) (bytes : ByteArray) (maxL : Nat) (ret : Option FieldType) (rm : Room) (as' : Array Value) (h0 : Heap) (n0 : Nat) (Q : Value → Heap → Prop) : Prop := Con l Z y bytes maxL ret [] rm rm.cells rm.slots as' h0 n0 (fun r h => ∃ v, r = some v ∧ Q v h)
abbrev ConN (l : Launch) (Z : State) (y : MethodName) (bytes : ByteArray) (maxL : Nat) (rm : Room) (as' : Array Value) (h0 : Heap) (n0 : Nat) (Q : Heap → Prop) : Prop := Con l Z y bytes maxL none [] rm rm.cells rm.slots as' h0 n0 (fun r h => r = none ∧ Q h)
section Walk
variable {p : Program} {l : Launch} {e : Env} {R : Room} {s : State} {m : MethodId} {args : Array Value} {below : List Frame} {meth : Method} {c : Code} {T A B : State} {h : Heap} {cells slots n0 C S : Nat} {P : Option Value → Heap → Prop}
variable {Z : State} {a0 : Array Value} {own nm : String} {bytes : ByteArray} {maxL : Nat} {ret : Option FieldType}
variable {pc n : Nat} {ls : Array Slot} {st : List Value}
theorem Gl.of (hst : ∀ t, Steps p.tables e below B t → Steps p.tables e below A t) (k : Gl p e below s n0 P C S B) : Gl p e below s n0 P C S A := by
  obtain ⟨t, o, h1, r⟩ := k; exact ⟨t, o, hst t h1, r⟩
theorem Sd.le (X : Sd p l e R s m args below meth c n0 T h cells slots) : n0 ≤ h.size := by
  obtain ⟨_, X, -, eh, hn⟩ := X
  have q : s.heap.size ≤ T.heap.size := X.same.2.1
  rw [← eh]; omega
theorem Gl.enter {as' : Array Value} (ef : entryFrame m as' maxL = mkF m 0 ls []) (k : Gl p e below s n0 P C S (T.setTop (mkF m 0 ls []))) : Gl p e below s n0 P C S (T.setTop (entryFrame m as' maxL)) := by rw [ef]; exact k
theorem gIload (X : Sd p l e R s m args below meth c n0 T h cells slots) (w : Cx Z own nm bytes maxL ret p s m meth c) {k : Nat} {v : Int32} (hd : decode bytes pc = .ok (.iload k, 2)) (hl : ls[k]? = some (.val (.int v))) (hn : pc + 2 = n) (K : Gl p e below s n0 P C S (T.setTop (mkF m n ls (.int v :: st)))) : Gl p e below s n0 P C S (T.setTop (mkF m pc ls st)) := by
  obtain ⟨_, X, -⟩ := X; obtain ⟨hx, hby, hZ, hown, -⟩ := w; subst hn
  exact Gl.of (fun t k => XS.iload X.here hx rfl (hb hby hd) hl k) K
theorem gIloadN (X : Sd p l e R s m args below meth c n0 T h cells slots) (w : Cx Z own nm bytes maxL ret p s m meth c) {k : Fin 4} {v : Int32} (hd : decode bytes pc = .ok (.iload_n k, 1)) (hl : ls[k.val]? = some (.val (.int v))) (hn : pc + 1 = n) (K : Gl p e below s n0 P C S (T.setTop (mkF m n ls (.int v :: st)))) : Gl p e below s n0 P C S (T.setTop (mkF m pc ls st)) := by
  obtain ⟨_, X, -⟩ := X; obtain ⟨hx, hby, hZ, hown, -⟩ := w; subst hn
  exact Gl.of (fun t k => XS.iloadN X.here hx rfl (hb hby hd) hl k) K
theorem gJload (X : Sd p l e R s m args below meth c n0 T h cells slots) (w : Cx Z own nm bytes maxL ret p s m meth c) {k : Nat} {v : Int64} (hd : decode bytes pc = .ok (.lload k, 2)) (hl : ls[k]? = some (.val (.long v))) (hn : pc + 2 = n) (K : Gl p e below s n0 P C S (T.setTop (mkF m n ls (.long v :: st)))) : Gl p e below s n0 P C S (T.setTop (mkF m pc ls st)) := by
  obtain ⟨_, X, -⟩ := X; obtain ⟨hx, hby, hZ, hown, -⟩ := w; subst hn
  exact Gl.of (fun t k => XT.lload X.here hx rfl (hb hby hd) hl k) K
theorem gJloadN (X : Sd p l e R s m args below meth c n0 T h cells slots) (w : Cx Z own nm bytes maxL ret p s m meth c) {k : Fin 4} {v : Int64} (hd : decode bytes pc = .ok (.lload_n k, 1)) (hl : ls[k.val]? = some (.val (.long v))) (hn : pc + 1 = n) (K : Gl p e below s n0 P C S (T.setTop (mkF m n ls (.long v :: st)))) : Gl p e below s n0 P C S (T.setTop (mkF m pc ls st)) := by
  obtain ⟨_, X, -⟩ := X; obtain ⟨hx, hby, hZ, hown, -⟩ := w; subst hn
  exact Gl.of (fun t k => XT.lloadN X.here hx rfl (hb hby hd) hl k) K
theorem gAload (X : Sd p l e R s m args below meth c n0 T h cells slots) (w : Cx Z own nm bytes maxL ret p s m meth c) {k : Nat} {v : Value} (hd : decode bytes pc = .ok (.aload k, 2)) (hl : ls[k]? = some (.val v)) (hv : v.isRef = true) (hn : pc + 2 = n) (K : Gl p e below s n0 P C S (T.setTop (mkF m n ls (v :: st)))) : Gl p e below s n0 P C S (T.setTop (mkF m pc ls st)) := by
  obtain ⟨_, X, -⟩ := X; obtain ⟨hx, hby, hZ, hown, -⟩ := w; subst hn
  exact Gl.of (fun t k => XS.aload X.here hx rfl (hb hby hd) hl hv k) K
theorem gAloadN (X : Sd p l e R s m args below meth c n0 T h cells slots) (w : Cx Z own nm bytes maxL ret p s m meth c) {k : Fin 4} {v : Value} (hd : decode bytes pc = .ok (.aload_n k, 1)) (hl : ls[k.val]? = some (.val v)) (hv : v.isRef = true) (hn : pc + 1 = n) (K : Gl p e below s n0 P C S (T.setTop (mkF m n ls (v :: st)))) : Gl p e below s n0 P C S (T.setTop (mkF m pc ls st)) := by
  obtain ⟨_, X, -⟩ := X; obtain ⟨hx, hby, hZ, hown, -⟩ := w; subst hn
  exact Gl.of (fun t k => XS.aloadN X.here hx rfl (hb hby hd) hl hv k) K
theorem gDload (X : Sd p l e R s m args below meth c n0 T h cells slots) (w : Cx Z own nm bytes maxL ret p s m meth c) {k : Nat} {v : UInt64} (hd : decode bytes pc = .ok (.dload k, 2)) (hl : ls[k]? = some (.val (.double v))) (hn : pc + 2 = n) (K : Gl p e below s n0 P C S (T.setTop (mkF m n ls (.double v :: st)))) : Gl p e below s n0 P C S (T.setTop (mkF m pc ls st)) := by
  obtain ⟨_, X, -⟩ := X; obtain ⟨hx, hby, hZ, hown, -⟩ := w; subst hn
  exact Gl.of (fun t k => XS.dload X.here hx rfl (hb hby hd) hl k) K
theorem gDloadN (X : Sd p l e R s m args below meth c n0 T h cells slots) (w : Cx Z own nm bytes maxL ret p s m meth c) {k : Fin 4} {v : UInt64} (hd : decode bytes pc = .ok (.dload_n k, 1)) (hl : ls[k.val]? = some (.val (.double v))) (hn : pc + 1 = n) (K : Gl p e below s n0 P C S (T.setTop (mkF m n ls (.double v :: st)))) : Gl p e below s n0 P C S (T.setTop (mkF m pc ls st)) := by
  obtain ⟨_, X, -⟩ := X; obtain ⟨hx, hby, hZ, hown, -⟩ := w; subst hn
  exact Gl.of (fun t k => XS.dloadN X.here hx rfl (hb hby hd) hl k) K
theorem gDstore (X : Sd p l e R s m args below meth c n0 T h cells slots) (w : Cx Z own nm bytes maxL ret p s m meth c) {k : Nat} {x : UInt64} (hd : decode bytes pc = .ok (.dstore k, 2)) (l' : Array Slot) (hl : storeLocals ls k (.double x) = some l') (hn : pc + 2 = n) (K : Gl p e below s n0 P C S (T.setTop (mkF m n l' st))) : Gl p e below s n0 P C S (T.setTop (mkF m pc ls (.double x :: st))) := by
  obtain ⟨_, X, -⟩ := X; obtain ⟨hx, hby, hZ, hown, -⟩ := w; subst hn
  exact Gl.of (fun t k => XS.dstore X.here hx rfl (hb hby hd) rfl hl k) K
theorem gDstoreN (X : Sd p l e R s m args below meth c n0 T h cells slots) (w : Cx Z own nm bytes maxL ret p s m meth c) {k : Fin 4} {x : UInt64} (hd : decode bytes pc = .ok (.dstore_n k, 1)) (l' : Array Slot) (hl : storeLocals ls k.val (.double x) = some l') (hn : pc + 1 = n) (K : Gl p e below s n0 P C S (T.setTop (mkF m n l' st))) : Gl p e below s n0 P C S (T.setTop (mkF m pc ls (.double x :: st))) := by
  obtain ⟨_, X, -⟩ := X; obtain ⟨hx, hby, hZ, hown, -⟩ := w; subst hn
  exact Gl.of (fun t k => XS.dstoreN X.here hx rfl (hb hby hd) rfl hl k) K
theorem gI2d (X : Sd p l e R s m args below meth c n0 T h cells slots) (w : Cx Z own nm bytes maxL ret p s m meth c) {x : Int32} {z : UInt64} (hd : decode bytes pc = .ok (.i2d, 1)) (hz : FP.i2d x = z) (hn : pc + 1 = n) (K : Gl p e below s n0 P C S (T.setTop (mkF m n ls (.double z :: st)))) : Gl p e below s n0 P C S (T.setTop (mkF m pc ls (.int x :: st))) := by
  obtain ⟨_, X, -⟩ := X; obtain ⟨hx, hby, hZ, hown, -⟩ := w; subst hn
  exact Gl.of (fun t k => XS.i2dS X.here hx rfl (hb hby hd) rfl hz k) K
theorem gL2d (X : Sd p l e R s m args below meth c n0 T h cells slots) (w : Cx Z own nm bytes maxL ret p s m meth c) {x : Int64} {z : UInt64} (hd : decode bytes pc = .ok (.l2d, 1)) (hz : FP.l2d x = z) (hn : pc + 1 = n) (K : Gl p e below s n0 P C S (T.setTop (mkF m n ls (.double z :: st)))) : Gl p e below s n0 P C S (T.setTop (mkF m pc ls (.long x :: st))) := by
  obtain ⟨_, X, -⟩ := X; obtain ⟨hx, hby, hZ, hown, -⟩ := w; subst hn
  exact Gl.of (fun t k => XS.l2dS X.here hx rfl (hb hby hd) rfl hz k) K
theorem gDneg (X : Sd p l e R s m args below meth c n0 T h cells slots) (w : Cx Z own nm bytes maxL ret p s m meth c) {x z : UInt64} (hd : decode bytes pc = .ok (.dneg, 1)) (hz : FP.dneg x = z) (hn : pc + 1 = n) (K : Gl p e below s n0 P C S (T.setTop (mkF m n ls (.double z :: st)))) : Gl p e below s n0 P C S (T.setTop (mkF m pc ls (.double x :: st))) := by
  obtain ⟨_, X, -⟩ := X; obtain ⟨hx, hby, hZ, hown, -⟩ := w; subst hn
  exact Gl.of (fun t k => XS.dnegS X.here hx rfl (hb hby hd) rfl hz k) K
theorem gDcmp (X : Sd p l e R s m args below meth c n0 T h cells slots) (w : Cx Z own nm bytes maxL ret p s m meth c) {x y : UInt64} {o : CmpOp} {z : Int32} (hd : decode bytes pc = .ok (.dcmp o, 1)) (hz : cmpValue (FP.dcmp x y) o = z) (hn : pc + 1 = n) (K : Gl p e below s n0 P C S (T.setTop (mkF m n ls (.int z :: st)))) : Gl p e below s n0 P C S (T.setTop (mkF m pc ls (.double y :: .double x :: st))) := by
  obtain ⟨_, X, -⟩ := X; obtain ⟨hx, hby, hZ, hown, -⟩ := w; subst hn
  exact Gl.of (fun t k => XS.dcmpS X.here hx rfl (hb hby hd) rfl hz k) K
theorem gDadd (X : Sd p l e R s m args below meth c n0 T h cells slots) (w : Cx Z own nm bytes maxL ret p s m meth c) {x y z : UInt64} (hd : decode bytes pc = .ok (.dadd, 1)) (hnn : Jvm.Free.Fl.NoNaN64 (FP.dadd x y)) (hz : FP.dadd x y = z) (hn : pc + 1 = n) (K : Gl p e below s n0 P C S (T.setTop (mkF m n ls (.double z :: st)))) : Gl p e below s n0 P C S (T.setTop (mkF m pc ls (.double y :: .double x :: st))) := by
  obtain ⟨_, X, -⟩ := X; obtain ⟨hx, hby, hZ, hown, -⟩ := w; subst hn
  exact Gl.of (fun t k => XS.daddS X.here hx rfl (hb hby hd) rfl hnn hz k) K
theorem gDsub (X : Sd p l e R s m args below meth c n0 T h cells slots) (w : Cx Z own nm bytes maxL ret p s m meth c) {x y z : UInt64} (hd : decode bytes pc = .ok (.dsub, 1)) (hnn : Jvm.Free.Fl.NoNaN64 (FP.dsub x y)) (hz : FP.dsub x y = z) (hn : pc + 1 = n) (K : Gl p e below s n0 P C S (T.setTop (mkF m n ls (.double z :: st)))) : Gl p e below s n0 P C S (T.setTop (mkF m pc ls (.double y :: .double x :: st))) := by
  obtain ⟨_, X, -⟩ := X; obtain ⟨hx, hby, hZ, hown, -⟩ := w; subst hn
  exact Gl.of (fun t k => XS.dsubS X.here hx rfl (hb hby hd) rfl hnn hz k) K
theorem gDmul (X : Sd p l e R s m args below meth c n0 T h cells slots) (w : Cx Z own nm bytes maxL ret p s m meth c) {x y z : UInt64} (hd : decode bytes pc = .ok (.dmul, 1)) (hnn : Jvm.Free.Fl.NoNaN64 (FP.dmul x y)) (hz : FP.dmul x y = z) (hn : pc + 1 = n) (K : Gl p e below s n0 P C S (T.setTop (mkF m n ls (.double z :: st)))) : Gl p e below s n0 P C S (T.setTop (mkF m pc ls (.double y :: .double x :: st))) := by
  obtain ⟨_, X, -⟩ := X; obtain ⟨hx, hby, hZ, hown, -⟩ := w; subst hn
  exact Gl.of (fun t k => XS.dmulS X.here hx rfl (hb hby hd) rfl hnn hz k) K
theorem gDdiv (X : Sd p l e R s m args below meth c n0 T h cells slots) (w : Cx Z own nm bytes maxL ret p s m meth c) {x y z : UInt64} (hd : decode bytes pc = .ok (.ddiv, 1)) (hnn : Jvm.Free.Fl.NoNaN64 (FP.ddiv x y)) (hz : FP.ddiv x y = z) (hn : pc + 1 = n) (K : Gl p e below s n0 P C S (T.setTop (mkF m n ls (.double z :: st)))) : Gl p e below s n0 P C S (T.setTop (mkF m pc ls (.double y :: .double x :: st))) := by
  obtain ⟨_, X, -⟩ := X; obtain ⟨hx, hby, hZ, hown, -⟩ := w; subst hn
  exact Gl.of (fun t k => XS.ddivS X.here hx rfl (hb hby hd) rfl hnn hz k) K
theorem gDconst0 (X : Sd p l e R s m args below meth c n0 T h cells slots) (w : Cx Z own nm bytes maxL ret p s m meth c) {z : UInt64} (hd : decode bytes pc = .ok (.dconst 0, 1)) (hz : FP.dconst0 = z) (hn : pc + 1 = n) (K : Gl p e below s n0 P C S (T.setTop (mkF m n ls (.double z :: st)))) : Gl p e below s n0 P C S (T.setTop (mkF m pc ls st)) := by
  obtain ⟨_, X, -⟩ := X; obtain ⟨hx, hby, hZ, hown, -⟩ := w; subst hn
  exact Gl.of (fun t k => XS.dconst0 X.here hx rfl (hb hby hd) hz k) K
theorem gDconst1 (X : Sd p l e R s m args below meth c n0 T h cells slots) (w : Cx Z own nm bytes maxL ret p s m meth c) {z : UInt64} (hd : decode bytes pc = .ok (.dconst 1, 1)) (hz : FP.dconst1 = z) (hn : pc + 1 = n) (K : Gl p e below s n0 P C S (T.setTop (mkF m n ls (.double z :: st)))) : Gl p e below s n0 P C S (T.setTop (mkF m pc ls st)) := by
  obtain ⟨_, X, -⟩ := X; obtain ⟨hx, hby, hZ, hown, -⟩ := w; subst hn
  exact Gl.of (fun t k => XS.dconst1 X.here hx rfl (hb hby hd) hz k) K
theorem gLdc2D (X : Sd p l e R s m args below meth c n0 T h cells slots) (w : Cx Z own nm bytes maxL ret p s m meth c) {i : Nat} {z : UInt64} (wc : (Jvm.Cond.constantDouble own i z).before a0 Z = true) (hd : decode bytes pc = .ok (.ldc2_w i, 3)) (hn : pc + 3 = n) (K : Gl p e below s n0 P C S (T.setTop (mkF m n ls (.double z :: st)))) : Gl p e below s n0 P C S (T.setTop (mkF m pc ls st)) := by
  obtain ⟨_, X, -⟩ := X; obtain ⟨hx, hby, hZ, hown, -⟩ := w; subst hn
  exact Gl.of (fun t k => X.ldc2DoubleC hx hown (mvT hZ wc (by simp [Cond.onTables, Cond.keepsFace, Cond.keeps, Cond.steady])) (g := mkF m pc ls st) rfl (hb hby hd) t k) K
theorem gIconst (X : Sd p l e R s m args below meth c n0 T h cells slots) (w : Cx Z own nm bytes maxL ret p s m meth c) {i : Int} {z : Int32} (hd : decode bytes pc = .ok (.iconst i, 1)) (hz : Int32.ofInt i = z) (hn : pc + 1 = n) (K : Gl p e below s n0 P C S (T.setTop (mkF m n ls (.int z :: st)))) : Gl p e below s n0 P C S (T.setTop (mkF m pc ls st)) := by
  obtain ⟨_, X, -⟩ := X; obtain ⟨hx, hby, hZ, hown, -⟩ := w; subst hn hz
  exact Gl.of (fun t k => XS.iconst X.here hx rfl (hb hby hd) k) K
theorem gBipush (X : Sd p l e R s m args below meth c n0 T h cells slots) (w : Cx Z own nm bytes maxL ret p s m meth c) {i : Int} {z : Int32} (hd : decode bytes pc = .ok (.bipush i, 2)) (hz : (Int8.ofInt i).toInt32 = z) (hn : pc + 2 = n) (K : Gl p e below s n0 P C S (T.setTop (mkF m n ls (.int z :: st)))) : Gl p e below s n0 P C S (T.setTop (mkF m pc ls st)) := by
  obtain ⟨_, X, -⟩ := X; obtain ⟨hx, hby, hZ, hown, -⟩ := w; subst hn hz
  exact Gl.of (fun t k => XS.bipush X.here hx rfl (hb hby hd) k) K
theorem gSipush (X : Sd p l e R s m args below meth c n0 T h cells slots) (w : Cx Z own nm bytes maxL ret p s m meth c) {i : Int} {z : Int32} (hd : decode bytes pc = .ok (.sipush i, 3)) (hz : (Int16.ofInt i).toInt32 = z) (hn : pc + 3 = n) (K : Gl p e below s n0 P C S (T.setTop (mkF m n ls (.int z :: st)))) : Gl p e below s n0 P C S (T.setTop (mkF m pc ls st)) := by
  obtain ⟨_, X, -⟩ := X; obtain ⟨hx, hby, hZ, hown, -⟩ := w; subst hn hz
  exact Gl.of (fun t k => XS.sipush X.here hx rfl (hb hby hd) k) K
theorem gLconst (X : Sd p l e R s m args below meth c n0 T h cells slots) (w : Cx Z own nm bytes maxL ret p s m meth c) {i : Fin 2} {z : Int64} (hd : decode bytes pc = .ok (.lconst i, 1)) (hz : Int64.ofNat i = z) (hn : pc + 1 = n) (K : Gl p e below s n0 P C S (T.setTop (mkF m n ls (.long z :: st)))) : Gl p e below s n0 P C S (T.setTop (mkF m pc ls st)) := by
  obtain ⟨_, X, -⟩ := X; obtain ⟨hx, hby, hZ, hown, -⟩ := w; subst hn hz
  exact Gl.of (fun t k => XT.lconst X.here hx rfl (hb hby hd) k) K
theorem gNull (X : Sd p l e R s m args below meth c n0 T h cells slots) (w : Cx Z own nm bytes maxL ret p s m meth c)  (hd : decode bytes pc = .ok (.aconst_null, 1)) (hn : pc + 1 = n) (K : Gl p e below s n0 P C S (T.setTop (mkF m n ls (.null :: st)))) : Gl p e below s n0 P C S (T.setTop (mkF m pc ls st)) := by
  obtain ⟨_, X, -⟩ := X; obtain ⟨hx, hby, hZ, hown, -⟩ := w; subst hn
  exact Gl.of (fun t k => XS.aconstNull X.here hx rfl (hb hby hd) k) K
theorem gLdc (X : Sd p l e R s m args below meth c n0 T h cells slots) (w : Cx Z own nm bytes maxL ret p s m meth c) {i : Nat} {z : Int32} (wc : (Jvm.Cond.constant own i z).before a0 Z = true) (hd : decode bytes pc = .ok (.ldc i, 2)) (hn : pc + 2 = n) (K : Gl p e below s n0 P C S (T.setTop (mkF m n ls (.int z :: st)))) : Gl p e below s n0 P C S (T.setTop (mkF m pc ls st)) := by
  obtain ⟨_, X, -⟩ := X; obtain ⟨hx, hby, hZ, hown, -⟩ := w; subst hn
  exact Gl.of (fun t k => X.ldcI hx hown (mvT hZ wc) rfl (hb hby hd) k) K
theorem gLdc2 (X : Sd p l e R s m args below meth c n0 T h cells slots) (w : Cx Z own nm bytes maxL ret p s m meth c) {i : Nat} {z : Int64} (wc : (Jvm.Cond.constantLong own i z).before a0 Z = true) (hd : decode bytes pc = .ok (.ldc2_w i, 3)) (hn : pc + 3 = n) (K : Gl p e below s n0 P C S (T.setTop (mkF m n ls (.long z :: st)))) : Gl p e below s n0 P C S (T.setTop (mkF m pc ls st)) := by
  obtain ⟨_, X, -⟩ := X; obtain ⟨hx, hby, hZ, hown, -⟩ := w; subst hn
  exact Gl.of (fun t k => X.ldc2J hx hown (mvT hZ wc) rfl (hb hby hd) k) K
theorem gIadd (X : Sd p l e R s m args below meth c n0 T h cells slots) (w : Cx Z own nm bytes maxL ret p s m meth c) {x y z : Int32} (hd : decode bytes pc = .ok (.iadd, 1)) (hz : x + y = z) (hn : pc + 1 = n) (K : Gl p e below s n0 P C S (T.setTop (mkF m n ls (.int z :: st)))) : Gl p e below s n0 P C S (T.setTop (mkF m pc ls (.int y :: .int x :: st))) := by
  obtain ⟨_, X, -⟩ := X; obtain ⟨hx, hby, hZ, hown, -⟩ := w; subst hn hz
  exact Gl.of (fun t k => XS.iadd X.here hx rfl (hb hby hd) rfl k) K
theorem gIsub (X : Sd p l e R s m args below meth c n0 T h cells slots) (w : Cx Z own nm bytes maxL ret p s m meth c) {x y z : Int32} (hd : decode bytes pc = .ok (.isub, 1)) (hz : x - y = z) (hn : pc + 1 = n) (K : Gl p e below s n0 P C S (T.setTop (mkF m n ls (.int z :: st)))) : Gl p e below s n0 P C S (T.setTop (mkF m pc ls (.int y :: .int x :: st))) := by
  obtain ⟨_, X, -⟩ := X; obtain ⟨hx, hby, hZ, hown, -⟩ := w; subst hn hz
  exact Gl.of (fun t k => XS.isub X.here hx rfl (hb hby hd) rfl k) K
theorem gImul (X : Sd p l e R s m args below meth c n0 T h cells slots) (w : Cx Z own nm bytes maxL ret p s m meth c) {x y z : Int32} (hd : decode bytes pc = .ok (.imul, 1)) (hz : x * y = z) (hn : pc + 1 = n) (K : Gl p e below s n0 P C S (T.setTop (mkF m n ls (.int z :: st)))) : Gl p e below s n0 P C S (T.setTop (mkF m pc ls (.int y :: .int x :: st))) := by
  obtain ⟨_, X, -⟩ := X; obtain ⟨hx, hby, hZ, hown, -⟩ := w; subst hn hz
  exact Gl.of (fun t k => XS.imul X.here hx rfl (hb hby hd) rfl k) K
theorem gIand (X : Sd p l e R s m args below meth c n0 T h cells slots) (w : Cx Z own nm bytes maxL ret p s m meth c) {x y z : Int32} (hd : decode bytes pc = .ok (.iand, 1)) (hz : x &&& y = z) (hn : pc + 1 = n) (K : Gl p e below s n0 P C S (T.setTop (mkF m n ls (.int z :: st)))) : Gl p e below s n0 P C S (T.setTop (mkF m pc ls (.int y :: .int x :: st))) := by
  obtain ⟨_, X, -⟩ := X; obtain ⟨hx, hby, hZ, hown, -⟩ := w; subst hn hz
  exact Gl.of (fun t k => XS.iand X.here hx rfl (hb hby hd) rfl k) K
theorem gIor (X : Sd p l e R s m args below meth c n0 T h cells slots) (w : Cx Z own nm bytes maxL ret p s m meth c) {x y z : Int32} (hd : decode bytes pc = .ok (.ior, 1)) (hz : x ||| y = z) (hn : pc + 1 = n) (K : Gl p e below s n0 P C S (T.setTop (mkF m n ls (.int z :: st)))) : Gl p e below s n0 P C S (T.setTop (mkF m pc ls (.int y :: .int x :: st))) := by
  obtain ⟨_, X, -⟩ := X; obtain ⟨hx, hby, hZ, hown, -⟩ := w; subst hn hz
  exact Gl.of (fun t k => XT.ior X.here hx rfl (hb hby hd) rfl k) K
theorem gIxor (X : Sd p l e R s m args below meth c n0 T h cells slots) (w : Cx Z own nm bytes maxL ret p s m meth c) {x y z : Int32} (hd : decode bytes pc = .ok (.ixor, 1)) (hz : x ^^^ y = z) (hn : pc + 1 = n) (K : Gl p e below s n0 P C S (T.setTop (mkF m n ls (.int z :: st)))) : Gl p e below s n0 P C S (T.setTop (mkF m pc ls (.int y :: .int x :: st))) := by
  obtain ⟨_, X, -⟩ := X; obtain ⟨hx, hby, hZ, hown, -⟩ := w; subst hn hz
  exact Gl.of (fun t k => XT.ixor X.here hx rfl (hb hby hd) rfl k) K
theorem gIshl (X : Sd p l e R s m args below meth c n0 T h cells slots) (w : Cx Z own nm bytes maxL ret p s m meth c) {x y z : Int32} (hd : decode bytes pc = .ok (.ishl, 1)) (hz : x <<< (y &&& 31) = z) (hn : pc + 1 = n) (K : Gl p e below s n0 P C S (T.setTop (mkF m n ls (.int z :: st)))) : Gl p e below s n0 P C S (T.setTop (mkF m pc ls (.int y :: .int x :: st))) := by
  obtain ⟨_, X, -⟩ := X; obtain ⟨hx, hby, hZ, hown, -⟩ := w; subst hn hz
  exact Gl.of (fun t k => XT.ishl X.here hx rfl (hb hby hd) rfl k) K
theorem gIshr (X : Sd p l e R s m args below meth c n0 T h cells slots) (w : Cx Z own nm bytes maxL ret p s m meth c) {x y z : Int32} (hd : decode bytes pc = .ok (.ishr, 1)) (hz : x >>> (y &&& 31) = z) (hn : pc + 1 = n) (K : Gl p e below s n0 P C S (T.setTop (mkF m n ls (.int z :: st)))) : Gl p e below s n0 P C S (T.setTop (mkF m pc ls (.int y :: .int x :: st))) := by
  obtain ⟨_, X, -⟩ := X; obtain ⟨hx, hby, hZ, hown, -⟩ := w; subst hn hz
  exact Gl.of (fun t k => XT.ishr X.here hx rfl (hb hby hd) rfl k) K
theorem gIushr (X : Sd p l e R s m args below meth c n0 T h cells slots) (w : Cx Z own nm bytes maxL ret p s m meth c) {x y z : Int32} (hd : decode bytes pc = .ok (.iushr, 1)) (hz : XT.ushr x y = z) (hn : pc + 1 = n) (K : Gl p e below s n0 P C S (T.setTop (mkF m n ls (.int z :: st)))) : Gl p e below s n0 P C S (T.setTop (mkF m pc ls (.int y :: .int x :: st))) := by
  obtain ⟨_, X, -⟩ := X; obtain ⟨hx, hby, hZ, hown, -⟩ := w; subst hn hz
  exact Gl.of (fun t k => XT.iushr X.here hx rfl (hb hby hd) rfl k) K
theorem gIdiv (X : Sd p l e R s m args below meth c n0 T h cells slots) (w : Cx Z own nm bytes maxL ret p s m meth c) {x y z : Int32} (hd : decode bytes pc = .ok (.idiv, 1)) (hy : y ≠ 0) (hz : x / y = z) (hn : pc + 1 = n) (K : Gl p e below s n0 P C S (T.setTop (mkF m n ls (.int z :: st)))) : Gl p e below s n0 P C S (T.setTop (mkF m pc ls (.int y :: .int x :: st))) := by
  obtain ⟨_, X, -⟩ := X; obtain ⟨hx, hby, hZ, hown, -⟩ := w; subst hn hz
  exact Gl.of (fun t k => XS.idiv X.here hx rfl (hb hby hd) rfl hy k) K
theorem gIrem (X : Sd p l e R s m args below meth c n0 T h cells slots) (w : Cx Z own nm bytes maxL ret p s m meth c) {x y z : Int32} (hd : decode bytes pc = .ok (.irem, 1)) (hy : y ≠ 0) (hz : x % y = z) (hn : pc + 1 = n) (K : Gl p e below s n0 P C S (T.setTop (mkF m n ls (.int z :: st)))) : Gl p e below s n0 P C S (T.setTop (mkF m pc ls (.int y :: .int x :: st))) := by
  obtain ⟨_, X, -⟩ := X; obtain ⟨hx, hby, hZ, hown, -⟩ := w; subst hn hz
  exact Gl.of (fun t k => iremM X hx rfl (hb hby hd) rfl hy k) K
theorem gIneg (X : Sd p l e R s m args below meth c n0 T h cells slots) (w : Cx Z own nm bytes maxL ret p s m meth c) {x z : Int32} (hd : decode bytes pc = .ok (.ineg, 1)) (hz : -x = z) (hn : pc + 1 = n) (K : Gl p e below s n0 P C S (T.setTop (mkF m n ls (.int z :: st)))) : Gl p e below s n0 P C S (T.setTop (mkF m pc ls (.int x :: st))) := by
  obtain ⟨_, X, -⟩ := X; obtain ⟨hx, hby, hZ, hown, -⟩ := w; subst hn hz
  exact Gl.of (fun t k => XS.ineg X.here hx rfl (hb hby hd) rfl k) K
theorem gLadd (X : Sd p l e R s m args below meth c n0 T h cells slots) (w : Cx Z own nm bytes maxL ret p s m meth c) {x y z : Int64} (hd : decode bytes pc = .ok (.ladd, 1)) (hz : x + y = z) (hn : pc + 1 = n) (K : Gl p e below s n0 P C S (T.setTop (mkF m n ls (.long z :: st)))) : Gl p e below s n0 P C S (T.setTop (mkF m pc ls (.long y :: .long x :: st))) := by
  obtain ⟨_, X, -⟩ := X; obtain ⟨hx, hby, hZ, hown, -⟩ := w; subst hn hz
  exact Gl.of (fun t k => XT.ladd X.here hx rfl (hb hby hd) rfl k) K
theorem gLsub (X : Sd p l e R s m args below meth c n0 T h cells slots) (w : Cx Z own nm bytes maxL ret p s m meth c) {x y z : Int64} (hd : decode bytes pc = .ok (.lsub, 1)) (hz : x - y = z) (hn : pc + 1 = n) (K : Gl p e below s n0 P C S (T.setTop (mkF m n ls (.long z :: st)))) : Gl p e below s n0 P C S (T.setTop (mkF m pc ls (.long y :: .long x :: st))) := by
  obtain ⟨_, X, -⟩ := X; obtain ⟨hx, hby, hZ, hown, -⟩ := w; subst hn hz
  exact Gl.of (fun t k => XT.lsub X.here hx rfl (hb hby hd) rfl k) K
theorem gLmul (X : Sd p l e R s m args below meth c n0 T h cells slots) (w : Cx Z own nm bytes maxL ret p s m meth c) {x y z : Int64} (hd : decode bytes pc = .ok (.lmul, 1)) (hz : x * y = z) (hn : pc + 1 = n) (K : Gl p e below s n0 P C S (T.setTop (mkF m n ls (.long z :: st)))) : Gl p e below s n0 P C S (T.setTop (mkF m pc ls (.long y :: .long x :: st))) := by
  obtain ⟨_, X, -⟩ := X; obtain ⟨hx, hby, hZ, hown, -⟩ := w; subst hn hz
  exact Gl.of (fun t k => XT.lmul X.here hx rfl (hb hby hd) rfl k) K
theorem gLand (X : Sd p l e R s m args below meth c n0 T h cells slots) (w : Cx Z own nm bytes maxL ret p s m meth c) {x y z : Int64} (hd : decode bytes pc = .ok (.land, 1)) (hz : x &&& y = z) (hn : pc + 1 = n) (K : Gl p e below s n0 P C S (T.setTop (mkF m n ls (.long z :: st)))) : Gl p e below s n0 P C S (T.setTop (mkF m pc ls (.long y :: .long x :: st))) := by
  obtain ⟨_, X, -⟩ := X; obtain ⟨hx, hby, hZ, hown, -⟩ := w; subst hn hz
  exact Gl.of (fun t k => XT.land X.here hx rfl (hb hby hd) rfl k) K
theorem gLor (X : Sd p l e R s m args below meth c n0 T h cells slots) (w : Cx Z own nm bytes maxL ret p s m meth c) {x y z : Int64} (hd : decode bytes pc = .ok (.lor, 1)) (hz : x ||| y = z) (hn : pc + 1 = n) (K : Gl p e below s n0 P C S (T.setTop (mkF m n ls (.long z :: st)))) : Gl p e below s n0 P C S (T.setTop (mkF m pc ls (.long y :: .long x :: st))) := by
  obtain ⟨_, X, -⟩ := X; obtain ⟨hx, hby, hZ, hown, -⟩ := w; subst hn hz
  exact Gl.of (fun t k => XT.lor X.here hx rfl (hb hby hd) rfl k) K
theorem gLxor (X : Sd p l e R s m args below meth c n0 T h cells slots) (w : Cx Z own nm bytes maxL ret p s m meth c) {x y z : Int64} (hd : decode bytes pc = .ok (.lxor, 1)) (hz : x ^^^ y = z) (hn : pc + 1 = n) (K : Gl p e below s n0 P C S (T.setTop (mkF m n ls (.long z :: st)))) : Gl p e below s n0 P C S (T.setTop (mkF m pc ls (.long y :: .long x :: st))) := by
  obtain ⟨_, X, -⟩ := X; obtain ⟨hx, hby, hZ, hown, -⟩ := w; subst hn hz
  exact Gl.of (fun t k => XT.lxor X.here hx rfl (hb hby hd) rfl k) K
theorem gLshl (X : Sd p l e R s m args below meth c n0 T h cells slots) (w : Cx Z own nm bytes maxL ret p s m meth c) {x z : Int64} {y : Int32} (hd : decode bytes pc = .ok (.lshl, 1)) (hz : x <<< (y.toInt64 &&& 63) = z) (hn : pc + 1 = n) (K : Gl p e below s n0 P C S (T.setTop (mkF m n ls (.long z :: st)))) : Gl p e below s n0 P C S (T.setTop (mkF m pc ls (.int y :: .long x :: st))) := by
  obtain ⟨_, X, -⟩ := X; obtain ⟨hx, hby, hZ, hown, -⟩ := w; subst hn hz
  exact Gl.of (fun t k => XT.lshl X.here hx rfl (hb hby hd) rfl k) K
theorem gLshr (X : Sd p l e R s m args below meth c n0 T h cells slots) (w : Cx Z own nm bytes maxL ret p s m meth c) {x z : Int64} {y : Int32} (hd : decode bytes pc = .ok (.lshr, 1)) (hz : x >>> (y.toInt64 &&& 63) = z) (hn : pc + 1 = n) (K : Gl p e below s n0 P C S (T.setTop (mkF m n ls (.long z :: st)))) : Gl p e below s n0 P C S (T.setTop (mkF m pc ls (.int y :: .long x :: st))) := by
  obtain ⟨_, X, -⟩ := X; obtain ⟨hx, hby, hZ, hown, -⟩ := w; subst hn hz
  exact Gl.of (fun t k => XT.lshr X.here hx rfl (hb hby hd) rfl k) K
theorem gLushr (X : Sd p l e R s m args below meth c n0 T h cells slots) (w : Cx Z own nm bytes maxL ret p s m meth c) {x z : Int64} {y : Int32} (hd : decode bytes pc = .ok (.lushr, 1)) (hz : XT.ushrL x y = z) (hn : pc + 1 = n) (K : Gl p e below s n0 P C S (T.setTop (mkF m n ls (.long z :: st)))) : Gl p e below s n0 P C S (T.setTop (mkF m pc ls (.int y :: .long x :: st))) := by
  obtain ⟨_, X, -⟩ := X; obtain ⟨hx, hby, hZ, hown, -⟩ := w; subst hn hz
  exact Gl.of (fun t k => XT.lushr X.here hx rfl (hb hby hd) rfl k) K
theorem gLneg (X : Sd p l e R s m args below meth c n0 T h cells slots) (w : Cx Z own nm bytes maxL ret p s m meth c) {x z : Int64} (hd : decode bytes pc = .ok (.lneg, 1)) (hz : -x = z) (hn : pc + 1 = n) (K : Gl p e below s n0 P C S (T.setTop (mkF m n ls (.long z :: st)))) : Gl p e below s n0 P C S (T.setTop (mkF m pc ls (.long x :: st))) := by
  obtain ⟨_, X, -⟩ := X; obtain ⟨hx, hby, hZ, hown, -⟩ := w; subst hn hz
  exact Gl.of (fun t k => XT.lneg X.here hx rfl (hb hby hd) rfl k) K
theorem gLdiv (X : Sd p l e R s m args below meth c n0 T h cells slots) (w : Cx Z own nm bytes maxL ret p s m meth c) {x y z : Int64} (hd : decode bytes pc = .ok (.ldiv, 1)) (hy : y ≠ 0) (hz : x / y = z) (hn : pc + 1 = n) (K : Gl p e below s n0 P C S (T.setTop (mkF m n ls (.long z :: st)))) : Gl p e below s n0 P C S (T.setTop (mkF m pc ls (.long y :: .long x :: st))) := by
  obtain ⟨_, X, -⟩ := X; obtain ⟨hx, hby, hZ, hown, -⟩ := w; subst hn hz
  exact Gl.of (fun t k => XT.ldiv X.here hx rfl (hb hby hd) rfl hy k) K
theorem gLrem (X : Sd p l e R s m args below meth c n0 T h cells slots) (w : Cx Z own nm bytes maxL ret p s m meth c) {x y z : Int64} (hd : decode bytes pc = .ok (.lrem, 1)) (hy : y ≠ 0) (hz : x % y = z) (hn : pc + 1 = n) (K : Gl p e below s n0 P C S (T.setTop (mkF m n ls (.long z :: st)))) : Gl p e below s n0 P C S (T.setTop (mkF m pc ls (.long y :: .long x :: st))) := by
  obtain ⟨_, X, -⟩ := X; obtain ⟨hx, hby, hZ, hown, -⟩ := w; subst hn; rw [← lrem_mod] at hz; subst hz
  exact Gl.of (fun t k => XT.lrem X.here hx rfl (hb hby hd) rfl hy k) K
theorem gLcmp (X : Sd p l e R s m args below meth c n0 T h cells slots) (w : Cx Z own nm bytes maxL ret p s m meth c) {x y : Int64} {z : Int32} (hd : decode bytes pc = .ok (.lcmp, 1)) (hz : XT.cmpL x y = z) (hn : pc + 1 = n) (K : Gl p e below s n0 P C S (T.setTop (mkF m n ls (.int z :: st)))) : Gl p e below s n0 P C S (T.setTop (mkF m pc ls (.long y :: .long x :: st))) := by
  obtain ⟨_, X, -⟩ := X; obtain ⟨hx, hby, hZ, hown, -⟩ := w; subst hn hz
  exact Gl.of (fun t k => XT.lcmp X.here hx rfl (hb hby hd) rfl k) K
theorem gI2l (X : Sd p l e R s m args below meth c n0 T h cells slots) (w : Cx Z own nm bytes maxL ret p s m meth c) {x : Int32} {z : Int64} (hd : decode bytes pc = .ok (.i2l, 1)) (hz : x.toInt64 = z) (hn : pc + 1 = n) (K : Gl p e below s n0 P C S (T.setTop (mkF m n ls (.long z :: st)))) : Gl p e below s n0 P C S (T.setTop (mkF m pc ls (.int x :: st))) := by
  obtain ⟨_, X, -⟩ := X; obtain ⟨hx, hby, hZ, hown, -⟩ := w; subst hn hz
  exact Gl.of (fun t k => XT.i2l X.here hx rfl (hb hby hd) rfl k) K
theorem gL2i (X : Sd p l e R s m args below meth c n0 T h cells slots) (w : Cx Z own nm bytes maxL ret p s m meth c) {x : Int64} {z : Int32} (hd : decode bytes pc = .ok (.l2i, 1)) (hz : x.toInt32 = z) (hn : pc + 1 = n) (K : Gl p e below s n0 P C S (T.setTop (mkF m n ls (.int z :: st)))) : Gl p e below s n0 P C S (T.setTop (mkF m pc ls (.long x :: st))) := by
  obtain ⟨_, X, -⟩ := X; obtain ⟨hx, hby, hZ, hown, -⟩ := w; subst hn hz
  exact Gl.of (fun t k => XT.l2i X.here hx rfl (hb hby hd) rfl k) K
theorem gI2b (X : Sd p l e R s m args below meth c n0 T h cells slots) (w : Cx Z own nm bytes maxL ret p s m meth c) {x : Int32} {z : Int32} (hd : decode bytes pc = .ok (.i2b, 1)) (hz : x.toInt8.toInt32 = z) (hn : pc + 1 = n) (K : Gl p e below s n0 P C S (T.setTop (mkF m n ls (.int z :: st)))) : Gl p e below s n0 P C S (T.setTop (mkF m pc ls (.int x :: st))) := by
  obtain ⟨_, X, -⟩ := X; obtain ⟨hx, hby, hZ, hown, -⟩ := w; subst hn hz
  exact Gl.of (fun t k => XT.i2b X.here hx rfl (hb hby hd) rfl k) K
theorem gI2c (X : Sd p l e R s m args below meth c n0 T h cells slots) (w : Cx Z own nm bytes maxL ret p s m meth c) {x : Int32} {z : Int32} (hd : decode bytes pc = .ok (.i2c, 1)) (hz : x.toUInt32.toUInt16.toUInt32.toInt32 = z) (hn : pc + 1 = n) (K : Gl p e below s n0 P C S (T.setTop (mkF m n ls (.int z :: st)))) : Gl p e below s n0 P C S (T.setTop (mkF m pc ls (.int x :: st))) := by
  obtain ⟨_, X, -⟩ := X; obtain ⟨hx, hby, hZ, hown, -⟩ := w; subst hn hz
  exact Gl.of (fun t k => XT.i2c X.here hx rfl (hb hby hd) rfl k) K
theorem gI2s (X : Sd p l e R s m args below meth c n0 T h cells slots) (w : Cx Z own nm bytes maxL ret p s m meth c) {x : Int32} {z : Int32} (hd : decode bytes pc = .ok (.i2s, 1)) (hz : x.toInt16.toInt32 = z) (hn : pc + 1 = n) (K : Gl p e below s n0 P C S (T.setTop (mkF m n ls (.int z :: st)))) : Gl p e below s n0 P C S (T.setTop (mkF m pc ls (.int x :: st))) := by
  obtain ⟨_, X, -⟩ := X; obtain ⟨hx, hby, hZ, hown, -⟩ := w; subst hn hz
  exact Gl.of (fun t k => XT.i2s X.here hx rfl (hb hby hd) rfl k) K
theorem gIstore (X : Sd p l e R s m args below meth c n0 T h cells slots) (w : Cx Z own nm bytes maxL ret p s m meth c) {k : Nat} {x : Int32} (hd : decode bytes pc = .ok (.istore k, 2)) (l' : Array Slot) (hl : storeLocals ls k (.int x) = some l') (hn : pc + 2 = n) (K : Gl p e below s n0 P C S (T.setTop (mkF m n l' st))) : Gl p e below s n0 P C S (T.setTop (mkF m pc ls (.int x :: st))) := by
  obtain ⟨_, X, -⟩ := X; obtain ⟨hx, hby, hZ, hown, -⟩ := w; subst hn
  exact Gl.of (fun t k => XS.istore X.here hx rfl (hb hby hd) rfl hl k) K
theorem gIstoreN (X : Sd p l e R s m args below meth c n0 T h cells slots) (w : Cx Z own nm bytes maxL ret p s m meth c) {k : Fin 4} {x : Int32} (hd : decode bytes pc = .ok (.istore_n k, 1)) (l' : Array Slot) (hl : storeLocals ls k.val (.int x) = some l') (hn : pc + 1 = n) (K : Gl p e below s n0 P C S (T.setTop (mkF m n l' st))) : Gl p e below s n0 P C S (T.setTop (mkF m pc ls (.int x :: st))) := by
  obtain ⟨_, X, -⟩ := X; obtain ⟨hx, hby, hZ, hown, -⟩ := w; subst hn
  exact Gl.of (fun t k => XS.istoreN X.here hx rfl (hb hby hd) rfl hl k) K
theorem gJstore (X : Sd p l e R s m args below meth c n0 T h cells slots) (w : Cx Z own nm bytes maxL ret p s m meth c) {k : Nat} {x : Int64} (hd : decode bytes pc = .ok (.lstore k, 2)) (l' : Array Slot) (hl : storeLocals ls k (.long x) = some l') (hn : pc + 2 = n) (K : Gl p e below s n0 P C S (T.setTop (mkF m n l' st))) : Gl p e below s n0 P C S (T.setTop (mkF m pc ls (.long x :: st))) := by
  obtain ⟨_, X, -⟩ := X; obtain ⟨hx, hby, hZ, hown, -⟩ := w; subst hn
  exact Gl.of (fun t k => XT.lstore X.here hx rfl (hb hby hd) rfl hl k) K
theorem gJstoreN (X : Sd p l e R s m args below meth c n0 T h cells slots) (w : Cx Z own nm bytes maxL ret p s m meth c) {k : Fin 4} {x : Int64} (hd : decode bytes pc = .ok (.lstore_n k, 1)) (l' : Array Slot) (hl : storeLocals ls k.val (.long x) = some l') (hn : pc + 1 = n) (K : Gl p e below s n0 P C S (T.setTop (mkF m n l' st))) : Gl p e below s n0 P C S (T.setTop (mkF m pc ls (.long x :: st))) := by
  obtain ⟨_, X, -⟩ := X; obtain ⟨hx, hby, hZ, hown, -⟩ := w; subst hn
  exact Gl.of (fun t k => XT.lstoreN X.here hx rfl (hb hby hd) rfl hl k) K
theorem gAstore (X : Sd p l e R s m args below meth c n0 T h cells slots) (w : Cx Z own nm bytes maxL ret p s m meth c) {k : Nat} {x : Value} (hd : decode bytes pc = .ok (.astore k, 2)) (hv : x.isRef = true) (l' : Array Slot) (hl : storeLocals ls k x = some l') (hn : pc + 2 = n) (K : Gl p e below s n0 P C S (T.setTop (mkF m n l' st))) : Gl p e below s n0 P C S (T.setTop (mkF m pc ls (x :: st))) := by
  obtain ⟨_, X, -⟩ := X; obtain ⟨hx, hby, hZ, hown, -⟩ := w; subst hn
  exact Gl.of (fun t k => XS.astore X.here hx rfl (hb hby hd) rfl hv hl k) K
theorem gAstoreN (X : Sd p l e R s m args below meth c n0 T h cells slots) (w : Cx Z own nm bytes maxL ret p s m meth c) {k : Fin 4} {x : Value} (hd : decode bytes pc = .ok (.astore_n k, 1)) (hv : x.isRef = true) (l' : Array Slot) (hl : storeLocals ls k.val x = some l') (hn : pc + 1 = n) (K : Gl p e below s n0 P C S (T.setTop (mkF m n l' st))) : Gl p e below s n0 P C S (T.setTop (mkF m pc ls (x :: st))) := by
  obtain ⟨_, X, -⟩ := X; obtain ⟨hx, hby, hZ, hown, -⟩ := w; subst hn
  exact Gl.of (fun t k => XS.astoreN X.here hx rfl (hb hby hd) rfl hv hl k) K
theorem gIinc (X : Sd p l e R s m args below meth c n0 T h cells slots) (w : Cx Z own nm bytes maxL ret p s m meth c) {k : Nat} {i : Int} {x z : Int32} (hd : decode bytes pc = .ok (.iinc k i, 3)) (hl0 : ls[k]? = some (.val (.int x))) (hz : x + Int32.ofInt i = z) (l' : Array Slot) (hl : storeLocals ls k (.int z) = some l') (hn : pc + 3 = n) (K : Gl p e below s n0 P C S (T.setTop (mkF m n l' st))) : Gl p e below s n0 P C S (T.setTop (mkF m pc ls st)) := by
  obtain ⟨_, X, -⟩ := X; obtain ⟨hx, hby, hZ, hown, -⟩ := w; subst hn hz
  exact Gl.of (fun t k => XS.iinc X.here hx rfl (hb hby hd) hl0 hl k) K
theorem gDup (X : Sd p l e R s m args below meth c n0 T h cells slots) (w : Cx Z own nm bytes maxL ret p s m meth c) {x : Value} (hd : decode bytes pc = .ok (.dup, 1)) (hc : x.category = 1) (hn : pc + 1 = n) (K : Gl p e below s n0 P C S (T.setTop (mkF m n ls (x :: x :: st)))) : Gl p e below s n0 P C S (T.setTop (mkF m pc ls (x :: st))) := by
  obtain ⟨_, X, -⟩ := X; obtain ⟨hx, hby, hZ, hown, -⟩ := w; subst hn
  exact Gl.of (fun t k => XS.dup X.here hx rfl (hb hby hd) rfl hc k) K
theorem gPop (X : Sd p l e R s m args below meth c n0 T h cells slots) (w : Cx Z own nm bytes maxL ret p s m meth c) {x : Value} (hd : decode bytes pc = .ok (.pop, 1)) (hc : x.category = 1) (hn : pc + 1 = n) (K : Gl p e below s n0 P C S (T.setTop (mkF m n ls st))) : Gl p e below s n0 P C S (T.setTop (mkF m pc ls (x :: st))) := by
  obtain ⟨_, X, -⟩ := X; obtain ⟨hx, hby, hZ, hown, -⟩ := w; subst hn
  exact Gl.of (fun t k => XT.pop X.here hx rfl (hb hby hd) rfl hc k) K
theorem gDupX1 (X : Sd p l e R s m args below meth c n0 T h cells slots) (w : Cx Z own nm bytes maxL ret p s m meth c) {x y : Value} (hd : decode bytes pc = .ok (.dup_x1, 1)) (hc : x.category = 1) (hc' : y.category = 1) (hn : pc + 1 = n) (K : Gl p e below s n0 P C S (T.setTop (mkF m n ls (x :: y :: x :: st)))) : Gl p e below s n0 P C S (T.setTop (mkF m pc ls (x :: y :: st))) := by
  obtain ⟨_, X, -⟩ := X; obtain ⟨hx, hby, hZ, hown, -⟩ := w; subst hn
  exact Gl.of (fun t k => XT.dupX1 X.here hx rfl (hb hby hd) rfl hc hc' k) K
theorem gDup2 (X : Sd p l e R s m args below meth c n0 T h cells slots) (w : Cx Z own nm bytes maxL ret p s m meth c) {x y : Value} (hd : decode bytes pc = .ok (.dup2, 1)) (hc : x.category = 1) (hc' : y.category = 1) (hn : pc + 1 = n) (K : Gl p e below s n0 P C S (T.setTop (mkF m n ls (x :: y :: x :: y :: st)))) : Gl p e below s n0 P C S (T.setTop (mkF m pc ls (x :: y :: st))) := by
  obtain ⟨_, X, -⟩ := X; obtain ⟨hx, hby, hZ, hown, -⟩ := w; subst hn
  exact Gl.of (fun t k => XT.dup2 X.here hx rfl (hb hby hd) rfl hc hc' k) K
theorem gDup2L (X : Sd p l e R s m args below meth c n0 T h cells slots) (w : Cx Z own nm bytes maxL ret p s m meth c) {x : Int64} (hd : decode bytes pc = .ok (.dup2, 1)) (hn : pc + 1 = n) (K : Gl p e below s n0 P C S (T.setTop (mkF m n ls (.long x :: .long x :: st)))) : Gl p e below s n0 P C S (T.setTop (mkF m pc ls (.long x :: st))) := by
  obtain ⟨_, X, -⟩ := X; obtain ⟨hx, hby, hZ, hown, -⟩ := w; subst hn
  exact Gl.of (fun t k => XT.dup2L X.here hx rfl (hb hby hd) rfl k) K
theorem gGoto (X : Sd p l e R s m args below meth c n0 T h cells slots) (w : Cx Z own nm bytes maxL ret p s m meth c) {o : Int} (hd : decode bytes pc = .ok (.goto o, 3)) (ho : 0 ≤ (pc : Int) + o) (hp : ((pc : Int) + o).toNat = n) (K : Gl p e below s n0 P C S (T.setTop (mkF m n ls st))) : Gl p e below s n0 P C S (T.setTop (mkF m pc ls st)) := by
  obtain ⟨_, X, -⟩ := X; obtain ⟨hx, hby, hZ, hown, -⟩ := w; 
  exact Gl.of (fun t k => XS.goto X.here hx rfl rfl (hb hby hd) ho hp k) K
theorem gIf_eq (X : Sd p l e R s m args below meth c n0 T h cells slots) (w : Cx Z own nm bytes maxL ret p s m meth c) {x : Int32} {o : Int} (hd : decode bytes pc = .ok (.ifCond .eq o, 3)) (ho : 0 ≤ (pc : Int) + o) {n' : Nat} (hp : ((pc : Int) + o).toNat = n) (hn : pc + 3 = n') (K1 : x = (0 : Int32) ∧ x.toInt = 0 → Gl p e below s n0 P C S (T.setTop (mkF m n ls st))) (K2 : ¬ x = (0 : Int32) ∧ ¬ x.toInt = 0 → Gl p e below s n0 P C S (T.setTop (mkF m n' ls st))) : Gl p e below s n0 P C S (T.setTop (mkF m pc ls (.int x :: st))) := by
  obtain ⟨_, X, -⟩ := X; obtain ⟨hx, hby, -⟩ := w; subst hn
  by_cases q : x = (0 : Int32)
  · exact Gl.of (fun t k => XS.ifYes X.here hx rfl rfl (hb hby hd) rfl (XT.i0_eq_t q) ho hp k) (K1 ⟨q, by rw [q]; rfl⟩)
  · exact Gl.of (fun t k => XS.ifNo X.here hx rfl (hb hby hd) rfl (XT.i0_eq_f q) k) (K2 ⟨q, fun q' => q (Int32.toInt_inj.mp q')⟩)
theorem gIcmp_eq (X : Sd p l e R s m args below meth c n0 T h cells slots) (w : Cx Z own nm bytes maxL ret p s m meth c) {x y : Int32} {o : Int} (hd : decode bytes pc = .ok (.if_icmp .eq o, 3)) (ho : 0 ≤ (pc : Int) + o) {n' : Nat} (hp : ((pc : Int) + o).toNat = n) (hn : pc + 3 = n') (K1 : x = y ∧ x.toInt = y.toInt → Gl p e below s n0 P C S (T.setTop (mkF m n ls st))) (K2 : ¬ x = y ∧ ¬ x.toInt = y.toInt → Gl p e below s n0 P C S (T.setTop (mkF m n' ls st))) : Gl p e below s n0 P C S (T.setTop (mkF m pc ls (.int y :: .int x :: st))) := by
  obtain ⟨_, X, -⟩ := X; obtain ⟨hx, hby, -⟩ := w; subst hn
  by_cases q : x = y
  · exact Gl.of (fun t k => XS.icmpYes X.here hx rfl rfl (hb hby hd) rfl (XT.ii_eq_t q) ho hp k) (K1 ⟨q, by rw [q]⟩)
  · exact Gl.of (fun t k => XS.icmpNo X.here hx rfl (hb hby hd) rfl (XT.ii_eq_f q) k) (K2 ⟨q, fun q' => q (Int32.toInt_inj.mp q')⟩)
theorem gIfL_eq (X : Sd p l e R s m args below meth c n0 T h cells slots) (w : Cx Z own nm bytes maxL ret p s m meth c) {x y : Int64} {o : Int} (hd : decode bytes pc = .ok (.ifCond .eq o, 3)) (ho : 0 ≤ (pc : Int) + o) {n' : Nat} (hp : ((pc : Int) + o).toNat = n) (hn : pc + 3 = n') (K1 : x = y ∧ x.toInt = y.toInt → Gl p e below s n0 P C S (T.setTop (mkF m n ls st))) (K2 : ¬ x = y ∧ ¬ x.toInt = y.toInt → Gl p e below s n0 P C S (T.setTop (mkF m n' ls st))) : Gl p e below s n0 P C S (T.setTop (mkF m pc ls (.int (XT.cmpL x y) :: st))) := by
  obtain ⟨_, X, -⟩ := X; obtain ⟨hx, hby, -⟩ := w; subst hn
  by_cases q : x = y
  · exact Gl.of (fun t k => XS.ifYes X.here hx rfl rfl (hb hby hd) rfl (XT.ll_eq_t q) ho hp k) (K1 ⟨q, by rw [q]⟩)
  · exact Gl.of (fun t k => XS.ifNo X.here hx rfl (hb hby hd) rfl (XT.ll_eq_f q) k) (K2 ⟨q, fun q' => q (Int64.toInt_inj.mp q')⟩)
theorem gIf_ne (X : Sd p l e R s m args below meth c n0 T h cells slots) (w : Cx Z own nm bytes maxL ret p s m meth c) {x : Int32} {o : Int} (hd : decode bytes pc = .ok (.ifCond .ne o, 3)) (ho : 0 ≤ (pc : Int) + o) {n' : Nat} (hp : ((pc : Int) + o).toNat = n) (hn : pc + 3 = n') (K1 : ¬ x = (0 : Int32) ∧ ¬ x.toInt = 0 → Gl p e below s n0 P C S (T.setTop (mkF m n ls st))) (K2 : x = (0 : Int32) ∧ x.toInt = 0 → Gl p e below s n0 P C S (T.setTop (mkF m n' ls st))) : Gl p e below s n0 P C S (T.setTop (mkF m pc ls (.int x :: st))) := by
  obtain ⟨_, X, -⟩ := X; obtain ⟨hx, hby, -⟩ := w; subst hn
  by_cases q : x = (0 : Int32)
  · exact Gl.of (fun t k => XS.ifNo X.here hx rfl (hb hby hd) rfl (XT.i0_ne_f q) k) (K2 ⟨q, by rw [q]; rfl⟩)
  · exact Gl.of (fun t k => XS.ifYes X.here hx rfl rfl (hb hby hd) rfl (XT.i0_ne_t q) ho hp k) (K1 ⟨q, fun q' => q (Int32.toInt_inj.mp q')⟩)
theorem gIcmp_ne (X : Sd p l e R s m args below meth c n0 T h cells slots) (w : Cx Z own nm bytes maxL ret p s m meth c) {x y : Int32} {o : Int} (hd : decode bytes pc = .ok (.if_icmp .ne o, 3)) (ho : 0 ≤ (pc : Int) + o) {n' : Nat} (hp : ((pc : Int) + o).toNat = n) (hn : pc + 3 = n') (K1 : ¬ x = y ∧ ¬ x.toInt = y.toInt → Gl p e below s n0 P C S (T.setTop (mkF m n ls st))) (K2 : x = y ∧ x.toInt = y.toInt → Gl p e below s n0 P C S (T.setTop (mkF m n' ls st))) : Gl p e below s n0 P C S (T.setTop (mkF m pc ls (.int y :: .int x :: st))) := by
  obtain ⟨_, X, -⟩ := X; obtain ⟨hx, hby, -⟩ := w; subst hn
  by_cases q : x = y
  · exact Gl.of (fun t k => XS.icmpNo X.here hx rfl (hb hby hd) rfl (XT.ii_ne_f q) k) (K2 ⟨q, by rw [q]⟩)
  · exact Gl.of (fun t k => XS.icmpYes X.here hx rfl rfl (hb hby hd) rfl (XT.ii_ne_t q) ho hp k) (K1 ⟨q, fun q' => q (Int32.toInt_inj.mp q')⟩)
theorem gIfL_ne (X : Sd p l e R s m args below meth c n0 T h cells slots) (w : Cx Z own nm bytes maxL ret p s m meth c) {x y : Int64} {o : Int} (hd : decode bytes pc = .ok (.ifCond .ne o, 3)) (ho : 0 ≤ (pc : Int) + o) {n' : Nat} (hp : ((pc : Int) + o).toNat = n) (hn : pc + 3 = n') (K1 : ¬ x = y ∧ ¬ x.toInt = y.toInt → Gl p e below s n0 P C S (T.setTop (mkF m n ls st))) (K2 : x = y ∧ x.toInt = y.toInt → Gl p e below s n0 P C S (T.setTop (mkF m n' ls st))) : Gl p e below s n0 P C S (T.setTop (mkF m pc ls (.int (XT.cmpL x y) :: st))) := by
  obtain ⟨_, X, -⟩ := X; obtain ⟨hx, hby, -⟩ := w; subst hn
  by_cases q : x = y
  · exact Gl.of (fun t k => XS.ifNo X.here hx rfl (hb hby hd) rfl (XT.ll_ne_f q) k) (K2 ⟨q, by rw [q]⟩)
  · exact Gl.of (fun t k => XS.ifYes X.here hx rfl rfl (hb hby hd) rfl (XT.ll_ne_t q) ho hp k) (K1 ⟨q, fun q' => q (Int64.toInt_inj.mp q')⟩)
theorem gIf_lt (X : Sd p l e R s m args below meth c n0 T h cells slots) (w : Cx Z own nm bytes maxL ret p s m meth c) {x : Int32} {o : Int} (hd : decode bytes pc = .ok (.ifCond .lt o, 3)) (ho : 0 ≤ (pc : Int) + o) {n' : Nat} (hp : ((pc : Int) + o).toNat = n) (hn : pc + 3 = n') (K1 : x.toInt < 0 → Gl p e below s n0 P C S (T.setTop (mkF m n ls st))) (K2 : 0 ≤ x.toInt → Gl p e below s n0 P C S (T.setTop (mkF m n' ls st))) : Gl p e below s n0 P C S (T.setTop (mkF m pc ls (.int x :: st))) := by
  obtain ⟨_, X, -⟩ := X; obtain ⟨hx, hby, -⟩ := w; subst hn
  by_cases q : x < (0 : Int32)
  · exact Gl.of (fun t k => XS.ifYes X.here hx rfl rfl (hb hby hd) rfl (XT.i0_lt_t q) ho hp k) (K1 (Int32.lt_iff_toInt_lt.mp q))
  · exact Gl.of (fun t k => XS.ifNo X.here hx rfl (hb hby hd) rfl (XT.i0_lt_f q) k) (K2 (Int.not_lt.mp fun q' => q (Int32.lt_iff_toInt_lt.mpr q')))
theorem gIcmp_lt (X : Sd p l e R s m args below meth c n0 T h cells slots) (w : Cx Z own nm bytes maxL ret p s m meth c) {x y : Int32} {o : Int} (hd : decode bytes pc = .ok (.if_icmp .lt o, 3)) (ho : 0 ≤ (pc : Int) + o) {n' : Nat} (hp : ((pc : Int) + o).toNat = n) (hn : pc + 3 = n') (K1 : x.toInt < y.toInt → Gl p e below s n0 P C S (T.setTop (mkF m n ls st))) (K2 : y.toInt ≤ x.toInt → Gl p e below s n0 P C S (T.setTop (mkF m n' ls st))) : Gl p e below s n0 P C S (T.setTop (mkF m pc ls (.int y :: .int x :: st))) := by
  obtain ⟨_, X, -⟩ := X; obtain ⟨hx, hby, -⟩ := w; subst hn
  by_cases q : x < y
  · exact Gl.of (fun t k => XS.icmpYes X.here hx rfl rfl (hb hby hd) rfl (XT.ii_lt_t q) ho hp k) (K1 (Int32.lt_iff_toInt_lt.mp q))
  · exact Gl.of (fun t k => XS.icmpNo X.here hx rfl (hb hby hd) rfl (XT.ii_lt_f q) k) (K2 (Int.not_lt.mp fun q' => q (Int32.lt_iff_toInt_lt.mpr q')))
theorem gIfL_lt (X : Sd p l e R s m args below meth c n0 T h cells slots) (w : Cx Z own nm bytes maxL ret p s m meth c) {x y : Int64} {o : Int} (hd : decode bytes pc = .ok (.ifCond .lt o, 3)) (ho : 0 ≤ (pc : Int) + o) {n' : Nat} (hp : ((pc : Int) + o).toNat = n) (hn : pc + 3 = n') (K1 : x.toInt < y.toInt → Gl p e below s n0 P C S (T.setTop (mkF m n ls st))) (K2 : y.toInt ≤ x.toInt → Gl p e below s n0 P C S (T.setTop (mkF m n' ls st))) : Gl p e below s n0 P C S (T.setTop (mkF m pc ls (.int (XT.cmpL x y) :: st))) := by
  obtain ⟨_, X, -⟩ := X; obtain ⟨hx, hby, -⟩ := w; subst hn
  by_cases q : x < y
  · exact Gl.of (fun t k => XS.ifYes X.here hx rfl rfl (hb hby hd) rfl (XT.ll_lt_t q) ho hp k) (K1 (Int64.lt_iff_toInt_lt.mp q))
  · exact Gl.of (fun t k => XS.ifNo X.here hx rfl (hb hby hd) rfl (XT.ll_lt_f q) k) (K2 (Int.not_lt.mp fun q' => q (Int64.lt_iff_toInt_lt.mpr q')))
theorem gIf_ge (X : Sd p l e R s m args below meth c n0 T h cells slots) (w : Cx Z own nm bytes maxL ret p s m meth c) {x : Int32} {o : Int} (hd : decode bytes pc = .ok (.ifCond .ge o, 3)) (ho : 0 ≤ (pc : Int) + o) {n' : Nat} (hp : ((pc : Int) + o).toNat = n) (hn : pc + 3 = n') (K1 : 0 ≤ x.toInt → Gl p e below s n0 P C S (T.setTop (mkF m n ls st))) (K2 : x.toInt < 0 → Gl p e below s n0 P C S (T.setTop (mkF m n' ls st))) : Gl p e below s n0 P C S (T.setTop (mkF m pc ls (.int x :: st))) := by
  obtain ⟨_, X, -⟩ := X; obtain ⟨hx, hby, -⟩ := w; subst hn
  by_cases q : x < (0 : Int32)
  · exact Gl.of (fun t k => XS.ifNo X.here hx rfl (hb hby hd) rfl (XT.i0_ge_f q) k) (K2 (Int32.lt_iff_toInt_lt.mp q))
  · exact Gl.of (fun t k => XS.ifYes X.here hx rfl rfl (hb hby hd) rfl (XT.i0_ge_t q) ho hp k) (K1 (Int.not_lt.mp fun q' => q (Int32.lt_iff_toInt_lt.mpr q')))
theorem gIcmp_ge (X : Sd p l e R s m args below meth c n0 T h cells slots) (w : Cx Z own nm bytes maxL ret p s m meth c) {x y : Int32} {o : Int} (hd : decode bytes pc = .ok (.if_icmp .ge o, 3)) (ho : 0 ≤ (pc : Int) + o) {n' : Nat} (hp : ((pc : Int) + o).toNat = n) (hn : pc + 3 = n') (K1 : y.toInt ≤ x.toInt → Gl p e below s n0 P C S (T.setTop (mkF m n ls st))) (K2 : x.toInt < y.toInt → Gl p e below s n0 P C S (T.setTop (mkF m n' ls st))) : Gl p e below s n0 P C S (T.setTop (mkF m pc ls (.int y :: .int x :: st))) := by
  obtain ⟨_, X, -⟩ := X; obtain ⟨hx, hby, -⟩ := w; subst hn
  by_cases q : x < y
  · exact Gl.of (fun t k => XS.icmpNo X.here hx rfl (hb hby hd) rfl (XT.ii_ge_f q) k) (K2 (Int32.lt_iff_toInt_lt.mp q))
  · exact Gl.of (fun t k => XS.icmpYes X.here hx rfl rfl (hb hby hd) rfl (XT.ii_ge_t q) ho hp k) (K1 (Int.not_lt.mp fun q' => q (Int32.lt_iff_toInt_lt.mpr q')))
theorem gIfL_ge (X : Sd p l e R s m args below meth c n0 T h cells slots) (w : Cx Z own nm bytes maxL ret p s m meth c) {x y : Int64} {o : Int} (hd : decode bytes pc = .ok (.ifCond .ge o, 3)) (ho : 0 ≤ (pc : Int) + o) {n' : Nat} (hp : ((pc : Int) + o).toNat = n) (hn : pc + 3 = n') (K1 : y.toInt ≤ x.toInt → Gl p e below s n0 P C S (T.setTop (mkF m n ls st))) (K2 : x.toInt < y.toInt → Gl p e below s n0 P C S (T.setTop (mkF m n' ls st))) : Gl p e below s n0 P C S (T.setTop (mkF m pc ls (.int (XT.cmpL x y) :: st))) := by
  obtain ⟨_, X, -⟩ := X; obtain ⟨hx, hby, -⟩ := w; subst hn
  by_cases q : x < y
  · exact Gl.of (fun t k => XS.ifNo X.here hx rfl (hb hby hd) rfl (XT.ll_ge_f q) k) (K2 (Int64.lt_iff_toInt_lt.mp q))
  · exact Gl.of (fun t k => XS.ifYes X.here hx rfl rfl (hb hby hd) rfl (XT.ll_ge_t q) ho hp k) (K1 (Int.not_lt.mp fun q' => q (Int64.lt_iff_toInt_lt.mpr q')))
theorem gIf_gt (X : Sd p l e R s m args below meth c n0 T h cells slots) (w : Cx Z own nm bytes maxL ret p s m meth c) {x : Int32} {o : Int} (hd : decode bytes pc = .ok (.ifCond .gt o, 3)) (ho : 0 ≤ (pc : Int) + o) {n' : Nat} (hp : ((pc : Int) + o).toNat = n) (hn : pc + 3 = n') (K1 : 0 < x.toInt → Gl p e below s n0 P C S (T.setTop (mkF m n ls st))) (K2 : x.toInt ≤ 0 → Gl p e below s n0 P C S (T.setTop (mkF m n' ls st))) : Gl p e below s n0 P C S (T.setTop (mkF m pc ls (.int x :: st))) := by
  obtain ⟨_, X, -⟩ := X; obtain ⟨hx, hby, -⟩ := w; subst hn
  by_cases q : (0 : Int32) < x
  · exact Gl.of (fun t k => XS.ifYes X.here hx rfl rfl (hb hby hd) rfl (XT.i0_gt_t q) ho hp k) (K1 (Int32.lt_iff_toInt_lt.mp q))
  · exact Gl.of (fun t k => XS.ifNo X.here hx rfl (hb hby hd) rfl (XT.i0_gt_f q) k) (K2 (Int.not_lt.mp fun q' => q (Int32.lt_iff_toInt_lt.mpr q')))
theorem gIcmp_gt (X : Sd p l e R s m args below meth c n0 T h cells slots) (w : Cx Z own nm bytes maxL ret p s m meth c) {x y : Int32} {o : Int} (hd : decode bytes pc = .ok (.if_icmp .gt o, 3)) (ho : 0 ≤ (pc : Int) + o) {n' : Nat} (hp : ((pc : Int) + o).toNat = n) (hn : pc + 3 = n') (K1 : y.toInt < x.toInt → Gl p e below s n0 P C S (T.setTop (mkF m n ls st))) (K2 : x.toInt ≤ y.toInt → Gl p e below s n0 P C S (T.setTop (mkF m n' ls st))) : Gl p e below s n0 P C S (T.setTop (mkF m pc ls (.int y :: .int x :: st))) := by
  obtain ⟨_, X, -⟩ := X; obtain ⟨hx, hby, -⟩ := w; subst hn
  by_cases q : y < x
  · exact Gl.of (fun t k => XS.icmpYes X.here hx rfl rfl (hb hby hd) rfl (XT.ii_gt_t q) ho hp k) (K1 (Int32.lt_iff_toInt_lt.mp q))
  · exact Gl.of (fun t k => XS.icmpNo X.here hx rfl (hb hby hd) rfl (XT.ii_gt_f q) k) (K2 (Int.not_lt.mp fun q' => q (Int32.lt_iff_toInt_lt.mpr q')))
theorem gIfL_gt (X : Sd p l e R s m args below meth c n0 T h cells slots) (w : Cx Z own nm bytes maxL ret p s m meth c) {x y : Int64} {o : Int} (hd : decode bytes pc = .ok (.ifCond .gt o, 3)) (ho : 0 ≤ (pc : Int) + o) {n' : Nat} (hp : ((pc : Int) + o).toNat = n) (hn : pc + 3 = n') (K1 : y.toInt < x.toInt → Gl p e below s n0 P C S (T.setTop (mkF m n ls st))) (K2 : x.toInt ≤ y.toInt → Gl p e below s n0 P C S (T.setTop (mkF m n' ls st))) : Gl p e below s n0 P C S (T.setTop (mkF m pc ls (.int (XT.cmpL x y) :: st))) := by
  obtain ⟨_, X, -⟩ := X; obtain ⟨hx, hby, -⟩ := w; subst hn
  by_cases q : y < x
  · exact Gl.of (fun t k => XS.ifYes X.here hx rfl rfl (hb hby hd) rfl (XT.ll_gt_t q) ho hp k) (K1 (Int64.lt_iff_toInt_lt.mp q))
  · exact Gl.of (fun t k => XS.ifNo X.here hx rfl (hb hby hd) rfl (XT.ll_gt_f q) k) (K2 (Int.not_lt.mp fun q' => q (Int64.lt_iff_toInt_lt.mpr q')))
theorem gIf_le (X : Sd p l e R s m args below meth c n0 T h cells slots) (w : Cx Z own nm bytes maxL ret p s m meth c) {x : Int32} {o : Int} (hd : decode bytes pc = .ok (.ifCond .le o, 3)) (ho : 0 ≤ (pc : Int) + o) {n' : Nat} (hp : ((pc : Int) + o).toNat = n) (hn : pc + 3 = n') (K1 : x.toInt ≤ 0 → Gl p e below s n0 P C S (T.setTop (mkF m n ls st))) (K2 : 0 < x.toInt → Gl p e below s n0 P C S (T.setTop (mkF m n' ls st))) : Gl p e below s n0 P C S (T.setTop (mkF m pc ls (.int x :: st))) := by
  obtain ⟨_, X, -⟩ := X; obtain ⟨hx, hby, -⟩ := w; subst hn
  by_cases q : (0 : Int32) < x
  · exact Gl.of (fun t k => XS.ifNo X.here hx rfl (hb hby hd) rfl (XT.i0_le_f q) k) (K2 (Int32.lt_iff_toInt_lt.mp q))
  · exact Gl.of (fun t k => XS.ifYes X.here hx rfl rfl (hb hby hd) rfl (XT.i0_le_t q) ho hp k) (K1 (Int.not_lt.mp fun q' => q (Int32.lt_iff_toInt_lt.mpr q')))
theorem gIcmp_le (X : Sd p l e R s m args below meth c n0 T h cells slots) (w : Cx Z own nm bytes maxL ret p s m meth c) {x y : Int32} {o : Int} (hd : decode bytes pc = .ok (.if_icmp .le o, 3)) (ho : 0 ≤ (pc : Int) + o) {n' : Nat} (hp : ((pc : Int) + o).toNat = n) (hn : pc + 3 = n') (K1 : x.toInt ≤ y.toInt → Gl p e below s n0 P C S (T.setTop (mkF m n ls st))) (K2 : y.toInt < x.toInt → Gl p e below s n0 P C S (T.setTop (mkF m n' ls st))) : Gl p e below s n0 P C S (T.setTop (mkF m pc ls (.int y :: .int x :: st))) := by
  obtain ⟨_, X, -⟩ := X; obtain ⟨hx, hby, -⟩ := w; subst hn
  by_cases q : y < x
  · exact Gl.of (fun t k => XS.icmpNo X.here hx rfl (hb hby hd) rfl (XT.ii_le_f q) k) (K2 (Int32.lt_iff_toInt_lt.mp q))
  · exact Gl.of (fun t k => XS.icmpYes X.here hx rfl rfl (hb hby hd) rfl (XT.ii_le_t q) ho hp k) (K1 (Int.not_lt.mp fun q' => q (Int32.lt_iff_toInt_lt.mpr q')))
theorem gIfL_le (X : Sd p l e R s m args below meth c n0 T h cells slots) (w : Cx Z own nm bytes maxL ret p s m meth c) {x y : Int64} {o : Int} (hd : decode bytes pc = .ok (.ifCond .le o, 3)) (ho : 0 ≤ (pc : Int) + o) {n' : Nat} (hp : ((pc : Int) + o).toNat = n) (hn : pc + 3 = n') (K1 : x.toInt ≤ y.toInt → Gl p e below s n0 P C S (T.setTop (mkF m n ls st))) (K2 : y.toInt < x.toInt → Gl p e below s n0 P C S (T.setTop (mkF m n' ls st))) : Gl p e below s n0 P C S (T.setTop (mkF m pc ls (.int (XT.cmpL x y) :: st))) := by
  obtain ⟨_, X, -⟩ := X; obtain ⟨hx, hby, -⟩ := w; subst hn
  by_cases q : y < x
  · exact Gl.of (fun t k => XS.ifNo X.here hx rfl (hb hby hd) rfl (XT.ll_le_f q) k) (K2 (Int64.lt_iff_toInt_lt.mp q))
  · exact Gl.of (fun t k => XS.ifYes X.here hx rfl rfl (hb hby hd) rfl (XT.ll_le_t q) ho hp k) (K1 (Int.not_lt.mp fun q' => q (Int64.lt_iff_toInt_lt.mpr q')))
theorem gAcmp_eq (X : Sd p l e R s m args below meth c n0 T h cells slots) (w : Cx Z own nm bytes maxL ret p s m meth c) {x y : Value} {o : Int} (hd : decode bytes pc = .ok (.if_acmp .eq o, 3)) (hx' : x.isRef = true) (hy' : y.isRef = true) (ho : 0 ≤ (pc : Int) + o) {n' : Nat} (hp : ((pc : Int) + o).toNat = n) (hn : pc + 3 = n') (K1 : x = y → Gl p e below s n0 P C S (T.setTop (mkF m n ls st))) (K2 : ¬ x = y → Gl p e below s n0 P C S (T.setTop (mkF m n' ls st))) : Gl p e below s n0 P C S (T.setTop (mkF m pc ls (y :: x :: st))) := by
  obtain ⟨_, X, -⟩ := X; obtain ⟨hx, hby, -⟩ := w; subst hn
  by_cases q : x = y
  · exact Gl.of (fun t k => XT.acmpYes X.here hx rfl rfl (hb hby hd) rfl hx' hy' (XT.aa_eq_t q) ho hp k) (K1 q)
  · exact Gl.of (fun t k => XT.acmpNo X.here hx rfl (hb hby hd) rfl hx' hy' (XT.aa_eq_f q) k) (K2 q)
theorem gAcmp_ne (X : Sd p l e R s m args below meth c n0 T h cells slots) (w : Cx Z own nm bytes maxL ret p s m meth c) {x y : Value} {o : Int} (hd : decode bytes pc = .ok (.if_acmp .ne o, 3)) (hx' : x.isRef = true) (hy' : y.isRef = true) (ho : 0 ≤ (pc : Int) + o) {n' : Nat} (hp : ((pc : Int) + o).toNat = n) (hn : pc + 3 = n') (K1 : ¬ x = y → Gl p e below s n0 P C S (T.setTop (mkF m n ls st))) (K2 : x = y → Gl p e below s n0 P C S (T.setTop (mkF m n' ls st))) : Gl p e below s n0 P C S (T.setTop (mkF m pc ls (y :: x :: st))) := by
  obtain ⟨_, X, -⟩ := X; obtain ⟨hx, hby, -⟩ := w; subst hn
  by_cases q : x = y
  · exact Gl.of (fun t k => XT.acmpNo X.here hx rfl (hb hby hd) rfl hx' hy' (XT.aa_ne_f q) k) (K2 q)
  · exact Gl.of (fun t k => XT.acmpYes X.here hx rfl rfl (hb hby hd) rfl hx' hy' (XT.aa_ne_t q) ho hp k) (K1 q)
theorem gIfnullY (X : Sd p l e R s m args below meth c n0 T h cells slots) (w : Cx Z own nm bytes maxL ret p s m meth c) {o : Int} (hd : decode bytes pc = .ok (.ifnull o, 3)) (ho : 0 ≤ (pc : Int) + o) (hp : ((pc : Int) + o).toNat = n) (K : Gl p e below s n0 P C S (T.setTop (mkF m n ls st))) : Gl p e below s n0 P C S (T.setTop (mkF m pc ls (.null :: st))) := by
  obtain ⟨_, X, -⟩ := X; obtain ⟨hx, hby, hZ, hown, -⟩ := w; 
  exact Gl.of (fun t k => XS.ifnullYes X.here hx rfl rfl (hb hby hd) rfl ho hp k) K
theorem gIfnullN (X : Sd p l e R s m args below meth c n0 T h cells slots) (w : Cx Z own nm bytes maxL ret p s m meth c) {o : Int} {b : Addr} (hd : decode bytes pc = .ok (.ifnull o, 3)) (hn : pc + 3 = n) (K : Gl p e below s n0 P C S (T.setTop (mkF m n ls st))) : Gl p e below s n0 P C S (T.setTop (mkF m pc ls (.ref b :: st))) := by
  obtain ⟨_, X, -⟩ := X; obtain ⟨hx, hby, hZ, hown, -⟩ := w; subst hn
  exact Gl.of (fun t k => XS.ifnullNo X.here hx rfl (hb hby hd) rfl k) K
theorem gIfnonnullY (X : Sd p l e R s m args below meth c n0 T h cells slots) (w : Cx Z own nm bytes maxL ret p s m meth c) {o : Int} {b : Addr} (hd : decode bytes pc = .ok (.ifnonnull o, 3)) (ho : 0 ≤ (pc : Int) + o) (hp : ((pc : Int) + o).toNat = n) (K : Gl p e below s n0 P C S (T.setTop (mkF m n ls st))) : Gl p e below s n0 P C S (T.setTop (mkF m pc ls (.ref b :: st))) := by
  obtain ⟨_, X, -⟩ := X; obtain ⟨hx, hby, hZ, hown, -⟩ := w; 
  exact Gl.of (fun t k => XT.ifnonnullYes X.here hx rfl rfl (hb hby hd) rfl ho hp k) K
theorem gIfnonnullN (X : Sd p l e R s m args below meth c n0 T h cells slots) (w : Cx Z own nm bytes maxL ret p s m meth c) {o : Int} (hd : decode bytes pc = .ok (.ifnonnull o, 3)) (hn : pc + 3 = n) (K : Gl p e below s n0 P C S (T.setTop (mkF m n ls st))) : Gl p e below s n0 P C S (T.setTop (mkF m pc ls (.null :: st))) := by
  obtain ⟨_, X, -⟩ := X; obtain ⟨hx, hby, hZ, hown, -⟩ := w; subst hn
  exact Gl.of (fun t k => XT.ifnonnullNo X.here hx rfl (hb hby hd) rfl k) K
theorem gRet (X : Sd p l e R s m args below meth c n0 T h cells slots) (w : Cx Z own nm bytes maxL ret p s m meth c) {v : Value} {t : FieldType} {i : Instr} (hret : ret = some t) (hn : narrow t v = v) (hi : (i = .ireturn ∧ (t = .int ∨ t = .boolean ∨ t = .byte ∨ t = .char ∨ t = .short) ∧ ∃ z, v = .int z) ∨ (i = .lreturn ∧ t = .long ∧ ∃ z, v = .long z) ∨ (i = .dreturn ∧ t = .double ∧ ∃ z, v = .double z) ∨ (i = .freturn ∧ t = .float ∧ ∃ z, v = .float z) ∨ (i = .areturn ∧ t.isReference = true ∧ v.isRef = true))
    (hd : decode bytes pc = .ok (i, 1)) (hc : cells ≤ C) (hs : slots ≤ S) (hP : P (some v) h) : Gl p e below s n0 P C S (T.setTop (mkF m pc ls (v :: st))) := by
  obtain ⟨locs, X, N, eh, -⟩ := X; obtain ⟨hx, hby, hZ, hown, -, -, hr', hlk⟩ := w
  obtain ⟨fs, hr, hrun, hended, hW, hsame⟩ := X.leave (v := some v) (fun q => by rw [hr', hret] at q; cases q) hlk
  refine ⟨_, _, retOut X hx (hr'.trans hret) hn hi (hb hby hd) hr, hrun, hended, _, _, rfl, ⟨?_, N⟩, ⟨_, rfl⟩, hW, hsame.mono hc hs⟩
  show P (some v) T.heap
  rw [eh]; exact hP
theorem gRetI (X : Sd p l e R s m args below meth c n0 T h cells slots) (w : Cx Z own nm bytes maxL ret p s m meth c) {z : Int32} (hret : ret = some .int) (hd : decode bytes pc = .ok (.ireturn, 1)) (hc : cells ≤ C) (hs : slots ≤ S) (hP : P (some (.int z)) h) : Gl p e below s n0 P C S (T.setTop (mkF m pc ls (.int z :: st))) := gRet X w hret rfl (Or.inl ⟨rfl, Or.inl rfl, z, rfl⟩) hd hc hs hP
theorem gRetZ (X : Sd p l e R s m args below meth c n0 T h cells slots) (w : Cx Z own nm bytes maxL ret p s m meth c) {z : Int32} (hret : ret = some .boolean) (hz : z = 0 ∨ z = 1) (hd : decode bytes pc = .ok (.ireturn, 1)) (hc : cells ≤ C) (hs : slots ≤ S) (hP : P (some (.int z)) h) : Gl p e below s n0 P C S (T.setTop (mkF m pc ls (.int z :: st))) := gRet X w hret (by rcases hz with rfl | rfl <;> rfl) (Or.inl ⟨rfl, Or.inr (Or.inl rfl), z, rfl⟩) hd hc hs hP
theorem gRetJ (X : Sd p l e R s m args below meth c n0 T h cells slots) (w : Cx Z own nm bytes maxL ret p s m meth c) {z : Int64} (hret : ret = some .long) (hd : decode bytes pc = .ok (.lreturn, 1)) (hc : cells ≤ C) (hs : slots ≤ S) (hP : P (some (.long z)) h) : Gl p e below s n0 P C S (T.setTop (mkF m pc ls (.long z :: st))) := gRet X w hret rfl (Or.inr (Or.inl ⟨rfl, rfl, z, rfl⟩)) hd hc hs hP
theorem gRetD (X : Sd p l e R s m args below meth c n0 T h cells slots) (w : Cx Z own nm bytes maxL ret p s m meth c) {z : UInt64} (hret : ret = some .double) (hd : decode bytes pc = .ok (.dreturn, 1)) (hc : cells ≤ C) (hs : slots ≤ S) (hP : P (some (.double z)) h) : Gl p e below s n0 P C S (T.setTop (mkF m pc ls (.double z :: st))) := gRet X w hret rfl (Or.inr (Or.inr (Or.inl ⟨rfl, rfl, z, rfl⟩))) hd hc hs hP
theorem gRetA (X : Sd p l e R s m args below meth c n0 T h cells slots) (w : Cx Z own nm bytes maxL ret p s m meth c) {v : Value} {t : FieldType} (hret : ret = some t) (ht : t.isReference = true) (hv : v.isRef = true) (hd : decode bytes pc = .ok (.areturn, 1)) (hc : cells ≤ C) (hs : slots ≤ S) (hP : P (some v) h) : Gl p e below s n0 P C S (T.setTop (mkF m pc ls (v :: st))) := gRet X w hret (by rcases ref_cases hv with rfl | ⟨a, rfl⟩ <;> cases t <;> first | rfl | cases ht) (Or.inr (Or.inr (Or.inr (Or.inr ⟨rfl, ht, hv⟩)))) hd hc hs hP
theorem gRetV (X : Sd p l e R s m args below meth c n0 T h cells slots) (w : Cx Z own nm bytes maxL ret p s m meth c) (hret : ret = none) (hd : decode bytes pc = .ok (.return_, 1)) (hc : cells ≤ C) (hs : slots ≤ S) (hP : P none h) : Gl p e below s n0 P C S (T.setTop (mkF m pc ls [])) := by
  obtain ⟨locs, X, N, eh, -⟩ := X; obtain ⟨hx, hby, hZ, hown, -, -, hr', hlk⟩ := w
  obtain ⟨fs, hr, hrun, hended, hW, hsame⟩ := X.leave (v := none) (fun q => rfl) hlk
  refine ⟨_, _, X.returnOut hx (hr'.trans hret) (hb hby hd) hr, hrun, hended, _, _, rfl, ⟨?_, N⟩, ⟨_, rfl⟩, hW, hsame.mono hc hs⟩
  show P none T.heap
  rw [eh]; exact hP
theorem gCallS (X : Sd p l e R s m args below meth c n0 T h cells slots) (w : Cx Z own nm bytes maxL ret p s m meth c) {y : MethodName} {yb : ByteArray} {yl : Nat} {yr : Option FieldType} {rm : Room} {Q : Option Value → Heap → Prop} {idx W : Nat} (aL rest : List Value) {ps : List FieldType} {r : Option FieldType}
    (hM : Con l Z y yb yl yr [] rm rm.cells rm.slots aL.toArray h n0 Q) (w1 : (Jvm.Cond.methodLink own idx y).before a0 Z = true) (w2 : (Jvm.Cond.static y).before a0 Z = true) (w3 : (Jvm.Cond.initialized y.cls).before a0 Z = true) (w4 : (Jvm.Cond.code y yb yl yr).before a0 Z = true) (hy : y.cls ≠ "java/lang/invoke/MethodHandle" ∧ y.cls ≠ "java/lang/invoke/VarHandle")
    (hpd : parseMethodDescriptor y.desc = some ⟨ps, r⟩) (hlen : aL.length = ps.length) (hstk : st = aL.reverse ++ rest) (hd : decode bytes pc = .ok (.invokestatic idx, 3)) (hsz : ls.size = maxL) (hW : (rest.map fun v => v.category).sum ≤ W)
    (hf : rm.frames + 1 ≤ R.frames) (hl : W + (yl + 11) + rm.locals ≤ R.locals) (hcc : cells + rm.cells ≤ R.cells) (hss : slots + rm.slots ≤ R.slots) (hn : pc + 3 = n)
    (K : ∀ T' h' v, Q v h' → Sd p l e R s m args below meth c n0 T' h' (cells + rm.cells) (slots + rm.slots) → Gl p e below s n0 P C S (T'.setTop (mkF m n ls (v.toList ++ rest)))) : Gl p e below s n0 P C S (T.setTop (mkF m pc ls st)) := by
  obtain ⟨locs, X, N, eh, hn0⟩ := X; obtain ⟨hx, hby, hZ, hown, -, hml, -⟩ := w; subst hn
  obtain ⟨v, vm, ⟨T', L, k, sl⟩, -, X', ⟨Lc, ⟨hQ, NL⟩, l1, y1, z1⟩, st'⟩ := Jvm.LawKit.callS X hx (y := y) hown (mvT hZ w1) (mvT hZ w2) (mvT hZ w3) (mvT hZ w4) hy (backOf (W := W) (Q := fun v h L => Q v h ∧ Fr n0 L) (Con.met hM) hZ w4 w3 hf hl) (g := mkF m pc ls st) rfl (by rw [hml]; exact hsz) (argsL := aL) (rest := rest) (lenOf hpd hlen) hstk (by show 2 * 0 + _ ≤ _; rw [Nat.mul_zero, Nat.zero_add]; exact hW) (hb hby hd) (fun _ _ => ⟨rfl, eh, hcc, hss⟩)
  dsimp only [Pt.U, Pt.locs, Pt.cells, Pt.slots] at X' l1 y1 z1 st' hQ
  subst l1 y1 z1
  exact Gl.of st' (K T' T'.heap v hQ ⟨_, X', Fr.app N NL, rfl, hn0⟩)
theorem gCallV (X : Sd p l e R s m args below meth c n0 T h cells slots) (w : Cx Z own nm bytes maxL ret p s m meth c) {y z : MethodName} {yb : ByteArray} {yl : Nat} {yr : Option FieldType} {rm : Room} {Q : Option Value → Heap → Prop} {idx W : Nat} {b : Addr} {C0 : String} (aL rest : List Value) {ps : List FieldType} {r : Option FieldType} (E : Exa Z h b C0)
    (hM : Con l Z z yb yl yr [] rm rm.cells rm.slots (.ref b :: aL).toArray h n0 Q) (w1 : (Jvm.Cond.methodLink own idx y).before a0 Z = true) (w2 : (Jvm.Cond.declares y).before a0 Z = true) (hnf : NotFace s y) (w5 : (Jvm.Cond.selects C0 y z).before a0 Z = true) (w6 : (Jvm.Cond.instanceMethod z).before a0 Z = true) (w3 : (Jvm.Cond.initialized z.cls).before a0 Z = true) (w4 : (Jvm.Cond.code z yb yl yr).before a0 Z = true) (hy : y.cls ≠ "java/lang/invoke/MethodHandle" ∧ y.cls ≠ "java/lang/invoke/VarHandle")
    (hpd : parseMethodDescriptor y.desc = some ⟨ps, r⟩) (hlen : aL.length = ps.length) (hstk : st = aL.reverse ++ .ref b :: rest) (hd : decode bytes pc = .ok (.invokevirtual idx, 3)) (hsz : ls.size = maxL) (hW : (rest.map fun v => v.category).sum ≤ W)
    (hf : rm.frames + 1 ≤ R.frames) (hl : W + (yl + 11) + rm.locals ≤ R.locals) (hcc : cells + rm.cells ≤ R.cells) (hss : slots + rm.slots ≤ R.slots) (hn : pc + 3 = n)
    (K : ∀ T' h' v, Q v h' → Sd p l e R s m args below meth c n0 T' h' (cells + rm.cells) (slots + rm.slots) → Gl p e below s n0 P C S (T'.setTop (mkF m n ls (v.toList ++ rest)))) : Gl p e below s n0 P C S (T.setTop (mkF m pc ls st)) := by
  obtain ⟨locs, X, N, eh, hn0⟩ := X; obtain ⟨hx, hby, hZ, hown, -, hml, -⟩ := w; subst hn
  obtain ⟨cq, kq, qa, qb, qc⟩ := isOf hZ eh E
  obtain ⟨v, vm, ⟨T', L, k, sl⟩, -, X', ⟨Lc, ⟨hQ, NL⟩, l1, y1, z1⟩, st'⟩ := X.virtualBack hx (y := y) (z := z) hown (mvT hZ w1) (mvT hZ w2) hnf (mvT hZ w5) (mvT hZ w6) hy (backOf (W := W) (Q := fun v h L => Q v h ∧ Fr n0 L) (Con.met hM) hZ w4 w3 hf hl) qa qc (g := mkF m pc ls st) rfl (by rw [hml]; exact hsz) (Steps.refl _) (argsL := aL) (rest := rest) (lenOf hpd hlen) hstk (by show 2 * 0 + _ ≤ _; rw [Nat.mul_zero, Nat.zero_add]; exact hW) (hb hby hd) (fun _ _ => ⟨rfl, eh, hcc, hss⟩)
  dsimp only [Pt.U, Pt.locs, Pt.cells, Pt.slots] at X' l1 y1 z1 st' hQ
  subst l1 y1 z1
  exact Gl.of (fun t k => st'.trans k) (K T' T'.heap v hQ ⟨_, X', Fr.app N NL, rfl, hn0⟩)
theorem gCallI (X : Sd p l e R s m args below meth c n0 T h cells slots) (w : Cx Z own nm bytes maxL ret p s m meth c) {y : MethodName} {yb : ByteArray} {yl : Nat} {rm : Room} {Q : Option Value → Heap → Prop} {idx W : Nat} {b : Addr} (aL rest : List Value) {ps : List FieldType} {r : Option FieldType} (hy1 : y.name = "<init>")
    (hM : Con l Z y yb yl none [] rm rm.cells rm.slots (.ref b :: aL).toArray h n0 Q) (w1 : (Jvm.Cond.methodLink own idx y).before a0 Z = true) (w2 : (Jvm.Cond.instanceMethod y).before a0 Z = true) (w3 : (Jvm.Cond.initialized y.cls).before a0 Z = true) (w4 : (Jvm.Cond.code y yb yl none).before a0 Z = true) (hy : y.cls ≠ "java/lang/invoke/MethodHandle" ∧ y.cls ≠ "java/lang/invoke/VarHandle")
    (hpd : parseMethodDescriptor y.desc = some ⟨ps, r⟩) (hlen : aL.length = ps.length) (hstk : st = aL.reverse ++ .ref b :: rest) (hd : decode bytes pc = .ok (.invokespecial idx, 3)) (hsz : ls.size = maxL) (hW : (rest.map fun v => v.category).sum ≤ W)
    (hf : rm.frames + 1 ≤ R.frames) (hl : W + (yl + 11) + rm.locals ≤ R.locals) (hcc : cells + rm.cells ≤ R.cells) (hss : slots + rm.slots ≤ R.slots) (hn : pc + 3 = n)
    (K : ∀ T' h' v, Q v h' → Sd p l e R s m args below meth c n0 T' h' (cells + rm.cells) (slots + rm.slots) → Gl p e below s n0 P C S (T'.setTop (mkF m n ls (v.toList ++ rest)))) : Gl p e below s n0 P C S (T.setTop (mkF m pc ls st)) := by
  obtain ⟨locs, X, N, eh, hn0⟩ := X; obtain ⟨hx, hby, hZ, hown, -, hml, -⟩ := w; subst hn
  obtain ⟨v, vm, ⟨T', L, k, sl⟩, -, X', ⟨Lc, ⟨hQ, NL⟩, l1, y1, z1⟩, st'⟩ := X.specialBack hx (y := y) hy1 hown (mvT hZ w1) (mvT hZ w2) (mvT hZ w4) hy (backOf (W := W) (Q := fun v h L => Q v h ∧ Fr n0 L) (Con.met hM) hZ w4 w3 hf hl) (g := mkF m pc ls st) rfl (by rw [hml]; exact hsz) (Steps.refl _) (a := b) (argsL := aL) (rest := rest) (lenOf hpd hlen) hstk (by show 2 * 0 + _ ≤ _; rw [Nat.mul_zero, Nat.zero_add]; exact hW) (hb hby hd) (fun _ _ => ⟨rfl, eh, hcc, hss⟩)
  dsimp only [Pt.U, Pt.locs, Pt.cells, Pt.slots] at X' l1 y1 z1 st' hQ
  subst l1 y1 z1
  exact Gl.of (fun t k => st'.trans k) (K T' T'.heap v hQ ⟨_, X', Fr.app N NL, rfl, hn0⟩)
theorem gCallSv (X : Sd p l e R s m args below meth c n0 T h cells slots) (w : Cx Z own nm bytes maxL ret p s m meth c) {y : MethodName} {yb : ByteArray} {yl : Nat} {yr : Option FieldType} {rm : Room} {Q : Value → Heap → Prop} {idx W : Nat} (aL rest : List Value) {ps : List FieldType} {r : Option FieldType}
    (hM : ConV l Z y yb yl yr rm aL.toArray h n0 Q) (w1 : (Jvm.Cond.methodLink own idx y).before a0 Z = true) (w2 : (Jvm.Cond.static y).before a0 Z = true) (w3 : (Jvm.Cond.initialized y.cls).before a0 Z = true) (w4 : (Jvm.Cond.code y yb yl yr).before a0 Z = true) (hy : y.cls ≠ "java/lang/invoke/MethodHandle" ∧ y.cls ≠ "java/lang/invoke/VarHandle")
    (hpd : parseMethodDescriptor y.desc = some ⟨ps, r⟩) (hlen : aL.length = ps.length) (hstk : st = aL.reverse ++ rest) (hd : decode bytes pc = .ok (.invokestatic idx, 3)) (hsz : ls.size = maxL) (hW : (rest.map fun v => v.category).sum ≤ W)
    (hf : rm.frames + 1 ≤ R.frames) (hl : W + (yl + 11) + rm.locals ≤ R.locals) (hcc : cells + rm.cells ≤ R.cells) (hss : slots + rm.slots ≤ R.slots) (hn : pc + 3 = n)
    (K : ∀ T' h' v, Q v h' → Sd p l e R s m args below meth c n0 T' h' (cells + rm.cells) (slots + rm.slots) → Gl p e below s n0 P C S (T'.setTop (mkF m n ls (v :: rest)))) : Gl p e below s n0 P C S (T.setTop (mkF m pc ls st)) :=
  gCallS X w aL rest hM w1 w2 w3 w4 hy hpd hlen hstk hd hsz hW hf hl hcc hss hn (fun T' h' v q X => by obtain ⟨v', rfl, q⟩ := q; exact K T' h' v' q X)
theorem gCallSn (X : Sd p l e R s m args below meth c n0 T h cells slots) (w : Cx Z own nm bytes maxL ret p s m meth c) {y : MethodName} {yb : ByteArray} {yl : Nat} {rm : Room} {Q : Heap → Prop} {idx W : Nat} (aL rest : List Value) {ps : List FieldType} {r : Option FieldType}
    (hM : ConN l Z y yb yl rm aL.toArray h n0 Q) (w1 : (Jvm.Cond.methodLink own idx y).before a0 Z = true) (w2 : (Jvm.Cond.static y).before a0 Z = true) (w3 : (Jvm.Cond.initialized y.cls).before a0 Z = true) (w4 : (Jvm.Cond.code y yb yl none).before a0 Z = true) (hy : y.cls ≠ "java/lang/invoke/MethodHandle" ∧ y.cls ≠ "java/lang/invoke/VarHandle")
    (hpd : parseMethodDescriptor y.desc = some ⟨ps, r⟩) (hlen : aL.length = ps.length) (hstk : st = aL.reverse ++ rest) (hd : decode bytes pc = .ok (.invokestatic idx, 3)) (hsz : ls.size = maxL) (hW : (rest.map fun v => v.category).sum ≤ W)
    (hf : rm.frames + 1 ≤ R.frames) (hl : W + (yl + 11) + rm.locals ≤ R.locals) (hcc : cells + rm.cells ≤ R.cells) (hss : slots + rm.slots ≤ R.slots) (hn : pc + 3 = n)
    (K : ∀ T' h', Q h' → Sd p l e R s m args below meth c n0 T' h' (cells + rm.cells) (slots + rm.slots) → Gl p e below s n0 P C S (T'.setTop (mkF m n ls rest))) : Gl p e below s n0 P C S (T.setTop (mkF m pc ls st)) :=
  gCallS X w aL rest hM w1 w2 w3 w4 hy hpd hlen hstk hd hsz hW hf hl hcc hss hn (fun T' h' v q X => by obtain ⟨rfl, q⟩ := q; exact K T' h' q X)
theorem gCallVv (X : Sd p l e R s m args below meth c n0 T h cells slots) (w : Cx Z own nm bytes maxL ret p s m meth c) {y z : MethodName} {yb : ByteArray} {yl : Nat} {yr : Option FieldType} {rm : Room} {Q : Value → Heap → Prop} {idx W : Nat} {b : Addr} {C0 : String} (aL rest : List Value) {ps : List FieldType} {r : Option FieldType} (E : Exa Z h b C0)
    (hM : ConV l Z z yb yl yr rm (.ref b :: aL).toArray h n0 Q) (w1 : (Jvm.Cond.methodLink own idx y).before a0 Z = true) (w2 : (Jvm.Cond.declares y).before a0 Z = true) (hnf : NotFace s y) (w5 : (Jvm.Cond.selects C0 y z).before a0 Z = true) (w6 : (Jvm.Cond.instanceMethod z).before a0 Z = true) (w3 : (Jvm.Cond.initialized z.cls).before a0 Z = true) (w4 : (Jvm.Cond.code z yb yl yr).before a0 Z = true) (hy : y.cls ≠ "java/lang/invoke/MethodHandle" ∧ y.cls ≠ "java/lang/invoke/VarHandle")
    (hpd : parseMethodDescriptor y.desc = some ⟨ps, r⟩) (hlen : aL.length = ps.length) (hstk : st = aL.reverse ++ .ref b :: rest) (hd : decode bytes pc = .ok (.invokevirtual idx, 3)) (hsz : ls.size = maxL) (hW : (rest.map fun v => v.category).sum ≤ W)
    (hf : rm.frames + 1 ≤ R.frames) (hl : W + (yl + 11) + rm.locals ≤ R.locals) (hcc : cells + rm.cells ≤ R.cells) (hss : slots + rm.slots ≤ R.slots) (hn : pc + 3 = n)
    (K : ∀ T' h' v, Q v h' → Sd p l e R s m args below meth c n0 T' h' (cells + rm.cells) (slots + rm.slots) → Gl p e below s n0 P C S (T'.setTop (mkF m n ls (v :: rest)))) : Gl p e below s n0 P C S (T.setTop (mkF m pc ls st)) :=
  gCallV X w aL rest E hM w1 w2 hnf w5 w6 w3 w4 hy hpd hlen hstk hd hsz hW hf hl hcc hss hn (fun T' h' v q X => by obtain ⟨v', rfl, q⟩ := q; exact K T' h' v' q X)
theorem gCallIn (X : Sd p l e R s m args below meth c n0 T h cells slots) (w : Cx Z own nm bytes maxL ret p s m meth c) {y : MethodName} {yb : ByteArray} {yl : Nat} {rm : Room} {Q : Heap → Prop} {idx W : Nat} {b : Addr} (aL rest : List Value) {ps : List FieldType} {r : Option FieldType} (hy1 : y.name = "<init>")
    (hM : ConN l Z y yb yl rm (.ref b :: aL).toArray h n0 Q) (w1 : (Jvm.Cond.methodLink own idx y).before a0 Z = true) (w2 : (Jvm.Cond.instanceMethod y).before a0 Z = true) (w3 : (Jvm.Cond.initialized y.cls).before a0 Z = true) (w4 : (Jvm.Cond.code y yb yl none).before a0 Z = true) (hy : y.cls ≠ "java/lang/invoke/MethodHandle" ∧ y.cls ≠ "java/lang/invoke/VarHandle")
    (hpd : parseMethodDescriptor y.desc = some ⟨ps, r⟩) (hlen : aL.length = ps.length) (hstk : st = aL.reverse ++ .ref b :: rest) (hd : decode bytes pc = .ok (.invokespecial idx, 3)) (hsz : ls.size = maxL) (hW : (rest.map fun v => v.category).sum ≤ W)
    (hf : rm.frames + 1 ≤ R.frames) (hl : W + (yl + 11) + rm.locals ≤ R.locals) (hcc : cells + rm.cells ≤ R.cells) (hss : slots + rm.slots ≤ R.slots) (hn : pc + 3 = n)
    (K : ∀ T' h', Q h' → Sd p l e R s m args below meth c n0 T' h' (cells + rm.cells) (slots + rm.slots) → Gl p e below s n0 P C S (T'.setTop (mkF m n ls rest))) : Gl p e below s n0 P C S (T.setTop (mkF m pc ls st)) :=
  gCallI X w aL rest hy1 hM w1 w2 w3 w4 hy hpd hlen hstk hd hsz hW hf hl hcc hss hn (fun T' h' v q X => by obtain ⟨rfl, q⟩ := q; exact K T' h' q X)
theorem gInitO (X : Sd p l e R s m args below meth c n0 T h cells slots) (w : Cx Z own nm bytes maxL ret p s m meth c) {idx W : Nat} {a : Addr} (w1 : (Jvm.Cond.methodLink own idx Lib.objectInit).before a0 Z = true) (w2 : (Jvm.Cond.instanceMethod Lib.objectInit).before a0 Z = true) (w3 : (Jvm.Cond.code Lib.objectInit ⟨#[0xb1]⟩ 1 none).before a0 Z = true) (hd : decode bytes pc = .ok (.invokespecial idx, 3)) (hsz : ls.size = maxL) (hf : 1 ≤ R.frames) (hW : (st.map fun v => v.category).sum ≤ W) (hl : W + 12 ≤ R.locals) (hn : pc + 3 = n)
    (K : ∀ T', Sd p l e R s m args below meth c n0 T' h cells slots → Gl p e below s n0 P C S (T'.setTop (mkF m n ls st))) : Gl p e below s n0 P C S (T.setTop (mkF m pc ls (.ref a :: st))) := by
  obtain ⟨locs, X, N, eh, hn0⟩ := X; obtain ⟨hx, hby, hZ, hown, -, hml, -⟩ := w; subst hn
  obtain ⟨T', X', e', st'⟩ := initO X hx hZ hown w1 w2 w3 eh (g := mkF m pc ls (.ref a :: st)) rfl (by rw [hml]; exact hsz) rfl (hb hby hd) hf (W := W) (by show 2 * 0 + _ ≤ _; rw [Nat.mul_zero, Nat.zero_add]; exact hW) hl
  exact Gl.of st' (K T' ⟨_, X', N, e', hn0⟩)
theorem gNew (X : Sd p l e R s m args below meth c n0 T h cells slots) (w : Cx Z own nm bytes maxL ret p s m meth c) {C0 : String} {idx k : Nat} (w1 : (Jvm.Cond.classLink own idx C0).before a0 Z = true) (w2 : (Jvm.Cond.instantiable C0 k).before a0 Z = true) (w3 : (Jvm.Cond.initialized C0).before a0 Z = true) (hd : decode bytes pc = .ok (.new idx, 3)) (hc : cells + 1 ≤ R.cells) (hl : slots + k ≤ R.slots) (hn : pc + 3 = n)
    (K : ∀ T' h' a, a = h.size → n0 ≤ a → Sd p l e R s m args below meth c n0 T' h' (cells + 1) (slots + k) → Ext h h' → Exa Z h' a C0 → (∀ {O nm d : String} {ty : FieldType}, Laid Z a0 C0 O nm d → parseFieldDescriptor d = some ty → Fld Z h' a O nm d (defaultValue ty)) → Gl p e below s n0 P C S (T'.setTop (mkF m n ls (.ref a :: st)))) : Gl p e below s n0 P C S (T.setTop (mkF m pc ls st)) := by
  obtain ⟨locs, X, N, eh, hn0⟩ := X; obtain ⟨hx, hby, hZ, hown, -, hml, -⟩ := w; subst hn
  obtain ⟨T', h', X', e', E', A', D', -, st'⟩ := newO X hx hZ hown w1 w2 w3 eh (g := mkF m pc ls st) rfl (hb hby hd) hc hl
  exact Gl.of st' (K T' h' h.size rfl (Sd.le ⟨_, X, N, eh, hn0⟩) ⟨_, X', N, e', hn0⟩ E' A' D')
theorem gGetF (X : Sd p l e R s m args below meth c n0 T h cells slots) (w : Cx Z own nm bytes maxL ret p s m meth c) {R0 O fn d : String} {idx : Nat} {a : Addr} {v : Value} (w1 : (Jvm.Cond.fieldLink own idx R0 fn d).before a0 Z = true) (via : Via Z R0 O fn d) (F : Fld Z h a O fn d v) (hd : decode bytes pc = .ok (.getfield idx, 3)) (hn : pc + 3 = n)
    (K : ∀ T', Sd p l e R s m args below meth c n0 T' h cells slots → Gl p e below s n0 P C S (T'.setTop (mkF m n ls (v :: st)))) : Gl p e below s n0 P C S (T.setTop (mkF m pc ls (.ref a :: st))) := by
  obtain ⟨locs, X, N, eh, hn0⟩ := X; obtain ⟨hx, hby, hZ, hown, -, hml, -⟩ := w; subst hn
  obtain ⟨T', X', e', st'⟩ := getF X hx hZ hown (host := "") (Or.inl w1) via eh F (g := mkF m pc ls (.ref a :: st)) rfl rfl (hb hby hd)
  exact Gl.of st' (K T' ⟨_, X', N, e', hn0⟩)
theorem gGetS (X : Sd p l e R s m args below meth c n0 T h cells slots) (w : Cx Z own nm bytes maxL ret p s m meth c) {R0 O fn d : String} {idx : Nat} {v : Value} (w1 : (Jvm.Cond.fieldLink own idx R0 fn d).before a0 Z = true) (via : Via Z R0 O fn d) (F : Sta Z h O fn d v) (hd : decode bytes pc = .ok (.getstatic idx, 3)) (hn : pc + 3 = n)
    (K : ∀ T', Sd p l e R s m args below meth c n0 T' h cells slots → Gl p e below s n0 P C S (T'.setTop (mkF m n ls (v :: st)))) : Gl p e below s n0 P C S (T.setTop (mkF m pc ls st)) := by
  obtain ⟨locs, X, N, eh, hn0⟩ := X; obtain ⟨hx, hby, hZ, hown, -, hml, -⟩ := w; subst hn
  obtain ⟨T', X', e', st'⟩ := getS X hx hZ hown (host := "") w1 via eh F (g := mkF m pc ls st) rfl (hb hby hd)
  exact Gl.of st' (K T' ⟨_, X', N, e', hn0⟩)
theorem gPutF (X : Sd p l e R s m args below meth c n0 T h cells slots) (w : Cx Z own nm bytes maxL ret p s m meth c) {R0 O fn d C0 : String} {idx k : Nat} {ty : FieldType} {a : Addr} {v old : Value} (w1 : (Jvm.Cond.fieldLink own idx R0 fn d).before a0 Z = true) (via : Via Z R0 O fn d) (F : Fld Z h a O fn d old) (E : Exa Z h a C0) (hL : (Jvm.Cond.lays C0 O fn d).before a0 Z = true ∨ ((Jvm.Cond.laysFinal C0 O fn d).before a0 Z = true ∧ own = O ∧ nm = "<init>")) (w2 : (Jvm.Cond.instantiable C0 k).before a0 Z = true) (ha : n0 ≤ a)
    (hty : parseFieldDescriptor d = some ty) (hnar : narrow ty v = v) (hfit : fits ty v = true) (hd : decode bytes pc = .ok (.putfield idx, 3)) (hn : pc + 3 = n)
    (K : ∀ T' h', Sd p l e R s m args below meth c n0 T' h' cells slots → Wr h h' a (Jvm.RoadKit.slotOf Z O fn d) v → Gl p e below s n0 P C S (T'.setTop (mkF m n ls st))) : Gl p e below s n0 P C S (T.setTop (mkF m pc ls (v :: .ref a :: st))) := by
  obtain ⟨locs, X, N, eh, hn0⟩ := X; obtain ⟨hx, hby, hZ, hown, hnm, hml, -⟩ := w; subst hn
  obtain ⟨T', h', X', e', W', st'⟩ := putF X hx hZ hown (host := "") (Or.inl w1) via eh F E (hL.imp id fun q => ⟨q.1, q.2.1, hnm.trans q.2.2⟩) w2 hty hnar hfit (g := mkF m pc ls (v :: .ref a :: st)) rfl rfl (hb hby hd)
  exact Gl.of st' (K T' h' ⟨_, X', Fr.snoc X' N ha, e', hn0⟩ W')
/-- an array with its values -/
def Av (Z : State) (h : Heap) (a : Addr) (ty : FieldType) (vs : List Value) : Prop := ∃ c : Cell, Arr Z h a c ty ∧ c.slots = vs.toArray
theorem Av.lt {a : Addr} {ty : FieldType} {vs : List Value} (F : Av Z h a ty vs) : a < h.size := by obtain ⟨c, A, -⟩ := F; exact A.lt
theorem Av.ext {h' : Heap} {a : Addr} {ty : FieldType} {vs : List Value} (F : Av Z h a ty vs) (E : Ext h h') : Av Z h' a ty vs := by obtain ⟨c, A, q⟩ := F; exact ⟨c, A.ext E, q⟩
theorem Av.other {h' : Heap} {a b : Addr} {sl : Nat} {v : Value} {ty : FieldType} {vs : List Value} (F : Av Z h b ty vs) (W : Wr h h' a sl v) (ne : b ≠ a) : Av Z h' b ty vs := by obtain ⟨c, A, q⟩ := F; exact ⟨c, A.other W ne, q⟩
theorem Av.keep {h' : Heap} {a : Addr} {ty : FieldType} {vs : List Value} {ws : List Addr} (F : Av Z h a ty vs) (K : Keep h h' ws) (ne : a ∉ ws) : Av Z h' a ty vs := by obtain ⟨c, A, q⟩ := F; exact ⟨c, ⟨K.2.1 a c A.1 ne, A.2⟩, q⟩
theorem Av.set {h' : Heap} {a : Addr} {sl : Nat} {v : Value} {ty : FieldType} {vs : List Value} (F : Av Z h a ty vs) (W : Wr h h' a sl v) : Av Z h' a ty (vs.set sl v) := by
  obtain ⟨c, A, q⟩ := F
  exact ⟨_, A.same W, by show c.slots.setIfInBounds sl v = _; rw [q]; simp⟩
theorem neOf {x a : Addr} {h : Heap} (h1 : x < h.size) (h2 : h.size ≤ a) : x ≠ a := fun e => absurd (Nat.lt_of_lt_of_le h1 h2) (by rw [e]; exact Nat.lt_irrefl _)
theorem staKeep {h' : Heap} {O fn d : String} {v : Value} {ws : List Addr} (F : Sta Z h O fn d v) (K : Keep h h' ws) (hp : ∀ x ∈ ws, ∀ c : Cell, h[x]? = some c → c.vm.isStatics = false) : Sta Z h' O fn d v := by
  obtain ⟨cf, i, k, f, st, cell, h1, h2, h3, h4, h5, h6, h7⟩ := F
  exact ⟨cf, i, k, f, st, cell, h1, h2, h3, h4, K.2.1 _ _ h5 (fun q => by rw [hp _ q _ h5] at h6; cases h6), h6, h7⟩
theorem idxIn {j : Int32} {vs : List Value} {c : Cell} (q : c.slots = vs.toArray) (hj : 0 ≤ j.toInt) (hv : j.toInt < vs.length) : ¬ (j < 0 ∨ c.slots.size ≤ j.toNatClampNeg) := by
  have e := XT.negI32 j
  have hc : j.toNatClampNeg = j.toInt.toNat := rfl
  rintro (g | g)
  · have := e.mp g; omega
  · rw [q] at g; simp only [List.size_toArray] at g; omega
theorem gNewP (X : Sd p l e R s m args below meth c n0 T h cells slots) (w : Cx Z own nm bytes maxL ret p s m meth c) {aty : ArrayType} {k : Int32} {cap : Nat} (w1 : (Jvm.Cond.arrayClass (newarray.typeOf aty)).before a0 Z = true) (hd : decode bytes pc = .ok (.newarray aty, 2)) (hk : 0 ≤ k.toInt) (hcap : k.toInt ≤ cap) (hb' : cap * 8 ≤ 536870912) (hc : cells + 1 ≤ R.cells) (hl : slots + cap ≤ R.slots) {vs : List Value} {ty : FieldType} (hvs : List.replicate k.toInt.toNat (defaultValue (newarray.typeOf aty)) = vs) (hty : newarray.typeOf aty = ty) {ad : String} (had : "[" ++ (newarray.typeOf aty).toString = ad) (hn : pc + 2 = n)
    (K : ∀ T' h' a, a = h.size → n0 ≤ a → Sd p l e R s m args below meth c n0 T' h' (cells + 1) (slots + cap) → Ext h h' → Av Z h' a ty vs → Exa Z h' a ad → Gl p e below s n0 P C S (T'.setTop (mkF m n ls (.ref a :: st)))) : Gl p e below s n0 P C S (T.setTop (mkF m pc ls (.int k :: st))) := by
  obtain ⟨locs, X, N, eh, hn0⟩ := X; obtain ⟨hx, hby, hZ, hown, -, hml, -⟩ := w; subst hn hvs hty
  have e := XT.negI32 k
  have hkc : k.toNatClampNeg = k.toInt.toNat := rfl
  obtain ⟨T', h', cA, X', e', E', A', Ex', st'⟩ := newPE X hx hZ w1 eh (g := mkF m pc ls (.int k :: st)) rfl (hb hby hd) rfl (fun g => by have := e.mp g; omega) (cap := cap) (by omega) hb' hc hl had
  exact Gl.of st' (K T' h' h.size rfl (Sd.le ⟨_, X, N, eh, hn0⟩) ⟨_, X', N, e', hn0⟩ E' ⟨_, A', by show Array.replicate _ _ = _; rw [hkc]; simp⟩ Ex')
theorem gClone (X : Sd p l e R s m args below meth c n0 T h cells slots) (w : Cx Z own nm bytes maxL ret p s m meth c) {idx W cap : Nat} {a : Addr} {ad : String} {ty : FieldType} {vs : List Value} (F : Av Z h a ty vs) (E : Exa Z h a ad) (hfit : ∀ v ∈ vs, fits ty v = true) (w1 : (Jvm.Cond.methodLink own idx ⟨ad, "clone", "()Ljava/lang/Object;"⟩).before a0 Z = true) (w2 : (Jvm.Cond.sameMethod ad "java/lang/Object" "clone" "()Ljava/lang/Object;").before a0 Z = true) (w3 : (Jvm.Cond.native ⟨"java/lang/Object", "clone", "()Ljava/lang/Object;"⟩).before a0 Z = true) (w4 : (Jvm.Cond.instanceMethod ⟨"java/lang/Object", "clone", "()Ljava/lang/Object;"⟩).before a0 Z = true) (w5 : (Jvm.Cond.selects ad ⟨ad, "clone", "()Ljava/lang/Object;"⟩ ⟨"java/lang/Object", "clone", "()Ljava/lang/Object;"⟩).before a0 Z = true) (w6 : (Jvm.Cond.castable ad "java/lang/Cloneable").before a0 Z = true)
    (hd : decode bytes pc = .ok (.invokevirtual idx, 3)) (hsz : ls.size = maxL) (hf : 1 ≤ R.frames) (hW : (st.map fun v => v.category).sum ≤ W) (hl : W + 14 ≤ R.locals) (hcap : vs.length ≤ cap) (hc : cells + 1 ≤ R.cells) (hss : slots + cap ≤ R.slots) (hn : pc + 3 = n)
    (K : ∀ T' h' b, b = h.size → n0 ≤ b → Sd p l e R s m args below meth c n0 T' h' (cells + 1) (slots + cap) → Ext h h' → Av Z h' b ty vs → Exa Z h' b ad → Gl p e below s n0 P C S (T'.setTop (mkF m n ls (.ref b :: st)))) : Gl p e below s n0 P C S (T.setTop (mkF m pc ls (.ref a :: st))) := by
  obtain ⟨locs, X, N, eh, hn0⟩ := X; obtain ⟨hx, hby, hZ, hown, -, hml, -⟩ := w; subst hn
  obtain ⟨cl, A, q⟩ := F
  have FC : FitC Z cl := fitC_of A fun i hi v hv => hfit v (by rw [q] at hv; simp only [List.getElem?_toArray] at hv; exact List.mem_of_getElem? hv)
  obtain ⟨T', h', X', e', E', A', Ex', st'⟩ := cloneA X hx hZ hown w1 w2 w3 w4 w5 w6 eh A E FC (g := mkF m pc ls (.ref a :: st)) rfl (by rw [hml]; exact hsz) rfl (hb hby hd) hf (W := W) (cap := cap) (by show 2 * 0 + _ ≤ _; rw [Nat.mul_zero, Nat.zero_add]; exact hW) hl (by rw [q]; simpa using hcap) hc hss
  exact Gl.of st' (K T' h' h.size rfl (Sd.le ⟨_, X, N, eh, hn0⟩) ⟨_, X', N, e', hn0⟩ E' ⟨_, A', q⟩ Ex')
theorem gCast (X : Sd p l e R s m args below meth c n0 T h cells slots) (w : Cx Z own nm bytes maxL ret p s m meth c) {K0 : String} {idx : Nat} {a : Addr} (w1 : (Jvm.Cond.classLink own idx K0).before a0 Z = true) (F : Ins Z h a K0 true) (hd : decode bytes pc = .ok (.checkcast idx, 3)) (hn : pc + 3 = n)
    (K : ∀ T', Sd p l e R s m args below meth c n0 T' h cells slots → Gl p e below s n0 P C S (T'.setTop (mkF m n ls (.ref a :: st)))) : Gl p e below s n0 P C S (T.setTop (mkF m pc ls (.ref a :: st))) := by
  obtain ⟨locs, X, N, eh, hn0⟩ := X; obtain ⟨hx, hby, hZ, hown, -, hml, -⟩ := w; subst hn
  obtain ⟨T', X', e', st'⟩ := castY X hx hZ hown w1 eh F (g := mkF m pc ls (.ref a :: st)) rfl rfl (hb hby hd)
  exact Gl.of st' (K T' ⟨_, X', N, e', hn0⟩)
theorem gInstY (X : Sd p l e R s m args below meth c n0 T h cells slots) (w : Cx Z own nm bytes maxL ret p s m meth c) {K0 : String} {idx : Nat} {a : Addr} (w1 : (Jvm.Cond.classLink own idx K0).before a0 Z = true) (F : Ins Z h a K0 true) (hd : decode bytes pc = .ok (.instanceof idx, 3)) (hn : pc + 3 = n)
    (K : ∀ T', Sd p l e R s m args below meth c n0 T' h cells slots → Gl p e below s n0 P C S (T'.setTop (mkF m n ls (.int 1 :: st)))) : Gl p e below s n0 P C S (T.setTop (mkF m pc ls (.ref a :: st))) := by
  obtain ⟨locs, X, N, eh, hn0⟩ := X; obtain ⟨hx, hby, hZ, hown, -, hml, -⟩ := w; subst hn
  obtain ⟨T', X', e', st'⟩ := instY X hx hZ hown w1 eh F (g := mkF m pc ls (.ref a :: st)) rfl rfl (hb hby hd)
  exact Gl.of st' (K T' ⟨_, X', N, e', hn0⟩)
theorem gIastore (X : Sd p l e R s m args below meth c n0 T h cells slots) (w : Cx Z own nm bytes maxL ret p s m meth c) {a : Addr} {j : Int32} {x : Int32} {z : Value} {vs : List Value} (F : Av Z h a .int vs) (hj : 0 ≤ j.toInt) (hjv : j.toInt < vs.length) (ha : n0 ≤ a) (hz : Value.int x = z) {vs' : List Value} (hvs : vs.set j.toInt.toNat z = vs') (hd : decode bytes pc = .ok (.iastore, 1)) (hn : pc + 1 = n)
    (K : ∀ T' h', Sd p l e R s m args below meth c n0 T' h' cells slots → Wr h h' a j.toInt.toNat z → Av Z h' a .int vs' → Gl p e below s n0 P C S (T'.setTop (mkF m n ls st))) : Gl p e below s n0 P C S (T.setTop (mkF m pc ls (.int x :: .int j :: .ref a :: st))) := by
  obtain ⟨locs, X, N, eh, hn0⟩ := X; obtain ⟨hx, hby, hZ, hown, hnm, hml, -⟩ := w; subst hn hz hvs
  obtain ⟨cl, A, q⟩ := F
  obtain ⟨T', h', X', e', W', st'⟩ := stI X hx hZ eh A (j := j) (idxIn q hj hjv) (g := mkF m pc ls (.int x :: .int j :: .ref a :: st)) rfl rfl (hb hby hd)
  exact Gl.of st' (K T' h' ⟨_, X', Fr.snoc X' N ha, e', hn0⟩ W' (Av.set ⟨cl, A, q⟩ W'))
theorem gLastore (X : Sd p l e R s m args below meth c n0 T h cells slots) (w : Cx Z own nm bytes maxL ret p s m meth c) {a : Addr} {j : Int32} {x : Int64} {z : Value} {vs : List Value} (F : Av Z h a .long vs) (hj : 0 ≤ j.toInt) (hjv : j.toInt < vs.length) (ha : n0 ≤ a) (hz : Value.long x = z) {vs' : List Value} (hvs : vs.set j.toInt.toNat z = vs') (hd : decode bytes pc = .ok (.lastore, 1)) (hn : pc + 1 = n)
    (K : ∀ T' h', Sd p l e R s m args below meth c n0 T' h' cells slots → Wr h h' a j.toInt.toNat z → Av Z h' a .long vs' → Gl p e below s n0 P C S (T'.setTop (mkF m n ls st))) : Gl p e below s n0 P C S (T.setTop (mkF m pc ls (.long x :: .int j :: .ref a :: st))) := by
  obtain ⟨locs, X, N, eh, hn0⟩ := X; obtain ⟨hx, hby, hZ, hown, hnm, hml, -⟩ := w; subst hn hz hvs
  obtain ⟨cl, A, q⟩ := F
  obtain ⟨T', h', X', e', W', st'⟩ := stJ X hx hZ eh A (j := j) (idxIn q hj hjv) (g := mkF m pc ls (.long x :: .int j :: .ref a :: st)) rfl rfl (hb hby hd)
  exact Gl.of st' (K T' h' ⟨_, X', Fr.snoc X' N ha, e', hn0⟩ W' (Av.set ⟨cl, A, q⟩ W'))
theorem gCastore (X : Sd p l e R s m args below meth c n0 T h cells slots) (w : Cx Z own nm bytes maxL ret p s m meth c) {a : Addr} {j : Int32} {x : Int32} {z : Value} {vs : List Value} (F : Av Z h a .char vs) (hj : 0 ≤ j.toInt) (hjv : j.toInt < vs.length) (ha : n0 ≤ a) (hz : Value.int (nar .char x) = z) {vs' : List Value} (hvs : vs.set j.toInt.toNat z = vs') (hd : decode bytes pc = .ok (.castore, 1)) (hn : pc + 1 = n)
    (K : ∀ T' h', Sd p l e R s m args below meth c n0 T' h' cells slots → Wr h h' a j.toInt.toNat z → Av Z h' a .char vs' → Gl p e below s n0 P C S (T'.setTop (mkF m n ls st))) : Gl p e below s n0 P C S (T.setTop (mkF m pc ls (.int x :: .int j :: .ref a :: st))) := by
  obtain ⟨locs, X, N, eh, hn0⟩ := X; obtain ⟨hx, hby, hZ, hown, hnm, hml, -⟩ := w; subst hn hz hvs
  obtain ⟨cl, A, q⟩ := F
  obtain ⟨T', h', X', e', W', st'⟩ := stC X hx hZ eh A (j := j) (idxIn q hj hjv) (g := mkF m pc ls (.int x :: .int j :: .ref a :: st)) rfl rfl (hb hby hd)
  exact Gl.of st' (K T' h' ⟨_, X', Fr.snoc X' N ha, e', hn0⟩ W' (Av.set ⟨cl, A, q⟩ W'))
theorem gBastore (X : Sd p l e R s m args below meth c n0 T h cells slots) (w : Cx Z own nm bytes maxL ret p s m meth c) {a : Addr} {j : Int32} {x : Int32} {z : Value} {vs : List Value} (F : Av Z h a .byte vs) (hj : 0 ≤ j.toInt) (hjv : j.toInt < vs.length) (ha : n0 ≤ a) (hz : Value.int (nar .byte x) = z) {vs' : List Value} (hvs : vs.set j.toInt.toNat z = vs') (hd : decode bytes pc = .ok (.bastore, 1)) (hn : pc + 1 = n)
    (K : ∀ T' h', Sd p l e R s m args below meth c n0 T' h' cells slots → Wr h h' a j.toInt.toNat z → Av Z h' a .byte vs' → Gl p e below s n0 P C S (T'.setTop (mkF m n ls st))) : Gl p e below s n0 P C S (T.setTop (mkF m pc ls (.int x :: .int j :: .ref a :: st))) := by
  obtain ⟨locs, X, N, eh, hn0⟩ := X; obtain ⟨hx, hby, hZ, hown, hnm, hml, -⟩ := w; subst hn hz hvs
  obtain ⟨cl, A, q⟩ := F
  obtain ⟨T', h', X', e', W', st'⟩ := stB X hx hZ eh A (j := j) (idxIn q hj hjv) (g := mkF m pc ls (.int x :: .int j :: .ref a :: st)) rfl rfl (hb hby hd)
  exact Gl.of st' (K T' h' ⟨_, X', Fr.snoc X' N ha, e', hn0⟩ W' (Av.set ⟨cl, A, q⟩ W'))
theorem gIaload (X : Sd p l e R s m args below meth c n0 T h cells slots) (w : Cx Z own nm bytes maxL ret p s m meth c) {a : Addr} {j : Int32} {v : Value} {vs : List Value} (F : Av Z h a .int vs) (hj : 0 ≤ j.toInt) (hv : vs[j.toInt.toNat]? = some v) (hd : decode bytes pc = .ok (.iaload, 1)) (hn : pc + 1 = n) (K : Gl p e below s n0 P C S (T.setTop (mkF m n ls (v :: st)))) : Gl p e below s n0 P C S (T.setTop (mkF m pc ls (.int j :: .ref a :: st))) := by
  obtain ⟨locs, X, N, eh, hn0⟩ := X; obtain ⟨hx, hby, hZ, hown, hnm, hml, -⟩ := w; subst hn
  obtain ⟨cl, A, q⟩ := F
  have hlt : j.toInt.toNat < vs.length := (List.getElem?_eq_some_iff.mp hv).1
  exact Gl.of (fun t k => X.iaload hx (j := j) (v := v) (by rw [eh]; exact A.1) (State.isArrayOf_alike hZ.alike A.2.1) A.2.2 (idxIn q hj (by omega)) (by rw [q]; show vs.toArray[j.toInt.toNat]? = _; simpa using hv) (g := mkF m pc ls (.int j :: .ref a :: st)) rfl rfl (hb hby hd) _ k) K
theorem gCaload (X : Sd p l e R s m args below meth c n0 T h cells slots) (w : Cx Z own nm bytes maxL ret p s m meth c) {a : Addr} {j : Int32} {v : Value} {vs : List Value} (F : Av Z h a .char vs) (hj : 0 ≤ j.toInt) (hv : vs[j.toInt.toNat]? = some v) (hd : decode bytes pc = .ok (.caload, 1)) (hn : pc + 1 = n) (K : Gl p e below s n0 P C S (T.setTop (mkF m n ls (v :: st)))) : Gl p e below s n0 P C S (T.setTop (mkF m pc ls (.int j :: .ref a :: st))) := by
  obtain ⟨locs, X, N, eh, hn0⟩ := X; obtain ⟨hx, hby, hZ, hown, hnm, hml, -⟩ := w; subst hn
  obtain ⟨cl, A, q⟩ := F
  have hlt : j.toInt.toNat < vs.length := (List.getElem?_eq_some_iff.mp hv).1
  exact Gl.of (fun t k => X.caload hx (j := j) (v := v) (by rw [eh]; exact A.1) (State.isArrayOf_alike hZ.alike A.2.1) A.2.2 (idxIn q hj (by omega)) (by rw [q]; show vs.toArray[j.toInt.toNat]? = _; simpa using hv) (g := mkF m pc ls (.int j :: .ref a :: st)) rfl rfl (hb hby hd) _ k) K
theorem gBaload (X : Sd p l e R s m args below meth c n0 T h cells slots) (w : Cx Z own nm bytes maxL ret p s m meth c) {a : Addr} {j : Int32} {v : Value} {vs : List Value} (F : Av Z h a .byte vs) (hj : 0 ≤ j.toInt) (hv : vs[j.toInt.toNat]? = some v) (hd : decode bytes pc = .ok (.baload, 1)) (hn : pc + 1 = n) (K : Gl p e below s n0 P C S (T.setTop (mkF m n ls (v :: st)))) : Gl p e below s n0 P C S (T.setTop (mkF m pc ls (.int j :: .ref a :: st))) := by
  obtain ⟨locs, X, N, eh, hn0⟩ := X; obtain ⟨hx, hby, hZ, hown, hnm, hml, -⟩ := w; subst hn
  obtain ⟨cl, A, q⟩ := F
  have hlt : j.toInt.toNat < vs.length := (List.getElem?_eq_some_iff.mp hv).1
  exact Gl.of (fun t k => X.baloadBytes hx (j := j) (v := v) (by rw [eh]; exact A.1) (State.isArrayOf_alike hZ.alike A.2.1) A.2.2 (idxIn q hj (by omega)) (by rw [q]; show vs.toArray[j.toInt.toNat]? = _; simpa using hv) (g := mkF m pc ls (.int j :: .ref a :: st)) rfl rfl (hb hby hd) _ k) K
theorem gLaload (X : Sd p l e R s m args below meth c n0 T h cells slots) (w : Cx Z own nm bytes maxL ret p s m meth c) {a : Addr} {j : Int32} {v : Value} {vs : List Value} (F : Av Z h a .long vs) (hj : 0 ≤ j.toInt) (hv : vs[j.toInt.toNat]? = some v) (hd : decode bytes pc = .ok (.laload, 1)) (hn : pc + 1 = n) (K : Gl p e below s n0 P C S (T.setTop (mkF m n ls (v :: st)))) : Gl p e below s n0 P C S (T.setTop (mkF m pc ls (.int j :: .ref a :: st))) := by
  obtain ⟨locs, X, N, eh, hn0⟩ := X; obtain ⟨hx, hby, hZ, hown, hnm, hml, -⟩ := w; subst hn
  obtain ⟨cl, A, q⟩ := F
  have hlt : j.toInt.toNat < vs.length := (List.getElem?_eq_some_iff.mp hv).1
  exact Gl.of (fun t k => X.laload hx (j := j) (v := v) (by rw [eh]; exact A.1) (State.isArrayOf_alike hZ.alike A.2.1) A.2.2 (idxIn q hj (by omega)) (by rw [q]; show vs.toArray[j.toInt.toNat]? = _; simpa using hv) (g := mkF m pc ls (.int j :: .ref a :: st)) rfl rfl (hb hby hd) _ k) K
theorem Av.arv {a : Addr} {ty : FieldType} {vs : List Value} (dv : Value) (F : Av Z h a ty vs) (hf : ∀ v ∈ vs, fits ty v = true) (hl : vs.length < 2 ^ 31) : ∃ k, Arv Z h a k ty vs.length.toInt32 vs dv := by
  obtain ⟨c, A, q⟩ := F
  have hz : vs.length.toInt32.toInt = vs.length := len_toInt hl
  have hc : vs.length.toInt32.toNatClampNeg = vs.length := by show vs.length.toInt32.toInt.toNat = _; rw [hz]; rfl
  have hs : c.slots.size = vs.length := by rw [q]; simp
  refine ⟨c.cls, c, A, rfl, by rw [hc, hs], fun g => by have := (XT.negI32 _).mp g; omega, fun i hi => ?_, fun i hi => ?_⟩
  · rw [hs] at hi; rw [q]; simp [hi]
  · rw [hs] at hi; rw [List.getD_eq_getElem?_getD, List.getElem?_eq_getElem hi]; exact hf _ (List.getElem_mem hi)
theorem avOf {a : Addr} {k : ClassId} {ty : FieldType} {z : Int32} {vs : List Value} {dv : Value} (F : Arv Z h a k ty z vs dv) (hl : z.toNatClampNeg = vs.length) : Av Z h a ty vs := by
  obtain ⟨c, A, -, S, -, H, -⟩ := F
  refine ⟨c, A, Array.ext_getElem? fun i => ?_⟩
  by_cases hi : i < c.slots.size
  · rw [H i hi]; rw [S, hl] at hi; simp [hi]
  · rw [Array.getElem?_eq_none (by omega)]; rw [S, hl] at hi; simp; omega
theorem gAcopy (X : Sd p l e R s m args below meth c n0 T h cells slots) (w : Cx Z own nm bytes maxL ret p s m meth c) {idx W : Nat} {a b : Addr} {ty : FieldType} {va vb vs' : List Value} {sp dp nn : Int32} (dv : Value) (A : Av Z h a ty va) (B : Av Z h b ty vb) (hty : refKind ty = false) (fa : ∀ v ∈ va, fits ty v = true) (fb : ∀ v ∈ vb, fits ty v = true) (la : va.length < 2 ^ 31) (lb : vb.length < 2 ^ 31)
    (w1 : (Jvm.Cond.methodLink own idx Jvm.Stand.acN).before a0 Z = true) (w2 : (Jvm.Cond.native Jvm.Stand.acN).before a0 Z = true) (w3 : (Jvm.Cond.static Jvm.Stand.acN).before a0 Z = true) (w4 : (Jvm.Cond.initialized "java/lang/System").before a0 Z = true)
    (h1 : 0 ≤ sp.toInt) (h2 : 0 ≤ dp.toInt) (h3 : 0 ≤ nn.toInt) (h4 : sp.toInt + nn.toInt ≤ va.length) (h5 : dp.toInt + nn.toInt ≤ vb.length) (hvs : vb.take dp.toInt.toNat ++ ((List.range nn.toInt.toNat).map fun i => va.getD (sp.toInt.toNat + i) dv) ++ vb.drop (dp.toInt.toNat + nn.toInt.toNat) = vs') (ge : n0 ≤ b)
    (hd : decode bytes pc = .ok (.invokestatic idx, 3)) (hsz : ls.size = maxL) (hf : 1 ≤ R.frames) (hW : (st.map fun v => v.category).sum ≤ W) (hl : W + (nativeFrameWords "java/lang/System" "arraycopy" 5 + 11) ≤ R.locals) (hn : pc + 3 = n)
    (K : ∀ T' h', Sd p l e R s m args below meth c n0 T' h' cells slots → Keep h h' [b] → Av Z h' b ty vs' → Gl p e below s n0 P C S (T'.setTop (mkF m n ls st))) : Gl p e below s n0 P C S (T.setTop (mkF m pc ls (.int nn :: .int dp :: .ref b :: .int sp :: .ref a :: st))) := by
  obtain ⟨locs, X, N, eh, hn0⟩ := X; obtain ⟨hx, hby, hZ, hown, -, hml, -⟩ := w; subst hn hvs
  obtain ⟨ka, A⟩ := A.arv dv fa la
  obtain ⟨kb, B⟩ := B.arv dv fb lb
  have za : va.length.toInt32.toNatClampNeg = va.length := by show va.length.toInt32.toInt.toNat = _; rw [len_toInt la]; rfl
  have zb : vb.length.toInt32.toNatClampNeg = vb.length := by show vb.length.toInt32.toInt.toNat = _; rw [len_toInt lb]; rfl
  have n1 : ¬ sp < 0 := fun g => by have := (XT.negI32 _).mp g; omega
  have n2 : ¬ dp < 0 := fun g => by have := (XT.negI32 _).mp g; omega
  have n3 : ¬ nn < 0 := fun g => by have := (XT.negI32 _).mp g; omega
  have e1 : sp.toNatClampNeg = sp.toInt.toNat := rfl
  have e2 : dp.toNatClampNeg = dp.toInt.toNat := rfl
  have e3 : nn.toNatClampNeg = nn.toInt.toNat := rfl
  obtain ⟨T', h', L, X', e', N', K', B', st'⟩ := cpA X hx hZ hown w1 w2 w3 w4 eh A B (Or.inl ⟨rfl, hty⟩) n1 n2 n3 (by rw [za, e1, e3]; omega) (by rw [zb, e2, e3]; omega) rfl (by rw [e2, e3]; omega) N ge (g := mkF m pc ls (.int nn :: .int dp :: .ref b :: .int sp :: .ref a :: st)) rfl (by rw [hml]; exact hsz) rfl (hb hby hd) hf (W := W) (by show 2 * 0 + _ ≤ _; rw [Nat.mul_zero, Nat.zero_add]; exact hW) hl
  exact Gl.of st' (K T' h' ⟨L, X', N', e', hn0⟩ K' (avOf B' (by rw [zb, List.length_append, List.length_append, List.length_take, List.length_map, List.length_range, List.length_drop]; omega)))
theorem gAlen (X : Sd p l e R s m args below meth c n0 T h cells slots) (w : Cx Z own nm bytes maxL ret p s m meth c) {a : Addr} {ty : FieldType} {vs : List Value} {z : Int32} (F : Av Z h a ty vs) (hz : vs.length.toInt32 = z) (hd : decode bytes pc = .ok (.arraylength, 1)) (hn : pc + 1 = n) (K : Gl p e below s n0 P C S (T.setTop (mkF m n ls (.int z :: st)))) : Gl p e below s n0 P C S (T.setTop (mkF m pc ls (.ref a :: st))) := by
  obtain ⟨locs, X, N, eh, hn0⟩ := X; obtain ⟨hx, hby, hZ, hown, hnm, hml, -⟩ := w; subst hn hz
  obtain ⟨cl, A, q⟩ := F
  have hs : cl.slots.size = vs.length := by rw [q]; simp
  rw [← hs] at K
  exact Gl.of (fun t k => X.arraylength hx (by rw [eh]; exact A.1) (State.isArrayOf_alike hZ.alike A.2.1) (g := mkF m pc ls (.ref a :: st)) rfl rfl (hb hby hd) _ k) K
theorem eqR {args : Array Value} {s : State} {t u : Term} {b : Addr} (hu : u.eval args s none [] s = some (.ref b)) (h : (Jvm.Cond.eq t u).value args s none s [] = some true) : t.eval args s none [] s = some (.ref b) := by
  obtain ⟨x, y, hx, hy, k1, k2⟩ := cmp_v (Or.inl h)
  cases hu.symm.trans hy
  obtain ⟨-, q⟩ := (k2 : (Value.ref b).isRef = true ∧ x.isRef = true)
  have e := gotT (eq_R hx hy q rfl) h
  rw [hx, e]
theorem eqI {args : Array Value} {s : State} {t u : Term} {z : Int32} (hu : u.eval args s none [] s = some (.int z)) (h : (Jvm.Cond.eq t u).value args s none s [] = some true) : t.eval args s none [] s = some (.int z) := by
  obtain ⟨x, y, hx, hy, k1, k2⟩ := cmp_v (Or.inl h)
  cases hu.symm.trans hy
  obtain ⟨x', rfl⟩ := (k2 : ∃ z', x = .int z')
  have e : some (decide (x' = z)) = some true := by rw [← h]; simp [Cond.value, hx, hy]
  have e' : x' = z := by simpa using e
  rw [hx, e']
theorem mask31 (x : Int32) : (x &&& 2147483647).toInt = x.toInt % 2147483648 := c_mask x 2147483647 31 (by decide) (by decide)
theorem irem_pos {x y : Int32} (hx : 0 ≤ x.toInt) : (x % y).toInt = x.toInt % y.toInt := (c_irem x y _ rfl).1 hx
theorem lrem_pos {x y : Int64} (hx : 0 ≤ x.toInt) : (x % y).toInt = x.toInt % y.toInt := by rw [← lrem_mod]; exact (c_lrem x y _ rfl).1 hx
theorem ne0I {x : Int32} (h : x.toInt ≠ 0) : x ≠ 0 := fun e => h (by rw [e]; rfl)
theorem ne0L {x : Int64} (h : x.toInt ≠ 0) : x ≠ 0 := fun e => h (by rw [e]; rfl)
theorem iadd_toInt {x y : Int32} (h1 : -2147483648 ≤ x.toInt + y.toInt) (h2 : x.toInt + y.toInt < 2147483648) : (x + y).toInt = x.toInt + y.toInt := XT.add32 ⟨by omega, by omega⟩
theorem isub_toInt {x y : Int32} (h1 : -2147483648 ≤ x.toInt - y.toInt) (h2 : x.toInt - y.toInt < 2147483648) : (x - y).toInt = x.toInt - y.toInt := XT.sub32 ⟨by omega, by omega⟩
theorem ladd_toInt {x y : Int64} (h1 : -9223372036854775808 ≤ x.toInt + y.toInt) (h2 : x.toInt + y.toInt < 9223372036854775808) : (x + y).toInt = x.toInt + y.toInt := XT.add64 ⟨by omega, by omega⟩
theorem lsub_toInt {x y : Int64} (h1 : -9223372036854775808 ≤ x.toInt - y.toInt) (h2 : x.toInt - y.toInt < 9223372036854775808) : (x - y).toInt = x.toInt - y.toInt := XT.sub64 ⟨by omega, by omega⟩
theorem l2i_toInt {x : Int64} (h1 : -2147483648 ≤ x.toInt) (h2 : x.toInt < 2147483648) : x.toInt32.toInt = x.toInt := XT.narrowInt ⟨by omega, by omega⟩
end Walk
end Jvm.OwnWalk
namespace Jvm.Pilot.@@N@@
open Jvm Jvm.ClassFile Sem Op Lib Jvm.Free Jvm.Stand Jvm.LawKit Jvm.RoadKit Bundle Jvm.OwnWalk Jvm.Pilot.@@N@@.Jvm.D
theorem own_wd {a0 : Array Value} {Z : State} (hw : ∀ d ∈ tables_1, d.before a0 Z = true) (i : Nat) {d : Jvm.Cond} (q : tables_1[i]? = some d) : d.before a0 Z = true := hw _ (List.mem_of_getElem? q)
theorem d1_0 : decode jdk_29_method_65_code 0 = .ok (.iload_n 0, 1) := by decide +kernel
theorem d1_1 : decode jdk_29_method_65_code 1 = .ok (.iload_n 1, 1) := by decide +kernel
theorem d1_2 : decode jdk_29_method_65_code 2 = .ok (.if_icmp .lt 7, 3) := by decide +kernel
theorem d1_5 : decode jdk_29_method_65_code 5 = .ok (.iload_n 0, 1) := by decide +kernel
theorem d1_6 : decode jdk_29_method_65_code 6 = .ok (.goto 4, 3) := by decide +kernel
theorem d1_9 : decode jdk_29_method_65_code 9 = .ok (.iload_n 1, 1) := by decide +kernel
theorem d1_10 : decode jdk_29_method_65_code 10 = .ok (.ireturn, 1) := by decide +kernel
theorem d2_0 : decode prog_18_method_1_code 0 = .ok (.aload_n 0, 1) := by decide +kernel
theorem d2_1 : decode prog_18_method_1_code 1 = .ok (.invokespecial 1, 3) := by decide +kernel
theorem d2_4 : decode prog_18_method_1_code 4 = .ok (.aload_n 0, 1) := by decide +kernel
theorem d2_5 : decode prog_18_method_1_code 5 = .ok (.aload_n 1, 1) := by decide +kernel
theorem d2_6 : decode prog_18_method_1_code 6 = .ok (.putfield 7, 3) := by decide +kernel
theorem d2_9 : decode prog_18_method_1_code 9 = .ok (.aload_n 0, 1) := by decide +kernel
theorem d2_10 : decode prog_18_method_1_code 10 = .ok (.aload_n 2, 1) := by decide +kernel
theorem d2_11 : decode prog_18_method_1_code 11 = .ok (.putfield 13, 3) := by decide +kernel
theorem d2_14 : decode prog_18_method_1_code 14 = .ok (.aload_n 0, 1) := by decide +kernel
theorem d2_15 : decode prog_18_method_1_code 15 = .ok (.aload_n 3, 1) := by decide +kernel
theorem d2_16 : decode prog_18_method_1_code 16 = .ok (.putfield 16, 3) := by decide +kernel
theorem d2_19 : decode prog_18_method_1_code 19 = .ok (.return_, 1) := by decide +kernel
theorem d4_0 : decode prog_18_method_4_code 0 = .ok (.lconst 0, 1) := by decide +kernel
theorem d4_1 : decode prog_18_method_4_code 1 = .ok (.lstore_n 1, 1) := by decide +kernel
theorem d4_2 : decode prog_18_method_4_code 2 = .ok (.aload_n 0, 1) := by decide +kernel
theorem d4_3 : decode prog_18_method_4_code 3 = .ok (.getfield 16, 3) := by decide +kernel
theorem d4_6 : decode prog_18_method_4_code 6 = .ok (.astore_n 3, 1) := by decide +kernel
theorem d4_7 : decode prog_18_method_4_code 7 = .ok (.aload_n 3, 1) := by decide +kernel
theorem d4_8 : decode prog_18_method_4_code 8 = .ok (.arraylength, 1) := by decide +kernel
theorem d4_9 : decode prog_18_method_4_code 9 = .ok (.istore 4, 2) := by decide +kernel
theorem d4_11 : decode prog_18_method_4_code 11 = .ok (.iconst 0, 1) := by decide +kernel
theorem d4_12 : decode prog_18_method_4_code 12 = .ok (.istore 5, 2) := by decide +kernel
theorem d4_14 : decode prog_18_method_4_code 14 = .ok (.iload 5, 2) := by decide +kernel
theorem d4_16 : decode prog_18_method_4_code 16 = .ok (.iload 4, 2) := by decide +kernel
theorem d4_18 : decode prog_18_method_4_code 18 = .ok (.if_icmp .ge 21, 3) := by decide +kernel
theorem d4_21 : decode prog_18_method_4_code 21 = .ok (.aload_n 3, 1) := by decide +kernel
theorem d4_22 : decode prog_18_method_4_code 22 = .ok (.iload 5, 2) := by decide +kernel
theorem d4_24 : decode prog_18_method_4_code 24 = .ok (.iaload, 1) := by decide +kernel
theorem d4_25 : decode prog_18_method_4_code 25 = .ok (.istore 6, 2) := by decide +kernel
theorem d4_27 : decode prog_18_method_4_code 27 = .ok (.lload_n 1, 1) := by decide +kernel
theorem d4_28 : decode prog_18_method_4_code 28 = .ok (.iload 6, 2) := by decide +kernel
theorem d4_30 : decode prog_18_method_4_code 30 = .ok (.i2l, 1) := by decide +kernel
theorem d4_31 : decode prog_18_method_4_code 31 = .ok (.ladd, 1) := by decide +kernel
theorem d4_32 : decode prog_18_method_4_code 32 = .ok (.lstore_n 1, 1) := by decide +kernel
theorem d4_33 : decode prog_18_method_4_code 33 = .ok (.iinc 5 1, 3) := by decide +kernel
theorem d4_36 : decode prog_18_method_4_code 36 = .ok (.goto (-22), 3) := by decide +kernel
theorem d4_39 : decode prog_18_method_4_code 39 = .ok (.lload_n 1, 1) := by decide +kernel
theorem d4_40 : decode prog_18_method_4_code 40 = .ok (.lreturn, 1) := by decide +kernel
theorem own_pd0 : parseMethodDescriptor "(II)I" = some ⟨[.int, .int], some .int⟩ := by decide +kernel
theorem own_pd1 : parseMethodDescriptor "([I[I[I)V" = some ⟨[(.array .int), (.array .int), (.array .int)], none⟩ := by decide +kernel
theorem own_pd2 : parseMethodDescriptor "()J" = some ⟨[], some .long⟩ := by decide +kernel
set_option maxRecDepth 65536 in
set_option maxHeartbeats 40000000 in
theorem own_max (l : Launch) (Z : State) (a0 : Array Value) (hw : ∀ d ∈ tables_1, d.before a0 Z = true) (p1 p2 : Int32) (h0 : Heap) (n0 : Nat) (hn : n0 ≤ h0.size)  :
    ConV l Z (⟨"java/lang/Math", "max", "(II)I"⟩ : MethodName) jdk_29_method_65_code 2 (some .int) ({ frames := 0, cells := 0, slots := 0, locals := 0 } : Room) #[(.int p1), (.int p2)] h0 n0 (fun v h => h0 = h ∧ ∃ z : Int32, v = .int z ∧ z.toInt = max p1.toInt p2.toInt) := by
  refine Con.of (Jvm.Free.JP.mathPlain rfl (by decide +kernel)) hn ?_
  intro p e s m below meth c T w X
  refine Gl.enter (ls := #[.val (.int p1), .val (.int p2)]) (by first | rfl | (simp [entryFrame, mkF, argsToLocals, Value.category]; done)) ?_
  refine gIloadN X w d1_0 rfl (n := 1) rfl ?_
  refine gIloadN X w d1_1 rfl (n := 2) rfl ?_
  refine gIcmp_lt X w d1_2 (n := 9) (n' := 5) (by decide) rfl rfl ?_ ?_
  · intro c2
    refine gIloadN X w d1_9 rfl (n := 10) rfl ?_
    exact gRetI X w rfl d1_10 (by decide) (by decide) (⟨_, rfl, rfl, _, rfl, by omega⟩)
  · intro c2
    refine gIloadN X w d1_5 rfl (n := 6) rfl ?_
    refine gGoto X w d1_6 (by decide) (n := 10) rfl ?_
    exact gRetI X w rfl d1_10 (by decide) (by decide) (⟨_, rfl, rfl, _, rfl, by omega⟩)
set_option maxRecDepth 65536 in
set_option maxHeartbeats 40000000 in
theorem own_init (l : Launch) (Z : State) (a0 : Array Value) (hw : ∀ d ∈ tables_1, d.before a0 Z = true) (a b1 b2 b3 : Addr) (h0 : Heap) (n0 : Nat) (hn : n0 ≤ h0.size) (na : n0 ≤ a) (A0 : Exa Z h0 a "com/example/nanchang/nanchang/index/FieldCounts") (F0 : Fld Z h0 a "com/example/nanchang/nanchang/index/FieldCounts" "starts" "[I" .null) (F1 : Fld Z h0 a "com/example/nanchang/nanchang/index/FieldCounts" "fields" "[I" .null) (F2 : Fld Z h0 a "com/example/nanchang/nanchang/index/FieldCounts" "counts" "[I" .null) :
    ConN l Z (⟨"com/example/nanchang/nanchang/index/FieldCounts", "<init>", "([I[I[I)V"⟩ : MethodName) prog_18_method_1_code 4 ({ frames := 1, cells := 0, slots := 0, locals := 12 } : Room) #[(.ref a), (.ref b1), (.ref b2), (.ref b3)] h0 n0 (fun h => Keep h0 h [a] ∧ Exa Z h a "com/example/nanchang/nanchang/index/FieldCounts" ∧ Fld Z h a "com/example/nanchang/nanchang/index/FieldCounts" "counts" "[I" (.ref b3)) := by
  refine Con.of (plainFor_of_name (by first | (simp [plainName, overriddenIn]; done) | decide +kernel)) hn ?_
  intro p e s m below meth c T w X
  refine Gl.enter (ls := #[.val (.ref a), .val (.ref b1), .val (.ref b2), .val (.ref b3)]) (by first | rfl | (simp [entryFrame, mkF, argsToLocals, Value.category]; done)) ?_
  refine gAloadN X w d2_0 rfl rfl (n := 1) rfl ?_
  refine gInitO X w (own_wd hw 12 rfl) (own_wd hw 13 rfl) (own_wd hw 14 rfl) d2_1 rfl (by decide) (W := 0) (Nat.le_of_eq rfl) (by decide) (n := 4) rfl ?_
  intro T X
  refine gAloadN X w d2_4 rfl rfl (n := 5) rfl ?_
  refine gAloadN X w d2_5 rfl rfl (n := 6) rfl ?_
  refine gPutF X w (own_wd hw 15 rfl) Via.refl F0 A0 (Or.inr ⟨own_wd hw 16 rfl, rfl, rfl⟩) (own_wd hw 7 rfl) na (ty := (.array .int)) (by decide) rfl rfl d2_6 (n := 9) rfl ?_
  intro T hp6 X W6
  have F_1 := A0.wr W6
  have F_2 := F0.same W6
  have F_3 := F1.other W6 (Or.inr (slot_ne (Or.inr (own_wd hw 18 rfl) : Laid Z a0 _ _ _ _) (Or.inr (own_wd hw 16 rfl) : Laid Z a0 _ _ _ _) (by decide) (t := (.array .int)) (t' := (.array .int)) (by decide) (by decide)))
  have F_4 := F2.other W6 (Or.inr (slot_ne (Or.inr (own_wd hw 20 rfl) : Laid Z a0 _ _ _ _) (Or.inr (own_wd hw 16 rfl) : Laid Z a0 _ _ _ _) (by decide) (t := (.array .int)) (t' := (.array .int)) (by decide) (by decide)))
  refine gAloadN X w d2_9 rfl rfl (n := 10) rfl ?_
  refine gAloadN X w d2_10 rfl rfl (n := 11) rfl ?_
  refine gPutF X w (own_wd hw 17 rfl) Via.refl F_3 F_1 (Or.inr ⟨own_wd hw 18 rfl, rfl, rfl⟩) (own_wd hw 7 rfl) na (ty := (.array .int)) (by decide) rfl rfl d2_11 (n := 14) rfl ?_
  intro T hp11 X W11
  have F_5 := F_1.wr W11
  have F_6 := F_2.other W11 (Or.inr (slot_ne (Or.inr (own_wd hw 16 rfl) : Laid Z a0 _ _ _ _) (Or.inr (own_wd hw 18 rfl) : Laid Z a0 _ _ _ _) (by decide) (t := (.array .int)) (t' := (.array .int)) (by decide) (by decide)))
  have F_7 := F_3.same W11
  have F_8 := F_4.other W11 (Or.inr (slot_ne (Or.inr (own_wd hw 20 rfl) : Laid Z a0 _ _ _ _) (Or.inr (own_wd hw 18 rfl) : Laid Z a0 _ _ _ _) (by decide) (t := (.array .int)) (t' := (.array .int)) (by decide) (by decide)))
  refine gAloadN X w d2_14 rfl rfl (n := 15) rfl ?_
  refine gAloadN X w d2_15 rfl rfl (n := 16) rfl ?_
  refine gPutF X w (own_wd hw 19 rfl) Via.refl F_8 F_5 (Or.inr ⟨own_wd hw 20 rfl, rfl, rfl⟩) (own_wd hw 7 rfl) na (ty := (.array .int)) (by decide) rfl rfl d2_16 (n := 19) rfl ?_
  intro T hp16 X W16
  have F_9 := F_5.wr W16
  have F_10 := F_6.other W16 (Or.inr (slot_ne (Or.inr (own_wd hw 16 rfl) : Laid Z a0 _ _ _ _) (Or.inr (own_wd hw 20 rfl) : Laid Z a0 _ _ _ _) (by decide) (t := (.array .int)) (t' := (.array .int)) (by decide) (by decide)))
  have F_11 := F_7.other W16 (Or.inr (slot_ne (Or.inr (own_wd hw 18 rfl) : Laid Z a0 _ _ _ _) (Or.inr (own_wd hw 20 rfl) : Laid Z a0 _ _ _ _) (by decide) (t := (.array .int)) (t' := (.array .int)) (by decide) (by decide)))
  have F_12 := F_8.same W16
  exact gRetV X w rfl d2_19 (by decide) (by decide) (⟨rfl, (((Keep.refl _ _).wr W6 (Or.inl (List.mem_singleton.mpr rfl))).wr W11 (Or.inl (List.mem_singleton.mpr rfl))).wr W16 (Or.inl (List.mem_singleton.mpr rfl)), F_9, F_12⟩)
set_option maxRecDepth 65536 in
set_option maxHeartbeats 40000000 in
theorem own_total_0 (l : Launch) (Z : State) (a0 : Array Value) (hw : ∀ d ∈ tables_1, d.before a0 Z = true) (a b : Addr) (h0 : Heap) (n0 : Nat) (hn : n0 ≤ h0.size) (F1 : Fld Z h0 a "com/example/nanchang/nanchang/index/FieldCounts" "counts" "[I" (.ref b)) (V1 : Av Z h0 b .int []) :
    ConV l Z (⟨"com/example/nanchang/nanchang/index/FieldCounts", "total", "()J"⟩ : MethodName) prog_18_method_4_code 7 (some .long) ({ frames := 0, cells := 0, slots := 0, locals := 0 } : Room) #[(.ref a)] h0 n0 (fun v h => h0 = h ∧ ∃ z : Int64, v = .long z ∧ z.toInt = 0) := by
  refine Con.of (plainFor_of_name (by first | (simp [plainName, overriddenIn]; done) | decide +kernel)) hn ?_
  intro p e s m below meth c T w X
  refine Gl.enter (ls := #[.val (.ref a), .unset, .unset, .unset, .unset, .unset, .unset]) (by first | rfl | (simp [entryFrame, mkF, argsToLocals, Value.category]; done)) ?_
  have z0 : (0 : Int64).toInt = 0 := rfl
  refine gLconst X w d4_0 (z := (0 : Int64)) (by decide) (n := 1) rfl ?_
  refine gJstoreN X w d4_1 #[.val (.ref a), .val (.long (0 : Int64)), .second, .unset, .unset, .unset, .unset] rfl (n := 2) rfl ?_
  refine gAloadN X w d4_2 rfl rfl (n := 3) rfl ?_
  refine gGetF X w (own_wd hw 19 rfl) Via.refl F1 d4_3 (n := 6) rfl ?_
  intro T X
  refine gAstoreN X w d4_6 rfl #[.val (.ref a), .val (.long (0 : Int64)), .second, .val (.ref b), .unset, .unset, .unset] rfl (n := 7) rfl ?_
  refine gAloadN X w d4_7 rfl rfl (n := 8) rfl ?_
  refine gAlen X w V1 (z := (0 : Int32)) rfl d4_8 (n := 9) rfl ?_
  refine gIstore X w d4_9 #[.val (.ref a), .val (.long (0 : Int64)), .second, .val (.ref b), .val (.int (0 : Int32)), .unset, .unset] rfl (n := 11) rfl ?_
  refine gIconst X w d4_11 (z := (0 : Int32)) rfl (n := 12) rfl ?_
  refine gIstore X w d4_12 #[.val (.ref a), .val (.long (0 : Int64)), .second, .val (.ref b), .val (.int (0 : Int32)), .val (.int (0 : Int32)), .unset] rfl (n := 14) rfl ?_
  refine gIload X w d4_14 rfl (n := 16) rfl ?_
  refine gIload X w d4_16 rfl (n := 18) rfl ?_
  refine gIcmp_ge X w d4_18 (n := 39) (n' := 21) (by decide) rfl rfl ?_ ?_
  · intro c18
    refine gJloadN X w d4_39 rfl (n := 40) rfl ?_
    exact gRetJ X w rfl d4_40 (by decide) (by decide) (⟨_, rfl, rfl, (0 : Int64), rfl, by omega⟩)
  · intro c18
    exact absurd c18 (by decide)
set_option maxRecDepth 65536 in
set_option maxHeartbeats 40000000 in
theorem own_total_1 (l : Launch) (Z : State) (a0 : Array Value) (hw : ∀ d ∈ tables_1, d.before a0 Z = true) (a b : Addr) (c0 : Int32) (h0 : Heap) (n0 : Nat) (hn : n0 ≤ h0.size) (F1 : Fld Z h0 a "com/example/nanchang/nanchang/index/FieldCounts" "counts" "[I" (.ref b)) (V1 : Av Z h0 b .int [.int c0]) :
    ConV l Z (⟨"com/example/nanchang/nanchang/index/FieldCounts", "total", "()J"⟩ : MethodName) prog_18_method_4_code 7 (some .long) ({ frames := 0, cells := 0, slots := 0, locals := 0 } : Room) #[(.ref a)] h0 n0 (fun v h => h0 = h ∧ ∃ z : Int64, v = .long z ∧ z.toInt = 0 + c0.toInt) := by
  refine Con.of (plainFor_of_name (by first | (simp [plainName, overriddenIn]; done) | decide +kernel)) hn ?_
  intro p e s m below meth c T w X
  refine Gl.enter (ls := #[.val (.ref a), .unset, .unset, .unset, .unset, .unset, .unset]) (by first | rfl | (simp [entryFrame, mkF, argsToLocals, Value.category]; done)) ?_
  have z0 : (0 : Int64).toInt = 0 := rfl
  refine gLconst X w d4_0 (z := (0 : Int64)) (by decide) (n := 1) rfl ?_
  refine gJstoreN X w d4_1 #[.val (.ref a), .val (.long (0 : Int64)), .second, .unset, .unset, .unset, .unset] rfl (n := 2) rfl ?_
  refine gAloadN X w d4_2 rfl rfl (n := 3) rfl ?_
  refine gGetF X w (own_wd hw 19 rfl) Via.refl F1 d4_3 (n := 6) rfl ?_
  intro T X
  refine gAstoreN X w d4_6 rfl #[.val (.ref a), .val (.long (0 : Int64)), .second, .val (.ref b), .unset, .unset, .unset] rfl (n := 7) rfl ?_
  refine gAloadN X w d4_7 rfl rfl (n := 8) rfl ?_
  refine gAlen X w V1 (z := (1 : Int32)) rfl d4_8 (n := 9) rfl ?_
  refine gIstore X w d4_9 #[.val (.ref a), .val (.long (0 : Int64)), .second, .val (.ref b), .val (.int (1 : Int32)), .unset, .unset] rfl (n := 11) rfl ?_
  refine gIconst X w d4_11 (z := (0 : Int32)) rfl (n := 12) rfl ?_
  refine gIstore X w d4_12 #[.val (.ref a), .val (.long (0 : Int64)), .second, .val (.ref b), .val (.int (1 : Int32)), .val (.int (0 : Int32)), .unset] rfl (n := 14) rfl ?_
  refine gIload X w d4_14 rfl (n := 16) rfl ?_
  refine gIload X w d4_16 rfl (n := 18) rfl ?_
  refine gIcmp_ge X w d4_18 (n := 39) (n' := 21) (by decide) rfl rfl ?_ ?_
  · intro c18
    exact absurd c18 (by decide)
  · intro c18
    refine gAloadN X w d4_21 rfl rfl (n := 22) rfl ?_
    refine gIload X w d4_22 rfl (n := 24) rfl ?_
    refine gIaload X w V1 (by decide) rfl d4_24 (n := 25) rfl ?_
    refine gIstore X w d4_25 #[.val (.ref a), .val (.long (0 : Int64)), .second, .val (.ref b), .val (.int (1 : Int32)), .val (.int (0 : Int32)), .val (.int c0)] rfl (n := 27) rfl ?_
    refine gJloadN X w d4_27 rfl (n := 28) rfl ?_
    refine gIload X w d4_28 rfl (n := 30) rfl ?_
    obtain ⟨y30, q30⟩ : ∃ zz_ : Int64, Int32.toInt64 c0 = zz_ := ⟨_, rfl⟩
    refine gI2l X w d4_30 q30 (n := 31) rfl ?_
    have f30 : y30.toInt = c0.toInt := by rw [← q30]; exact c_i2l _
    have r30 := rng32 c0
    obtain ⟨y31, q31⟩ : ∃ zz_ : Int64, (0 : Int64) + y30 = zz_ := ⟨_, rfl⟩
    refine gLadd X w d4_31 q31 (n := 32) rfl ?_
    have f31 : y31.toInt = ((0 : Int64)).toInt + (y30).toInt := by rw [← q31]; exact ladd_toInt (by omega) (by omega)
    refine gJstoreN X w d4_32 #[.val (.ref a), .val (.long y31), .second, .val (.ref b), .val (.int (1 : Int32)), .val (.int (0 : Int32)), .val (.int c0)] rfl (n := 33) rfl ?_
    refine gIinc X w d4_33 rfl (z := (1 : Int32)) (by decide) #[.val (.ref a), .val (.long y31), .second, .val (.ref b), .val (.int (1 : Int32)), .val (.int (1 : Int32)), .val (.int c0)] rfl (n := 36) rfl ?_
    refine gGoto X w d4_36 (by decide) (n := 14) rfl ?_
    refine gIload X w d4_14 rfl (n := 16) rfl ?_
    refine gIload X w d4_16 rfl (n := 18) rfl ?_
    refine gIcmp_ge X w d4_18 (n := 39) (n' := 21) (by decide) rfl rfl ?_ ?_
    · intro c18
      refine gJloadN X w d4_39 rfl (n := 40) rfl ?_
      exact gRetJ X w rfl d4_40 (by decide) (by decide) (⟨_, rfl, rfl, y31, rfl, by omega⟩)
    · intro c18
      exact absurd c18 (by decide)
set_option maxRecDepth 65536 in
set_option maxHeartbeats 40000000 in
theorem own_total_2 (l : Launch) (Z : State) (a0 : Array Value) (hw : ∀ d ∈ tables_1, d.before a0 Z = true) (a b : Addr) (c0 c1 : Int32) (h0 : Heap) (n0 : Nat) (hn : n0 ≤ h0.size) (F1 : Fld Z h0 a "com/example/nanchang/nanchang/index/FieldCounts" "counts" "[I" (.ref b)) (V1 : Av Z h0 b .int [.int c0, .int c1]) :
    ConV l Z (⟨"com/example/nanchang/nanchang/index/FieldCounts", "total", "()J"⟩ : MethodName) prog_18_method_4_code 7 (some .long) ({ frames := 0, cells := 0, slots := 0, locals := 0 } : Room) #[(.ref a)] h0 n0 (fun v h => h0 = h ∧ ∃ z : Int64, v = .long z ∧ z.toInt = 0 + c0.toInt + c1.toInt) := by
  refine Con.of (plainFor_of_name (by first | (simp [plainName, overriddenIn]; done) | decide +kernel)) hn ?_
  intro p e s m below meth c T w X
  refine Gl.enter (ls := #[.val (.ref a), .unset, .unset, .unset, .unset, .unset, .unset]) (by first | rfl | (simp [entryFrame, mkF, argsToLocals, Value.category]; done)) ?_
  have z0 : (0 : Int64).toInt = 0 := rfl
  refine gLconst X w d4_0 (z := (0 : Int64)) (by decide) (n := 1) rfl ?_
  refine gJstoreN X w d4_1 #[.val (.ref a), .val (.long (0 : Int64)), .second, .unset, .unset, .unset, .unset] rfl (n := 2) rfl ?_
  refine gAloadN X w d4_2 rfl rfl (n := 3) rfl ?_
  refine gGetF X w (own_wd hw 19 rfl) Via.refl F1 d4_3 (n := 6) rfl ?_
  intro T X
  refine gAstoreN X w d4_6 rfl #[.val (.ref a), .val (.long (0 : Int64)), .second, .val (.ref b), .unset, .unset, .unset] rfl (n := 7) rfl ?_
  refine gAloadN X w d4_7 rfl rfl (n := 8) rfl ?_
  refine gAlen X w V1 (z := (2 : Int32)) rfl d4_8 (n := 9) rfl ?_
  refine gIstore X w d4_9 #[.val (.ref a), .val (.long (0 : Int64)), .second, .val (.ref b), .val (.int (2 : Int32)), .unset, .unset] rfl (n := 11) rfl ?_
  refine gIconst X w d4_11 (z := (0 : Int32)) rfl (n := 12) rfl ?_
  refine gIstore X w d4_12 #[.val (.ref a), .val (.long (0 : Int64)), .second, .val (.ref b), .val (.int (2 : Int32)), .val (.int (0 : Int32)), .unset] rfl (n := 14) rfl ?_
  refine gIload X w d4_14 rfl (n := 16) rfl ?_
  refine gIload X w d4_16 rfl (n := 18) rfl ?_
  refine gIcmp_ge X w d4_18 (n := 39) (n' := 21) (by decide) rfl rfl ?_ ?_
  · intro c18
    exact absurd c18 (by decide)
  · intro c18
    refine gAloadN X w d4_21 rfl rfl (n := 22) rfl ?_
    refine gIload X w d4_22 rfl (n := 24) rfl ?_
    refine gIaload X w V1 (by decide) rfl d4_24 (n := 25) rfl ?_
    refine gIstore X w d4_25 #[.val (.ref a), .val (.long (0 : Int64)), .second, .val (.ref b), .val (.int (2 : Int32)), .val (.int (0 : Int32)), .val (.int c0)] rfl (n := 27) rfl ?_
    refine gJloadN X w d4_27 rfl (n := 28) rfl ?_
    refine gIload X w d4_28 rfl (n := 30) rfl ?_
    obtain ⟨y30, q30⟩ : ∃ zz_ : Int64, Int32.toInt64 c0 = zz_ := ⟨_, rfl⟩
    refine gI2l X w d4_30 q30 (n := 31) rfl ?_
    have f30 : y30.toInt = c0.toInt := by rw [← q30]; exact c_i2l _
    have r30 := rng32 c0
    obtain ⟨y31, q31⟩ : ∃ zz_ : Int64, (0 : Int64) + y30 = zz_ := ⟨_, rfl⟩
    refine gLadd X w d4_31 q31 (n := 32) rfl ?_
    have f31 : y31.toInt = ((0 : Int64)).toInt + (y30).toInt := by rw [← q31]; exact ladd_toInt (by omega) (by omega)
    refine gJstoreN X w d4_32 #[.val (.ref a), .val (.long y31), .second, .val (.ref b), .val (.int (2 : Int32)), .val (.int (0 : Int32)), .val (.int c0)] rfl (n := 33) rfl ?_
    refine gIinc X w d4_33 rfl (z := (1 : Int32)) (by decide) #[.val (.ref a), .val (.long y31), .second, .val (.ref b), .val (.int (2 : Int32)), .val (.int (1 : Int32)), .val (.int c0)] rfl (n := 36) rfl ?_
    refine gGoto X w d4_36 (by decide) (n := 14) rfl ?_
    refine gIload X w d4_14 rfl (n := 16) rfl ?_
    refine gIload X w d4_16 rfl (n := 18) rfl ?_
    refine gIcmp_ge X w d4_18 (n := 39) (n' := 21) (by decide) rfl rfl ?_ ?_
    · intro c18
      exact absurd c18 (by decide)
    · intro c18
      refine gAloadN X w d4_21 rfl rfl (n := 22) rfl ?_
      refine gIload X w d4_22 rfl (n := 24) rfl ?_
      refine gIaload X w V1 (by decide) rfl d4_24 (n := 25) rfl ?_
      refine gIstore X w d4_25 #[.val (.ref a), .val (.long y31), .second, .val (.ref b), .val (.int (2 : Int32)), .val (.int (1 : Int32)), .val (.int c1)] rfl (n := 27) rfl ?_
      refine gJloadN X w d4_27 rfl (n := 28) rfl ?_
      refine gIload X w d4_28 rfl (n := 30) rfl ?_
      obtain ⟨y30_1, q30_1⟩ : ∃ zz_ : Int64, Int32.toInt64 c1 = zz_ := ⟨_, rfl⟩
      refine gI2l X w d4_30 q30_1 (n := 31) rfl ?_
      have f30 : y30_1.toInt = c1.toInt := by rw [← q30_1]; exact c_i2l _
      have r30 := rng32 c1
      obtain ⟨y31_1, q31_1⟩ : ∃ zz_ : Int64, y31 + y30_1 = zz_ := ⟨_, rfl⟩
      refine gLadd X w d4_31 q31_1 (n := 32) rfl ?_
      have f31 : y31_1.toInt = (y31).toInt + (y30_1).toInt := by rw [← q31_1]; exact ladd_toInt (by omega) (by omega)
      refine gJstoreN X w d4_32 #[.val (.ref a), .val (.long y31_1), .second, .val (.ref b), .val (.int (2 : Int32)), .val (.int (1 : Int32)), .val (.int c1)] rfl (n := 33) rfl ?_
      refine gIinc X w d4_33 rfl (z := (2 : Int32)) (by decide) #[.val (.ref a), .val (.long y31_1), .second, .val (.ref b), .val (.int (2 : Int32)), .val (.int (2 : Int32)), .val (.int c1)] rfl (n := 36) rfl ?_
      refine gGoto X w d4_36 (by decide) (n := 14) rfl ?_
      refine gIload X w d4_14 rfl (n := 16) rfl ?_
      refine gIload X w d4_16 rfl (n := 18) rfl ?_
      refine gIcmp_ge X w d4_18 (n := 39) (n' := 21) (by decide) rfl rfl ?_ ?_
      · intro c18
        refine gJloadN X w d4_39 rfl (n := 40) rfl ?_
        exact gRetJ X w rfl d4_40 (by decide) (by decide) (⟨_, rfl, rfl, y31_1, rfl, by omega⟩)
      · intro c18
        exact absurd c18 (by decide)
set_option maxRecDepth 65536 in
set_option maxHeartbeats 40000000 in
theorem own_total_3 (l : Launch) (Z : State) (a0 : Array Value) (hw : ∀ d ∈ tables_1, d.before a0 Z = true) (a b : Addr) (c0 c1 c2 : Int32) (h0 : Heap) (n0 : Nat) (hn : n0 ≤ h0.size) (F1 : Fld Z h0 a "com/example/nanchang/nanchang/index/FieldCounts" "counts" "[I" (.ref b)) (V1 : Av Z h0 b .int [.int c0, .int c1, .int c2]) :
    ConV l Z (⟨"com/example/nanchang/nanchang/index/FieldCounts", "total", "()J"⟩ : MethodName) prog_18_method_4_code 7 (some .long) ({ frames := 0, cells := 0, slots := 0, locals := 0 } : Room) #[(.ref a)] h0 n0 (fun v h => h0 = h ∧ ∃ z : Int64, v = .long z ∧ z.toInt = 0 + c0.toInt + c1.toInt + c2.toInt) := by
  refine Con.of (plainFor_of_name (by first | (simp [plainName, overriddenIn]; done) | decide +kernel)) hn ?_
  intro p e s m below meth c T w X
  refine Gl.enter (ls := #[.val (.ref a), .unset, .unset, .unset, .unset, .unset, .unset]) (by first | rfl | (simp [entryFrame, mkF, argsToLocals, Value.category]; done)) ?_
  have z0 : (0 : Int64).toInt = 0 := rfl
  refine gLconst X w d4_0 (z := (0 : Int64)) (by decide) (n := 1) rfl ?_
  refine gJstoreN X w d4_1 #[.val (.ref a), .val (.long (0 : Int64)), .second, .unset, .unset, .unset, .unset] rfl (n := 2) rfl ?_
  refine gAloadN X w d4_2 rfl rfl (n := 3) rfl ?_
  refine gGetF X w (own_wd hw 19 rfl) Via.refl F1 d4_3 (n := 6) rfl ?_
  intro T X
  refine gAstoreN X w d4_6 rfl #[.val (.ref a), .val (.long (0 : Int64)), .second, .val (.ref b), .unset, .unset, .unset] rfl (n := 7) rfl ?_
  refine gAloadN X w d4_7 rfl rfl (n := 8) rfl ?_
  refine gAlen X w V1 (z := (3 : Int32)) rfl d4_8 (n := 9) rfl ?_
  refine gIstore X w d4_9 #[.val (.ref a), .val (.long (0 : Int64)), .second, .val (.ref b), .val (.int (3 : Int32)), .unset, .unset] rfl (n := 11) rfl ?_
  refine gIconst X w d4_11 (z := (0 : Int32)) rfl (n := 12) rfl ?_
  refine gIstore X w d4_12 #[.val (.ref a), .val (.long (0 : Int64)), .second, .val (.ref b), .val (.int (3 : Int32)), .val (.int (0 : Int32)), .unset] rfl (n := 14) rfl ?_
  refine gIload X w d4_14 rfl (n := 16) rfl ?_
  refine gIload X w d4_16 rfl (n := 18) rfl ?_
  refine gIcmp_ge X w d4_18 (n := 39) (n' := 21) (by decide) rfl rfl ?_ ?_
  · intro c18
    exact absurd c18 (by decide)
  · intro c18
    refine gAloadN X w d4_21 rfl rfl (n := 22) rfl ?_
    refine gIload X w d4_22 rfl (n := 24) rfl ?_
    refine gIaload X w V1 (by decide) rfl d4_24 (n := 25) rfl ?_
    refine gIstore X w d4_25 #[.val (.ref a), .val (.long (0 : Int64)), .second, .val (.ref b), .val (.int (3 : Int32)), .val (.int (0 : Int32)), .val (.int c0)] rfl (n := 27) rfl ?_
    refine gJloadN X w d4_27 rfl (n := 28) rfl ?_
    refine gIload X w d4_28 rfl (n := 30) rfl ?_
    obtain ⟨y30, q30⟩ : ∃ zz_ : Int64, Int32.toInt64 c0 = zz_ := ⟨_, rfl⟩
    refine gI2l X w d4_30 q30 (n := 31) rfl ?_
    have f30 : y30.toInt = c0.toInt := by rw [← q30]; exact c_i2l _
    have r30 := rng32 c0
    obtain ⟨y31, q31⟩ : ∃ zz_ : Int64, (0 : Int64) + y30 = zz_ := ⟨_, rfl⟩
    refine gLadd X w d4_31 q31 (n := 32) rfl ?_
    have f31 : y31.toInt = ((0 : Int64)).toInt + (y30).toInt := by rw [← q31]; exact ladd_toInt (by omega) (by omega)
    refine gJstoreN X w d4_32 #[.val (.ref a), .val (.long y31), .second, .val (.ref b), .val (.int (3 : Int32)), .val (.int (0 : Int32)), .val (.int c0)] rfl (n := 33) rfl ?_
    refine gIinc X w d4_33 rfl (z := (1 : Int32)) (by decide) #[.val (.ref a), .val (.long y31), .second, .val (.ref b), .val (.int (3 : Int32)), .val (.int (1 : Int32)), .val (.int c0)] rfl (n := 36) rfl ?_
    refine gGoto X w d4_36 (by decide) (n := 14) rfl ?_
    refine gIload X w d4_14 rfl (n := 16) rfl ?_
    refine gIload X w d4_16 rfl (n := 18) rfl ?_
    refine gIcmp_ge X w d4_18 (n := 39) (n' := 21) (by decide) rfl rfl ?_ ?_
    · intro c18
      exact absurd c18 (by decide)
    · intro c18
      refine gAloadN X w d4_21 rfl rfl (n := 22) rfl ?_
      refine gIload X w d4_22 rfl (n := 24) rfl ?_
      refine gIaload X w V1 (by decide) rfl d4_24 (n := 25) rfl ?_
      refine gIstore X w d4_25 #[.val (.ref a), .val (.long y31), .second, .val (.ref b), .val (.int (3 : Int32)), .val (.int (1 : Int32)), .val (.int c1)] rfl (n := 27) rfl ?_
      refine gJloadN X w d4_27 rfl (n := 28) rfl ?_
      refine gIload X w d4_28 rfl (n := 30) rfl ?_
      obtain ⟨y30_1, q30_1⟩ : ∃ zz_ : Int64, Int32.toInt64 c1 = zz_ := ⟨_, rfl⟩
      refine gI2l X w d4_30 q30_1 (n := 31) rfl ?_
      have f30 : y30_1.toInt = c1.toInt := by rw [← q30_1]; exact c_i2l _
      have r30 := rng32 c1
      obtain ⟨y31_1, q31_1⟩ : ∃ zz_ : Int64, y31 + y30_1 = zz_ := ⟨_, rfl⟩
      refine gLadd X w d4_31 q31_1 (n := 32) rfl ?_
      have f31 : y31_1.toInt = (y31).toInt + (y30_1).toInt := by rw [← q31_1]; exact ladd_toInt (by omega) (by omega)
      refine gJstoreN X w d4_32 #[.val (.ref a), .val (.long y31_1), .second, .val (.ref b), .val (.int (3 : Int32)), .val (.int (1 : Int32)), .val (.int c1)] rfl (n := 33) rfl ?_
      refine gIinc X w d4_33 rfl (z := (2 : Int32)) (by decide) #[.val (.ref a), .val (.long y31_1), .second, .val (.ref b), .val (.int (3 : Int32)), .val (.int (2 : Int32)), .val (.int c1)] rfl (n := 36) rfl ?_
      refine gGoto X w d4_36 (by decide) (n := 14) rfl ?_
      refine gIload X w d4_14 rfl (n := 16) rfl ?_
      refine gIload X w d4_16 rfl (n := 18) rfl ?_
      refine gIcmp_ge X w d4_18 (n := 39) (n' := 21) (by decide) rfl rfl ?_ ?_
      · intro c18
        exact absurd c18 (by decide)
      · intro c18
        refine gAloadN X w d4_21 rfl rfl (n := 22) rfl ?_
        refine gIload X w d4_22 rfl (n := 24) rfl ?_
        refine gIaload X w V1 (by decide) rfl d4_24 (n := 25) rfl ?_
        refine gIstore X w d4_25 #[.val (.ref a), .val (.long y31_1), .second, .val (.ref b), .val (.int (3 : Int32)), .val (.int (2 : Int32)), .val (.int c2)] rfl (n := 27) rfl ?_
        refine gJloadN X w d4_27 rfl (n := 28) rfl ?_
        refine gIload X w d4_28 rfl (n := 30) rfl ?_
        obtain ⟨y30_2, q30_2⟩ : ∃ zz_ : Int64, Int32.toInt64 c2 = zz_ := ⟨_, rfl⟩
        refine gI2l X w d4_30 q30_2 (n := 31) rfl ?_
        have f30 : y30_2.toInt = c2.toInt := by rw [← q30_2]; exact c_i2l _
        have r30 := rng32 c2
        obtain ⟨y31_2, q31_2⟩ : ∃ zz_ : Int64, y31_1 + y30_2 = zz_ := ⟨_, rfl⟩
        refine gLadd X w d4_31 q31_2 (n := 32) rfl ?_
        have f31 : y31_2.toInt = (y31_1).toInt + (y30_2).toInt := by rw [← q31_2]; exact ladd_toInt (by omega) (by omega)
        refine gJstoreN X w d4_32 #[.val (.ref a), .val (.long y31_2), .second, .val (.ref b), .val (.int (3 : Int32)), .val (.int (2 : Int32)), .val (.int c2)] rfl (n := 33) rfl ?_
        refine gIinc X w d4_33 rfl (z := (3 : Int32)) (by decide) #[.val (.ref a), .val (.long y31_2), .second, .val (.ref b), .val (.int (3 : Int32)), .val (.int (3 : Int32)), .val (.int c2)] rfl (n := 36) rfl ?_
        refine gGoto X w d4_36 (by decide) (n := 14) rfl ?_
        refine gIload X w d4_14 rfl (n := 16) rfl ?_
        refine gIload X w d4_16 rfl (n := 18) rfl ?_
        refine gIcmp_ge X w d4_18 (n := 39) (n' := 21) (by decide) rfl rfl ?_ ?_
        · intro c18
          refine gJloadN X w d4_39 rfl (n := 40) rfl ?_
          exact gRetJ X w rfl d4_40 (by decide) (by decide) (⟨_, rfl, rfl, y31_2, rfl, by omega⟩)
        · intro c18
          exact absurd c18 (by decide)
set_option maxRecDepth 65536 in
set_option maxHeartbeats 40000000 in
theorem own_law (l : Launch) (Z : State) (a0 : Array Value) (hw : ∀ d ∈ tables_1, d.before a0 Z = true) (p1 p2 p3 p4 : Int32) (h0 : Heap) (n0 : Nat) (hn : n0 ≤ h0.size)  :
    Con l Z x code maxLocals ret tables_1 room_1 16 128 #[(.int p1), (.int p2), (.int p3), (.int p4)] h0 n0 (fun r h => r = some (.int 1)) := by
  refine Con.of (plainFor_of_name (by first | (simp [plainName, overriddenIn]; done) | decide +kernel)) hn ?_
  intro p e s m below meth c T w X
  refine Gl.enter (ls := #[.val (.int p1), .val (.int p2), .val (.int p3), .val (.int p4), .unset, .unset, .unset, .unset, .unset, .unset, .unset, .unset, .unset, .unset]) (by first | rfl | (simp [entryFrame, mkF, argsToLocals, Value.category, maxLocals]; done)) ?_
  refine gIloadN X w at_0 rfl (n := 1) rfl ?_
  refine gIconst X w at_1 (z := (3 : Int32)) rfl (n := 2) rfl ?_
  obtain ⟨x2, q2⟩ : ∃ zz_ : Int32, p1 &&& (3 : Int32) = zz_ := ⟨_, rfl⟩
  refine gIand X w at_2 q2 (n := 3) rfl ?_
  refine gIstore X w at_3 #[.val (.int p1), .val (.int p2), .val (.int p3), .val (.int p4), .val (.int x2), .unset, .unset, .unset, .unset, .unset, .unset, .unset, .unset, .unset] rfl (n := 5) rfl ?_
  refine gIconst X w at_5 (z := (1 : Int32)) rfl (n := 6) rfl ?_
  refine gIloadN X w at_6 rfl (n := 7) rfl ?_
  refine gLdc X w (own_wd hw 0 rfl) at_7 (n := 9) rfl ?_
  obtain ⟨x9, q9⟩ : ∃ zz_ : Int32, p2 &&& (2147483647 : Int32) = zz_ := ⟨_, rfl⟩
  refine gIand X w at_9 q9 (n := 10) rfl ?_
  refine gCallSv X w [(.int (1 : Int32)), (.int x9)] [] (own_max l Z a0 hw (1 : Int32) x9 h0 n0 hn) (own_wd hw 1 rfl) (own_wd hw 2 rfl) (own_wd hw 3 rfl) (own_wd hw 4 rfl) (by decide) own_pd0 rfl rfl at_10 rfl (W := 0) (Nat.le_of_eq rfl) (by decide) (by decide) (by decide) (by decide) (n := 13) rfl ?_
  rintro T _ _ ⟨rfl, r10, rfl, fr10⟩ X
  rw [show (1 : Int32).toInt = 1 from rfl] at fr10
  refine gIstore X w at_13 #[.val (.int p1), .val (.int p2), .val (.int p3), .val (.int p4), .val (.int x2), .val (.int r10), .unset, .unset, .unset, .unset, .unset, .unset, .unset, .unset] rfl (n := 15) rfl ?_
  refine gIconst X w at_15 (z := (1 : Int32)) rfl (n := 16) rfl ?_
  refine gIloadN X w at_16 rfl (n := 17) rfl ?_
  refine gLdc X w (own_wd hw 0 rfl) at_17 (n := 19) rfl ?_
  obtain ⟨x19, q19⟩ : ∃ zz_ : Int32, p3 &&& (2147483647 : Int32) = zz_ := ⟨_, rfl⟩
  refine gIand X w at_19 q19 (n := 20) rfl ?_
  refine gCallSv X w [(.int (1 : Int32)), (.int x19)] [] (own_max l Z a0 hw (1 : Int32) x19 h0 n0 hn) (own_wd hw 1 rfl) (own_wd hw 2 rfl) (own_wd hw 3 rfl) (own_wd hw 4 rfl) (by decide) own_pd0 rfl rfl at_20 rfl (W := 0) (Nat.le_of_eq rfl) (by decide) (by decide) (by decide) (by decide) (n := 23) rfl ?_
  rintro T _ _ ⟨rfl, r20, rfl, fr20⟩ X
  rw [show (1 : Int32).toInt = 1 from rfl] at fr20
  refine gIstore X w at_23 #[.val (.int p1), .val (.int p2), .val (.int p3), .val (.int p4), .val (.int x2), .val (.int r10), .val (.int r20), .unset, .unset, .unset, .unset, .unset, .unset, .unset] rfl (n := 25) rfl ?_
  refine gIconst X w at_25 (z := (1 : Int32)) rfl (n := 26) rfl ?_
  refine gIloadN X w at_26 rfl (n := 27) rfl ?_
  refine gLdc X w (own_wd hw 0 rfl) at_27 (n := 29) rfl ?_
  obtain ⟨x29, q29⟩ : ∃ zz_ : Int32, p4 &&& (2147483647 : Int32) = zz_ := ⟨_, rfl⟩
  refine gIand X w at_29 q29 (n := 30) rfl ?_
  refine gCallSv X w [(.int (1 : Int32)), (.int x29)] [] (own_max l Z a0 hw (1 : Int32) x29 h0 n0 hn) (own_wd hw 1 rfl) (own_wd hw 2 rfl) (own_wd hw 3 rfl) (own_wd hw 4 rfl) (by decide) own_pd0 rfl rfl at_30 rfl (W := 0) (Nat.le_of_eq rfl) (by decide) (by decide) (by decide) (by decide) (n := 33) rfl ?_
  rintro T _ _ ⟨rfl, r30, rfl, fr30⟩ X
  rw [show (1 : Int32).toInt = 1 from rfl] at fr30
  refine gIstore X w at_33 #[.val (.int p1), .val (.int p2), .val (.int p3), .val (.int p4), .val (.int x2), .val (.int r10), .val (.int r20), .val (.int r30), .unset, .unset, .unset, .unset, .unset, .unset] rfl (n := 35) rfl ?_
  refine gIload X w at_35 rfl (n := 37) rfl ?_
  refine gIf_ne X w at_37 (n := 65) (n' := 40) (by decide) rfl rfl ?_ ?_
  · rintro ⟨c37, c37'⟩
    refine gIload X w at_65 rfl (n := 67) rfl ?_
    refine gIconst X w at_67 (z := (1 : Int32)) rfl (n := 68) rfl ?_
    refine gIcmp_ne X w at_68 (n := 111) (n' := 71) (by decide) rfl rfl ?_ ?_
    · rintro ⟨c68, c68'⟩
      refine gIload X w at_111 rfl (n := 113) rfl ?_
      refine gIconst X w at_113 (z := (2 : Int32)) rfl (n := 114) rfl ?_
      refine gIcmp_ne X w at_114 (n := 170) (n' := 117) (by decide) rfl rfl ?_ ?_
      · rintro ⟨c114, c114'⟩
        refine gIconst X w at_170 (z := (2 : Int32)) rfl (n := 171) rfl ?_
        refine gNewP X w (own_wd hw 5 rfl) at_171 (by decide) (cap := 2) (by decide) (by decide) (by decide) (by decide) (vs := [(.int (0 : Int32)), (.int (0 : Int32))]) (ty := .int) rfl rfl (ad := "[I") (by decide) (n := 173) rfl ?_
        intro T hp171 ad171 ea171 na171 X E171 V171 A171
        refine gDup X w at_173 rfl (n := 174) rfl ?_
        refine gIconst X w at_174 (z := (0 : Int32)) rfl (n := 175) rfl ?_
        refine gIconst X w at_175 (z := (0 : Int32)) rfl (n := 176) rfl ?_
        refine gIastore X w (z := (.int (0 : Int32))) V171 (by decide) (show (0 : Int) < ((2 : Nat) : Int) from by decide) na171 rfl (vs' := [(.int (0 : Int32)), (.int (0 : Int32))]) rfl at_176 (n := 177) rfl ?_
        intro T hp176 X W176 V176
        have F_1 := A171.wr W176
        refine gDup X w at_177 rfl (n := 178) rfl ?_
        refine gIconst X w at_178 (z := (1 : Int32)) rfl (n := 179) rfl ?_
        refine gIconst X w at_179 (z := (3 : Int32)) rfl (n := 180) rfl ?_
        refine gIastore X w (z := (.int (3 : Int32))) V176 (by decide) (show (1 : Int) < ((2 : Nat) : Int) from by decide) na171 rfl (vs' := [(.int (0 : Int32)), (.int (3 : Int32))]) rfl at_180 (n := 181) rfl ?_
        intro T hp180 X W180 V180
        have F_2 := F_1.wr W180
        refine gAstore X w at_181 rfl #[.val (.int p1), .val (.int p2), .val (.int p3), .val (.int p4), .val (.int x2), .val (.int r10), .val (.int r20), .val (.int r30), .val (.ref ad171), .unset, .unset, .unset, .unset, .unset] rfl (n := 183) rfl ?_
        refine gIconst X w at_183 (z := (3 : Int32)) rfl (n := 184) rfl ?_
        refine gNewP X w (own_wd hw 5 rfl) at_184 (by decide) (cap := 3) (by decide) (by decide) (by decide) (by decide) (vs := [(.int (0 : Int32)), (.int (0 : Int32)), (.int (0 : Int32))]) (ty := .int) rfl rfl (ad := "[I") (by decide) (n := 186) rfl ?_
        intro T hp184 ad184 ea184 na184 X E184 V184 A184
        have ne_ad171_ad184 : ad171 ≠ ad184 := neOf F_2.lt (Nat.le_of_eq ea184.symm)
        have F_3 := F_2.ext E184
        have F_4 := V180.ext E184
        refine gDup X w at_186 rfl (n := 187) rfl ?_
        refine gIconst X w at_187 (z := (0 : Int32)) rfl (n := 188) rfl ?_
        refine gIconst X w at_188 (z := (0 : Int32)) rfl (n := 189) rfl ?_
        refine gIastore X w (z := (.int (0 : Int32))) V184 (by decide) (show (0 : Int) < ((3 : Nat) : Int) from by decide) na184 rfl (vs' := [(.int (0 : Int32)), (.int (0 : Int32)), (.int (0 : Int32))]) rfl at_189 (n := 190) rfl ?_
        intro T hp189 X W189 V189
        have F_5 := F_3.wr W189
        have F_6 := F_4.other W189 ne_ad171_ad184
        have F_7 := A184.wr W189
        refine gDup X w at_190 rfl (n := 191) rfl ?_
        refine gIconst X w at_191 (z := (1 : Int32)) rfl (n := 192) rfl ?_
        refine gIconst X w at_192 (z := (1 : Int32)) rfl (n := 193) rfl ?_
        refine gIastore X w (z := (.int (1 : Int32))) V189 (by decide) (show (1 : Int) < ((3 : Nat) : Int) from by decide) na184 rfl (vs' := [(.int (0 : Int32)), (.int (1 : Int32)), (.int (0 : Int32))]) rfl at_193 (n := 194) rfl ?_
        intro T hp193 X W193 V193
        have F_8 := F_5.wr W193
        have F_9 := F_6.other W193 ne_ad171_ad184
        have F_10 := F_7.wr W193
        refine gDup X w at_194 rfl (n := 195) rfl ?_
        refine gIconst X w at_195 (z := (2 : Int32)) rfl (n := 196) rfl ?_
        refine gIconst X w at_196 (z := (2 : Int32)) rfl (n := 197) rfl ?_
        refine gIastore X w (z := (.int (2 : Int32))) V193 (by decide) (show (2 : Int) < ((3 : Nat) : Int) from by decide) na184 rfl (vs' := [(.int (0 : Int32)), (.int (1 : Int32)), (.int (2 : Int32))]) rfl at_197 (n := 198) rfl ?_
        intro T hp197 X W197 V197
        have F_11 := F_8.wr W197
        have F_12 := F_9.other W197 ne_ad171_ad184
        have F_13 := F_10.wr W197
        refine gAstore X w at_198 rfl #[.val (.int p1), .val (.int p2), .val (.int p3), .val (.int p4), .val (.int x2), .val (.int r10), .val (.int r20), .val (.int r30), .val (.ref ad171), .val (.ref ad184), .unset, .unset, .unset, .unset] rfl (n := 200) rfl ?_
        refine gIconst X w at_200 (z := (3 : Int32)) rfl (n := 201) rfl ?_
        refine gNewP X w (own_wd hw 5 rfl) at_201 (by decide) (cap := 3) (by decide) (by decide) (by decide) (by decide) (vs := [(.int (0 : Int32)), (.int (0 : Int32)), (.int (0 : Int32))]) (ty := .int) rfl rfl (ad := "[I") (by decide) (n := 203) rfl ?_
        intro T hp201 ad201 ea201 na201 X E201 V201 A201
        have ne_ad171_ad201 : ad171 ≠ ad201 := neOf F_11.lt (Nat.le_of_eq ea201.symm)
        have ne_ad184_ad201 : ad184 ≠ ad201 := neOf F_13.lt (Nat.le_of_eq ea201.symm)
        have F_14 := F_11.ext E201
        have F_15 := F_12.ext E201
        have F_16 := F_13.ext E201
        have F_17 := V197.ext E201
        refine gDup X w at_203 rfl (n := 204) rfl ?_
        refine gIconst X w at_204 (z := (0 : Int32)) rfl (n := 205) rfl ?_
        refine gIload X w at_205 rfl (n := 207) rfl ?_
        refine gIastore X w (z := (.int r10)) V201 (by decide) (show (0 : Int) < ((3 : Nat) : Int) from by decide) na201 rfl (vs' := [(.int r10), (.int (0 : Int32)), (.int (0 : Int32))]) rfl at_207 (n := 208) rfl ?_
        intro T hp207 X W207 V207
        have F_18 := F_14.wr W207
        have F_19 := F_15.other W207 ne_ad171_ad201
        have F_20 := F_16.wr W207
        have F_21 := F_17.other W207 ne_ad184_ad201
        have F_22 := A201.wr W207
        refine gDup X w at_208 rfl (n := 209) rfl ?_
        refine gIconst X w at_209 (z := (1 : Int32)) rfl (n := 210) rfl ?_
        refine gIload X w at_210 rfl (n := 212) rfl ?_
        refine gIastore X w (z := (.int r20)) V207 (by decide) (show (1 : Int) < ((3 : Nat) : Int) from by decide) na201 rfl (vs' := [(.int r10), (.int r20), (.int (0 : Int32))]) rfl at_212 (n := 213) rfl ?_
        intro T hp212 X W212 V212
        have F_23 := F_18.wr W212
        have F_24 := F_19.other W212 ne_ad171_ad201
        have F_25 := F_20.wr W212
        have F_26 := F_21.other W212 ne_ad184_ad201
        have F_27 := F_22.wr W212
        refine gDup X w at_213 rfl (n := 214) rfl ?_
        refine gIconst X w at_214 (z := (2 : Int32)) rfl (n := 215) rfl ?_
        refine gIload X w at_215 rfl (n := 217) rfl ?_
        refine gIastore X w (z := (.int r30)) V212 (by decide) (show (2 : Int) < ((3 : Nat) : Int) from by decide) na201 rfl (vs' := [(.int r10), (.int r20), (.int r30)]) rfl at_217 (n := 218) rfl ?_
        intro T hp217 X W217 V217
        have F_28 := F_23.wr W217
        have F_29 := F_24.other W217 ne_ad171_ad201
        have F_30 := F_25.wr W217
        have F_31 := F_26.other W217 ne_ad184_ad201
        have F_32 := F_27.wr W217
        refine gAstore X w at_218 rfl #[.val (.int p1), .val (.int p2), .val (.int p3), .val (.int p4), .val (.int x2), .val (.int r10), .val (.int r20), .val (.int r30), .val (.ref ad171), .val (.ref ad184), .val (.ref ad201), .unset, .unset, .unset] rfl (n := 220) rfl ?_
        refine gIload X w at_220 rfl (n := 222) rfl ?_
        obtain ⟨y222, q222⟩ : ∃ zz_ : Int64, Int32.toInt64 r10 = zz_ := ⟨_, rfl⟩
        refine gI2l X w at_222 q222 (n := 223) rfl ?_
        have f222 : y222.toInt = r10.toInt := by rw [← q222]; exact c_i2l _
        refine gIload X w at_223 rfl (n := 225) rfl ?_
        obtain ⟨y225, q225⟩ : ∃ zz_ : Int64, Int32.toInt64 r20 = zz_ := ⟨_, rfl⟩
        refine gI2l X w at_225 q225 (n := 226) rfl ?_
        have f225 : y225.toInt = r20.toInt := by rw [← q225]; exact c_i2l _
        obtain ⟨y226, q226⟩ : ∃ zz_ : Int64, y222 + y225 = zz_ := ⟨_, rfl⟩
        refine gLadd X w at_226 q226 (n := 227) rfl ?_
        have f226 : y226.toInt = y222.toInt + y225.toInt := by rw [← q226]; exact ladd_toInt (by have := rng32 r10; have := rng32 r20; have := rng32 r30; omega) (by have := rng32 r10; have := rng32 r20; have := rng32 r30; omega)
        refine gIload X w at_227 rfl (n := 229) rfl ?_
        obtain ⟨y229, q229⟩ : ∃ zz_ : Int64, Int32.toInt64 r30 = zz_ := ⟨_, rfl⟩
        refine gI2l X w at_229 q229 (n := 230) rfl ?_
        have f229 : y229.toInt = r30.toInt := by rw [← q229]; exact c_i2l _
        obtain ⟨y230, q230⟩ : ∃ zz_ : Int64, y226 + y229 = zz_ := ⟨_, rfl⟩
        refine gLadd X w at_230 q230 (n := 231) rfl ?_
        have f230 : y230.toInt = y226.toInt + y229.toInt := by rw [← q230]; exact ladd_toInt (by have := rng32 r10; have := rng32 r20; have := rng32 r30; omega) (by have := rng32 r10; have := rng32 r20; have := rng32 r30; omega)
        refine gJstore X w at_231 #[.val (.int p1), .val (.int p2), .val (.int p3), .val (.int p4), .val (.int x2), .val (.int r10), .val (.int r20), .val (.int r30), .val (.ref ad171), .val (.ref ad184), .val (.ref ad201), .val (.long y230), .second, .unset] rfl (n := 233) rfl ?_
        refine gNew X w (own_wd hw 6 rfl) (own_wd hw 7 rfl) (own_wd hw 8 rfl) at_233 (by decide) (by decide) (n := 236) rfl ?_
        intro T hp233 ad233 ea233 na233 X E233 A233 D233
        have ne_ad171_ad233 : ad171 ≠ ad233 := neOf F_28.lt (Nat.le_of_eq ea233.symm)
        have ne_ad184_ad233 : ad184 ≠ ad233 := neOf F_30.lt (Nat.le_of_eq ea233.symm)
        have ne_ad201_ad233 : ad201 ≠ ad233 := neOf F_32.lt (Nat.le_of_eq ea233.symm)
        have F_33 := F_28.ext E233
        have F_34 := F_29.ext E233
        have F_35 := F_30.ext E233
        have F_36 := F_31.ext E233
        have F_37 := F_32.ext E233
        have F_38 := V217.ext E233
        have F_39 : Fld Z hp233 ad233 "com/example/nanchang/nanchang/index/FieldCounts" "starts" "[I" .null := D233 (Or.inr (own_wd hw 16 rfl)) (ty := (.array .int)) (by decide)
        have F_40 : Fld Z hp233 ad233 "com/example/nanchang/nanchang/index/FieldCounts" "fields" "[I" .null := D233 (Or.inr (own_wd hw 18 rfl)) (ty := (.array .int)) (by decide)
        have F_41 : Fld Z hp233 ad233 "com/example/nanchang/nanchang/index/FieldCounts" "counts" "[I" .null := D233 (Or.inr (own_wd hw 20 rfl)) (ty := (.array .int)) (by decide)
        refine gDup X w at_236 rfl (n := 237) rfl ?_
        refine gAload X w at_237 rfl rfl (n := 239) rfl ?_
        refine gAload X w at_239 rfl rfl (n := 241) rfl ?_
        refine gAload X w at_241 rfl rfl (n := 243) rfl ?_
        refine gCallIn X w [(.ref ad171), (.ref ad184), (.ref ad201)] [(.ref ad233)] rfl (own_init l Z a0 hw ad233 ad171 ad184 ad201 hp233 n0 (Sd.le X) na233 A233 F_39 F_40 F_41) (own_wd hw 9 rfl) (own_wd hw 10 rfl) (own_wd hw 8 rfl) (own_wd hw 11 rfl) (by decide) own_pd1 rfl rfl at_243 rfl (W := 1) (Nat.le_of_eq rfl) (by decide) (by decide) (by decide) (by decide) (n := 246) rfl ?_
        rintro T h243 ⟨K243, A243, F243⟩ X
        have F_42 := F_33.keep K243
        have F_43 := F_34.keep K243 (ninS ne_ad171_ad233 nin0)
        have F_44 := F_35.keep K243
        have F_45 := F_36.keep K243 (ninS ne_ad184_ad233 nin0)
        have F_46 := F_37.keep K243
        have F_47 := F_38.keep K243 (ninS ne_ad201_ad233 nin0)
        have F_48 := A233.keep K243
        refine gAstore X w at_246 rfl #[.val (.int p1), .val (.int p2), .val (.int p3), .val (.int p4), .val (.int x2), .val (.int r10), .val (.int r20), .val (.int r30), .val (.ref ad171), .val (.ref ad184), .val (.ref ad201), .val (.long y230), .second, .val (.ref ad233)] rfl (n := 248) rfl ?_
        refine gAload X w at_248 rfl rfl (n := 250) rfl ?_
        refine gCallVv X w [] [] A243 (own_total_3 l Z a0 hw ad233 ad201 r10 r20 r30 h243 n0 (Sd.le X) F243 F_47) (own_wd hw 21 rfl) (own_wd hw 22 rfl) (notFace_of_selects (args := #[]) (mvT w.2.2.1 (own_wd hw 24 rfl))) (own_wd hw 24 rfl) (own_wd hw 23 rfl) (own_wd hw 8 rfl) (own_wd hw 25 rfl) (by decide) own_pd2 rfl rfl at_250 rfl (W := 0) (Nat.le_of_eq rfl) (by decide) (by decide) (by decide) (by decide) (n := 253) rfl ?_
        rintro T _ _ ⟨rfl, t250, rfl, ft250⟩ X
        refine gJload X w at_253 rfl (n := 255) rfl ?_
        refine gLcmp X w at_255 rfl (n := 256) rfl ?_
        refine gIfL_ne X w at_256 (n := 263) (n' := 259) (by decide) rfl rfl ?_ ?_
        · rintro ⟨c256, c256'⟩
          exact absurd ft250 (by omega)
        · rintro ⟨c256, c256'⟩
          refine gIconst X w at_259 (z := (1 : Int32)) rfl (n := 260) rfl ?_
          refine gGoto X w at_260 (by decide) (n := 264) rfl ?_
          exact gRetZ X w rfl (Or.inr rfl) at_264 (by decide) (by decide) (rfl)
      · rintro ⟨c114, c114'⟩
        refine gIconst X w at_117 (z := (2 : Int32)) rfl (n := 118) rfl ?_
        refine gNewP X w (own_wd hw 5 rfl) at_118 (by decide) (cap := 2) (by decide) (by decide) (by decide) (by decide) (vs := [(.int (0 : Int32)), (.int (0 : Int32))]) (ty := .int) rfl rfl (ad := "[I") (by decide) (n := 120) rfl ?_
        intro T hp118 ad118 ea118 na118 X E118 V118 A118
        refine gDup X w at_120 rfl (n := 121) rfl ?_
        refine gIconst X w at_121 (z := (0 : Int32)) rfl (n := 122) rfl ?_
        refine gIconst X w at_122 (z := (0 : Int32)) rfl (n := 123) rfl ?_
        refine gIastore X w (z := (.int (0 : Int32))) V118 (by decide) (show (0 : Int) < ((2 : Nat) : Int) from by decide) na118 rfl (vs' := [(.int (0 : Int32)), (.int (0 : Int32))]) rfl at_123 (n := 124) rfl ?_
        intro T hp123 X W123 V123
        have F_49 := A118.wr W123
        refine gDup X w at_124 rfl (n := 125) rfl ?_
        refine gIconst X w at_125 (z := (1 : Int32)) rfl (n := 126) rfl ?_
        refine gIconst X w at_126 (z := (2 : Int32)) rfl (n := 127) rfl ?_
        refine gIastore X w (z := (.int (2 : Int32))) V123 (by decide) (show (1 : Int) < ((2 : Nat) : Int) from by decide) na118 rfl (vs' := [(.int (0 : Int32)), (.int (2 : Int32))]) rfl at_127 (n := 128) rfl ?_
        intro T hp127 X W127 V127
        have F_50 := F_49.wr W127
        refine gAstore X w at_128 rfl #[.val (.int p1), .val (.int p2), .val (.int p3), .val (.int p4), .val (.int x2), .val (.int r10), .val (.int r20), .val (.int r30), .val (.ref ad118), .unset, .unset, .unset, .unset, .unset] rfl (n := 130) rfl ?_
        refine gIconst X w at_130 (z := (2 : Int32)) rfl (n := 131) rfl ?_
        refine gNewP X w (own_wd hw 5 rfl) at_131 (by decide) (cap := 2) (by decide) (by decide) (by decide) (by decide) (vs := [(.int (0 : Int32)), (.int (0 : Int32))]) (ty := .int) rfl rfl (ad := "[I") (by decide) (n := 133) rfl ?_
        intro T hp131 ad131 ea131 na131 X E131 V131 A131
        have ne_ad118_ad131 : ad118 ≠ ad131 := neOf F_50.lt (Nat.le_of_eq ea131.symm)
        have F_51 := F_50.ext E131
        have F_52 := V127.ext E131
        refine gDup X w at_133 rfl (n := 134) rfl ?_
        refine gIconst X w at_134 (z := (0 : Int32)) rfl (n := 135) rfl ?_
        refine gIconst X w at_135 (z := (0 : Int32)) rfl (n := 136) rfl ?_
        refine gIastore X w (z := (.int (0 : Int32))) V131 (by decide) (show (0 : Int) < ((2 : Nat) : Int) from by decide) na131 rfl (vs' := [(.int (0 : Int32)), (.int (0 : Int32))]) rfl at_136 (n := 137) rfl ?_
        intro T hp136 X W136 V136
        have F_53 := F_51.wr W136
        have F_54 := F_52.other W136 ne_ad118_ad131
        have F_55 := A131.wr W136
        refine gDup X w at_137 rfl (n := 138) rfl ?_
        refine gIconst X w at_138 (z := (1 : Int32)) rfl (n := 139) rfl ?_
        refine gIconst X w at_139 (z := (1 : Int32)) rfl (n := 140) rfl ?_
        refine gIastore X w (z := (.int (1 : Int32))) V136 (by decide) (show (1 : Int) < ((2 : Nat) : Int) from by decide) na131 rfl (vs' := [(.int (0 : Int32)), (.int (1 : Int32))]) rfl at_140 (n := 141) rfl ?_
        intro T hp140 X W140 V140
        have F_56 := F_53.wr W140
        have F_57 := F_54.other W140 ne_ad118_ad131
        have F_58 := F_55.wr W140
        refine gAstore X w at_141 rfl #[.val (.int p1), .val (.int p2), .val (.int p3), .val (.int p4), .val (.int x2), .val (.int r10), .val (.int r20), .val (.int r30), .val (.ref ad118), .val (.ref ad131), .unset, .unset, .unset, .unset] rfl (n := 143) rfl ?_
        refine gIconst X w at_143 (z := (2 : Int32)) rfl (n := 144) rfl ?_
        refine gNewP X w (own_wd hw 5 rfl) at_144 (by decide) (cap := 2) (by decide) (by decide) (by decide) (by decide) (vs := [(.int (0 : Int32)), (.int (0 : Int32))]) (ty := .int) rfl rfl (ad := "[I") (by decide) (n := 146) rfl ?_
        intro T hp144 ad144 ea144 na144 X E144 V144 A144
        have ne_ad118_ad144 : ad118 ≠ ad144 := neOf F_56.lt (Nat.le_of_eq ea144.symm)
        have ne_ad131_ad144 : ad131 ≠ ad144 := neOf F_58.lt (Nat.le_of_eq ea144.symm)
        have F_59 := F_56.ext E144
        have F_60 := F_57.ext E144
        have F_61 := F_58.ext E144
        have F_62 := V140.ext E144
        refine gDup X w at_146 rfl (n := 147) rfl ?_
        refine gIconst X w at_147 (z := (0 : Int32)) rfl (n := 148) rfl ?_
        refine gIload X w at_148 rfl (n := 150) rfl ?_
        refine gIastore X w (z := (.int r10)) V144 (by decide) (show (0 : Int) < ((2 : Nat) : Int) from by decide) na144 rfl (vs' := [(.int r10), (.int (0 : Int32))]) rfl at_150 (n := 151) rfl ?_
        intro T hp150 X W150 V150
        have F_63 := F_59.wr W150
        have F_64 := F_60.other W150 ne_ad118_ad144
        have F_65 := F_61.wr W150
        have F_66 := F_62.other W150 ne_ad131_ad144
        have F_67 := A144.wr W150
        refine gDup X w at_151 rfl (n := 152) rfl ?_
        refine gIconst X w at_152 (z := (1 : Int32)) rfl (n := 153) rfl ?_
        refine gIload X w at_153 rfl (n := 155) rfl ?_
        refine gIastore X w (z := (.int r20)) V150 (by decide) (show (1 : Int) < ((2 : Nat) : Int) from by decide) na144 rfl (vs' := [(.int r10), (.int r20)]) rfl at_155 (n := 156) rfl ?_
        intro T hp155 X W155 V155
        have F_68 := F_63.wr W155
        have F_69 := F_64.other W155 ne_ad118_ad144
        have F_70 := F_65.wr W155
        have F_71 := F_66.other W155 ne_ad131_ad144
        have F_72 := F_67.wr W155
        refine gAstore X w at_156 rfl #[.val (.int p1), .val (.int p2), .val (.int p3), .val (.int p4), .val (.int x2), .val (.int r10), .val (.int r20), .val (.int r30), .val (.ref ad118), .val (.ref ad131), .val (.ref ad144), .unset, .unset, .unset] rfl (n := 158) rfl ?_
        refine gIload X w at_158 rfl (n := 160) rfl ?_
        obtain ⟨y160, q160⟩ : ∃ zz_ : Int64, Int32.toInt64 r10 = zz_ := ⟨_, rfl⟩
        refine gI2l X w at_160 q160 (n := 161) rfl ?_
        have f160 : y160.toInt = r10.toInt := by rw [← q160]; exact c_i2l _
        refine gIload X w at_161 rfl (n := 163) rfl ?_
        obtain ⟨y163, q163⟩ : ∃ zz_ : Int64, Int32.toInt64 r20 = zz_ := ⟨_, rfl⟩
        refine gI2l X w at_163 q163 (n := 164) rfl ?_
        have f163 : y163.toInt = r20.toInt := by rw [← q163]; exact c_i2l _
        obtain ⟨y164, q164⟩ : ∃ zz_ : Int64, y160 + y163 = zz_ := ⟨_, rfl⟩
        refine gLadd X w at_164 q164 (n := 165) rfl ?_
        have f164 : y164.toInt = y160.toInt + y163.toInt := by rw [← q164]; exact ladd_toInt (by have := rng32 r10; have := rng32 r20; have := rng32 r30; omega) (by have := rng32 r10; have := rng32 r20; have := rng32 r30; omega)
        refine gJstore X w at_165 #[.val (.int p1), .val (.int p2), .val (.int p3), .val (.int p4), .val (.int x2), .val (.int r10), .val (.int r20), .val (.int r30), .val (.ref ad118), .val (.ref ad131), .val (.ref ad144), .val (.long y164), .second, .unset] rfl (n := 167) rfl ?_
        refine gGoto X w at_167 (by decide) (n := 233) rfl ?_
        refine gNew X w (own_wd hw 6 rfl) (own_wd hw 7 rfl) (own_wd hw 8 rfl) at_233 (by decide) (by decide) (n := 236) rfl ?_
        intro T hp233 ad233 ea233 na233 X E233 A233 D233
        have ne_ad118_ad233 : ad118 ≠ ad233 := neOf F_68.lt (Nat.le_of_eq ea233.symm)
        have ne_ad131_ad233 : ad131 ≠ ad233 := neOf F_70.lt (Nat.le_of_eq ea233.symm)
        have ne_ad144_ad233 : ad144 ≠ ad233 := neOf F_72.lt (Nat.le_of_eq ea233.symm)
        have F_73 := F_68.ext E233
        have F_74 := F_69.ext E233
        have F_75 := F_70.ext E233
        have F_76 := F_71.ext E233
        have F_77 := F_72.ext E233
        have F_78 := V155.ext E233
        have F_79 : Fld Z hp233 ad233 "com/example/nanchang/nanchang/index/FieldCounts" "starts" "[I" .null := D233 (Or.inr (own_wd hw 16 rfl)) (ty := (.array .int)) (by decide)
        have F_80 : Fld Z hp233 ad233 "com/example/nanchang/nanchang/index/FieldCounts" "fields" "[I" .null := D233 (Or.inr (own_wd hw 18 rfl)) (ty := (.array .int)) (by decide)
        have F_81 : Fld Z hp233 ad233 "com/example/nanchang/nanchang/index/FieldCounts" "counts" "[I" .null := D233 (Or.inr (own_wd hw 20 rfl)) (ty := (.array .int)) (by decide)
        refine gDup X w at_236 rfl (n := 237) rfl ?_
        refine gAload X w at_237 rfl rfl (n := 239) rfl ?_
        refine gAload X w at_239 rfl rfl (n := 241) rfl ?_
        refine gAload X w at_241 rfl rfl (n := 243) rfl ?_
        refine gCallIn X w [(.ref ad118), (.ref ad131), (.ref ad144)] [(.ref ad233)] rfl (own_init l Z a0 hw ad233 ad118 ad131 ad144 hp233 n0 (Sd.le X) na233 A233 F_79 F_80 F_81) (own_wd hw 9 rfl) (own_wd hw 10 rfl) (own_wd hw 8 rfl) (own_wd hw 11 rfl) (by decide) own_pd1 rfl rfl at_243 rfl (W := 1) (Nat.le_of_eq rfl) (by decide) (by decide) (by decide) (by decide) (n := 246) rfl ?_
        rintro T h243 ⟨K243, A243, F243⟩ X
        have F_82 := F_73.keep K243
        have F_83 := F_74.keep K243 (ninS ne_ad118_ad233 nin0)
        have F_84 := F_75.keep K243
        have F_85 := F_76.keep K243 (ninS ne_ad131_ad233 nin0)
        have F_86 := F_77.keep K243
        have F_87 := F_78.keep K243 (ninS ne_ad144_ad233 nin0)
        have F_88 := A233.keep K243
        refine gAstore X w at_246 rfl #[.val (.int p1), .val (.int p2), .val (.int p3), .val (.int p4), .val (.int x2), .val (.int r10), .val (.int r20), .val (.int r30), .val (.ref ad118), .val (.ref ad131), .val (.ref ad144), .val (.long y164), .second, .val (.ref ad233)] rfl (n := 248) rfl ?_
        refine gAload X w at_248 rfl rfl (n := 250) rfl ?_
        refine gCallVv X w [] [] A243 (own_total_2 l Z a0 hw ad233 ad144 r10 r20 h243 n0 (Sd.le X) F243 F_87) (own_wd hw 21 rfl) (own_wd hw 22 rfl) (notFace_of_selects (args := #[]) (mvT w.2.2.1 (own_wd hw 24 rfl))) (own_wd hw 24 rfl) (own_wd hw 23 rfl) (own_wd hw 8 rfl) (own_wd hw 25 rfl) (by decide) own_pd2 rfl rfl at_250 rfl (W := 0) (Nat.le_of_eq rfl) (by decide) (by decide) (by decide) (by decide) (n := 253) rfl ?_
        rintro T _ _ ⟨rfl, t250, rfl, ft250⟩ X
        refine gJload X w at_253 rfl (n := 255) rfl ?_
        refine gLcmp X w at_255 rfl (n := 256) rfl ?_
        refine gIfL_ne X w at_256 (n := 263) (n' := 259) (by decide) rfl rfl ?_ ?_
        · rintro ⟨c256, c256'⟩
          exact absurd ft250 (by omega)
        · rintro ⟨c256, c256'⟩
          refine gIconst X w at_259 (z := (1 : Int32)) rfl (n := 260) rfl ?_
          refine gGoto X w at_260 (by decide) (n := 264) rfl ?_
          exact gRetZ X w rfl (Or.inr rfl) at_264 (by decide) (by decide) (rfl)
    · rintro ⟨c68, c68'⟩
      refine gIconst X w at_71 (z := (2 : Int32)) rfl (n := 72) rfl ?_
      refine gNewP X w (own_wd hw 5 rfl) at_72 (by decide) (cap := 2) (by decide) (by decide) (by decide) (by decide) (vs := [(.int (0 : Int32)), (.int (0 : Int32))]) (ty := .int) rfl rfl (ad := "[I") (by decide) (n := 74) rfl ?_
      intro T hp72 ad72 ea72 na72 X E72 V72 A72
      refine gDup X w at_74 rfl (n := 75) rfl ?_
      refine gIconst X w at_75 (z := (0 : Int32)) rfl (n := 76) rfl ?_
      refine gIconst X w at_76 (z := (0 : Int32)) rfl (n := 77) rfl ?_
      refine gIastore X w (z := (.int (0 : Int32))) V72 (by decide) (show (0 : Int) < ((2 : Nat) : Int) from by decide) na72 rfl (vs' := [(.int (0 : Int32)), (.int (0 : Int32))]) rfl at_77 (n := 78) rfl ?_
      intro T hp77 X W77 V77
      have F_89 := A72.wr W77
      refine gDup X w at_78 rfl (n := 79) rfl ?_
      refine gIconst X w at_79 (z := (1 : Int32)) rfl (n := 80) rfl ?_
      refine gIconst X w at_80 (z := (1 : Int32)) rfl (n := 81) rfl ?_
      refine gIastore X w (z := (.int (1 : Int32))) V77 (by decide) (show (1 : Int) < ((2 : Nat) : Int) from by decide) na72 rfl (vs' := [(.int (0 : Int32)), (.int (1 : Int32))]) rfl at_81 (n := 82) rfl ?_
      intro T hp81 X W81 V81
      have F_90 := F_89.wr W81
      refine gAstore X w at_82 rfl #[.val (.int p1), .val (.int p2), .val (.int p3), .val (.int p4), .val (.int x2), .val (.int r10), .val (.int r20), .val (.int r30), .val (.ref ad72), .unset, .unset, .unset, .unset, .unset] rfl (n := 84) rfl ?_
      refine gIconst X w at_84 (z := (1 : Int32)) rfl (n := 85) rfl ?_
      refine gNewP X w (own_wd hw 5 rfl) at_85 (by decide) (cap := 1) (by decide) (by decide) (by decide) (by decide) (vs := [(.int (0 : Int32))]) (ty := .int) rfl rfl (ad := "[I") (by decide) (n := 87) rfl ?_
      intro T hp85 ad85 ea85 na85 X E85 V85 A85
      have ne_ad72_ad85 : ad72 ≠ ad85 := neOf F_90.lt (Nat.le_of_eq ea85.symm)
      have F_91 := F_90.ext E85
      have F_92 := V81.ext E85
      refine gDup X w at_87 rfl (n := 88) rfl ?_
      refine gIconst X w at_88 (z := (0 : Int32)) rfl (n := 89) rfl ?_
      refine gIconst X w at_89 (z := (0 : Int32)) rfl (n := 90) rfl ?_
      refine gIastore X w (z := (.int (0 : Int32))) V85 (by decide) (show (0 : Int) < ((1 : Nat) : Int) from by decide) na85 rfl (vs' := [(.int (0 : Int32))]) rfl at_90 (n := 91) rfl ?_
      intro T hp90 X W90 V90
      have F_93 := F_91.wr W90
      have F_94 := F_92.other W90 ne_ad72_ad85
      have F_95 := A85.wr W90
      refine gAstore X w at_91 rfl #[.val (.int p1), .val (.int p2), .val (.int p3), .val (.int p4), .val (.int x2), .val (.int r10), .val (.int r20), .val (.int r30), .val (.ref ad72), .val (.ref ad85), .unset, .unset, .unset, .unset] rfl (n := 93) rfl ?_
      refine gIconst X w at_93 (z := (1 : Int32)) rfl (n := 94) rfl ?_
      refine gNewP X w (own_wd hw 5 rfl) at_94 (by decide) (cap := 1) (by decide) (by decide) (by decide) (by decide) (vs := [(.int (0 : Int32))]) (ty := .int) rfl rfl (ad := "[I") (by decide) (n := 96) rfl ?_
      intro T hp94 ad94 ea94 na94 X E94 V94 A94
      have ne_ad72_ad94 : ad72 ≠ ad94 := neOf F_93.lt (Nat.le_of_eq ea94.symm)
      have ne_ad85_ad94 : ad85 ≠ ad94 := neOf F_95.lt (Nat.le_of_eq ea94.symm)
      have F_96 := F_93.ext E94
      have F_97 := F_94.ext E94
      have F_98 := F_95.ext E94
      have F_99 := V90.ext E94
      refine gDup X w at_96 rfl (n := 97) rfl ?_
      refine gIconst X w at_97 (z := (0 : Int32)) rfl (n := 98) rfl ?_
      refine gIload X w at_98 rfl (n := 100) rfl ?_
      refine gIastore X w (z := (.int r10)) V94 (by decide) (show (0 : Int) < ((1 : Nat) : Int) from by decide) na94 rfl (vs' := [(.int r10)]) rfl at_100 (n := 101) rfl ?_
      intro T hp100 X W100 V100
      have F_100 := F_96.wr W100
      have F_101 := F_97.other W100 ne_ad72_ad94
      have F_102 := F_98.wr W100
      have F_103 := F_99.other W100 ne_ad85_ad94
      have F_104 := A94.wr W100
      refine gAstore X w at_101 rfl #[.val (.int p1), .val (.int p2), .val (.int p3), .val (.int p4), .val (.int x2), .val (.int r10), .val (.int r20), .val (.int r30), .val (.ref ad72), .val (.ref ad85), .val (.ref ad94), .unset, .unset, .unset] rfl (n := 103) rfl ?_
      refine gIload X w at_103 rfl (n := 105) rfl ?_
      obtain ⟨y105, q105⟩ : ∃ zz_ : Int64, Int32.toInt64 r10 = zz_ := ⟨_, rfl⟩
      refine gI2l X w at_105 q105 (n := 106) rfl ?_
      have f105 : y105.toInt = r10.toInt := by rw [← q105]; exact c_i2l _
      refine gJstore X w at_106 #[.val (.int p1), .val (.int p2), .val (.int p3), .val (.int p4), .val (.int x2), .val (.int r10), .val (.int r20), .val (.int r30), .val (.ref ad72), .val (.ref ad85), .val (.ref ad94), .val (.long y105), .second, .unset] rfl (n := 108) rfl ?_
      refine gGoto X w at_108 (by decide) (n := 233) rfl ?_
      refine gNew X w (own_wd hw 6 rfl) (own_wd hw 7 rfl) (own_wd hw 8 rfl) at_233 (by decide) (by decide) (n := 236) rfl ?_
      intro T hp233 ad233 ea233 na233 X E233 A233 D233
      have ne_ad72_ad233 : ad72 ≠ ad233 := neOf F_100.lt (Nat.le_of_eq ea233.symm)
      have ne_ad85_ad233 : ad85 ≠ ad233 := neOf F_102.lt (Nat.le_of_eq ea233.symm)
      have ne_ad94_ad233 : ad94 ≠ ad233 := neOf F_104.lt (Nat.le_of_eq ea233.symm)
      have F_105 := F_100.ext E233
      have F_106 := F_101.ext E233
      have F_107 := F_102.ext E233
      have F_108 := F_103.ext E233
      have F_109 := F_104.ext E233
      have F_110 := V100.ext E233
      have F_111 : Fld Z hp233 ad233 "com/example/nanchang/nanchang/index/FieldCounts" "starts" "[I" .null := D233 (Or.inr (own_wd hw 16 rfl)) (ty := (.array .int)) (by decide)
      have F_112 : Fld Z hp233 ad233 "com/example/nanchang/nanchang/index/FieldCounts" "fields" "[I" .null := D233 (Or.inr (own_wd hw 18 rfl)) (ty := (.array .int)) (by decide)
      have F_113 : Fld Z hp233 ad233 "com/example/nanchang/nanchang/index/FieldCounts" "counts" "[I" .null := D233 (Or.inr (own_wd hw 20 rfl)) (ty := (.array .int)) (by decide)
      refine gDup X w at_236 rfl (n := 237) rfl ?_
      refine gAload X w at_237 rfl rfl (n := 239) rfl ?_
      refine gAload X w at_239 rfl rfl (n := 241) rfl ?_
      refine gAload X w at_241 rfl rfl (n := 243) rfl ?_
      refine gCallIn X w [(.ref ad72), (.ref ad85), (.ref ad94)] [(.ref ad233)] rfl (own_init l Z a0 hw ad233 ad72 ad85 ad94 hp233 n0 (Sd.le X) na233 A233 F_111 F_112 F_113) (own_wd hw 9 rfl) (own_wd hw 10 rfl) (own_wd hw 8 rfl) (own_wd hw 11 rfl) (by decide) own_pd1 rfl rfl at_243 rfl (W := 1) (Nat.le_of_eq rfl) (by decide) (by decide) (by decide) (by decide) (n := 246) rfl ?_
      rintro T h243 ⟨K243, A243, F243⟩ X
      have F_114 := F_105.keep K243
      have F_115 := F_106.keep K243 (ninS ne_ad72_ad233 nin0)
      have F_116 := F_107.keep K243
      have F_117 := F_108.keep K243 (ninS ne_ad85_ad233 nin0)
      have F_118 := F_109.keep K243
      have F_119 := F_110.keep K243 (ninS ne_ad94_ad233 nin0)
      have F_120 := A233.keep K243
      refine gAstore X w at_246 rfl #[.val (.int p1), .val (.int p2), .val (.int p3), .val (.int p4), .val (.int x2), .val (.int r10), .val (.int r20), .val (.int r30), .val (.ref ad72), .val (.ref ad85), .val (.ref ad94), .val (.long y105), .second, .val (.ref ad233)] rfl (n := 248) rfl ?_
      refine gAload X w at_248 rfl rfl (n := 250) rfl ?_
      refine gCallVv X w [] [] A243 (own_total_1 l Z a0 hw ad233 ad94 r10 h243 n0 (Sd.le X) F243 F_119) (own_wd hw 21 rfl) (own_wd hw 22 rfl) (notFace_of_selects (args := #[]) (mvT w.2.2.1 (own_wd hw 24 rfl))) (own_wd hw 24 rfl) (own_wd hw 23 rfl) (own_wd hw 8 rfl) (own_wd hw 25 rfl) (by decide) own_pd2 rfl rfl at_250 rfl (W := 0) (Nat.le_of_eq rfl) (by decide) (by decide) (by decide) (by decide) (n := 253) rfl ?_
      rintro T _ _ ⟨rfl, t250, rfl, ft250⟩ X
      refine gJload X w at_253 rfl (n := 255) rfl ?_
      refine gLcmp X w at_255 rfl (n := 256) rfl ?_
      refine gIfL_ne X w at_256 (n := 263) (n' := 259) (by decide) rfl rfl ?_ ?_
      · rintro ⟨c256, c256'⟩
        exact absurd ft250 (by omega)
      · rintro ⟨c256, c256'⟩
        refine gIconst X w at_259 (z := (1 : Int32)) rfl (n := 260) rfl ?_
        refine gGoto X w at_260 (by decide) (n := 264) rfl ?_
        exact gRetZ X w rfl (Or.inr rfl) at_264 (by decide) (by decide) (rfl)
  · rintro ⟨c37, c37'⟩
    refine gIconst X w at_40 (z := (1 : Int32)) rfl (n := 41) rfl ?_
    refine gNewP X w (own_wd hw 5 rfl) at_41 (by decide) (cap := 1) (by decide) (by decide) (by decide) (by decide) (vs := [(.int (0 : Int32))]) (ty := .int) rfl rfl (ad := "[I") (by decide) (n := 43) rfl ?_
    intro T hp41 ad41 ea41 na41 X E41 V41 A41
    refine gDup X w at_43 rfl (n := 44) rfl ?_
    refine gIconst X w at_44 (z := (0 : Int32)) rfl (n := 45) rfl ?_
    refine gIconst X w at_45 (z := (0 : Int32)) rfl (n := 46) rfl ?_
    refine gIastore X w (z := (.int (0 : Int32))) V41 (by decide) (show (0 : Int) < ((1 : Nat) : Int) from by decide) na41 rfl (vs' := [(.int (0 : Int32))]) rfl at_46 (n := 47) rfl ?_
    intro T hp46 X W46 V46
    have F_121 := A41.wr W46
    refine gAstore X w at_47 rfl #[.val (.int p1), .val (.int p2), .val (.int p3), .val (.int p4), .val (.int x2), .val (.int r10), .val (.int r20), .val (.int r30), .val (.ref ad41), .unset, .unset, .unset, .unset, .unset] rfl (n := 49) rfl ?_
    refine gIconst X w at_49 (z := (0 : Int32)) rfl (n := 50) rfl ?_
    refine gNewP X w (own_wd hw 5 rfl) at_50 (by decide) (cap := 0) (by decide) (by decide) (by decide) (by decide) (vs := []) (ty := .int) rfl rfl (ad := "[I") (by decide) (n := 52) rfl ?_
    intro T hp50 ad50 ea50 na50 X E50 V50 A50
    have ne_ad41_ad50 : ad41 ≠ ad50 := neOf F_121.lt (Nat.le_of_eq ea50.symm)
    have F_122 := F_121.ext E50
    have F_123 := V46.ext E50
    refine gAstore X w at_52 rfl #[.val (.int p1), .val (.int p2), .val (.int p3), .val (.int p4), .val (.int x2), .val (.int r10), .val (.int r20), .val (.int r30), .val (.ref ad41), .val (.ref ad50), .unset, .unset, .unset, .unset] rfl (n := 54) rfl ?_
    refine gIconst X w at_54 (z := (0 : Int32)) rfl (n := 55) rfl ?_
    refine gNewP X w (own_wd hw 5 rfl) at_55 (by decide) (cap := 0) (by decide) (by decide) (by decide) (by decide) (vs := []) (ty := .int) rfl rfl (ad := "[I") (by decide) (n := 57) rfl ?_
    intro T hp55 ad55 ea55 na55 X E55 V55 A55
    have ne_ad41_ad55 : ad41 ≠ ad55 := neOf F_122.lt (Nat.le_of_eq ea55.symm)
    have ne_ad50_ad55 : ad50 ≠ ad55 := neOf A50.lt (Nat.le_of_eq ea55.symm)
    have F_124 := F_122.ext E55
    have F_125 := F_123.ext E55
    have F_126 := A50.ext E55
    have F_127 := V50.ext E55
    refine gAstore X w at_57 rfl #[.val (.int p1), .val (.int p2), .val (.int p3), .val (.int p4), .val (.int x2), .val (.int r10), .val (.int r20), .val (.int r30), .val (.ref ad41), .val (.ref ad50), .val (.ref ad55), .unset, .unset, .unset] rfl (n := 59) rfl ?_
    refine gLconst X w at_59 (z := (0 : Int64)) (by decide) (n := 60) rfl ?_
    refine gJstore X w at_60 #[.val (.int p1), .val (.int p2), .val (.int p3), .val (.int p4), .val (.int x2), .val (.int r10), .val (.int r20), .val (.int r30), .val (.ref ad41), .val (.ref ad50), .val (.ref ad55), .val (.long (0 : Int64)), .second, .unset] rfl (n := 62) rfl ?_
    refine gGoto X w at_62 (by decide) (n := 233) rfl ?_
    refine gNew X w (own_wd hw 6 rfl) (own_wd hw 7 rfl) (own_wd hw 8 rfl) at_233 (by decide) (by decide) (n := 236) rfl ?_
    intro T hp233 ad233 ea233 na233 X E233 A233 D233
    have ne_ad41_ad233 : ad41 ≠ ad233 := neOf F_124.lt (Nat.le_of_eq ea233.symm)
    have ne_ad50_ad233 : ad50 ≠ ad233 := neOf F_126.lt (Nat.le_of_eq ea233.symm)
    have ne_ad55_ad233 : ad55 ≠ ad233 := neOf A55.lt (Nat.le_of_eq ea233.symm)
    have F_128 := F_124.ext E233
    have F_129 := F_125.ext E233
    have F_130 := F_126.ext E233
    have F_131 := F_127.ext E233
    have F_132 := A55.ext E233
    have F_133 := V55.ext E233
    have F_134 : Fld Z hp233 ad233 "com/example/nanchang/nanchang/index/FieldCounts" "starts" "[I" .null := D233 (Or.inr (own_wd hw 16 rfl)) (ty := (.array .int)) (by decide)
    have F_135 : Fld Z hp233 ad233 "com/example/nanchang/nanchang/index/FieldCounts" "fields" "[I" .null := D233 (Or.inr (own_wd hw 18 rfl)) (ty := (.array .int)) (by decide)
    have F_136 : Fld Z hp233 ad233 "com/example/nanchang/nanchang/index/FieldCounts" "counts" "[I" .null := D233 (Or.inr (own_wd hw 20 rfl)) (ty := (.array .int)) (by decide)
    refine gDup X w at_236 rfl (n := 237) rfl ?_
    refine gAload X w at_237 rfl rfl (n := 239) rfl ?_
    refine gAload X w at_239 rfl rfl (n := 241) rfl ?_
    refine gAload X w at_241 rfl rfl (n := 243) rfl ?_
    refine gCallIn X w [(.ref ad41), (.ref ad50), (.ref ad55)] [(.ref ad233)] rfl (own_init l Z a0 hw ad233 ad41 ad50 ad55 hp233 n0 (Sd.le X) na233 A233 F_134 F_135 F_136) (own_wd hw 9 rfl) (own_wd hw 10 rfl) (own_wd hw 8 rfl) (own_wd hw 11 rfl) (by decide) own_pd1 rfl rfl at_243 rfl (W := 1) (Nat.le_of_eq rfl) (by decide) (by decide) (by decide) (by decide) (n := 246) rfl ?_
    rintro T h243 ⟨K243, A243, F243⟩ X
    have F_137 := F_128.keep K243
    have F_138 := F_129.keep K243 (ninS ne_ad41_ad233 nin0)
    have F_139 := F_130.keep K243
    have F_140 := F_131.keep K243 (ninS ne_ad50_ad233 nin0)
    have F_141 := F_132.keep K243
    have F_142 := F_133.keep K243 (ninS ne_ad55_ad233 nin0)
    have F_143 := A233.keep K243
    refine gAstore X w at_246 rfl #[.val (.int p1), .val (.int p2), .val (.int p3), .val (.int p4), .val (.int x2), .val (.int r10), .val (.int r20), .val (.int r30), .val (.ref ad41), .val (.ref ad50), .val (.ref ad55), .val (.long (0 : Int64)), .second, .val (.ref ad233)] rfl (n := 248) rfl ?_
    refine gAload X w at_248 rfl rfl (n := 250) rfl ?_
    refine gCallVv X w [] [] A243 (own_total_0 l Z a0 hw ad233 ad55  h243 n0 (Sd.le X) F243 F_142) (own_wd hw 21 rfl) (own_wd hw 22 rfl) (notFace_of_selects (args := #[]) (mvT w.2.2.1 (own_wd hw 24 rfl))) (own_wd hw 24 rfl) (own_wd hw 23 rfl) (own_wd hw 8 rfl) (own_wd hw 25 rfl) (by decide) own_pd2 rfl rfl at_250 rfl (W := 0) (Nat.le_of_eq rfl) (by decide) (by decide) (by decide) (by decide) (n := 253) rfl ?_
    rintro T _ _ ⟨rfl, t250, rfl, ft250⟩ X
    refine gJload X w at_253 rfl (n := 255) rfl ?_
    refine gLcmp X w at_255 rfl (n := 256) rfl ?_
    refine gIfL_ne X w at_256 (n := 263) (n' := 259) (by decide) rfl rfl ?_ ?_
    · rintro ⟨c256, c256'⟩
      have z0 : (0 : Int64).toInt = 0 := rfl; exact absurd ft250 (by omega)
    · rintro ⟨c256, c256'⟩
      refine gIconst X w at_259 (z := (1 : Int32)) rfl (n := 260) rfl ?_
      refine gGoto X w at_260 (by decide) (n := 264) rfl ?_
      exact gRetZ X w rfl (Or.inr rfl) at_264 (by decide) (by decide) (rfl)
set_option maxRecDepth 65536 in
set_option maxHeartbeats 40000000 in
theorem comes_1 {Post : Tables → Env → Array Value → State → Outcome → State → Prop} (hpost : ∀ tb e args s v u, (limb_1_1.after args s (.returned v) u = true ∧ limb_1_2.after args s (.returned v) u = true ∧ True) → FrameEnd s (.returned v) u (Jvm.fieldLocs frame_1_writes args s ++ Jvm.arrayLocs frame_1_arrays args s ++ Jvm.staticLocs frame_1_statics s) 16 128 → Post tb e args s (.returned v) u) :
    ArmFor flags0 classFile x code maxLocals ret World_1 tables_1 room_1 Calls_1 rest_1 Pre_1 Post := by
  intro l hfl _ _ p e ha hc hk s m args below hf hA hF happ hP
  obtain ⟨hcalls, hrest, hpre⟩ := hP
  obtain ⟨-, -, -, hnamed, -, -, -, hat⟩ := (Spec.applies_iff hf).mp happ
  obtain ⟨hg, hn⟩ := and_e (Cond.before_iff.mp (show (Jvm.Cond.and given_1 narrow_1).before args s = true from hpre))
  obtain ⟨hcnt, g0⟩ := and_e hg
  obtain ⟨w0, w1, w2, w3, rfl⟩ : ∃ w0 w1 w2 w3 : Value, args = #[w0, w1, w2, w3] := by
    have hs : args.size = 4 := by simpa [Cond.value, given_1] using hcnt
    obtain ⟨L⟩ := args
    match L, hs with
    | [w0, w1, w2, w3], _ => exact ⟨w0, w1, w2, w3, rfl⟩
  have hw := fun d (hd : d ∈ tables_1) => atoms_spec (ws := Jvm.Cond.code x code maxLocals ret :: tables_1) hat d (List.mem_cons_of_mem _ hd)
  have hfit : Fit s := fun {y c} hc i hi => by
    obtain ⟨ha, rfl⟩ := Array.getElem?_eq_some_iff.mp hc
    have q := List.all_eq_true.mp ((Array.all_eq_true_iff_forall_mem.mp hF) _ (Array.getElem_mem ha)) i (List.mem_range.mpr hi)
    simpa [Array.getElem?_eq_getElem hi] using q
  obtain ⟨k0, g1⟩ := and_e g0
  obtain ⟨k1, g2⟩ := and_e g1
  obtain ⟨k2, g3⟩ := and_e g2
  obtain ⟨i0, e0⟩ := is_v k0
  obtain rfl : w0 = (.int i0) := Option.some.inj e0
  obtain ⟨i1, e1⟩ := is_v k1
  obtain rfl : w1 = (.int i1) := Option.some.inj e1
  obtain ⟨i2, e2⟩ := is_v k2
  obtain rfl : w2 = (.int i2) := Option.some.inj e2
  obtain ⟨i3, e3⟩ := is_v g3
  obtain rfl : w3 = (.int i3) := Option.some.inj e3
  obtain ⟨n, o, h1, h2, h3, _, L, rfl, ⟨rfl, N⟩, hq⟩ := own_law l s _ hw i0 i1 i2 i3 s.heap s.heap.size (Nat.le_refl _)  p e ha hc hk s m _ below hf ((Spec.applies_iff_loose hf).mp happ).1 ⟨rfl, State.Warmed39.refl s, rfl⟩ trivial
  refine ⟨n, _, h1, h2, h3, hpost _ _ _ _ _ _ ⟨Cond.after_iff.mpr rfl, Cond.after_iff.mpr (eq_i res_at (Term.int_eval (1)) rfl), trivial⟩ ⟨hq.1, hq.2.1, (hq.2.2.sift fun y hy => Or.inr (N y hy)).mono (by decide) (by decide)⟩⟩
theorem main_1_1 : Claimed_1_1 := comes_1 fun _ _ _ _ _ _ h hF => ⟨h.1, hF⟩
theorem main_1_2 : Claimed_1_2 := comes_1 fun _ _ _ _ _ _ h hF => ⟨h.2.1, hF⟩
end Jvm.Pilot.@@N@@
namespace Jvm.Pilot.@@N@@
open Jvm Jvm.ClassFile Sem Op Lib Jvm.Free Jvm.Stand Jvm.Pilot.@@N@@.Jvm.D
/-! MADE BY PROGRAM (witnessworld.py) out of the Statement's table words and the real class files: 10 classes; the members and pool entries that the words name. The judged class is class 1, her method 1. -/
namespace start1
open Jvm.ClassFile
def u (s : String) : CpInfo := .utf8 (stringToUtf16 s)
/-- a pool by its gaps: so many unusable entries, then the entry; so many at the end -/
def gap : Nat → List CpInfo → List CpInfo
  | 0, r => r
  | n + 1, r => .unusable :: gap n r
def poolList (es : List (Nat × CpInfo)) (last : Nat) : List CpInfo := es.foldr (fun e r => gap e.1 (e.2 :: r)) (gap last [])
def pool (es : List (Nat × CpInfo)) (last : Nat) : Array CpInfo := ⟨poolList es last⟩
def fileOf (pool : Array CpInfo) (this : Nat) (attrs : Array Attribute := #[]) (ms : Array MethodInfo := #[]) (fl : Nat := 33) (sup : Nat := 0) (ifs : Array Nat := #[]) (fds : Array FieldInfo := #[]) : ClassFile where
  minorVersion := 0
  majorVersion := 65
  constantPool := pool
  accessFlags := fl
  thisClass := this
  superClass := sup
  interfaces := ifs
  fields := fds
  methods := ms
  attributes := attrs
def plain (name : String) (sup : Option ClassId) : Class where
  name := name
  kind := .ordinary
  loader := none
  accessFlags := 33
  super := sup
  interfaces := #[]
  cf := none
  fields := #[]
  methods := #[]
  instanceTypes := #[]
  staticTypes := #[]
  resolved := #[]
  callSites := []
  init := .initialized
  statics := none
  mirror := none

def pool0 : Array CpInfo := pool [(5, u "<init>"), (0, u "()V"), (1, .class_ 10), (1, u "java/lang/Object")] 113

def k0c0 : Code := { maxStack := 0, maxLocals := 1, code := object_method_1_code, exceptionTable := #[], attributes := #[] }
def k0m0 : Method := { name := "<init>", desc := "()V", sig := { parameters := [], returnType := none }, accessFlags := 1, code := some k0c0 }
/-- java/lang/Object -/
def k0 : Class := { plain "java/lang/Object" none with
  accessFlags := 33
  interfaces := #[]
  cf := some (fileOf pool0 8 #[] #[{ accessFlags := 1, nameIndex := 5, descriptorIndex := 6, attributes := #[] }] 33 0 #[] #[])
  fields := #[]
  methods := #[k0m0]
  instanceTypes := #[]
  staticTypes := #[]
  resolved := Array.replicate 124 none
  statics := none }

def pool1 : Array CpInfo := pool [(2, .class_ 4), (1, u "java/lang/Object"), (0, u "<init>"), (0, u "()V"), (0, .integer 2147483647), (0, .methodref 9 10), (0, .class_ 11), (0, .nameAndType 12 13), (0, u "java/lang/Math"), (0, u "max"), (0, u "(II)I"), (0, .class_ 15), (0, u "com/example/nanchang/nanchang/index/FieldCounts"), (0, .methodref 14 17), (0, .nameAndType 5 18), (0, u "([I[I[I)V"), (0, .methodref 14 20), (0, .nameAndType 21 22), (0, u "total"), (0, u "()J"), (0, .class_ 24), (0, u "com/example/nanchang/nanchang/index/FieldCountsTotalPinLaw"), (2, u "law"), (0, u "(IIII)Z")] 5

def k1m0 : Method := { name := "<init>", desc := "()V", sig := { parameters := [], returnType := none }, accessFlags := 1, code := none }
def k1c1 : Code := { maxStack := 5, maxLocals := 14, code := code, exceptionTable := #[], attributes := #[] }
def k1m1 : Method := { name := "law", desc := "(IIII)Z", sig := { parameters := [.int, .int, .int, .int], returnType := some .boolean }, accessFlags := 9, code := some k1c1 }
/-- com/example/nanchang/nanchang/index/FieldCountsTotalPinLaw -/
def k1 : Class := { plain "com/example/nanchang/nanchang/index/FieldCountsTotalPinLaw" (some 0) with
  accessFlags := 49
  interfaces := #[]
  cf := some (fileOf pool1 23 #[] #[{ accessFlags := 1, nameIndex := 5, descriptorIndex := 6, attributes := #[] }, { accessFlags := 9, nameIndex := 27, descriptorIndex := 28, attributes := #[] }] 49 2 #[] #[])
  fields := #[]
  methods := #[k1m0, k1m1]
  instanceTypes := #[]
  staticTypes := #[]
  resolved := Array.replicate 34 none
  statics := none }

def pool2 : Array CpInfo := pool [(1, .class_ 2), (0, u "java/lang/Math"), (1, .class_ 6), (1, u "java/lang/Object"), (0, u "<init>"), (0, u "()V"), (89, .class_ 100), (1, u "java/lang/Math$RandomNumberGeneratorHolder"), (71, u "negativeZeroFloatBits"), (0, u "J"), (2, u "negativeZeroDoubleBits"), (21, u "max"), (46, u "$assertionsDisabled"), (0, u "Z"), (88, u "(II)I"), (2, u "twoToTheDoubleScaleDown"), (0, u "D"), (4, u "twoToTheDoubleScaleUp"), (9, u "E"), (3, u "PI"), (2, u "TAU"), (2, u "DEGREES_TO_RADIANS"), (0, u "RADIANS_TO_DEGREES")] 94

def k2m0 : Method := { name := "<init>", desc := "()V", sig := { parameters := [], returnType := none }, accessFlags := 2, code := none }
def k2c1 : Code := { maxStack := 2, maxLocals := 2, code := jdk_29_method_65_code, exceptionTable := #[], attributes := #[] }
def k2m1 : Method := { name := "max", desc := "(II)I", sig := { parameters := [.int, .int], returnType := some .int }, accessFlags := 9, code := some k2c1 }
/-- java/lang/Math -/
def k2 : Class := { plain "java/lang/Math" (some 0) with
  accessFlags := 49
  interfaces := #[]
  cf := some (fileOf pool2 1 #[.nestMembers #[98]] #[{ accessFlags := 2, nameIndex := 7, descriptorIndex := 8, attributes := #[] }, { accessFlags := 9, nameIndex := 198, descriptorIndex := 335, attributes := #[] }] 49 4 #[] #[{ accessFlags := 25, nameIndex := 354, descriptorIndex := 339, attributes := #[] }, { accessFlags := 25, nameIndex := 358, descriptorIndex := 339, attributes := #[] }, { accessFlags := 25, nameIndex := 361, descriptorIndex := 339, attributes := #[] }, { accessFlags := 26, nameIndex := 364, descriptorIndex := 339, attributes := #[] }, { accessFlags := 26, nameIndex := 365, descriptorIndex := 339, attributes := #[] }, { accessFlags := 26, nameIndex := 172, descriptorIndex := 173, attributes := #[] }, { accessFlags := 26, nameIndex := 176, descriptorIndex := 173, attributes := #[] }, { accessFlags := 8, nameIndex := 344, descriptorIndex := 339, attributes := #[] }, { accessFlags := 8, nameIndex := 338, descriptorIndex := 339, attributes := #[] }, { accessFlags := 4120, nameIndex := 245, descriptorIndex := 246, attributes := #[] }])
  fields := #[{ name := "E", type := .double, accessFlags := 25, slot := 0, constantValue := 0 }, { name := "PI", type := .double, accessFlags := 25, slot := 1, constantValue := 0 }, { name := "TAU", type := .double, accessFlags := 25, slot := 2, constantValue := 0 }, { name := "DEGREES_TO_RADIANS", type := .double, accessFlags := 26, slot := 3, constantValue := 0 }, { name := "RADIANS_TO_DEGREES", type := .double, accessFlags := 26, slot := 4, constantValue := 0 }, { name := "negativeZeroFloatBits", type := .long, accessFlags := 26, slot := 5, constantValue := 0 }, { name := "negativeZeroDoubleBits", type := .long, accessFlags := 26, slot := 6, constantValue := 0 }, { name := "twoToTheDoubleScaleUp", type := .double, accessFlags := 8, slot := 7, constantValue := 0 }, { name := "twoToTheDoubleScaleDown", type := .double, accessFlags := 8, slot := 8, constantValue := 0 }, { name := "$assertionsDisabled", type := .boolean, accessFlags := 4120, slot := 9, constantValue := 0 }]
  methods := #[k2m0, k2m1]
  instanceTypes := #[]
  staticTypes := #[.double, .double, .double, .double, .double, .long, .long, .double, .double, .boolean]
  resolved := Array.replicate 460 none
  statics := none }

def pool3 : Array CpInfo := pool [(1, .methodref 2 3), (0, .class_ 4), (0, .nameAndType 5 6), (0, u "java/lang/Object"), (0, u "<init>"), (0, u "()V"), (0, .fieldref 8 9), (0, .class_ 10), (0, .nameAndType 11 12), (0, u "com/example/nanchang/nanchang/index/FieldCounts"), (0, u "starts"), (0, u "[I"), (0, .fieldref 8 14), (0, .nameAndType 15 12), (0, u "fields"), (0, .fieldref 8 17), (0, .nameAndType 18 12), (0, u "counts"), (10, u "([I[I[I)V"), (8, u "total"), (0, u "()J")] 3

def k3c0 : Code := { maxStack := 2, maxLocals := 4, code := prog_18_method_1_code, exceptionTable := #[], attributes := #[] }
def k3m0 : Method := { name := "<init>", desc := "([I[I[I)V", sig := { parameters := [(.array .int), (.array .int), (.array .int)], returnType := none }, accessFlags := 0, code := some k3c0 }
def k3c1 : Code := { maxStack := 4, maxLocals := 7, code := prog_18_method_4_code, exceptionTable := #[], attributes := #[] }
def k3m1 : Method := { name := "total", desc := "()J", sig := { parameters := [], returnType := some .long }, accessFlags := 0, code := some k3c1 }
/-- com/example/nanchang/nanchang/index/FieldCounts -/
def k3 : Class := { plain "com/example/nanchang/nanchang/index/FieldCounts" (some 0) with
  accessFlags := 48
  interfaces := #[]
  cf := some (fileOf pool3 8 #[] #[{ accessFlags := 0, nameIndex := 5, descriptorIndex := 29, attributes := #[] }, { accessFlags := 0, nameIndex := 38, descriptorIndex := 39, attributes := #[] }] 48 2 #[] #[{ accessFlags := 18, nameIndex := 11, descriptorIndex := 12, attributes := #[] }, { accessFlags := 18, nameIndex := 15, descriptorIndex := 12, attributes := #[] }, { accessFlags := 18, nameIndex := 18, descriptorIndex := 12, attributes := #[] }])
  fields := #[{ name := "starts", type := (.array .int), accessFlags := 18, slot := 0, constantValue := 0 }, { name := "fields", type := (.array .int), accessFlags := 18, slot := 1, constantValue := 0 }, { name := "counts", type := (.array .int), accessFlags := 18, slot := 2, constantValue := 0 }]
  methods := #[k3m0, k3m1]
  instanceTypes := #[(.array .int), (.array .int), (.array .int)]
  staticTypes := #[]
  resolved := Array.replicate 43 none
  statics := none }

def pool4 : Array CpInfo := pool [(1, u "java/lang/Cloneable"), (0, .class_ 1), (0, u "java/lang/Object"), (0, .class_ 3)] 3

/-- java/lang/Cloneable -/
def k4 : Class := { plain "java/lang/Cloneable" (some 0) with
  accessFlags := 1537
  interfaces := #[]
  cf := some (fileOf pool4 2 #[] #[] 1537 4 #[] #[])
  fields := #[]
  methods := #[]
  instanceTypes := #[]
  staticTypes := #[]
  resolved := Array.replicate 8 none
  statics := none }

def pool5 : Array CpInfo := pool [(1, u "java/io/Serializable"), (0, .class_ 1), (0, u "java/lang/Object"), (0, .class_ 3)] 3

/-- java/io/Serializable -/
def k5 : Class := { plain "java/io/Serializable" (some 0) with
  accessFlags := 1537
  interfaces := #[]
  cf := some (fileOf pool5 2 #[] #[] 1537 4 #[] #[])
  fields := #[]
  methods := #[]
  instanceTypes := #[]
  staticTypes := #[]
  resolved := Array.replicate 8 none
  statics := none }

/-- the primitive byte -/
def k6 : Class := { plain "byte" none with kind := .primitive 'B', accessFlags := 0x411 }
/-- [B -/
def k7 : Class := { plain "[B" (some 0) with kind := .array 6 .byte, interfaces := #[4, 5], accessFlags := 1041 }

/-- the primitive int -/
def k8 : Class := { plain "int" none with kind := .primitive 'I', accessFlags := 0x411 }
/-- [I -/
def k9 : Class := { plain "[I" (some 0) with kind := .array 8 .int, interfaces := #[4, 5], accessFlags := 1041 }

def heap : Heap := #[]
def classes : Array Class := #[k0, k1, k2, k3, k4, k5, k6, k7, k8, k9]
def interned : List (Array UInt16 × Addr) := []
def slotsUsed : Nat := 0
def theMethod : MethodId := ⟨1, 1⟩
def args0 : Array Value := #[.int 5, .int 300, .int 7, .int 9]
def aboutOver (below : List Frame) : State where
  vm := { classes := classes, interned := interned.toArray }
  heap := heap
  slotsUsed := slotsUsed
  threads := #[{ frames := .invoking theMethod args0 :: below }]
def below0 : List Frame := [.native { method := ⟨0, 0⟩, args := #[] }]
def about1 : State := aboutOver below0
def p0 : Program := .bare "" "" ""
def e0 : Env := launch0.env 0 0 0
theorem w_frames : about1.frames = Frame.invoking theMethod args0 :: below0 := rfl
set_option maxRecDepth 65536 in
theorem w_args : argsFit about1.vm theMethod args0 = true := by decide +kernel
set_option maxRecDepth 65536 in
theorem w_heap : heapFits about1 = true := by decide +kernel
set_option maxRecDepth 65536 in
theorem w_runnable : about1.curStatus? = some .runnable := by decide +kernel
set_option maxRecDepth 65536 in
theorem w_alone : about1.alone = true := by decide +kernel
set_option maxRecDepth 65536 in
theorem w_named : about1.methodNamed? x = some theMethod := by decide +kernel
set_option maxRecDepth 65536 in
theorem w_hears : about1.hears theMethod below0 = true := by decide +kernel
set_option maxRecDepth 65536 in
theorem w_ripe : about1.ripe theMethod args0 below0 = true := by decide +kernel
theorem w_running : about1.status = .running := rfl
set_option maxRecDepth 65536 in
theorem w_room : about1.hasRoom e0.platform room_1 = true :=
  launch0.hasRoom_least _ room_1 (by decide +kernel) (by decide +kernel) (by decide +kernel) (by decide +kernel) (by decide +kernel) (by decide +kernel)
theorem allAtoms_all (ts : List Jvm.Cond) (a : Array Jvm.Value) (st : Jvm.State) : (allAtoms ts).before a st = ts.all (fun c => c.before a st) := by
  induction ts with
  | nil => rfl
  | cons c t ih =>
    show (Jvm.Cond.and c (allAtoms t)).before a st = _
    rw [Jvm.Cond.before_and, ih, List.all_cons]
def words1 : List Jvm.Cond := Jvm.Cond.code x code maxLocals ret :: tables_1
/-- a 'code' word, met by the world's own term for the bytes: nothing is compared byte by byte -/
theorem code_word {y : MethodName} {bytes : ByteArray} {mx : Nat} {rt : Option FieldType} {a : Array Value} {s : State} {m : MethodId} {meth : Method} {c : Code} (h1 : s.methodNamed? y = some m) (h2 : s.vm.method? m = some meth) (h3 : meth.code = some c) (h4 : c.code = bytes)
    (h5 : (c.maxLocals == mx && c.exceptionTable.isEmpty && decide (c.maxStack ≤ mostOperands) && decide (meth.sig.returnType = rt) && !meth.locks && decide (parseMethodDescriptor y.desc = some meth.sig)) = true) : (Jvm.Cond.code y bytes mx rt).before a s = true := by
  simp only [Bool.and_eq_true, beq_iff_eq, Bool.not_eq_true', decide_eq_true_eq] at h5
  obtain ⟨⟨⟨⟨⟨g1, g2⟩, g3⟩, g4⟩, g5⟩, g6⟩ := h5
  simp [Cond.before, Cond.holds, Cond.value, h1, h2, h3, h4, g1, g2, g3, g4, g5, g6]
def isCode : Jvm.Cond → Bool
  | .code _ _ _ _ => true
  | _ => false
theorem all_split {L : List Jvm.Cond} {P : Jvm.Cond → Bool} (h1 : L.all (fun c => isCode c || P c) = true) (h2 : ∀ c ∈ L.filter isCode, P c = true) : L.all P = true := by
  refine List.all_eq_true.mpr fun c hc => ?_
  have h := List.all_eq_true.mp h1 c hc
  rcases Bool.eq_false_or_eq_true (isCode c) with hi | hi
  · exact h2 c (List.mem_filter.mpr ⟨hc, hi⟩)
  · simpa [hi] using h
set_option maxRecDepth 65536 in
theorem w_c0 : (Jvm.Cond.code x code maxLocals ret).before args0 about1 = true := code_word (m := ⟨1, 1⟩) (meth := k1m1) (c := k1c1) (by decide +kernel) rfl rfl rfl (by decide +kernel)
set_option maxRecDepth 65536 in
theorem w_c1 : (Jvm.Cond.code ({ cls := "java/lang/Math", name := "max", desc := "(II)I" } : Jvm.MethodName) jdk_29_method_65_code (2 : Nat) (Option.some Jvm.ClassFile.FieldType.int)).before args0 about1 = true := code_word (m := ⟨2, 1⟩) (meth := k2m1) (c := k2c1) (by decide +kernel) rfl rfl rfl (by decide +kernel)
set_option maxRecDepth 65536 in
theorem w_c2 : (Jvm.Cond.code ({ cls := "com/example/nanchang/nanchang/index/FieldCounts", name := "<init>", desc := "([I[I[I)V" } : Jvm.MethodName) prog_18_method_1_code (4 : Nat) (Option.none : Option Jvm.ClassFile.FieldType)).before args0 about1 = true := code_word (m := ⟨3, 0⟩) (meth := k3m0) (c := k3c0) (by decide +kernel) rfl rfl rfl (by decide +kernel)
set_option maxRecDepth 65536 in
theorem w_c3 : (Jvm.Cond.code ({ cls := "java/lang/Object", name := "<init>", desc := "()V" } : Jvm.MethodName) object_method_1_code (1 : Nat) (Option.none : Option Jvm.ClassFile.FieldType)).before args0 about1 = true := code_word (m := ⟨0, 0⟩) (meth := k0m0) (c := k0c0) (by decide +kernel) rfl rfl rfl (by decide +kernel)
set_option maxRecDepth 65536 in
theorem w_c4 : (Jvm.Cond.code ({ cls := "com/example/nanchang/nanchang/index/FieldCounts", name := "total", desc := "()J" } : Jvm.MethodName) prog_18_method_4_code (7 : Nat) (Option.some Jvm.ClassFile.FieldType.long)).before args0 about1 = true := code_word (m := ⟨3, 1⟩) (meth := k3m1) (c := k3c1) (by decide +kernel) rfl rfl rfl (by decide +kernel)
def codes1 : List Jvm.Cond := [Jvm.Cond.code x code maxLocals ret, Jvm.Cond.code ({ cls := "java/lang/Math", name := "max", desc := "(II)I" } : Jvm.MethodName) jdk_29_method_65_code (2 : Nat) (Option.some Jvm.ClassFile.FieldType.int), Jvm.Cond.code ({ cls := "com/example/nanchang/nanchang/index/FieldCounts", name := "<init>", desc := "([I[I[I)V" } : Jvm.MethodName) prog_18_method_1_code (4 : Nat) (Option.none : Option Jvm.ClassFile.FieldType), Jvm.Cond.code ({ cls := "java/lang/Object", name := "<init>", desc := "()V" } : Jvm.MethodName) object_method_1_code (1 : Nat) (Option.none : Option Jvm.ClassFile.FieldType), Jvm.Cond.code ({ cls := "com/example/nanchang/nanchang/index/FieldCounts", name := "total", desc := "()J" } : Jvm.MethodName) prog_18_method_4_code (7 : Nat) (Option.some Jvm.ClassFile.FieldType.long)]
set_option maxRecDepth 65536 in
theorem codes_eq : words1.filter isCode = codes1 := rfl
theorem w_codes : ∀ c ∈ words1.filter isCode, c.before args0 about1 = true := by
  rw [codes_eq]
  intro c hc
  simp only [codes1, List.mem_cons, List.not_mem_nil, or_false] at hc
  rcases hc with rfl | rfl | rfl | rfl | rfl
  · exact w_c0
  · exact w_c1
  · exact w_c2
  · exact w_c3
  · exact w_c4
set_option maxRecDepth 65536 in
theorem w_t1 : (words1.take 24).all (fun c => isCode c || c.before args0 about1) = true := by decide +kernel
set_option maxRecDepth 65536 in
theorem w_t2 : (words1.drop 24).all (fun c => isCode c || c.before args0 about1) = true := by decide +kernel
theorem w_tables : (allAtoms (Jvm.Cond.code x code maxLocals ret :: tables_1)).before args0 about1 = true := by
  rw [allAtoms_all]
  show words1.all (fun c => c.before args0 about1) = true
  refine all_split ?_ w_codes
  rw [← List.take_append_drop 24 words1, List.all_append, w_t1, w_t2]
  rfl
set_option maxRecDepth 65536 in
theorem w_case : (Jvm.Cond.and given_1 narrow_1).before args0 about1 = true := by decide +kernel
theorem w_applies : (headSpec (Jvm.Cond.code x code maxLocals ret :: tables_1) room_1).applies x e0.platform about1 = true :=
  (Spec.applies_iff w_frames).mpr ⟨w_running, w_runnable, w_alone, w_named, w_hears, w_ripe, w_room, w_tables⟩
theorem atStart : AtStart classFile x code maxLocals ret World_1 tables_1 room_1 Calls_1 rest_1 Pre_1 launch0 p0 e0 about1 theMethod args0 below0 :=
  ⟨lists_1, trivial, launch0.admits_env _ _ _, launch0.least_env, fairChoices_fair.cas, fairChoices_fair.clock, w_frames, w_args, w_heap, w_applies, trivial, trivial, w_case⟩
end start1
theorem witness_1 : WitnessClaimed_1 := ⟨start1.p0, start1.e0, start1.about1, start1.theMethod, start1.args0, start1.below0, start1.atStart⟩
end Jvm.Pilot.@@N@@
