import JvmDerived
import JvmDerived.Pilot.@@N@@Statement
import JvmDerived.Pilot.@@N@@Code
set_option linter.unusedVariables false
set_option linter.unusedSimpArgs false
namespace Jvm.OwnWalk
open Sem ClassFile Op Lib Jvm.Stand Jvm.Free Jvm.LawKit Jvm.RoadKit
/-- where a run stands: the library's Stand, its written places new, its heap -/
def Sd (p : Program) (l : Launch) (e : Env) (R : Room) (s : State) (m : MethodId) (args : Array Value) (below : List Frame) (meth : Method) (c : Code) (n0 : Nat) (T : State) (h : Heap) (cells slots : Nat) : Prop :=
  ∃ locs, Stand p l e R s m args below meth c T locs cells slots ∧ Fr n0 locs ∧ T.heap = h ∧ n0 ≤ s.heap.size
/-- what stays through a walk -/
def Cx (Z : State) (own nm : String) (bytes : ByteArray) (maxL : Nat) (ret : Option FieldType) (p : Program) (s : State) (m : MethodId) (meth : Method) (c : Code) : Prop :=
  p.tables.exec = Jvm.exec ∧ c.code = bytes ∧ Z.Warmed39 s.vm ∧ s.vm.findClass own = some m.cls ∧ meth.name = nm ∧ c.maxLocals = maxL ∧ meth.sig.returnType = ret ∧ meth.locks = false
/-- from A the body returns, and P holds of what it returns and of the heap -/
def Gl (p : Program) (e : Env) (below : List Frame) (s : State) (n0 : Nat) (P : Option Value → Heap → Prop) (C S : Nat) (A : State) : Prop :=
  ∃ t o, Steps p.tables e below A t ∧ t.status = .running ∧ Ended t below o ∧ ∃ v L, o = .returned v ∧ (P v t.heap ∧ Fr n0 L) ∧ FrameEnd s o t L C S
/-- a method's contract -/
def Con (l : Launch) (Z : State) (y : MethodName) (bytes : ByteArray) (maxL : Nat) (ret : Option FieldType) (ws : List Jvm.Cond) (rm : Room) (C S : Nat) (as' : Array Value) (h0 : Heap) (n0 : Nat) (P : Option Value → Heap → Prop) : Prop :=
  MetFree l y (head1 (Jvm.Cond.code y bytes maxL ret :: ws) rm) (fun a U => a = as' ∧ Z.Warmed39 U.vm ∧ U.heap = h0) (fun _ _ _ _ _ => True) (fun _ U o U' => ∃ v L, o = .returned v ∧ (P v U'.heap ∧ Fr n0 L) ∧ FrameEnd U o U' L C S)
theorem Con.met {l : Launch} {Z : State} {y : MethodName} {bytes : ByteArray} {maxL : Nat} {ret : Option FieldType} {ws : List Jvm.Cond} {rm : Room} {C S : Nat} {as' : Array Value} {h0 : Heap} {n0 : Nat} {P : Option Value → Heap → Prop} (h : Con l Z y bytes maxL ret ws rm C S as' h0 n0 P) :
  MetFree l y (head1 (Jvm.Cond.code y bytes maxL ret :: ws) rm) (fun a U => a = as' ∧ Z.Warmed39 U.vm ∧ U.heap = h0) (fun _ _ _ _ _ => True) (fun _ U o U' => ∃ v L, o = .returned v ∧ (P v U'.heap ∧ Fr n0 L) ∧ FrameEnd U o U' L C S) := h
theorem Con.of {l : Launch} {Z : State} {y : MethodName} {bytes : ByteArray} {maxL : Nat} {ret : Option FieldType} {ws : List Jvm.Cond} {rm : Room} {C S : Nat} {as' : Array Value} {h0 : Heap} {n0 : Nat} {P : Option Value → Heap → Prop} (hpl : plainFor y = true) (hn : n0 ≤ h0.size)
    (hb : ∀ p e s m below meth c T, Cx Z y.cls y.name bytes maxL ret p s m meth c → Sd p l e rm s m as' below meth c n0 T h0 0 0 → Gl p e below s n0 P C S (T.setTop (entryFrame m as' maxL))) : Con l Z y bytes maxL ret ws rm C S as' h0 n0 P := by
  refine MetFree.of_bodySF hpl hisR ?_
  intro p e s m args below meth c s₁ Bd hml0 hP hK
  obtain ⟨rfl, hZ, hh⟩ := hP
  have hlk : meth.locks = false := Bd.notSynchronized
  exact hb p e s m below meth c s₁ ⟨Bd.exec, Bd.bytes, hZ, findClass_of_methodNamed Bd.named, (name_of_methodNamed Bd.named Bd.method).1, hml0, Bd.returns, hlk⟩ ⟨[], Stand.of_body Bd, Fr.nil n0, by rw [← hh, Bd.state]; rfl, by rw [hh]; exact hn⟩
/-- the contract of a method that returns a value; of one that returns nothing -/
abbrev ConV (l : Launch) (Z : State) (y : MethodName) (bytes : ByteArray) (maxL : Nat) (ret : Option FieldType) (rm : Room) (as' : Array Value) (h0 : Heap) (n0 : Nat) (Q : Value → Heap → Prop) : Prop := Con l Z y bytes maxL ret [] rm rm.cells rm.slots as' h0 n0 (fun r h => ∃ v, r = some v ∧ Q v h)
abbrev ConN (l : Launch) (Z : State) (y : MethodName) (bytes : ByteArray) (maxL : Nat) (rm : Room) (as' : Array Value) (h0 : Heap) (n0 : Nat) (Q : Heap → Prop) : Prop := Con l Z y bytes maxL none [] rm rm.cells rm.slots as' h0 n0 (fun r h => r = none ∧ Q h)
section Walk
variable {p : Program} {l : Launch} {e : Env} {R : Room} {s : State} {m : MethodId} {args : Array Value} {below : List Frame} {meth : Method} {c : Code} {T A B : State} {h : Heap} {cells slots n0 C S : Nat} {P : Option Value → Heap → Prop}
variable {Z : State} {a0 : Array Value} {own nm : String} {bytes : ByteArray} {maxL : Nat} {ret : Option FieldType}
variable {pc n : Nat} {ls : Array Slot} {st : List Value}
theorem Gl.of (hst : ∀ t, Steps p.tables e below B t → Steps p.tables e below A t) (k : Gl p e below s n0 P C S B) : Gl p e below s n0 P C S A := by
  obtain ⟨t, o, h1, r⟩ := k; exact ⟨t, o, hst t h1, r⟩
theorem Sd.le (X : Sd p l e R s m args below meth c n0 T h cells slots) : n0 ≤ h.size := by
  obtain ⟨_, X, -, eh, hn⟩ := X
  have q : s.heap.size ≤ T.heap.size := X.same.2.1
  rw [← eh]; omega
theorem Gl.enter {as' : Array Value} (ef : entryFrame m as' maxL = mkF m 0 ls []) (k : Gl p e below s n0 P C S (T.setTop (mkF m 0 ls []))) : Gl p e below s n0 P C S (T.setTop (entryFrame m as' maxL)) := by rw [ef]; exact k
theorem gIload (X : Sd p l e R s m args below meth c n0 T h cells slots) (w : Cx Z own nm bytes maxL ret p s m meth c) {k : Nat} {v : Int32} (hd : decode bytes pc = .ok (.iload k, 2)) (hl : ls[k]? = some (.val (.int v))) (hn : pc + 2 = n) (K : Gl p e below s n0 P C S (T.setTop (mkF m n ls (.int v :: st)))) : Gl p e below s n0 P C S (T.setTop (mkF m pc ls st)) := by
  obtain ⟨_, X, -⟩ := X; obtain ⟨hx, hby, hZ, hown, -⟩ := w; subst hn
  exact Gl.of (fun t k => XS.iload X.here hx rfl (hb hby hd) hl k) K
theorem gIloadN (X : Sd p l e R s m args below meth c n0 T h cells slots) (w : Cx Z own nm bytes maxL ret p s m meth c) {k : Fin 4} {v : Int32} (hd : decode bytes pc = .ok (.iload_n k, 1)) (hl : ls[k.val]? = some (.val (.int v))) (hn : pc + 1 = n) (K : Gl p e below s n0 P C S (T.setTop (mkF m n ls (.int v :: st)))) : Gl p e below s n0 P C S (T.setTop (mkF m pc ls st)) := by
  obtain ⟨_, X, -⟩ := X; obtain ⟨hx, hby, hZ, hown, -⟩ := w; subst hn
  exact Gl.of (fun t k => XS.iloadN X.here hx rfl (hb hby hd) hl k) K
theorem gJload (X : Sd p l e R s m args below meth c n0 T h cells slots) (w : Cx Z own nm bytes maxL ret p s m meth c) {k : Nat} {v : Int64} (hd : decode bytes pc = .ok (.lload k, 2)) (hl : ls[k]? = some (.val (.long v))) (hn : pc + 2 = n) (K : Gl p e below s n0 P C S (T.setTop (mkF m n ls (.long v :: st)))) : Gl p e below s n0 P C S (T.setTop (mkF m pc ls st)) := by
  obtain ⟨_, X, -⟩ := X; obtain ⟨hx, hby, hZ, hown, -⟩ := w; subst hn
  exact Gl.of (fun t k => XT.lload X.here hx rfl (hb hby hd) hl k) K
theorem gJloadN (X : Sd p l e R s m args below meth c n0 T h cells slots) (w : Cx Z own nm bytes maxL ret p s m meth c) {k : Fin 4} {v : Int64} (hd : decode bytes pc = .ok (.lload_n k, 1)) (hl : ls[k.val]? = some (.val (.long v))) (hn : pc + 1 = n) (K : Gl p e below s n0 P C S (T.setTop (mkF m n ls (.long v :: st)))) : Gl p e below s n0 P C S (T.setTop (mkF m pc ls st)) := by
  obtain ⟨_, X, -⟩ := X; obtain ⟨hx, hby, hZ, hown, -⟩ := w; subst hn
  exact Gl.of (fun t k => XT.lloadN X.here hx rfl (hb hby hd) hl k) K
theorem gAload (X : Sd p l e R s m args below meth c n0 T h cells slots) (w : Cx Z own nm bytes maxL ret p s m meth c) {k : Nat} {v : Value} (hd : decode bytes pc = .ok (.aload k, 2)) (hl : ls[k]? = some (.val v)) (hv : v.isRef = true) (hn : pc + 2 = n) (K : Gl p e below s n0 P C S (T.setTop (mkF m n ls (v :: st)))) : Gl p e below s n0 P C S (T.setTop (mkF m pc ls st)) := by
  obtain ⟨_, X, -⟩ := X; obtain ⟨hx, hby, hZ, hown, -⟩ := w; subst hn
  exact Gl.of (fun t k => XS.aload X.here hx rfl (hb hby hd) hl hv k) K
theorem gAloadN (X : Sd p l e R s m args below meth c n0 T h cells slots) (w : Cx Z own nm bytes maxL ret p s m meth c) {k : Fin 4} {v : Value} (hd : decode bytes pc = .ok (.aload_n k, 1)) (hl : ls[k.val]? = some (.val v)) (hv : v.isRef = true) (hn : pc + 1 = n) (K : Gl p e below s n0 P C S (T.setTop (mkF m n ls (v :: st)))) : Gl p e below s n0 P C S (T.setTop (mkF m pc ls st)) := by
  obtain ⟨_, X, -⟩ := X; obtain ⟨hx, hby, hZ, hown, -⟩ := w; subst hn
  exact Gl.of (fun t k => XS.aloadN X.here hx rfl (hb hby hd) hl hv k) K
theorem gDload (X : Sd p l e R s m args below meth c n0 T h cells slots) (w : Cx Z own nm bytes maxL ret p s m meth c) {k : Nat} {v : UInt64} (hd : decode bytes pc = .ok (.dload k, 2)) (hl : ls[k]? = some (.val (.double v))) (hn : pc + 2 = n) (K : Gl p e below s n0 P C S (T.setTop (mkF m n ls (.double v :: st)))) : Gl p e below s n0 P C S (T.setTop (mkF m pc ls st)) := by
  obtain ⟨_, X, -⟩ := X; obtain ⟨hx, hby, hZ, hown, -⟩ := w; subst hn
  exact Gl.of (fun t k => XS.dload X.here hx rfl (hb hby hd) hl k) K
theorem gDloadN (X : Sd p l e R s m args below meth c n0 T h cells slots) (w : Cx Z own nm bytes maxL ret p s m meth c) {k : Fin 4} {v : UInt64} (hd : decode bytes pc = .ok (.dload_n k, 1)) (hl : ls[k.val]? = some (.val (.double v))) (hn : pc + 1 = n) (K : Gl p e below s n0 P C S (T.setTop (mkF m n ls (.double v :: st)))) : Gl p e below s n0 P C S (T.setTop (mkF m pc ls st)) := by
  obtain ⟨_, X, -⟩ := X; obtain ⟨hx, hby, hZ, hown, -⟩ := w; subst hn
  exact Gl.of (fun t k => XS.dloadN X.here hx rfl (hb hby hd) hl k) K
theorem gDstore (X : Sd p l e R s m args below meth c n0 T h cells slots) (w : Cx Z own nm bytes maxL ret p s m meth c) {k : Nat} {x : UInt64} (hd : decode bytes pc = .ok (.dstore k, 2)) (l' : Array Slot) (hl : storeLocals ls k (.double x) = some l') (hn : pc + 2 = n) (K : Gl p e below s n0 P C S (T.setTop (mkF m n l' st))) : Gl p e below s n0 P C S (T.setTop (mkF m pc ls (.double x :: st))) := by
  obtain ⟨_, X, -⟩ := X; obtain ⟨hx, hby, hZ, hown, -⟩ := w; subst hn
  exact Gl.of (fun t k => XS.dstore X.here hx rfl (hb hby hd) rfl hl k) K
theorem gDstoreN (X : Sd p l e R s m args below meth c n0 T h cells slots) (w : Cx Z own nm bytes maxL ret p s m meth c) {k : Fin 4} {x : UInt64} (hd : decode bytes pc = .ok (.dstore_n k, 1)) (l' : Array Slot) (hl : storeLocals ls k.val (.double x) = some l') (hn : pc + 1 = n) (K : Gl p e below s n0 P C S (T.setTop (mkF m n l' st))) : Gl p e below s n0 P C S (T.setTop (mkF m pc ls (.double x :: st))) := by
  obtain ⟨_, X, -⟩ := X; obtain ⟨hx, hby, hZ, hown, -⟩ := w; subst hn
  exact Gl.of (fun t k => XS.dstoreN X.here hx rfl (hb hby hd) rfl hl k) K
theorem gI2d (X : Sd p l e R s m args below meth c n0 T h cells slots) (w : Cx Z own nm bytes maxL ret p s m meth c) {x : Int32} {z : UInt64} (hd : decode bytes pc = .ok (.i2d, 1)) (hz : FP.i2d x = z) (hn : pc + 1 = n) (K : Gl p e below s n0 P C S (T.setTop (mkF m n ls (.double z :: st)))) : Gl p e below s n0 P C S (T.setTop (mkF m pc ls (.int x :: st))) := by
  obtain ⟨_, X, -⟩ := X; obtain ⟨hx, hby, hZ, hown, -⟩ := w; subst hn
  exact Gl.of (fun t k => XS.i2dS X.here hx rfl (hb hby hd) rfl hz k) K
theorem gL2d (X : Sd p l e R s m args below meth c n0 T h cells slots) (w : Cx Z own nm bytes maxL ret p s m meth c) {x : Int64} {z : UInt64} (hd : decode bytes pc = .ok (.l2d, 1)) (hz : FP.l2d x = z) (hn : pc + 1 = n) (K : Gl p e below s n0 P C S (T.setTop (mkF m n ls (.double z :: st)))) : Gl p e below s n0 P C S (T.setTop (mkF m pc ls (.long x :: st))) := by
  obtain ⟨_, X, -⟩ := X; obtain ⟨hx, hby, hZ, hown, -⟩ := w; subst hn
  exact Gl.of (fun t k => XS.l2dS X.here hx rfl (hb hby hd) rfl hz k) K
theorem gDneg (X : Sd p l e R s m args below meth c n0 T h cells slots) (w : Cx Z own nm bytes maxL ret p s m meth c) {x z : UInt64} (hd : decode bytes pc = .ok (.dneg, 1)) (hz : FP.dneg x = z) (hn : pc + 1 = n) (K : Gl p e below s n0 P C S (T.setTop (mkF m n ls (.double z :: st)))) : Gl p e below s n0 P C S (T.setTop (mkF m pc ls (.double x :: st))) := by
  obtain ⟨_, X, -⟩ := X; obtain ⟨hx, hby, hZ, hown, -⟩ := w; subst hn
  exact Gl.of (fun t k => XS.dnegS X.here hx rfl (hb hby hd) rfl hz k) K
theorem gDcmp (X : Sd p l e R s m args below meth c n0 T h cells slots) (w : Cx Z own nm bytes maxL ret p s m meth c) {x y : UInt64} {o : CmpOp} {z : Int32} (hd : decode bytes pc = .ok (.dcmp o, 1)) (hz : cmpValue (FP.dcmp x y) o = z) (hn : pc + 1 = n) (K : Gl p e below s n0 P C S (T.setTop (mkF m n ls (.int z :: st)))) : Gl p e below s n0 P C S (T.setTop (mkF m pc ls (.double y :: .double x :: st))) := by
  obtain ⟨_, X, -⟩ := X; obtain ⟨hx, hby, hZ, hown, -⟩ := w; subst hn
  exact Gl.of (fun t k => XS.dcmpS X.here hx rfl (hb hby hd) rfl hz k) K
theorem gDadd (X : Sd p l e R s m args below meth c n0 T h cells slots) (w : Cx Z own nm bytes maxL ret p s m meth c) {x y z : UInt64} (hd : decode bytes pc = .ok (.dadd, 1)) (hnn : Jvm.Free.Fl.NoNaN64 (FP.dadd x y)) (hz : FP.dadd x y = z) (hn : pc + 1 = n) (K : Gl p e below s n0 P C S (T.setTop (mkF m n ls (.double z :: st)))) : Gl p e below s n0 P C S (T.setTop (mkF m pc ls (.double y :: .double x :: st))) := by
  obtain ⟨_, X, -⟩ := X; obtain ⟨hx, hby, hZ, hown, -⟩ := w; subst hn
  exact Gl.of (fun t k => XS.daddS X.here hx rfl (hb hby hd) rfl hnn hz k) K
theorem gDsub (X : Sd p l e R s m args below meth c n0 T h cells slots) (w : Cx Z own nm bytes maxL ret p s m meth c) {x y z : UInt64} (hd : decode bytes pc = .ok (.dsub, 1)) (hnn : Jvm.Free.Fl.NoNaN64 (FP.dsub x y)) (hz : FP.dsub x y = z) (hn : pc + 1 = n) (K : Gl p e below s n0 P C S (T.setTop (mkF m n ls (.double z :: st)))) : Gl p e below s n0 P C S (T.setTop (mkF m pc ls (.double y :: .double x :: st))) := by
  obtain ⟨_, X, -⟩ := X; obtain ⟨hx, hby, hZ, hown, -⟩ := w; subst hn
  exact Gl.of (fun t k => XS.dsubS X.here hx rfl (hb hby hd) rfl hnn hz k) K
theorem gDmul (X : Sd p l e R s m args below meth c n0 T h cells slots) (w : Cx Z own nm bytes maxL ret p s m meth c) {x y z : UInt64} (hd : decode bytes pc = .ok (.dmul, 1)) (hnn : Jvm.Free.Fl.NoNaN64 (FP.dmul x y)) (hz : FP.dmul x y = z) (hn : pc + 1 = n) (K : Gl p e below s n0 P C S (T.setTop (mkF m n ls (.double z :: st)))) : Gl p e below s n0 P C S (T.setTop (mkF m pc ls (.double y :: .double x :: st))) := by
  obtain ⟨_, X, -⟩ := X; obtain ⟨hx, hby, hZ, hown, -⟩ := w; subst hn
  exact Gl.of (fun t k => XS.dmulS X.here hx rfl (hb hby hd) rfl hnn hz k) K
theorem gDdiv (X : Sd p l e R s m args below meth c n0 T h cells slots) (w : Cx Z own nm bytes maxL ret p s m meth c) {x y z : UInt64} (hd : decode bytes pc = .ok (.ddiv, 1)) (hnn : Jvm.Free.Fl.NoNaN64 (FP.ddiv x y)) (hz : FP.ddiv x y = z) (hn : pc + 1 = n) (K : Gl p e below s n0 P C S (T.setTop (mkF m n ls (.double z :: st)))) : Gl p e below s n0 P C S (T.setTop (mkF m pc ls (.double y :: .double x :: st))) := by
  obtain ⟨_, X, -⟩ := X; obtain ⟨hx, hby, hZ, hown, -⟩ := w; subst hn
  exact Gl.of (fun t k => XS.ddivS X.here hx rfl (hb hby hd) rfl hnn hz k) K
theorem gDconst0 (X : Sd p l e R s m args below meth c n0 T h cells slots) (w : Cx Z own nm bytes maxL ret p s m meth c) {z : UInt64} (hd : decode bytes pc = .ok (.dconst 0, 1)) (hz : FP.dconst0 = z) (hn : pc + 1 = n) (K : Gl p e below s n0 P C S (T.setTop (mkF m n ls (.double z :: st)))) : Gl p e below s n0 P C S (T.setTop (mkF m pc ls st)) := by
  obtain ⟨_, X, -⟩ := X; obtain ⟨hx, hby, hZ, hown, -⟩ := w; subst hn
  exact Gl.of (fun t k => XS.dconst0 X.here hx rfl (hb hby hd) hz k) K
theorem gDconst1 (X : Sd p l e R s m args below meth c n0 T h cells slots) (w : Cx Z own nm bytes maxL ret p s m meth c) {z : UInt64} (hd : decode bytes pc = .ok (.dconst 1, 1)) (hz : FP.dconst1 = z) (hn : pc + 1 = n) (K : Gl p e below s n0 P C S (T.setTop (mkF m n ls (.double z :: st)))) : Gl p e below s n0 P C S (T.setTop (mkF m pc ls st)) := by
  obtain ⟨_, X, -⟩ := X; obtain ⟨hx, hby, hZ, hown, -⟩ := w; subst hn
  exact Gl.of (fun t k => XS.dconst1 X.here hx rfl (hb hby hd) hz k) K
theorem gLdc2D (X : Sd p l e R s m args below meth c n0 T h cells slots) (w : Cx Z own nm bytes maxL ret p s m meth c) {i : Nat} {z : UInt64} (wc : (Jvm.Cond.constantDouble own i z).before a0 Z = true) (hd : decode bytes pc = .ok (.ldc2_w i, 3)) (hn : pc + 3 = n) (K : Gl p e below s n0 P C S (T.setTop (mkF m n ls (.double z :: st)))) : Gl p e below s n0 P C S (T.setTop (mkF m pc ls st)) := by
  obtain ⟨_, X, -⟩ := X; obtain ⟨hx, hby, hZ, hown, -⟩ := w; subst hn
  exact Gl.of (fun t k => X.ldc2DoubleC hx hown (mvT hZ wc (by simp [Cond.onTables, Cond.keepsFace, Cond.keeps, Cond.steady])) (g := mkF m pc ls st) rfl (hb hby hd) t k) K
theorem gIconst (X : Sd p l e R s m args below meth c n0 T h cells slots) (w : Cx Z own nm bytes maxL ret p s m meth c) {i : Int} {z : Int32} (hd : decode bytes pc = .ok (.iconst i, 1)) (hz : Int32.ofInt i = z) (hn : pc + 1 = n) (K : Gl p e below s n0 P C S (T.setTop (mkF m n ls (.int z :: st)))) : Gl p e below s n0 P C S (T.setTop (mkF m pc ls st)) := by
  obtain ⟨_, X, -⟩ := X; obtain ⟨hx, hby, hZ, hown, -⟩ := w; subst hn hz
  exact Gl.of (fun t k => XS.iconst X.here hx rfl (hb hby hd) k) K
theorem gBipush (X : Sd p l e R s m args below meth c n0 T h cells slots) (w : Cx Z own nm bytes maxL ret p s m meth c) {i : Int} {z : Int32} (hd : decode bytes pc = .ok (.bipush i, 2)) (hz : (Int8.ofInt i).toInt32 = z) (hn : pc + 2 = n) (K : Gl p e below s n0 P C S (T.setTop (mkF m n ls (.int z :: st)))) : Gl p e below s n0 P C S (T.setTop (mkF m pc ls st)) := by
  obtain ⟨_, X, -⟩ := X; obtain ⟨hx, hby, hZ, hown, -⟩ := w; subst hn hz
  exact Gl.of (fun t k => XS.bipush X.here hx rfl (hb hby hd) k) K
theorem gSipush (X : Sd p l e R s m args below meth c n0 T h cells slots) (w : Cx Z own nm bytes maxL ret p s m meth c) {i : Int} {z : Int32} (hd : decode bytes pc = .ok (.sipush i, 3)) (hz : (Int16.ofInt i).toInt32 = z) (hn : pc + 3 = n) (K : Gl p e below s n0 P C S (T.setTop (mkF m n ls (.int z :: st)))) : Gl p e below s n0 P C S (T.setTop (mkF m pc ls st)) := by
  obtain ⟨_, X, -⟩ := X; obtain ⟨hx, hby, hZ, hown, -⟩ := w; subst hn hz
  exact Gl.of (fun t k => XS.sipush X.here hx rfl (hb hby hd) k) K
theorem gLconst (X : Sd p l e R s m args below meth c n0 T h cells slots) (w : Cx Z own nm bytes maxL ret p s m meth c) {i : Fin 2} {z : Int64} (hd : decode bytes pc = .ok (.lconst i, 1)) (hz : Int64.ofNat i = z) (hn : pc + 1 = n) (K : Gl p e below s n0 P C S (T.setTop (mkF m n ls (.long z :: st)))) : Gl p e below s n0 P C S (T.setTop (mkF m pc ls st)) := by
  obtain ⟨_, X, -⟩ := X; obtain ⟨hx, hby, hZ, hown, -⟩ := w; subst hn hz
  exact Gl.of (fun t k => XT.lconst X.here hx rfl (hb hby hd) k) K
theorem gNull (X : Sd p l e R s m args below meth c n0 T h cells slots) (w : Cx Z own nm bytes maxL ret p s m meth c)  (hd : decode bytes pc = .ok (.aconst_null, 1)) (hn : pc + 1 = n) (K : Gl p e below s n0 P C S (T.setTop (mkF m n ls (.null :: st)))) : Gl p e below s n0 P C S (T.setTop (mkF m pc ls st)) := by
  obtain ⟨_, X, -⟩ := X; obtain ⟨hx, hby, hZ, hown, -⟩ := w; subst hn
  exact Gl.of (fun t k => XS.aconstNull X.here hx rfl (hb hby hd) k) K
theorem gLdc (X : Sd p l e R s m args below meth c n0 T h cells slots) (w : Cx Z own nm bytes maxL ret p s m meth c) {i : Nat} {z : Int32} (wc : (Jvm.Cond.constant own i z).before a0 Z = true) (hd : decode bytes pc = .ok (.ldc i, 2)) (hn : pc + 2 = n) (K : Gl p e below s n0 P C S (T.setTop (mkF m n ls (.int z :: st)))) : Gl p e below s n0 P C S (T.setTop (mkF m pc ls st)) := by
  obtain ⟨_, X, -⟩ := X; obtain ⟨hx, hby, hZ, hown, -⟩ := w; subst hn
  exact Gl.of (fun t k => X.ldcI hx hown (mvT hZ wc) rfl (hb hby hd) k) K
theorem gLdc2 (X : Sd p l e R s m args below meth c n0 T h cells slots) (w : Cx Z own nm bytes maxL ret p s m meth c) {i : Nat} {z : Int64} (wc : (Jvm.Cond.constantLong own i z).before a0 Z = true) (hd : decode bytes pc = .ok (.ldc2_w i, 3)) (hn : pc + 3 = n) (K : Gl p e below s n0 P C S (T.setTop (mkF m n ls (.long z :: st)))) : Gl p e below s n0 P C S (T.setTop (mkF m pc ls st)) := by
  obtain ⟨_, X, -⟩ := X; obtain ⟨hx, hby, hZ, hown, -⟩ := w; subst hn
  exact Gl.of (fun t k => X.ldc2J hx hown (mvT hZ wc) rfl (hb hby hd) k) K
theorem gIadd (X : Sd p l e R s m args below meth c n0 T h cells slots) (w : Cx Z own nm bytes maxL ret p s m meth c) {x y z : Int32} (hd : decode bytes pc = .ok (.iadd, 1)) (hz : x + y = z) (hn : pc + 1 = n) (K : Gl p e below s n0 P C S (T.setTop (mkF m n ls (.int z :: st)))) : Gl p e below s n0 P C S (T.setTop (mkF m pc ls (.int y :: .int x :: st))) := by
  obtain ⟨_, X, -⟩ := X; obtain ⟨hx, hby, hZ, hown, -⟩ := w; subst hn hz
  exact Gl.of (fun t k => XS.iadd X.here hx rfl (hb hby hd) rfl k) K
theorem gIsub (X : Sd p l e R s m args below meth c n0 T h cells slots) (w : Cx Z own nm bytes maxL ret p s m meth c) {x y z : Int32} (hd : decode bytes pc = .ok (.isub, 1)) (hz : x - y = z) (hn : pc + 1 = n) (K : Gl p e below s n0 P C S (T.setTop (mkF m n ls (.int z :: st)))) : Gl p e below s n0 P C S (T.setTop (mkF m pc ls (.int y :: .int x :: st))) := by
  obtain ⟨_, X, -⟩ := X; obtain ⟨hx, hby, hZ, hown, -⟩ := w; subst hn hz
  exact Gl.of (fun t k => XS.isub X.here hx rfl (hb hby hd) rfl k) K
theorem gImul (X : Sd p l e R s m args below meth c n0 T h cells slots) (w : Cx Z own nm bytes maxL ret p s m meth c) {x y z : Int32} (hd : decode bytes pc = .ok (.imul, 1)) (hz : x * y = z) (hn : pc + 1 = n) (K : Gl p e below s n0 P C S (T.setTop (mkF m n ls (.int z :: st)))) : Gl p e below s n0 P C S (T.setTop (mkF m pc ls (.int y :: .int x :: st))) := by
  obtain ⟨_, X, -⟩ := X; obtain ⟨hx, hby, hZ, hown, -⟩ := w; subst hn hz
  exact Gl.of (fun t k => XS.imul X.here hx rfl (hb hby hd) rfl k) K
theorem gIand (X : Sd p l e R s m args below meth c n0 T h cells slots) (w : Cx Z own nm bytes maxL ret p s m meth c) {x y z : Int32} (hd : decode bytes pc = .ok (.iand, 1)) (hz : x &&& y = z) (hn : pc + 1 = n) (K : Gl p e below s n0 P C S (T.setTop (mkF m n ls (.int z :: st)))) : Gl p e below s n0 P C S (T.setTop (mkF m pc ls (.int y :: .int x :: st))) := by
  obtain ⟨_, X, -⟩ := X; obtain ⟨hx, hby, hZ, hown, -⟩ := w; subst hn hz
  exact Gl.of (fun t k => XS.iand X.here hx rfl (hb hby hd) rfl k) K
theorem gIor (X : Sd p l e R s m args below meth c n0 T h cells slots) (w : Cx Z own nm bytes maxL ret p s m meth c) {x y z : Int32} (hd : decode bytes pc = .ok (.ior, 1)) (hz : x ||| y = z) (hn : pc + 1 = n) (K : Gl p e below s n0 P C S (T.setTop (mkF m n ls (.int z :: st)))) : Gl p e below s n0 P C S (T.setTop (mkF m pc ls (.int y :: .int x :: st))) := by
  obtain ⟨_, X, -⟩ := X; obtain ⟨hx, hby, hZ, hown, -⟩ := w; subst hn hz
  exact Gl.of (fun t k => XT.ior X.here hx rfl (hb hby hd) rfl k) K
theorem gIxor (X : Sd p l e R s m args below meth c n0 T h cells slots) (w : Cx Z own nm bytes maxL ret p s m meth c) {x y z : Int32} (hd : decode bytes pc = .ok (.ixor, 1)) (hz : x ^^^ y = z) (hn : pc + 1 = n) (K : Gl p e below s n0 P C S (T.setTop (mkF m n ls (.int z :: st)))) : Gl p e below s n0 P C S (T.setTop (mkF m pc ls (.int y :: .int x :: st))) := by
  obtain ⟨_, X, -⟩ := X; obtain ⟨hx, hby, hZ, hown, -⟩ := w; subst hn hz
  exact Gl.of (fun t k => XT.ixor X.here hx rfl (hb hby hd) rfl k) K
theorem gIshl (X : Sd p l e R s m args below meth c n0 T h cells slots) (w : Cx Z own nm bytes maxL ret p s m meth c) {x y z : Int32} (hd : decode bytes pc = .ok (.ishl, 1)) (hz : x <<< (y &&& 31) = z) (hn : pc + 1 = n) (K : Gl p e below s n0 P C S (T.setTop (mkF m n ls (.int z :: st)))) : Gl p e below s n0 P C S (T.setTop (mkF m pc ls (.int y :: .int x :: st))) := by
  obtain ⟨_, X, -⟩ := X; obtain ⟨hx, hby, hZ, hown, -⟩ := w; subst hn hz
  exact Gl.of (fun t k => XT.ishl X.here hx rfl (hb hby hd) rfl k) K
theorem gIshr (X : Sd p l e R s m args below meth c n0 T h cells slots) (w : Cx Z own nm bytes maxL ret p s m meth c) {x y z : Int32} (hd : decode bytes pc = .ok (.ishr, 1)) (hz : x >>> (y &&& 31) = z) (hn : pc + 1 = n) (K : Gl p e below s n0 P C S (T.setTop (mkF m n ls (.int z :: st)))) : Gl p e below s n0 P C S (T.setTop (mkF m pc ls (.int y :: .int x :: st))) := by
  obtain ⟨_, X, -⟩ := X; obtain ⟨hx, hby, hZ, hown, -⟩ := w; subst hn hz
  exact Gl.of (fun t k => XT.ishr X.here hx rfl (hb hby hd) rfl k) K
theorem gIushr (X : Sd p l e R s m args below meth c n0 T h cells slots) (w : Cx Z own nm bytes maxL ret p s m meth c) {x y z : Int32} (hd : decode bytes pc = .ok (.iushr, 1)) (hz : XT.ushr x y = z) (hn : pc + 1 = n) (K : Gl p e below s n0 P C S (T.setTop (mkF m n ls (.int z :: st)))) : Gl p e below s n0 P C S (T.setTop (mkF m pc ls (.int y :: .int x :: st))) := by
  obtain ⟨_, X, -⟩ := X; obtain ⟨hx, hby, hZ, hown, -⟩ := w; subst hn hz
  exact Gl.of (fun t k => XT.iushr X.here hx rfl (hb hby hd) rfl k) K
theorem gIdiv (X : Sd p l e R s m args below meth c n0 T h cells slots) (w : Cx Z own nm bytes maxL ret p s m meth c) {x y z : Int32} (hd : decode bytes pc = .ok (.idiv, 1)) (hy : y ≠ 0) (hz : x / y = z) (hn : pc + 1 = n) (K : Gl p e below s n0 P C S (T.setTop (mkF m n ls (.int z :: st)))) : Gl p e below s n0 P C S (T.setTop (mkF m pc ls (.int y :: .int x :: st))) := by
  obtain ⟨_, X, -⟩ := X; obtain ⟨hx, hby, hZ, hown, -⟩ := w; subst hn hz
  exact Gl.of (fun t k => XS.idiv X.here hx rfl (hb hby hd) rfl hy k) K
theorem gIrem (X : Sd p l e R s m args below meth c n0 T h cells slots) (w : Cx Z own nm bytes maxL ret p s m meth c) {x y z : Int32} (hd : decode bytes pc = .ok (.irem, 1)) (hy : y ≠ 0) (hz : x % y = z) (hn : pc + 1 = n) (K : Gl p e below s n0 P C S (T.setTop (mkF m n ls (.int z :: st)))) : Gl p e below s n0 P C S (T.setTop (mkF m pc ls (.int y :: .int x :: st))) := by
  obtain ⟨_, X, -⟩ := X; obtain ⟨hx, hby, hZ, hown, -⟩ := w; subst hn hz
  exact Gl.of (fun t k => iremM X hx rfl (hb hby hd) rfl hy k) K
theorem gIneg (X : Sd p l e R s m args below meth c n0 T h cells slots) (w : Cx Z own nm bytes maxL ret p s m meth c) {x z : Int32} (hd : decode bytes pc = .ok (.ineg, 1)) (hz : -x = z) (hn : pc + 1 = n) (K : Gl p e below s n0 P C S (T.setTop (mkF m n ls (.int z :: st)))) : Gl p e below s n0 P C S (T.setTop (mkF m pc ls (.int x :: st))) := by
  obtain ⟨_, X, -⟩ := X; obtain ⟨hx, hby, hZ, hown, -⟩ := w; subst hn hz
  exact Gl.of (fun t k => XS.ineg X.here hx rfl (hb hby hd) rfl k) K
theorem gLadd (X : Sd p l e R s m args below meth c n0 T h cells slots) (w : Cx Z own nm bytes maxL ret p s m meth c) {x y z : Int64} (hd : decode bytes pc = .ok (.ladd, 1)) (hz : x + y = z) (hn : pc + 1 = n) (K : Gl p e below s n0 P C S (T.setTop (mkF m n ls (.long z :: st)))) : Gl p e below s n0 P C S (T.setTop (mkF m pc ls (.long y :: .long x :: st))) := by
  obtain ⟨_, X, -⟩ := X; obtain ⟨hx, hby, hZ, hown, -⟩ := w; subst hn hz
  exact Gl.of (fun t k => XT.ladd X.here hx rfl (hb hby hd) rfl k) K
theorem gLsub (X : Sd p l e R s m args below meth c n0 T h cells slots) (w : Cx Z own nm bytes maxL ret p s m meth c) {x y z : Int64} (hd : decode bytes pc = .ok (.lsub, 1)) (hz : x - y = z) (hn : pc + 1 = n) (K : Gl p e below s n0 P C S (T.setTop (mkF m n ls (.long z :: st)))) : Gl p e below s n0 P C S (T.setTop (mkF m pc ls (.long y :: .long x :: st))) := by
  obtain ⟨_, X, -⟩ := X; obtain ⟨hx, hby, hZ, hown, -⟩ := w; subst hn hz
  exact Gl.of (fun t k => XT.lsub X.here hx rfl (hb hby hd) rfl k) K
theorem gLmul (X : Sd p l e R s m args below meth c n0 T h cells slots) (w : Cx Z own nm bytes maxL ret p s m meth c) {x y z : Int64} (hd : decode bytes pc = .ok (.lmul, 1)) (hz : x * y = z) (hn : pc + 1 = n) (K : Gl p e below s n0 P C S (T.setTop (mkF m n ls (.long z :: st)))) : Gl p e below s n0 P C S (T.setTop (mkF m pc ls (.long y :: .long x :: st))) := by
  obtain ⟨_, X, -⟩ := X; obtain ⟨hx, hby, hZ, hown, -⟩ := w; subst hn hz
  exact Gl.of (fun t k => XT.lmul X.here hx rfl (hb hby hd) rfl k) K
theorem gLand (X : Sd p l e R s m args below meth c n0 T h cells slots) (w : Cx Z own nm bytes maxL ret p s m meth c) {x y z : Int64} (hd : decode bytes pc = .ok (.land, 1)) (hz : x &&& y = z) (hn : pc + 1 = n) (K : Gl p e below s n0 P C S (T.setTop (mkF m n ls (.long z :: st)))) : Gl p e below s n0 P C S (T.setTop (mkF m pc ls (.long y :: .long x :: st))) := by
  obtain ⟨_, X, -⟩ := X; obtain ⟨hx, hby, hZ, hown, -⟩ := w; subst hn hz
  exact Gl.of (fun t k => XT.land X.here hx rfl (hb hby hd) rfl k) K
theorem gLor (X : Sd p l e R s m args below meth c n0 T h cells slots) (w : Cx Z own nm bytes maxL ret p s m meth c) {x y z : Int64} (hd : decode bytes pc = .ok (.lor, 1)) (hz : x ||| y = z) (hn : pc + 1 = n) (K : Gl p e below s n0 P C S (T.setTop (mkF m n ls (.long z :: st)))) : Gl p e below s n0 P C S (T.setTop (mkF m pc ls (.long y :: .long x :: st))) := by
  obtain ⟨_, X, -⟩ := X; obtain ⟨hx, hby, hZ, hown, -⟩ := w; subst hn hz
  exact Gl.of (fun t k => XT.lor X.here hx rfl (hb hby hd) rfl k) K
theorem gLxor (X : Sd p l e R s m args below meth c n0 T h cells slots) (w : Cx Z own nm bytes maxL ret p s m meth c) {x y z : Int64} (hd : decode bytes pc = .ok (.lxor, 1)) (hz : x ^^^ y = z) (hn : pc + 1 = n) (K : Gl p e below s n0 P C S (T.setTop (mkF m n ls (.long z :: st)))) : Gl p e below s n0 P C S (T.setTop (mkF m pc ls (.long y :: .long x :: st))) := by
  obtain ⟨_, X, -⟩ := X; obtain ⟨hx, hby, hZ, hown, -⟩ := w; subst hn hz
  exact Gl.of (fun t k => XT.lxor X.here hx rfl (hb hby hd) rfl k) K
theorem gLshl (X : Sd p l e R s m args below meth c n0 T h cells slots) (w : Cx Z own nm bytes maxL ret p s m meth c) {x z : Int64} {y : Int32} (hd : decode bytes pc = .ok (.lshl, 1)) (hz : x <<< (y.toInt64 &&& 63) = z) (hn : pc + 1 = n) (K : Gl p e below s n0 P C S (T.setTop (mkF m n ls (.long z :: st)))) : Gl p e below s n0 P C S (T.setTop (mkF m pc ls (.int y :: .long x :: st))) := by
  obtain ⟨_, X, -⟩ := X; obtain ⟨hx, hby, hZ, hown, -⟩ := w; subst hn hz
  exact Gl.of (fun t k => XT.lshl X.here hx rfl (hb hby hd) rfl k) K
theorem gLshr (X : Sd p l e R s m args below meth c n0 T h cells slots) (w : Cx Z own nm bytes maxL ret p s m meth c) {x z : Int64} {y : Int32} (hd : decode bytes pc = .ok (.lshr, 1)) (hz : x >>> (y.toInt64 &&& 63) = z) (hn : pc + 1 = n) (K : Gl p e below s n0 P C S (T.setTop (mkF m n ls (.long z :: st)))) : Gl p e below s n0 P C S (T.setTop (mkF m pc ls (.int y :: .long x :: st))) := by
  obtain ⟨_, X, -⟩ := X; obtain ⟨hx, hby, hZ, hown, -⟩ := w; subst hn hz
  exact Gl.of (fun t k => XT.lshr X.here hx rfl (hb hby hd) rfl k) K
theorem gLushr (X : Sd p l e R s m args below meth c n0 T h cells slots) (w : Cx Z own nm bytes maxL ret p s m meth c) {x z : Int64} {y : Int32} (hd : decode bytes pc = .ok (.lushr, 1)) (hz : XT.ushrL x y = z) (hn : pc + 1 = n) (K : Gl p e below s n0 P C S (T.setTop (mkF m n ls (.long z :: st)))) : Gl p e below s n0 P C S (T.setTop (mkF m pc ls (.int y :: .long x :: st))) := by
  obtain ⟨_, X, -⟩ := X; obtain ⟨hx, hby, hZ, hown, -⟩ := w; subst hn hz
  exact Gl.of (fun t k => XT.lushr X.here hx rfl (hb hby hd) rfl k) K
theorem gLneg (X : Sd p l e R s m args below meth c n0 T h cells slots) (w : Cx Z own nm bytes maxL ret p s m meth c) {x z : Int64} (hd : decode bytes pc = .ok (.lneg, 1)) (hz : -x = z) (hn : pc + 1 = n) (K : Gl p e below s n0 P C S (T.setTop (mkF m n ls (.long z :: st)))) : Gl p e below s n0 P C S (T.setTop (mkF m pc ls (.long x :: st))) := by
  obtain ⟨_, X, -⟩ := X; obtain ⟨hx, hby, hZ, hown, -⟩ := w; subst hn hz
  exact Gl.of (fun t k => XT.lneg X.here hx rfl (hb hby hd) rfl k) K
theorem gLdiv (X : Sd p l e R s m args below meth c n0 T h cells slots) (w : Cx Z own nm bytes maxL ret p s m meth c) {x y z : Int64} (hd : decode bytes pc = .ok (.ldiv, 1)) (hy : y ≠ 0) (hz : x / y = z) (hn : pc + 1 = n) (K : Gl p e below s n0 P C S (T.setTop (mkF m n ls (.long z :: st)))) : Gl p e below s n0 P C S (T.setTop (mkF m pc ls (.long y :: .long x :: st))) := by
  obtain ⟨_, X, -⟩ := X; obtain ⟨hx, hby, hZ, hown, -⟩ := w; subst hn hz
  exact Gl.of (fun t k => XT.ldiv X.here hx rfl (hb hby hd) rfl hy k) K
theorem gLrem (X : Sd p l e R s m args below meth c n0 T h cells slots) (w : Cx Z own nm bytes maxL ret p s m meth c) {x y z : Int64} (hd : decode bytes pc = .ok (.lrem, 1)) (hy : y ≠ 0) (hz : x % y = z) (hn : pc + 1 = n) (K : Gl p e below s n0 P C S (T.setTop (mkF m n ls (.long z :: st)))) : Gl p e below s n0 P C S (T.setTop (mkF m pc ls (.long y :: .long x :: st))) := by
  obtain ⟨_, X, -⟩ := X; obtain ⟨hx, hby, hZ, hown, -⟩ := w; subst hn; rw [← lrem_mod] at hz; subst hz
  exact Gl.of (fun t k => XT.lrem X.here hx rfl (hb hby hd) rfl hy k) K
theorem gLcmp (X : Sd p l e R s m args below meth c n0 T h cells slots) (w : Cx Z own nm bytes maxL ret p s m meth c) {x y : Int64} {z : Int32} (hd : decode bytes pc = .ok (.lcmp, 1)) (hz : XT.cmpL x y = z) (hn : pc + 1 = n) (K : Gl p e below s n0 P C S (T.setTop (mkF m n ls (.int z :: st)))) : Gl p e below s n0 P C S (T.setTop (mkF m pc ls (.long y :: .long x :: st))) := by
  obtain ⟨_, X, -⟩ := X; obtain ⟨hx, hby, hZ, hown, -⟩ := w; subst hn hz
  exact Gl.of (fun t k => XT.lcmp X.here hx rfl (hb hby hd) rfl k) K
theorem gI2l (X : Sd p l e R s m args below meth c n0 T h cells slots) (w : Cx Z own nm bytes maxL ret p s m meth c) {x : Int32} {z : Int64} (hd : decode bytes pc = .ok (.i2l, 1)) (hz : x.toInt64 = z) (hn : pc + 1 = n) (K : Gl p e below s n0 P C S (T.setTop (mkF m n ls (.long z :: st)))) : Gl p e below s n0 P C S (T.setTop (mkF m pc ls (.int x :: st))) := by
  obtain ⟨_, X, -⟩ := X; obtain ⟨hx, hby, hZ, hown, -⟩ := w; subst hn hz
  exact Gl.of (fun t k => XT.i2l X.here hx rfl (hb hby hd) rfl k) K
theorem gL2i (X : Sd p l e R s m args below meth c n0 T h cells slots) (w : Cx Z own nm bytes maxL ret p s m meth c) {x : Int64} {z : Int32} (hd : decode bytes pc = .ok (.l2i, 1)) (hz : x.toInt32 = z) (hn : pc + 1 = n) (K : Gl p e below s n0 P C S (T.setTop (mkF m n ls (.int z :: st)))) : Gl p e below s n0 P C S (T.setTop (mkF m pc ls (.long x :: st))) := by
  obtain ⟨_, X, -⟩ := X; obtain ⟨hx, hby, hZ, hown, -⟩ := w; subst hn hz
  exact Gl.of (fun t k => XT.l2i X.here hx rfl (hb hby hd) rfl k) K
theorem gI2b (X : Sd p l e R s m args below meth c n0 T h cells slots) (w : Cx Z own nm bytes maxL ret p s m meth c) {x : Int32} {z : Int32} (hd : decode bytes pc = .ok (.i2b, 1)) (hz : x.toInt8.toInt32 = z) (hn : pc + 1 = n) (K : Gl p e below s n0 P C S (T.setTop (mkF m n ls (.int z :: st)))) : Gl p e below s n0 P C S (T.setTop (mkF m pc ls (.int x :: st))) := by
  obtain ⟨_, X, -⟩ := X; obtain ⟨hx, hby, hZ, hown, -⟩ := w; subst hn hz
  exact Gl.of (fun t k => XT.i2b X.here hx rfl (hb hby hd) rfl k) K
theorem gI2c (X : Sd p l e R s m args below meth c n0 T h cells slots) (w : Cx Z own nm bytes maxL ret p s m meth c) {x : Int32} {z : Int32} (hd : decode bytes pc = .ok (.i2c, 1)) (hz : x.toUInt32.toUInt16.toUInt32.toInt32 = z) (hn : pc + 1 = n) (K : Gl p e below s n0 P C S (T.setTop (mkF m n ls (.int z :: st)))) : Gl p e below s n0 P C S (T.setTop (mkF m pc ls (.int x :: st))) := by
  obtain ⟨_, X, -⟩ := X; obtain ⟨hx, hby, hZ, hown, -⟩ := w; subst hn hz
  exact Gl.of (fun t k => XT.i2c X.here hx rfl (hb hby hd) rfl k) K
theorem gI2s (X : Sd p l e R s m args below meth c n0 T h cells slots) (w : Cx Z own nm bytes maxL ret p s m meth c) {x : Int32} {z : Int32} (hd : decode bytes pc = .ok (.i2s, 1)) (hz : x.toInt16.toInt32 = z) (hn : pc + 1 = n) (K : Gl p e below s n0 P C S (T.setTop (mkF m n ls (.int z :: st)))) : Gl p e below s n0 P C S (T.setTop (mkF m pc ls (.int x :: st))) := by
  obtain ⟨_, X, -⟩ := X; obtain ⟨hx, hby, hZ, hown, -⟩ := w; subst hn hz
  exact Gl.of (fun t k => XT.i2s X.here hx rfl (hb hby hd) rfl k) K
theorem gIstore (X : Sd p l e R s m args below meth c n0 T h cells slots) (w : Cx Z own nm bytes maxL ret p s m meth c) {k : Nat} {x : Int32} (hd : decode bytes pc = .ok (.istore k, 2)) (l' : Array Slot) (hl : storeLocals ls k (.int x) = some l') (hn : pc + 2 = n) (K : Gl p e below s n0 P C S (T.setTop (mkF m n l' st))) : Gl p e below s n0 P C S (T.setTop (mkF m pc ls (.int x :: st))) := by
  obtain ⟨_, X, -⟩ := X; obtain ⟨hx, hby, hZ, hown, -⟩ := w; subst hn
  exact Gl.of (fun t k => XS.istore X.here hx rfl (hb hby hd) rfl hl k) K
theorem gIstoreN (X : Sd p l e R s m args below meth c n0 T h cells slots) (w : Cx Z own nm bytes maxL ret p s m meth c) {k : Fin 4} {x : Int32} (hd : decode bytes pc = .ok (.istore_n k, 1)) (l' : Array Slot) (hl : storeLocals ls k.val (.int x) = some l') (hn : pc + 1 = n) (K : Gl p e below s n0 P C S (T.setTop (mkF m n l' st))) : Gl p e below s n0 P C S (T.setTop (mkF m pc ls (.int x :: st))) := by
  obtain ⟨_, X, -⟩ := X; obtain ⟨hx, hby, hZ, hown, -⟩ := w; subst hn
  exact Gl.of (fun t k => XS.istoreN X.here hx rfl (hb hby hd) rfl hl k) K
theorem gJstore (X : Sd p l e R s m args below meth c n0 T h cells slots) (w : Cx Z own nm bytes maxL ret p s m meth c) {k : Nat} {x : Int64} (hd : decode bytes pc = .ok (.lstore k, 2)) (l' : Array Slot) (hl : storeLocals ls k (.long x) = some l') (hn : pc + 2 = n) (K : Gl p e below s n0 P C S (T.setTop (mkF m n l' st))) : Gl p e below s n0 P C S (T.setTop (mkF m pc ls (.long x :: st))) := by
  obtain ⟨_, X, -⟩ := X; obtain ⟨hx, hby, hZ, hown, -⟩ := w; subst hn
  exact Gl.of (fun t k => XT.lstore X.here hx rfl (hb hby hd) rfl hl k) K
theorem gJstoreN (X : Sd p l e R s m args below meth c n0 T h cells slots) (w : Cx Z own nm bytes maxL ret p s m meth c) {k : Fin 4} {x : Int64} (hd : decode bytes pc = .ok (.lstore_n k, 1)) (l' : Array Slot) (hl : storeLocals ls k.val (.long x) = some l') (hn : pc + 1 = n) (K : Gl p e below s n0 P C S (T.setTop (mkF m n l' st))) : Gl p e below s n0 P C S (T.setTop (mkF m pc ls (.long x :: st))) := by
  obtain ⟨_, X, -⟩ := X; obtain ⟨hx, hby, hZ, hown, -⟩ := w; subst hn
  exact Gl.of (fun t k => XT.lstoreN X.here hx rfl (hb hby hd) rfl hl k) K
theorem gAstore (X : Sd p l e R s m args below meth c n0 T h cells slots) (w : Cx Z own nm bytes maxL ret p s m meth c) {k : Nat} {x : Value} (hd : decode bytes pc = .ok (.astore k, 2)) (hv : x.isRef = true) (l' : Array Slot) (hl : storeLocals ls k x = some l') (hn : pc + 2 = n) (K : Gl p e below s n0 P C S (T.setTop (mkF m n l' st))) : Gl p e below s n0 P C S (T.setTop (mkF m pc ls (x :: st))) := by
  obtain ⟨_, X, -⟩ := X; obtain ⟨hx, hby, hZ, hown, -⟩ := w; subst hn
  exact Gl.of (fun t k => XS.astore X.here hx rfl (hb hby hd) rfl hv hl k) K
theorem gAstoreN (X : Sd p l e R s m args below meth c n0 T h cells slots) (w : Cx Z own nm bytes maxL ret p s m meth c) {k : Fin 4} {x : Value} (hd : decode bytes pc = .ok (.astore_n k, 1)) (hv : x.isRef = true) (l' : Array Slot) (hl : storeLocals ls k.val x = some l') (hn : pc + 1 = n) (K : Gl p e below s n0 P C S (T.setTop (mkF m n l' st))) : Gl p e below s n0 P C S (T.setTop (mkF m pc ls (x :: st))) := by
  obtain ⟨_, X, -⟩ := X; obtain ⟨hx, hby, hZ, hown, -⟩ := w; subst hn
  exact Gl.of (fun t k => XS.astoreN X.here hx rfl (hb hby hd) rfl hv hl k) K
theorem gIinc (X : Sd p l e R s m args below meth c n0 T h cells slots) (w : Cx Z own nm bytes maxL ret p s m meth c) {k : Nat} {i : Int} {x z : Int32} (hd : decode bytes pc = .ok (.iinc k i, 3)) (hl0 : ls[k]? = some (.val (.int x))) (hz : x + Int32.ofInt i = z) (l' : Array Slot) (hl : storeLocals ls k (.int z) = some l') (hn : pc + 3 = n) (K : Gl p e below s n0 P C S (T.setTop (mkF m n l' st))) : Gl p e below s n0 P C S (T.setTop (mkF m pc ls st)) := by
  obtain ⟨_, X, -⟩ := X; obtain ⟨hx, hby, hZ, hown, -⟩ := w; subst hn hz
  exact Gl.of (fun t k => XS.iinc X.here hx rfl (hb hby hd) hl0 hl k) K
theorem gDup (X : Sd p l e R s m args below meth c n0 T h cells slots) (w : Cx Z own nm bytes maxL ret p s m meth c) {x : Value} (hd : decode bytes pc = .ok (.dup, 1)) (hc : x.category = 1) (hn : pc + 1 = n) (K : Gl p e below s n0 P C S (T.setTop (mkF m n ls (x :: x :: st)))) : Gl p e below s n0 P C S (T.setTop (mkF m pc ls (x :: st))) := by
  obtain ⟨_, X, -⟩ := X; obtain ⟨hx, hby, hZ, hown, -⟩ := w; subst hn
  exact Gl.of (fun t k => XS.dup X.here hx rfl (hb hby hd) rfl hc k) K
theorem gPop (X : Sd p l e R s m args below meth c n0 T h cells slots) (w : Cx Z own nm bytes maxL ret p s m meth c) {x : Value} (hd : decode bytes pc = .ok (.pop, 1)) (hc : x.category = 1) (hn : pc + 1 = n) (K : Gl p e below s n0 P C S (T.setTop (mkF m n ls st))) : Gl p e below s n0 P C S (T.setTop (mkF m pc ls (x :: st))) := by
  obtain ⟨_, X, -⟩ := X; obtain ⟨hx, hby, hZ, hown, -⟩ := w; subst hn
  exact Gl.of (fun t k => XT.pop X.here hx rfl (hb hby hd) rfl hc k) K
theorem gDupX1 (X : Sd p l e R s m args below meth c n0 T h cells slots) (w : Cx Z own nm bytes maxL ret p s m meth c) {x y : Value} (hd : decode bytes pc = .ok (.dup_x1, 1)) (hc : x.category = 1) (hc' : y.category = 1) (hn : pc + 1 = n) (K : Gl p e below s n0 P C S (T.setTop (mkF m n ls (x :: y :: x :: st)))) : Gl p e below s n0 P C S (T.setTop (mkF m pc ls (x :: y :: st))) := by
  obtain ⟨_, X, -⟩ := X; obtain ⟨hx, hby, hZ, hown, -⟩ := w; subst hn
  exact Gl.of (fun t k => XT.dupX1 X.here hx rfl (hb hby hd) rfl hc hc' k) K
theorem gDup2 (X : Sd p l e R s m args below meth c n0 T h cells slots) (w : Cx Z own nm bytes maxL ret p s m meth c) {x y : Value} (hd : decode bytes pc = .ok (.dup2, 1)) (hc : x.category = 1) (hc' : y.category = 1) (hn : pc + 1 = n) (K : Gl p e below s n0 P C S (T.setTop (mkF m n ls (x :: y :: x :: y :: st)))) : Gl p e below s n0 P C S (T.setTop (mkF m pc ls (x :: y :: st))) := by
  obtain ⟨_, X, -⟩ := X; obtain ⟨hx, hby, hZ, hown, -⟩ := w; subst hn
  exact Gl.of (fun t k => XT.dup2 X.here hx rfl (hb hby hd) rfl hc hc' k) K
theorem gDup2L (X : Sd p l e R s m args below meth c n0 T h cells slots) (w : Cx Z own nm bytes maxL ret p s m meth c) {x : Int64} (hd : decode bytes pc = .ok (.dup2, 1)) (hn : pc + 1 = n) (K : Gl p e below s n0 P C S (T.setTop (mkF m n ls (.long x :: .long x :: st)))) : Gl p e below s n0 P C S (T.setTop (mkF m pc ls (.long x :: st))) := by
  obtain ⟨_, X, -⟩ := X; obtain ⟨hx, hby, hZ, hown, -⟩ := w; subst hn
  exact Gl.of (fun t k => XT.dup2L X.here hx rfl (hb hby hd) rfl k) K
theorem gGoto (X : Sd p l e R s m args below meth c n0 T h cells slots) (w : Cx Z own nm bytes maxL ret p s m meth c) {o : Int} (hd : decode bytes pc = .ok (.goto o, 3)) (ho : 0 ≤ (pc : Int) + o) (hp : ((pc : Int) + o).toNat = n) (K : Gl p e below s n0 P C S (T.setTop (mkF m n ls st))) : Gl p e below s n0 P C S (T.setTop (mkF m pc ls st)) := by
  obtain ⟨_, X, -⟩ := X; obtain ⟨hx, hby, hZ, hown, -⟩ := w; 
  exact Gl.of (fun t k => XS.goto X.here hx rfl rfl (hb hby hd) ho hp k) K
theorem gIf_eq (X : Sd p l e R s m args below meth c n0 T h cells slots) (w : Cx Z own nm bytes maxL ret p s m meth c) {x : Int32} {o : Int} (hd : decode bytes pc = .ok (.ifCond .eq o, 3)) (ho : 0 ≤ (pc : Int) + o) {n' : Nat} (hp : ((pc : Int) + o).toNat = n) (hn : pc + 3 = n') (K1 : x = (0 : Int32) ∧ x.toInt = 0 → Gl p e below s n0 P C S (T.setTop (mkF m n ls st))) (K2 : ¬ x = (0 : Int32) ∧ ¬ x.toInt = 0 → Gl p e below s n0 P C S (T.setTop (mkF m n' ls st))) : Gl p e below s n0 P C S (T.setTop (mkF m pc ls (.int x :: st))) := by
  obtain ⟨_, X, -⟩ := X; obtain ⟨hx, hby, -⟩ := w; subst hn
  by_cases q : x = (0 : Int32)
  · exact Gl.of (fun t k => XS.ifYes X.here hx rfl rfl (hb hby hd) rfl (XT.i0_eq_t q) ho hp k) (K1 ⟨q, by rw [q]; rfl⟩)
  · exact Gl.of (fun t k => XS.ifNo X.here hx rfl (hb hby hd) rfl (XT.i0_eq_f q) k) (K2 ⟨q, fun q' => q (Int32.toInt_inj.mp q')⟩)
theorem gIcmp_eq (X : Sd p l e R s m args below meth c n0 T h cells slots) (w : Cx Z own nm bytes maxL ret p s m meth c) {x y : Int32} {o : Int} (hd : decode bytes pc = .ok (.if_icmp .eq o, 3)) (ho : 0 ≤ (pc : Int) + o) {n' : Nat} (hp : ((pc : Int) + o).toNat = n) (hn : pc + 3 = n') (K1 : x = y ∧ x.toInt = y.toInt → Gl p e below s n0 P C S (T.setTop (mkF m n ls st))) (K2 : ¬ x = y ∧ ¬ x.toInt = y.toInt → Gl p e below s n0 P C S (T.setTop (mkF m n' ls st))) : Gl p e below s n0 P C S (T.setTop (mkF m pc ls (.int y :: .int x :: st))) := by
  obtain ⟨_, X, -⟩ := X; obtain ⟨hx, hby, -⟩ := w; subst hn
  by_cases q : x = y
  · exact Gl.of (fun t k => XS.icmpYes X.here hx rfl rfl (hb hby hd) rfl (XT.ii_eq_t q) ho hp k) (K1 ⟨q, by rw [q]⟩)
  · exact Gl.of (fun t k => XS.icmpNo X.here hx rfl (hb hby hd) rfl (XT.ii_eq_f q) k) (K2 ⟨q, fun q' => q (Int32.toInt_inj.mp q')⟩)
theorem gIfL_eq (X : Sd p l e R s m args below meth c n0 T h cells slots) (w : Cx Z own nm bytes maxL ret p s m meth c) {x y : Int64} {o : Int} (hd : decode bytes pc = .ok (.ifCond .eq o, 3)) (ho : 0 ≤ (pc : Int) + o) {n' : Nat} (hp : ((pc : Int) + o).toNat = n) (hn : pc + 3 = n') (K1 : x = y ∧ x.toInt = y.toInt → Gl p e below s n0 P C S (T.setTop (mkF m n ls st))) (K2 : ¬ x = y ∧ ¬ x.toInt = y.toInt → Gl p e below s n0 P C S (T.setTop (mkF m n' ls st))) : Gl p e below s n0 P C S (T.setTop (mkF m pc ls (.int (XT.cmpL x y) :: st))) := by
  obtain ⟨_, X, -⟩ := X; obtain ⟨hx, hby, -⟩ := w; subst hn
  by_cases q : x = y
  · exact Gl.of (fun t k => XS.ifYes X.here hx rfl rfl (hb hby hd) rfl (XT.ll_eq_t q) ho hp k) (K1 ⟨q, by rw [q]⟩)
  · exact Gl.of (fun t k => XS.ifNo X.here hx rfl (hb hby hd) rfl (XT.ll_eq_f q) k) (K2 ⟨q, fun q' => q (Int64.toInt_inj.mp q')⟩)
theorem gIf_ne (X : Sd p l e R s m args below meth c n0 T h cells slots) (w : Cx Z own nm bytes maxL ret p s m meth c) {x : Int32} {o : Int} (hd : decode bytes pc = .ok (.ifCond .ne o, 3)) (ho : 0 ≤ (pc : Int) + o) {n' : Nat} (hp : ((pc : Int) + o).toNat = n) (hn : pc + 3 = n') (K1 : ¬ x = (0 : Int32) ∧ ¬ x.toInt = 0 → Gl p e below s n0 P C S (T.setTop (mkF m n ls st))) (K2 : x = (0 : Int32) ∧ x.toInt = 0 → Gl p e below s n0 P C S (T.setTop (mkF m n' ls st))) : Gl p e below s n0 P C S (T.setTop (mkF m pc ls (.int x :: st))) := by
  obtain ⟨_, X, -⟩ := X; obtain ⟨hx, hby, -⟩ := w; subst hn
  by_cases q : x = (0 : Int32)
  · exact Gl.of (fun t k => XS.ifNo X.here hx rfl (hb hby hd) rfl (XT.i0_ne_f q) k) (K2 ⟨q, by rw [q]; rfl⟩)
  · exact Gl.of (fun t k => XS.ifYes X.here hx rfl rfl (hb hby hd) rfl (XT.i0_ne_t q) ho hp k) (K1 ⟨q, fun q' => q (Int32.toInt_inj.mp q')⟩)
theorem gIcmp_ne (X : Sd p l e R s m args below meth c n0 T h cells slots) (w : Cx Z own nm bytes maxL ret p s m meth c) {x y : Int32} {o : Int} (hd : decode bytes pc = .ok (.if_icmp .ne o, 3)) (ho : 0 ≤ (pc : Int) + o) {n' : Nat} (hp : ((pc : Int) + o).toNat = n) (hn : pc + 3 = n') (K1 : ¬ x = y ∧ ¬ x.toInt = y.toInt → Gl p e below s n0 P C S (T.setTop (mkF m n ls st))) (K2 : x = y ∧ x.toInt = y.toInt → Gl p e below s n0 P C S (T.setTop (mkF m n' ls st))) : Gl p e below s n0 P C S (T.setTop (mkF m pc ls (.int y :: .int x :: st))) := by
  obtain ⟨_, X, -⟩ := X; obtain ⟨hx, hby, -⟩ := w; subst hn
  by_cases q : x = y
  · exact Gl.of (fun t k => XS.icmpNo X.here hx rfl (hb hby hd) rfl (XT.ii_ne_f q) k) (K2 ⟨q, by rw [q]⟩)
  · exact Gl.of (fun t k => XS.icmpYes X.here hx rfl rfl (hb hby hd) rfl (XT.ii_ne_t q) ho hp k) (K1 ⟨q, fun q' => q (Int32.toInt_inj.mp q')⟩)
theorem gIfL_ne (X : Sd p l e R s m args below meth c n0 T h cells slots) (w : Cx Z own nm bytes maxL ret p s m meth c) {x y : Int64} {o : Int} (hd : decode bytes pc = .ok (.ifCond .ne o, 3)) (ho : 0 ≤ (pc : Int) + o) {n' : Nat} (hp : ((pc : Int) + o).toNat = n) (hn : pc + 3 = n') (K1 : ¬ x = y ∧ ¬ x.toInt = y.toInt → Gl p e below s n0 P C S (T.setTop (mkF m n ls st))) (K2 : x = y ∧ x.toInt = y.toInt → Gl p e below s n0 P C S (T.setTop (mkF m n' ls st))) : Gl p e below s n0 P C S (T.setTop (mkF m pc ls (.int (XT.cmpL x y) :: st))) := by
  obtain ⟨_, X, -⟩ := X; obtain ⟨hx, hby, -⟩ := w; subst hn
  by_cases q : x = y
  · exact Gl.of (fun t k => XS.ifNo X.here hx rfl (hb hby hd) rfl (XT.ll_ne_f q) k) (K2 ⟨q, by rw [q]⟩)
  · exact Gl.of (fun t k => XS.ifYes X.here hx rfl rfl (hb hby hd) rfl (XT.ll_ne_t q) ho hp k) (K1 ⟨q, fun q' => q (Int64.toInt_inj.mp q')⟩)
theorem gIf_lt (X : Sd p l e R s m args below meth c n0 T h cells slots) (w : Cx Z own nm bytes maxL ret p s m meth c) {x : Int32} {o : Int} (hd : decode bytes pc = .ok (.ifCond .lt o, 3)) (ho : 0 ≤ (pc : Int) + o) {n' : Nat} (hp : ((pc : Int) + o).toNat = n) (hn : pc + 3 = n') (K1 : x.toInt < 0 → Gl p e below s n0 P C S (T.setTop (mkF m n ls st))) (K2 : 0 ≤ x.toInt → Gl p e below s n0 P C S (T.setTop (mkF m n' ls st))) : Gl p e below s n0 P C S (T.setTop (mkF m pc ls (.int x :: st))) := by
  obtain ⟨_, X, -⟩ := X; obtain ⟨hx, hby, -⟩ := w; subst hn
  by_cases q : x < (0 : Int32)
  · exact Gl.of (fun t k => XS.ifYes X.here hx rfl rfl (hb hby hd) rfl (XT.i0_lt_t q) ho hp k) (K1 (Int32.lt_iff_toInt_lt.mp q))
  · exact Gl.of (fun t k => XS.ifNo X.here hx rfl (hb hby hd) rfl (XT.i0_lt_f q) k) (K2 (Int.not_lt.mp fun q' => q (Int32.lt_iff_toInt_lt.mpr q')))
theorem gIcmp_lt (X : Sd p l e R s m args below meth c n0 T h cells slots) (w : Cx Z own nm bytes maxL ret p s m meth c) {x y : Int32} {o : Int} (hd : decode bytes pc = .ok (.if_icmp .lt o, 3)) (ho : 0 ≤ (pc : Int) + o) {n' : Nat} (hp : ((pc : Int) + o).toNat = n) (hn : pc + 3 = n') (K1 : x.toInt < y.toInt → Gl p e below s n0 P C S (T.setTop (mkF m n ls st))) (K2 : y.toInt ≤ x.toInt → Gl p e below s n0 P C S (T.setTop (mkF m n' ls st))) : Gl p e below s n0 P C S (T.setTop (mkF m pc ls (.int y :: .int x :: st))) := by
  obtain ⟨_, X, -⟩ := X; obtain ⟨hx, hby, -⟩ := w; subst hn
  by_cases q : x < y
  · exact Gl.of (fun t k => XS.icmpYes X.here hx rfl rfl (hb hby hd) rfl (XT.ii_lt_t q) ho hp k) (K1 (Int32.lt_iff_toInt_lt.mp q))
  · exact Gl.of (fun t k => XS.icmpNo X.here hx rfl (hb hby hd) rfl (XT.ii_lt_f q) k) (K2 (Int.not_lt.mp fun q' => q (Int32.lt_iff_toInt_lt.mpr q')))
theorem gIfL_lt (X : Sd p l e R s m args below meth c n0 T h cells slots) (w : Cx Z own nm bytes maxL ret p s m meth c) {x y : Int64} {o : Int} (hd : decode bytes pc = .ok (.ifCond .lt o, 3)) (ho : 0 ≤ (pc : Int) + o) {n' : Nat} (hp : ((pc : Int) + o).toNat = n) (hn : pc + 3 = n') (K1 : x.toInt < y.toInt → Gl p e below s n0 P C S (T.setTop (mkF m n ls st))) (K2 : y.toInt ≤ x.toInt → Gl p e below s n0 P C S (T.setTop (mkF m n' ls st))) : Gl p e below s n0 P C S (T.setTop (mkF m pc ls (.int (XT.cmpL x y) :: st))) := by
  obtain ⟨_, X, -⟩ := X; obtain ⟨hx, hby, -⟩ := w; subst hn
  by_cases q : x < y
  · exact Gl.of (fun t k => XS.ifYes X.here hx rfl rfl (hb hby hd) rfl (XT.ll_lt_t q) ho hp k) (K1 (Int64.lt_iff_toInt_lt.mp q))
  · exact Gl.of (fun t k => XS.ifNo X.here hx rfl (hb hby hd) rfl (XT.ll_lt_f q) k) (K2 (Int.not_lt.mp fun q' => q (Int64.lt_iff_toInt_lt.mpr q')))
theorem gIf_ge (X : Sd p l e R s m args below meth c n0 T h cells slots) (w : Cx Z own nm bytes maxL ret p s m meth c) {x : Int32} {o : Int} (hd : decode bytes pc = .ok (.ifCond .ge o, 3)) (ho : 0 ≤ (pc : Int) + o) {n' : Nat} (hp : ((pc : Int) + o).toNat = n) (hn : pc + 3 = n') (K1 : 0 ≤ x.toInt → Gl p e below s n0 P C S (T.setTop (mkF m n ls st))) (K2 : x.toInt < 0 → Gl p e below s n0 P C S (T.setTop (mkF m n' ls st))) : Gl p e below s n0 P C S (T.setTop (mkF m pc ls (.int x :: st))) := by
  obtain ⟨_, X, -⟩ := X; obtain ⟨hx, hby, -⟩ := w; subst hn
  by_cases q : x < (0 : Int32)
  · exact Gl.of (fun t k => XS.ifNo X.here hx rfl (hb hby hd) rfl (XT.i0_ge_f q) k) (K2 (Int32.lt_iff_toInt_lt.mp q))
  · exact Gl.of (fun t k => XS.ifYes X.here hx rfl rfl (hb hby hd) rfl (XT.i0_ge_t q) ho hp k) (K1 (Int.not_lt.mp fun q' => q (Int32.lt_iff_toInt_lt.mpr q')))
theorem gIcmp_ge (X : Sd p l e R s m args below meth c n0 T h cells slots) (w : Cx Z own nm bytes maxL ret p s m meth c) {x y : Int32} {o : Int} (hd : decode bytes pc = .ok (.if_icmp .ge o, 3)) (ho : 0 ≤ (pc : Int) + o) {n' : Nat} (hp : ((pc : Int) + o).toNat = n) (hn : pc + 3 = n') (K1 : y.toInt ≤ x.toInt → Gl p e below s n0 P C S (T.setTop (mkF m n ls st))) (K2 : x.toInt < y.toInt → Gl p e below s n0 P C S (T.setTop (mkF m n' ls st))) : Gl p e below s n0 P C S (T.setTop (mkF m pc ls (.int y :: .int x :: st))) := by
  obtain ⟨_, X, -⟩ := X; obtain ⟨hx, hby, -⟩ := w; subst hn
  by_cases q : x < y
  · exact Gl.of (fun t k => XS.icmpNo X.here hx rfl (hb hby hd) rfl (XT.ii_ge_f q) k) (K2 (Int32.lt_iff_toInt_lt.mp q))
  · exact Gl.of (fun t k => XS.icmpYes X.here hx rfl rfl (hb hby hd) rfl (XT.ii_ge_t q) ho hp k) (K1 (Int.not_lt.mp fun q' => q (Int32.lt_iff_toInt_lt.mpr q')))
theorem gIfL_ge (X : Sd p l e R s m args below meth c n0 T h cells slots) (w : Cx Z own nm bytes maxL ret p s m meth c) {x y : Int64} {o : Int} (hd : decode bytes pc = .ok (.ifCond .ge o, 3)) (ho : 0 ≤ (pc : Int) + o) {n' : Nat} (hp : ((pc : Int) + o).toNat = n) (hn : pc + 3 = n') (K1 : y.toInt ≤ x.toInt → Gl p e below s n0 P C S (T.setTop (mkF m n ls st))) (K2 : x.toInt < y.toInt → Gl p e below s n0 P C S (T.setTop (mkF m n' ls st))) : Gl p e below s n0 P C S (T.setTop (mkF m pc ls (.int (XT.cmpL x y) :: st))) := by
  obtain ⟨_, X, -⟩ := X; obtain ⟨hx, hby, -⟩ := w; subst hn
  by_cases q : x < y
  · exact Gl.of (fun t k => XS.ifNo X.here hx rfl (hb hby hd) rfl (XT.ll_ge_f q) k) (K2 (Int64.lt_iff_toInt_lt.mp q))
  · exact Gl.of (fun t k => XS.ifYes X.here hx rfl rfl (hb hby hd) rfl (XT.ll_ge_t q) ho hp k) (K1 (Int.not_lt.mp fun q' => q (Int64.lt_iff_toInt_lt.mpr q')))
theorem gIf_gt (X : Sd p l e R s m args below meth c n0 T h cells slots) (w : Cx Z own nm bytes maxL ret p s m meth c) {x : Int32} {o : Int} (hd : decode bytes pc = .ok (.ifCond .gt o, 3)) (ho : 0 ≤ (pc : Int) + o) {n' : Nat} (hp : ((pc : Int) + o).toNat = n) (hn : pc + 3 = n') (K1 : 0 < x.toInt → Gl p e below s n0 P C S (T.setTop (mkF m n ls st))) (K2 : x.toInt ≤ 0 → Gl p e below s n0 P C S (T.setTop (mkF m n' ls st))) : Gl p e below s n0 P C S (T.setTop (mkF m pc ls (.int x :: st))) := by
  obtain ⟨_, X, -⟩ := X; obtain ⟨hx, hby, -⟩ := w; subst hn
  by_cases q : (0 : Int32) < x
  · exact Gl.of (fun t k => XS.ifYes X.here hx rfl rfl (hb hby hd) rfl (XT.i0_gt_t q) ho hp k) (K1 (Int32.lt_iff_toInt_lt.mp q))
  · exact Gl.of (fun t k => XS.ifNo X.here hx rfl (hb hby hd) rfl (XT.i0_gt_f q) k) (K2 (Int.not_lt.mp fun q' => q (Int32.lt_iff_toInt_lt.mpr q')))
theorem gIcmp_gt (X : Sd p l e R s m args below meth c n0 T h cells slots) (w : Cx Z own nm bytes maxL ret p s m meth c) {x y : Int32} {o : Int} (hd : decode bytes pc = .ok (.if_icmp .gt o, 3)) (ho : 0 ≤ (pc : Int) + o) {n' : Nat} (hp : ((pc : Int) + o).toNat = n) (hn : pc + 3 = n') (K1 : y.toInt < x.toInt → Gl p e below s n0 P C S (T.setTop (mkF m n ls st))) (K2 : x.toInt ≤ y.toInt → Gl p e below s n0 P C S (T.setTop (mkF m n' ls st))) : Gl p e below s n0 P C S (T.setTop (mkF m pc ls (.int y :: .int x :: st))) := by
  obtain ⟨_, X, -⟩ := X; obtain ⟨hx, hby, -⟩ := w; subst hn
  by_cases q : y < x
  · exact Gl.of (fun t k => XS.icmpYes X.here hx rfl rfl (hb hby hd) rfl (XT.ii_gt_t q) ho hp k) (K1 (Int32.lt_iff_toInt_lt.mp q))
  · exact Gl.of (fun t k => XS.icmpNo X.here hx rfl (hb hby hd) rfl (XT.ii_gt_f q) k) (K2 (Int.not_lt.mp fun q' => q (Int32.lt_iff_toInt_lt.mpr q')))
theorem gIfL_gt (X : Sd p l e R s m args below meth c n0 T h cells slots) (w : Cx Z own nm bytes maxL ret p s m meth c) {x y : Int64} {o : Int} (hd : decode bytes pc = .ok (.ifCond .gt o, 3)) (ho : 0 ≤ (pc : Int) + o) {n' : Nat} (hp : ((pc : Int) + o).toNat = n) (hn : pc + 3 = n') (K1 : y.toInt < x.toInt → Gl p e below s n0 P C S (T.setTop (mkF m n ls st))) (K2 : x.toInt ≤ y.toInt → Gl p e below s n0 P C S (T.setTop (mkF m n' ls st))) : Gl p e below s n0 P C S (T.setTop (mkF m pc ls (.int (XT.cmpL x y) :: st))) := by
  obtain ⟨_, X, -⟩ := X; obtain ⟨hx, hby, -⟩ := w; subst hn
  by_cases q : y < x
  · exact Gl.of (fun t k => XS.ifYes X.here hx rfl rfl (hb hby hd) rfl (XT.ll_gt_t q) ho hp k) (K1 (Int64.lt_iff_toInt_lt.mp q))
  · exact Gl.of (fun t k => XS.ifNo X.here hx rfl (hb hby hd) rfl (XT.ll_gt_f q) k) (K2 (Int.not_lt.mp fun q' => q (Int64.lt_iff_toInt_lt.mpr q')))
theorem gIf_le (X : Sd p l e R s m args below meth c n0 T h cells slots) (w : Cx Z own nm bytes maxL ret p s m meth c) {x : Int32} {o : Int} (hd : decode bytes pc = .ok (.ifCond .le o, 3)) (ho : 0 ≤ (pc : Int) + o) {n' : Nat} (hp : ((pc : Int) + o).toNat = n) (hn : pc + 3 = n') (K1 : x.toInt ≤ 0 → Gl p e below s n0 P C S (T.setTop (mkF m n ls st))) (K2 : 0 < x.toInt → Gl p e below s n0 P C S (T.setTop (mkF m n' ls st))) : Gl p e below s n0 P C S (T.setTop (mkF m pc ls (.int x :: st))) := by
  obtain ⟨_, X, -⟩ := X; obtain ⟨hx, hby, -⟩ := w; subst hn
  by_cases q : (0 : Int32) < x
  · exact Gl.of (fun t k => XS.ifNo X.here hx rfl (hb hby hd) rfl (XT.i0_le_f q) k) (K2 (Int32.lt_iff_toInt_lt.mp q))
  · exact Gl.of (fun t k => XS.ifYes X.here hx rfl rfl (hb hby hd) rfl (XT.i0_le_t q) ho hp k) (K1 (Int.not_lt.mp fun q' => q (Int32.lt_iff_toInt_lt.mpr q')))
theorem gIcmp_le (X : Sd p l e R s m args below meth c n0 T h cells slots) (w : Cx Z own nm bytes maxL ret p s m meth c) {x y : Int32} {o : Int} (hd : decode bytes pc = .ok (.if_icmp .le o, 3)) (ho : 0 ≤ (pc : Int) + o) {n' : Nat} (hp : ((pc : Int) + o).toNat = n) (hn : pc + 3 = n') (K1 : x.toInt ≤ y.toInt → Gl p e below s n0 P C S (T.setTop (mkF m n ls st))) (K2 : y.toInt < x.toInt → Gl p e below s n0 P C S (T.setTop (mkF m n' ls st))) : Gl p e below s n0 P C S (T.setTop (mkF m pc ls (.int y :: .int x :: st))) := by
  obtain ⟨_, X, -⟩ := X; obtain ⟨hx, hby, -⟩ := w; subst hn
  by_cases q : y < x
  · exact Gl.of (fun t k => XS.icmpNo X.here hx rfl (hb hby hd) rfl (XT.ii_le_f q) k) (K2 (Int32.lt_iff_toInt_lt.mp q))
  · exact Gl.of (fun t k => XS.icmpYes X.here hx rfl rfl (hb hby hd) rfl (XT.ii_le_t q) ho hp k) (K1 (Int.not_lt.mp fun q' => q (Int32.lt_iff_toInt_lt.mpr q')))
theorem gIfL_le (X : Sd p l e R s m args below meth c n0 T h cells slots) (w : Cx Z own nm bytes maxL ret p s m meth c) {x y : Int64} {o : Int} (hd : decode bytes pc = .ok (.ifCond .le o, 3)) (ho : 0 ≤ (pc : Int) + o) {n' : Nat} (hp : ((pc : Int) + o).toNat = n) (hn : pc + 3 = n') (K1 : x.toInt ≤ y.toInt → Gl p e below s n0 P C S (T.setTop (mkF m n ls st))) (K2 : y.toInt < x.toInt → Gl p e below s n0 P C S (T.setTop (mkF m n' ls st))) : Gl p e below s n0 P C S (T.setTop (mkF m pc ls (.int (XT.cmpL x y) :: st))) := by
  obtain ⟨_, X, -⟩ := X; obtain ⟨hx, hby, -⟩ := w; subst hn
  by_cases q : y < x
  · exact Gl.of (fun t k => XS.ifNo X.here hx rfl (hb hby hd) rfl (XT.ll_le_f q) k) (K2 (Int64.lt_iff_toInt_lt.mp q))
  · exact Gl.of (fun t k => XS.ifYes X.here hx rfl rfl (hb hby hd) rfl (XT.ll_le_t q) ho hp k) (K1 (Int.not_lt.mp fun q' => q (Int64.lt_iff_toInt_lt.mpr q')))
theorem gAcmp_eq (X : Sd p l e R s m args below meth c n0 T h cells slots) (w : Cx Z own nm bytes maxL ret p s m meth c) {x y : Value} {o : Int} (hd : decode bytes pc = .ok (.if_acmp .eq o, 3)) (hx' : x.isRef = true) (hy' : y.isRef = true) (ho : 0 ≤ (pc : Int) + o) {n' : Nat} (hp : ((pc : Int) + o).toNat = n) (hn : pc + 3 = n') (K1 : x = y → Gl p e below s n0 P C S (T.setTop (mkF m n ls st))) (K2 : ¬ x = y → Gl p e below s n0 P C S (T.setTop (mkF m n' ls st))) : Gl p e below s n0 P C S (T.setTop (mkF m pc ls (y :: x :: st))) := by
  obtain ⟨_, X, -⟩ := X; obtain ⟨hx, hby, -⟩ := w; subst hn
  by_cases q : x = y
  · exact Gl.of (fun t k => XT.acmpYes X.here hx rfl rfl (hb hby hd) rfl hx' hy' (XT.aa_eq_t q) ho hp k) (K1 q)
  · exact Gl.of (fun t k => XT.acmpNo X.here hx rfl (hb hby hd) rfl hx' hy' (XT.aa_eq_f q) k) (K2 q)
theorem gAcmp_ne (X : Sd p l e R s m args below meth c n0 T h cells slots) (w : Cx Z own nm bytes maxL ret p s m meth c) {x y : Value} {o : Int} (hd : decode bytes pc = .ok (.if_acmp .ne o, 3)) (hx' : x.isRef = true) (hy' : y.isRef = true) (ho : 0 ≤ (pc : Int) + o) {n' : Nat} (hp : ((pc : Int) + o).toNat = n) (hn : pc + 3 = n') (K1 : ¬ x = y → Gl p e below s n0 P C S (T.setTop (mkF m n ls st))) (K2 : x = y → Gl p e below s n0 P C S (T.setTop (mkF m n' ls st))) : Gl p e below s n0 P C S (T.setTop (mkF m pc ls (y :: x :: st))) := by
  obtain ⟨_, X, -⟩ := X; obtain ⟨hx, hby, -⟩ := w; subst hn
  by_cases q : x = y
  · exact Gl.of (fun t k => XT.acmpNo X.here hx rfl (hb hby hd) rfl hx' hy' (XT.aa_ne_f q) k) (K2 q)
  · exact Gl.of (fun t k => XT.acmpYes X.here hx rfl rfl (hb hby hd) rfl hx' hy' (XT.aa_ne_t q) ho hp k) (K1 q)
theorem gIfnullY (X : Sd p l e R s m args below meth c n0 T h cells slots) (w : Cx Z own nm bytes maxL ret p s m meth c) {o : Int} (hd : decode bytes pc = .ok (.ifnull o, 3)) (ho : 0 ≤ (pc : Int) + o) (hp : ((pc : Int) + o).toNat = n) (K : Gl p e below s n0 P C S (T.setTop (mkF m n ls st))) : Gl p e below s n0 P C S (T.setTop (mkF m pc ls (.null :: st))) := by
  obtain ⟨_, X, -⟩ := X; obtain ⟨hx, hby, hZ, hown, -⟩ := w; 
  exact Gl.of (fun t k => XS.ifnullYes X.here hx rfl rfl (hb hby hd) rfl ho hp k) K
theorem gIfnullN (X : Sd p l e R s m args below meth c n0 T h cells slots) (w : Cx Z own nm bytes maxL ret p s m meth c) {o : Int} {b : Addr} (hd : decode bytes pc = .ok (.ifnull o, 3)) (hn : pc + 3 = n) (K : Gl p e below s n0 P C S (T.setTop (mkF m n ls st))) : Gl p e below s n0 P C S (T.setTop (mkF m pc ls (.ref b :: st))) := by
  obtain ⟨_, X, -⟩ := X; obtain ⟨hx, hby, hZ, hown, -⟩ := w; subst hn
  exact Gl.of (fun t k => XS.ifnullNo X.here hx rfl (hb hby hd) rfl k) K
theorem gIfnonnullY (X : Sd p l e R s m args below meth c n0 T h cells slots) (w : Cx Z own nm bytes maxL ret p s m meth c) {o : Int} {b : Addr} (hd : decode bytes pc = .ok (.ifnonnull o, 3)) (ho : 0 ≤ (pc : Int) + o) (hp : ((pc : Int) + o).toNat = n) (K : Gl p e below s n0 P C S (T.setTop (mkF m n ls st))) : Gl p e below s n0 P C S (T.setTop (mkF m pc ls (.ref b :: st))) := by
  obtain ⟨_, X, -⟩ := X; obtain ⟨hx, hby, hZ, hown, -⟩ := w; 
  exact Gl.of (fun t k => XT.ifnonnullYes X.here hx rfl rfl (hb hby hd) rfl ho hp k) K
theorem gIfnonnullN (X : Sd p l e R s m args below meth c n0 T h cells slots) (w : Cx Z own nm bytes maxL ret p s m meth c) {o : Int} (hd : decode bytes pc = .ok (.ifnonnull o, 3)) (hn : pc + 3 = n) (K : Gl p e below s n0 P C S (T.setTop (mkF m n ls st))) : Gl p e below s n0 P C S (T.setTop (mkF m pc ls (.null :: st))) := by
  obtain ⟨_, X, -⟩ := X; obtain ⟨hx, hby, hZ, hown, -⟩ := w; subst hn
  exact Gl.of (fun t k => XT.ifnonnullNo X.here hx rfl (hb hby hd) rfl k) K
theorem gRet (X : Sd p l e R s m args below meth c n0 T h cells slots) (w : Cx Z own nm bytes maxL ret p s m meth c) {v : Value} {t : FieldType} {i : Instr} (hret : ret = some t) (hn : narrow t v = v) (hi : (i = .ireturn ∧ (t = .int ∨ t = .boolean ∨ t = .byte ∨ t = .char ∨ t = .short) ∧ ∃ z, v = .int z) ∨ (i = .lreturn ∧ t = .long ∧ ∃ z, v = .long z) ∨ (i = .dreturn ∧ t = .double ∧ ∃ z, v = .double z) ∨ (i = .freturn ∧ t = .float ∧ ∃ z, v = .float z) ∨ (i = .areturn ∧ t.isReference = true ∧ v.isRef = true))
    (hd : decode bytes pc = .ok (i, 1)) (hc : cells ≤ C) (hs : slots ≤ S) (hP : P (some v) h) : Gl p e below s n0 P C S (T.setTop (mkF m pc ls (v :: st))) := by
  obtain ⟨locs, X, N, eh, -⟩ := X; obtain ⟨hx, hby, hZ, hown, -, -, hr', hlk⟩ := w
  obtain ⟨fs, hr, hrun, hended, hW, hsame⟩ := X.leave (v := some v) (fun q => by rw [hr', hret] at q; cases q) hlk
  refine ⟨_, _, retOut X hx (hr'.trans hret) hn hi (hb hby hd) hr, hrun, hended, _, _, rfl, ⟨?_, N⟩, ⟨_, rfl⟩, hW, hsame.mono hc hs⟩
  show P (some v) T.heap
  rw [eh]; exact hP
theorem gRetI (X : Sd p l e R s m args below meth c n0 T h cells slots) (w : Cx Z own nm bytes maxL ret p s m meth c) {z : Int32} (hret : ret = some .int) (hd : decode bytes pc = .ok (.ireturn, 1)) (hc : cells ≤ C) (hs : slots ≤ S) (hP : P (some (.int z)) h) : Gl p e below s n0 P C S (T.setTop (mkF m pc ls (.int z :: st))) := gRet X w hret rfl (Or.inl ⟨rfl, Or.inl rfl, z, rfl⟩) hd hc hs hP
theorem gRetZ (X : Sd p l e R s m args below meth c n0 T h cells slots) (w : Cx Z own nm bytes maxL ret p s m meth c) {z : Int32} (hret : ret = some .boolean) (hz : z = 0 ∨ z = 1) (hd : decode bytes pc = .ok (.ireturn, 1)) (hc : cells ≤ C) (hs : slots ≤ S) (hP : P (some (.int z)) h) : Gl p e below s n0 P C S (T.setTop (mkF m pc ls (.int z :: st))) := gRet X w hret (by rcases hz with rfl | rfl <;> rfl) (Or.inl ⟨rfl, Or.inr (Or.inl rfl), z, rfl⟩) hd hc hs hP
theorem gRetJ (X : Sd p l e R s m args below meth c n0 T h cells slots) (w : Cx Z own nm bytes maxL ret p s m meth c) {z : Int64} (hret : ret = some .long) (hd : decode bytes pc = .ok (.lreturn, 1)) (hc : cells ≤ C) (hs : slots ≤ S) (hP : P (some (.long z)) h) : Gl p e below s n0 P C S (T.setTop (mkF m pc ls (.long z :: st))) := gRet X w hret rfl (Or.inr (Or.inl ⟨rfl, rfl, z, rfl⟩)) hd hc hs hP
theorem gRetD (X : Sd p l e R s m args below meth c n0 T h cells slots) (w : Cx Z own nm bytes maxL ret p s m meth c) {z : UInt64} (hret : ret = some .double) (hd : decode bytes pc = .ok (.dreturn, 1)) (hc : cells ≤ C) (hs : slots ≤ S) (hP : P (some (.double z)) h) : Gl p e below s n0 P C S (T.setTop (mkF m pc ls (.double z :: st))) := gRet X w hret rfl (Or.inr (Or.inr (Or.inl ⟨rfl, rfl, z, rfl⟩))) hd hc hs hP
theorem gRetA (X : Sd p l e R s m args below meth c n0 T h cells slots) (w : Cx Z own nm bytes maxL ret p s m meth c) {v : Value} {t : FieldType} (hret : ret = some t) (ht : t.isReference = true) (hv : v.isRef = true) (hd : decode bytes pc = .ok (.areturn, 1)) (hc : cells ≤ C) (hs : slots ≤ S) (hP : P (some v) h) : Gl p e below s n0 P C S (T.setTop (mkF m pc ls (v :: st))) := gRet X w hret (by rcases ref_cases hv with rfl | ⟨a, rfl⟩ <;> cases t <;> first | rfl | cases ht) (Or.inr (Or.inr (Or.inr (Or.inr ⟨rfl, ht, hv⟩)))) hd hc hs hP
theorem gRetV (X : Sd p l e R s m args below meth c n0 T h cells slots) (w : Cx Z own nm bytes maxL ret p s m meth c) (hret : ret = none) (hd : decode bytes pc = .ok (.return_, 1)) (hc : cells ≤ C) (hs : slots ≤ S) (hP : P none h) : Gl p e below s n0 P C S (T.setTop (mkF m pc ls [])) := by
  obtain ⟨locs, X, N, eh, -⟩ := X; obtain ⟨hx, hby, hZ, hown, -, -, hr', hlk⟩ := w
  obtain ⟨fs, hr, hrun, hended, hW, hsame⟩ := X.leave (v := none) (fun q => rfl) hlk
  refine ⟨_, _, X.returnOut hx (hr'.trans hret) (hb hby hd) hr, hrun, hended, _, _, rfl, ⟨?_, N⟩, ⟨_, rfl⟩, hW, hsame.mono hc hs⟩
  show P none T.heap
  rw [eh]; exact hP
theorem gCallS (X : Sd p l e R s m args below meth c n0 T h cells slots) (w : Cx Z own nm bytes maxL ret p s m meth c) {y : MethodName} {yb : ByteArray} {yl : Nat} {yr : Option FieldType} {rm : Room} {Q : Option Value → Heap → Prop} {idx W : Nat} (aL rest : List Value) {ps : List FieldType} {r : Option FieldType}
    (hM : Con l Z y yb yl yr [] rm rm.cells rm.slots aL.toArray h n0 Q) (w1 : (Jvm.Cond.methodLink own idx y).before a0 Z = true) (w2 : (Jvm.Cond.static y).before a0 Z = true) (w3 : (Jvm.Cond.initialized y.cls).before a0 Z = true) (w4 : (Jvm.Cond.code y yb yl yr).before a0 Z = true) (hy : y.cls ≠ "java/lang/invoke/MethodHandle" ∧ y.cls ≠ "java/lang/invoke/VarHandle")
    (hpd : parseMethodDescriptor y.desc = some ⟨ps, r⟩) (hlen : aL.length = ps.length) (hstk : st = aL.reverse ++ rest) (hd : decode bytes pc = .ok (.invokestatic idx, 3)) (hsz : ls.size = maxL) (hW : (rest.map fun v => v.category).sum ≤ W)
    (hf : rm.frames + 1 ≤ R.frames) (hl : W + (yl + 11) + rm.locals ≤ R.locals) (hcc : cells + rm.cells ≤ R.cells) (hss : slots + rm.slots ≤ R.slots) (hn : pc + 3 = n)
    (K : ∀ T' h' v, Q v h' → Sd p l e R s m args below meth c n0 T' h' (cells + rm.cells) (slots + rm.slots) → Gl p e below s n0 P C S (T'.setTop (mkF m n ls (v.toList ++ rest)))) : Gl p e below s n0 P C S (T.setTop (mkF m pc ls st)) := by
  obtain ⟨locs, X, N, eh, hn0⟩ := X; obtain ⟨hx, hby, hZ, hown, -, hml, -⟩ := w; subst hn
  obtain ⟨v, vm, ⟨T', L, k, sl⟩, -, X', ⟨Lc, ⟨hQ, NL⟩, l1, y1, z1⟩, st'⟩ := Jvm.LawKit.callS X hx (y := y) hown (mvT hZ w1) (mvT hZ w2) (mvT hZ w3) (mvT hZ w4) hy (backOf (W := W) (Q := fun v h L => Q v h ∧ Fr n0 L) (Con.met hM) hZ w4 w3 hf hl) (g := mkF m pc ls st) rfl (by rw [hml]; exact hsz) (argsL := aL) (rest := rest) (lenOf hpd hlen) hstk (by show 2 * 0 + _ ≤ _; rw [Nat.mul_zero, Nat.zero_add]; exact hW) (hb hby hd) (fun _ _ => ⟨rfl, eh, hcc, hss⟩)
  dsimp only [Pt.U, Pt.locs, Pt.cells, Pt.slots] at X' l1 y1 z1 st' hQ
  subst l1 y1 z1
  exact Gl.of st' (K T' T'.heap v hQ ⟨_, X', Fr.app N NL, rfl, hn0⟩)
theorem gCallV (X : Sd p l e R s m args below meth c n0 T h cells slots) (w : Cx Z own nm bytes maxL ret p s m meth c) {y z : MethodName} {yb : ByteArray} {yl : Nat} {yr : Option FieldType} {rm : Room} {Q : Option Value → Heap → Prop} {idx W : Nat} {b : Addr} {C0 : String} (aL rest : List Value) {ps : List FieldType} {r : Option FieldType} (E : Exa Z h b C0)
    (hM : Con l Z z yb yl yr [] rm rm.cells rm.slots (.ref b :: aL).toArray h n0 Q) (w1 : (Jvm.Cond.methodLink own idx y).before a0 Z = true) (w2 : (Jvm.Cond.declares y).before a0 Z = true) (hnf : NotFace s y) (w5 : (Jvm.Cond.selects C0 y z).before a0 Z = true) (w6 : (Jvm.Cond.instanceMethod z).before a0 Z = true) (w3 : (Jvm.Cond.initialized z.cls).before a0 Z = true) (w4 : (Jvm.Cond.code z yb yl yr).before a0 Z = true) (hy : y.cls ≠ "java/lang/invoke/MethodHandle" ∧ y.cls ≠ "java/lang/invoke/VarHandle")
    (hpd : parseMethodDescriptor y.desc = some ⟨ps, r⟩) (hlen : aL.length = ps.length) (hstk : st = aL.reverse ++ .ref b :: rest) (hd : decode bytes pc = .ok (.invokevirtual idx, 3)) (hsz : ls.size = maxL) (hW : (rest.map fun v => v.category).sum ≤ W)
    (hf : rm.frames + 1 ≤ R.frames) (hl : W + (yl + 11) + rm.locals ≤ R.locals) (hcc : cells + rm.cells ≤ R.cells) (hss : slots + rm.slots ≤ R.slots) (hn : pc + 3 = n)
    (K : ∀ T' h' v, Q v h' → Sd p l e R s m args below meth c n0 T' h' (cells + rm.cells) (slots + rm.slots) → Gl p e below s n0 P C S (T'.setTop (mkF m n ls (v.toList ++ rest)))) : Gl p e below s n0 P C S (T.setTop (mkF m pc ls st)) := by
  obtain ⟨locs, X, N, eh, hn0⟩ := X; obtain ⟨hx, hby, hZ, hown, -, hml, -⟩ := w; subst hn
  obtain ⟨cq, kq, qa, qb, qc⟩ := isOf hZ eh E
  obtain ⟨v, vm, ⟨T', L, k, sl⟩, -, X', ⟨Lc, ⟨hQ, NL⟩, l1, y1, z1⟩, st'⟩ := X.virtualBack hx (y := y) (z := z) hown (mvT hZ w1) (mvT hZ w2) hnf (mvT hZ w5) (mvT hZ w6) hy (backOf (W := W) (Q := fun v h L => Q v h ∧ Fr n0 L) (Con.met hM) hZ w4 w3 hf hl) qa qc (g := mkF m pc ls st) rfl (by rw [hml]; exact hsz) (Steps.refl _) (argsL := aL) (rest := rest) (lenOf hpd hlen) hstk (by show 2 * 0 + _ ≤ _; rw [Nat.mul_zero, Nat.zero_add]; exact hW) (hb hby hd) (fun _ _ => ⟨rfl, eh, hcc, hss⟩)
  dsimp only [Pt.U, Pt.locs, Pt.cells, Pt.slots] at X' l1 y1 z1 st' hQ
  subst l1 y1 z1
  exact Gl.of (fun t k => st'.trans k) (K T' T'.heap v hQ ⟨_, X', Fr.app N NL, rfl, hn0⟩)
theorem gCallI (X : Sd p l e R s m args below meth c n0 T h cells slots) (w : Cx Z own nm bytes maxL ret p s m meth c) {y : MethodName} {yb : ByteArray} {yl : Nat} {rm : Room} {Q : Option Value → Heap → Prop} {idx W : Nat} {b : Addr} (aL rest : List Value) {ps : List FieldType} {r : Option FieldType} (hy1 : y.name = "<init>")
    (hM : Con l Z y yb yl none [] rm rm.cells rm.slots (.ref b :: aL).toArray h n0 Q) (w1 : (Jvm.Cond.methodLink own idx y).before a0 Z = true) (w2 : (Jvm.Cond.instanceMethod y).before a0 Z = true) (w3 : (Jvm.Cond.initialized y.cls).before a0 Z = true) (w4 : (Jvm.Cond.code y yb yl none).before a0 Z = true) (hy : y.cls ≠ "java/lang/invoke/MethodHandle" ∧ y.cls ≠ "java/lang/invoke/VarHandle")
    (hpd : parseMethodDescriptor y.desc = some ⟨ps, r⟩) (hlen : aL.length = ps.length) (hstk : st = aL.reverse ++ .ref b :: rest) (hd : decode bytes pc = .ok (.invokespecial idx, 3)) (hsz : ls.size = maxL) (hW : (rest.map fun v => v.category).sum ≤ W)
    (hf : rm.frames + 1 ≤ R.frames) (hl : W + (yl + 11) + rm.locals ≤ R.locals) (hcc : cells + rm.cells ≤ R.cells) (hss : slots + rm.slots ≤ R.slots) (hn : pc + 3 = n)
    (K : ∀ T' h' v, Q v h' → Sd p l e R s m args below meth c n0 T' h' (cells + rm.cells) (slots + rm.slots) → Gl p e below s n0 P C S (T'.setTop (mkF m n ls (v.toList ++ rest)))) : Gl p e below s n0 P C S (T.setTop (mkF m pc ls st)) := by
  obtain ⟨locs, X, N, eh, hn0⟩ := X; obtain ⟨hx, hby, hZ, hown, -, hml, -⟩ := w; subst hn
  obtain ⟨v, vm, ⟨T', L, k, sl⟩, -, X', ⟨Lc, ⟨hQ, NL⟩, l1, y1, z1⟩, st'⟩ := X.specialBack hx (y := y) hy1 hown (mvT hZ w1) (mvT hZ w2) (mvT hZ w4) hy (backOf (W := W) (Q := fun v h L => Q v h ∧ Fr n0 L) (Con.met hM) hZ w4 w3 hf hl) (g := mkF m pc ls st) rfl (by rw [hml]; exact hsz) (Steps.refl _) (a := b) (argsL := aL) (rest := rest) (lenOf hpd hlen) hstk (by show 2 * 0 + _ ≤ _; rw [Nat.mul_zero, Nat.zero_add]; exact hW) (hb hby hd) (fun _ _ => ⟨rfl, eh, hcc, hss⟩)
  dsimp only [Pt.U, Pt.locs, Pt.cells, Pt.slots] at X' l1 y1 z1 st' hQ
  subst l1 y1 z1
  exact Gl.of (fun t k => st'.trans k) (K T' T'.heap v hQ ⟨_, X', Fr.app N NL, rfl, hn0⟩)
theorem gCallSv (X : Sd p l e R s m args below meth c n0 T h cells slots) (w : Cx Z own nm bytes maxL ret p s m meth c) {y : MethodName} {yb : ByteArray} {yl : Nat} {yr : Option FieldType} {rm : Room} {Q : Value → Heap → Prop} {idx W : Nat} (aL rest : List Value) {ps : List FieldType} {r : Option FieldType}
    (hM : ConV l Z y yb yl yr rm aL.toArray h n0 Q) (w1 : (Jvm.Cond.methodLink own idx y).before a0 Z = true) (w2 : (Jvm.Cond.static y).before a0 Z = true) (w3 : (Jvm.Cond.initialized y.cls).before a0 Z = true) (w4 : (Jvm.Cond.code y yb yl yr).before a0 Z = true) (hy : y.cls ≠ "java/lang/invoke/MethodHandle" ∧ y.cls ≠ "java/lang/invoke/VarHandle")
    (hpd : parseMethodDescriptor y.desc = some ⟨ps, r⟩) (hlen : aL.length = ps.length) (hstk : st = aL.reverse ++ rest) (hd : decode bytes pc = .ok (.invokestatic idx, 3)) (hsz : ls.size = maxL) (hW : (rest.map fun v => v.category).sum ≤ W)
    (hf : rm.frames + 1 ≤ R.frames) (hl : W + (yl + 11) + rm.locals ≤ R.locals) (hcc : cells + rm.cells ≤ R.cells) (hss : slots + rm.slots ≤ R.slots) (hn : pc + 3 = n)
    (K : ∀ T' h' v, Q v h' → Sd p l e R s m args below meth c n0 T' h' (cells + rm.cells) (slots + rm.slots) → Gl p e below s n0 P C S (T'.setTop (mkF m n ls (v :: rest)))) : Gl p e below s n0 P C S (T.setTop (mkF m pc ls st)) :=
  gCallS X w aL rest hM w1 w2 w3 w4 hy hpd hlen hstk hd hsz hW hf hl hcc hss hn (fun T' h' v q X => by obtain ⟨v', rfl, q⟩ := q; exact K T' h' v' q X)
theorem gCallSn (X : Sd p l e R s m args below meth c n0 T h cells slots) (w : Cx Z own nm bytes maxL ret p s m meth c) {y : MethodName} {yb : ByteArray} {yl : Nat} {rm : Room} {Q : Heap → Prop} {idx W : Nat} (aL rest : List Value) {ps : List FieldType} {r : Option FieldType}
    (hM : ConN l Z y yb yl rm aL.toArray h n0 Q) (w1 : (Jvm.Cond.methodLink own idx y).before a0 Z = true) (w2 : (Jvm.Cond.static y).before a0 Z = true) (w3 : (Jvm.Cond.initialized y.cls).before a0 Z = true) (w4 : (Jvm.Cond.code y yb yl none).before a0 Z = true) (hy : y.cls ≠ "java/lang/invoke/MethodHandle" ∧ y.cls ≠ "java/lang/invoke/VarHandle")
    (hpd : parseMethodDescriptor y.desc = some ⟨ps, r⟩) (hlen : aL.length = ps.length) (hstk : st = aL.reverse ++ rest) (hd : decode bytes pc = .ok (.invokestatic idx, 3)) (hsz : ls.size = maxL) (hW : (rest.map fun v => v.category).sum ≤ W)
    (hf : rm.frames + 1 ≤ R.frames) (hl : W + (yl + 11) + rm.locals ≤ R.locals) (hcc : cells + rm.cells ≤ R.cells) (hss : slots + rm.slots ≤ R.slots) (hn : pc + 3 = n)
    (K : ∀ T' h', Q h' → Sd p l e R s m args below meth c n0 T' h' (cells + rm.cells) (slots + rm.slots) → Gl p e below s n0 P C S (T'.setTop (mkF m n ls rest))) : Gl p e below s n0 P C S (T.setTop (mkF m pc ls st)) :=
  gCallS X w aL rest hM w1 w2 w3 w4 hy hpd hlen hstk hd hsz hW hf hl hcc hss hn (fun T' h' v q X => by obtain ⟨rfl, q⟩ := q; exact K T' h' q X)
theorem gCallVv (X : Sd p l e R s m args below meth c n0 T h cells slots) (w : Cx Z own nm bytes maxL ret p s m meth c) {y z : MethodName} {yb : ByteArray} {yl : Nat} {yr : Option FieldType} {rm : Room} {Q : Value → Heap → Prop} {idx W : Nat} {b : Addr} {C0 : String} (aL rest : List Value) {ps : List FieldType} {r : Option FieldType} (E : Exa Z h b C0)
    (hM : ConV l Z z yb yl yr rm (.ref b :: aL).toArray h n0 Q) (w1 : (Jvm.Cond.methodLink own idx y).before a0 Z = true) (w2 : (Jvm.Cond.declares y).before a0 Z = true) (hnf : NotFace s y) (w5 : (Jvm.Cond.selects C0 y z).before a0 Z = true) (w6 : (Jvm.Cond.instanceMethod z).before a0 Z = true) (w3 : (Jvm.Cond.initialized z.cls).before a0 Z = true) (w4 : (Jvm.Cond.code z yb yl yr).before a0 Z = true) (hy : y.cls ≠ "java/lang/invoke/MethodHandle" ∧ y.cls ≠ "java/lang/invoke/VarHandle")
    (hpd : parseMethodDescriptor y.desc = some ⟨ps, r⟩) (hlen : aL.length = ps.length) (hstk : st = aL.reverse ++ .ref b :: rest) (hd : decode bytes pc = .ok (.invokevirtual idx, 3)) (hsz : ls.size = maxL) (hW : (rest.map fun v => v.category).sum ≤ W)
    (hf : rm.frames + 1 ≤ R.frames) (hl : W + (yl + 11) + rm.locals ≤ R.locals) (hcc : cells + rm.cells ≤ R.cells) (hss : slots + rm.slots ≤ R.slots) (hn : pc + 3 = n)
    (K : ∀ T' h' v, Q v h' → Sd p l e R s m args below meth c n0 T' h' (cells + rm.cells) (slots + rm.slots) → Gl p e below s n0 P C S (T'.setTop (mkF m n ls (v :: rest)))) : Gl p e below s n0 P C S (T.setTop (mkF m pc ls st)) :=
  gCallV X w aL rest E hM w1 w2 hnf w5 w6 w3 w4 hy hpd hlen hstk hd hsz hW hf hl hcc hss hn (fun T' h' v q X => by obtain ⟨v', rfl, q⟩ := q; exact K T' h' v' q X)
theorem gCallIn (X : Sd p l e R s m args below meth c n0 T h cells slots) (w : Cx Z own nm bytes maxL ret p s m meth c) {y : MethodName} {yb : ByteArray} {yl : Nat} {rm : Room} {Q : Heap → Prop} {idx W : Nat} {b : Addr} (aL rest : List Value) {ps : List FieldType} {r : Option FieldType} (hy1 : y.name = "<init>")
    (hM : ConN l Z y yb yl rm (.ref b :: aL).toArray h n0 Q) (w1 : (Jvm.Cond.methodLink own idx y).before a0 Z = true) (w2 : (Jvm.Cond.instanceMethod y).before a0 Z = true) (w3 : (Jvm.Cond.initialized y.cls).before a0 Z = true) (w4 : (Jvm.Cond.code y yb yl none).before a0 Z = true) (hy : y.cls ≠ "java/lang/invoke/MethodHandle" ∧ y.cls ≠ "java/lang/invoke/VarHandle")
    (hpd : parseMethodDescriptor y.desc = some ⟨ps, r⟩) (hlen : aL.length = ps.length) (hstk : st = aL.reverse ++ .ref b :: rest) (hd : decode bytes pc = .ok (.invokespecial idx, 3)) (hsz : ls.size = maxL) (hW : (rest.map fun v => v.category).sum ≤ W)
    (hf : rm.frames + 1 ≤ R.frames) (hl : W + (yl + 11) + rm.locals ≤ R.locals) (hcc : cells + rm.cells ≤ R.cells) (hss : slots + rm.slots ≤ R.slots) (hn : pc + 3 = n)
    (K : ∀ T' h', Q h' → Sd p l e R s m args below meth c n0 T' h' (cells + rm.cells) (slots + rm.slots) → Gl p e below s n0 P C S (T'.setTop (mkF m n ls rest))) : Gl p e below s n0 P C S (T.setTop (mkF m pc ls st)) :=
  gCallI X w aL rest hy1 hM w1 w2 w3 w4 hy hpd hlen hstk hd hsz hW hf hl hcc hss hn (fun T' h' v q X => by obtain ⟨rfl, q⟩ := q; exact K T' h' q X)
theorem gInitO (X : Sd p l e R s m args below meth c n0 T h cells slots) (w : Cx Z own nm bytes maxL ret p s m meth c) {idx W : Nat} {a : Addr} (w1 : (Jvm.Cond.methodLink own idx Lib.objectInit).before a0 Z = true) (w2 : (Jvm.Cond.instanceMethod Lib.objectInit).before a0 Z = true) (w3 : (Jvm.Cond.code Lib.objectInit ⟨#[0xb1]⟩ 1 none).before a0 Z = true) (hd : decode bytes pc = .ok (.invokespecial idx, 3)) (hsz : ls.size = maxL) (hf : 1 ≤ R.frames) (hW : (st.map fun v => v.category).sum ≤ W) (hl : W + 12 ≤ R.locals) (hn : pc + 3 = n)
    (K : ∀ T', Sd p l e R s m args below meth c n0 T' h cells slots → Gl p e below s n0 P C S (T'.setTop (mkF m n ls st))) : Gl p e below s n0 P C S (T.setTop (mkF m pc ls (.ref a :: st))) := by
  obtain ⟨locs, X, N, eh, hn0⟩ := X; obtain ⟨hx, hby, hZ, hown, -, hml, -⟩ := w; subst hn
  obtain ⟨T', X', e', st'⟩ := initO X hx hZ hown w1 w2 w3 eh (g := mkF m pc ls (.ref a :: st)) rfl (by rw [hml]; exact hsz) rfl (hb hby hd) hf (W := W) (by show 2 * 0 + _ ≤ _; rw [Nat.mul_zero, Nat.zero_add]; exact hW) hl
  exact Gl.of st' (K T' ⟨_, X', N, e', hn0⟩)
theorem gNew (X : Sd p l e R s m args below meth c n0 T h cells slots) (w : Cx Z own nm bytes maxL ret p s m meth c) {C0 : String} {idx k : Nat} (w1 : (Jvm.Cond.classLink own idx C0).before a0 Z = true) (w2 : (Jvm.Cond.instantiable C0 k).before a0 Z = true) (w3 : (Jvm.Cond.initialized C0).before a0 Z = true) (hd : decode bytes pc = .ok (.new idx, 3)) (hc : cells + 1 ≤ R.cells) (hl : slots + k ≤ R.slots) (hn : pc + 3 = n)
    (K : ∀ T' h' a, a = h.size → n0 ≤ a → Sd p l e R s m args below meth c n0 T' h' (cells + 1) (slots + k) → Ext h h' → Exa Z h' a C0 → (∀ {O nm d : String} {ty : FieldType}, Laid Z a0 C0 O nm d → parseFieldDescriptor d = some ty → Fld Z h' a O nm d (defaultValue ty)) → Gl p e below s n0 P C S (T'.setTop (mkF m n ls (.ref a :: st)))) : Gl p e below s n0 P C S (T.setTop (mkF m pc ls st)) := by
  obtain ⟨locs, X, N, eh, hn0⟩ := X; obtain ⟨hx, hby, hZ, hown, -, hml, -⟩ := w; subst hn
  obtain ⟨T', h', X', e', E', A', D', -, st'⟩ := newO X hx hZ hown w1 w2 w3 eh (g := mkF m pc ls st) rfl (hb hby hd) hc hl
  exact Gl.of st' (K T' h' h.size rfl (Sd.le ⟨_, X, N, eh, hn0⟩) ⟨_, X', N, e', hn0⟩ E' A' D')
theorem gGetF (X : Sd p l e R s m args below meth c n0 T h cells slots) (w : Cx Z own nm bytes maxL ret p s m meth c) {R0 O fn d : String} {idx : Nat} {a : Addr} {v : Value} (w1 : (Jvm.Cond.fieldLink own idx R0 fn d).before a0 Z = true) (via : Via Z R0 O fn d) (F : Fld Z h a O fn d v) (hd : decode bytes pc = .ok (.getfield idx, 3)) (hn : pc + 3 = n)
    (K : ∀ T', Sd p l e R s m args below meth c n0 T' h cells slots → Gl p e below s n0 P C S (T'.setTop (mkF m n ls (v :: st)))) : Gl p e below s n0 P C S (T.setTop (mkF m pc ls (.ref a :: st))) := by
  obtain ⟨locs, X, N, eh, hn0⟩ := X; obtain ⟨hx, hby, hZ, hown, -, hml, -⟩ := w; subst hn
  obtain ⟨T', X', e', st'⟩ := getF X hx hZ hown (host := "") (Or.inl w1) via eh F (g := mkF m pc ls (.ref a :: st)) rfl rfl (hb hby hd)
  exact Gl.of st' (K T' ⟨_, X', N, e', hn0⟩)
theorem gGetS (X : Sd p l e R s m args below meth c n0 T h cells slots) (w : Cx Z own nm bytes maxL ret p s m meth c) {R0 O fn d : String} {idx : Nat} {v : Value} (w1 : (Jvm.Cond.fieldLink own idx R0 fn d).before a0 Z = true) (via : Via Z R0 O fn d) (F : Sta Z h O fn d v) (hd : decode bytes pc = .ok (.getstatic idx, 3)) (hn : pc + 3 = n)
    (K : ∀ T', Sd p l e R s m args below meth c n0 T' h cells slots → Gl p e below s n0 P C S (T'.setTop (mkF m n ls (v :: st)))) : Gl p e below s n0 P C S (T.setTop (mkF m pc ls st)) := by
  obtain ⟨locs, X, N, eh, hn0⟩ := X; obtain ⟨hx, hby, hZ, hown, -, hml, -⟩ := w; subst hn
  obtain ⟨T', X', e', st'⟩ := getS X hx hZ hown (host := "") w1 via eh F (g := mkF m pc ls st) rfl (hb hby hd)
  exact Gl.of st' (K T' ⟨_, X', N, e', hn0⟩)
theorem gPutF (X : Sd p l e R s m args below meth c n0 T h cells slots) (w : Cx Z own nm bytes maxL ret p s m meth c) {R0 O fn d C0 : String} {idx k : Nat} {ty : FieldType} {a : Addr} {v old : Value} (w1 : (Jvm.Cond.fieldLink own idx R0 fn d).before a0 Z = true) (via : Via Z R0 O fn d) (F : Fld Z h a O fn d old) (E : Exa Z h a C0) (hL : (Jvm.Cond.lays C0 O fn d).before a0 Z = true ∨ ((Jvm.Cond.laysFinal C0 O fn d).before a0 Z = true ∧ own = O ∧ nm = "<init>")) (w2 : (Jvm.Cond.instantiable C0 k).before a0 Z = true) (ha : n0 ≤ a)
    (hty : parseFieldDescriptor d = some ty) (hnar : narrow ty v = v) (hfit : fits ty v = true) (hd : decode bytes pc = .ok (.putfield idx, 3)) (hn : pc + 3 = n)
    (K : ∀ T' h', Sd p l e R s m args below meth c n0 T' h' cells slots → Wr h h' a (Jvm.RoadKit.slotOf Z O fn d) v → Gl p e below s n0 P C S (T'.setTop (mkF m n ls st))) : Gl p e below s n0 P C S (T.setTop (mkF m pc ls (v :: .ref a :: st))) := by
  obtain ⟨locs, X, N, eh, hn0⟩ := X; obtain ⟨hx, hby, hZ, hown, hnm, hml, -⟩ := w; subst hn
  obtain ⟨T', h', X', e', W', st'⟩ := putF X hx hZ hown (host := "") (Or.inl w1) via eh F E (hL.imp id fun q => ⟨q.1, q.2.1, hnm.trans q.2.2⟩) w2 hty hnar hfit (g := mkF m pc ls (v :: .ref a :: st)) rfl rfl (hb hby hd)
  exact Gl.of st' (K T' h' ⟨_, X', Fr.snoc X' N ha, e', hn0⟩ W')
/-- an array with its values -/
def Av (Z : State) (h : Heap) (a : Addr) (ty : FieldType) (vs : List Value) : Prop := ∃ c : Cell, Arr Z h a c ty ∧ c.slots = vs.toArray
theorem Av.lt {a : Addr} {ty : FieldType} {vs : List Value} (F : Av Z h a ty vs) : a < h.size := by obtain ⟨c, A, -⟩ := F; exact A.lt
theorem Av.ext {h' : Heap} {a : Addr} {ty : FieldType} {vs : List Value} (F : Av Z h a ty vs) (E : Ext h h') : Av Z h' a ty vs := by obtain ⟨c, A, q⟩ := F; exact ⟨c, A.ext E, q⟩
theorem Av.other {h' : Heap} {a b : Addr} {sl : Nat} {v : Value} {ty : FieldType} {vs : List Value} (F : Av Z h b ty vs) (W : Wr h h' a sl v) (ne : b ≠ a) : Av Z h' b ty vs := by obtain ⟨c, A, q⟩ := F; exact ⟨c, A.other W ne, q⟩
theorem Av.keep {h' : Heap} {a : Addr} {ty : FieldType} {vs : List Value} {ws : List Addr} (F : Av Z h a ty vs) (K : Keep h h' ws) (ne : a ∉ ws) : Av Z h' a ty vs := by obtain ⟨c, A, q⟩ := F; exact ⟨c, ⟨K.2.1 a c A.1 ne, A.2⟩, q⟩
theorem Av.set {h' : Heap} {a : Addr} {sl : Nat} {v : Value} {ty : FieldType} {vs : List Value} (F : Av Z h a ty vs) (W : Wr h h' a sl v) : Av Z h' a ty (vs.set sl v) := by
  obtain ⟨c, A, q⟩ := F
  exact ⟨_, A.same W, by show c.slots.setIfInBounds sl v = _; rw [q]; simp⟩
theorem staKeep {h' : Heap} {O fn d : String} {v : Value} {ws : List Addr} (F : Sta Z h O fn d v) (K : Keep h h' ws) (hp : ∀ x ∈ ws, ∀ c : Cell, h[x]? = some c → c.vm.isStatics = false) : Sta Z h' O fn d v := by
  obtain ⟨cf, i, k, f, st, cell, h1, h2, h3, h4, h5, h6, h7⟩ := F
  exact ⟨cf, i, k, f, st, cell, h1, h2, h3, h4, K.2.1 _ _ h5 (fun q => by rw [hp _ q _ h5] at h6; cases h6), h6, h7⟩
theorem idxIn {j : Int32} {vs : List Value} {c : Cell} (q : c.slots = vs.toArray) (hj : 0 ≤ j.toInt) (hv : j.toInt < vs.length) : ¬ (j < 0 ∨ c.slots.size ≤ j.toNatClampNeg) := by
  have e := XT.negI32 j
  have hc : j.toNatClampNeg = j.toInt.toNat := rfl
  rintro (g | g)
  · have := e.mp g; omega
  · rw [q] at g; simp only [List.size_toArray] at g; omega
theorem gNewP (X : Sd p l e R s m args below meth c n0 T h cells slots) (w : Cx Z own nm bytes maxL ret p s m meth c) {aty : ArrayType} {k : Int32} {cap : Nat} (w1 : (Jvm.Cond.arrayClass (newarray.typeOf aty)).before a0 Z = true) (hd : decode bytes pc = .ok (.newarray aty, 2)) (hk : 0 ≤ k.toInt) (hcap : k.toInt ≤ cap) (hb' : cap * 8 ≤ 536870912) (hc : cells + 1 ≤ R.cells) (hl : slots + cap ≤ R.slots) {vs : List Value} {ty : FieldType} (hvs : List.replicate k.toInt.toNat (defaultValue (newarray.typeOf aty)) = vs) (hty : newarray.typeOf aty = ty) {ad : String} (had : "[" ++ (newarray.typeOf aty).toString = ad) (hn : pc + 2 = n)
    (K : ∀ T' h' a, a = h.size → n0 ≤ a → Sd p l e R s m args below meth c n0 T' h' (cells + 1) (slots + cap) → Ext h h' → Av Z h' a ty vs → Exa Z h' a ad → Gl p e below s n0 P C S (T'.setTop (mkF m n ls (.ref a :: st)))) : Gl p e below s n0 P C S (T.setTop (mkF m pc ls (.int k :: st))) := by
  obtain ⟨locs, X, N, eh, hn0⟩ := X; obtain ⟨hx, hby, hZ, hown, -, hml, -⟩ := w; subst hn hvs hty
  have e := XT.negI32 k
  have hkc : k.toNatClampNeg = k.toInt.toNat := rfl
  obtain ⟨T', h', cA, X', e', E', A', Ex', st'⟩ := newPE X hx hZ w1 eh (g := mkF m pc ls (.int k :: st)) rfl (hb hby hd) rfl (fun g => by have := e.mp g; omega) (cap := cap) (by omega) hb' hc hl had
  exact Gl.of st' (K T' h' h.size rfl (Sd.le ⟨_, X, N, eh, hn0⟩) ⟨_, X', N, e', hn0⟩ E' ⟨_, A', by show Array.replicate _ _ = _; rw [hkc]; simp⟩ Ex')
theorem gClone (X : Sd p l e R s m args below meth c n0 T h cells slots) (w : Cx Z own nm bytes maxL ret p s m meth c) {idx W cap : Nat} {a : Addr} {ad : String} {ty : FieldType} {vs : List Value} (F : Av Z h a ty vs) (E : Exa Z h a ad) (hfit : ∀ v ∈ vs, fits ty v = true) (w1 : (Jvm.Cond.methodLink own idx ⟨ad, "clone", "()Ljava/lang/Object;"⟩).before a0 Z = true) (w2 : (Jvm.Cond.sameMethod ad "java/lang/Object" "clone" "()Ljava/lang/Object;").before a0 Z = true) (w3 : (Jvm.Cond.native ⟨"java/lang/Object", "clone", "()Ljava/lang/Object;"⟩).before a0 Z = true) (w4 : (Jvm.Cond.instanceMethod ⟨"java/lang/Object", "clone", "()Ljava/lang/Object;"⟩).before a0 Z = true) (w5 : (Jvm.Cond.selects ad ⟨ad, "clone", "()Ljava/lang/Object;"⟩ ⟨"java/lang/Object", "clone", "()Ljava/lang/Object;"⟩).before a0 Z = true) (w6 : (Jvm.Cond.castable ad "java/lang/Cloneable").before a0 Z = true)
    (hd : decode bytes pc = .ok (.invokevirtual idx, 3)) (hsz : ls.size = maxL) (hf : 1 ≤ R.frames) (hW : (st.map fun v => v.category).sum ≤ W) (hl : W + 14 ≤ R.locals) (hcap : vs.length ≤ cap) (hc : cells + 1 ≤ R.cells) (hss : slots + cap ≤ R.slots) (hn : pc + 3 = n)
    (K : ∀ T' h' b, b = h.size → n0 ≤ b → Sd p l e R s m args below meth c n0 T' h' (cells + 1) (slots + cap) → Ext h h' → Av Z h' b ty vs → Exa Z h' b ad → Gl p e below s n0 P C S (T'.setTop (mkF m n ls (.ref b :: st)))) : Gl p e below s n0 P C S (T.setTop (mkF m pc ls (.ref a :: st))) := by
  obtain ⟨locs, X, N, eh, hn0⟩ := X; obtain ⟨hx, hby, hZ, hown, -, hml, -⟩ := w; subst hn
  obtain ⟨cl, A, q⟩ := F
  have FC : FitC Z cl := fitC_of A fun i hi v hv => hfit v (by rw [q] at hv; simp only [List.getElem?_toArray] at hv; exact List.mem_of_getElem? hv)
  obtain ⟨T', h', X', e', E', A', Ex', st'⟩ := cloneA X hx hZ hown w1 w2 w3 w4 w5 w6 eh A E FC (g := mkF m pc ls (.ref a :: st)) rfl (by rw [hml]; exact hsz) rfl (hb hby hd) hf (W := W) (cap := cap) (by show 2 * 0 + _ ≤ _; rw [Nat.mul_zero, Nat.zero_add]; exact hW) hl (by rw [q]; simpa using hcap) hc hss
  exact Gl.of st' (K T' h' h.size rfl (Sd.le ⟨_, X, N, eh, hn0⟩) ⟨_, X', N, e', hn0⟩ E' ⟨_, A', q⟩ Ex')
theorem gCast (X : Sd p l e R s m args below meth c n0 T h cells slots) (w : Cx Z own nm bytes maxL ret p s m meth c) {K0 : String} {idx : Nat} {a : Addr} (w1 : (Jvm.Cond.classLink own idx K0).before a0 Z = true) (F : Ins Z h a K0 true) (hd : decode bytes pc = .ok (.checkcast idx, 3)) (hn : pc + 3 = n)
    (K : ∀ T', Sd p l e R s m args below meth c n0 T' h cells slots → Gl p e below s n0 P C S (T'.setTop (mkF m n ls (.ref a :: st)))) : Gl p e below s n0 P C S (T.setTop (mkF m pc ls (.ref a :: st))) := by
  obtain ⟨locs, X, N, eh, hn0⟩ := X; obtain ⟨hx, hby, hZ, hown, -, hml, -⟩ := w; subst hn
  obtain ⟨T', X', e', st'⟩ := castY X hx hZ hown w1 eh F (g := mkF m pc ls (.ref a :: st)) rfl rfl (hb hby hd)
  exact Gl.of st' (K T' ⟨_, X', N, e', hn0⟩)
theorem gInstY (X : Sd p l e R s m args below meth c n0 T h cells slots) (w : Cx Z own nm bytes maxL ret p s m meth c) {K0 : String} {idx : Nat} {a : Addr} (w1 : (Jvm.Cond.classLink own idx K0).before a0 Z = true) (F : Ins Z h a K0 true) (hd : decode bytes pc = .ok (.instanceof idx, 3)) (hn : pc + 3 = n)
    (K : ∀ T', Sd p l e R s m args below meth c n0 T' h cells slots → Gl p e below s n0 P C S (T'.setTop (mkF m n ls (.int 1 :: st)))) : Gl p e below s n0 P C S (T.setTop (mkF m pc ls (.ref a :: st))) := by
  obtain ⟨locs, X, N, eh, hn0⟩ := X; obtain ⟨hx, hby, hZ, hown, -, hml, -⟩ := w; subst hn
  obtain ⟨T', X', e', st'⟩ := instY X hx hZ hown w1 eh F (g := mkF m pc ls (.ref a :: st)) rfl rfl (hb hby hd)
  exact Gl.of st' (K T' ⟨_, X', N, e', hn0⟩)
theorem gIastore (X : Sd p l e R s m args below meth c n0 T h cells slots) (w : Cx Z own nm bytes maxL ret p s m meth c) {a : Addr} {j : Int32} {x : Int32} {z : Value} {vs : List Value} (F : Av Z h a .int vs) (hj : 0 ≤ j.toInt) (hjv : j.toInt < vs.length) (ha : n0 ≤ a) (hz : Value.int x = z) {vs' : List Value} (hvs : vs.set j.toInt.toNat z = vs') (hd : decode bytes pc = .ok (.iastore, 1)) (hn : pc + 1 = n)
    (K : ∀ T' h', Sd p l e R s m args below meth c n0 T' h' cells slots → Wr h h' a j.toInt.toNat z → Av Z h' a .int vs' → Gl p e below s n0 P C S (T'.setTop (mkF m n ls st))) : Gl p e below s n0 P C S (T.setTop (mkF m pc ls (.int x :: .int j :: .ref a :: st))) := by
  obtain ⟨locs, X, N, eh, hn0⟩ := X; obtain ⟨hx, hby, hZ, hown, hnm, hml, -⟩ := w; subst hn hz hvs
  obtain ⟨cl, A, q⟩ := F
  obtain ⟨T', h', X', e', W', st'⟩ := stI X hx hZ eh A (j := j) (idxIn q hj hjv) (g := mkF m pc ls (.int x :: .int j :: .ref a :: st)) rfl rfl (hb hby hd)
  exact Gl.of st' (K T' h' ⟨_, X', Fr.snoc X' N ha, e', hn0⟩ W' (Av.set ⟨cl, A, q⟩ W'))
theorem gLastore (X : Sd p l e R s m args below meth c n0 T h cells slots) (w : Cx Z own nm bytes maxL ret p s m meth c) {a : Addr} {j : Int32} {x : Int64} {z : Value} {vs : List Value} (F : Av Z h a .long vs) (hj : 0 ≤ j.toInt) (hjv : j.toInt < vs.length) (ha : n0 ≤ a) (hz : Value.long x = z) {vs' : List Value} (hvs : vs.set j.toInt.toNat z = vs') (hd : decode bytes pc = .ok (.lastore, 1)) (hn : pc + 1 = n)
    (K : ∀ T' h', Sd p l e R s m args below meth c n0 T' h' cells slots → Wr h h' a j.toInt.toNat z → Av Z h' a .long vs' → Gl p e below s n0 P C S (T'.setTop (mkF m n ls st))) : Gl p e below s n0 P C S (T.setTop (mkF m pc ls (.long x :: .int j :: .ref a :: st))) := by
  obtain ⟨locs, X, N, eh, hn0⟩ := X; obtain ⟨hx, hby, hZ, hown, hnm, hml, -⟩ := w; subst hn hz hvs
  obtain ⟨cl, A, q⟩ := F
  obtain ⟨T', h', X', e', W', st'⟩ := stJ X hx hZ eh A (j := j) (idxIn q hj hjv) (g := mkF m pc ls (.long x :: .int j :: .ref a :: st)) rfl rfl (hb hby hd)
  exact Gl.of st' (K T' h' ⟨_, X', Fr.snoc X' N ha, e', hn0⟩ W' (Av.set ⟨cl, A, q⟩ W'))
theorem gCastore (X : Sd p l e R s m args below meth c n0 T h cells slots) (w : Cx Z own nm bytes maxL ret p s m meth c) {a : Addr} {j : Int32} {x : Int32} {z : Value} {vs : List Value} (F : Av Z h a .char vs) (hj : 0 ≤ j.toInt) (hjv : j.toInt < vs.length) (ha : n0 ≤ a) (hz : Value.int (nar .char x) = z) {vs' : List Value} (hvs : vs.set j.toInt.toNat z = vs') (hd : decode bytes pc = .ok (.castore, 1)) (hn : pc + 1 = n)
    (K : ∀ T' h', Sd p l e R s m args below meth c n0 T' h' cells slots → Wr h h' a j.toInt.toNat z → Av Z h' a .char vs' → Gl p e below s n0 P C S (T'.setTop (mkF m n ls st))) : Gl p e below s n0 P C S (T.setTop (mkF m pc ls (.int x :: .int j :: .ref a :: st))) := by
  obtain ⟨locs, X, N, eh, hn0⟩ := X; obtain ⟨hx, hby, hZ, hown, hnm, hml, -⟩ := w; subst hn hz hvs
  obtain ⟨cl, A, q⟩ := F
  obtain ⟨T', h', X', e', W', st'⟩ := stC X hx hZ eh A (j := j) (idxIn q hj hjv) (g := mkF m pc ls (.int x :: .int j :: .ref a :: st)) rfl rfl (hb hby hd)
  exact Gl.of st' (K T' h' ⟨_, X', Fr.snoc X' N ha, e', hn0⟩ W' (Av.set ⟨cl, A, q⟩ W'))
theorem gBastore (X : Sd p l e R s m args below meth c n0 T h cells slots) (w : Cx Z own nm bytes maxL ret p s m meth c) {a : Addr} {j : Int32} {x : Int32} {z : Value} {vs : List Value} (F : Av Z h a .byte vs) (hj : 0 ≤ j.toInt) (hjv : j.toInt < vs.length) (ha : n0 ≤ a) (hz : Value.int (nar .byte x) = z) {vs' : List Value} (hvs : vs.set j.toInt.toNat z = vs') (hd : decode bytes pc = .ok (.bastore, 1)) (hn : pc + 1 = n)
    (K : ∀ T' h', Sd p l e R s m args below meth c n0 T' h' cells slots → Wr h h' a j.toInt.toNat z → Av Z h' a .byte vs' → Gl p e below s n0 P C S (T'.setTop (mkF m n ls st))) : Gl p e below s n0 P C S (T.setTop (mkF m pc ls (.int x :: .int j :: .ref a :: st))) := by
  obtain ⟨locs, X, N, eh, hn0⟩ := X; obtain ⟨hx, hby, hZ, hown, hnm, hml, -⟩ := w; subst hn hz hvs
  obtain ⟨cl, A, q⟩ := F
  obtain ⟨T', h', X', e', W', st'⟩ := stB X hx hZ eh A (j := j) (idxIn q hj hjv) (g := mkF m pc ls (.int x :: .int j :: .ref a :: st)) rfl rfl (hb hby hd)
  exact Gl.of st' (K T' h' ⟨_, X', Fr.snoc X' N ha, e', hn0⟩ W' (Av.set ⟨cl, A, q⟩ W'))
theorem gIaload (X : Sd p l e R s m args below meth c n0 T h cells slots) (w : Cx Z own nm bytes maxL ret p s m meth c) {a : Addr} {j : Int32} {v : Value} {vs : List Value} (F : Av Z h a .int vs) (hj : 0 ≤ j.toInt) (hv : vs[j.toInt.toNat]? = some v) (hd : decode bytes pc = .ok (.iaload, 1)) (hn : pc + 1 = n) (K : Gl p e below s n0 P C S (T.setTop (mkF m n ls (v :: st)))) : Gl p e below s n0 P C S (T.setTop (mkF m pc ls (.int j :: .ref a :: st))) := by
  obtain ⟨locs, X, N, eh, hn0⟩ := X; obtain ⟨hx, hby, hZ, hown, hnm, hml, -⟩ := w; subst hn
  obtain ⟨cl, A, q⟩ := F
  have hlt : j.toInt.toNat < vs.length := (List.getElem?_eq_some_iff.mp hv).1
  exact Gl.of (fun t k => X.iaload hx (j := j) (v := v) (by rw [eh]; exact A.1) (State.isArrayOf_alike hZ.alike A.2.1) A.2.2 (idxIn q hj (by omega)) (by rw [q]; show vs.toArray[j.toInt.toNat]? = _; simpa using hv) (g := mkF m pc ls (.int j :: .ref a :: st)) rfl rfl (hb hby hd) _ k) K
theorem gCaload (X : Sd p l e R s m args below meth c n0 T h cells slots) (w : Cx Z own nm bytes maxL ret p s m meth c) {a : Addr} {j : Int32} {v : Value} {vs : List Value} (F : Av Z h a .char vs) (hj : 0 ≤ j.toInt) (hv : vs[j.toInt.toNat]? = some v) (hd : decode bytes pc = .ok (.caload, 1)) (hn : pc + 1 = n) (K : Gl p e below s n0 P C S (T.setTop (mkF m n ls (v :: st)))) : Gl p e below s n0 P C S (T.setTop (mkF m pc ls (.int j :: .ref a :: st))) := by
  obtain ⟨locs, X, N, eh, hn0⟩ := X; obtain ⟨hx, hby, hZ, hown, hnm, hml, -⟩ := w; subst hn
  obtain ⟨cl, A, q⟩ := F
  have hlt : j.toInt.toNat < vs.length := (List.getElem?_eq_some_iff.mp hv).1
  exact Gl.of (fun t k => X.caload hx (j := j) (v := v) (by rw [eh]; exact A.1) (State.isArrayOf_alike hZ.alike A.2.1) A.2.2 (idxIn q hj (by omega)) (by rw [q]; show vs.toArray[j.toInt.toNat]? = _; simpa using hv) (g := mkF m pc ls (.int j :: .ref a :: st)) rfl rfl (hb hby hd) _ k) K
theorem gBaload (X : Sd p l e R s m args below meth c n0 T h cells slots) (w : Cx Z own nm bytes maxL ret p s m meth c) {a : Addr} {j : Int32} {v : Value} {vs : List Value} (F : Av Z h a .byte vs) (hj : 0 ≤ j.toInt) (hv : vs[j.toInt.toNat]? = some v) (hd : decode bytes pc = .ok (.baload, 1)) (hn : pc + 1 = n) (K : Gl p e below s n0 P C S (T.setTop (mkF m n ls (v :: st)))) : Gl p e below s n0 P C S (T.setTop (mkF m pc ls (.int j :: .ref a :: st))) := by
  obtain ⟨locs, X, N, eh, hn0⟩ := X; obtain ⟨hx, hby, hZ, hown, hnm, hml, -⟩ := w; subst hn
  obtain ⟨cl, A, q⟩ := F
  have hlt : j.toInt.toNat < vs.length := (List.getElem?_eq_some_iff.mp hv).1
  exact Gl.of (fun t k => X.baloadBytes hx (j := j) (v := v) (by rw [eh]; exact A.1) (State.isArrayOf_alike hZ.alike A.2.1) A.2.2 (idxIn q hj (by omega)) (by rw [q]; show vs.toArray[j.toInt.toNat]? = _; simpa using hv) (g := mkF m pc ls (.int j :: .ref a :: st)) rfl rfl (hb hby hd) _ k) K
theorem gLaload (X : Sd p l e R s m args below meth c n0 T h cells slots) (w : Cx Z own nm bytes maxL ret p s m meth c) {a : Addr} {j : Int32} {v : Value} {vs : List Value} (F : Av Z h a .long vs) (hj : 0 ≤ j.toInt) (hv : vs[j.toInt.toNat]? = some v) (hd : decode bytes pc = .ok (.laload, 1)) (hn : pc + 1 = n) (K : Gl p e below s n0 P C S (T.setTop (mkF m n ls (v :: st)))) : Gl p e below s n0 P C S (T.setTop (mkF m pc ls (.int j :: .ref a :: st))) := by
  obtain ⟨locs, X, N, eh, hn0⟩ := X; obtain ⟨hx, hby, hZ, hown, hnm, hml, -⟩ := w; subst hn
  obtain ⟨cl, A, q⟩ := F
  have hlt : j.toInt.toNat < vs.length := (List.getElem?_eq_some_iff.mp hv).1
  exact Gl.of (fun t k => X.laload hx (j := j) (v := v) (by rw [eh]; exact A.1) (State.isArrayOf_alike hZ.alike A.2.1) A.2.2 (idxIn q hj (by omega)) (by rw [q]; show vs.toArray[j.toInt.toNat]? = _; simpa using hv) (g := mkF m pc ls (.int j :: .ref a :: st)) rfl rfl (hb hby hd) _ k) K
theorem Av.arv {a : Addr} {ty : FieldType} {vs : List Value} (dv : Value) (F : Av Z h a ty vs) (hf : ∀ v ∈ vs, fits ty v = true) (hl : vs.length < 2 ^ 31) : ∃ k, Arv Z h a k ty vs.length.toInt32 vs dv := by
  obtain ⟨c, A, q⟩ := F
  have hz : vs.length.toInt32.toInt = vs.length := len_toInt hl
  have hc : vs.length.toInt32.toNatClampNeg = vs.length := by show vs.length.toInt32.toInt.toNat = _; rw [hz]; rfl
  have hs : c.slots.size = vs.length := by rw [q]; simp
  refine ⟨c.cls, c, A, rfl, by rw [hc, hs], fun g => by have := (XT.negI32 _).mp g; omega, fun i hi => ?_, fun i hi => ?_⟩
  · rw [hs] at hi; rw [q]; simp [hi]
  · rw [hs] at hi; rw [List.getD_eq_getElem?_getD, List.getElem?_eq_getElem hi]; exact hf _ (List.getElem_mem hi)
theorem avOf {a : Addr} {k : ClassId} {ty : FieldType} {z : Int32} {vs : List Value} {dv : Value} (F : Arv Z h a k ty z vs dv) (hl : z.toNatClampNeg = vs.length) : Av Z h a ty vs := by
  obtain ⟨c, A, -, S, -, H, -⟩ := F
  refine ⟨c, A, Array.ext_getElem? fun i => ?_⟩
  by_cases hi : i < c.slots.size
  · rw [H i hi]; rw [S, hl] at hi; simp [hi]
  · rw [Array.getElem?_eq_none (by omega)]; rw [S, hl] at hi; simp; omega
theorem gAcopy (X : Sd p l e R s m args below meth c n0 T h cells slots) (w : Cx Z own nm bytes maxL ret p s m meth c) {idx W : Nat} {a b : Addr} {ty : FieldType} {va vb vs' : List Value} {sp dp nn : Int32} (dv : Value) (A : Av Z h a ty va) (B : Av Z h b ty vb) (hty : refKind ty = false) (fa : ∀ v ∈ va, fits ty v = true) (fb : ∀ v ∈ vb, fits ty v = true) (la : va.length < 2 ^ 31) (lb : vb.length < 2 ^ 31)
    (w1 : (Jvm.Cond.methodLink own idx Jvm.Stand.acN).before a0 Z = true) (w2 : (Jvm.Cond.native Jvm.Stand.acN).before a0 Z = true) (w3 : (Jvm.Cond.static Jvm.Stand.acN).before a0 Z = true) (w4 : (Jvm.Cond.initialized "java/lang/System").before a0 Z = true)
    (h1 : 0 ≤ sp.toInt) (h2 : 0 ≤ dp.toInt) (h3 : 0 ≤ nn.toInt) (h4 : sp.toInt + nn.toInt ≤ va.length) (h5 : dp.toInt + nn.toInt ≤ vb.length) (hvs : vb.take dp.toInt.toNat ++ ((List.range nn.toInt.toNat).map fun i => va.getD (sp.toInt.toNat + i) dv) ++ vb.drop (dp.toInt.toNat + nn.toInt.toNat) = vs') (ge : n0 ≤ b)
    (hd : decode bytes pc = .ok (.invokestatic idx, 3)) (hsz : ls.size = maxL) (hf : 1 ≤ R.frames) (hW : (st.map fun v => v.category).sum ≤ W) (hl : W + (nativeFrameWords "java/lang/System" "arraycopy" 5 + 11) ≤ R.locals) (hn : pc + 3 = n)
    (K : ∀ T' h', Sd p l e R s m args below meth c n0 T' h' cells slots → Keep h h' [b] → Av Z h' b ty vs' → Gl p e below s n0 P C S (T'.setTop (mkF m n ls st))) : Gl p e below s n0 P C S (T.setTop (mkF m pc ls (.int nn :: .int dp :: .ref b :: .int sp :: .ref a :: st))) := by
  obtain ⟨locs, X, N, eh, hn0⟩ := X; obtain ⟨hx, hby, hZ, hown, -, hml, -⟩ := w; subst hn hvs
  obtain ⟨ka, A⟩ := A.arv dv fa la
  obtain ⟨kb, B⟩ := B.arv dv fb lb
  have za : va.length.toInt32.toNatClampNeg = va.length := by show va.length.toInt32.toInt.toNat = _; rw [len_toInt la]; rfl
  have zb : vb.length.toInt32.toNatClampNeg = vb.length := by show vb.length.toInt32.toInt.toNat = _; rw [len_toInt lb]; rfl
  have n1 : ¬ sp < 0 := fun g => by have := (XT.negI32 _).mp g; omega
  have n2 : ¬ dp < 0 := fun g => by have := (XT.negI32 _).mp g; omega
  have n3 : ¬ nn < 0 := fun g => by have := (XT.negI32 _).mp g; omega
  have e1 : sp.toNatClampNeg = sp.toInt.toNat := rfl
  have e2 : dp.toNatClampNeg = dp.toInt.toNat := rfl
  have e3 : nn.toNatClampNeg = nn.toInt.toNat := rfl
  obtain ⟨T', h', L, X', e', N', K', B', st'⟩ := cpA X hx hZ hown w1 w2 w3 w4 eh A B (Or.inl ⟨rfl, hty⟩) n1 n2 n3 (by rw [za, e1, e3]; omega) (by rw [zb, e2, e3]; omega) rfl (by rw [e2, e3]; omega) N ge (g := mkF m pc ls (.int nn :: .int dp :: .ref b :: .int sp :: .ref a :: st)) rfl (by rw [hml]; exact hsz) rfl (hb hby hd) hf (W := W) (by show 2 * 0 + _ ≤ _; rw [Nat.mul_zero, Nat.zero_add]; exact hW) hl
  exact Gl.of st' (K T' h' ⟨L, X', N', e', hn0⟩ K' (avOf B' (by rw [zb, List.length_append, List.length_append, List.length_take, List.length_map, List.length_range, List.length_drop]; omega)))
theorem gAlen (X : Sd p l e R s m args below meth c n0 T h cells slots) (w : Cx Z own nm bytes maxL ret p s m meth c) {a : Addr} {ty : FieldType} {vs : List Value} {z : Int32} (F : Av Z h a ty vs) (hz : vs.length.toInt32 = z) (hd : decode bytes pc = .ok (.arraylength, 1)) (hn : pc + 1 = n) (K : Gl p e below s n0 P C S (T.setTop (mkF m n ls (.int z :: st)))) : Gl p e below s n0 P C S (T.setTop (mkF m pc ls (.ref a :: st))) := by
  obtain ⟨locs, X, N, eh, hn0⟩ := X; obtain ⟨hx, hby, hZ, hown, hnm, hml, -⟩ := w; subst hn hz
  obtain ⟨cl, A, q⟩ := F
  have hs : cl.slots.size = vs.length := by rw [q]; simp
  rw [← hs] at K
  exact Gl.of (fun t k => X.arraylength hx (by rw [eh]; exact A.1) (State.isArrayOf_alike hZ.alike A.2.1) (g := mkF m pc ls (.ref a :: st)) rfl rfl (hb hby hd) _ k) K
theorem eqR {args : Array Value} {s : State} {t u : Term} {b : Addr} (hu : u.eval args s none [] s = some (.ref b)) (h : (Jvm.Cond.eq t u).value args s none s [] = some true) : t.eval args s none [] s = some (.ref b) := by
  obtain ⟨x, y, hx, hy, k1, k2⟩ := cmp_v (Or.inl h)
  cases hu.symm.trans hy
  obtain ⟨-, q⟩ := (k2 : (Value.ref b).isRef = true ∧ x.isRef = true)
  have e := gotT (eq_R hx hy q rfl) h
  rw [hx, e]
theorem eqI {args : Array Value} {s : State} {t u : Term} {z : Int32} (hu : u.eval args s none [] s = some (.int z)) (h : (Jvm.Cond.eq t u).value args s none s [] = some true) : t.eval args s none [] s = some (.int z) := by
  obtain ⟨x, y, hx, hy, k1, k2⟩ := cmp_v (Or.inl h)
  cases hu.symm.trans hy
  obtain ⟨x', rfl⟩ := (k2 : ∃ z', x = .int z')
  have e : some (decide (x' = z)) = some true := by rw [← h]; simp [Cond.value, hx, hy]
  have e' : x' = z := by simpa using e
  rw [hx, e']
theorem mask31 (x : Int32) : (x &&& 2147483647).toInt = x.toInt % 2147483648 := c_mask x 2147483647 31 (by decide) (by decide)
theorem irem_pos {x y : Int32} (hx : 0 ≤ x.toInt) : (x % y).toInt = x.toInt % y.toInt := (c_irem x y _ rfl).1 hx
theorem lrem_pos {x y : Int64} (hx : 0 ≤ x.toInt) : (x % y).toInt = x.toInt % y.toInt := by rw [← lrem_mod]; exact (c_lrem x y _ rfl).1 hx
theorem ne0I {x : Int32} (h : x.toInt ≠ 0) : x ≠ 0 := fun e => h (by rw [e]; rfl)
theorem ne0L {x : Int64} (h : x.toInt ≠ 0) : x ≠ 0 := fun e => h (by rw [e]; rfl)
theorem iadd_toInt {x y : Int32} (h1 : -2147483648 ≤ x.toInt + y.toInt) (h2 : x.toInt + y.toInt < 2147483648) : (x + y).toInt = x.toInt + y.toInt := XT.add32 ⟨by omega, by omega⟩
theorem isub_toInt {x y : Int32} (h1 : -2147483648 ≤ x.toInt - y.toInt) (h2 : x.toInt - y.toInt < 2147483648) : (x - y).toInt = x.toInt - y.toInt := XT.sub32 ⟨by omega, by omega⟩
theorem ladd_toInt {x y : Int64} (h1 : -9223372036854775808 ≤ x.toInt + y.toInt) (h2 : x.toInt + y.toInt < 9223372036854775808) : (x + y).toInt = x.toInt + y.toInt := XT.add64 ⟨by omega, by omega⟩
theorem lsub_toInt {x y : Int64} (h1 : -9223372036854775808 ≤ x.toInt - y.toInt) (h2 : x.toInt - y.toInt < 9223372036854775808) : (x - y).toInt = x.toInt - y.toInt := XT.sub64 ⟨by omega, by omega⟩
theorem l2i_toInt {x : Int64} (h1 : -2147483648 ≤ x.toInt) (h2 : x.toInt < 2147483648) : x.toInt32.toInt = x.toInt := XT.narrowInt ⟨by omega, by omega⟩
end Walk
end Jvm.OwnWalk
namespace Jvm.Pilot.@@N@@
open Jvm Jvm.ClassFile Sem Op Lib Jvm.Free Jvm.Stand Jvm.LawKit Jvm.RoadKit Bundle Jvm.OwnWalk Jvm.Pilot.@@N@@.Jvm.D
theorem own_wd {a0 : Array Value} {Z : State} (hw : ∀ d ∈ tables_1, d.before a0 Z = true) (i : Nat) {d : Jvm.Cond} (q : tables_1[i]? = some d) : d.before a0 Z = true := hw _ (List.mem_of_getElem? q)
theorem d1_0 : decode prog_5_method_4_code 0 = .ok (.iload_n 0, 1) := by decide +kernel
theorem d1_1 : decode prog_5_method_4_code 1 = .ok (.ifCond .eq 20, 3) := by decide +kernel
theorem d1_4 : decode prog_5_method_4_code 4 = .ok (.iload_n 1, 1) := by decide +kernel
theorem d1_5 : decode prog_5_method_4_code 5 = .ok (.ifCond .eq 9, 3) := by decide +kernel
theorem d1_8 : decode prog_5_method_4_code 8 = .ok (.getstatic 10, 3) := by decide +kernel
theorem d1_11 : decode prog_5_method_4_code 11 = .ok (.goto 6, 3) := by decide +kernel
theorem d1_14 : decode prog_5_method_4_code 14 = .ok (.getstatic 3, 3) := by decide +kernel
theorem d1_17 : decode prog_5_method_4_code 17 = .ok (.astore_n 2, 1) := by decide +kernel
theorem d1_18 : decode prog_5_method_4_code 18 = .ok (.goto 17, 3) := by decide +kernel
theorem d1_21 : decode prog_5_method_4_code 21 = .ok (.iload_n 1, 1) := by decide +kernel
theorem d1_22 : decode prog_5_method_4_code 22 = .ok (.ifCond .eq 9, 3) := by decide +kernel
theorem d1_25 : decode prog_5_method_4_code 25 = .ok (.getstatic 13, 3) := by decide +kernel
theorem d1_28 : decode prog_5_method_4_code 28 = .ok (.goto 6, 3) := by decide +kernel
theorem d1_31 : decode prog_5_method_4_code 31 = .ok (.getstatic 7, 3) := by decide +kernel
theorem d1_34 : decode prog_5_method_4_code 34 = .ok (.astore_n 2, 1) := by decide +kernel
theorem d1_35 : decode prog_5_method_4_code 35 = .ok (.aload_n 2, 1) := by decide +kernel
theorem d1_36 : decode prog_5_method_4_code 36 = .ok (.areturn, 1) := by decide +kernel
theorem d2_0 : decode prog_5_method_6_code 0 = .ok (.aload_n 0, 1) := by decide +kernel
theorem d2_1 : decode prog_5_method_6_code 1 = .ok (.getfield 35, 3) := by decide +kernel
theorem d2_4 : decode prog_5_method_6_code 4 = .ok (.getstatic 43, 3) := by decide +kernel
theorem d2_7 : decode prog_5_method_6_code 7 = .ok (.if_acmp .ne 7, 3) := by decide +kernel
theorem d2_10 : decode prog_5_method_6_code 10 = .ok (.iconst 1, 1) := by decide +kernel
theorem d2_11 : decode prog_5_method_6_code 11 = .ok (.goto 4, 3) := by decide +kernel
theorem d2_14 : decode prog_5_method_6_code 14 = .ok (.iconst 0, 1) := by decide +kernel
theorem d2_15 : decode prog_5_method_6_code 15 = .ok (.ireturn, 1) := by decide +kernel
theorem d3_0 : decode prog_5_method_7_code 0 = .ok (.aload_n 0, 1) := by decide +kernel
theorem d3_1 : decode prog_5_method_7_code 1 = .ok (.getfield 39, 3) := by decide +kernel
theorem d3_4 : decode prog_5_method_7_code 4 = .ok (.ireturn, 1) := by decide +kernel
theorem d4_0 : decode prog_5_method_5_code 0 = .ok (.aload_n 0, 1) := by decide +kernel
theorem d4_1 : decode prog_5_method_5_code 1 = .ok (.getfield 35, 3) := by decide +kernel
theorem d4_4 : decode prog_5_method_5_code 4 = .ok (.areturn, 1) := by decide +kernel
theorem own_pd0 : parseMethodDescriptor "(ZZ)Lcom/example/reja/reja/Precedence;" = some ⟨[.boolean, .boolean], some (.object "com/example/reja/reja/Precedence")⟩ := by decide +kernel
theorem own_pd1 : parseMethodDescriptor "()Z" = some ⟨[], some .boolean⟩ := by decide +kernel
theorem own_pd2 : parseMethodDescriptor "()Lcom/example/reja/reja/Decision;" = some ⟨[], some (.object "com/example/reja/reja/Decision")⟩ := by decide +kernel
def own_env (Z : State) (h : Heap) (sWEAK_PERMIT sALLOW sDENY sSTRONG_PERMIT sWEAK_PROHIBITION sSTRONG_PROHIBITION : Addr) : Prop := Sta Z h "com/example/reja/reja/Precedence" "WEAK_PERMIT" "Lcom/example/reja/reja/Precedence;" (.ref sWEAK_PERMIT) ∧ Exa Z h sWEAK_PERMIT "com/example/reja/reja/Precedence" ∧ Sta Z h "com/example/reja/reja/Decision" "ALLOW" "Lcom/example/reja/reja/Decision;" (.ref sALLOW) ∧ Exa Z h sALLOW "com/example/reja/reja/Decision" ∧ Sta Z h "com/example/reja/reja/Decision" "DENY" "Lcom/example/reja/reja/Decision;" (.ref sDENY) ∧ Exa Z h sDENY "com/example/reja/reja/Decision" ∧ Sta Z h "com/example/reja/reja/Precedence" "STRONG_PERMIT" "Lcom/example/reja/reja/Precedence;" (.ref sSTRONG_PERMIT) ∧ Exa Z h sSTRONG_PERMIT "com/example/reja/reja/Precedence" ∧ Sta Z h "com/example/reja/reja/Precedence" "WEAK_PROHIBITION" "Lcom/example/reja/reja/Precedence;" (.ref sWEAK_PROHIBITION) ∧ Exa Z h sWEAK_PROHIBITION "com/example/reja/reja/Precedence" ∧ Sta Z h "com/example/reja/reja/Precedence" "STRONG_PROHIBITION" "Lcom/example/reja/reja/Precedence;" (.ref sSTRONG_PROHIBITION) ∧ Exa Z h sSTRONG_PROHIBITION "com/example/reja/reja/Precedence" ∧ Fld Z h sWEAK_PERMIT "com/example/reja/reja/Precedence" "decision" "Lcom/example/reja/reja/Decision;" (.ref sALLOW) ∧ Fld Z h sALLOW "java/lang/Enum" "ordinal" "I" (.int (0 : Int32)) ∧ Fld Z h sDENY "java/lang/Enum" "ordinal" "I" (.int (1 : Int32)) ∧ Fld Z h sWEAK_PERMIT "com/example/reja/reja/Precedence" "weak" "Z" (.int (1 : Int32)) ∧ Fld Z h sSTRONG_PERMIT "com/example/reja/reja/Precedence" "decision" "Lcom/example/reja/reja/Decision;" (.ref sALLOW) ∧ Fld Z h sSTRONG_PERMIT "com/example/reja/reja/Precedence" "weak" "Z" (.int (0 : Int32)) ∧ Fld Z h sWEAK_PROHIBITION "com/example/reja/reja/Precedence" "decision" "Lcom/example/reja/reja/Decision;" (.ref sDENY) ∧ Fld Z h sWEAK_PROHIBITION "com/example/reja/reja/Precedence" "weak" "Z" (.int (1 : Int32)) ∧ Fld Z h sSTRONG_PROHIBITION "com/example/reja/reja/Precedence" "decision" "Lcom/example/reja/reja/Decision;" (.ref sDENY) ∧ Fld Z h sSTRONG_PROHIBITION "com/example/reja/reja/Precedence" "weak" "Z" (.int (0 : Int32))
set_option maxRecDepth 65536 in
set_option maxHeartbeats 40000000 in
theorem own_proh_sSTRONG_PERMIT (l : Launch) (Z : State) (a0 : Array Value) (hw : ∀ d ∈ tables_1, d.before a0 Z = true) (sWEAK_PERMIT sALLOW sDENY sSTRONG_PERMIT sWEAK_PROHIBITION sSTRONG_PROHIBITION : Addr) (h0 : Heap) (n0 : Nat) (hn : n0 ≤ h0.size) (G : own_env Z h0 sWEAK_PERMIT sALLOW sDENY sSTRONG_PERMIT sWEAK_PROHIBITION sSTRONG_PROHIBITION) :
    ConV l Z (⟨"com/example/reja/reja/Precedence", "prohibits", "()Z"⟩ : MethodName) prog_5_method_6_code 1 (some .boolean) ({ frames := 0, cells := 0, slots := 0, locals := 0 } : Room) #[(.ref sSTRONG_PERMIT)] h0 n0 (fun v h => h0 = h ∧ v = .int 0) := by
  refine Con.of (plainFor_of_name (by first | (simp [plainName, overriddenIn]; done) | decide +kernel)) hn ?_
  intro p e s m below meth c T w X
  refine Gl.enter (ls := #[.val (.ref sSTRONG_PERMIT)]) (by first | rfl | (simp [entryFrame, mkF, argsToLocals, Value.category]; done)) ?_
  obtain ⟨S_sWEAK_PERMIT, E_sWEAK_PERMIT, S_sALLOW, E_sALLOW, S_sDENY, E_sDENY, S_sSTRONG_PERMIT, E_sSTRONG_PERMIT, S_sWEAK_PROHIBITION, E_sWEAK_PROHIBITION, S_sSTRONG_PROHIBITION, E_sSTRONG_PROHIBITION, L_sWEAK_PERMIT_decision, L_sALLOW_ordinal, L_sDENY_ordinal, L_sWEAK_PERMIT_weak, L_sSTRONG_PERMIT_decision, L_sSTRONG_PERMIT_weak, L_sWEAK_PROHIBITION_decision, L_sWEAK_PROHIBITION_weak, L_sSTRONG_PROHIBITION_decision, L_sSTRONG_PROHIBITION_weak⟩ := id G
  have ne_sALLOW_sDENY : sALLOW ≠ sDENY := L_sALLOW_ordinal.ne L_sDENY_ordinal (by decide)
  refine gAloadN X w d2_0 rfl rfl (n := 1) rfl ?_
  refine gGetF X w (own_wd hw 11 rfl) Via.refl L_sSTRONG_PERMIT_decision d2_1 (n := 4) rfl ?_
  intro T X
  refine gGetS X w (own_wd hw 15 rfl) Via.refl S_sDENY d2_4 (n := 7) rfl ?_
  intro T X
  refine gAcmp_ne X w d2_7 rfl rfl (n := 14) (n' := 10) (by decide) rfl rfl ?_ ?_
  · intro c7
    refine gIconst X w d2_14 (z := (0 : Int32)) rfl (n := 15) rfl ?_
    exact gRetZ X w rfl (Or.inl rfl) d2_15 (by decide) (by decide) (⟨_, rfl, rfl, rfl⟩)
  · intro c7
    exact absurd (Value.ref.inj c7) ne_sALLOW_sDENY
set_option maxRecDepth 65536 in
set_option maxHeartbeats 40000000 in
theorem own_weak_sSTRONG_PERMIT (l : Launch) (Z : State) (a0 : Array Value) (hw : ∀ d ∈ tables_1, d.before a0 Z = true) (sWEAK_PERMIT sALLOW sDENY sSTRONG_PERMIT sWEAK_PROHIBITION sSTRONG_PROHIBITION : Addr) (h0 : Heap) (n0 : Nat) (hn : n0 ≤ h0.size) (G : own_env Z h0 sWEAK_PERMIT sALLOW sDENY sSTRONG_PERMIT sWEAK_PROHIBITION sSTRONG_PROHIBITION) :
    ConV l Z (⟨"com/example/reja/reja/Precedence", "weak", "()Z"⟩ : MethodName) prog_5_method_7_code 1 (some .boolean) ({ frames := 0, cells := 0, slots := 0, locals := 0 } : Room) #[(.ref sSTRONG_PERMIT)] h0 n0 (fun v h => h0 = h ∧ v = .int 0) := by
  refine Con.of (plainFor_of_name (by first | (simp [plainName, overriddenIn]; done) | decide +kernel)) hn ?_
  intro p e s m below meth c T w X
  refine Gl.enter (ls := #[.val (.ref sSTRONG_PERMIT)]) (by first | rfl | (simp [entryFrame, mkF, argsToLocals, Value.category]; done)) ?_
  obtain ⟨S_sWEAK_PERMIT, E_sWEAK_PERMIT, S_sALLOW, E_sALLOW, S_sDENY, E_sDENY, S_sSTRONG_PERMIT, E_sSTRONG_PERMIT, S_sWEAK_PROHIBITION, E_sWEAK_PROHIBITION, S_sSTRONG_PROHIBITION, E_sSTRONG_PROHIBITION, L_sWEAK_PERMIT_decision, L_sALLOW_ordinal, L_sDENY_ordinal, L_sWEAK_PERMIT_weak, L_sSTRONG_PERMIT_decision, L_sSTRONG_PERMIT_weak, L_sWEAK_PROHIBITION_decision, L_sWEAK_PROHIBITION_weak, L_sSTRONG_PROHIBITION_decision, L_sSTRONG_PROHIBITION_weak⟩ := id G
  have ne_sALLOW_sDENY : sALLOW ≠ sDENY := L_sALLOW_ordinal.ne L_sDENY_ordinal (by decide)
  refine gAloadN X w d3_0 rfl rfl (n := 1) rfl ?_
  refine gGetF X w (own_wd hw 22 rfl) Via.refl L_sSTRONG_PERMIT_weak d3_1 (n := 4) rfl ?_
  intro T X
  exact gRetZ X w rfl (Or.inl rfl) d3_4 (by decide) (by decide) (⟨_, rfl, rfl, rfl⟩)
set_option maxRecDepth 65536 in
set_option maxHeartbeats 40000000 in
theorem own_dec_sSTRONG_PERMIT (l : Launch) (Z : State) (a0 : Array Value) (hw : ∀ d ∈ tables_1, d.before a0 Z = true) (sWEAK_PERMIT sALLOW sDENY sSTRONG_PERMIT sWEAK_PROHIBITION sSTRONG_PROHIBITION : Addr) (h0 : Heap) (n0 : Nat) (hn : n0 ≤ h0.size) (G : own_env Z h0 sWEAK_PERMIT sALLOW sDENY sSTRONG_PERMIT sWEAK_PROHIBITION sSTRONG_PROHIBITION) :
    ConV l Z (⟨"com/example/reja/reja/Precedence", "decision", "()Lcom/example/reja/reja/Decision;"⟩ : MethodName) prog_5_method_5_code 1 (some (.object "com/example/reja/reja/Decision")) ({ frames := 0, cells := 0, slots := 0, locals := 0 } : Room) #[(.ref sSTRONG_PERMIT)] h0 n0 (fun v h => h0 = h ∧ v = .ref sALLOW) := by
  refine Con.of (plainFor_of_name (by first | (simp [plainName, overriddenIn]; done) | decide +kernel)) hn ?_
  intro p e s m below meth c T w X
  refine Gl.enter (ls := #[.val (.ref sSTRONG_PERMIT)]) (by first | rfl | (simp [entryFrame, mkF, argsToLocals, Value.category]; done)) ?_
  obtain ⟨S_sWEAK_PERMIT, E_sWEAK_PERMIT, S_sALLOW, E_sALLOW, S_sDENY, E_sDENY, S_sSTRONG_PERMIT, E_sSTRONG_PERMIT, S_sWEAK_PROHIBITION, E_sWEAK_PROHIBITION, S_sSTRONG_PROHIBITION, E_sSTRONG_PROHIBITION, L_sWEAK_PERMIT_decision, L_sALLOW_ordinal, L_sDENY_ordinal, L_sWEAK_PERMIT_weak, L_sSTRONG_PERMIT_decision, L_sSTRONG_PERMIT_weak, L_sWEAK_PROHIBITION_decision, L_sWEAK_PROHIBITION_weak, L_sSTRONG_PROHIBITION_decision, L_sSTRONG_PROHIBITION_weak⟩ := id G
  have ne_sALLOW_sDENY : sALLOW ≠ sDENY := L_sALLOW_ordinal.ne L_sDENY_ordinal (by decide)
  refine gAloadN X w d4_0 rfl rfl (n := 1) rfl ?_
  refine gGetF X w (own_wd hw 11 rfl) Via.refl L_sSTRONG_PERMIT_decision d4_1 (n := 4) rfl ?_
  intro T X
  exact gRetA X w rfl rfl rfl d4_4 (by decide) (by decide) (⟨_, rfl, rfl, rfl⟩)
set_option maxRecDepth 65536 in
set_option maxHeartbeats 40000000 in
theorem own_proh_sWEAK_PERMIT (l : Launch) (Z : State) (a0 : Array Value) (hw : ∀ d ∈ tables_1, d.before a0 Z = true) (sWEAK_PERMIT sALLOW sDENY sSTRONG_PERMIT sWEAK_PROHIBITION sSTRONG_PROHIBITION : Addr) (h0 : Heap) (n0 : Nat) (hn : n0 ≤ h0.size) (G : own_env Z h0 sWEAK_PERMIT sALLOW sDENY sSTRONG_PERMIT sWEAK_PROHIBITION sSTRONG_PROHIBITION) :
    ConV l Z (⟨"com/example/reja/reja/Precedence", "prohibits", "()Z"⟩ : MethodName) prog_5_method_6_code 1 (some .boolean) ({ frames := 0, cells := 0, slots := 0, locals := 0 } : Room) #[(.ref sWEAK_PERMIT)] h0 n0 (fun v h => h0 = h ∧ v = .int 0) := by
  refine Con.of (plainFor_of_name (by first | (simp [plainName, overriddenIn]; done) | decide +kernel)) hn ?_
  intro p e s m below meth c T w X
  refine Gl.enter (ls := #[.val (.ref sWEAK_PERMIT)]) (by first | rfl | (simp [entryFrame, mkF, argsToLocals, Value.category]; done)) ?_
  obtain ⟨S_sWEAK_PERMIT, E_sWEAK_PERMIT, S_sALLOW, E_sALLOW, S_sDENY, E_sDENY, S_sSTRONG_PERMIT, E_sSTRONG_PERMIT, S_sWEAK_PROHIBITION, E_sWEAK_PROHIBITION, S_sSTRONG_PROHIBITION, E_sSTRONG_PROHIBITION, L_sWEAK_PERMIT_decision, L_sALLOW_ordinal, L_sDENY_ordinal, L_sWEAK_PERMIT_weak, L_sSTRONG_PERMIT_decision, L_sSTRONG_PERMIT_weak, L_sWEAK_PROHIBITION_decision, L_sWEAK_PROHIBITION_weak, L_sSTRONG_PROHIBITION_decision, L_sSTRONG_PROHIBITION_weak⟩ := id G
  have ne_sALLOW_sDENY : sALLOW ≠ sDENY := L_sALLOW_ordinal.ne L_sDENY_ordinal (by decide)
  refine gAloadN X w d2_0 rfl rfl (n := 1) rfl ?_
  refine gGetF X w (own_wd hw 11 rfl) Via.refl L_sWEAK_PERMIT_decision d2_1 (n := 4) rfl ?_
  intro T X
  refine gGetS X w (own_wd hw 15 rfl) Via.refl S_sDENY d2_4 (n := 7) rfl ?_
  intro T X
  refine gAcmp_ne X w d2_7 rfl rfl (n := 14) (n' := 10) (by decide) rfl rfl ?_ ?_
  · intro c7
    refine gIconst X w d2_14 (z := (0 : Int32)) rfl (n := 15) rfl ?_
    exact gRetZ X w rfl (Or.inl rfl) d2_15 (by decide) (by decide) (⟨_, rfl, rfl, rfl⟩)
  · intro c7
    exact absurd (Value.ref.inj c7) ne_sALLOW_sDENY
set_option maxRecDepth 65536 in
set_option maxHeartbeats 40000000 in
theorem own_weak_sWEAK_PERMIT (l : Launch) (Z : State) (a0 : Array Value) (hw : ∀ d ∈ tables_1, d.before a0 Z = true) (sWEAK_PERMIT sALLOW sDENY sSTRONG_PERMIT sWEAK_PROHIBITION sSTRONG_PROHIBITION : Addr) (h0 : Heap) (n0 : Nat) (hn : n0 ≤ h0.size) (G : own_env Z h0 sWEAK_PERMIT sALLOW sDENY sSTRONG_PERMIT sWEAK_PROHIBITION sSTRONG_PROHIBITION) :
    ConV l Z (⟨"com/example/reja/reja/Precedence", "weak", "()Z"⟩ : MethodName) prog_5_method_7_code 1 (some .boolean) ({ frames := 0, cells := 0, slots := 0, locals := 0 } : Room) #[(.ref sWEAK_PERMIT)] h0 n0 (fun v h => h0 = h ∧ v = .int 1) := by
  refine Con.of (plainFor_of_name (by first | (simp [plainName, overriddenIn]; done) | decide +kernel)) hn ?_
  intro p e s m below meth c T w X
  refine Gl.enter (ls := #[.val (.ref sWEAK_PERMIT)]) (by first | rfl | (simp [entryFrame, mkF, argsToLocals, Value.category]; done)) ?_
  obtain ⟨S_sWEAK_PERMIT, E_sWEAK_PERMIT, S_sALLOW, E_sALLOW, S_sDENY, E_sDENY, S_sSTRONG_PERMIT, E_sSTRONG_PERMIT, S_sWEAK_PROHIBITION, E_sWEAK_PROHIBITION, S_sSTRONG_PROHIBITION, E_sSTRONG_PROHIBITION, L_sWEAK_PERMIT_decision, L_sALLOW_ordinal, L_sDENY_ordinal, L_sWEAK_PERMIT_weak, L_sSTRONG_PERMIT_decision, L_sSTRONG_PERMIT_weak, L_sWEAK_PROHIBITION_decision, L_sWEAK_PROHIBITION_weak, L_sSTRONG_PROHIBITION_decision, L_sSTRONG_PROHIBITION_weak⟩ := id G
  have ne_sALLOW_sDENY : sALLOW ≠ sDENY := L_sALLOW_ordinal.ne L_sDENY_ordinal (by decide)
  refine gAloadN X w d3_0 rfl rfl (n := 1) rfl ?_
  refine gGetF X w (own_wd hw 22 rfl) Via.refl L_sWEAK_PERMIT_weak d3_1 (n := 4) rfl ?_
  intro T X
  exact gRetZ X w rfl (Or.inr rfl) d3_4 (by decide) (by decide) (⟨_, rfl, rfl, rfl⟩)
set_option maxRecDepth 65536 in
set_option maxHeartbeats 40000000 in
theorem own_dec_sWEAK_PERMIT (l : Launch) (Z : State) (a0 : Array Value) (hw : ∀ d ∈ tables_1, d.before a0 Z = true) (sWEAK_PERMIT sALLOW sDENY sSTRONG_PERMIT sWEAK_PROHIBITION sSTRONG_PROHIBITION : Addr) (h0 : Heap) (n0 : Nat) (hn : n0 ≤ h0.size) (G : own_env Z h0 sWEAK_PERMIT sALLOW sDENY sSTRONG_PERMIT sWEAK_PROHIBITION sSTRONG_PROHIBITION) :
    ConV l Z (⟨"com/example/reja/reja/Precedence", "decision", "()Lcom/example/reja/reja/Decision;"⟩ : MethodName) prog_5_method_5_code 1 (some (.object "com/example/reja/reja/Decision")) ({ frames := 0, cells := 0, slots := 0, locals := 0 } : Room) #[(.ref sWEAK_PERMIT)] h0 n0 (fun v h => h0 = h ∧ v = .ref sALLOW) := by
  refine Con.of (plainFor_of_name (by first | (simp [plainName, overriddenIn]; done) | decide +kernel)) hn ?_
  intro p e s m below meth c T w X
  refine Gl.enter (ls := #[.val (.ref sWEAK_PERMIT)]) (by first | rfl | (simp [entryFrame, mkF, argsToLocals, Value.category]; done)) ?_
  obtain ⟨S_sWEAK_PERMIT, E_sWEAK_PERMIT, S_sALLOW, E_sALLOW, S_sDENY, E_sDENY, S_sSTRONG_PERMIT, E_sSTRONG_PERMIT, S_sWEAK_PROHIBITION, E_sWEAK_PROHIBITION, S_sSTRONG_PROHIBITION, E_sSTRONG_PROHIBITION, L_sWEAK_PERMIT_decision, L_sALLOW_ordinal, L_sDENY_ordinal, L_sWEAK_PERMIT_weak, L_sSTRONG_PERMIT_decision, L_sSTRONG_PERMIT_weak, L_sWEAK_PROHIBITION_decision, L_sWEAK_PROHIBITION_weak, L_sSTRONG_PROHIBITION_decision, L_sSTRONG_PROHIBITION_weak⟩ := id G
  have ne_sALLOW_sDENY : sALLOW ≠ sDENY := L_sALLOW_ordinal.ne L_sDENY_ordinal (by decide)
  refine gAloadN X w d4_0 rfl rfl (n := 1) rfl ?_
  refine gGetF X w (own_wd hw 11 rfl) Via.refl L_sWEAK_PERMIT_decision d4_1 (n := 4) rfl ?_
  intro T X
  exact gRetA X w rfl rfl rfl d4_4 (by decide) (by decide) (⟨_, rfl, rfl, rfl⟩)
set_option maxRecDepth 65536 in
set_option maxHeartbeats 40000000 in
theorem own_proh_sSTRONG_PROHIBITION (l : Launch) (Z : State) (a0 : Array Value) (hw : ∀ d ∈ tables_1, d.before a0 Z = true) (sWEAK_PERMIT sALLOW sDENY sSTRONG_PERMIT sWEAK_PROHIBITION sSTRONG_PROHIBITION : Addr) (h0 : Heap) (n0 : Nat) (hn : n0 ≤ h0.size) (G : own_env Z h0 sWEAK_PERMIT sALLOW sDENY sSTRONG_PERMIT sWEAK_PROHIBITION sSTRONG_PROHIBITION) :
    ConV l Z (⟨"com/example/reja/reja/Precedence", "prohibits", "()Z"⟩ : MethodName) prog_5_method_6_code 1 (some .boolean) ({ frames := 0, cells := 0, slots := 0, locals := 0 } : Room) #[(.ref sSTRONG_PROHIBITION)] h0 n0 (fun v h => h0 = h ∧ v = .int 1) := by
  refine Con.of (plainFor_of_name (by first | (simp [plainName, overriddenIn]; done) | decide +kernel)) hn ?_
  intro p e s m below meth c T w X
  refine Gl.enter (ls := #[.val (.ref sSTRONG_PROHIBITION)]) (by first | rfl | (simp [entryFrame, mkF, argsToLocals, Value.category]; done)) ?_
  obtain ⟨S_sWEAK_PERMIT, E_sWEAK_PERMIT, S_sALLOW, E_sALLOW, S_sDENY, E_sDENY, S_sSTRONG_PERMIT, E_sSTRONG_PERMIT, S_sWEAK_PROHIBITION, E_sWEAK_PROHIBITION, S_sSTRONG_PROHIBITION, E_sSTRONG_PROHIBITION, L_sWEAK_PERMIT_decision, L_sALLOW_ordinal, L_sDENY_ordinal, L_sWEAK_PERMIT_weak, L_sSTRONG_PERMIT_decision, L_sSTRONG_PERMIT_weak, L_sWEAK_PROHIBITION_decision, L_sWEAK_PROHIBITION_weak, L_sSTRONG_PROHIBITION_decision, L_sSTRONG_PROHIBITION_weak⟩ := id G
  have ne_sALLOW_sDENY : sALLOW ≠ sDENY := L_sALLOW_ordinal.ne L_sDENY_ordinal (by decide)
  refine gAloadN X w d2_0 rfl rfl (n := 1) rfl ?_
  refine gGetF X w (own_wd hw 11 rfl) Via.refl L_sSTRONG_PROHIBITION_decision d2_1 (n := 4) rfl ?_
  intro T X
  refine gGetS X w (own_wd hw 15 rfl) Via.refl S_sDENY d2_4 (n := 7) rfl ?_
  intro T X
  refine gAcmp_ne X w d2_7 rfl rfl (n := 14) (n' := 10) (by decide) rfl rfl ?_ ?_
  · intro c7
    exact absurd rfl c7
  · intro c7
    refine gIconst X w d2_10 (z := (1 : Int32)) rfl (n := 11) rfl ?_
    refine gGoto X w d2_11 (by decide) (n := 15) rfl ?_
    exact gRetZ X w rfl (Or.inr rfl) d2_15 (by decide) (by decide) (⟨_, rfl, rfl, rfl⟩)
set_option maxRecDepth 65536 in
set_option maxHeartbeats 40000000 in
theorem own_weak_sSTRONG_PROHIBITION (l : Launch) (Z : State) (a0 : Array Value) (hw : ∀ d ∈ tables_1, d.before a0 Z = true) (sWEAK_PERMIT sALLOW sDENY sSTRONG_PERMIT sWEAK_PROHIBITION sSTRONG_PROHIBITION : Addr) (h0 : Heap) (n0 : Nat) (hn : n0 ≤ h0.size) (G : own_env Z h0 sWEAK_PERMIT sALLOW sDENY sSTRONG_PERMIT sWEAK_PROHIBITION sSTRONG_PROHIBITION) :
    ConV l Z (⟨"com/example/reja/reja/Precedence", "weak", "()Z"⟩ : MethodName) prog_5_method_7_code 1 (some .boolean) ({ frames := 0, cells := 0, slots := 0, locals := 0 } : Room) #[(.ref sSTRONG_PROHIBITION)] h0 n0 (fun v h => h0 = h ∧ v = .int 0) := by
  refine Con.of (plainFor_of_name (by first | (simp [plainName, overriddenIn]; done) | decide +kernel)) hn ?_
  intro p e s m below meth c T w X
  refine Gl.enter (ls := #[.val (.ref sSTRONG_PROHIBITION)]) (by first | rfl | (simp [entryFrame, mkF, argsToLocals, Value.category]; done)) ?_
  obtain ⟨S_sWEAK_PERMIT, E_sWEAK_PERMIT, S_sALLOW, E_sALLOW, S_sDENY, E_sDENY, S_sSTRONG_PERMIT, E_sSTRONG_PERMIT, S_sWEAK_PROHIBITION, E_sWEAK_PROHIBITION, S_sSTRONG_PROHIBITION, E_sSTRONG_PROHIBITION, L_sWEAK_PERMIT_decision, L_sALLOW_ordinal, L_sDENY_ordinal, L_sWEAK_PERMIT_weak, L_sSTRONG_PERMIT_decision, L_sSTRONG_PERMIT_weak, L_sWEAK_PROHIBITION_decision, L_sWEAK_PROHIBITION_weak, L_sSTRONG_PROHIBITION_decision, L_sSTRONG_PROHIBITION_weak⟩ := id G
  have ne_sALLOW_sDENY : sALLOW ≠ sDENY := L_sALLOW_ordinal.ne L_sDENY_ordinal (by decide)
  refine gAloadN X w d3_0 rfl rfl (n := 1) rfl ?_
  refine gGetF X w (own_wd hw 22 rfl) Via.refl L_sSTRONG_PROHIBITION_weak d3_1 (n := 4) rfl ?_
  intro T X
  exact gRetZ X w rfl (Or.inl rfl) d3_4 (by decide) (by decide) (⟨_, rfl, rfl, rfl⟩)
set_option maxRecDepth 65536 in
set_option maxHeartbeats 40000000 in
theorem own_dec_sSTRONG_PROHIBITION (l : Launch) (Z : State) (a0 : Array Value) (hw : ∀ d ∈ tables_1, d.before a0 Z = true) (sWEAK_PERMIT sALLOW sDENY sSTRONG_PERMIT sWEAK_PROHIBITION sSTRONG_PROHIBITION : Addr) (h0 : Heap) (n0 : Nat) (hn : n0 ≤ h0.size) (G : own_env Z h0 sWEAK_PERMIT sALLOW sDENY sSTRONG_PERMIT sWEAK_PROHIBITION sSTRONG_PROHIBITION) :
    ConV l Z (⟨"com/example/reja/reja/Precedence", "decision", "()Lcom/example/reja/reja/Decision;"⟩ : MethodName) prog_5_method_5_code 1 (some (.object "com/example/reja/reja/Decision")) ({ frames := 0, cells := 0, slots := 0, locals := 0 } : Room) #[(.ref sSTRONG_PROHIBITION)] h0 n0 (fun v h => h0 = h ∧ v = .ref sDENY) := by
  refine Con.of (plainFor_of_name (by first | (simp [plainName, overriddenIn]; done) | decide +kernel)) hn ?_
  intro p e s m below meth c T w X
  refine Gl.enter (ls := #[.val (.ref sSTRONG_PROHIBITION)]) (by first | rfl | (simp [entryFrame, mkF, argsToLocals, Value.category]; done)) ?_
  obtain ⟨S_sWEAK_PERMIT, E_sWEAK_PERMIT, S_sALLOW, E_sALLOW, S_sDENY, E_sDENY, S_sSTRONG_PERMIT, E_sSTRONG_PERMIT, S_sWEAK_PROHIBITION, E_sWEAK_PROHIBITION, S_sSTRONG_PROHIBITION, E_sSTRONG_PROHIBITION, L_sWEAK_PERMIT_decision, L_sALLOW_ordinal, L_sDENY_ordinal, L_sWEAK_PERMIT_weak, L_sSTRONG_PERMIT_decision, L_sSTRONG_PERMIT_weak, L_sWEAK_PROHIBITION_decision, L_sWEAK_PROHIBITION_weak, L_sSTRONG_PROHIBITION_decision, L_sSTRONG_PROHIBITION_weak⟩ := id G
  have ne_sALLOW_sDENY : sALLOW ≠ sDENY := L_sALLOW_ordinal.ne L_sDENY_ordinal (by decide)
  refine gAloadN X w d4_0 rfl rfl (n := 1) rfl ?_
  refine gGetF X w (own_wd hw 11 rfl) Via.refl L_sSTRONG_PROHIBITION_decision d4_1 (n := 4) rfl ?_
  intro T X
  exact gRetA X w rfl rfl rfl d4_4 (by decide) (by decide) (⟨_, rfl, rfl, rfl⟩)
set_option maxRecDepth 65536 in
set_option maxHeartbeats 40000000 in
theorem own_proh_sWEAK_PROHIBITION (l : Launch) (Z : State) (a0 : Array Value) (hw : ∀ d ∈ tables_1, d.before a0 Z = true) (sWEAK_PERMIT sALLOW sDENY sSTRONG_PERMIT sWEAK_PROHIBITION sSTRONG_PROHIBITION : Addr) (h0 : Heap) (n0 : Nat) (hn : n0 ≤ h0.size) (G : own_env Z h0 sWEAK_PERMIT sALLOW sDENY sSTRONG_PERMIT sWEAK_PROHIBITION sSTRONG_PROHIBITION) :
    ConV l Z (⟨"com/example/reja/reja/Precedence", "prohibits", "()Z"⟩ : MethodName) prog_5_method_6_code 1 (some .boolean) ({ frames := 0, cells := 0, slots := 0, locals := 0 } : Room) #[(.ref sWEAK_PROHIBITION)] h0 n0 (fun v h => h0 = h ∧ v = .int 1) := by
  refine Con.of (plainFor_of_name (by first | (simp [plainName, overriddenIn]; done) | decide +kernel)) hn ?_
  intro p e s m below meth c T w X
  refine Gl.enter (ls := #[.val (.ref sWEAK_PROHIBITION)]) (by first | rfl | (simp [entryFrame, mkF, argsToLocals, Value.category]; done)) ?_
  obtain ⟨S_sWEAK_PERMIT, E_sWEAK_PERMIT, S_sALLOW, E_sALLOW, S_sDENY, E_sDENY, S_sSTRONG_PERMIT, E_sSTRONG_PERMIT, S_sWEAK_PROHIBITION, E_sWEAK_PROHIBITION, S_sSTRONG_PROHIBITION, E_sSTRONG_PROHIBITION, L_sWEAK_PERMIT_decision, L_sALLOW_ordinal, L_sDENY_ordinal, L_sWEAK_PERMIT_weak, L_sSTRONG_PERMIT_decision, L_sSTRONG_PERMIT_weak, L_sWEAK_PROHIBITION_decision, L_sWEAK_PROHIBITION_weak, L_sSTRONG_PROHIBITION_decision, L_sSTRONG_PROHIBITION_weak⟩ := id G
  have ne_sALLOW_sDENY : sALLOW ≠ sDENY := L_sALLOW_ordinal.ne L_sDENY_ordinal (by decide)
  refine gAloadN X w d2_0 rfl rfl (n := 1) rfl ?_
  refine gGetF X w (own_wd hw 11 rfl) Via.refl L_sWEAK_PROHIBITION_decision d2_1 (n := 4) rfl ?_
  intro T X
  refine gGetS X w (own_wd hw 15 rfl) Via.refl S_sDENY d2_4 (n := 7) rfl ?_
  intro T X
  refine gAcmp_ne X w d2_7 rfl rfl (n := 14) (n' := 10) (by decide) rfl rfl ?_ ?_
  · intro c7
    exact absurd rfl c7
  · intro c7
    refine gIconst X w d2_10 (z := (1 : Int32)) rfl (n := 11) rfl ?_
    refine gGoto X w d2_11 (by decide) (n := 15) rfl ?_
    exact gRetZ X w rfl (Or.inr rfl) d2_15 (by decide) (by decide) (⟨_, rfl, rfl, rfl⟩)
set_option maxRecDepth 65536 in
set_option maxHeartbeats 40000000 in
theorem own_weak_sWEAK_PROHIBITION (l : Launch) (Z : State) (a0 : Array Value) (hw : ∀ d ∈ tables_1, d.before a0 Z = true) (sWEAK_PERMIT sALLOW sDENY sSTRONG_PERMIT sWEAK_PROHIBITION sSTRONG_PROHIBITION : Addr) (h0 : Heap) (n0 : Nat) (hn : n0 ≤ h0.size) (G : own_env Z h0 sWEAK_PERMIT sALLOW sDENY sSTRONG_PERMIT sWEAK_PROHIBITION sSTRONG_PROHIBITION) :
    ConV l Z (⟨"com/example/reja/reja/Precedence", "weak", "()Z"⟩ : MethodName) prog_5_method_7_code 1 (some .boolean) ({ frames := 0, cells := 0, slots := 0, locals := 0 } : Room) #[(.ref sWEAK_PROHIBITION)] h0 n0 (fun v h => h0 = h ∧ v = .int 1) := by
  refine Con.of (plainFor_of_name (by first | (simp [plainName, overriddenIn]; done) | decide +kernel)) hn ?_
  intro p e s m below meth c T w X
  refine Gl.enter (ls := #[.val (.ref sWEAK_PROHIBITION)]) (by first | rfl | (simp [entryFrame, mkF, argsToLocals, Value.category]; done)) ?_
  obtain ⟨S_sWEAK_PERMIT, E_sWEAK_PERMIT, S_sALLOW, E_sALLOW, S_sDENY, E_sDENY, S_sSTRONG_PERMIT, E_sSTRONG_PERMIT, S_sWEAK_PROHIBITION, E_sWEAK_PROHIBITION, S_sSTRONG_PROHIBITION, E_sSTRONG_PROHIBITION, L_sWEAK_PERMIT_decision, L_sALLOW_ordinal, L_sDENY_ordinal, L_sWEAK_PERMIT_weak, L_sSTRONG_PERMIT_decision, L_sSTRONG_PERMIT_weak, L_sWEAK_PROHIBITION_decision, L_sWEAK_PROHIBITION_weak, L_sSTRONG_PROHIBITION_decision, L_sSTRONG_PROHIBITION_weak⟩ := id G
  have ne_sALLOW_sDENY : sALLOW ≠ sDENY := L_sALLOW_ordinal.ne L_sDENY_ordinal (by decide)
  refine gAloadN X w d3_0 rfl rfl (n := 1) rfl ?_
  refine gGetF X w (own_wd hw 22 rfl) Via.refl L_sWEAK_PROHIBITION_weak d3_1 (n := 4) rfl ?_
  intro T X
  exact gRetZ X w rfl (Or.inr rfl) d3_4 (by decide) (by decide) (⟨_, rfl, rfl, rfl⟩)
set_option maxRecDepth 65536 in
set_option maxHeartbeats 40000000 in
theorem own_dec_sWEAK_PROHIBITION (l : Launch) (Z : State) (a0 : Array Value) (hw : ∀ d ∈ tables_1, d.before a0 Z = true) (sWEAK_PERMIT sALLOW sDENY sSTRONG_PERMIT sWEAK_PROHIBITION sSTRONG_PROHIBITION : Addr) (h0 : Heap) (n0 : Nat) (hn : n0 ≤ h0.size) (G : own_env Z h0 sWEAK_PERMIT sALLOW sDENY sSTRONG_PERMIT sWEAK_PROHIBITION sSTRONG_PROHIBITION) :
    ConV l Z (⟨"com/example/reja/reja/Precedence", "decision", "()Lcom/example/reja/reja/Decision;"⟩ : MethodName) prog_5_method_5_code 1 (some (.object "com/example/reja/reja/Decision")) ({ frames := 0, cells := 0, slots := 0, locals := 0 } : Room) #[(.ref sWEAK_PROHIBITION)] h0 n0 (fun v h => h0 = h ∧ v = .ref sDENY) := by
  refine Con.of (plainFor_of_name (by first | (simp [plainName, overriddenIn]; done) | decide +kernel)) hn ?_
  intro p e s m below meth c T w X
  refine Gl.enter (ls := #[.val (.ref sWEAK_PROHIBITION)]) (by first | rfl | (simp [entryFrame, mkF, argsToLocals, Value.category]; done)) ?_
  obtain ⟨S_sWEAK_PERMIT, E_sWEAK_PERMIT, S_sALLOW, E_sALLOW, S_sDENY, E_sDENY, S_sSTRONG_PERMIT, E_sSTRONG_PERMIT, S_sWEAK_PROHIBITION, E_sWEAK_PROHIBITION, S_sSTRONG_PROHIBITION, E_sSTRONG_PROHIBITION, L_sWEAK_PERMIT_decision, L_sALLOW_ordinal, L_sDENY_ordinal, L_sWEAK_PERMIT_weak, L_sSTRONG_PERMIT_decision, L_sSTRONG_PERMIT_weak, L_sWEAK_PROHIBITION_decision, L_sWEAK_PROHIBITION_weak, L_sSTRONG_PROHIBITION_decision, L_sSTRONG_PROHIBITION_weak⟩ := id G
  have ne_sALLOW_sDENY : sALLOW ≠ sDENY := L_sALLOW_ordinal.ne L_sDENY_ordinal (by decide)
  refine gAloadN X w d4_0 rfl rfl (n := 1) rfl ?_
  refine gGetF X w (own_wd hw 11 rfl) Via.refl L_sWEAK_PROHIBITION_decision d4_1 (n := 4) rfl ?_
  intro T X
  exact gRetA X w rfl rfl rfl d4_4 (by decide) (by decide) (⟨_, rfl, rfl, rfl⟩)
set_option maxRecDepth 65536 in
set_option maxHeartbeats 40000000 in
theorem own_of_00 (l : Launch) (Z : State) (a0 : Array Value) (hw : ∀ d ∈ tables_1, d.before a0 Z = true) (sWEAK_PERMIT sALLOW sDENY sSTRONG_PERMIT sWEAK_PROHIBITION sSTRONG_PROHIBITION : Addr) (h0 : Heap) (n0 : Nat) (hn : n0 ≤ h0.size) (G : own_env Z h0 sWEAK_PERMIT sALLOW sDENY sSTRONG_PERMIT sWEAK_PROHIBITION sSTRONG_PROHIBITION) :
    ConV l Z (⟨"com/example/reja/reja/Precedence", "of", "(ZZ)Lcom/example/reja/reja/Precedence;"⟩ : MethodName) prog_5_method_4_code 3 (some (.object "com/example/reja/reja/Precedence")) ({ frames := 0, cells := 0, slots := 0, locals := 0 } : Room) #[(.int (0 : Int32)), (.int (0 : Int32))] h0 n0 (fun v h => h0 = h ∧ v = .ref sSTRONG_PERMIT) := by
  refine Con.of (plainFor_of_name (by first | (simp [plainName, overriddenIn]; done) | decide +kernel)) hn ?_
  intro p e s m below meth c T w X
  refine Gl.enter (ls := #[.val (.int (0 : Int32)), .val (.int (0 : Int32)), .unset]) (by first | rfl | (simp [entryFrame, mkF, argsToLocals, Value.category]; done)) ?_
  obtain ⟨S_sWEAK_PERMIT, E_sWEAK_PERMIT, S_sALLOW, E_sALLOW, S_sDENY, E_sDENY, S_sSTRONG_PERMIT, E_sSTRONG_PERMIT, S_sWEAK_PROHIBITION, E_sWEAK_PROHIBITION, S_sSTRONG_PROHIBITION, E_sSTRONG_PROHIBITION, L_sWEAK_PERMIT_decision, L_sALLOW_ordinal, L_sDENY_ordinal, L_sWEAK_PERMIT_weak, L_sSTRONG_PERMIT_decision, L_sSTRONG_PERMIT_weak, L_sWEAK_PROHIBITION_decision, L_sWEAK_PROHIBITION_weak, L_sSTRONG_PROHIBITION_decision, L_sSTRONG_PROHIBITION_weak⟩ := id G
  have ne_sALLOW_sDENY : sALLOW ≠ sDENY := L_sALLOW_ordinal.ne L_sDENY_ordinal (by decide)
  refine gIloadN X w d1_0 rfl (n := 1) rfl ?_
  refine gIf_eq X w d1_1 (n := 21) (n' := 4) (by decide) rfl rfl ?_ ?_
  · rintro ⟨c1, c1'⟩
    refine gIloadN X w d1_21 rfl (n := 22) rfl ?_
    refine gIf_eq X w d1_22 (n := 31) (n' := 25) (by decide) rfl rfl ?_ ?_
    · rintro ⟨c22, c22'⟩
      refine gGetS X w (own_wd hw 30 rfl) Via.refl S_sSTRONG_PERMIT d1_31 (n := 34) rfl ?_
      intro T X
      refine gAstoreN X w d1_34 rfl #[.val (.int (0 : Int32)), .val (.int (0 : Int32)), .val (.ref sSTRONG_PERMIT)] rfl (n := 35) rfl ?_
      refine gAloadN X w d1_35 rfl rfl (n := 36) rfl ?_
      exact gRetA X w rfl rfl rfl d1_36 (by decide) (by decide) (⟨_, rfl, rfl, rfl⟩)
    · rintro ⟨c22, c22'⟩
      exact absurd c22 (by decide)
  · rintro ⟨c1, c1'⟩
    exact absurd c1 (by decide)
set_option maxRecDepth 65536 in
set_option maxHeartbeats 40000000 in
theorem own_of_01 (l : Launch) (Z : State) (a0 : Array Value) (hw : ∀ d ∈ tables_1, d.before a0 Z = true) (sWEAK_PERMIT sALLOW sDENY sSTRONG_PERMIT sWEAK_PROHIBITION sSTRONG_PROHIBITION : Addr) (h0 : Heap) (n0 : Nat) (hn : n0 ≤ h0.size) (G : own_env Z h0 sWEAK_PERMIT sALLOW sDENY sSTRONG_PERMIT sWEAK_PROHIBITION sSTRONG_PROHIBITION) :
    ConV l Z (⟨"com/example/reja/reja/Precedence", "of", "(ZZ)Lcom/example/reja/reja/Precedence;"⟩ : MethodName) prog_5_method_4_code 3 (some (.object "com/example/reja/reja/Precedence")) ({ frames := 0, cells := 0, slots := 0, locals := 0 } : Room) #[(.int (0 : Int32)), (.int (1 : Int32))] h0 n0 (fun v h => h0 = h ∧ v = .ref sWEAK_PERMIT) := by
  refine Con.of (plainFor_of_name (by first | (simp [plainName, overriddenIn]; done) | decide +kernel)) hn ?_
  intro p e s m below meth c T w X
  refine Gl.enter (ls := #[.val (.int (0 : Int32)), .val (.int (1 : Int32)), .unset]) (by first | rfl | (simp [entryFrame, mkF, argsToLocals, Value.category]; done)) ?_
  obtain ⟨S_sWEAK_PERMIT, E_sWEAK_PERMIT, S_sALLOW, E_sALLOW, S_sDENY, E_sDENY, S_sSTRONG_PERMIT, E_sSTRONG_PERMIT, S_sWEAK_PROHIBITION, E_sWEAK_PROHIBITION, S_sSTRONG_PROHIBITION, E_sSTRONG_PROHIBITION, L_sWEAK_PERMIT_decision, L_sALLOW_ordinal, L_sDENY_ordinal, L_sWEAK_PERMIT_weak, L_sSTRONG_PERMIT_decision, L_sSTRONG_PERMIT_weak, L_sWEAK_PROHIBITION_decision, L_sWEAK_PROHIBITION_weak, L_sSTRONG_PROHIBITION_decision, L_sSTRONG_PROHIBITION_weak⟩ := id G
  have ne_sALLOW_sDENY : sALLOW ≠ sDENY := L_sALLOW_ordinal.ne L_sDENY_ordinal (by decide)
  refine gIloadN X w d1_0 rfl (n := 1) rfl ?_
  refine gIf_eq X w d1_1 (n := 21) (n' := 4) (by decide) rfl rfl ?_ ?_
  · rintro ⟨c1, c1'⟩
    refine gIloadN X w d1_21 rfl (n := 22) rfl ?_
    refine gIf_eq X w d1_22 (n := 31) (n' := 25) (by decide) rfl rfl ?_ ?_
    · rintro ⟨c22, c22'⟩
      exact absurd c22 (by decide)
    · rintro ⟨c22, c22'⟩
      refine gGetS X w (own_wd hw 4 rfl) Via.refl S_sWEAK_PERMIT d1_25 (n := 28) rfl ?_
      intro T X
      refine gGoto X w d1_28 (by decide) (n := 34) rfl ?_
      refine gAstoreN X w d1_34 rfl #[.val (.int (0 : Int32)), .val (.int (1 : Int32)), .val (.ref sWEAK_PERMIT)] rfl (n := 35) rfl ?_
      refine gAloadN X w d1_35 rfl rfl (n := 36) rfl ?_
      exact gRetA X w rfl rfl rfl d1_36 (by decide) (by decide) (⟨_, rfl, rfl, rfl⟩)
  · rintro ⟨c1, c1'⟩
    exact absurd c1 (by decide)
set_option maxRecDepth 65536 in
set_option maxHeartbeats 40000000 in
theorem own_of_10 (l : Launch) (Z : State) (a0 : Array Value) (hw : ∀ d ∈ tables_1, d.before a0 Z = true) (sWEAK_PERMIT sALLOW sDENY sSTRONG_PERMIT sWEAK_PROHIBITION sSTRONG_PROHIBITION : Addr) (h0 : Heap) (n0 : Nat) (hn : n0 ≤ h0.size) (G : own_env Z h0 sWEAK_PERMIT sALLOW sDENY sSTRONG_PERMIT sWEAK_PROHIBITION sSTRONG_PROHIBITION) :
    ConV l Z (⟨"com/example/reja/reja/Precedence", "of", "(ZZ)Lcom/example/reja/reja/Precedence;"⟩ : MethodName) prog_5_method_4_code 3 (some (.object "com/example/reja/reja/Precedence")) ({ frames := 0, cells := 0, slots := 0, locals := 0 } : Room) #[(.int (1 : Int32)), (.int (0 : Int32))] h0 n0 (fun v h => h0 = h ∧ v = .ref sSTRONG_PROHIBITION) := by
  refine Con.of (plainFor_of_name (by first | (simp [plainName, overriddenIn]; done) | decide +kernel)) hn ?_
  intro p e s m below meth c T w X
  refine Gl.enter (ls := #[.val (.int (1 : Int32)), .val (.int (0 : Int32)), .unset]) (by first | rfl | (simp [entryFrame, mkF, argsToLocals, Value.category]; done)) ?_
  obtain ⟨S_sWEAK_PERMIT, E_sWEAK_PERMIT, S_sALLOW, E_sALLOW, S_sDENY, E_sDENY, S_sSTRONG_PERMIT, E_sSTRONG_PERMIT, S_sWEAK_PROHIBITION, E_sWEAK_PROHIBITION, S_sSTRONG_PROHIBITION, E_sSTRONG_PROHIBITION, L_sWEAK_PERMIT_decision, L_sALLOW_ordinal, L_sDENY_ordinal, L_sWEAK_PERMIT_weak, L_sSTRONG_PERMIT_decision, L_sSTRONG_PERMIT_weak, L_sWEAK_PROHIBITION_decision, L_sWEAK_PROHIBITION_weak, L_sSTRONG_PROHIBITION_decision, L_sSTRONG_PROHIBITION_weak⟩ := id G
  have ne_sALLOW_sDENY : sALLOW ≠ sDENY := L_sALLOW_ordinal.ne L_sDENY_ordinal (by decide)
  refine gIloadN X w d1_0 rfl (n := 1) rfl ?_
  refine gIf_eq X w d1_1 (n := 21) (n' := 4) (by decide) rfl rfl ?_ ?_
  · rintro ⟨c1, c1'⟩
    exact absurd c1 (by decide)
  · rintro ⟨c1, c1'⟩
    refine gIloadN X w d1_4 rfl (n := 5) rfl ?_
    refine gIf_eq X w d1_5 (n := 14) (n' := 8) (by decide) rfl rfl ?_ ?_
    · rintro ⟨c5, c5'⟩
      refine gGetS X w (own_wd hw 35 rfl) Via.refl S_sSTRONG_PROHIBITION d1_14 (n := 17) rfl ?_
      intro T X
      refine gAstoreN X w d1_17 rfl #[.val (.int (1 : Int32)), .val (.int (0 : Int32)), .val (.ref sSTRONG_PROHIBITION)] rfl (n := 18) rfl ?_
      refine gGoto X w d1_18 (by decide) (n := 35) rfl ?_
      refine gAloadN X w d1_35 rfl rfl (n := 36) rfl ?_
      exact gRetA X w rfl rfl rfl d1_36 (by decide) (by decide) (⟨_, rfl, rfl, rfl⟩)
    · rintro ⟨c5, c5'⟩
      exact absurd c5 (by decide)
set_option maxRecDepth 65536 in
set_option maxHeartbeats 40000000 in
theorem own_of_11 (l : Launch) (Z : State) (a0 : Array Value) (hw : ∀ d ∈ tables_1, d.before a0 Z = true) (sWEAK_PERMIT sALLOW sDENY sSTRONG_PERMIT sWEAK_PROHIBITION sSTRONG_PROHIBITION : Addr) (h0 : Heap) (n0 : Nat) (hn : n0 ≤ h0.size) (G : own_env Z h0 sWEAK_PERMIT sALLOW sDENY sSTRONG_PERMIT sWEAK_PROHIBITION sSTRONG_PROHIBITION) :
    ConV l Z (⟨"com/example/reja/reja/Precedence", "of", "(ZZ)Lcom/example/reja/reja/Precedence;"⟩ : MethodName) prog_5_method_4_code 3 (some (.object "com/example/reja/reja/Precedence")) ({ frames := 0, cells := 0, slots := 0, locals := 0 } : Room) #[(.int (1 : Int32)), (.int (1 : Int32))] h0 n0 (fun v h => h0 = h ∧ v = .ref sWEAK_PROHIBITION) := by
  refine Con.of (plainFor_of_name (by first | (simp [plainName, overriddenIn]; done) | decide +kernel)) hn ?_
  intro p e s m below meth c T w X
  refine Gl.enter (ls := #[.val (.int (1 : Int32)), .val (.int (1 : Int32)), .unset]) (by first | rfl | (simp [entryFrame, mkF, argsToLocals, Value.category]; done)) ?_
  obtain ⟨S_sWEAK_PERMIT, E_sWEAK_PERMIT, S_sALLOW, E_sALLOW, S_sDENY, E_sDENY, S_sSTRONG_PERMIT, E_sSTRONG_PERMIT, S_sWEAK_PROHIBITION, E_sWEAK_PROHIBITION, S_sSTRONG_PROHIBITION, E_sSTRONG_PROHIBITION, L_sWEAK_PERMIT_decision, L_sALLOW_ordinal, L_sDENY_ordinal, L_sWEAK_PERMIT_weak, L_sSTRONG_PERMIT_decision, L_sSTRONG_PERMIT_weak, L_sWEAK_PROHIBITION_decision, L_sWEAK_PROHIBITION_weak, L_sSTRONG_PROHIBITION_decision, L_sSTRONG_PROHIBITION_weak⟩ := id G
  have ne_sALLOW_sDENY : sALLOW ≠ sDENY := L_sALLOW_ordinal.ne L_sDENY_ordinal (by decide)
  refine gIloadN X w d1_0 rfl (n := 1) rfl ?_
  refine gIf_eq X w d1_1 (n := 21) (n' := 4) (by decide) rfl rfl ?_ ?_
  · rintro ⟨c1, c1'⟩
    exact absurd c1 (by decide)
  · rintro ⟨c1, c1'⟩
    refine gIloadN X w d1_4 rfl (n := 5) rfl ?_
    refine gIf_eq X w d1_5 (n := 14) (n' := 8) (by decide) rfl rfl ?_ ?_
    · rintro ⟨c5, c5'⟩
      exact absurd c5 (by decide)
    · rintro ⟨c5, c5'⟩
      refine gGetS X w (own_wd hw 32 rfl) Via.refl S_sWEAK_PROHIBITION d1_8 (n := 11) rfl ?_
      intro T X
      refine gGoto X w d1_11 (by decide) (n := 17) rfl ?_
      refine gAstoreN X w d1_17 rfl #[.val (.int (1 : Int32)), .val (.int (1 : Int32)), .val (.ref sWEAK_PROHIBITION)] rfl (n := 18) rfl ?_
      refine gGoto X w d1_18 (by decide) (n := 35) rfl ?_
      refine gAloadN X w d1_35 rfl rfl (n := 36) rfl ?_
      exact gRetA X w rfl rfl rfl d1_36 (by decide) (by decide) (⟨_, rfl, rfl, rfl⟩)
set_option maxRecDepth 65536 in
set_option maxHeartbeats 40000000 in
theorem own_law (l : Launch) (Z : State) (a0 : Array Value) (hw : ∀ d ∈ tables_1, d.before a0 Z = true) (p1 p2 : Int32) (sWEAK_PERMIT sALLOW sDENY sSTRONG_PERMIT sWEAK_PROHIBITION sSTRONG_PROHIBITION : Addr) (h0 : Heap) (n0 : Nat) (hn : n0 ≤ h0.size) (G : own_env Z h0 sWEAK_PERMIT sALLOW sDENY sSTRONG_PERMIT sWEAK_PROHIBITION sSTRONG_PROHIBITION) :
    Con l Z x code maxLocals ret tables_1 room_1 0 0 #[(.int p1), (.int p2)] h0 n0 (fun r h => r = some (.int 1)) := by
  refine Con.of (plainFor_of_name (by first | (simp [plainName, overriddenIn]; done) | decide +kernel)) hn ?_
  intro p e s m below meth c T w X
  refine Gl.enter (ls := #[.val (.int p1), .val (.int p2), .unset, .unset, .unset, .unset]) (by first | rfl | (simp [entryFrame, mkF, argsToLocals, Value.category, maxLocals]; done)) ?_
  obtain ⟨S_sWEAK_PERMIT, E_sWEAK_PERMIT, S_sALLOW, E_sALLOW, S_sDENY, E_sDENY, S_sSTRONG_PERMIT, E_sSTRONG_PERMIT, S_sWEAK_PROHIBITION, E_sWEAK_PROHIBITION, S_sSTRONG_PROHIBITION, E_sSTRONG_PROHIBITION, L_sWEAK_PERMIT_decision, L_sALLOW_ordinal, L_sDENY_ordinal, L_sWEAK_PERMIT_weak, L_sSTRONG_PERMIT_decision, L_sSTRONG_PERMIT_weak, L_sWEAK_PROHIBITION_decision, L_sWEAK_PROHIBITION_weak, L_sSTRONG_PROHIBITION_decision, L_sSTRONG_PROHIBITION_weak⟩ := id G
  have ne_sALLOW_sDENY : sALLOW ≠ sDENY := L_sALLOW_ordinal.ne L_sDENY_ordinal (by decide)
  refine gIloadN X w at_0 rfl (n := 1) rfl ?_
  refine gIconst X w at_1 (z := (1 : Int32)) rfl (n := 2) rfl ?_
  obtain ⟨x2, q2⟩ : ∃ zz_ : Int32, p1 &&& (1 : Int32) = zz_ := ⟨_, rfl⟩
  refine gIand X w at_2 q2 (n := 3) rfl ?_
  refine gIf_eq X w at_3 (n := 10) (n' := 6) (by decide) rfl rfl ?_ ?_
  · rintro ⟨c3, c3'⟩
    refine gIconst X w at_10 (z := (0 : Int32)) rfl (n := 11) rfl ?_
    refine gIstoreN X w at_11 #[.val (.int p1), .val (.int p2), .val (.int (0 : Int32)), .unset, .unset, .unset] rfl (n := 12) rfl ?_
    refine gIloadN X w at_12 rfl (n := 13) rfl ?_
    refine gIconst X w at_13 (z := (1 : Int32)) rfl (n := 14) rfl ?_
    obtain ⟨x14, q14⟩ : ∃ zz_ : Int32, p2 &&& (1 : Int32) = zz_ := ⟨_, rfl⟩
    refine gIand X w at_14 q14 (n := 15) rfl ?_
    refine gIf_eq X w at_15 (n := 22) (n' := 18) (by decide) rfl rfl ?_ ?_
    · rintro ⟨c15, c15'⟩
      refine gIconst X w at_22 (z := (0 : Int32)) rfl (n := 23) rfl ?_
      refine gIstoreN X w at_23 #[.val (.int p1), .val (.int p2), .val (.int (0 : Int32)), .val (.int (0 : Int32)), .unset, .unset] rfl (n := 24) rfl ?_
      refine gIloadN X w at_24 rfl (n := 25) rfl ?_
      refine gIloadN X w at_25 rfl (n := 26) rfl ?_
      refine gCallSv X w [(.int (0 : Int32)), (.int (0 : Int32))] [] (own_of_00 l Z a0 hw sWEAK_PERMIT sALLOW sDENY sSTRONG_PERMIT sWEAK_PROHIBITION sSTRONG_PROHIBITION h0 n0 hn G) (own_wd hw 0 rfl) (own_wd hw 1 rfl) (own_wd hw 2 rfl) (own_wd hw 3 rfl) (by decide) own_pd0 rfl rfl at_26 rfl (W := 0) (Nat.le_of_eq rfl) (by decide) (by decide) (by decide) (by decide) (n := 29) rfl ?_
      rintro T _ _ ⟨rfl, rfl⟩ X
      refine gAstore X w at_29 rfl #[.val (.int p1), .val (.int p2), .val (.int (0 : Int32)), .val (.int (0 : Int32)), .val (.ref sSTRONG_PERMIT), .unset] rfl (n := 31) rfl ?_
      refine gAload X w at_31 rfl rfl (n := 33) rfl ?_
      refine gIfnonnullY X w at_33 (by decide) (n := 38) rfl ?_
      refine gAload X w at_38 rfl rfl (n := 40) rfl ?_
      refine gCallVv X w [] [] E_sSTRONG_PERMIT (own_proh_sSTRONG_PERMIT l Z a0 hw sWEAK_PERMIT sALLOW sDENY sSTRONG_PERMIT sWEAK_PROHIBITION sSTRONG_PROHIBITION h0 n0 hn G) (own_wd hw 6 rfl) (own_wd hw 7 rfl) (notFace_of_selects (args := #[]) (mvT w.2.2.1 (own_wd hw 9 rfl))) (own_wd hw 9 rfl) (own_wd hw 8 rfl) (own_wd hw 2 rfl) (own_wd hw 10 rfl) (by decide) own_pd1 rfl rfl at_40 rfl (W := 0) (Nat.le_of_eq rfl) (by decide) (by decide) (by decide) (by decide) (n := 43) rfl ?_
      rintro T _ _ ⟨rfl, rfl⟩ X
      refine gIloadN X w at_43 rfl (n := 44) rfl ?_
      refine gIcmp_eq X w at_44 (n := 49) (n' := 47) (by decide) rfl rfl ?_ ?_
      · rintro ⟨c44, c44'⟩
        refine gAload X w at_49 rfl rfl (n := 51) rfl ?_
        refine gCallVv X w [] [] E_sSTRONG_PERMIT (own_weak_sSTRONG_PERMIT l Z a0 hw sWEAK_PERMIT sALLOW sDENY sSTRONG_PERMIT sWEAK_PROHIBITION sSTRONG_PROHIBITION h0 n0 hn G) (own_wd hw 17 rfl) (own_wd hw 18 rfl) (notFace_of_selects (args := #[]) (mvT w.2.2.1 (own_wd hw 20 rfl))) (own_wd hw 20 rfl) (own_wd hw 19 rfl) (own_wd hw 2 rfl) (own_wd hw 21 rfl) (by decide) own_pd1 rfl rfl at_51 rfl (W := 0) (Nat.le_of_eq rfl) (by decide) (by decide) (by decide) (by decide) (n := 54) rfl ?_
        rintro T _ _ ⟨rfl, rfl⟩ X
        refine gIloadN X w at_54 rfl (n := 55) rfl ?_
        refine gIcmp_eq X w at_55 (n := 60) (n' := 58) (by decide) rfl rfl ?_ ?_
        · rintro ⟨c55, c55'⟩
          refine gIloadN X w at_60 rfl (n := 61) rfl ?_
          refine gIf_eq X w at_61 (n := 70) (n' := 64) (by decide) rfl rfl ?_ ?_
          · rintro ⟨c61, c61'⟩
            refine gGetS X w (own_wd hw 24 rfl) Via.refl S_sALLOW at_70 (n := 73) rfl ?_
            intro T X
            refine gAstore X w at_73 rfl #[.val (.int p1), .val (.int p2), .val (.int (0 : Int32)), .val (.int (0 : Int32)), .val (.ref sSTRONG_PERMIT), .val (.ref sALLOW)] rfl (n := 75) rfl ?_
            refine gAload X w at_75 rfl rfl (n := 77) rfl ?_
            refine gCallVv X w [] [] E_sSTRONG_PERMIT (own_dec_sSTRONG_PERMIT l Z a0 hw sWEAK_PERMIT sALLOW sDENY sSTRONG_PERMIT sWEAK_PROHIBITION sSTRONG_PROHIBITION h0 n0 hn G) (own_wd hw 25 rfl) (own_wd hw 26 rfl) (notFace_of_selects (args := #[]) (mvT w.2.2.1 (own_wd hw 28 rfl))) (own_wd hw 28 rfl) (own_wd hw 27 rfl) (own_wd hw 2 rfl) (own_wd hw 29 rfl) (by decide) own_pd2 rfl rfl at_77 rfl (W := 0) (Nat.le_of_eq rfl) (by decide) (by decide) (by decide) (by decide) (n := 80) rfl ?_
            rintro T _ _ ⟨rfl, rfl⟩ X
            refine gAload X w at_80 rfl rfl (n := 82) rfl ?_
            refine gAcmp_ne X w at_82 rfl rfl (n := 89) (n' := 85) (by decide) rfl rfl ?_ ?_
            · intro c82
              exact absurd rfl c82
            · intro c82
              refine gIconst X w at_85 (z := (1 : Int32)) rfl (n := 86) rfl ?_
              refine gGoto X w at_86 (by decide) (n := 90) rfl ?_
              exact gRetZ X w rfl (Or.inr rfl) at_90 (by decide) (by decide) (rfl)
          · rintro ⟨c61, c61'⟩
            exact absurd c61 (by decide)
        · rintro ⟨c55, c55'⟩
          exact absurd c55 (by decide)
      · rintro ⟨c44, c44'⟩
        exact absurd c44 (by decide)
    · rintro ⟨c15, c15'⟩
      refine gIconst X w at_18 (z := (1 : Int32)) rfl (n := 19) rfl ?_
      refine gGoto X w at_19 (by decide) (n := 23) rfl ?_
      refine gIstoreN X w at_23 #[.val (.int p1), .val (.int p2), .val (.int (0 : Int32)), .val (.int (1 : Int32)), .unset, .unset] rfl (n := 24) rfl ?_
      refine gIloadN X w at_24 rfl (n := 25) rfl ?_
      refine gIloadN X w at_25 rfl (n := 26) rfl ?_
      refine gCallSv X w [(.int (0 : Int32)), (.int (1 : Int32))] [] (own_of_01 l Z a0 hw sWEAK_PERMIT sALLOW sDENY sSTRONG_PERMIT sWEAK_PROHIBITION sSTRONG_PROHIBITION h0 n0 hn G) (own_wd hw 0 rfl) (own_wd hw 1 rfl) (own_wd hw 2 rfl) (own_wd hw 3 rfl) (by decide) own_pd0 rfl rfl at_26 rfl (W := 0) (Nat.le_of_eq rfl) (by decide) (by decide) (by decide) (by decide) (n := 29) rfl ?_
      rintro T _ _ ⟨rfl, rfl⟩ X
      refine gAstore X w at_29 rfl #[.val (.int p1), .val (.int p2), .val (.int (0 : Int32)), .val (.int (1 : Int32)), .val (.ref sWEAK_PERMIT), .unset] rfl (n := 31) rfl ?_
      refine gAload X w at_31 rfl rfl (n := 33) rfl ?_
      refine gIfnonnullY X w at_33 (by decide) (n := 38) rfl ?_
      refine gAload X w at_38 rfl rfl (n := 40) rfl ?_
      refine gCallVv X w [] [] E_sWEAK_PERMIT (own_proh_sWEAK_PERMIT l Z a0 hw sWEAK_PERMIT sALLOW sDENY sSTRONG_PERMIT sWEAK_PROHIBITION sSTRONG_PROHIBITION h0 n0 hn G) (own_wd hw 6 rfl) (own_wd hw 7 rfl) (notFace_of_selects (args := #[]) (mvT w.2.2.1 (own_wd hw 9 rfl))) (own_wd hw 9 rfl) (own_wd hw 8 rfl) (own_wd hw 2 rfl) (own_wd hw 10 rfl) (by decide) own_pd1 rfl rfl at_40 rfl (W := 0) (Nat.le_of_eq rfl) (by decide) (by decide) (by decide) (by decide) (n := 43) rfl ?_
      rintro T _ _ ⟨rfl, rfl⟩ X
      refine gIloadN X w at_43 rfl (n := 44) rfl ?_
      refine gIcmp_eq X w at_44 (n := 49) (n' := 47) (by decide) rfl rfl ?_ ?_
      · rintro ⟨c44, c44'⟩
        refine gAload X w at_49 rfl rfl (n := 51) rfl ?_
        refine gCallVv X w [] [] E_sWEAK_PERMIT (own_weak_sWEAK_PERMIT l Z a0 hw sWEAK_PERMIT sALLOW sDENY sSTRONG_PERMIT sWEAK_PROHIBITION sSTRONG_PROHIBITION h0 n0 hn G) (own_wd hw 17 rfl) (own_wd hw 18 rfl) (notFace_of_selects (args := #[]) (mvT w.2.2.1 (own_wd hw 20 rfl))) (own_wd hw 20 rfl) (own_wd hw 19 rfl) (own_wd hw 2 rfl) (own_wd hw 21 rfl) (by decide) own_pd1 rfl rfl at_51 rfl (W := 0) (Nat.le_of_eq rfl) (by decide) (by decide) (by decide) (by decide) (n := 54) rfl ?_
        rintro T _ _ ⟨rfl, rfl⟩ X
        refine gIloadN X w at_54 rfl (n := 55) rfl ?_
        refine gIcmp_eq X w at_55 (n := 60) (n' := 58) (by decide) rfl rfl ?_ ?_
        · rintro ⟨c55, c55'⟩
          refine gIloadN X w at_60 rfl (n := 61) rfl ?_
          refine gIf_eq X w at_61 (n := 70) (n' := 64) (by decide) rfl rfl ?_ ?_
          · rintro ⟨c61, c61'⟩
            refine gGetS X w (own_wd hw 24 rfl) Via.refl S_sALLOW at_70 (n := 73) rfl ?_
            intro T X
            refine gAstore X w at_73 rfl #[.val (.int p1), .val (.int p2), .val (.int (0 : Int32)), .val (.int (1 : Int32)), .val (.ref sWEAK_PERMIT), .val (.ref sALLOW)] rfl (n := 75) rfl ?_
            refine gAload X w at_75 rfl rfl (n := 77) rfl ?_
            refine gCallVv X w [] [] E_sWEAK_PERMIT (own_dec_sWEAK_PERMIT l Z a0 hw sWEAK_PERMIT sALLOW sDENY sSTRONG_PERMIT sWEAK_PROHIBITION sSTRONG_PROHIBITION h0 n0 hn G) (own_wd hw 25 rfl) (own_wd hw 26 rfl) (notFace_of_selects (args := #[]) (mvT w.2.2.1 (own_wd hw 28 rfl))) (own_wd hw 28 rfl) (own_wd hw 27 rfl) (own_wd hw 2 rfl) (own_wd hw 29 rfl) (by decide) own_pd2 rfl rfl at_77 rfl (W := 0) (Nat.le_of_eq rfl) (by decide) (by decide) (by decide) (by decide) (n := 80) rfl ?_
            rintro T _ _ ⟨rfl, rfl⟩ X
            refine gAload X w at_80 rfl rfl (n := 82) rfl ?_
            refine gAcmp_ne X w at_82 rfl rfl (n := 89) (n' := 85) (by decide) rfl rfl ?_ ?_
            · intro c82
              exact absurd rfl c82
            · intro c82
              refine gIconst X w at_85 (z := (1 : Int32)) rfl (n := 86) rfl ?_
              refine gGoto X w at_86 (by decide) (n := 90) rfl ?_
              exact gRetZ X w rfl (Or.inr rfl) at_90 (by decide) (by decide) (rfl)
          · rintro ⟨c61, c61'⟩
            exact absurd c61 (by decide)
        · rintro ⟨c55, c55'⟩
          exact absurd c55 (by decide)
      · rintro ⟨c44, c44'⟩
        exact absurd c44 (by decide)
  · rintro ⟨c3, c3'⟩
    refine gIconst X w at_6 (z := (1 : Int32)) rfl (n := 7) rfl ?_
    refine gGoto X w at_7 (by decide) (n := 11) rfl ?_
    refine gIstoreN X w at_11 #[.val (.int p1), .val (.int p2), .val (.int (1 : Int32)), .unset, .unset, .unset] rfl (n := 12) rfl ?_
    refine gIloadN X w at_12 rfl (n := 13) rfl ?_
    refine gIconst X w at_13 (z := (1 : Int32)) rfl (n := 14) rfl ?_
    obtain ⟨x14, q14⟩ : ∃ zz_ : Int32, p2 &&& (1 : Int32) = zz_ := ⟨_, rfl⟩
    refine gIand X w at_14 q14 (n := 15) rfl ?_
    refine gIf_eq X w at_15 (n := 22) (n' := 18) (by decide) rfl rfl ?_ ?_
    · rintro ⟨c15, c15'⟩
      refine gIconst X w at_22 (z := (0 : Int32)) rfl (n := 23) rfl ?_
      refine gIstoreN X w at_23 #[.val (.int p1), .val (.int p2), .val (.int (1 : Int32)), .val (.int (0 : Int32)), .unset, .unset] rfl (n := 24) rfl ?_
      refine gIloadN X w at_24 rfl (n := 25) rfl ?_
      refine gIloadN X w at_25 rfl (n := 26) rfl ?_
      refine gCallSv X w [(.int (1 : Int32)), (.int (0 : Int32))] [] (own_of_10 l Z a0 hw sWEAK_PERMIT sALLOW sDENY sSTRONG_PERMIT sWEAK_PROHIBITION sSTRONG_PROHIBITION h0 n0 hn G) (own_wd hw 0 rfl) (own_wd hw 1 rfl) (own_wd hw 2 rfl) (own_wd hw 3 rfl) (by decide) own_pd0 rfl rfl at_26 rfl (W := 0) (Nat.le_of_eq rfl) (by decide) (by decide) (by decide) (by decide) (n := 29) rfl ?_
      rintro T _ _ ⟨rfl, rfl⟩ X
      refine gAstore X w at_29 rfl #[.val (.int p1), .val (.int p2), .val (.int (1 : Int32)), .val (.int (0 : Int32)), .val (.ref sSTRONG_PROHIBITION), .unset] rfl (n := 31) rfl ?_
      refine gAload X w at_31 rfl rfl (n := 33) rfl ?_
      refine gIfnonnullY X w at_33 (by decide) (n := 38) rfl ?_
      refine gAload X w at_38 rfl rfl (n := 40) rfl ?_
      refine gCallVv X w [] [] E_sSTRONG_PROHIBITION (own_proh_sSTRONG_PROHIBITION l Z a0 hw sWEAK_PERMIT sALLOW sDENY sSTRONG_PERMIT sWEAK_PROHIBITION sSTRONG_PROHIBITION h0 n0 hn G) (own_wd hw 6 rfl) (own_wd hw 7 rfl) (notFace_of_selects (args := #[]) (mvT w.2.2.1 (own_wd hw 9 rfl))) (own_wd hw 9 rfl) (own_wd hw 8 rfl) (own_wd hw 2 rfl) (own_wd hw 10 rfl) (by decide) own_pd1 rfl rfl at_40 rfl (W := 0) (Nat.le_of_eq rfl) (by decide) (by decide) (by decide) (by decide) (n := 43) rfl ?_
      rintro T _ _ ⟨rfl, rfl⟩ X
      refine gIloadN X w at_43 rfl (n := 44) rfl ?_
      refine gIcmp_eq X w at_44 (n := 49) (n' := 47) (by decide) rfl rfl ?_ ?_
      · rintro ⟨c44, c44'⟩
        refine gAload X w at_49 rfl rfl (n := 51) rfl ?_
        refine gCallVv X w [] [] E_sSTRONG_PROHIBITION (own_weak_sSTRONG_PROHIBITION l Z a0 hw sWEAK_PERMIT sALLOW sDENY sSTRONG_PERMIT sWEAK_PROHIBITION sSTRONG_PROHIBITION h0 n0 hn G) (own_wd hw 17 rfl) (own_wd hw 18 rfl) (notFace_of_selects (args := #[]) (mvT w.2.2.1 (own_wd hw 20 rfl))) (own_wd hw 20 rfl) (own_wd hw 19 rfl) (own_wd hw 2 rfl) (own_wd hw 21 rfl) (by decide) own_pd1 rfl rfl at_51 rfl (W := 0) (Nat.le_of_eq rfl) (by decide) (by decide) (by decide) (by decide) (n := 54) rfl ?_
        rintro T _ _ ⟨rfl, rfl⟩ X
        refine gIloadN X w at_54 rfl (n := 55) rfl ?_
        refine gIcmp_eq X w at_55 (n := 60) (n' := 58) (by decide) rfl rfl ?_ ?_
        · rintro ⟨c55, c55'⟩
          refine gIloadN X w at_60 rfl (n := 61) rfl ?_
          refine gIf_eq X w at_61 (n := 70) (n' := 64) (by decide) rfl rfl ?_ ?_
          · rintro ⟨c61, c61'⟩
            exact absurd c61 (by decide)
          · rintro ⟨c61, c61'⟩
            refine gGetS X w (own_wd hw 34 rfl) Via.refl S_sDENY at_64 (n := 67) rfl ?_
            intro T X
            refine gGoto X w at_67 (by decide) (n := 73) rfl ?_
            refine gAstore X w at_73 rfl #[.val (.int p1), .val (.int p2), .val (.int (1 : Int32)), .val (.int (0 : Int32)), .val (.ref sSTRONG_PROHIBITION), .val (.ref sDENY)] rfl (n := 75) rfl ?_
            refine gAload X w at_75 rfl rfl (n := 77) rfl ?_
            refine gCallVv X w [] [] E_sSTRONG_PROHIBITION (own_dec_sSTRONG_PROHIBITION l Z a0 hw sWEAK_PERMIT sALLOW sDENY sSTRONG_PERMIT sWEAK_PROHIBITION sSTRONG_PROHIBITION h0 n0 hn G) (own_wd hw 25 rfl) (own_wd hw 26 rfl) (notFace_of_selects (args := #[]) (mvT w.2.2.1 (own_wd hw 28 rfl))) (own_wd hw 28 rfl) (own_wd hw 27 rfl) (own_wd hw 2 rfl) (own_wd hw 29 rfl) (by decide) own_pd2 rfl rfl at_77 rfl (W := 0) (Nat.le_of_eq rfl) (by decide) (by decide) (by decide) (by decide) (n := 80) rfl ?_
            rintro T _ _ ⟨rfl, rfl⟩ X
            refine gAload X w at_80 rfl rfl (n := 82) rfl ?_
            refine gAcmp_ne X w at_82 rfl rfl (n := 89) (n' := 85) (by decide) rfl rfl ?_ ?_
            · intro c82
              exact absurd rfl c82
            · intro c82
              refine gIconst X w at_85 (z := (1 : Int32)) rfl (n := 86) rfl ?_
              refine gGoto X w at_86 (by decide) (n := 90) rfl ?_
              exact gRetZ X w rfl (Or.inr rfl) at_90 (by decide) (by decide) (rfl)
        · rintro ⟨c55, c55'⟩
          exact absurd c55 (by decide)
      · rintro ⟨c44, c44'⟩
        exact absurd c44 (by decide)
    · rintro ⟨c15, c15'⟩
      refine gIconst X w at_18 (z := (1 : Int32)) rfl (n := 19) rfl ?_
      refine gGoto X w at_19 (by decide) (n := 23) rfl ?_
      refine gIstoreN X w at_23 #[.val (.int p1), .val (.int p2), .val (.int (1 : Int32)), .val (.int (1 : Int32)), .unset, .unset] rfl (n := 24) rfl ?_
      refine gIloadN X w at_24 rfl (n := 25) rfl ?_
      refine gIloadN X w at_25 rfl (n := 26) rfl ?_
      refine gCallSv X w [(.int (1 : Int32)), (.int (1 : Int32))] [] (own_of_11 l Z a0 hw sWEAK_PERMIT sALLOW sDENY sSTRONG_PERMIT sWEAK_PROHIBITION sSTRONG_PROHIBITION h0 n0 hn G) (own_wd hw 0 rfl) (own_wd hw 1 rfl) (own_wd hw 2 rfl) (own_wd hw 3 rfl) (by decide) own_pd0 rfl rfl at_26 rfl (W := 0) (Nat.le_of_eq rfl) (by decide) (by decide) (by decide) (by decide) (n := 29) rfl ?_
      rintro T _ _ ⟨rfl, rfl⟩ X
      refine gAstore X w at_29 rfl #[.val (.int p1), .val (.int p2), .val (.int (1 : Int32)), .val (.int (1 : Int32)), .val (.ref sWEAK_PROHIBITION), .unset] rfl (n := 31) rfl ?_
      refine gAload X w at_31 rfl rfl (n := 33) rfl ?_
      refine gIfnonnullY X w at_33 (by decide) (n := 38) rfl ?_
      refine gAload X w at_38 rfl rfl (n := 40) rfl ?_
      refine gCallVv X w [] [] E_sWEAK_PROHIBITION (own_proh_sWEAK_PROHIBITION l Z a0 hw sWEAK_PERMIT sALLOW sDENY sSTRONG_PERMIT sWEAK_PROHIBITION sSTRONG_PROHIBITION h0 n0 hn G) (own_wd hw 6 rfl) (own_wd hw 7 rfl) (notFace_of_selects (args := #[]) (mvT w.2.2.1 (own_wd hw 9 rfl))) (own_wd hw 9 rfl) (own_wd hw 8 rfl) (own_wd hw 2 rfl) (own_wd hw 10 rfl) (by decide) own_pd1 rfl rfl at_40 rfl (W := 0) (Nat.le_of_eq rfl) (by decide) (by decide) (by decide) (by decide) (n := 43) rfl ?_
      rintro T _ _ ⟨rfl, rfl⟩ X
      refine gIloadN X w at_43 rfl (n := 44) rfl ?_
      refine gIcmp_eq X w at_44 (n := 49) (n' := 47) (by decide) rfl rfl ?_ ?_
      · rintro ⟨c44, c44'⟩
        refine gAload X w at_49 rfl rfl (n := 51) rfl ?_
        refine gCallVv X w [] [] E_sWEAK_PROHIBITION (own_weak_sWEAK_PROHIBITION l Z a0 hw sWEAK_PERMIT sALLOW sDENY sSTRONG_PERMIT sWEAK_PROHIBITION sSTRONG_PROHIBITION h0 n0 hn G) (own_wd hw 17 rfl) (own_wd hw 18 rfl) (notFace_of_selects (args := #[]) (mvT w.2.2.1 (own_wd hw 20 rfl))) (own_wd hw 20 rfl) (own_wd hw 19 rfl) (own_wd hw 2 rfl) (own_wd hw 21 rfl) (by decide) own_pd1 rfl rfl at_51 rfl (W := 0) (Nat.le_of_eq rfl) (by decide) (by decide) (by decide) (by decide) (n := 54) rfl ?_
        rintro T _ _ ⟨rfl, rfl⟩ X
        refine gIloadN X w at_54 rfl (n := 55) rfl ?_
        refine gIcmp_eq X w at_55 (n := 60) (n' := 58) (by decide) rfl rfl ?_ ?_
        · rintro ⟨c55, c55'⟩
          refine gIloadN X w at_60 rfl (n := 61) rfl ?_
          refine gIf_eq X w at_61 (n := 70) (n' := 64) (by decide) rfl rfl ?_ ?_
          · rintro ⟨c61, c61'⟩
            exact absurd c61 (by decide)
          · rintro ⟨c61, c61'⟩
            refine gGetS X w (own_wd hw 34 rfl) Via.refl S_sDENY at_64 (n := 67) rfl ?_
            intro T X
            refine gGoto X w at_67 (by decide) (n := 73) rfl ?_
            refine gAstore X w at_73 rfl #[.val (.int p1), .val (.int p2), .val (.int (1 : Int32)), .val (.int (1 : Int32)), .val (.ref sWEAK_PROHIBITION), .val (.ref sDENY)] rfl (n := 75) rfl ?_
            refine gAload X w at_75 rfl rfl (n := 77) rfl ?_
            refine gCallVv X w [] [] E_sWEAK_PROHIBITION (own_dec_sWEAK_PROHIBITION l Z a0 hw sWEAK_PERMIT sALLOW sDENY sSTRONG_PERMIT sWEAK_PROHIBITION sSTRONG_PROHIBITION h0 n0 hn G) (own_wd hw 25 rfl) (own_wd hw 26 rfl) (notFace_of_selects (args := #[]) (mvT w.2.2.1 (own_wd hw 28 rfl))) (own_wd hw 28 rfl) (own_wd hw 27 rfl) (own_wd hw 2 rfl) (own_wd hw 29 rfl) (by decide) own_pd2 rfl rfl at_77 rfl (W := 0) (Nat.le_of_eq rfl) (by decide) (by decide) (by decide) (by decide) (n := 80) rfl ?_
            rintro T _ _ ⟨rfl, rfl⟩ X
            refine gAload X w at_80 rfl rfl (n := 82) rfl ?_
            refine gAcmp_ne X w at_82 rfl rfl (n := 89) (n' := 85) (by decide) rfl rfl ?_ ?_
            · intro c82
              exact absurd rfl c82
            · intro c82
              refine gIconst X w at_85 (z := (1 : Int32)) rfl (n := 86) rfl ?_
              refine gGoto X w at_86 (by decide) (n := 90) rfl ?_
              exact gRetZ X w rfl (Or.inr rfl) at_90 (by decide) (by decide) (rfl)
        · rintro ⟨c55, c55'⟩
          exact absurd c55 (by decide)
      · rintro ⟨c44, c44'⟩
        exact absurd c44 (by decide)
set_option maxRecDepth 65536 in
set_option maxHeartbeats 40000000 in
theorem comes_1 {Post : Tables → Env → Array Value → State → Outcome → State → Prop} (hpost : ∀ tb e args s v u, (limb_1_1.after args s (.returned v) u = true ∧ limb_1_2.after args s (.returned v) u = true ∧ True) → FrameEnd s (.returned v) u (Jvm.fieldLocs frame_1_writes args s ++ Jvm.arrayLocs frame_1_arrays args s ++ Jvm.staticLocs frame_1_statics s) 0 0 → Post tb e args s (.returned v) u) :
    ArmFor flags0 classFile x code maxLocals ret World_1 tables_1 room_1 Calls_1 rest_1 Pre_1 Post := by
  intro l hfl _ _ p e ha hc hk s m args below hf hA hF happ hP
  obtain ⟨hcalls, hrest, hpre⟩ := hP
  obtain ⟨-, -, -, hnamed, -, -, -, hat⟩ := (Spec.applies_iff hf).mp happ
  obtain ⟨hg, hn⟩ := and_e (Cond.before_iff.mp (show (Jvm.Cond.and given_1 narrow_1).before args s = true from hpre))
  obtain ⟨hcnt, g0⟩ := and_e hg
  obtain ⟨w0, w1, rfl⟩ : ∃ w0 w1 : Value, args = #[w0, w1] := by
    have hs : args.size = 2 := by simpa [Cond.value, given_1] using hcnt
    obtain ⟨L⟩ := args
    match L, hs with
    | [w0, w1], _ => exact ⟨w0, w1, rfl⟩
  have hw := fun d (hd : d ∈ tables_1) => atoms_spec (ws := Jvm.Cond.code x code maxLocals ret :: tables_1) hat d (List.mem_cons_of_mem _ hd)
  have hfit : Fit s := fun {y c} hc i hi => by
    obtain ⟨ha, rfl⟩ := Array.getElem?_eq_some_iff.mp hc
    have q := List.all_eq_true.mp ((Array.all_eq_true_iff_forall_mem.mp hF) _ (Array.getElem_mem ha)) i (List.mem_range.mpr hi)
    simpa [Array.getElem?_eq_getElem hi] using q
  obtain ⟨k0, g1⟩ := and_e g0
  obtain ⟨i0, e0⟩ := is_v k0
  obtain rfl : w0 = (.int i0) := Option.some.inj e0
  obtain ⟨i1, e1⟩ := is_v g1
  obtain rfl : w1 = (.int i1) := Option.some.inj e1
  obtain ⟨c0, r0⟩ := and_e hn
  obtain ⟨c1, r1⟩ := and_e r0
  obtain ⟨c2, r2⟩ := and_e r1
  obtain ⟨c3, r3⟩ := and_e r2
  obtain ⟨c4, r4⟩ := and_e r3
  obtain ⟨c5, r5⟩ := and_e r4
  obtain ⟨c6, r6⟩ := and_e r5
  obtain ⟨c7, r7⟩ := and_e r6
  obtain ⟨c8, r8⟩ := and_e r7
  obtain ⟨c9, r9⟩ := and_e r8
  obtain ⟨c10, r10⟩ := and_e r9
  obtain ⟨c11, r11⟩ := and_e r10
  obtain ⟨c12, r12⟩ := and_e r11
  obtain ⟨c13, r13⟩ := and_e r12
  obtain ⟨c14, r14⟩ := and_e r13
  have c15 := r14
  obtain ⟨sWEAK_PERMIT, v_sWEAK_PERMIT⟩ := exa_v c0
  have E_sWEAK_PERMIT := Exa.start v_sWEAK_PERMIT c0
  have S_sWEAK_PERMIT := Sta.start v_sWEAK_PERMIT (Or.inr ⟨(own_wd hw 2 rfl), (own_wd hw 5 rfl)⟩)
  obtain ⟨sALLOW, v_sALLOW⟩ := exa_v c1
  have E_sALLOW := Exa.start v_sALLOW c1
  have S_sALLOW := Sta.start v_sALLOW (Or.inr ⟨(own_wd hw 13 rfl), (own_wd hw 14 rfl)⟩)
  obtain ⟨sDENY, v_sDENY⟩ := exa_v c3
  have E_sDENY := Exa.start v_sDENY c3
  have S_sDENY := Sta.start v_sDENY (Or.inr ⟨(own_wd hw 13 rfl), (own_wd hw 16 rfl)⟩)
  obtain ⟨sSTRONG_PERMIT, v_sSTRONG_PERMIT⟩ := exa_v c7
  have E_sSTRONG_PERMIT := Exa.start v_sSTRONG_PERMIT c7
  have S_sSTRONG_PERMIT := Sta.start v_sSTRONG_PERMIT (Or.inr ⟨(own_wd hw 2 rfl), (own_wd hw 31 rfl)⟩)
  obtain ⟨sWEAK_PROHIBITION, v_sWEAK_PROHIBITION⟩ := exa_v c10
  have E_sWEAK_PROHIBITION := Exa.start v_sWEAK_PROHIBITION c10
  have S_sWEAK_PROHIBITION := Sta.start v_sWEAK_PROHIBITION (Or.inr ⟨(own_wd hw 2 rfl), (own_wd hw 33 rfl)⟩)
  obtain ⟨sSTRONG_PROHIBITION, v_sSTRONG_PROHIBITION⟩ := exa_v c13
  have E_sSTRONG_PROHIBITION := Exa.start v_sSTRONG_PROHIBITION c13
  have S_sSTRONG_PROHIBITION := Sta.start v_sSTRONG_PROHIBITION (Or.inr ⟨(own_wd hw 2 rfl), (own_wd hw 36 rfl)⟩)
  have L_sWEAK_PERMIT_decision := Fld.start ((fld_at v_sWEAK_PERMIT).symm.trans (eqR v_sALLOW c2))
  have L_sALLOW_ordinal := Fld.start ((fld_at v_sALLOW).symm.trans (eqI rfl c4))
  have L_sDENY_ordinal := Fld.start ((fld_at v_sDENY).symm.trans (eqI rfl c5))
  have L_sWEAK_PERMIT_weak := Fld.start ((fld_at v_sWEAK_PERMIT).symm.trans (eqI rfl c6))
  have L_sSTRONG_PERMIT_decision := Fld.start ((fld_at v_sSTRONG_PERMIT).symm.trans (eqR v_sALLOW c8))
  have L_sSTRONG_PERMIT_weak := Fld.start ((fld_at v_sSTRONG_PERMIT).symm.trans (eqI rfl c9))
  have L_sWEAK_PROHIBITION_decision := Fld.start ((fld_at v_sWEAK_PROHIBITION).symm.trans (eqR v_sDENY c11))
  have L_sWEAK_PROHIBITION_weak := Fld.start ((fld_at v_sWEAK_PROHIBITION).symm.trans (eqI rfl c12))
  have L_sSTRONG_PROHIBITION_decision := Fld.start ((fld_at v_sSTRONG_PROHIBITION).symm.trans (eqR v_sDENY c14))
  have L_sSTRONG_PROHIBITION_weak := Fld.start ((fld_at v_sSTRONG_PROHIBITION).symm.trans (eqI rfl c15))
  have G : own_env s s.heap sWEAK_PERMIT sALLOW sDENY sSTRONG_PERMIT sWEAK_PROHIBITION sSTRONG_PROHIBITION := ⟨S_sWEAK_PERMIT, E_sWEAK_PERMIT, S_sALLOW, E_sALLOW, S_sDENY, E_sDENY, S_sSTRONG_PERMIT, E_sSTRONG_PERMIT, S_sWEAK_PROHIBITION, E_sWEAK_PROHIBITION, S_sSTRONG_PROHIBITION, E_sSTRONG_PROHIBITION, L_sWEAK_PERMIT_decision, L_sALLOW_ordinal, L_sDENY_ordinal, L_sWEAK_PERMIT_weak, L_sSTRONG_PERMIT_decision, L_sSTRONG_PERMIT_weak, L_sWEAK_PROHIBITION_decision, L_sWEAK_PROHIBITION_weak, L_sSTRONG_PROHIBITION_decision, L_sSTRONG_PROHIBITION_weak⟩
  obtain ⟨n, o, h1, h2, h3, _, L, rfl, ⟨rfl, N⟩, hq⟩ := own_law l s _ hw i0 i1 sWEAK_PERMIT sALLOW sDENY sSTRONG_PERMIT sWEAK_PROHIBITION sSTRONG_PROHIBITION s.heap s.heap.size (Nat.le_refl _) G p e ha hc hk s m _ below hf ((Spec.applies_iff_loose hf).mp happ).1 ⟨rfl, State.Warmed39.refl s, rfl⟩ trivial
  refine ⟨n, _, h1, h2, h3, hpost _ _ _ _ _ _ ⟨Cond.after_iff.mpr rfl, Cond.after_iff.mpr (eq_i res_at (Term.int_eval (1)) rfl), trivial⟩ ⟨hq.1, hq.2.1, (hq.2.2.sift fun y hy => Or.inr (N y hy)).mono (by decide) (by decide)⟩⟩
theorem main_1_1 : Claimed_1_1 := comes_1 fun _ _ _ _ _ _ h hF => ⟨h.1, hF⟩
theorem main_1_2 : Claimed_1_2 := comes_1 fun _ _ _ _ _ _ h hF => ⟨h.2.1, hF⟩
end Jvm.Pilot.@@N@@
namespace Jvm.Pilot.@@N@@
open Jvm Jvm.ClassFile Sem Op Lib Jvm.Free Jvm.Stand Jvm.Pilot.@@N@@.Jvm.D
/-! MADE BY PROGRAM (witnessworld.py) out of the Statement's table words and the real class files: 13 classes; the members and pool entries that the words name. The judged class is class 1, her method 1. -/
namespace start1
open Jvm.ClassFile
def u (s : String) : CpInfo := .utf8 (stringToUtf16 s)
/-- a pool by its gaps: so many unusable entries, then the entry; so many at the end -/
def gap : Nat → List CpInfo → List CpInfo
  | 0, r => r
  | n + 1, r => .unusable :: gap n r
def poolList (es : List (Nat × CpInfo)) (last : Nat) : List CpInfo := es.foldr (fun e r => gap e.1 (e.2 :: r)) (gap last [])
def pool (es : List (Nat × CpInfo)) (last : Nat) : Array CpInfo := ⟨poolList es last⟩
def fileOf (pool : Array CpInfo) (this : Nat) (attrs : Array Attribute := #[]) (ms : Array MethodInfo := #[]) (fl : Nat := 33) (sup : Nat := 0) (ifs : Array Nat := #[]) (fds : Array FieldInfo := #[]) : ClassFile where
  minorVersion := 0
  majorVersion := 65
  constantPool := pool
  accessFlags := fl
  thisClass := this
  superClass := sup
  interfaces := ifs
  fields := fds
  methods := ms
  attributes := attrs
def plain (name : String) (sup : Option ClassId) : Class where
  name := name
  kind := .ordinary
  loader := none
  accessFlags := 33
  super := sup
  interfaces := #[]
  cf := none
  fields := #[]
  methods := #[]
  instanceTypes := #[]
  staticTypes := #[]
  resolved := #[]
  callSites := []
  init := .initialized
  statics := none
  mirror := none

def pool0 : Array CpInfo := pool [(5, u "<init>"), (0, u "()V"), (1, .class_ 10), (1, u "java/lang/Object")] 113

def k0m0 : Method := { name := "<init>", desc := "()V", sig := { parameters := [], returnType := none }, accessFlags := 1, code := none }
/-- java/lang/Object -/
def k0 : Class := { plain "java/lang/Object" none with
  accessFlags := 33
  interfaces := #[]
  cf := some (fileOf pool0 8 #[] #[{ accessFlags := 1, nameIndex := 5, descriptorIndex := 6, attributes := #[] }] 33 0 #[] #[])
  fields := #[]
  methods := #[k0m0]
  instanceTypes := #[]
  staticTypes := #[]
  resolved := Array.replicate 124 none
  statics := none }

def pool1 : Array CpInfo := pool [(2, .class_ 4), (1, u "java/lang/Object"), (0, u "<init>"), (0, u "()V"), (0, .methodref 8 9), (0, .class_ 10), (0, .nameAndType 11 12), (0, u "com/example/reja/reja/Precedence"), (0, u "of"), (0, u "(ZZ)Lcom/example/reja/reja/Precedence;"), (0, .methodref 8 14), (0, .nameAndType 15 16), (0, u "prohibits"), (0, u "()Z"), (0, .methodref 8 18), (0, .nameAndType 19 16), (0, u "weak"), (0, .fieldref 21 22), (0, .class_ 23), (0, .nameAndType 24 25), (0, u "com/example/reja/reja/Decision"), (0, u "DENY"), (0, u "Lcom/example/reja/reja/Decision;"), (0, .fieldref 21 27), (0, .nameAndType 28 25), (0, u "ALLOW"), (0, .methodref 8 30), (0, .nameAndType 31 32), (0, u "decision"), (0, u "()Lcom/example/reja/reja/Decision;"), (0, .class_ 34), (0, u "com/example/reja/reja/PrecedenceOfPinLaw"), (2, u "law"), (0, u "(II)Z")] 3

def k1m0 : Method := { name := "<init>", desc := "()V", sig := { parameters := [], returnType := none }, accessFlags := 1, code := none }
def k1c1 : Code := { maxStack := 2, maxLocals := 6, code := code, exceptionTable := #[], attributes := #[] }
def k1m1 : Method := { name := "law", desc := "(II)Z", sig := { parameters := [.int, .int], returnType := some .boolean }, accessFlags := 9, code := some k1c1 }
/-- com/example/reja/reja/PrecedenceOfPinLaw -/
def k1 : Class := { plain "com/example/reja/reja/PrecedenceOfPinLaw" (some 0) with
  accessFlags := 49
  interfaces := #[]
  cf := some (fileOf pool1 33 #[] #[{ accessFlags := 1, nameIndex := 5, descriptorIndex := 6, attributes := #[] }, { accessFlags := 9, nameIndex := 37, descriptorIndex := 38, attributes := #[] }] 49 2 #[] #[])
  fields := #[]
  methods := #[k1m0, k1m1]
  instanceTypes := #[]
  staticTypes := #[]
  resolved := Array.replicate 42 none
  statics := none }

def pool2 : Array CpInfo := pool [(1, .class_ 2), (0, u "java/lang/constant/Constable"), (0, .class_ 4), (0, u "java/lang/Object")] 6

/-- java/lang/constant/Constable -/
def k2 : Class := { plain "java/lang/constant/Constable" (some 0) with
  accessFlags := 1537
  interfaces := #[]
  cf := some (fileOf pool2 1 #[] #[] 1537 3 #[] #[])
  fields := #[]
  methods := #[]
  instanceTypes := #[]
  staticTypes := #[]
  resolved := Array.replicate 11 none
  statics := none }

def pool3 : Array CpInfo := pool [(1, .class_ 2), (0, u "java/lang/Comparable"), (0, .class_ 4), (0, u "java/lang/Object")] 7

/-- java/lang/Comparable -/
def k3 : Class := { plain "java/lang/Comparable" (some 0) with
  accessFlags := 1537
  interfaces := #[]
  cf := some (fileOf pool3 1 #[] #[] 1537 3 #[] #[])
  fields := #[]
  methods := #[]
  instanceTypes := #[]
  staticTypes := #[]
  resolved := Array.replicate 12 none
  statics := none }

def pool4 : Array CpInfo := pool [(1, .class_ 2), (0, u "java/io/Serializable"), (0, .class_ 4), (0, u "java/lang/Object")] 2

/-- java/io/Serializable -/
def k4 : Class := { plain "java/io/Serializable" (some 0) with
  accessFlags := 1537
  interfaces := #[]
  cf := some (fileOf pool4 1 #[] #[] 1537 3 #[] #[])
  fields := #[]
  methods := #[]
  instanceTypes := #[]
  staticTypes := #[]
  resolved := Array.replicate 7 none
  statics := none }

def pool5 : Array CpInfo := pool [(2, .class_ 4), (1, u "java/lang/Enum"), (0, u "name"), (0, u "Ljava/lang/String;"), (2, u "ordinal"), (0, u "I"), (1, .class_ 14), (1, u "java/lang/Object"), (4, u "hash"), (86, .class_ 108), (1, u "java/lang/Enum$EnumDesc"), (2, .class_ 112), (0, u "java/lang/constant/Constable"), (0, .class_ 114), (0, u "java/lang/Comparable"), (0, .class_ 116), (0, u "java/io/Serializable")] 87

/-- java/lang/Enum -/
def k5 : Class := { plain "java/lang/Enum" (some 0) with
  accessFlags := 1057
  interfaces := #[2, 3, 4]
  cf := some (fileOf pool5 2 #[.nestMembers #[106]] #[] 1057 12 #[111, 113, 115] #[{ accessFlags := 18, nameIndex := 5, descriptorIndex := 6, attributes := #[] }, { accessFlags := 18, nameIndex := 9, descriptorIndex := 10, attributes := #[] }, { accessFlags := 2, nameIndex := 19, descriptorIndex := 10, attributes := #[] }])
  fields := #[{ name := "name", type := (.object "java/lang/String"), accessFlags := 18, slot := 0, constantValue := 0 }, { name := "ordinal", type := .int, accessFlags := 18, slot := 1, constantValue := 0 }, { name := "hash", type := .int, accessFlags := 2, slot := 2, constantValue := 0 }]
  methods := #[]
  instanceTypes := #[(.object "java/lang/String"), .int, .int]
  staticTypes := #[]
  resolved := Array.replicate 204 none
  statics := none }

def pool6 : Array CpInfo := pool [(1, .class_ 2), (0, u "com/example/reja/reja/Precedence"), (0, .fieldref 1 4), (0, .nameAndType 5 6), (0, u "STRONG_PROHIBITION"), (0, u "Lcom/example/reja/reja/Precedence;"), (0, .fieldref 1 8), (0, .nameAndType 9 6), (0, u "STRONG_PERMIT"), (0, .fieldref 1 11), (0, .nameAndType 12 6), (0, u "WEAK_PROHIBITION"), (0, .fieldref 1 14), (0, .nameAndType 15 6), (0, u "WEAK_PERMIT"), (2, u "$VALUES"), (0, u "[Lcom/example/reja/reja/Precedence;"), (6, .class_ 28), (1, u "java/lang/Enum"), (6, .fieldref 1 36), (0, .nameAndType 37 38), (0, u "decision"), (0, u "Lcom/example/reja/reja/Decision;"), (0, .fieldref 1 40), (0, .nameAndType 41 42), (0, u "weak"), (0, u "Z"), (0, .fieldref 44 45), (0, .class_ 46), (0, .nameAndType 47 38), (0, u "com/example/reja/reja/Decision"), (0, u "DENY"), (21, u "of"), (0, u "(ZZ)Lcom/example/reja/reja/Precedence;"), (1, u "()Lcom/example/reja/reja/Decision;"), (0, u "prohibits"), (0, u "()Z")] 5

def k6c0 : Code := { maxStack := 1, maxLocals := 3, code := prog_5_method_4_code, exceptionTable := #[], attributes := #[] }
def k6m0 : Method := { name := "of", desc := "(ZZ)Lcom/example/reja/reja/Precedence;", sig := { parameters := [.boolean, .boolean], returnType := some (.object "com/example/reja/reja/Precedence") }, accessFlags := 8, code := some k6c0 }
def k6c1 : Code := { maxStack := 1, maxLocals := 1, code := prog_5_method_5_code, exceptionTable := #[], attributes := #[] }
def k6m1 : Method := { name := "decision", desc := "()Lcom/example/reja/reja/Decision;", sig := { parameters := [], returnType := some (.object "com/example/reja/reja/Decision") }, accessFlags := 0, code := some k6c1 }
def k6c2 : Code := { maxStack := 2, maxLocals := 1, code := prog_5_method_6_code, exceptionTable := #[], attributes := #[] }
def k6m2 : Method := { name := "prohibits", desc := "()Z", sig := { parameters := [], returnType := some .boolean }, accessFlags := 0, code := some k6c2 }
def k6c3 : Code := { maxStack := 1, maxLocals := 1, code := prog_5_method_7_code, exceptionTable := #[], attributes := #[] }
def k6m3 : Method := { name := "weak", desc := "()Z", sig := { parameters := [], returnType := some .boolean }, accessFlags := 0, code := some k6c3 }
/-- com/example/reja/reja/Precedence -/
def k6 : Class := { plain "com/example/reja/reja/Precedence" (some 5) with
  accessFlags := 16432
  interfaces := #[]
  cf := some (fileOf pool6 1 #[] #[{ accessFlags := 8, nameIndex := 69, descriptorIndex := 70, attributes := #[] }, { accessFlags := 0, nameIndex := 37, descriptorIndex := 72, attributes := #[] }, { accessFlags := 0, nameIndex := 73, descriptorIndex := 74, attributes := #[] }, { accessFlags := 0, nameIndex := 41, descriptorIndex := 74, attributes := #[] }] 16432 26 #[] #[{ accessFlags := 16409, nameIndex := 5, descriptorIndex := 6, attributes := #[] }, { accessFlags := 16409, nameIndex := 9, descriptorIndex := 6, attributes := #[] }, { accessFlags := 16409, nameIndex := 12, descriptorIndex := 6, attributes := #[] }, { accessFlags := 16409, nameIndex := 15, descriptorIndex := 6, attributes := #[] }, { accessFlags := 18, nameIndex := 37, descriptorIndex := 38, attributes := #[] }, { accessFlags := 18, nameIndex := 41, descriptorIndex := 42, attributes := #[] }, { accessFlags := 4122, nameIndex := 18, descriptorIndex := 19, attributes := #[] }])
  fields := #[{ name := "STRONG_PROHIBITION", type := (.object "com/example/reja/reja/Precedence"), accessFlags := 16409, slot := 0, constantValue := 0 }, { name := "STRONG_PERMIT", type := (.object "com/example/reja/reja/Precedence"), accessFlags := 16409, slot := 1, constantValue := 0 }, { name := "WEAK_PROHIBITION", type := (.object "com/example/reja/reja/Precedence"), accessFlags := 16409, slot := 2, constantValue := 0 }, { name := "WEAK_PERMIT", type := (.object "com/example/reja/reja/Precedence"), accessFlags := 16409, slot := 3, constantValue := 0 }, { name := "decision", type := (.object "com/example/reja/reja/Decision"), accessFlags := 18, slot := 3, constantValue := 0 }, { name := "weak", type := .boolean, accessFlags := 18, slot := 4, constantValue := 0 }, { name := "$VALUES", type := (.array (.object "com/example/reja/reja/Precedence")), accessFlags := 4122, slot := 4, constantValue := 0 }]
  methods := #[k6m0, k6m1, k6m2, k6m3]
  instanceTypes := #[(.object "java/lang/String"), .int, .int, (.object "com/example/reja/reja/Decision"), .boolean]
  staticTypes := #[(.object "com/example/reja/reja/Precedence"), (.object "com/example/reja/reja/Precedence"), (.object "com/example/reja/reja/Precedence"), (.object "com/example/reja/reja/Precedence"), (.array (.object "com/example/reja/reja/Precedence"))]
  resolved := Array.replicate 80 none
  statics := some 0 }

def pool7 : Array CpInfo := pool [(1, .class_ 2), (0, u "com/example/reja/reja/Decision"), (2, u "ALLOW"), (0, u "Lcom/example/reja/reja/Decision;"), (2, u "DENY"), (2, u "$VALUES"), (0, u "[Lcom/example/reja/reja/Decision;"), (6, .class_ 22), (1, u "java/lang/Enum"), (8, u "label"), (0, u "Ljava/lang/String;")] 26

/-- com/example/reja/reja/Decision -/
def k7 : Class := { plain "com/example/reja/reja/Decision" (some 5) with
  accessFlags := 16433
  interfaces := #[]
  cf := some (fileOf pool7 1 #[] #[] 16433 20 #[] #[{ accessFlags := 16409, nameIndex := 5, descriptorIndex := 6, attributes := #[] }, { accessFlags := 16409, nameIndex := 9, descriptorIndex := 6, attributes := #[] }, { accessFlags := 18, nameIndex := 31, descriptorIndex := 32, attributes := #[] }, { accessFlags := 4122, nameIndex := 12, descriptorIndex := 13, attributes := #[] }])
  fields := #[{ name := "ALLOW", type := (.object "com/example/reja/reja/Decision"), accessFlags := 16409, slot := 0, constantValue := 0 }, { name := "DENY", type := (.object "com/example/reja/reja/Decision"), accessFlags := 16409, slot := 1, constantValue := 0 }, { name := "label", type := (.object "java/lang/String"), accessFlags := 18, slot := 3, constantValue := 0 }, { name := "$VALUES", type := (.array (.object "com/example/reja/reja/Decision")), accessFlags := 4122, slot := 2, constantValue := 0 }]
  methods := #[]
  instanceTypes := #[(.object "java/lang/String"), .int, .int, (.object "java/lang/String")]
  staticTypes := #[(.object "com/example/reja/reja/Decision"), (.object "com/example/reja/reja/Decision"), (.array (.object "com/example/reja/reja/Decision"))]
  resolved := Array.replicate 59 none
  statics := some 1 }

def pool8 : Array CpInfo := pool [(1, u "java/lang/Cloneable"), (0, .class_ 1), (0, u "java/lang/Object"), (0, .class_ 3)] 3

/-- java/lang/Cloneable -/
def k8 : Class := { plain "java/lang/Cloneable" (some 0) with
  accessFlags := 1537
  interfaces := #[]
  cf := some (fileOf pool8 2 #[] #[] 1537 4 #[] #[])
  fields := #[]
  methods := #[]
  instanceTypes := #[]
  staticTypes := #[]
  resolved := Array.replicate 8 none
  statics := none }

/-- the primitive byte -/
def k9 : Class := { plain "byte" none with kind := .primitive 'B', accessFlags := 0x411 }
/-- [B -/
def k10 : Class := { plain "[B" (some 0) with kind := .array 9 .byte, interfaces := #[8, 4], accessFlags := 1041 }

/-- the primitive int -/
def k11 : Class := { plain "int" none with kind := .primitive 'I', accessFlags := 0x411 }
/-- [I -/
def k12 : Class := { plain "[I" (some 0) with kind := .array 11 .int, interfaces := #[8, 4], accessFlags := 1041 }

def heap : Heap := #[{ cls := 6, slots := #[.ref 7, .ref 5, .ref 6, .ref 2, .null], vm := .statics 6 },
  { cls := 7, slots := #[.ref 3, .ref 4, .null], vm := .statics 7 },
  { cls := 6, slots := #[.null, .int 0, .int 0, .ref 3, .int 1], vm := .none },
  { cls := 7, slots := #[.null, .int 0, .int 0, .null], vm := .none },
  { cls := 7, slots := #[.null, .int 1, .int 0, .null], vm := .none },
  { cls := 6, slots := #[.null, .int 0, .int 0, .ref 3, .int 0], vm := .none },
  { cls := 6, slots := #[.null, .int 0, .int 0, .ref 4, .int 1], vm := .none },
  { cls := 6, slots := #[.null, .int 0, .int 0, .ref 4, .int 0], vm := .none }]
def classes : Array Class := #[k0, k1, k2, k3, k4, k5, k6, k7, k8, k9, k10, k11, k12]
def interned : List (Array UInt16 × Addr) := []
def slotsUsed : Nat := 36
def theMethod : MethodId := ⟨1, 1⟩
def args0 : Array Value := #[.int 5, .int 300]
def aboutOver (below : List Frame) : State where
  vm := { classes := classes, interned := interned.toArray }
  heap := heap
  slotsUsed := slotsUsed
  threads := #[{ frames := .invoking theMethod args0 :: below }]
def below0 : List Frame := [.native { method := ⟨0, 0⟩, args := #[] }]
def about1 : State := aboutOver below0
def p0 : Program := .bare "" "" ""
def e0 : Env := launch0.env 0 0 0
theorem w_frames : about1.frames = Frame.invoking theMethod args0 :: below0 := rfl
set_option maxRecDepth 65536 in
theorem w_args : argsFit about1.vm theMethod args0 = true := by decide +kernel
set_option maxRecDepth 65536 in
theorem w_heap : heapFits about1 = true := by decide +kernel
set_option maxRecDepth 65536 in
theorem w_runnable : about1.curStatus? = some .runnable := by decide +kernel
set_option maxRecDepth 65536 in
theorem w_alone : about1.alone = true := by decide +kernel
set_option maxRecDepth 65536 in
theorem w_named : about1.methodNamed? x = some theMethod := by decide +kernel
set_option maxRecDepth 65536 in
theorem w_hears : about1.hears theMethod below0 = true := by decide +kernel
set_option maxRecDepth 65536 in
theorem w_ripe : about1.ripe theMethod args0 below0 = true := by decide +kernel
theorem w_running : about1.status = .running := rfl
set_option maxRecDepth 65536 in
theorem w_room : about1.hasRoom e0.platform room_1 = true :=
  launch0.hasRoom_least _ room_1 (by decide +kernel) (by decide +kernel) (by decide +kernel) (by decide +kernel) (by decide +kernel) (by decide +kernel)
theorem allAtoms_all (ts : List Jvm.Cond) (a : Array Jvm.Value) (st : Jvm.State) : (allAtoms ts).before a st = ts.all (fun c => c.before a st) := by
  induction ts with
  | nil => rfl
  | cons c t ih =>
    show (Jvm.Cond.and c (allAtoms t)).before a st = _
    rw [Jvm.Cond.before_and, ih, List.all_cons]
def words1 : List Jvm.Cond := Jvm.Cond.code x code maxLocals ret :: tables_1
/-- a 'code' word, met by the world's own term for the bytes: nothing is compared byte by byte -/
theorem code_word {y : MethodName} {bytes : ByteArray} {mx : Nat} {rt : Option FieldType} {a : Array Value} {s : State} {m : MethodId} {meth : Method} {c : Code} (h1 : s.methodNamed? y = some m) (h2 : s.vm.method? m = some meth) (h3 : meth.code = some c) (h4 : c.code = bytes)
    (h5 : (c.maxLocals == mx && c.exceptionTable.isEmpty && decide (c.maxStack ≤ mostOperands) && decide (meth.sig.returnType = rt) && !meth.locks && decide (parseMethodDescriptor y.desc = some meth.sig)) = true) : (Jvm.Cond.code y bytes mx rt).before a s = true := by
  simp only [Bool.and_eq_true, beq_iff_eq, Bool.not_eq_true', decide_eq_true_eq] at h5
  obtain ⟨⟨⟨⟨⟨g1, g2⟩, g3⟩, g4⟩, g5⟩, g6⟩ := h5
  simp [Cond.before, Cond.holds, Cond.value, h1, h2, h3, h4, g1, g2, g3, g4, g5, g6]
def isCode : Jvm.Cond → Bool
  | .code _ _ _ _ => true
  | _ => false
theorem all_split {L : List Jvm.Cond} {P : Jvm.Cond → Bool} (h1 : L.all (fun c => isCode c || P c) = true) (h2 : ∀ c ∈ L.filter isCode, P c = true) : L.all P = true := by
  refine List.all_eq_true.mpr fun c hc => ?_
  have h := List.all_eq_true.mp h1 c hc
  rcases Bool.eq_false_or_eq_true (isCode c) with hi | hi
  · exact h2 c (List.mem_filter.mpr ⟨hc, hi⟩)
  · simpa [hi] using h
set_option maxRecDepth 65536 in
theorem w_c0 : (Jvm.Cond.code x code maxLocals ret).before args0 about1 = true := code_word (m := ⟨1, 1⟩) (meth := k1m1) (c := k1c1) (by decide +kernel) rfl rfl rfl (by decide +kernel)
set_option maxRecDepth 65536 in
theorem w_c1 : (Jvm.Cond.code ({ cls := "com/example/reja/reja/Precedence", name := "of", desc := "(ZZ)Lcom/example/reja/reja/Precedence;" } : Jvm.MethodName) prog_5_method_4_code (3 : Nat) (Option.some (Jvm.ClassFile.FieldType.object "com/example/reja/reja/Precedence"))).before args0 about1 = true := code_word (m := ⟨6, 0⟩) (meth := k6m0) (c := k6c0) (by decide +kernel) rfl rfl rfl (by decide +kernel)
set_option maxRecDepth 65536 in
theorem w_c2 : (Jvm.Cond.code ({ cls := "com/example/reja/reja/Precedence", name := "prohibits", desc := "()Z" } : Jvm.MethodName) prog_5_method_6_code (1 : Nat) (Option.some Jvm.ClassFile.FieldType.boolean)).before args0 about1 = true := code_word (m := ⟨6, 2⟩) (meth := k6m2) (c := k6c2) (by decide +kernel) rfl rfl rfl (by decide +kernel)
set_option maxRecDepth 65536 in
theorem w_c3 : (Jvm.Cond.code ({ cls := "com/example/reja/reja/Precedence", name := "weak", desc := "()Z" } : Jvm.MethodName) prog_5_method_7_code (1 : Nat) (Option.some Jvm.ClassFile.FieldType.boolean)).before args0 about1 = true := code_word (m := ⟨6, 3⟩) (meth := k6m3) (c := k6c3) (by decide +kernel) rfl rfl rfl (by decide +kernel)
set_option maxRecDepth 65536 in
theorem w_c4 : (Jvm.Cond.code ({ cls := "com/example/reja/reja/Precedence", name := "decision", desc := "()Lcom/example/reja/reja/Decision;" } : Jvm.MethodName) prog_5_method_5_code (1 : Nat) (Option.some (Jvm.ClassFile.FieldType.object "com/example/reja/reja/Decision"))).before args0 about1 = true := code_word (m := ⟨6, 1⟩) (meth := k6m1) (c := k6c1) (by decide +kernel) rfl rfl rfl (by decide +kernel)
def codes1 : List Jvm.Cond := [Jvm.Cond.code x code maxLocals ret, Jvm.Cond.code ({ cls := "com/example/reja/reja/Precedence", name := "of", desc := "(ZZ)Lcom/example/reja/reja/Precedence;" } : Jvm.MethodName) prog_5_method_4_code (3 : Nat) (Option.some (Jvm.ClassFile.FieldType.object "com/example/reja/reja/Precedence")), Jvm.Cond.code ({ cls := "com/example/reja/reja/Precedence", name := "prohibits", desc := "()Z" } : Jvm.MethodName) prog_5_method_6_code (1 : Nat) (Option.some Jvm.ClassFile.FieldType.boolean), Jvm.Cond.code ({ cls := "com/example/reja/reja/Precedence", name := "weak", desc := "()Z" } : Jvm.MethodName) prog_5_method_7_code (1 : Nat) (Option.some Jvm.ClassFile.FieldType.boolean), Jvm.Cond.code ({ cls := "com/example/reja/reja/Precedence", name := "decision", desc := "()Lcom/example/reja/reja/Decision;" } : Jvm.MethodName) prog_5_method_5_code (1 : Nat) (Option.some (Jvm.ClassFile.FieldType.object "com/example/reja/reja/Decision"))]
set_option maxRecDepth 65536 in
theorem codes_eq : words1.filter isCode = codes1 := rfl
theorem w_codes : ∀ c ∈ words1.filter isCode, c.before args0 about1 = true := by
  rw [codes_eq]
  intro c hc
  simp only [codes1, List.mem_cons, List.not_mem_nil, or_false] at hc
  rcases hc with rfl | rfl | rfl | rfl | rfl
  · exact w_c0
  · exact w_c1
  · exact w_c2
  · exact w_c3
  · exact w_c4
set_option maxRecDepth 65536 in
theorem w_t1 : (words1.take 24).all (fun c => isCode c || c.before args0 about1) = true := by decide +kernel
set_option maxRecDepth 65536 in
theorem w_t2 : (words1.drop 24).all (fun c => isCode c || c.before args0 about1) = true := by decide +kernel
theorem w_tables : (allAtoms (Jvm.Cond.code x code maxLocals ret :: tables_1)).before args0 about1 = true := by
  rw [allAtoms_all]
  show words1.all (fun c => c.before args0 about1) = true
  refine all_split ?_ w_codes
  rw [← List.take_append_drop 24 words1, List.all_append, w_t1, w_t2]
  rfl
set_option maxRecDepth 65536 in
theorem w_case : (Jvm.Cond.and given_1 narrow_1).before args0 about1 = true := by decide +kernel
theorem w_applies : (headSpec (Jvm.Cond.code x code maxLocals ret :: tables_1) room_1).applies x e0.platform about1 = true :=
  (Spec.applies_iff w_frames).mpr ⟨w_running, w_runnable, w_alone, w_named, w_hears, w_ripe, w_room, w_tables⟩
theorem atStart : AtStart classFile x code maxLocals ret World_1 tables_1 room_1 Calls_1 rest_1 Pre_1 launch0 p0 e0 about1 theMethod args0 below0 :=
  ⟨lists_1, trivial, launch0.admits_env _ _ _, launch0.least_env, fairChoices_fair.cas, fairChoices_fair.clock, w_frames, w_args, w_heap, w_applies, trivial, trivial, w_case⟩
end start1
theorem witness_1 : WitnessClaimed_1 := ⟨start1.p0, start1.e0, start1.about1, start1.theMethod, start1.args0, start1.below0, start1.atStart⟩
end Jvm.Pilot.@@N@@
