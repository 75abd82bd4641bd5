import JvmDerived
import JvmDerived.Pilot.@@N@@Statement
import JvmDerived.Pilot.@@N@@Code
set_option linter.unusedVariables false
set_option linter.unusedSimpArgs false
namespace Jvm.OwnWalk
open Sem ClassFile Op Lib Jvm.Stand Jvm.Free Jvm.LawKit Jvm.RoadKit
/-- where a run stands: the library's Stand, its written places new, its heap -/
def Sd (p : Program) (l : Launch) (e : Env) (R : Room) (s : State) (m : MethodId) (args : Array Value) (below : List Frame) (meth : Method) (c : Code) (n0 : Nat) (T : State) (h : Heap) (cells slots : Nat) : Prop :=
  ∃ locs, Stand p l e R s m args below meth c T locs cells slots ∧ Fr n0 locs ∧ T.heap = h ∧ n0 ≤ s.heap.size
/-- what stays through a walk -/
def Cx (Z : State) (own nm : String) (bytes : ByteArray) (maxL : Nat) (ret : Option FieldType) (p : Program) (s : State) (m : MethodId) (meth : Method) (c : Code) : Prop :=
  p.tables.exec = Jvm.exec ∧ c.code = bytes ∧ Z.Warmed39 s.vm ∧ s.vm.findClass own = some m.cls ∧ meth.name = nm ∧ c.maxLocals = maxL ∧ meth.sig.returnType = ret ∧ meth.locks = false
/-- from A the body returns, and P holds of what it returns and of the heap -/
def Gl (p : Program) (e : Env) (below : List Frame) (s : State) (n0 : Nat) (P : Option Value → Heap → Prop) (C S : Nat) (A : State) : Prop :=
  ∃ t o, Steps p.tables e below A t ∧ t.status = .running ∧ Ended t below o ∧ ∃ v L, o = .returned v ∧ (P v t.heap ∧ Fr n0 L) ∧ FrameEnd s o t L C S
/-- a method's contract -/
def Con (l : Launch) (Z : State) (y : MethodName) (bytes : ByteArray) (maxL : Nat) (ret : Option FieldType) (ws : List Jvm.Cond) (rm : Room) (C S : Nat) (as' : Array Value) (h0 : Heap) (n0 : Nat) (P : Option Value → Heap → Prop) : Prop :=
  MetFree l y (head1 (Jvm.Cond.code y bytes maxL ret :: ws) rm) (fun a U => a = as' ∧ Z.Warmed39 U.vm ∧ U.heap = h0) (fun _ _ _ _ _ => True) (fun _ U o U' => ∃ v L, o = .returned v ∧ (P v U'.heap ∧ Fr n0 L) ∧ FrameEnd U o U' L C S)
theorem Con.met {l : Launch} {Z : State} {y : MethodName} {bytes : ByteArray} {maxL : Nat} {ret : Option FieldType} {ws : List Jvm.Cond} {rm : Room} {C S : Nat} {as' : Array Value} {h0 : Heap} {n0 : Nat} {P : Option Value → Heap → Prop} (h : Con l Z y bytes maxL ret ws rm C S as' h0 n0 P) :
  MetFree l y (head1 (Jvm.Cond.code y bytes maxL ret :: ws) rm) (fun a U => a = as' ∧ Z.Warmed39 U.vm ∧ U.heap = h0) (fun _ _ _ _ _ => True) (fun _ U o U' => ∃ v L, o = .returned v ∧ (P v U'.heap ∧ Fr n0 L) ∧ FrameEnd U o U' L C S) := h
theorem Con.of {l : Launch} {Z : State} {y : MethodName} {bytes : ByteArray} {maxL : Nat} {ret : Option FieldType} {ws : List Jvm.Cond} {rm : Room} {C S : Nat} {as' : Array Value} {h0 : Heap} {n0 : Nat} {P : Option Value → Heap → Prop} (hpl : plainFor y = true) (hn : n0 ≤ h0.size)
    (hb : ∀ p e s m below meth c T, Cx Z y.cls y.name bytes maxL ret p s m meth c → Sd p l e rm s m as' below meth c n0 T h0 0 0 → Gl p e below s n0 P C S (T.setTop (entryFrame m as' maxL))) : Con l Z y bytes maxL ret ws rm C S as' h0 n0 P := by
  refine MetFree.of_bodySF hpl hisR ?_
  intro p e s m args below meth c s₁ Bd hml0 hP hK
  obtain ⟨rfl, hZ, hh⟩ := hP
  have hlk : meth.locks = false := Bd.notSynchronized
  exact hb p e s m below meth c s₁ ⟨Bd.exec, Bd.bytes, hZ, findClass_of_methodNamed Bd.named, (name_of_methodNamed Bd.named Bd.method).1, hml0, Bd.returns, hlk⟩ ⟨[], Stand.of_body Bd, Fr.nil n0, by rw [← hh, Bd.state]; rfl, by rw [hh]; exact hn⟩
/-- the contract of a method that returns a value; of one that returns nothing -/
abbrev ConV (l : Launch) (Z : State) (y : MethodName) (bytes : ByteArray) (maxL : Nat) (ret : Option FieldType) (rm : Room) (as' : Array Value) (h0 : Heap) (n0 : Nat) (Q : Value → Heap → Prop) : Prop := Con l Z y bytes maxL ret [] rm rm.cells rm.slots as' h0 n0 (fun r h => ∃ v, r = some v ∧ Q v h)
abbrev ConN (l : Launch) (Z : State) (y : MethodName) (bytes : ByteArray) (maxL : Nat) (rm : Room) (as' : Array Value) (h0 : Heap) (n0 : Nat) (Q : Heap → Prop) : Prop := Con l Z y bytes maxL none [] rm rm.cells rm.slots as' h0 n0 (fun r h => r = none ∧ Q h)
section Walk
variable {p : Program} {l : Launch} {e : Env} {R : Room} {s : State} {m : MethodId} {args : Array Value} {below : List Frame} {meth : Method} {c : Code} {T A B : State} {h : Heap} {cells slots n0 C S : Nat} {P : Option Value → Heap → Prop}
variable {Z : State} {a0 : Array Value} {own nm : String} {bytes : ByteArray} {maxL : Nat} {ret : Option FieldType}
variable {pc n : Nat} {ls : Array Slot} {st : List Value}
theorem Gl.of (hst : ∀ t, Steps p.tables e below B t → Steps p.tables e below A t) (k : Gl p e below s n0 P C S B) : Gl p e below s n0 P C S A := by
  obtain ⟨t, o, h1, r⟩ := k; exact ⟨t, o, hst t h1, r⟩
theorem Sd.le (X : Sd p l e R s m args below meth c n0 T h cells slots) : n0 ≤ h.size := by
  obtain ⟨_, X, -, eh, hn⟩ := X
  have q : s.heap.size ≤ T.heap.size := X.same.2.1
  rw [← eh]; omega
theorem Gl.enter {as' : Array Value} (ef : entryFrame m as' maxL = mkF m 0 ls []) (k : Gl p e below s n0 P C S (T.setTop (mkF m 0 ls []))) : Gl p e below s n0 P C S (T.setTop (entryFrame m as' maxL)) := by rw [ef]; exact k
theorem gIload (X : Sd p l e R s m args below meth c n0 T h cells slots) (w : Cx Z own nm bytes maxL ret p s m meth c) {k : Nat} {v : Int32} (hd : decode bytes pc = .ok (.iload k, 2)) (hl : ls[k]? = some (.val (.int v))) (hn : pc + 2 = n) (K : Gl p e below s n0 P C S (T.setTop (mkF m n ls (.int v :: st)))) : Gl p e below s n0 P C S (T.setTop (mkF m pc ls st)) := by
  obtain ⟨_, X, -⟩ := X; obtain ⟨hx, hby, hZ, hown, -⟩ := w; subst hn
  exact Gl.of (fun t k => XS.iload X.here hx rfl (hb hby hd) hl k) K
theorem gIloadN (X : Sd p l e R s m args below meth c n0 T h cells slots) (w : Cx Z own nm bytes maxL ret p s m meth c) {k : Fin 4} {v : Int32} (hd : decode bytes pc = .ok (.iload_n k, 1)) (hl : ls[k.val]? = some (.val (.int v))) (hn : pc + 1 = n) (K : Gl p e below s n0 P C S (T.setTop (mkF m n ls (.int v :: st)))) : Gl p e below s n0 P C S (T.setTop (mkF m pc ls st)) := by
  obtain ⟨_, X, -⟩ := X; obtain ⟨hx, hby, hZ, hown, -⟩ := w; subst hn
  exact Gl.of (fun t k => XS.iloadN X.here hx rfl (hb hby hd) hl k) K
theorem gJload (X : Sd p l e R s m args below meth c n0 T h cells slots) (w : Cx Z own nm bytes maxL ret p s m meth c) {k : Nat} {v : Int64} (hd : decode bytes pc = .ok (.lload k, 2)) (hl : ls[k]? = some (.val (.long v))) (hn : pc + 2 = n) (K : Gl p e below s n0 P C S (T.setTop (mkF m n ls (.long v :: st)))) : Gl p e below s n0 P C S (T.setTop (mkF m pc ls st)) := by
  obtain ⟨_, X, -⟩ := X; obtain ⟨hx, hby, hZ, hown, -⟩ := w; subst hn
  exact Gl.of (fun t k => XT.lload X.here hx rfl (hb hby hd) hl k) K
theorem gJloadN (X : Sd p l e R s m args below meth c n0 T h cells slots) (w : Cx Z own nm bytes maxL ret p s m meth c) {k : Fin 4} {v : Int64} (hd : decode bytes pc = .ok (.lload_n k, 1)) (hl : ls[k.val]? = some (.val (.long v))) (hn : pc + 1 = n) (K : Gl p e below s n0 P C S (T.setTop (mkF m n ls (.long v :: st)))) : Gl p e below s n0 P C S (T.setTop (mkF m pc ls st)) := by
  obtain ⟨_, X, -⟩ := X; obtain ⟨hx, hby, hZ, hown, -⟩ := w; subst hn
  exact Gl.of (fun t k => XT.lloadN X.here hx rfl (hb hby hd) hl k) K
theorem gAload (X : Sd p l e R s m args below meth c n0 T h cells slots) (w : Cx Z own nm bytes maxL ret p s m meth c) {k : Nat} {v : Value} (hd : decode bytes pc = .ok (.aload k, 2)) (hl : ls[k]? = some (.val v)) (hv : v.isRef = true) (hn : pc + 2 = n) (K : Gl p e below s n0 P C S (T.setTop (mkF m n ls (v :: st)))) : Gl p e below s n0 P C S (T.setTop (mkF m pc ls st)) := by
  obtain ⟨_, X, -⟩ := X; obtain ⟨hx, hby, hZ, hown, -⟩ := w; subst hn
  exact Gl.of (fun t k => XS.aload X.here hx rfl (hb hby hd) hl hv k) K
theorem gAloadN (X : Sd p l e R s m args below meth c n0 T h cells slots) (w : Cx Z own nm bytes maxL ret p s m meth c) {k : Fin 4} {v : Value} (hd : decode bytes pc = .ok (.aload_n k, 1)) (hl : ls[k.val]? = some (.val v)) (hv : v.isRef = true) (hn : pc + 1 = n) (K : Gl p e below s n0 P C S (T.setTop (mkF m n ls (v :: st)))) : Gl p e below s n0 P C S (T.setTop (mkF m pc ls st)) := by
  obtain ⟨_, X, -⟩ := X; obtain ⟨hx, hby, hZ, hown, -⟩ := w; subst hn
  exact Gl.of (fun t k => XS.aloadN X.here hx rfl (hb hby hd) hl hv k) K
theorem gDload (X : Sd p l e R s m args below meth c n0 T h cells slots) (w : Cx Z own nm bytes maxL ret p s m meth c) {k : Nat} {v : UInt64} (hd : decode bytes pc = .ok (.dload k, 2)) (hl : ls[k]? = some (.val (.double v))) (hn : pc + 2 = n) (K : Gl p e below s n0 P C S (T.setTop (mkF m n ls (.double v :: st)))) : Gl p e below s n0 P C S (T.setTop (mkF m pc ls st)) := by
  obtain ⟨_, X, -⟩ := X; obtain ⟨hx, hby, hZ, hown, -⟩ := w; subst hn
  exact Gl.of (fun t k => XS.dload X.here hx rfl (hb hby hd) hl k) K
theorem gDloadN (X : Sd p l e R s m args below meth c n0 T h cells slots) (w : Cx Z own nm bytes maxL ret p s m meth c) {k : Fin 4} {v : UInt64} (hd : decode bytes pc = .ok (.dload_n k, 1)) (hl : ls[k.val]? = some (.val (.double v))) (hn : pc + 1 = n) (K : Gl p e below s n0 P C S (T.setTop (mkF m n ls (.double v :: st)))) : Gl p e below s n0 P C S (T.setTop (mkF m pc ls st)) := by
  obtain ⟨_, X, -⟩ := X; obtain ⟨hx, hby, hZ, hown, -⟩ := w; subst hn
  exact Gl.of (fun t k => XS.dloadN X.here hx rfl (hb hby hd) hl k) K
theorem gDstore (X : Sd p l e R s m args below meth c n0 T h cells slots) (w : Cx Z own nm bytes maxL ret p s m meth c) {k : Nat} {x : UInt64} (hd : decode bytes pc = .ok (.dstore k, 2)) (l' : Array Slot) (hl : storeLocals ls k (.double x) = some l') (hn : pc + 2 = n) (K : Gl p e below s n0 P C S (T.setTop (mkF m n l' st))) : Gl p e below s n0 P C S (T.setTop (mkF m pc ls (.double x :: st))) := by
  obtain ⟨_, X, -⟩ := X; obtain ⟨hx, hby, hZ, hown, -⟩ := w; subst hn
  exact Gl.of (fun t k => XS.dstore X.here hx rfl (hb hby hd) rfl hl k) K
theorem gDstoreN (X : Sd p l e R s m args below meth c n0 T h cells slots) (w : Cx Z own nm bytes maxL ret p s m meth c) {k : Fin 4} {x : UInt64} (hd : decode bytes pc = .ok (.dstore_n k, 1)) (l' : Array Slot) (hl : storeLocals ls k.val (.double x) = some l') (hn : pc + 1 = n) (K : Gl p e below s n0 P C S (T.setTop (mkF m n l' st))) : Gl p e below s n0 P C S (T.setTop (mkF m pc ls (.double x :: st))) := by
  obtain ⟨_, X, -⟩ := X; obtain ⟨hx, hby, hZ, hown, -⟩ := w; subst hn
  exact Gl.of (fun t k => XS.dstoreN X.here hx rfl (hb hby hd) rfl hl k) K
theorem gI2d (X : Sd p l e R s m args below meth c n0 T h cells slots) (w : Cx Z own nm bytes maxL ret p s m meth c) {x : Int32} {z : UInt64} (hd : decode bytes pc = .ok (.i2d, 1)) (hz : FP.i2d x = z) (hn : pc + 1 = n) (K : Gl p e below s n0 P C S (T.setTop (mkF m n ls (.double z :: st)))) : Gl p e below s n0 P C S (T.setTop (mkF m pc ls (.int x :: st))) := by
  obtain ⟨_, X, -⟩ := X; obtain ⟨hx, hby, hZ, hown, -⟩ := w; subst hn
  exact Gl.of (fun t k => XS.i2dS X.here hx rfl (hb hby hd) rfl hz k) K
theorem gL2d (X : Sd p l e R s m args below meth c n0 T h cells slots) (w : Cx Z own nm bytes maxL ret p s m meth c) {x : Int64} {z : UInt64} (hd : decode bytes pc = .ok (.l2d, 1)) (hz : FP.l2d x = z) (hn : pc + 1 = n) (K : Gl p e below s n0 P C S (T.setTop (mkF m n ls (.double z :: st)))) : Gl p e below s n0 P C S (T.setTop (mkF m pc ls (.long x :: st))) := by
  obtain ⟨_, X, -⟩ := X; obtain ⟨hx, hby, hZ, hown, -⟩ := w; subst hn
  exact Gl.of (fun t k => XS.l2dS X.here hx rfl (hb hby hd) rfl hz k) K
theorem gDneg (X : Sd p l e R s m args below meth c n0 T h cells slots) (w : Cx Z own nm bytes maxL ret p s m meth c) {x z : UInt64} (hd : decode bytes pc = .ok (.dneg, 1)) (hz : FP.dneg x = z) (hn : pc + 1 = n) (K : Gl p e below s n0 P C S (T.setTop (mkF m n ls (.double z :: st)))) : Gl p e below s n0 P C S (T.setTop (mkF m pc ls (.double x :: st))) := by
  obtain ⟨_, X, -⟩ := X; obtain ⟨hx, hby, hZ, hown, -⟩ := w; subst hn
  exact Gl.of (fun t k => XS.dnegS X.here hx rfl (hb hby hd) rfl hz k) K
theorem gDcmp (X : Sd p l e R s m args below meth c n0 T h cells slots) (w : Cx Z own nm bytes maxL ret p s m meth c) {x y : UInt64} {o : CmpOp} {z : Int32} (hd : decode bytes pc = .ok (.dcmp o, 1)) (hz : cmpValue (FP.dcmp x y) o = z) (hn : pc + 1 = n) (K : Gl p e below s n0 P C S (T.setTop (mkF m n ls (.int z :: st)))) : Gl p e below s n0 P C S (T.setTop (mkF m pc ls (.double y :: .double x :: st))) := by
  obtain ⟨_, X, -⟩ := X; obtain ⟨hx, hby, hZ, hown, -⟩ := w; subst hn
  exact Gl.of (fun t k => XS.dcmpS X.here hx rfl (hb hby hd) rfl hz k) K
theorem gDadd (X : Sd p l e R s m args below meth c n0 T h cells slots) (w : Cx Z own nm bytes maxL ret p s m meth c) {x y z : UInt64} (hd : decode bytes pc = .ok (.dadd, 1)) (hnn : Jvm.Free.Fl.NoNaN64 (FP.dadd x y)) (hz : FP.dadd x y = z) (hn : pc + 1 = n) (K : Gl p e below s n0 P C S (T.setTop (mkF m n ls (.double z :: st)))) : Gl p e below s n0 P C S (T.setTop (mkF m pc ls (.double y :: .double x :: st))) := by
  obtain ⟨_, X, -⟩ := X; obtain ⟨hx, hby, hZ, hown, -⟩ := w; subst hn
  exact Gl.of (fun t k => XS.daddS X.here hx rfl (hb hby hd) rfl hnn hz k) K
theorem gDsub (X : Sd p l e R s m args below meth c n0 T h cells slots) (w : Cx Z own nm bytes maxL ret p s m meth c) {x y z : UInt64} (hd : decode bytes pc = .ok (.dsub, 1)) (hnn : Jvm.Free.Fl.NoNaN64 (FP.dsub x y)) (hz : FP.dsub x y = z) (hn : pc + 1 = n) (K : Gl p e below s n0 P C S (T.setTop (mkF m n ls (.double z :: st)))) : Gl p e below s n0 P C S (T.setTop (mkF m pc ls (.double y :: .double x :: st))) := by
  obtain ⟨_, X, -⟩ := X; obtain ⟨hx, hby, hZ, hown, -⟩ := w; subst hn
  exact Gl.of (fun t k => XS.dsubS X.here hx rfl (hb hby hd) rfl hnn hz k) K
theorem gDmul (X : Sd p l e R s m args below meth c n0 T h cells slots) (w : Cx Z own nm bytes maxL ret p s m meth c) {x y z : UInt64} (hd : decode bytes pc = .ok (.dmul, 1)) (hnn : Jvm.Free.Fl.NoNaN64 (FP.dmul x y)) (hz : FP.dmul x y = z) (hn : pc + 1 = n) (K : Gl p e below s n0 P C S (T.setTop (mkF m n ls (.double z :: st)))) : Gl p e below s n0 P C S (T.setTop (mkF m pc ls (.double y :: .double x :: st))) := by
  obtain ⟨_, X, -⟩ := X; obtain ⟨hx, hby, hZ, hown, -⟩ := w; subst hn
  exact Gl.of (fun t k => XS.dmulS X.here hx rfl (hb hby hd) rfl hnn hz k) K
theorem gDdiv (X : Sd p l e R s m args below meth c n0 T h cells slots) (w : Cx Z own nm bytes maxL ret p s m meth c) {x y z : UInt64} (hd : decode bytes pc = .ok (.ddiv, 1)) (hnn : Jvm.Free.Fl.NoNaN64 (FP.ddiv x y)) (hz : FP.ddiv x y = z) (hn : pc + 1 = n) (K : Gl p e below s n0 P C S (T.setTop (mkF m n ls (.double z :: st)))) : Gl p e below s n0 P C S (T.setTop (mkF m pc ls (.double y :: .double x :: st))) := by
  obtain ⟨_, X, -⟩ := X; obtain ⟨hx, hby, hZ, hown, -⟩ := w; subst hn
  exact Gl.of (fun t k => XS.ddivS X.here hx rfl (hb hby hd) rfl hnn hz k) K
theorem gDconst0 (X : Sd p l e R s m args below meth c n0 T h cells slots) (w : Cx Z own nm bytes maxL ret p s m meth c) {z : UInt64} (hd : decode bytes pc = .ok (.dconst 0, 1)) (hz : FP.dconst0 = z) (hn : pc + 1 = n) (K : Gl p e below s n0 P C S (T.setTop (mkF m n ls (.double z :: st)))) : Gl p e below s n0 P C S (T.setTop (mkF m pc ls st)) := by
  obtain ⟨_, X, -⟩ := X; obtain ⟨hx, hby, hZ, hown, -⟩ := w; subst hn
  exact Gl.of (fun t k => XS.dconst0 X.here hx rfl (hb hby hd) hz k) K
theorem gDconst1 (X : Sd p l e R s m args below meth c n0 T h cells slots) (w : Cx Z own nm bytes maxL ret p s m meth c) {z : UInt64} (hd : decode bytes pc = .ok (.dconst 1, 1)) (hz : FP.dconst1 = z) (hn : pc + 1 = n) (K : Gl p e below s n0 P C S (T.setTop (mkF m n ls (.double z :: st)))) : Gl p e below s n0 P C S (T.setTop (mkF m pc ls st)) := by
  obtain ⟨_, X, -⟩ := X; obtain ⟨hx, hby, hZ, hown, -⟩ := w; subst hn
  exact Gl.of (fun t k => XS.dconst1 X.here hx rfl (hb hby hd) hz k) K
theorem gLdc2D (X : Sd p l e R s m args below meth c n0 T h cells slots) (w : Cx Z own nm bytes maxL ret p s m meth c) {i : Nat} {z : UInt64} (wc : (Jvm.Cond.constantDouble own i z).before a0 Z = true) (hd : decode bytes pc = .ok (.ldc2_w i, 3)) (hn : pc + 3 = n) (K : Gl p e below s n0 P C S (T.setTop (mkF m n ls (.double z :: st)))) : Gl p e below s n0 P C S (T.setTop (mkF m pc ls st)) := by
  obtain ⟨_, X, -⟩ := X; obtain ⟨hx, hby, hZ, hown, -⟩ := w; subst hn
  exact Gl.of (fun t k => X.ldc2DoubleC hx hown (mvT hZ wc (by simp [Cond.onTables, Cond.keepsFace, Cond.keeps, Cond.steady])) (g := mkF m pc ls st) rfl (hb hby hd) t k) K
theorem gIconst (X : Sd p l e R s m args below meth c n0 T h cells slots) (w : Cx Z own nm bytes maxL ret p s m meth c) {i : Int} {z : Int32} (hd : decode bytes pc = .ok (.iconst i, 1)) (hz : Int32.ofInt i = z) (hn : pc + 1 = n) (K : Gl p e below s n0 P C S (T.setTop (mkF m n ls (.int z :: st)))) : Gl p e below s n0 P C S (T.setTop (mkF m pc ls st)) := by
  obtain ⟨_, X, -⟩ := X; obtain ⟨hx, hby, hZ, hown, -⟩ := w; subst hn hz
  exact Gl.of (fun t k => XS.iconst X.here hx rfl (hb hby hd) k) K
theorem gBipush (X : Sd p l e R s m args below meth c n0 T h cells slots) (w : Cx Z own nm bytes maxL ret p s m meth c) {i : Int} {z : Int32} (hd : decode bytes pc = .ok (.bipush i, 2)) (hz : (Int8.ofInt i).toInt32 = z) (hn : pc + 2 = n) (K : Gl p e below s n0 P C S (T.setTop (mkF m n ls (.int z :: st)))) : Gl p e below s n0 P C S (T.setTop (mkF m pc ls st)) := by
  obtain ⟨_, X, -⟩ := X; obtain ⟨hx, hby, hZ, hown, -⟩ := w; subst hn hz
  exact Gl.of (fun t k => XS.bipush X.here hx rfl (hb hby hd) k) K
theorem gSipush (X : Sd p l e R s m args below meth c n0 T h cells slots) (w : Cx Z own nm bytes maxL ret p s m meth c) {i : Int} {z : Int32} (hd : decode bytes pc = .ok (.sipush i, 3)) (hz : (Int16.ofInt i).toInt32 = z) (hn : pc + 3 = n) (K : Gl p e below s n0 P C S (T.setTop (mkF m n ls (.int z :: st)))) : Gl p e below s n0 P C S (T.setTop (mkF m pc ls st)) := by
  obtain ⟨_, X, -⟩ := X; obtain ⟨hx, hby, hZ, hown, -⟩ := w; subst hn hz
  exact Gl.of (fun t k => XS.sipush X.here hx rfl (hb hby hd) k) K
theorem gLconst (X : Sd p l e R s m args below meth c n0 T h cells slots) (w : Cx Z own nm bytes maxL ret p s m meth c) {i : Fin 2} {z : Int64} (hd : decode bytes pc = .ok (.lconst i, 1)) (hz : Int64.ofNat i = z) (hn : pc + 1 = n) (K : Gl p e below s n0 P C S (T.setTop (mkF m n ls (.long z :: st)))) : Gl p e below s n0 P C S (T.setTop (mkF m pc ls st)) := by
  obtain ⟨_, X, -⟩ := X; obtain ⟨hx, hby, hZ, hown, -⟩ := w; subst hn hz
  exact Gl.of (fun t k => XT.lconst X.here hx rfl (hb hby hd) k) K
theorem gNull (X : Sd p l e R s m args below meth c n0 T h cells slots) (w : Cx Z own nm bytes maxL ret p s m meth c)  (hd : decode bytes pc = .ok (.aconst_null, 1)) (hn : pc + 1 = n) (K : Gl p e below s n0 P C S (T.setTop (mkF m n ls (.null :: st)))) : Gl p e below s n0 P C S (T.setTop (mkF m pc ls st)) := by
  obtain ⟨_, X, -⟩ := X; obtain ⟨hx, hby, hZ, hown, -⟩ := w; subst hn
  exact Gl.of (fun t k => XS.aconstNull X.here hx rfl (hb hby hd) k) K
theorem gLdc (X : Sd p l e R s m args below meth c n0 T h cells slots) (w : Cx Z own nm bytes maxL ret p s m meth c) {i : Nat} {z : Int32} (wc : (Jvm.Cond.constant own i z).before a0 Z = true) (hd : decode bytes pc = .ok (.ldc i, 2)) (hn : pc + 2 = n) (K : Gl p e below s n0 P C S (T.setTop (mkF m n ls (.int z :: st)))) : Gl p e below s n0 P C S (T.setTop (mkF m pc ls st)) := by
  obtain ⟨_, X, -⟩ := X; obtain ⟨hx, hby, hZ, hown, -⟩ := w; subst hn
  exact Gl.of (fun t k => X.ldcI hx hown (mvT hZ wc) rfl (hb hby hd) k) K
theorem gLdc2 (X : Sd p l e R s m args below meth c n0 T h cells slots) (w : Cx Z own nm bytes maxL ret p s m meth c) {i : Nat} {z : Int64} (wc : (Jvm.Cond.constantLong own i z).before a0 Z = true) (hd : decode bytes pc = .ok (.ldc2_w i, 3)) (hn : pc + 3 = n) (K : Gl p e below s n0 P C S (T.setTop (mkF m n ls (.long z :: st)))) : Gl p e below s n0 P C S (T.setTop (mkF m pc ls st)) := by
  obtain ⟨_, X, -⟩ := X; obtain ⟨hx, hby, hZ, hown, -⟩ := w; subst hn
  exact Gl.of (fun t k => X.ldc2J hx hown (mvT hZ wc) rfl (hb hby hd) k) K
theorem gIadd (X : Sd p l e R s m args below meth c n0 T h cells slots) (w : Cx Z own nm bytes maxL ret p s m meth c) {x y z : Int32} (hd : decode bytes pc = .ok (.iadd, 1)) (hz : x + y = z) (hn : pc + 1 = n) (K : Gl p e below s n0 P C S (T.setTop (mkF m n ls (.int z :: st)))) : Gl p e below s n0 P C S (T.setTop (mkF m pc ls (.int y :: .int x :: st))) := by
  obtain ⟨_, X, -⟩ := X; obtain ⟨hx, hby, hZ, hown, -⟩ := w; subst hn hz
  exact Gl.of (fun t k => XS.iadd X.here hx rfl (hb hby hd) rfl k) K
theorem gIsub (X : Sd p l e R s m args below meth c n0 T h cells slots) (w : Cx Z own nm bytes maxL ret p s m meth c) {x y z : Int32} (hd : decode bytes pc = .ok (.isub, 1)) (hz : x - y = z) (hn : pc + 1 = n) (K : Gl p e below s n0 P C S (T.setTop (mkF m n ls (.int z :: st)))) : Gl p e below s n0 P C S (T.setTop (mkF m pc ls (.int y :: .int x :: st))) := by
  obtain ⟨_, X, -⟩ := X; obtain ⟨hx, hby, hZ, hown, -⟩ := w; subst hn hz
  exact Gl.of (fun t k => XS.isub X.here hx rfl (hb hby hd) rfl k) K
theorem gImul (X : Sd p l e R s m args below meth c n0 T h cells slots) (w : Cx Z own nm bytes maxL ret p s m meth c) {x y z : Int32} (hd : decode bytes pc = .ok (.imul, 1)) (hz : x * y = z) (hn : pc + 1 = n) (K : Gl p e below s n0 P C S (T.setTop (mkF m n ls (.int z :: st)))) : Gl p e below s n0 P C S (T.setTop (mkF m pc ls (.int y :: .int x :: st))) := by
  obtain ⟨_, X, -⟩ := X; obtain ⟨hx, hby, hZ, hown, -⟩ := w; subst hn hz
  exact Gl.of (fun t k => XS.imul X.here hx rfl (hb hby hd) rfl k) K
theorem gIand (X : Sd p l e R s m args below meth c n0 T h cells slots) (w : Cx Z own nm bytes maxL ret p s m meth c) {x y z : Int32} (hd : decode bytes pc = .ok (.iand, 1)) (hz : x &&& y = z) (hn : pc + 1 = n) (K : Gl p e below s n0 P C S (T.setTop (mkF m n ls (.int z :: st)))) : Gl p e below s n0 P C S (T.setTop (mkF m pc ls (.int y :: .int x :: st))) := by
  obtain ⟨_, X, -⟩ := X; obtain ⟨hx, hby, hZ, hown, -⟩ := w; subst hn hz
  exact Gl.of (fun t k => XS.iand X.here hx rfl (hb hby hd) rfl k) K
theorem gIor (X : Sd p l e R s m args below meth c n0 T h cells slots) (w : Cx Z own nm bytes maxL ret p s m meth c) {x y z : Int32} (hd : decode bytes pc = .ok (.ior, 1)) (hz : x ||| y = z) (hn : pc + 1 = n) (K : Gl p e below s n0 P C S (T.setTop (mkF m n ls (.int z :: st)))) : Gl p e below s n0 P C S (T.setTop (mkF m pc ls (.int y :: .int x :: st))) := by
  obtain ⟨_, X, -⟩ := X; obtain ⟨hx, hby, hZ, hown, -⟩ := w; subst hn hz
  exact Gl.of (fun t k => XT.ior X.here hx rfl (hb hby hd) rfl k) K
theorem gIxor (X : Sd p l e R s m args below meth c n0 T h cells slots) (w : Cx Z own nm bytes maxL ret p s m meth c) {x y z : Int32} (hd : decode bytes pc = .ok (.ixor, 1)) (hz : x ^^^ y = z) (hn : pc + 1 = n) (K : Gl p e below s n0 P C S (T.setTop (mkF m n ls (.int z :: st)))) : Gl p e below s n0 P C S (T.setTop (mkF m pc ls (.int y :: .int x :: st))) := by
  obtain ⟨_, X, -⟩ := X; obtain ⟨hx, hby, hZ, hown, -⟩ := w; subst hn hz
  exact Gl.of (fun t k => XT.ixor X.here hx rfl (hb hby hd) rfl k) K
theorem gIshl (X : Sd p l e R s m args below meth c n0 T h cells slots) (w : Cx Z own nm bytes maxL ret p s m meth c) {x y z : Int32} (hd : decode bytes pc = .ok (.ishl, 1)) (hz : x <<< (y &&& 31) = z) (hn : pc + 1 = n) (K : Gl p e below s n0 P C S (T.setTop (mkF m n ls (.int z :: st)))) : Gl p e below s n0 P C S (T.setTop (mkF m pc ls (.int y :: .int x :: st))) := by
  obtain ⟨_, X, -⟩ := X; obtain ⟨hx, hby, hZ, hown, -⟩ := w; subst hn hz
  exact Gl.of (fun t k => XT.ishl X.here hx rfl (hb hby hd) rfl k) K
theorem gIshr (X : Sd p l e R s m args below meth c n0 T h cells slots) (w : Cx Z own nm bytes maxL ret p s m meth c) {x y z : Int32} (hd : decode bytes pc = .ok (.ishr, 1)) (hz : x >>> (y &&& 31) = z) (hn : pc + 1 = n) (K : Gl p e below s n0 P C S (T.setTop (mkF m n ls (.int z :: st)))) : Gl p e below s n0 P C S (T.setTop (mkF m pc ls (.int y :: .int x :: st))) := by
  obtain ⟨_, X, -⟩ := X; obtain ⟨hx, hby, hZ, hown, -⟩ := w; subst hn hz
  exact Gl.of (fun t k => XT.ishr X.here hx rfl (hb hby hd) rfl k) K
theorem gIushr (X : Sd p l e R s m args below meth c n0 T h cells slots) (w : Cx Z own nm bytes maxL ret p s m meth c) {x y z : Int32} (hd : decode bytes pc = .ok (.iushr, 1)) (hz : XT.ushr x y = z) (hn : pc + 1 = n) (K : Gl p e below s n0 P C S (T.setTop (mkF m n ls (.int z :: st)))) : Gl p e below s n0 P C S (T.setTop (mkF m pc ls (.int y :: .int x :: st))) := by
  obtain ⟨_, X, -⟩ := X; obtain ⟨hx, hby, hZ, hown, -⟩ := w; subst hn hz
  exact Gl.of (fun t k => XT.iushr X.here hx rfl (hb hby hd) rfl k) K
theorem gIdiv (X : Sd p l e R s m args below meth c n0 T h cells slots) (w : Cx Z own nm bytes maxL ret p s m meth c) {x y z : Int32} (hd : decode bytes pc = .ok (.idiv, 1)) (hy : y ≠ 0) (hz : x / y = z) (hn : pc + 1 = n) (K : Gl p e below s n0 P C S (T.setTop (mkF m n ls (.int z :: st)))) : Gl p e below s n0 P C S (T.setTop (mkF m pc ls (.int y :: .int x :: st))) := by
  obtain ⟨_, X, -⟩ := X; obtain ⟨hx, hby, hZ, hown, -⟩ := w; subst hn hz
  exact Gl.of (fun t k => XS.idiv X.here hx rfl (hb hby hd) rfl hy k) K
theorem gIrem (X : Sd p l e R s m args below meth c n0 T h cells slots) (w : Cx Z own nm bytes maxL ret p s m meth c) {x y z : Int32} (hd : decode bytes pc = .ok (.irem, 1)) (hy : y ≠ 0) (hz : x % y = z) (hn : pc + 1 = n) (K : Gl p e below s n0 P C S (T.setTop (mkF m n ls (.int z :: st)))) : Gl p e below s n0 P C S (T.setTop (mkF m pc ls (.int y :: .int x :: st))) := by
  obtain ⟨_, X, -⟩ := X; obtain ⟨hx, hby, hZ, hown, -⟩ := w; subst hn hz
  exact Gl.of (fun t k => iremM X hx rfl (hb hby hd) rfl hy k) K
theorem gIneg (X : Sd p l e R s m args below meth c n0 T h cells slots) (w : Cx Z own nm bytes maxL ret p s m meth c) {x z : Int32} (hd : decode bytes pc = .ok (.ineg, 1)) (hz : -x = z) (hn : pc + 1 = n) (K : Gl p e below s n0 P C S (T.setTop (mkF m n ls (.int z :: st)))) : Gl p e below s n0 P C S (T.setTop (mkF m pc ls (.int x :: st))) := by
  obtain ⟨_, X, -⟩ := X; obtain ⟨hx, hby, hZ, hown, -⟩ := w; subst hn hz
  exact Gl.of (fun t k => XS.ineg X.here hx rfl (hb hby hd) rfl k) K
theorem gLadd (X : Sd p l e R s m args below meth c n0 T h cells slots) (w : Cx Z own nm bytes maxL ret p s m meth c) {x y z : Int64} (hd : decode bytes pc = .ok (.ladd, 1)) (hz : x + y = z) (hn : pc + 1 = n) (K : Gl p e below s n0 P C S (T.setTop (mkF m n ls (.long z :: st)))) : Gl p e below s n0 P C S (T.setTop (mkF m pc ls (.long y :: .long x :: st))) := by
  obtain ⟨_, X, -⟩ := X; obtain ⟨hx, hby, hZ, hown, -⟩ := w; subst hn hz
  exact Gl.of (fun t k => XT.ladd X.here hx rfl (hb hby hd) rfl k) K
theorem gLsub (X : Sd p l e R s m args below meth c n0 T h cells slots) (w : Cx Z own nm bytes maxL ret p s m meth c) {x y z : Int64} (hd : decode bytes pc = .ok (.lsub, 1)) (hz : x - y = z) (hn : pc + 1 = n) (K : Gl p e below s n0 P C S (T.setTop (mkF m n ls (.long z :: st)))) : Gl p e below s n0 P C S (T.setTop (mkF m pc ls (.long y :: .long x :: st))) := by
  obtain ⟨_, X, -⟩ := X; obtain ⟨hx, hby, hZ, hown, -⟩ := w; subst hn hz
  exact Gl.of (fun t k => XT.lsub X.here hx rfl (hb hby hd) rfl k) K
theorem gLmul (X : Sd p l e R s m args below meth c n0 T h cells slots) (w : Cx Z own nm bytes maxL ret p s m meth c) {x y z : Int64} (hd : decode bytes pc = .ok (.lmul, 1)) (hz : x * y = z) (hn : pc + 1 = n) (K : Gl p e below s n0 P C S (T.setTop (mkF m n ls (.long z :: st)))) : Gl p e below s n0 P C S (T.setTop (mkF m pc ls (.long y :: .long x :: st))) := by
  obtain ⟨_, X, -⟩ := X; obtain ⟨hx, hby, hZ, hown, -⟩ := w; subst hn hz
  exact Gl.of (fun t k => XT.lmul X.here hx rfl (hb hby hd) rfl k) K
theorem gLand (X : Sd p l e R s m args below meth c n0 T h cells slots) (w : Cx Z own nm bytes maxL ret p s m meth c) {x y z : Int64} (hd : decode bytes pc = .ok (.land, 1)) (hz : x &&& y = z) (hn : pc + 1 = n) (K : Gl p e below s n0 P C S (T.setTop (mkF m n ls (.long z :: st)))) : Gl p e below s n0 P C S (T.setTop (mkF m pc ls (.long y :: .long x :: st))) := by
  obtain ⟨_, X, -⟩ := X; obtain ⟨hx, hby, hZ, hown, -⟩ := w; subst hn hz
  exact Gl.of (fun t k => XT.land X.here hx rfl (hb hby hd) rfl k) K
theorem gLor (X : Sd p l e R s m args below meth c n0 T h cells slots) (w : Cx Z own nm bytes maxL ret p s m meth c) {x y z : Int64} (hd : decode bytes pc = .ok (.lor, 1)) (hz : x ||| y = z) (hn : pc + 1 = n) (K : Gl p e below s n0 P C S (T.setTop (mkF m n ls (.long z :: st)))) : Gl p e below s n0 P C S (T.setTop (mkF m pc ls (.long y :: .long x :: st))) := by
  obtain ⟨_, X, -⟩ := X; obtain ⟨hx, hby, hZ, hown, -⟩ := w; subst hn hz
  exact Gl.of (fun t k => XT.lor X.here hx rfl (hb hby hd) rfl k) K
theorem gLxor (X : Sd p l e R s m args below meth c n0 T h cells slots) (w : Cx Z own nm bytes maxL ret p s m meth c) {x y z : Int64} (hd : decode bytes pc = .ok (.lxor, 1)) (hz : x ^^^ y = z) (hn : pc + 1 = n) (K : Gl p e below s n0 P C S (T.setTop (mkF m n ls (.long z :: st)))) : Gl p e below s n0 P C S (T.setTop (mkF m pc ls (.long y :: .long x :: st))) := by
  obtain ⟨_, X, -⟩ := X; obtain ⟨hx, hby, hZ, hown, -⟩ := w; subst hn hz
  exact Gl.of (fun t k => XT.lxor X.here hx rfl (hb hby hd) rfl k) K
theorem gLshl (X : Sd p l e R s m args below meth c n0 T h cells slots) (w : Cx Z own nm bytes maxL ret p s m meth c) {x z : Int64} {y : Int32} (hd : decode bytes pc = .ok (.lshl, 1)) (hz : x <<< (y.toInt64 &&& 63) = z) (hn : pc + 1 = n) (K : Gl p e below s n0 P C S (T.setTop (mkF m n ls (.long z :: st)))) : Gl p e below s n0 P C S (T.setTop (mkF m pc ls (.int y :: .long x :: st))) := by
  obtain ⟨_, X, -⟩ := X; obtain ⟨hx, hby, hZ, hown, -⟩ := w; subst hn hz
  exact Gl.of (fun t k => XT.lshl X.here hx rfl (hb hby hd) rfl k) K
theorem gLshr (X : Sd p l e R s m args below meth c n0 T h cells slots) (w : Cx Z own nm bytes maxL ret p s m meth c) {x z : Int64} {y : Int32} (hd : decode bytes pc = .ok (.lshr, 1)) (hz : x >>> (y.toInt64 &&& 63) = z) (hn : pc + 1 = n) (K : Gl p e below s n0 P C S (T.setTop (mkF m n ls (.long z :: st)))) : Gl p e below s n0 P C S (T.setTop (mkF m pc ls (.int y :: .long x :: st))) := by
  obtain ⟨_, X, -⟩ := X; obtain ⟨hx, hby, hZ, hown, -⟩ := w; subst hn hz
  exact Gl.of (fun t k => XT.lshr X.here hx rfl (hb hby hd) rfl k) K
theorem gLushr (X : Sd p l e R s m args below meth c n0 T h cells slots) (w : Cx Z own nm bytes maxL ret p s m meth c) {x z : Int64} {y : Int32} (hd : decode bytes pc = .ok (.lushr, 1)) (hz : XT.ushrL x y = z) (hn : pc + 1 = n) (K : Gl p e below s n0 P C S (T.setTop (mkF m n ls (.long z :: st)))) : Gl p e below s n0 P C S (T.setTop (mkF m pc ls (.int y :: .long x :: st))) := by
  obtain ⟨_, X, -⟩ := X; obtain ⟨hx, hby, hZ, hown, -⟩ := w; subst hn hz
  exact Gl.of (fun t k => XT.lushr X.here hx rfl (hb hby hd) rfl k) K
theorem gLneg (X : Sd p l e R s m args below meth c n0 T h cells slots) (w : Cx Z own nm bytes maxL ret p s m meth c) {x z : Int64} (hd : decode bytes pc = .ok (.lneg, 1)) (hz : -x = z) (hn : pc + 1 = n) (K : Gl p e below s n0 P C S (T.setTop (mkF m n ls (.long z :: st)))) : Gl p e below s n0 P C S (T.setTop (mkF m pc ls (.long x :: st))) := by
  obtain ⟨_, X, -⟩ := X; obtain ⟨hx, hby, hZ, hown, -⟩ := w; subst hn hz
  exact Gl.of (fun t k => XT.lneg X.here hx rfl (hb hby hd) rfl k) K
theorem gLdiv (X : Sd p l e R s m args below meth c n0 T h cells slots) (w : Cx Z own nm bytes maxL ret p s m meth c) {x y z : Int64} (hd : decode bytes pc = .ok (.ldiv, 1)) (hy : y ≠ 0) (hz : x / y = z) (hn : pc + 1 = n) (K : Gl p e below s n0 P C S (T.setTop (mkF m n ls (.long z :: st)))) : Gl p e below s n0 P C S (T.setTop (mkF m pc ls (.long y :: .long x :: st))) := by
  obtain ⟨_, X, -⟩ := X; obtain ⟨hx, hby, hZ, hown, -⟩ := w; subst hn hz
  exact Gl.of (fun t k => XT.ldiv X.here hx rfl (hb hby hd) rfl hy k) K
theorem gLrem (X : Sd p l e R s m args below meth c n0 T h cells slots) (w : Cx Z own nm bytes maxL ret p s m meth c) {x y z : Int64} (hd : decode bytes pc = .ok (.lrem, 1)) (hy : y ≠ 0) (hz : x % y = z) (hn : pc + 1 = n) (K : Gl p e below s n0 P C S (T.setTop (mkF m n ls (.long z :: st)))) : Gl p e below s n0 P C S (T.setTop (mkF m pc ls (.long y :: .long x :: st))) := by
  obtain ⟨_, X, -⟩ := X; obtain ⟨hx, hby, hZ, hown, -⟩ := w; subst hn; rw [← lrem_mod] at hz; subst hz
  exact Gl.of (fun t k => XT.lrem X.here hx rfl (hb hby hd) rfl hy k) K
theorem gLcmp (X : Sd p l e R s m args below meth c n0 T h cells slots) (w : Cx Z own nm bytes maxL ret p s m meth c) {x y : Int64} {z : Int32} (hd : decode bytes pc = .ok (.lcmp, 1)) (hz : XT.cmpL x y = z) (hn : pc + 1 = n) (K : Gl p e below s n0 P C S (T.setTop (mkF m n ls (.int z :: st)))) : Gl p e below s n0 P C S (T.setTop (mkF m pc ls (.long y :: .long x :: st))) := by
  obtain ⟨_, X, -⟩ := X; obtain ⟨hx, hby, hZ, hown, -⟩ := w; subst hn hz
  exact Gl.of (fun t k => XT.lcmp X.here hx rfl (hb hby hd) rfl k) K
theorem gI2l (X : Sd p l e R s m args below meth c n0 T h cells slots) (w : Cx Z own nm bytes maxL ret p s m meth c) {x : Int32} {z : Int64} (hd : decode bytes pc = .ok (.i2l, 1)) (hz : x.toInt64 = z) (hn : pc + 1 = n) (K : Gl p e below s n0 P C S (T.setTop (mkF m n ls (.long z :: st)))) : Gl p e below s n0 P C S (T.setTop (mkF m pc ls (.int x :: st))) := by
  obtain ⟨_, X, -⟩ := X; obtain ⟨hx, hby, hZ, hown, -⟩ := w; subst hn hz
  exact Gl.of (fun t k => XT.i2l X.here hx rfl (hb hby hd) rfl k) K
theorem gL2i (X : Sd p l e R s m args below meth c n0 T h cells slots) (w : Cx Z own nm bytes maxL ret p s m meth c) {x : Int64} {z : Int32} (hd : decode bytes pc = .ok (.l2i, 1)) (hz : x.toInt32 = z) (hn : pc + 1 = n) (K : Gl p e below s n0 P C S (T.setTop (mkF m n ls (.int z :: st)))) : Gl p e below s n0 P C S (T.setTop (mkF m pc ls (.long x :: st))) := by
  obtain ⟨_, X, -⟩ := X; obtain ⟨hx, hby, hZ, hown, -⟩ := w; subst hn hz
  exact Gl.of (fun t k => XT.l2i X.here hx rfl (hb hby hd) rfl k) K
theorem gI2b (X : Sd p l e R s m args below meth c n0 T h cells slots) (w : Cx Z own nm bytes maxL ret p s m meth c) {x : Int32} {z : Int32} (hd : decode bytes pc = .ok (.i2b, 1)) (hz : x.toInt8.toInt32 = z) (hn : pc + 1 = n) (K : Gl p e below s n0 P C S (T.setTop (mkF m n ls (.int z :: st)))) : Gl p e below s n0 P C S (T.setTop (mkF m pc ls (.int x :: st))) := by
  obtain ⟨_, X, -⟩ := X; obtain ⟨hx, hby, hZ, hown, -⟩ := w; subst hn hz
  exact Gl.of (fun t k => XT.i2b X.here hx rfl (hb hby hd) rfl k) K
theorem gI2c (X : Sd p l e R s m args below meth c n0 T h cells slots) (w : Cx Z own nm bytes maxL ret p s m meth c) {x : Int32} {z : Int32} (hd : decode bytes pc = .ok (.i2c, 1)) (hz : x.toUInt32.toUInt16.toUInt32.toInt32 = z) (hn : pc + 1 = n) (K : Gl p e below s n0 P C S (T.setTop (mkF m n ls (.int z :: st)))) : Gl p e below s n0 P C S (T.setTop (mkF m pc ls (.int x :: st))) := by
  obtain ⟨_, X, -⟩ := X; obtain ⟨hx, hby, hZ, hown, -⟩ := w; subst hn hz
  exact Gl.of (fun t k => XT.i2c X.here hx rfl (hb hby hd) rfl k) K
theorem gI2s (X : Sd p l e R s m args below meth c n0 T h cells slots) (w : Cx Z own nm bytes maxL ret p s m meth c) {x : Int32} {z : Int32} (hd : decode bytes pc = .ok (.i2s, 1)) (hz : x.toInt16.toInt32 = z) (hn : pc + 1 = n) (K : Gl p e below s n0 P C S (T.setTop (mkF m n ls (.int z :: st)))) : Gl p e below s n0 P C S (T.setTop (mkF m pc ls (.int x :: st))) := by
  obtain ⟨_, X, -⟩ := X; obtain ⟨hx, hby, hZ, hown, -⟩ := w; subst hn hz
  exact Gl.of (fun t k => XT.i2s X.here hx rfl (hb hby hd) rfl k) K
theorem gIstore (X : Sd p l e R s m args below meth c n0 T h cells slots) (w : Cx Z own nm bytes maxL ret p s m meth c) {k : Nat} {x : Int32} (hd : decode bytes pc = .ok (.istore k, 2)) (l' : Array Slot) (hl : storeLocals ls k (.int x) = some l') (hn : pc + 2 = n) (K : Gl p e below s n0 P C S (T.setTop (mkF m n l' st))) : Gl p e below s n0 P C S (T.setTop (mkF m pc ls (.int x :: st))) := by
  obtain ⟨_, X, -⟩ := X; obtain ⟨hx, hby, hZ, hown, -⟩ := w; subst hn
  exact Gl.of (fun t k => XS.istore X.here hx rfl (hb hby hd) rfl hl k) K
theorem gIstoreN (X : Sd p l e R s m args below meth c n0 T h cells slots) (w : Cx Z own nm bytes maxL ret p s m meth c) {k : Fin 4} {x : Int32} (hd : decode bytes pc = .ok (.istore_n k, 1)) (l' : Array Slot) (hl : storeLocals ls k.val (.int x) = some l') (hn : pc + 1 = n) (K : Gl p e below s n0 P C S (T.setTop (mkF m n l' st))) : Gl p e below s n0 P C S (T.setTop (mkF m pc ls (.int x :: st))) := by
  obtain ⟨_, X, -⟩ := X; obtain ⟨hx, hby, hZ, hown, -⟩ := w; subst hn
  exact Gl.of (fun t k => XS.istoreN X.here hx rfl (hb hby hd) rfl hl k) K
theorem gJstore (X : Sd p l e R s m args below meth c n0 T h cells slots) (w : Cx Z own nm bytes maxL ret p s m meth c) {k : Nat} {x : Int64} (hd : decode bytes pc = .ok (.lstore k, 2)) (l' : Array Slot) (hl : storeLocals ls k (.long x) = some l') (hn : pc + 2 = n) (K : Gl p e below s n0 P C S (T.setTop (mkF m n l' st))) : Gl p e below s n0 P C S (T.setTop (mkF m pc ls (.long x :: st))) := by
  obtain ⟨_, X, -⟩ := X; obtain ⟨hx, hby, hZ, hown, -⟩ := w; subst hn
  exact Gl.of (fun t k => XT.lstore X.here hx rfl (hb hby hd) rfl hl k) K
theorem gJstoreN (X : Sd p l e R s m args below meth c n0 T h cells slots) (w : Cx Z own nm bytes maxL ret p s m meth c) {k : Fin 4} {x : Int64} (hd : decode bytes pc = .ok (.lstore_n k, 1)) (l' : Array Slot) (hl : storeLocals ls k.val (.long x) = some l') (hn : pc + 1 = n) (K : Gl p e below s n0 P C S (T.setTop (mkF m n l' st))) : Gl p e below s n0 P C S (T.setTop (mkF m pc ls (.long x :: st))) := by
  obtain ⟨_, X, -⟩ := X; obtain ⟨hx, hby, hZ, hown, -⟩ := w; subst hn
  exact Gl.of (fun t k => XT.lstoreN X.here hx rfl (hb hby hd) rfl hl k) K
theorem gAstore (X : Sd p l e R s m args below meth c n0 T h cells slots) (w : Cx Z own nm bytes maxL ret p s m meth c) {k : Nat} {x : Value} (hd : decode bytes pc = .ok (.astore k, 2)) (hv : x.isRef = true) (l' : Array Slot) (hl : storeLocals ls k x = some l') (hn : pc + 2 = n) (K : Gl p e below s n0 P C S (T.setTop (mkF m n l' st))) : Gl p e below s n0 P C S (T.setTop (mkF m pc ls (x :: st))) := by
  obtain ⟨_, X, -⟩ := X; obtain ⟨hx, hby, hZ, hown, -⟩ := w; subst hn
  exact Gl.of (fun t k => XS.astore X.here hx rfl (hb hby hd) rfl hv hl k) K
theorem gAstoreN (X : Sd p l e R s m args below meth c n0 T h cells slots) (w : Cx Z own nm bytes maxL ret p s m meth c) {k : Fin 4} {x : Value} (hd : decode bytes pc = .ok (.astore_n k, 1)) (hv : x.isRef = true) (l' : Array Slot) (hl : storeLocals ls k.val x = some l') (hn : pc + 1 = n) (K : Gl p e below s n0 P C S (T.setTop (mkF m n l' st))) : Gl p e below s n0 P C S (T.setTop (mkF m pc ls (x :: st))) := by
  obtain ⟨_, X, -⟩ := X; obtain ⟨hx, hby, hZ, hown, -⟩ := w; subst hn
  exact Gl.of (fun t k => XS.astoreN X.here hx rfl (hb hby hd) rfl hv hl k) K
theorem gIinc (X : Sd p l e R s m args below meth c n0 T h cells slots) (w : Cx Z own nm bytes maxL ret p s m meth c) {k : Nat} {i : Int} {x z : Int32} (hd : decode bytes pc = .ok (.iinc k i, 3)) (hl0 : ls[k]? = some (.val (.int x))) (hz : x + Int32.ofInt i = z) (l' : Array Slot) (hl : storeLocals ls k (.int z) = some l') (hn : pc + 3 = n) (K : Gl p e below s n0 P C S (T.setTop (mkF m n l' st))) : Gl p e below s n0 P C S (T.setTop (mkF m pc ls st)) := by
  obtain ⟨_, X, -⟩ := X; obtain ⟨hx, hby, hZ, hown, -⟩ := w; subst hn hz
  exact Gl.of (fun t k => XS.iinc X.here hx rfl (hb hby hd) hl0 hl k) K
theorem gDup (X : Sd p l e R s m args below meth c n0 T h cells slots) (w : Cx Z own nm bytes maxL ret p s m meth c) {x : Value} (hd : decode bytes pc = .ok (.dup, 1)) (hc : x.category = 1) (hn : pc + 1 = n) (K : Gl p e below s n0 P C S (T.setTop (mkF m n ls (x :: x :: st)))) : Gl p e below s n0 P C S (T.setTop (mkF m pc ls (x :: st))) := by
  obtain ⟨_, X, -⟩ := X; obtain ⟨hx, hby, hZ, hown, -⟩ := w; subst hn
  exact Gl.of (fun t k => XS.dup X.here hx rfl (hb hby hd) rfl hc k) K
theorem gPop (X : Sd p l e R s m args below meth c n0 T h cells slots) (w : Cx Z own nm bytes maxL ret p s m meth c) {x : Value} (hd : decode bytes pc = .ok (.pop, 1)) (hc : x.category = 1) (hn : pc + 1 = n) (K : Gl p e below s n0 P C S (T.setTop (mkF m n ls st))) : Gl p e below s n0 P C S (T.setTop (mkF m pc ls (x :: st))) := by
  obtain ⟨_, X, -⟩ := X; obtain ⟨hx, hby, hZ, hown, -⟩ := w; subst hn
  exact Gl.of (fun t k => XT.pop X.here hx rfl (hb hby hd) rfl hc k) K
theorem gDupX1 (X : Sd p l e R s m args below meth c n0 T h cells slots) (w : Cx Z own nm bytes maxL ret p s m meth c) {x y : Value} (hd : decode bytes pc = .ok (.dup_x1, 1)) (hc : x.category = 1) (hc' : y.category = 1) (hn : pc + 1 = n) (K : Gl p e below s n0 P C S (T.setTop (mkF m n ls (x :: y :: x :: st)))) : Gl p e below s n0 P C S (T.setTop (mkF m pc ls (x :: y :: st))) := by
  obtain ⟨_, X, -⟩ := X; obtain ⟨hx, hby, hZ, hown, -⟩ := w; subst hn
  exact Gl.of (fun t k => XT.dupX1 X.here hx rfl (hb hby hd) rfl hc hc' k) K
theorem gDup2 (X : Sd p l e R s m args below meth c n0 T h cells slots) (w : Cx Z own nm bytes maxL ret p s m meth c) {x y : Value} (hd : decode bytes pc = .ok (.dup2, 1)) (hc : x.category = 1) (hc' : y.category = 1) (hn : pc + 1 = n) (K : Gl p e below s n0 P C S (T.setTop (mkF m n ls (x :: y :: x :: y :: st)))) : Gl p e below s n0 P C S (T.setTop (mkF m pc ls (x :: y :: st))) := by
  obtain ⟨_, X, -⟩ := X; obtain ⟨hx, hby, hZ, hown, -⟩ := w; subst hn
  exact Gl.of (fun t k => XT.dup2 X.here hx rfl (hb hby hd) rfl hc hc' k) K
theorem gDup2L (X : Sd p l e R s m args below meth c n0 T h cells slots) (w : Cx Z own nm bytes maxL ret p s m meth c) {x : Int64} (hd : decode bytes pc = .ok (.dup2, 1)) (hn : pc + 1 = n) (K : Gl p e below s n0 P C S (T.setTop (mkF m n ls (.long x :: .long x :: st)))) : Gl p e below s n0 P C S (T.setTop (mkF m pc ls (.long x :: st))) := by
  obtain ⟨_, X, -⟩ := X; obtain ⟨hx, hby, hZ, hown, -⟩ := w; subst hn
  exact Gl.of (fun t k => XT.dup2L X.here hx rfl (hb hby hd) rfl k) K
theorem gGoto (X : Sd p l e R s m args below meth c n0 T h cells slots) (w : Cx Z own nm bytes maxL ret p s m meth c) {o : Int} (hd : decode bytes pc = .ok (.goto o, 3)) (ho : 0 ≤ (pc : Int) + o) (hp : ((pc : Int) + o).toNat = n) (K : Gl p e below s n0 P C S (T.setTop (mkF m n ls st))) : Gl p e below s n0 P C S (T.setTop (mkF m pc ls st)) := by
  obtain ⟨_, X, -⟩ := X; obtain ⟨hx, hby, hZ, hown, -⟩ := w; 
  exact Gl.of (fun t k => XS.goto X.here hx rfl rfl (hb hby hd) ho hp k) K
theorem gIf_eq (X : Sd p l e R s m args below meth c n0 T h cells slots) (w : Cx Z own nm bytes maxL ret p s m meth c) {x : Int32} {o : Int} (hd : decode bytes pc = .ok (.ifCond .eq o, 3)) (ho : 0 ≤ (pc : Int) + o) {n' : Nat} (hp : ((pc : Int) + o).toNat = n) (hn : pc + 3 = n') (K1 : x = (0 : Int32) ∧ x.toInt = 0 → Gl p e below s n0 P C S (T.setTop (mkF m n ls st))) (K2 : ¬ x = (0 : Int32) ∧ ¬ x.toInt = 0 → Gl p e below s n0 P C S (T.setTop (mkF m n' ls st))) : Gl p e below s n0 P C S (T.setTop (mkF m pc ls (.int x :: st))) := by
  obtain ⟨_, X, -⟩ := X; obtain ⟨hx, hby, -⟩ := w; subst hn
  by_cases q : x = (0 : Int32)
  · exact Gl.of (fun t k => XS.ifYes X.here hx rfl rfl (hb hby hd) rfl (XT.i0_eq_t q) ho hp k) (K1 ⟨q, by rw [q]; rfl⟩)
  · exact Gl.of (fun t k => XS.ifNo X.here hx rfl (hb hby hd) rfl (XT.i0_eq_f q) k) (K2 ⟨q, fun q' => q (Int32.toInt_inj.mp q')⟩)
theorem gIcmp_eq (X : Sd p l e R s m args below meth c n0 T h cells slots) (w : Cx Z own nm bytes maxL ret p s m meth c) {x y : Int32} {o : Int} (hd : decode bytes pc = .ok (.if_icmp .eq o, 3)) (ho : 0 ≤ (pc : Int) + o) {n' : Nat} (hp : ((pc : Int) + o).toNat = n) (hn : pc + 3 = n') (K1 : x = y ∧ x.toInt = y.toInt → Gl p e below s n0 P C S (T.setTop (mkF m n ls st))) (K2 : ¬ x = y ∧ ¬ x.toInt = y.toInt → Gl p e below s n0 P C S (T.setTop (mkF m n' ls st))) : Gl p e below s n0 P C S (T.setTop (mkF m pc ls (.int y :: .int x :: st))) := by
  obtain ⟨_, X, -⟩ := X; obtain ⟨hx, hby, -⟩ := w; subst hn
  by_cases q : x = y
  · exact Gl.of (fun t k => XS.icmpYes X.here hx rfl rfl (hb hby hd) rfl (XT.ii_eq_t q) ho hp k) (K1 ⟨q, by rw [q]⟩)
  · exact Gl.of (fun t k => XS.icmpNo X.here hx rfl (hb hby hd) rfl (XT.ii_eq_f q) k) (K2 ⟨q, fun q' => q (Int32.toInt_inj.mp q')⟩)
theorem gIfL_eq (X : Sd p l e R s m args below meth c n0 T h cells slots) (w : Cx Z own nm bytes maxL ret p s m meth c) {x y : Int64} {o : Int} (hd : decode bytes pc = .ok (.ifCond .eq o, 3)) (ho : 0 ≤ (pc : Int) + o) {n' : Nat} (hp : ((pc : Int) + o).toNat = n) (hn : pc + 3 = n') (K1 : x = y ∧ x.toInt = y.toInt → Gl p e below s n0 P C S (T.setTop (mkF m n ls st))) (K2 : ¬ x = y ∧ ¬ x.toInt = y.toInt → Gl p e below s n0 P C S (T.setTop (mkF m n' ls st))) : Gl p e below s n0 P C S (T.setTop (mkF m pc ls (.int (XT.cmpL x y) :: st))) := by
  obtain ⟨_, X, -⟩ := X; obtain ⟨hx, hby, -⟩ := w; subst hn
  by_cases q : x = y
  · exact Gl.of (fun t k => XS.ifYes X.here hx rfl rfl (hb hby hd) rfl (XT.ll_eq_t q) ho hp k) (K1 ⟨q, by rw [q]⟩)
  · exact Gl.of (fun t k => XS.ifNo X.here hx rfl (hb hby hd) rfl (XT.ll_eq_f q) k) (K2 ⟨q, fun q' => q (Int64.toInt_inj.mp q')⟩)
theorem gIf_ne (X : Sd p l e R s m args below meth c n0 T h cells slots) (w : Cx Z own nm bytes maxL ret p s m meth c) {x : Int32} {o : Int} (hd : decode bytes pc = .ok (.ifCond .ne o, 3)) (ho : 0 ≤ (pc : Int) + o) {n' : Nat} (hp : ((pc : Int) + o).toNat = n) (hn : pc + 3 = n') (K1 : ¬ x = (0 : Int32) ∧ ¬ x.toInt = 0 → Gl p e below s n0 P C S (T.setTop (mkF m n ls st))) (K2 : x = (0 : Int32) ∧ x.toInt = 0 → Gl p e below s n0 P C S (T.setTop (mkF m n' ls st))) : Gl p e below s n0 P C S (T.setTop (mkF m pc ls (.int x :: st))) := by
  obtain ⟨_, X, -⟩ := X; obtain ⟨hx, hby, -⟩ := w; subst hn
  by_cases q : x = (0 : Int32)
  · exact Gl.of (fun t k => XS.ifNo X.here hx rfl (hb hby hd) rfl (XT.i0_ne_f q) k) (K2 ⟨q, by rw [q]; rfl⟩)
  · exact Gl.of (fun t k => XS.ifYes X.here hx rfl rfl (hb hby hd) rfl (XT.i0_ne_t q) ho hp k) (K1 ⟨q, fun q' => q (Int32.toInt_inj.mp q')⟩)
theorem gIcmp_ne (X : Sd p l e R s m args below meth c n0 T h cells slots) (w : Cx Z own nm bytes maxL ret p s m meth c) {x y : Int32} {o : Int} (hd : decode bytes pc = .ok (.if_icmp .ne o, 3)) (ho : 0 ≤ (pc : Int) + o) {n' : Nat} (hp : ((pc : Int) + o).toNat = n) (hn : pc + 3 = n') (K1 : ¬ x = y ∧ ¬ x.toInt = y.toInt → Gl p e below s n0 P C S (T.setTop (mkF m n ls st))) (K2 : x = y ∧ x.toInt = y.toInt → Gl p e below s n0 P C S (T.setTop (mkF m n' ls st))) : Gl p e below s n0 P C S (T.setTop (mkF m pc ls (.int y :: .int x :: st))) := by
  obtain ⟨_, X, -⟩ := X; obtain ⟨hx, hby, -⟩ := w; subst hn
  by_cases q : x = y
  · exact Gl.of (fun t k => XS.icmpNo X.here hx rfl (hb hby hd) rfl (XT.ii_ne_f q) k) (K2 ⟨q, by rw [q]⟩)
  · exact Gl.of (fun t k => XS.icmpYes X.here hx rfl rfl (hb hby hd) rfl (XT.ii_ne_t q) ho hp k) (K1 ⟨q, fun q' => q (Int32.toInt_inj.mp q')⟩)
theorem gIfL_ne (X : Sd p l e R s m args below meth c n0 T h cells slots) (w : Cx Z own nm bytes maxL ret p s m meth c) {x y : Int64} {o : Int} (hd : decode bytes pc = .ok (.ifCond .ne o, 3)) (ho : 0 ≤ (pc : Int) + o) {n' : Nat} (hp : ((pc : Int) + o).toNat = n) (hn : pc + 3 = n') (K1 : ¬ x = y ∧ ¬ x.toInt = y.toInt → Gl p e below s n0 P C S (T.setTop (mkF m n ls st))) (K2 : x = y ∧ x.toInt = y.toInt → Gl p e below s n0 P C S (T.setTop (mkF m n' ls st))) : Gl p e below s n0 P C S (T.setTop (mkF m pc ls (.int (XT.cmpL x y) :: st))) := by
  obtain ⟨_, X, -⟩ := X; obtain ⟨hx, hby, -⟩ := w; subst hn
  by_cases q : x = y
  · exact Gl.of (fun t k => XS.ifNo X.here hx rfl (hb hby hd) rfl (XT.ll_ne_f q) k) (K2 ⟨q, by rw [q]⟩)
  · exact Gl.of (fun t k => XS.ifYes X.here hx rfl rfl (hb hby hd) rfl (XT.ll_ne_t q) ho hp k) (K1 ⟨q, fun q' => q (Int64.toInt_inj.mp q')⟩)
theorem gIf_lt (X : Sd p l e R s m args below meth c n0 T h cells slots) (w : Cx Z own nm bytes maxL ret p s m meth c) {x : Int32} {o : Int} (hd : decode bytes pc = .ok (.ifCond .lt o, 3)) (ho : 0 ≤ (pc : Int) + o) {n' : Nat} (hp : ((pc : Int) + o).toNat = n) (hn : pc + 3 = n') (K1 : x.toInt < 0 → Gl p e below s n0 P C S (T.setTop (mkF m n ls st))) (K2 : 0 ≤ x.toInt → Gl p e below s n0 P C S (T.setTop (mkF m n' ls st))) : Gl p e below s n0 P C S (T.setTop (mkF m pc ls (.int x :: st))) := by
  obtain ⟨_, X, -⟩ := X; obtain ⟨hx, hby, -⟩ := w; subst hn
  by_cases q : x < (0 : Int32)
  · exact Gl.of (fun t k => XS.ifYes X.here hx rfl rfl (hb hby hd) rfl (XT.i0_lt_t q) ho hp k) (K1 (Int32.lt_iff_toInt_lt.mp q))
  · exact Gl.of (fun t k => XS.ifNo X.here hx rfl (hb hby hd) rfl (XT.i0_lt_f q) k) (K2 (Int.not_lt.mp fun q' => q (Int32.lt_iff_toInt_lt.mpr q')))
theorem gIcmp_lt (X : Sd p l e R s m args below meth c n0 T h cells slots) (w : Cx Z own nm bytes maxL ret p s m meth c) {x y : Int32} {o : Int} (hd : decode bytes pc = .ok (.if_icmp .lt o, 3)) (ho : 0 ≤ (pc : Int) + o) {n' : Nat} (hp : ((pc : Int) + o).toNat = n) (hn : pc + 3 = n') (K1 : x.toInt < y.toInt → Gl p e below s n0 P C S (T.setTop (mkF m n ls st))) (K2 : y.toInt ≤ x.toInt → Gl p e below s n0 P C S (T.setTop (mkF m n' ls st))) : Gl p e below s n0 P C S (T.setTop (mkF m pc ls (.int y :: .int x :: st))) := by
  obtain ⟨_, X, -⟩ := X; obtain ⟨hx, hby, -⟩ := w; subst hn
  by_cases q : x < y
  · exact Gl.of (fun t k => XS.icmpYes X.here hx rfl rfl (hb hby hd) rfl (XT.ii_lt_t q) ho hp k) (K1 (Int32.lt_iff_toInt_lt.mp q))
  · exact Gl.of (fun t k => XS.icmpNo X.here hx rfl (hb hby hd) rfl (XT.ii_lt_f q) k) (K2 (Int.not_lt.mp fun q' => q (Int32.lt_iff_toInt_lt.mpr q')))
theorem gIfL_lt (X : Sd p l e R s m args below meth c n0 T h cells slots) (w : Cx Z own nm bytes maxL ret p s m meth c) {x y : Int64} {o : Int} (hd : decode bytes pc = .ok (.ifCond .lt o, 3)) (ho : 0 ≤ (pc : Int) + o) {n' : Nat} (hp : ((pc : Int) + o).toNat = n) (hn : pc + 3 = n') (K1 : x.toInt < y.toInt → Gl p e below s n0 P C S (T.setTop (mkF m n ls st))) (K2 : y.toInt ≤ x.toInt → Gl p e below s n0 P C S (T.setTop (mkF m n' ls st))) : Gl p e below s n0 P C S (T.setTop (mkF m pc ls (.int (XT.cmpL x y) :: st))) := by
  obtain ⟨_, X, -⟩ := X; obtain ⟨hx, hby, -⟩ := w; subst hn
  by_cases q : x < y
  · exact Gl.of (fun t k => XS.ifYes X.here hx rfl rfl (hb hby hd) rfl (XT.ll_lt_t q) ho hp k) (K1 (Int64.lt_iff_toInt_lt.mp q))
  · exact Gl.of (fun t k => XS.ifNo X.here hx rfl (hb hby hd) rfl (XT.ll_lt_f q) k) (K2 (Int.not_lt.mp fun q' => q (Int64.lt_iff_toInt_lt.mpr q')))
theorem gIf_ge (X : Sd p l e R s m args below meth c n0 T h cells slots) (w : Cx Z own nm bytes maxL ret p s m meth c) {x : Int32} {o : Int} (hd : decode bytes pc = .ok (.ifCond .ge o, 3)) (ho : 0 ≤ (pc : Int) + o) {n' : Nat} (hp : ((pc : Int) + o).toNat = n) (hn : pc + 3 = n') (K1 : 0 ≤ x.toInt → Gl p e below s n0 P C S (T.setTop (mkF m n ls st))) (K2 : x.toInt < 0 → Gl p e below s n0 P C S (T.setTop (mkF m n' ls st))) : Gl p e below s n0 P C S (T.setTop (mkF m pc ls (.int x :: st))) := by
  obtain ⟨_, X, -⟩ := X; obtain ⟨hx, hby, -⟩ := w; subst hn
  by_cases q : x < (0 : Int32)
  · exact Gl.of (fun t k => XS.ifNo X.here hx rfl (hb hby hd) rfl (XT.i0_ge_f q) k) (K2 (Int32.lt_iff_toInt_lt.mp q))
  · exact Gl.of (fun t k => XS.ifYes X.here hx rfl rfl (hb hby hd) rfl (XT.i0_ge_t q) ho hp k) (K1 (Int.not_lt.mp fun q' => q (Int32.lt_iff_toInt_lt.mpr q')))
theorem gIcmp_ge (X : Sd p l e R s m args below meth c n0 T h cells slots) (w : Cx Z own nm bytes maxL ret p s m meth c) {x y : Int32} {o : Int} (hd : decode bytes pc = .ok (.if_icmp .ge o, 3)) (ho : 0 ≤ (pc : Int) + o) {n' : Nat} (hp : ((pc : Int) + o).toNat = n) (hn : pc + 3 = n') (K1 : y.toInt ≤ x.toInt → Gl p e below s n0 P C S (T.setTop (mkF m n ls st))) (K2 : x.toInt < y.toInt → Gl p e below s n0 P C S (T.setTop (mkF m n' ls st))) : Gl p e below s n0 P C S (T.setTop (mkF m pc ls (.int y :: .int x :: st))) := by
  obtain ⟨_, X, -⟩ := X; obtain ⟨hx, hby, -⟩ := w; subst hn
  by_cases q : x < y
  · exact Gl.of (fun t k => XS.icmpNo X.here hx rfl (hb hby hd) rfl (XT.ii_ge_f q) k) (K2 (Int32.lt_iff_toInt_lt.mp q))
  · exact Gl.of (fun t k => XS.icmpYes X.here hx rfl rfl (hb hby hd) rfl (XT.ii_ge_t q) ho hp k) (K1 (Int.not_lt.mp fun q' => q (Int32.lt_iff_toInt_lt.mpr q')))
theorem gIfL_ge (X : Sd p l e R s m args below meth c n0 T h cells slots) (w : Cx Z own nm bytes maxL ret p s m meth c) {x y : Int64} {o : Int} (hd : decode bytes pc = .ok (.ifCond .ge o, 3)) (ho : 0 ≤ (pc : Int) + o) {n' : Nat} (hp : ((pc : Int) + o).toNat = n) (hn : pc + 3 = n') (K1 : y.toInt ≤ x.toInt → Gl p e below s n0 P C S (T.setTop (mkF m n ls st))) (K2 : x.toInt < y.toInt → Gl p e below s n0 P C S (T.setTop (mkF m n' ls st))) : Gl p e below s n0 P C S (T.setTop (mkF m pc ls (.int (XT.cmpL x y) :: st))) := by
  obtain ⟨_, X, -⟩ := X; obtain ⟨hx, hby, -⟩ := w; subst hn
  by_cases q : x < y
  · exact Gl.of (fun t k => XS.ifNo X.here hx rfl (hb hby hd) rfl (XT.ll_ge_f q) k) (K2 (Int64.lt_iff_toInt_lt.mp q))
  · exact Gl.of (fun t k => XS.ifYes X.here hx rfl rfl (hb hby hd) rfl (XT.ll_ge_t q) ho hp k) (K1 (Int.not_lt.mp fun q' => q (Int64.lt_iff_toInt_lt.mpr q')))
theorem gIf_gt (X : Sd p l e R s m args below meth c n0 T h cells slots) (w : Cx Z own nm bytes maxL ret p s m meth c) {x : Int32} {o : Int} (hd : decode bytes pc = .ok (.ifCond .gt o, 3)) (ho : 0 ≤ (pc : Int) + o) {n' : Nat} (hp : ((pc : Int) + o).toNat = n) (hn : pc + 3 = n') (K1 : 0 < x.toInt → Gl p e below s n0 P C S (T.setTop (mkF m n ls st))) (K2 : x.toInt ≤ 0 → Gl p e below s n0 P C S (T.setTop (mkF m n' ls st))) : Gl p e below s n0 P C S (T.setTop (mkF m pc ls (.int x :: st))) := by
  obtain ⟨_, X, -⟩ := X; obtain ⟨hx, hby, -⟩ := w; subst hn
  by_cases q : (0 : Int32) < x
  · exact Gl.of (fun t k => XS.ifYes X.here hx rfl rfl (hb hby hd) rfl (XT.i0_gt_t q) ho hp k) (K1 (Int32.lt_iff_toInt_lt.mp q))
  · exact Gl.of (fun t k => XS.ifNo X.here hx rfl (hb hby hd) rfl (XT.i0_gt_f q) k) (K2 (Int.not_lt.mp fun q' => q (Int32.lt_iff_toInt_lt.mpr q')))
theorem gIcmp_gt (X : Sd p l e R s m args below meth c n0 T h cells slots) (w : Cx Z own nm bytes maxL ret p s m meth c) {x y : Int32} {o : Int} (hd : decode bytes pc = .ok (.if_icmp .gt o, 3)) (ho : 0 ≤ (pc : Int) + o) {n' : Nat} (hp : ((pc : Int) + o).toNat = n) (hn : pc + 3 = n') (K1 : y.toInt < x.toInt → Gl p e below s n0 P C S (T.setTop (mkF m n ls st))) (K2 : x.toInt ≤ y.toInt → Gl p e below s n0 P C S (T.setTop (mkF m n' ls st))) : Gl p e below s n0 P C S (T.setTop (mkF m pc ls (.int y :: .int x :: st))) := by
  obtain ⟨_, X, -⟩ := X; obtain ⟨hx, hby, -⟩ := w; subst hn
  by_cases q : y < x
  · exact Gl.of (fun t k => XS.icmpYes X.here hx rfl rfl (hb hby hd) rfl (XT.ii_gt_t q) ho hp k) (K1 (Int32.lt_iff_toInt_lt.mp q))
  · exact Gl.of (fun t k => XS.icmpNo X.here hx rfl (hb hby hd) rfl (XT.ii_gt_f q) k) (K2 (Int.not_lt.mp fun q' => q (Int32.lt_iff_toInt_lt.mpr q')))
theorem gIfL_gt (X : Sd p l e R s m args below meth c n0 T h cells slots) (w : Cx Z own nm bytes maxL ret p s m meth c) {x y : Int64} {o : Int} (hd : decode bytes pc = .ok (.ifCond .gt o, 3)) (ho : 0 ≤ (pc : Int) + o) {n' : Nat} (hp : ((pc : Int) + o).toNat = n) (hn : pc + 3 = n') (K1 : y.toInt < x.toInt → Gl p e below s n0 P C S (T.setTop (mkF m n ls st))) (K2 : x.toInt ≤ y.toInt → Gl p e below s n0 P C S (T.setTop (mkF m n' ls st))) : Gl p e below s n0 P C S (T.setTop (mkF m pc ls (.int (XT.cmpL x y) :: st))) := by
  obtain ⟨_, X, -⟩ := X; obtain ⟨hx, hby, -⟩ := w; subst hn
  by_cases q : y < x
  · exact Gl.of (fun t k => XS.ifYes X.here hx rfl rfl (hb hby hd) rfl (XT.ll_gt_t q) ho hp k) (K1 (Int64.lt_iff_toInt_lt.mp q))
  · exact Gl.of (fun t k => XS.ifNo X.here hx rfl (hb hby hd) rfl (XT.ll_gt_f q) k) (K2 (Int.not_lt.mp fun q' => q (Int64.lt_iff_toInt_lt.mpr q')))
theorem gIf_le (X : Sd p l e R s m args below meth c n0 T h cells slots) (w : Cx Z own nm bytes maxL ret p s m meth c) {x : Int32} {o : Int} (hd : decode bytes pc = .ok (.ifCond .le o, 3)) (ho : 0 ≤ (pc : Int) + o) {n' : Nat} (hp : ((pc : Int) + o).toNat = n) (hn : pc + 3 = n') (K1 : x.toInt ≤ 0 → Gl p e below s n0 P C S (T.setTop (mkF m n ls st))) (K2 : 0 < x.toInt → Gl p e below s n0 P C S (T.setTop (mkF m n' ls st))) : Gl p e below s n0 P C S (T.setTop (mkF m pc ls (.int x :: st))) := by
  obtain ⟨_, X, -⟩ := X; obtain ⟨hx, hby, -⟩ := w; subst hn
  by_cases q : (0 : Int32) < x
  · exact Gl.of (fun t k => XS.ifNo X.here hx rfl (hb hby hd) rfl (XT.i0_le_f q) k) (K2 (Int32.lt_iff_toInt_lt.mp q))
  · exact Gl.of (fun t k => XS.ifYes X.here hx rfl rfl (hb hby hd) rfl (XT.i0_le_t q) ho hp k) (K1 (Int.not_lt.mp fun q' => q (Int32.lt_iff_toInt_lt.mpr q')))
theorem gIcmp_le (X : Sd p l e R s m args below meth c n0 T h cells slots) (w : Cx Z own nm bytes maxL ret p s m meth c) {x y : Int32} {o : Int} (hd : decode bytes pc = .ok (.if_icmp .le o, 3)) (ho : 0 ≤ (pc : Int) + o) {n' : Nat} (hp : ((pc : Int) + o).toNat = n) (hn : pc + 3 = n') (K1 : x.toInt ≤ y.toInt → Gl p e below s n0 P C S (T.setTop (mkF m n ls st))) (K2 : y.toInt < x.toInt → Gl p e below s n0 P C S (T.setTop (mkF m n' ls st))) : Gl p e below s n0 P C S (T.setTop (mkF m pc ls (.int y :: .int x :: st))) := by
  obtain ⟨_, X, -⟩ := X; obtain ⟨hx, hby, -⟩ := w; subst hn
  by_cases q : y < x
  · exact Gl.of (fun t k => XS.icmpNo X.here hx rfl (hb hby hd) rfl (XT.ii_le_f q) k) (K2 (Int32.lt_iff_toInt_lt.mp q))
  · exact Gl.of (fun t k => XS.icmpYes X.here hx rfl rfl (hb hby hd) rfl (XT.ii_le_t q) ho hp k) (K1 (Int.not_lt.mp fun q' => q (Int32.lt_iff_toInt_lt.mpr q')))
theorem gIfL_le (X : Sd p l e R s m args below meth c n0 T h cells slots) (w : Cx Z own nm bytes maxL ret p s m meth c) {x y : Int64} {o : Int} (hd : decode bytes pc = .ok (.ifCond .le o, 3)) (ho : 0 ≤ (pc : Int) + o) {n' : Nat} (hp : ((pc : Int) + o).toNat = n) (hn : pc + 3 = n') (K1 : x.toInt ≤ y.toInt → Gl p e below s n0 P C S (T.setTop (mkF m n ls st))) (K2 : y.toInt < x.toInt → Gl p e below s n0 P C S (T.setTop (mkF m n' ls st))) : Gl p e below s n0 P C S (T.setTop (mkF m pc ls (.int (XT.cmpL x y) :: st))) := by
  obtain ⟨_, X, -⟩ := X; obtain ⟨hx, hby, -⟩ := w; subst hn
  by_cases q : y < x
  · exact Gl.of (fun t k => XS.ifNo X.here hx rfl (hb hby hd) rfl (XT.ll_le_f q) k) (K2 (Int64.lt_iff_toInt_lt.mp q))
  · exact Gl.of (fun t k => XS.ifYes X.here hx rfl rfl (hb hby hd) rfl (XT.ll_le_t q) ho hp k) (K1 (Int.not_lt.mp fun q' => q (Int64.lt_iff_toInt_lt.mpr q')))
theorem gAcmp_eq (X : Sd p l e R s m args below meth c n0 T h cells slots) (w : Cx Z own nm bytes maxL ret p s m meth c) {x y : Value} {o : Int} (hd : decode bytes pc = .ok (.if_acmp .eq o, 3)) (hx' : x.isRef = true) (hy' : y.isRef = true) (ho : 0 ≤ (pc : Int) + o) {n' : Nat} (hp : ((pc : Int) + o).toNat = n) (hn : pc + 3 = n') (K1 : x = y → Gl p e below s n0 P C S (T.setTop (mkF m n ls st))) (K2 : ¬ x = y → Gl p e below s n0 P C S (T.setTop (mkF m n' ls st))) : Gl p e below s n0 P C S (T.setTop (mkF m pc ls (y :: x :: st))) := by
  obtain ⟨_, X, -⟩ := X; obtain ⟨hx, hby, -⟩ := w; subst hn
  by_cases q : x = y
  · exact Gl.of (fun t k => XT.acmpYes X.here hx rfl rfl (hb hby hd) rfl hx' hy' (XT.aa_eq_t q) ho hp k) (K1 q)
  · exact Gl.of (fun t k => XT.acmpNo X.here hx rfl (hb hby hd) rfl hx' hy' (XT.aa_eq_f q) k) (K2 q)
theorem gAcmp_ne (X : Sd p l e R s m args below meth c n0 T h cells slots) (w : Cx Z own nm bytes maxL ret p s m meth c) {x y : Value} {o : Int} (hd : decode bytes pc = .ok (.if_acmp .ne o, 3)) (hx' : x.isRef = true) (hy' : y.isRef = true) (ho : 0 ≤ (pc : Int) + o) {n' : Nat} (hp : ((pc : Int) + o).toNat = n) (hn : pc + 3 = n') (K1 : ¬ x = y → Gl p e below s n0 P C S (T.setTop (mkF m n ls st))) (K2 : x = y → Gl p e below s n0 P C S (T.setTop (mkF m n' ls st))) : Gl p e below s n0 P C S (T.setTop (mkF m pc ls (y :: x :: st))) := by
  obtain ⟨_, X, -⟩ := X; obtain ⟨hx, hby, -⟩ := w; subst hn
  by_cases q : x = y
  · exact Gl.of (fun t k => XT.acmpNo X.here hx rfl (hb hby hd) rfl hx' hy' (XT.aa_ne_f q) k) (K2 q)
  · exact Gl.of (fun t k => XT.acmpYes X.here hx rfl rfl (hb hby hd) rfl hx' hy' (XT.aa_ne_t q) ho hp k) (K1 q)
theorem gIfnullY (X : Sd p l e R s m args below meth c n0 T h cells slots) (w : Cx Z own nm bytes maxL ret p s m meth c) {o : Int} (hd : decode bytes pc = .ok (.ifnull o, 3)) (ho : 0 ≤ (pc : Int) + o) (hp : ((pc : Int) + o).toNat = n) (K : Gl p e below s n0 P C S (T.setTop (mkF m n ls st))) : Gl p e below s n0 P C S (T.setTop (mkF m pc ls (.null :: st))) := by
  obtain ⟨_, X, -⟩ := X; obtain ⟨hx, hby, hZ, hown, -⟩ := w; 
  exact Gl.of (fun t k => XS.ifnullYes X.here hx rfl rfl (hb hby hd) rfl ho hp k) K
theorem gIfnullN (X : Sd p l e R s m args below meth c n0 T h cells slots) (w : Cx Z own nm bytes maxL ret p s m meth c) {o : Int} {b : Addr} (hd : decode bytes pc = .ok (.ifnull o, 3)) (hn : pc + 3 = n) (K : Gl p e below s n0 P C S (T.setTop (mkF m n ls st))) : Gl p e below s n0 P C S (T.setTop (mkF m pc ls (.ref b :: st))) := by
  obtain ⟨_, X, -⟩ := X; obtain ⟨hx, hby, hZ, hown, -⟩ := w; subst hn
  exact Gl.of (fun t k => XS.ifnullNo X.here hx rfl (hb hby hd) rfl k) K
theorem gIfnonnullY (X : Sd p l e R s m args below meth c n0 T h cells slots) (w : Cx Z own nm bytes maxL ret p s m meth c) {o : Int} {b : Addr} (hd : decode bytes pc = .ok (.ifnonnull o, 3)) (ho : 0 ≤ (pc : Int) + o) (hp : ((pc : Int) + o).toNat = n) (K : Gl p e below s n0 P C S (T.setTop (mkF m n ls st))) : Gl p e below s n0 P C S (T.setTop (mkF m pc ls (.ref b :: st))) := by
  obtain ⟨_, X, -⟩ := X; obtain ⟨hx, hby, hZ, hown, -⟩ := w; 
  exact Gl.of (fun t k => XT.ifnonnullYes X.here hx rfl rfl (hb hby hd) rfl ho hp k) K
theorem gIfnonnullN (X : Sd p l e R s m args below meth c n0 T h cells slots) (w : Cx Z own nm bytes maxL ret p s m meth c) {o : Int} (hd : decode bytes pc = .ok (.ifnonnull o, 3)) (hn : pc + 3 = n) (K : Gl p e below s n0 P C S (T.setTop (mkF m n ls st))) : Gl p e below s n0 P C S (T.setTop (mkF m pc ls (.null :: st))) := by
  obtain ⟨_, X, -⟩ := X; obtain ⟨hx, hby, hZ, hown, -⟩ := w; subst hn
  exact Gl.of (fun t k => XT.ifnonnullNo X.here hx rfl (hb hby hd) rfl k) K
theorem gRet (X : Sd p l e R s m args below meth c n0 T h cells slots) (w : Cx Z own nm bytes maxL ret p s m meth c) {v : Value} {t : FieldType} {i : Instr} (hret : ret = some t) (hn : narrow t v = v) (hi : (i = .ireturn ∧ (t = .int ∨ t = .boolean ∨ t = .byte ∨ t = .char ∨ t = .short) ∧ ∃ z, v = .int z) ∨ (i = .lreturn ∧ t = .long ∧ ∃ z, v = .long z) ∨ (i = .dreturn ∧ t = .double ∧ ∃ z, v = .double z) ∨ (i = .freturn ∧ t = .float ∧ ∃ z, v = .float z) ∨ (i = .areturn ∧ t.isReference = true ∧ v.isRef = true))
    (hd : decode bytes pc = .ok (i, 1)) (hc : cells ≤ C) (hs : slots ≤ S) (hP : P (some v) h) : Gl p e below s n0 P C S (T.setTop (mkF m pc ls (v :: st))) := by
  obtain ⟨locs, X, N, eh, -⟩ := X; obtain ⟨hx, hby, hZ, hown, -, -, hr', hlk⟩ := w
  obtain ⟨fs, hr, hrun, hended, hW, hsame⟩ := X.leave (v := some v) (fun q => by rw [hr', hret] at q; cases q) hlk
  refine ⟨_, _, retOut X hx (hr'.trans hret) hn hi (hb hby hd) hr, hrun, hended, _, _, rfl, ⟨?_, N⟩, ⟨_, rfl⟩, hW, hsame.mono hc hs⟩
  show P (some v) T.heap
  rw [eh]; exact hP
theorem gRetI (X : Sd p l e R s m args below meth c n0 T h cells slots) (w : Cx Z own nm bytes maxL ret p s m meth c) {z : Int32} (hret : ret = some .int) (hd : decode bytes pc = .ok (.ireturn, 1)) (hc : cells ≤ C) (hs : slots ≤ S) (hP : P (some (.int z)) h) : Gl p e below s n0 P C S (T.setTop (mkF m pc ls (.int z :: st))) := gRet X w hret rfl (Or.inl ⟨rfl, Or.inl rfl, z, rfl⟩) hd hc hs hP
theorem gRetZ (X : Sd p l e R s m args below meth c n0 T h cells slots) (w : Cx Z own nm bytes maxL ret p s m meth c) {z : Int32} (hret : ret = some .boolean) (hz : z = 0 ∨ z = 1) (hd : decode bytes pc = .ok (.ireturn, 1)) (hc : cells ≤ C) (hs : slots ≤ S) (hP : P (some (.int z)) h) : Gl p e below s n0 P C S (T.setTop (mkF m pc ls (.int z :: st))) := gRet X w hret (by rcases hz with rfl | rfl <;> rfl) (Or.inl ⟨rfl, Or.inr (Or.inl rfl), z, rfl⟩) hd hc hs hP
theorem gRetJ (X : Sd p l e R s m args below meth c n0 T h cells slots) (w : Cx Z own nm bytes maxL ret p s m meth c) {z : Int64} (hret : ret = some .long) (hd : decode bytes pc = .ok (.lreturn, 1)) (hc : cells ≤ C) (hs : slots ≤ S) (hP : P (some (.long z)) h) : Gl p e below s n0 P C S (T.setTop (mkF m pc ls (.long z :: st))) := gRet X w hret rfl (Or.inr (Or.inl ⟨rfl, rfl, z, rfl⟩)) hd hc hs hP
theorem gRetD (X : Sd p l e R s m args below meth c n0 T h cells slots) (w : Cx Z own nm bytes maxL ret p s m meth c) {z : UInt64} (hret : ret = some .double) (hd : decode bytes pc = .ok (.dreturn, 1)) (hc : cells ≤ C) (hs : slots ≤ S) (hP : P (some (.double z)) h) : Gl p e below s n0 P C S (T.setTop (mkF m pc ls (.double z :: st))) := gRet X w hret rfl (Or.inr (Or.inr (Or.inl ⟨rfl, rfl, z, rfl⟩))) hd hc hs hP
theorem gRetA (X : Sd p l e R s m args below meth c n0 T h cells slots) (w : Cx Z own nm bytes maxL ret p s m meth c) {v : Value} {t : FieldType} (hret : ret = some t) (ht : t.isReference = true) (hv : v.isRef = true) (hd : decode bytes pc = .ok (.areturn, 1)) (hc : cells ≤ C) (hs : slots ≤ S) (hP : P (some v) h) : Gl p e below s n0 P C S (T.setTop (mkF m pc ls (v :: st))) := gRet X w hret (by rcases ref_cases hv with rfl | ⟨a, rfl⟩ <;> cases t <;> first | rfl | cases ht) (Or.inr (Or.inr (Or.inr (Or.inr ⟨rfl, ht, hv⟩)))) hd hc hs hP
theorem gRetV (X : Sd p l e R s m args below meth c n0 T h cells slots) (w : Cx Z own nm bytes maxL ret p s m meth c) (hret : ret = none) (hd : decode bytes pc = .ok (.return_, 1)) (hc : cells ≤ C) (hs : slots ≤ S) (hP : P none h) : Gl p e below s n0 P C S (T.setTop (mkF m pc ls [])) := by
  obtain ⟨locs, X, N, eh, -⟩ := X; obtain ⟨hx, hby, hZ, hown, -, -, hr', hlk⟩ := w
  obtain ⟨fs, hr, hrun, hended, hW, hsame⟩ := X.leave (v := none) (fun q => rfl) hlk
  refine ⟨_, _, X.returnOut hx (hr'.trans hret) (hb hby hd) hr, hrun, hended, _, _, rfl, ⟨?_, N⟩, ⟨_, rfl⟩, hW, hsame.mono hc hs⟩
  show P none T.heap
  rw [eh]; exact hP
theorem gCallS (X : Sd p l e R s m args below meth c n0 T h cells slots) (w : Cx Z own nm bytes maxL ret p s m meth c) {y : MethodName} {yb : ByteArray} {yl : Nat} {yr : Option FieldType} {rm : Room} {Q : Option Value → Heap → Prop} {idx W : Nat} (aL rest : List Value) {ps : List FieldType} {r : Option FieldType}
    (hM : Con l Z y yb yl yr [] rm rm.cells rm.slots aL.toArray h n0 Q) (w1 : (Jvm.Cond.methodLink own idx y).before a0 Z = true) (w2 : (Jvm.Cond.static y).before a0 Z = true) (w3 : (Jvm.Cond.initialized y.cls).before a0 Z = true) (w4 : (Jvm.Cond.code y yb yl yr).before a0 Z = true) (hy : y.cls ≠ "java/lang/invoke/MethodHandle" ∧ y.cls ≠ "java/lang/invoke/VarHandle")
    (hpd : parseMethodDescriptor y.desc = some ⟨ps, r⟩) (hlen : aL.length = ps.length) (hstk : st = aL.reverse ++ rest) (hd : decode bytes pc = .ok (.invokestatic idx, 3)) (hsz : ls.size = maxL) (hW : (rest.map fun v => v.category).sum ≤ W)
    (hf : rm.frames + 1 ≤ R.frames) (hl : W + (yl + 11) + rm.locals ≤ R.locals) (hcc : cells + rm.cells ≤ R.cells) (hss : slots + rm.slots ≤ R.slots) (hn : pc + 3 = n)
    (K : ∀ T' h' v, Q v h' → Sd p l e R s m args below meth c n0 T' h' (cells + rm.cells) (slots + rm.slots) → Gl p e below s n0 P C S (T'.setTop (mkF m n ls (v.toList ++ rest)))) : Gl p e below s n0 P C S (T.setTop (mkF m pc ls st)) := by
  obtain ⟨locs, X, N, eh, hn0⟩ := X; obtain ⟨hx, hby, hZ, hown, -, hml, -⟩ := w; subst hn
  obtain ⟨v, vm, ⟨T', L, k, sl⟩, -, X', ⟨Lc, ⟨hQ, NL⟩, l1, y1, z1⟩, st'⟩ := Jvm.LawKit.callS X hx (y := y) hown (mvT hZ w1) (mvT hZ w2) (mvT hZ w3) (mvT hZ w4) hy (backOf (W := W) (Q := fun v h L => Q v h ∧ Fr n0 L) (Con.met hM) hZ w4 w3 hf hl) (g := mkF m pc ls st) rfl (by rw [hml]; exact hsz) (argsL := aL) (rest := rest) (lenOf hpd hlen) hstk (by show 2 * 0 + _ ≤ _; rw [Nat.mul_zero, Nat.zero_add]; exact hW) (hb hby hd) (fun _ _ => ⟨rfl, eh, hcc, hss⟩)
  dsimp only [Pt.U, Pt.locs, Pt.cells, Pt.slots] at X' l1 y1 z1 st' hQ
  subst l1 y1 z1
  exact Gl.of st' (K T' T'.heap v hQ ⟨_, X', Fr.app N NL, rfl, hn0⟩)
theorem gCallV (X : Sd p l e R s m args below meth c n0 T h cells slots) (w : Cx Z own nm bytes maxL ret p s m meth c) {y z : MethodName} {yb : ByteArray} {yl : Nat} {yr : Option FieldType} {rm : Room} {Q : Option Value → Heap → Prop} {idx W : Nat} {b : Addr} {C0 : String} (aL rest : List Value) {ps : List FieldType} {r : Option FieldType} (E : Exa Z h b C0)
    (hM : Con l Z z yb yl yr [] rm rm.cells rm.slots (.ref b :: aL).toArray h n0 Q) (w1 : (Jvm.Cond.methodLink own idx y).before a0 Z = true) (w2 : (Jvm.Cond.declares y).before a0 Z = true) (hnf : NotFace s y) (w5 : (Jvm.Cond.selects C0 y z).before a0 Z = true) (w6 : (Jvm.Cond.instanceMethod z).before a0 Z = true) (w3 : (Jvm.Cond.initialized z.cls).before a0 Z = true) (w4 : (Jvm.Cond.code z yb yl yr).before a0 Z = true) (hy : y.cls ≠ "java/lang/invoke/MethodHandle" ∧ y.cls ≠ "java/lang/invoke/VarHandle")
    (hpd : parseMethodDescriptor y.desc = some ⟨ps, r⟩) (hlen : aL.length = ps.length) (hstk : st = aL.reverse ++ .ref b :: rest) (hd : decode bytes pc = .ok (.invokevirtual idx, 3)) (hsz : ls.size = maxL) (hW : (rest.map fun v => v.category).sum ≤ W)
    (hf : rm.frames + 1 ≤ R.frames) (hl : W + (yl + 11) + rm.locals ≤ R.locals) (hcc : cells + rm.cells ≤ R.cells) (hss : slots + rm.slots ≤ R.slots) (hn : pc + 3 = n)
    (K : ∀ T' h' v, Q v h' → Sd p l e R s m args below meth c n0 T' h' (cells + rm.cells) (slots + rm.slots) → Gl p e below s n0 P C S (T'.setTop (mkF m n ls (v.toList ++ rest)))) : Gl p e below s n0 P C S (T.setTop (mkF m pc ls st)) := by
  obtain ⟨locs, X, N, eh, hn0⟩ := X; obtain ⟨hx, hby, hZ, hown, -, hml, -⟩ := w; subst hn
  obtain ⟨cq, kq, qa, qb, qc⟩ := isOf hZ eh E
  obtain ⟨v, vm, ⟨T', L, k, sl⟩, -, X', ⟨Lc, ⟨hQ, NL⟩, l1, y1, z1⟩, st'⟩ := X.virtualBack hx (y := y) (z := z) hown (mvT hZ w1) (mvT hZ w2) hnf (mvT hZ w5) (mvT hZ w6) hy (backOf (W := W) (Q := fun v h L => Q v h ∧ Fr n0 L) (Con.met hM) hZ w4 w3 hf hl) qa qc (g := mkF m pc ls st) rfl (by rw [hml]; exact hsz) (Steps.refl _) (argsL := aL) (rest := rest) (lenOf hpd hlen) hstk (by show 2 * 0 + _ ≤ _; rw [Nat.mul_zero, Nat.zero_add]; exact hW) (hb hby hd) (fun _ _ => ⟨rfl, eh, hcc, hss⟩)
  dsimp only [Pt.U, Pt.locs, Pt.cells, Pt.slots] at X' l1 y1 z1 st' hQ
  subst l1 y1 z1
  exact Gl.of (fun t k => st'.trans k) (K T' T'.heap v hQ ⟨_, X', Fr.app N NL, rfl, hn0⟩)
theorem gCallI (X : Sd p l e R s m args below meth c n0 T h cells slots) (w : Cx Z own nm bytes maxL ret p s m meth c) {y : MethodName} {yb : ByteArray} {yl : Nat} {rm : Room} {Q : Option Value → Heap → Prop} {idx W : Nat} {b : Addr} (aL rest : List Value) {ps : List FieldType} {r : Option FieldType} (hy1 : y.name = "<init>")
    (hM : Con l Z y yb yl none [] rm rm.cells rm.slots (.ref b :: aL).toArray h n0 Q) (w1 : (Jvm.Cond.methodLink own idx y).before a0 Z = true) (w2 : (Jvm.Cond.instanceMethod y).before a0 Z = true) (w3 : (Jvm.Cond.initialized y.cls).before a0 Z = true) (w4 : (Jvm.Cond.code y yb yl none).before a0 Z = true) (hy : y.cls ≠ "java/lang/invoke/MethodHandle" ∧ y.cls ≠ "java/lang/invoke/VarHandle")
    (hpd : parseMethodDescriptor y.desc = some ⟨ps, r⟩) (hlen : aL.length = ps.length) (hstk : st = aL.reverse ++ .ref b :: rest) (hd : decode bytes pc = .ok (.invokespecial idx, 3)) (hsz : ls.size = maxL) (hW : (rest.map fun v => v.category).sum ≤ W)
    (hf : rm.frames + 1 ≤ R.frames) (hl : W + (yl + 11) + rm.locals ≤ R.locals) (hcc : cells + rm.cells ≤ R.cells) (hss : slots + rm.slots ≤ R.slots) (hn : pc + 3 = n)
    (K : ∀ T' h' v, Q v h' → Sd p l e R s m args below meth c n0 T' h' (cells + rm.cells) (slots + rm.slots) → Gl p e below s n0 P C S (T'.setTop (mkF m n ls (v.toList ++ rest)))) : Gl p e below s n0 P C S (T.setTop (mkF m pc ls st)) := by
  obtain ⟨locs, X, N, eh, hn0⟩ := X; obtain ⟨hx, hby, hZ, hown, -, hml, -⟩ := w; subst hn
  obtain ⟨v, vm, ⟨T', L, k, sl⟩, -, X', ⟨Lc, ⟨hQ, NL⟩, l1, y1, z1⟩, st'⟩ := X.specialBack hx (y := y) hy1 hown (mvT hZ w1) (mvT hZ w2) (mvT hZ w4) hy (backOf (W := W) (Q := fun v h L => Q v h ∧ Fr n0 L) (Con.met hM) hZ w4 w3 hf hl) (g := mkF m pc ls st) rfl (by rw [hml]; exact hsz) (Steps.refl _) (a := b) (argsL := aL) (rest := rest) (lenOf hpd hlen) hstk (by show 2 * 0 + _ ≤ _; rw [Nat.mul_zero, Nat.zero_add]; exact hW) (hb hby hd) (fun _ _ => ⟨rfl, eh, hcc, hss⟩)
  dsimp only [Pt.U, Pt.locs, Pt.cells, Pt.slots] at X' l1 y1 z1 st' hQ
  subst l1 y1 z1
  exact Gl.of (fun t k => st'.trans k) (K T' T'.heap v hQ ⟨_, X', Fr.app N NL, rfl, hn0⟩)
theorem gCallSv (X : Sd p l e R s m args below meth c n0 T h cells slots) (w : Cx Z own nm bytes maxL ret p s m meth c) {y : MethodName} {yb : ByteArray} {yl : Nat} {yr : Option FieldType} {rm : Room} {Q : Value → Heap → Prop} {idx W : Nat} (aL rest : List Value) {ps : List FieldType} {r : Option FieldType}
    (hM : ConV l Z y yb yl yr rm aL.toArray h n0 Q) (w1 : (Jvm.Cond.methodLink own idx y).before a0 Z = true) (w2 : (Jvm.Cond.static y).before a0 Z = true) (w3 : (Jvm.Cond.initialized y.cls).before a0 Z = true) (w4 : (Jvm.Cond.code y yb yl yr).before a0 Z = true) (hy : y.cls ≠ "java/lang/invoke/MethodHandle" ∧ y.cls ≠ "java/lang/invoke/VarHandle")
    (hpd : parseMethodDescriptor y.desc = some ⟨ps, r⟩) (hlen : aL.length = ps.length) (hstk : st = aL.reverse ++ rest) (hd : decode bytes pc = .ok (.invokestatic idx, 3)) (hsz : ls.size = maxL) (hW : (rest.map fun v => v.category).sum ≤ W)
    (hf : rm.frames + 1 ≤ R.frames) (hl : W + (yl + 11) + rm.locals ≤ R.locals) (hcc : cells + rm.cells ≤ R.cells) (hss : slots + rm.slots ≤ R.slots) (hn : pc + 3 = n)
    (K : ∀ T' h' v, Q v h' → Sd p l e R s m args below meth c n0 T' h' (cells + rm.cells) (slots + rm.slots) → Gl p e below s n0 P C S (T'.setTop (mkF m n ls (v :: rest)))) : Gl p e below s n0 P C S (T.setTop (mkF m pc ls st)) :=
  gCallS X w aL rest hM w1 w2 w3 w4 hy hpd hlen hstk hd hsz hW hf hl hcc hss hn (fun T' h' v q X => by obtain ⟨v', rfl, q⟩ := q; exact K T' h' v' q X)
theorem gCallSn (X : Sd p l e R s m args below meth c n0 T h cells slots) (w : Cx Z own nm bytes maxL ret p s m meth c) {y : MethodName} {yb : ByteArray} {yl : Nat} {rm : Room} {Q : Heap → Prop} {idx W : Nat} (aL rest : List Value) {ps : List FieldType} {r : Option FieldType}
    (hM : ConN l Z y yb yl rm aL.toArray h n0 Q) (w1 : (Jvm.Cond.methodLink own idx y).before a0 Z = true) (w2 : (Jvm.Cond.static y).before a0 Z = true) (w3 : (Jvm.Cond.initialized y.cls).before a0 Z = true) (w4 : (Jvm.Cond.code y yb yl none).before a0 Z = true) (hy : y.cls ≠ "java/lang/invoke/MethodHandle" ∧ y.cls ≠ "java/lang/invoke/VarHandle")
    (hpd : parseMethodDescriptor y.desc = some ⟨ps, r⟩) (hlen : aL.length = ps.length) (hstk : st = aL.reverse ++ rest) (hd : decode bytes pc = .ok (.invokestatic idx, 3)) (hsz : ls.size = maxL) (hW : (rest.map fun v => v.category).sum ≤ W)
    (hf : rm.frames + 1 ≤ R.frames) (hl : W + (yl + 11) + rm.locals ≤ R.locals) (hcc : cells + rm.cells ≤ R.cells) (hss : slots + rm.slots ≤ R.slots) (hn : pc + 3 = n)
    (K : ∀ T' h', Q h' → Sd p l e R s m args below meth c n0 T' h' (cells + rm.cells) (slots + rm.slots) → Gl p e below s n0 P C S (T'.setTop (mkF m n ls rest))) : Gl p e below s n0 P C S (T.setTop (mkF m pc ls st)) :=
  gCallS X w aL rest hM w1 w2 w3 w4 hy hpd hlen hstk hd hsz hW hf hl hcc hss hn (fun T' h' v q X => by obtain ⟨rfl, q⟩ := q; exact K T' h' q X)
theorem gCallVv (X : Sd p l e R s m args below meth c n0 T h cells slots) (w : Cx Z own nm bytes maxL ret p s m meth c) {y z : MethodName} {yb : ByteArray} {yl : Nat} {yr : Option FieldType} {rm : Room} {Q : Value → Heap → Prop} {idx W : Nat} {b : Addr} {C0 : String} (aL rest : List Value) {ps : List FieldType} {r : Option FieldType} (E : Exa Z h b C0)
    (hM : ConV l Z z yb yl yr rm (.ref b :: aL).toArray h n0 Q) (w1 : (Jvm.Cond.methodLink own idx y).before a0 Z = true) (w2 : (Jvm.Cond.declares y).before a0 Z = true) (hnf : NotFace s y) (w5 : (Jvm.Cond.selects C0 y z).before a0 Z = true) (w6 : (Jvm.Cond.instanceMethod z).before a0 Z = true) (w3 : (Jvm.Cond.initialized z.cls).before a0 Z = true) (w4 : (Jvm.Cond.code z yb yl yr).before a0 Z = true) (hy : y.cls ≠ "java/lang/invoke/MethodHandle" ∧ y.cls ≠ "java/lang/invoke/VarHandle")
    (hpd : parseMethodDescriptor y.desc = some ⟨ps, r⟩) (hlen : aL.length = ps.length) (hstk : st = aL.reverse ++ .ref b :: rest) (hd : decode bytes pc = .ok (.invokevirtual idx, 3)) (hsz : ls.size = maxL) (hW : (rest.map fun v => v.category).sum ≤ W)
    (hf : rm.frames + 1 ≤ R.frames) (hl : W + (yl + 11) + rm.locals ≤ R.locals) (hcc : cells + rm.cells ≤ R.cells) (hss : slots + rm.slots ≤ R.slots) (hn : pc + 3 = n)
    (K : ∀ T' h' v, Q v h' → Sd p l e R s m args below meth c n0 T' h' (cells + rm.cells) (slots + rm.slots) → Gl p e below s n0 P C S (T'.setTop (mkF m n ls (v :: rest)))) : Gl p e below s n0 P C S (T.setTop (mkF m pc ls st)) :=
  gCallV X w aL rest E hM w1 w2 hnf w5 w6 w3 w4 hy hpd hlen hstk hd hsz hW hf hl hcc hss hn (fun T' h' v q X => by obtain ⟨v', rfl, q⟩ := q; exact K T' h' v' q X)
theorem gCallIn (X : Sd p l e R s m args below meth c n0 T h cells slots) (w : Cx Z own nm bytes maxL ret p s m meth c) {y : MethodName} {yb : ByteArray} {yl : Nat} {rm : Room} {Q : Heap → Prop} {idx W : Nat} {b : Addr} (aL rest : List Value) {ps : List FieldType} {r : Option FieldType} (hy1 : y.name = "<init>")
    (hM : ConN l Z y yb yl rm (.ref b :: aL).toArray h n0 Q) (w1 : (Jvm.Cond.methodLink own idx y).before a0 Z = true) (w2 : (Jvm.Cond.instanceMethod y).before a0 Z = true) (w3 : (Jvm.Cond.initialized y.cls).before a0 Z = true) (w4 : (Jvm.Cond.code y yb yl none).before a0 Z = true) (hy : y.cls ≠ "java/lang/invoke/MethodHandle" ∧ y.cls ≠ "java/lang/invoke/VarHandle")
    (hpd : parseMethodDescriptor y.desc = some ⟨ps, r⟩) (hlen : aL.length = ps.length) (hstk : st = aL.reverse ++ .ref b :: rest) (hd : decode bytes pc = .ok (.invokespecial idx, 3)) (hsz : ls.size = maxL) (hW : (rest.map fun v => v.category).sum ≤ W)
    (hf : rm.frames + 1 ≤ R.frames) (hl : W + (yl + 11) + rm.locals ≤ R.locals) (hcc : cells + rm.cells ≤ R.cells) (hss : slots + rm.slots ≤ R.slots) (hn : pc + 3 = n)
    (K : ∀ T' h', Q h' → Sd p l e R s m args below meth c n0 T' h' (cells + rm.cells) (slots + rm.slots) → Gl p e below s n0 P C S (T'.setTop (mkF m n ls rest))) : Gl p e below s n0 P C S (T.setTop (mkF m pc ls st)) :=
  gCallI X w aL rest hy1 hM w1 w2 w3 w4 hy hpd hlen hstk hd hsz hW hf hl hcc hss hn (fun T' h' v q X => by obtain ⟨rfl, q⟩ := q; exact K T' h' q X)
theorem gInitO (X : Sd p l e R s m args below meth c n0 T h cells slots) (w : Cx Z own nm bytes maxL ret p s m meth c) {idx W : Nat} {a : Addr} (w1 : (Jvm.Cond.methodLink own idx Lib.objectInit).before a0 Z = true) (w2 : (Jvm.Cond.instanceMethod Lib.objectInit).before a0 Z = true) (w3 : (Jvm.Cond.code Lib.objectInit ⟨#[0xb1]⟩ 1 none).before a0 Z = true) (hd : decode bytes pc = .ok (.invokespecial idx, 3)) (hsz : ls.size = maxL) (hf : 1 ≤ R.frames) (hW : (st.map fun v => v.category).sum ≤ W) (hl : W + 12 ≤ R.locals) (hn : pc + 3 = n)
    (K : ∀ T', Sd p l e R s m args below meth c n0 T' h cells slots → Gl p e below s n0 P C S (T'.setTop (mkF m n ls st))) : Gl p e below s n0 P C S (T.setTop (mkF m pc ls (.ref a :: st))) := by
  obtain ⟨locs, X, N, eh, hn0⟩ := X; obtain ⟨hx, hby, hZ, hown, -, hml, -⟩ := w; subst hn
  obtain ⟨T', X', e', st'⟩ := initO X hx hZ hown w1 w2 w3 eh (g := mkF m pc ls (.ref a :: st)) rfl (by rw [hml]; exact hsz) rfl (hb hby hd) hf (W := W) (by show 2 * 0 + _ ≤ _; rw [Nat.mul_zero, Nat.zero_add]; exact hW) hl
  exact Gl.of st' (K T' ⟨_, X', N, e', hn0⟩)
theorem gNew (X : Sd p l e R s m args below meth c n0 T h cells slots) (w : Cx Z own nm bytes maxL ret p s m meth c) {C0 : String} {idx k : Nat} (w1 : (Jvm.Cond.classLink own idx C0).before a0 Z = true) (w2 : (Jvm.Cond.instantiable C0 k).before a0 Z = true) (w3 : (Jvm.Cond.initialized C0).before a0 Z = true) (hd : decode bytes pc = .ok (.new idx, 3)) (hc : cells + 1 ≤ R.cells) (hl : slots + k ≤ R.slots) (hn : pc + 3 = n)
    (K : ∀ T' h' a, a = h.size → n0 ≤ a → Sd p l e R s m args below meth c n0 T' h' (cells + 1) (slots + k) → Ext h h' → Exa Z h' a C0 → (∀ {O nm d : String} {ty : FieldType}, Laid Z a0 C0 O nm d → parseFieldDescriptor d = some ty → Fld Z h' a O nm d (defaultValue ty)) → Gl p e below s n0 P C S (T'.setTop (mkF m n ls (.ref a :: st)))) : Gl p e below s n0 P C S (T.setTop (mkF m pc ls st)) := by
  obtain ⟨locs, X, N, eh, hn0⟩ := X; obtain ⟨hx, hby, hZ, hown, -, hml, -⟩ := w; subst hn
  obtain ⟨T', h', X', e', E', A', D', -, st'⟩ := newO X hx hZ hown w1 w2 w3 eh (g := mkF m pc ls st) rfl (hb hby hd) hc hl
  exact Gl.of st' (K T' h' h.size rfl (Sd.le ⟨_, X, N, eh, hn0⟩) ⟨_, X', N, e', hn0⟩ E' A' D')
theorem gGetF (X : Sd p l e R s m args below meth c n0 T h cells slots) (w : Cx Z own nm bytes maxL ret p s m meth c) {R0 O fn d : String} {idx : Nat} {a : Addr} {v : Value} (w1 : (Jvm.Cond.fieldLink own idx R0 fn d).before a0 Z = true) (via : Via Z R0 O fn d) (F : Fld Z h a O fn d v) (hd : decode bytes pc = .ok (.getfield idx, 3)) (hn : pc + 3 = n)
    (K : ∀ T', Sd p l e R s m args below meth c n0 T' h cells slots → Gl p e below s n0 P C S (T'.setTop (mkF m n ls (v :: st)))) : Gl p e below s n0 P C S (T.setTop (mkF m pc ls (.ref a :: st))) := by
  obtain ⟨locs, X, N, eh, hn0⟩ := X; obtain ⟨hx, hby, hZ, hown, -, hml, -⟩ := w; subst hn
  obtain ⟨T', X', e', st'⟩ := getF X hx hZ hown (host := "") (Or.inl w1) via eh F (g := mkF m pc ls (.ref a :: st)) rfl rfl (hb hby hd)
  exact Gl.of st' (K T' ⟨_, X', N, e', hn0⟩)
theorem gGetS (X : Sd p l e R s m args below meth c n0 T h cells slots) (w : Cx Z own nm bytes maxL ret p s m meth c) {R0 O fn d : String} {idx : Nat} {v : Value} (w1 : (Jvm.Cond.fieldLink own idx R0 fn d).before a0 Z = true) (via : Via Z R0 O fn d) (F : Sta Z h O fn d v) (hd : decode bytes pc = .ok (.getstatic idx, 3)) (hn : pc + 3 = n)
    (K : ∀ T', Sd p l e R s m args below meth c n0 T' h cells slots → Gl p e below s n0 P C S (T'.setTop (mkF m n ls (v :: st)))) : Gl p e below s n0 P C S (T.setTop (mkF m pc ls st)) := by
  obtain ⟨locs, X, N, eh, hn0⟩ := X; obtain ⟨hx, hby, hZ, hown, -, hml, -⟩ := w; subst hn
  obtain ⟨T', X', e', st'⟩ := getS X hx hZ hown (host := "") w1 via eh F (g := mkF m pc ls st) rfl (hb hby hd)
  exact Gl.of st' (K T' ⟨_, X', N, e', hn0⟩)
theorem gPutF (X : Sd p l e R s m args below meth c n0 T h cells slots) (w : Cx Z own nm bytes maxL ret p s m meth c) {R0 O fn d C0 : String} {idx k : Nat} {ty : FieldType} {a : Addr} {v old : Value} (w1 : (Jvm.Cond.fieldLink own idx R0 fn d).before a0 Z = true) (via : Via Z R0 O fn d) (F : Fld Z h a O fn d old) (E : Exa Z h a C0) (hL : (Jvm.Cond.lays C0 O fn d).before a0 Z = true ∨ ((Jvm.Cond.laysFinal C0 O fn d).before a0 Z = true ∧ own = O ∧ nm = "<init>")) (w2 : (Jvm.Cond.instantiable C0 k).before a0 Z = true) (ha : n0 ≤ a)
    (hty : parseFieldDescriptor d = some ty) (hnar : narrow ty v = v) (hfit : fits ty v = true) (hd : decode bytes pc = .ok (.putfield idx, 3)) (hn : pc + 3 = n)
    (K : ∀ T' h', Sd p l e R s m args below meth c n0 T' h' cells slots → Wr h h' a (Jvm.RoadKit.slotOf Z O fn d) v → Gl p e below s n0 P C S (T'.setTop (mkF m n ls st))) : Gl p e below s n0 P C S (T.setTop (mkF m pc ls (v :: .ref a :: st))) := by
  obtain ⟨locs, X, N, eh, hn0⟩ := X; obtain ⟨hx, hby, hZ, hown, hnm, hml, -⟩ := w; subst hn
  obtain ⟨T', h', X', e', W', st'⟩ := putF X hx hZ hown (host := "") (Or.inl w1) via eh F E (hL.imp id fun q => ⟨q.1, q.2.1, hnm.trans q.2.2⟩) w2 hty hnar hfit (g := mkF m pc ls (v :: .ref a :: st)) rfl rfl (hb hby hd)
  exact Gl.of st' (K T' h' ⟨_, X', Fr.snoc X' N ha, e', hn0⟩ W')
/-- an array with its values -/
def Av (Z : State) (h : Heap) (a : Addr) (ty : FieldType) (vs : List Value) : Prop := ∃ c : Cell, Arr Z h a c ty ∧ c.slots = vs.toArray
theorem Av.lt {a : Addr} {ty : FieldType} {vs : List Value} (F : Av Z h a ty vs) : a < h.size := by obtain ⟨c, A, -⟩ := F; exact A.lt
theorem Av.ext {h' : Heap} {a : Addr} {ty : FieldType} {vs : List Value} (F : Av Z h a ty vs) (E : Ext h h') : Av Z h' a ty vs := by obtain ⟨c, A, q⟩ := F; exact ⟨c, A.ext E, q⟩
theorem Av.other {h' : Heap} {a b : Addr} {sl : Nat} {v : Value} {ty : FieldType} {vs : List Value} (F : Av Z h b ty vs) (W : Wr h h' a sl v) (ne : b ≠ a) : Av Z h' b ty vs := by obtain ⟨c, A, q⟩ := F; exact ⟨c, A.other W ne, q⟩
theorem Av.keep {h' : Heap} {a : Addr} {ty : FieldType} {vs : List Value} {ws : List Addr} (F : Av Z h a ty vs) (K : Keep h h' ws) (ne : a ∉ ws) : Av Z h' a ty vs := by obtain ⟨c, A, q⟩ := F; exact ⟨c, ⟨K.2.1 a c A.1 ne, A.2⟩, q⟩
theorem Av.set {h' : Heap} {a : Addr} {sl : Nat} {v : Value} {ty : FieldType} {vs : List Value} (F : Av Z h a ty vs) (W : Wr h h' a sl v) : Av Z h' a ty (vs.set sl v) := by
  obtain ⟨c, A, q⟩ := F
  exact ⟨_, A.same W, by show c.slots.setIfInBounds sl v = _; rw [q]; simp⟩
theorem neOf {x a : Addr} {h : Heap} (h1 : x < h.size) (h2 : h.size ≤ a) : x ≠ a := fun e => absurd (Nat.lt_of_lt_of_le h1 h2) (by rw [e]; exact Nat.lt_irrefl _)
theorem staKeep {h' : Heap} {O fn d : String} {v : Value} {ws : List Addr} (F : Sta Z h O fn d v) (K : Keep h h' ws) (hp : ∀ x ∈ ws, ∀ c : Cell, h[x]? = some c → c.vm.isStatics = false) : Sta Z h' O fn d v := by
  obtain ⟨cf, i, k, f, st, cell, h1, h2, h3, h4, h5, h6, h7⟩ := F
  exact ⟨cf, i, k, f, st, cell, h1, h2, h3, h4, K.2.1 _ _ h5 (fun q => by rw [hp _ q _ h5] at h6; cases h6), h6, h7⟩
theorem idxIn {j : Int32} {vs : List Value} {c : Cell} (q : c.slots = vs.toArray) (hj : 0 ≤ j.toInt) (hv : j.toInt < vs.length) : ¬ (j < 0 ∨ c.slots.size ≤ j.toNatClampNeg) := by
  have e := XT.negI32 j
  have hc : j.toNatClampNeg = j.toInt.toNat := rfl
  rintro (g | g)
  · have := e.mp g; omega
  · rw [q] at g; simp only [List.size_toArray] at g; omega
theorem gNewP (X : Sd p l e R s m args below meth c n0 T h cells slots) (w : Cx Z own nm bytes maxL ret p s m meth c) {aty : ArrayType} {k : Int32} {cap : Nat} (w1 : (Jvm.Cond.arrayClass (newarray.typeOf aty)).before a0 Z = true) (hd : decode bytes pc = .ok (.newarray aty, 2)) (hk : 0 ≤ k.toInt) (hcap : k.toInt ≤ cap) (hb' : cap * 8 ≤ 536870912) (hc : cells + 1 ≤ R.cells) (hl : slots + cap ≤ R.slots) {vs : List Value} {ty : FieldType} (hvs : List.replicate k.toInt.toNat (defaultValue (newarray.typeOf aty)) = vs) (hty : newarray.typeOf aty = ty) {ad : String} (had : "[" ++ (newarray.typeOf aty).toString = ad) (hn : pc + 2 = n)
    (K : ∀ T' h' a, a = h.size → n0 ≤ a → Sd p l e R s m args below meth c n0 T' h' (cells + 1) (slots + cap) → Ext h h' → Av Z h' a ty vs → Exa Z h' a ad → Gl p e below s n0 P C S (T'.setTop (mkF m n ls (.ref a :: st)))) : Gl p e below s n0 P C S (T.setTop (mkF m pc ls (.int k :: st))) := by
  obtain ⟨locs, X, N, eh, hn0⟩ := X; obtain ⟨hx, hby, hZ, hown, -, hml, -⟩ := w; subst hn hvs hty
  have e := XT.negI32 k
  have hkc : k.toNatClampNeg = k.toInt.toNat := rfl
  obtain ⟨T', h', cA, X', e', E', A', Ex', st'⟩ := newPE X hx hZ w1 eh (g := mkF m pc ls (.int k :: st)) rfl (hb hby hd) rfl (fun g => by have := e.mp g; omega) (cap := cap) (by omega) hb' hc hl had
  exact Gl.of st' (K T' h' h.size rfl (Sd.le ⟨_, X, N, eh, hn0⟩) ⟨_, X', N, e', hn0⟩ E' ⟨_, A', by show Array.replicate _ _ = _; rw [hkc]; simp⟩ Ex')
theorem gClone (X : Sd p l e R s m args below meth c n0 T h cells slots) (w : Cx Z own nm bytes maxL ret p s m meth c) {idx W cap : Nat} {a : Addr} {ad : String} {ty : FieldType} {vs : List Value} (F : Av Z h a ty vs) (E : Exa Z h a ad) (hfit : ∀ v ∈ vs, fits ty v = true) (w1 : (Jvm.Cond.methodLink own idx ⟨ad, "clone", "()Ljava/lang/Object;"⟩).before a0 Z = true) (w2 : (Jvm.Cond.sameMethod ad "java/lang/Object" "clone" "()Ljava/lang/Object;").before a0 Z = true) (w3 : (Jvm.Cond.native ⟨"java/lang/Object", "clone", "()Ljava/lang/Object;"⟩).before a0 Z = true) (w4 : (Jvm.Cond.instanceMethod ⟨"java/lang/Object", "clone", "()Ljava/lang/Object;"⟩).before a0 Z = true) (w5 : (Jvm.Cond.selects ad ⟨ad, "clone", "()Ljava/lang/Object;"⟩ ⟨"java/lang/Object", "clone", "()Ljava/lang/Object;"⟩).before a0 Z = true) (w6 : (Jvm.Cond.castable ad "java/lang/Cloneable").before a0 Z = true)
    (hd : decode bytes pc = .ok (.invokevirtual idx, 3)) (hsz : ls.size = maxL) (hf : 1 ≤ R.frames) (hW : (st.map fun v => v.category).sum ≤ W) (hl : W + 14 ≤ R.locals) (hcap : vs.length ≤ cap) (hc : cells + 1 ≤ R.cells) (hss : slots + cap ≤ R.slots) (hn : pc + 3 = n)
    (K : ∀ T' h' b, b = h.size → n0 ≤ b → Sd p l e R s m args below meth c n0 T' h' (cells + 1) (slots + cap) → Ext h h' → Av Z h' b ty vs → Exa Z h' b ad → Gl p e below s n0 P C S (T'.setTop (mkF m n ls (.ref b :: st)))) : Gl p e below s n0 P C S (T.setTop (mkF m pc ls (.ref a :: st))) := by
  obtain ⟨locs, X, N, eh, hn0⟩ := X; obtain ⟨hx, hby, hZ, hown, -, hml, -⟩ := w; subst hn
  obtain ⟨cl, A, q⟩ := F
  have FC : FitC Z cl := fitC_of A fun i hi v hv => hfit v (by rw [q] at hv; simp only [List.getElem?_toArray] at hv; exact List.mem_of_getElem? hv)
  obtain ⟨T', h', X', e', E', A', Ex', st'⟩ := cloneA X hx hZ hown w1 w2 w3 w4 w5 w6 eh A E FC (g := mkF m pc ls (.ref a :: st)) rfl (by rw [hml]; exact hsz) rfl (hb hby hd) hf (W := W) (cap := cap) (by show 2 * 0 + _ ≤ _; rw [Nat.mul_zero, Nat.zero_add]; exact hW) hl (by rw [q]; simpa using hcap) hc hss
  exact Gl.of st' (K T' h' h.size rfl (Sd.le ⟨_, X, N, eh, hn0⟩) ⟨_, X', N, e', hn0⟩ E' ⟨_, A', q⟩ Ex')
theorem gCast (X : Sd p l e R s m args below meth c n0 T h cells slots) (w : Cx Z own nm bytes maxL ret p s m meth c) {K0 : String} {idx : Nat} {a : Addr} (w1 : (Jvm.Cond.classLink own idx K0).before a0 Z = true) (F : Ins Z h a K0 true) (hd : decode bytes pc = .ok (.checkcast idx, 3)) (hn : pc + 3 = n)
    (K : ∀ T', Sd p l e R s m args below meth c n0 T' h cells slots → Gl p e below s n0 P C S (T'.setTop (mkF m n ls (.ref a :: st)))) : Gl p e below s n0 P C S (T.setTop (mkF m pc ls (.ref a :: st))) := by
  obtain ⟨locs, X, N, eh, hn0⟩ := X; obtain ⟨hx, hby, hZ, hown, -, hml, -⟩ := w; subst hn
  obtain ⟨T', X', e', st'⟩ := castY X hx hZ hown w1 eh F (g := mkF m pc ls (.ref a :: st)) rfl rfl (hb hby hd)
  exact Gl.of st' (K T' ⟨_, X', N, e', hn0⟩)
theorem gInstY (X : Sd p l e R s m args below meth c n0 T h cells slots) (w : Cx Z own nm bytes maxL ret p s m meth c) {K0 : String} {idx : Nat} {a : Addr} (w1 : (Jvm.Cond.classLink own idx K0).before a0 Z = true) (F : Ins Z h a K0 true) (hd : decode bytes pc = .ok (.instanceof idx, 3)) (hn : pc + 3 = n)
    (K : ∀ T', Sd p l e R s m args below meth c n0 T' h cells slots → Gl p e below s n0 P C S (T'.setTop (mkF m n ls (.int 1 :: st)))) : Gl p e below s n0 P C S (T.setTop (mkF m pc ls (.ref a :: st))) := by
  obtain ⟨locs, X, N, eh, hn0⟩ := X; obtain ⟨hx, hby, hZ, hown, -, hml, -⟩ := w; subst hn
  obtain ⟨T', X', e', st'⟩ := instY X hx hZ hown w1 eh F (g := mkF m pc ls (.ref a :: st)) rfl rfl (hb hby hd)
  exact Gl.of st' (K T' ⟨_, X', N, e', hn0⟩)
theorem gIastore (X : Sd p l e R s m args below meth c n0 T h cells slots) (w : Cx Z own nm bytes maxL ret p s m meth c) {a : Addr} {j : Int32} {x : Int32} {z : Value} {vs : List Value} (F : Av Z h a .int vs) (hj : 0 ≤ j.toInt) (hjv : j.toInt < vs.length) (ha : n0 ≤ a) (hz : Value.int x = z) {vs' : List Value} (hvs : vs.set j.toInt.toNat z = vs') (hd : decode bytes pc = .ok (.iastore, 1)) (hn : pc + 1 = n)
    (K : ∀ T' h', Sd p l e R s m args below meth c n0 T' h' cells slots → Wr h h' a j.toInt.toNat z → Av Z h' a .int vs' → Gl p e below s n0 P C S (T'.setTop (mkF m n ls st))) : Gl p e below s n0 P C S (T.setTop (mkF m pc ls (.int x :: .int j :: .ref a :: st))) := by
  obtain ⟨locs, X, N, eh, hn0⟩ := X; obtain ⟨hx, hby, hZ, hown, hnm, hml, -⟩ := w; subst hn hz hvs
  obtain ⟨cl, A, q⟩ := F
  obtain ⟨T', h', X', e', W', st'⟩ := stI X hx hZ eh A (j := j) (idxIn q hj hjv) (g := mkF m pc ls (.int x :: .int j :: .ref a :: st)) rfl rfl (hb hby hd)
  exact Gl.of st' (K T' h' ⟨_, X', Fr.snoc X' N ha, e', hn0⟩ W' (Av.set ⟨cl, A, q⟩ W'))
theorem gLastore (X : Sd p l e R s m args below meth c n0 T h cells slots) (w : Cx Z own nm bytes maxL ret p s m meth c) {a : Addr} {j : Int32} {x : Int64} {z : Value} {vs : List Value} (F : Av Z h a .long vs) (hj : 0 ≤ j.toInt) (hjv : j.toInt < vs.length) (ha : n0 ≤ a) (hz : Value.long x = z) {vs' : List Value} (hvs : vs.set j.toInt.toNat z = vs') (hd : decode bytes pc = .ok (.lastore, 1)) (hn : pc + 1 = n)
    (K : ∀ T' h', Sd p l e R s m args below meth c n0 T' h' cells slots → Wr h h' a j.toInt.toNat z → Av Z h' a .long vs' → Gl p e below s n0 P C S (T'.setTop (mkF m n ls st))) : Gl p e below s n0 P C S (T.setTop (mkF m pc ls (.long x :: .int j :: .ref a :: st))) := by
  obtain ⟨locs, X, N, eh, hn0⟩ := X; obtain ⟨hx, hby, hZ, hown, hnm, hml, -⟩ := w; subst hn hz hvs
  obtain ⟨cl, A, q⟩ := F
  obtain ⟨T', h', X', e', W', st'⟩ := stJ X hx hZ eh A (j := j) (idxIn q hj hjv) (g := mkF m pc ls (.long x :: .int j :: .ref a :: st)) rfl rfl (hb hby hd)
  exact Gl.of st' (K T' h' ⟨_, X', Fr.snoc X' N ha, e', hn0⟩ W' (Av.set ⟨cl, A, q⟩ W'))
theorem gCastore (X : Sd p l e R s m args below meth c n0 T h cells slots) (w : Cx Z own nm bytes maxL ret p s m meth c) {a : Addr} {j : Int32} {x : Int32} {z : Value} {vs : List Value} (F : Av Z h a .char vs) (hj : 0 ≤ j.toInt) (hjv : j.toInt < vs.length) (ha : n0 ≤ a) (hz : Value.int (nar .char x) = z) {vs' : List Value} (hvs : vs.set j.toInt.toNat z = vs') (hd : decode bytes pc = .ok (.castore, 1)) (hn : pc + 1 = n)
    (K : ∀ T' h', Sd p l e R s m args below meth c n0 T' h' cells slots → Wr h h' a j.toInt.toNat z → Av Z h' a .char vs' → Gl p e below s n0 P C S (T'.setTop (mkF m n ls st))) : Gl p e below s n0 P C S (T.setTop (mkF m pc ls (.int x :: .int j :: .ref a :: st))) := by
  obtain ⟨locs, X, N, eh, hn0⟩ := X; obtain ⟨hx, hby, hZ, hown, hnm, hml, -⟩ := w; subst hn hz hvs
  obtain ⟨cl, A, q⟩ := F
  obtain ⟨T', h', X', e', W', st'⟩ := stC X hx hZ eh A (j := j) (idxIn q hj hjv) (g := mkF m pc ls (.int x :: .int j :: .ref a :: st)) rfl rfl (hb hby hd)
  exact Gl.of st' (K T' h' ⟨_, X', Fr.snoc X' N ha, e', hn0⟩ W' (Av.set ⟨cl, A, q⟩ W'))
theorem gBastore (X : Sd p l e R s m args below meth c n0 T h cells slots) (w : Cx Z own nm bytes maxL ret p s m meth c) {a : Addr} {j : Int32} {x : Int32} {z : Value} {vs : List Value} (F : Av Z h a .byte vs) (hj : 0 ≤ j.toInt) (hjv : j.toInt < vs.length) (ha : n0 ≤ a) (hz : Value.int (nar .byte x) = z) {vs' : List Value} (hvs : vs.set j.toInt.toNat z = vs') (hd : decode bytes pc = .ok (.bastore, 1)) (hn : pc + 1 = n)
    (K : ∀ T' h', Sd p l e R s m args below meth c n0 T' h' cells slots → Wr h h' a j.toInt.toNat z → Av Z h' a .byte vs' → Gl p e below s n0 P C S (T'.setTop (mkF m n ls st))) : Gl p e below s n0 P C S (T.setTop (mkF m pc ls (.int x :: .int j :: .ref a :: st))) := by
  obtain ⟨locs, X, N, eh, hn0⟩ := X; obtain ⟨hx, hby, hZ, hown, hnm, hml, -⟩ := w; subst hn hz hvs
  obtain ⟨cl, A, q⟩ := F
  obtain ⟨T', h', X', e', W', st'⟩ := stB X hx hZ eh A (j := j) (idxIn q hj hjv) (g := mkF m pc ls (.int x :: .int j :: .ref a :: st)) rfl rfl (hb hby hd)
  exact Gl.of st' (K T' h' ⟨_, X', Fr.snoc X' N ha, e', hn0⟩ W' (Av.set ⟨cl, A, q⟩ W'))
theorem gIaload (X : Sd p l e R s m args below meth c n0 T h cells slots) (w : Cx Z own nm bytes maxL ret p s m meth c) {a : Addr} {j : Int32} {v : Value} {vs : List Value} (F : Av Z h a .int vs) (hj : 0 ≤ j.toInt) (hv : vs[j.toInt.toNat]? = some v) (hd : decode bytes pc = .ok (.iaload, 1)) (hn : pc + 1 = n) (K : Gl p e below s n0 P C S (T.setTop (mkF m n ls (v :: st)))) : Gl p e below s n0 P C S (T.setTop (mkF m pc ls (.int j :: .ref a :: st))) := by
  obtain ⟨locs, X, N, eh, hn0⟩ := X; obtain ⟨hx, hby, hZ, hown, hnm, hml, -⟩ := w; subst hn
  obtain ⟨cl, A, q⟩ := F
  have hlt : j.toInt.toNat < vs.length := (List.getElem?_eq_some_iff.mp hv).1
  exact Gl.of (fun t k => X.iaload hx (j := j) (v := v) (by rw [eh]; exact A.1) (State.isArrayOf_alike hZ.alike A.2.1) A.2.2 (idxIn q hj (by omega)) (by rw [q]; show vs.toArray[j.toInt.toNat]? = _; simpa using hv) (g := mkF m pc ls (.int j :: .ref a :: st)) rfl rfl (hb hby hd) _ k) K
theorem gCaload (X : Sd p l e R s m args below meth c n0 T h cells slots) (w : Cx Z own nm bytes maxL ret p s m meth c) {a : Addr} {j : Int32} {v : Value} {vs : List Value} (F : Av Z h a .char vs) (hj : 0 ≤ j.toInt) (hv : vs[j.toInt.toNat]? = some v) (hd : decode bytes pc = .ok (.caload, 1)) (hn : pc + 1 = n) (K : Gl p e below s n0 P C S (T.setTop (mkF m n ls (v :: st)))) : Gl p e below s n0 P C S (T.setTop (mkF m pc ls (.int j :: .ref a :: st))) := by
  obtain ⟨locs, X, N, eh, hn0⟩ := X; obtain ⟨hx, hby, hZ, hown, hnm, hml, -⟩ := w; subst hn
  obtain ⟨cl, A, q⟩ := F
  have hlt : j.toInt.toNat < vs.length := (List.getElem?_eq_some_iff.mp hv).1
  exact Gl.of (fun t k => X.caload hx (j := j) (v := v) (by rw [eh]; exact A.1) (State.isArrayOf_alike hZ.alike A.2.1) A.2.2 (idxIn q hj (by omega)) (by rw [q]; show vs.toArray[j.toInt.toNat]? = _; simpa using hv) (g := mkF m pc ls (.int j :: .ref a :: st)) rfl rfl (hb hby hd) _ k) K
theorem gBaload (X : Sd p l e R s m args below meth c n0 T h cells slots) (w : Cx Z own nm bytes maxL ret p s m meth c) {a : Addr} {j : Int32} {v : Value} {vs : List Value} (F : Av Z h a .byte vs) (hj : 0 ≤ j.toInt) (hv : vs[j.toInt.toNat]? = some v) (hd : decode bytes pc = .ok (.baload, 1)) (hn : pc + 1 = n) (K : Gl p e below s n0 P C S (T.setTop (mkF m n ls (v :: st)))) : Gl p e below s n0 P C S (T.setTop (mkF m pc ls (.int j :: .ref a :: st))) := by
  obtain ⟨locs, X, N, eh, hn0⟩ := X; obtain ⟨hx, hby, hZ, hown, hnm, hml, -⟩ := w; subst hn
  obtain ⟨cl, A, q⟩ := F
  have hlt : j.toInt.toNat < vs.length := (List.getElem?_eq_some_iff.mp hv).1
  exact Gl.of (fun t k => X.baloadBytes hx (j := j) (v := v) (by rw [eh]; exact A.1) (State.isArrayOf_alike hZ.alike A.2.1) A.2.2 (idxIn q hj (by omega)) (by rw [q]; show vs.toArray[j.toInt.toNat]? = _; simpa using hv) (g := mkF m pc ls (.int j :: .ref a :: st)) rfl rfl (hb hby hd) _ k) K
theorem gLaload (X : Sd p l e R s m args below meth c n0 T h cells slots) (w : Cx Z own nm bytes maxL ret p s m meth c) {a : Addr} {j : Int32} {v : Value} {vs : List Value} (F : Av Z h a .long vs) (hj : 0 ≤ j.toInt) (hv : vs[j.toInt.toNat]? = some v) (hd : decode bytes pc = .ok (.laload, 1)) (hn : pc + 1 = n) (K : Gl p e below s n0 P C S (T.setTop (mkF m n ls (v :: st)))) : Gl p e below s n0 P C S (T.setTop (mkF m pc ls (.int j :: .ref a :: st))) := by
  obtain ⟨locs, X, N, eh, hn0⟩ := X; obtain ⟨hx, hby, hZ, hown, hnm, hml, -⟩ := w; subst hn
  obtain ⟨cl, A, q⟩ := F
  have hlt : j.toInt.toNat < vs.length := (List.getElem?_eq_some_iff.mp hv).1
  exact Gl.of (fun t k => X.laload hx (j := j) (v := v) (by rw [eh]; exact A.1) (State.isArrayOf_alike hZ.alike A.2.1) A.2.2 (idxIn q hj (by omega)) (by rw [q]; show vs.toArray[j.toInt.toNat]? = _; simpa using hv) (g := mkF m pc ls (.int j :: .ref a :: st)) rfl rfl (hb hby hd) _ k) K
theorem Av.arv {a : Addr} {ty : FieldType} {vs : List Value} (dv : Value) (F : Av Z h a ty vs) (hf : ∀ v ∈ vs, fits ty v = true) (hl : vs.length < 2 ^ 31) : ∃ k, Arv Z h a k ty vs.length.toInt32 vs dv := by
  obtain ⟨c, A, q⟩ := F
  have hz : vs.length.toInt32.toInt = vs.length := len_toInt hl
  have hc : vs.length.toInt32.toNatClampNeg = vs.length := by show vs.length.toInt32.toInt.toNat = _; rw [hz]; rfl
  have hs : c.slots.size = vs.length := by rw [q]; simp
  refine ⟨c.cls, c, A, rfl, by rw [hc, hs], fun g => by have := (XT.negI32 _).mp g; omega, fun i hi => ?_, fun i hi => ?_⟩
  · rw [hs] at hi; rw [q]; simp [hi]
  · rw [hs] at hi; rw [List.getD_eq_getElem?_getD, List.getElem?_eq_getElem hi]; exact hf _ (List.getElem_mem hi)
theorem avOf {a : Addr} {k : ClassId} {ty : FieldType} {z : Int32} {vs : List Value} {dv : Value} (F : Arv Z h a k ty z vs dv) (hl : z.toNatClampNeg = vs.length) : Av Z h a ty vs := by
  obtain ⟨c, A, -, S, -, H, -⟩ := F
  refine ⟨c, A, Array.ext_getElem? fun i => ?_⟩
  by_cases hi : i < c.slots.size
  · rw [H i hi]; rw [S, hl] at hi; simp [hi]
  · rw [Array.getElem?_eq_none (by omega)]; rw [S, hl] at hi; simp; omega
theorem gAcopy (X : Sd p l e R s m args below meth c n0 T h cells slots) (w : Cx Z own nm bytes maxL ret p s m meth c) {idx W : Nat} {a b : Addr} {ty : FieldType} {va vb vs' : List Value} {sp dp nn : Int32} (dv : Value) (A : Av Z h a ty va) (B : Av Z h b ty vb) (hty : refKind ty = false) (fa : ∀ v ∈ va, fits ty v = true) (fb : ∀ v ∈ vb, fits ty v = true) (la : va.length < 2 ^ 31) (lb : vb.length < 2 ^ 31)
    (w1 : (Jvm.Cond.methodLink own idx Jvm.Stand.acN).before a0 Z = true) (w2 : (Jvm.Cond.native Jvm.Stand.acN).before a0 Z = true) (w3 : (Jvm.Cond.static Jvm.Stand.acN).before a0 Z = true) (w4 : (Jvm.Cond.initialized "java/lang/System").before a0 Z = true)
    (h1 : 0 ≤ sp.toInt) (h2 : 0 ≤ dp.toInt) (h3 : 0 ≤ nn.toInt) (h4 : sp.toInt + nn.toInt ≤ va.length) (h5 : dp.toInt + nn.toInt ≤ vb.length) (hvs : vb.take dp.toInt.toNat ++ ((List.range nn.toInt.toNat).map fun i => va.getD (sp.toInt.toNat + i) dv) ++ vb.drop (dp.toInt.toNat + nn.toInt.toNat) = vs') (ge : n0 ≤ b)
    (hd : decode bytes pc = .ok (.invokestatic idx, 3)) (hsz : ls.size = maxL) (hf : 1 ≤ R.frames) (hW : (st.map fun v => v.category).sum ≤ W) (hl : W + (nativeFrameWords "java/lang/System" "arraycopy" 5 + 11) ≤ R.locals) (hn : pc + 3 = n)
    (K : ∀ T' h', Sd p l e R s m args below meth c n0 T' h' cells slots → Keep h h' [b] → Av Z h' b ty vs' → Gl p e below s n0 P C S (T'.setTop (mkF m n ls st))) : Gl p e below s n0 P C S (T.setTop (mkF m pc ls (.int nn :: .int dp :: .ref b :: .int sp :: .ref a :: st))) := by
  obtain ⟨locs, X, N, eh, hn0⟩ := X; obtain ⟨hx, hby, hZ, hown, -, hml, -⟩ := w; subst hn hvs
  obtain ⟨ka, A⟩ := A.arv dv fa la
  obtain ⟨kb, B⟩ := B.arv dv fb lb
  have za : va.length.toInt32.toNatClampNeg = va.length := by show va.length.toInt32.toInt.toNat = _; rw [len_toInt la]; rfl
  have zb : vb.length.toInt32.toNatClampNeg = vb.length := by show vb.length.toInt32.toInt.toNat = _; rw [len_toInt lb]; rfl
  have n1 : ¬ sp < 0 := fun g => by have := (XT.negI32 _).mp g; omega
  have n2 : ¬ dp < 0 := fun g => by have := (XT.negI32 _).mp g; omega
  have n3 : ¬ nn < 0 := fun g => by have := (XT.negI32 _).mp g; omega
  have e1 : sp.toNatClampNeg = sp.toInt.toNat := rfl
  have e2 : dp.toNatClampNeg = dp.toInt.toNat := rfl
  have e3 : nn.toNatClampNeg = nn.toInt.toNat := rfl
  obtain ⟨T', h', L, X', e', N', K', B', st'⟩ := cpA X hx hZ hown w1 w2 w3 w4 eh A B (Or.inl ⟨rfl, hty⟩) n1 n2 n3 (by rw [za, e1, e3]; omega) (by rw [zb, e2, e3]; omega) rfl (by rw [e2, e3]; omega) N ge (g := mkF m pc ls (.int nn :: .int dp :: .ref b :: .int sp :: .ref a :: st)) rfl (by rw [hml]; exact hsz) rfl (hb hby hd) hf (W := W) (by show 2 * 0 + _ ≤ _; rw [Nat.mul_zero, Nat.zero_add]; exact hW) hl
  exact Gl.of st' (K T' h' ⟨L, X', N', e', hn0⟩ K' (avOf B' (by rw [zb, List.length_append, List.length_append, List.length_take, List.length_map, List.length_range, List.length_drop]; omega)))
theorem gAlen (X : Sd p l e R s m args below meth c n0 T h cells slots) (w : Cx Z own nm bytes maxL ret p s m meth c) {a : Addr} {ty : FieldType} {vs : List Value} {z : Int32} (F : Av Z h a ty vs) (hz : vs.length.toInt32 = z) (hd : decode bytes pc = .ok (.arraylength, 1)) (hn : pc + 1 = n) (K : Gl p e below s n0 P C S (T.setTop (mkF m n ls (.int z :: st)))) : Gl p e below s n0 P C S (T.setTop (mkF m pc ls (.ref a :: st))) := by
  obtain ⟨locs, X, N, eh, hn0⟩ := X; obtain ⟨hx, hby, hZ, hown, hnm, hml, -⟩ := w; subst hn hz
  obtain ⟨cl, A, q⟩ := F
  have hs : cl.slots.size = vs.length := by rw [q]; simp
  rw [← hs] at K
  exact Gl.of (fun t k => X.arraylength hx (by rw [eh]; exact A.1) (State.isArrayOf_alike hZ.alike A.2.1) (g := mkF m pc ls (.ref a :: st)) rfl rfl (hb hby hd) _ k) K
theorem eqR {args : Array Value} {s : State} {t u : Term} {b : Addr} (hu : u.eval args s none [] s = some (.ref b)) (h : (Jvm.Cond.eq t u).value args s none s [] = some true) : t.eval args s none [] s = some (.ref b) := by
  obtain ⟨x, y, hx, hy, k1, k2⟩ := cmp_v (Or.inl h)
  cases hu.symm.trans hy
  obtain ⟨-, q⟩ := (k2 : (Value.ref b).isRef = true ∧ x.isRef = true)
  have e := gotT (eq_R hx hy q rfl) h
  rw [hx, e]
theorem eqI {args : Array Value} {s : State} {t u : Term} {z : Int32} (hu : u.eval args s none [] s = some (.int z)) (h : (Jvm.Cond.eq t u).value args s none s [] = some true) : t.eval args s none [] s = some (.int z) := by
  obtain ⟨x, y, hx, hy, k1, k2⟩ := cmp_v (Or.inl h)
  cases hu.symm.trans hy
  obtain ⟨x', rfl⟩ := (k2 : ∃ z', x = .int z')
  have e : some (decide (x' = z)) = some true := by rw [← h]; simp [Cond.value, hx, hy]
  have e' : x' = z := by simpa using e
  rw [hx, e']
theorem mask31 (x : Int32) : (x &&& 2147483647).toInt = x.toInt % 2147483648 := c_mask x 2147483647 31 (by decide) (by decide)
theorem irem_pos {x y : Int32} (hx : 0 ≤ x.toInt) : (x % y).toInt = x.toInt % y.toInt := (c_irem x y _ rfl).1 hx
theorem lrem_pos {x y : Int64} (hx : 0 ≤ x.toInt) : (x % y).toInt = x.toInt % y.toInt := by rw [← lrem_mod]; exact (c_lrem x y _ rfl).1 hx
theorem ne0I {x : Int32} (h : x.toInt ≠ 0) : x ≠ 0 := fun e => h (by rw [e]; rfl)
theorem ne0L {x : Int64} (h : x.toInt ≠ 0) : x ≠ 0 := fun e => h (by rw [e]; rfl)
theorem iadd_toInt {x y : Int32} (h1 : -2147483648 ≤ x.toInt + y.toInt) (h2 : x.toInt + y.toInt < 2147483648) : (x + y).toInt = x.toInt + y.toInt := XT.add32 ⟨by omega, by omega⟩
theorem isub_toInt {x y : Int32} (h1 : -2147483648 ≤ x.toInt - y.toInt) (h2 : x.toInt - y.toInt < 2147483648) : (x - y).toInt = x.toInt - y.toInt := XT.sub32 ⟨by omega, by omega⟩
theorem ladd_toInt {x y : Int64} (h1 : -9223372036854775808 ≤ x.toInt + y.toInt) (h2 : x.toInt + y.toInt < 9223372036854775808) : (x + y).toInt = x.toInt + y.toInt := XT.add64 ⟨by omega, by omega⟩
theorem lsub_toInt {x y : Int64} (h1 : -9223372036854775808 ≤ x.toInt - y.toInt) (h2 : x.toInt - y.toInt < 9223372036854775808) : (x - y).toInt = x.toInt - y.toInt := XT.sub64 ⟨by omega, by omega⟩
theorem l2i_toInt {x : Int64} (h1 : -2147483648 ≤ x.toInt) (h2 : x.toInt < 2147483648) : x.toInt32.toInt = x.toInt := XT.narrowInt ⟨by omega, by omega⟩
end Walk
end Jvm.OwnWalk
namespace Jvm.Pilot.@@N@@
open Jvm Jvm.ClassFile Sem Op Lib Jvm.Free Jvm.Stand Jvm.LawKit Jvm.RoadKit Bundle Jvm.OwnWalk Jvm.Pilot.@@N@@.Jvm.D
theorem own_wd {a0 : Array Value} {Z : State} (hw : ∀ d ∈ tables_1, d.before a0 Z = true) (i : Nat) {d : Jvm.Cond} (q : tables_1[i]? = some d) : d.before a0 Z = true := hw _ (List.mem_of_getElem? q)
def own_com (us ws : List Int32) : Prop := ∃ y, y ∈ us ∧ y ∈ ws
def own_asc (us : List Int32) : Prop := us.Pairwise (fun x y => x.toInt < y.toInt)
theorem own_low {ws : List Int32} {j : Nat} (hj : j < ws.length) (aw : own_asc ws) : ∀ y ∈ ws.drop j, ws[j].toInt ≤ y.toInt := by
  intro y hy
  have p : (ws.drop j).Pairwise (fun x y => x.toInt < y.toInt) := List.Pairwise.sublist (List.drop_sublist j ws) aw
  rw [List.drop_eq_getElem_cons hj] at hy p
  rcases List.mem_cons.mp hy with e | e
  · rw [e]; exact Int.le_refl _
  · exact Int.le_of_lt ((List.pairwise_cons.mp p).1 y e)
theorem own_com_l {us ws : List Int32} {i j : Nat} (hi : i < us.length) (hj : j < ws.length) (aw : own_asc ws) (h : us[i].toInt < ws[j].toInt) : own_com (us.drop i) (ws.drop j) ↔ own_com (us.drop (i + 1)) (ws.drop j) := by
  have e := List.drop_eq_getElem_cons hi
  constructor
  · rintro ⟨y, h1, h2⟩
    rw [e] at h1
    rcases List.mem_cons.mp h1 with q | q
    · have := own_low hj aw y h2; rw [q] at this; omega
    · exact ⟨y, q, h2⟩
  · rintro ⟨y, h1, h2⟩
    exact ⟨y, by rw [e]; exact List.mem_cons_of_mem _ h1, h2⟩
theorem own_com_symm {us ws : List Int32} : own_com us ws ↔ own_com ws us := ⟨fun ⟨y, a, b⟩ => ⟨y, b, a⟩, fun ⟨y, a, b⟩ => ⟨y, b, a⟩⟩
theorem own_com_r {us ws : List Int32} {i j : Nat} (hi : i < us.length) (hj : j < ws.length) (au : own_asc us) (h : ws[j].toInt < us[i].toInt) : own_com (us.drop i) (ws.drop j) ↔ own_com (us.drop i) (ws.drop (j + 1)) := by
  rw [own_com_symm, own_com_l hj hi au h, own_com_symm]
theorem own_com_eq {us ws : List Int32} {i j : Nat} (hi : i < us.length) (hj : j < ws.length) (h : us[i] = ws[j]) : own_com (us.drop i) (ws.drop j) :=
  ⟨us[i], by rw [List.drop_eq_getElem_cons hi]; exact List.mem_cons_self .., by rw [List.drop_eq_getElem_cons hj, h]; exact List.mem_cons_self ..⟩
theorem own_com_n {us ws : List Int32} {i j : Nat} (h : us.length ≤ i ∨ ws.length ≤ j) : ¬ own_com (us.drop i) (ws.drop j) := by
  rintro ⟨y, h1, h2⟩
  rcases h with h | h
  · rw [List.drop_eq_nil_of_le h] at h1; cases h1
  · rw [List.drop_eq_nil_of_le h] at h2; cases h2
theorem own_at {us : List Int32} {i : Nat} {z : Int32} (hi : i < us.length) (hz : z.toInt = i) : (us.map Value.int)[z.toInt.toNat]? = some (.int us[i]) := by
  rw [hz]; simp [hi]
theorem own_len {us : List Int32} {z : Int32} (h : us.length < 2 ^ 31) (hz : (us.map Value.int).length.toInt32 = z) : z.toInt = us.length := by
  rw [← hz, len_toInt (by simpa using h)]; simp
theorem own_mod5 (x : Int32) : (x &&& 7) % 5 = 0 ∨ (x &&& 7) % 5 = 1 ∨ (x &&& 7) % 5 = 2 ∨ (x &&& 7) % 5 = 3 ∨ (x &&& 7) % 5 = 4 := by
  have h : (x &&& 7).toInt = x.toInt % 8 := c_mask x 7 3 (by decide) (by decide)
  have h2 := irem_pos (x := x &&& 7) (y := 5) (by omega)
  rw [show (5 : Int32).toInt = 5 from rfl] at h2
  have k : ((x &&& 7) % 5).toInt = 0 ∨ ((x &&& 7) % 5).toInt = 1 ∨ ((x &&& 7) % 5).toInt = 2 ∨ ((x &&& 7) % 5).toInt = 3 ∨ ((x &&& 7) % 5).toInt = 4 := by omega
  rcases k with k | k | k | k | k
  · exact Or.inl (Int32.toInt_inj.mp k)
  · exact Or.inr (Or.inl (Int32.toInt_inj.mp k))
  · exact Or.inr (Or.inr (Or.inl (Int32.toInt_inj.mp k)))
  · exact Or.inr (Or.inr (Or.inr (Or.inl (Int32.toInt_inj.mp k))))
  · exact Or.inr (Or.inr (Or.inr (Or.inr (Int32.toInt_inj.mp k))))
theorem own_fitI {vs : List Value} (h : ∀ v ∈ vs, ∃ x, v = Value.int x) : ∀ v ∈ vs, fits .int v = true := fun v hv => by obtain ⟨x, rfl⟩ := h v hv; rfl
theorem own_b01 {x y : Int32} (h1 : x = 0 ∨ x = 1) (h2 : y = 0 ∨ y = 1) (h : x = 1 ↔ y = 1) : x = y := by
  rcases h1 with a | a <;> rcases h2 with b | b
  · rw [a, b]
  · rw [h.mpr b, b]
  · rw [a, h.mp a]
  · rw [a, b]
theorem d1_0 : decode prog_3_method_2_code 0 = .ok (.aload_n 0, 1) := by decide +kernel
theorem d1_1 : decode prog_3_method_2_code 1 = .ok (.invokevirtual 13, 3) := by decide +kernel
theorem d1_4 : decode prog_3_method_2_code 4 = .ok (.checkcast 14, 3) := by decide +kernel
theorem d1_7 : decode prog_3_method_2_code 7 = .ok (.astore_n 1, 1) := by decide +kernel
theorem d1_8 : decode prog_3_method_2_code 8 = .ok (.aload_n 1, 1) := by decide +kernel
theorem d1_9 : decode prog_3_method_2_code 9 = .ok (.invokestatic 18, 3) := by decide +kernel
theorem d1_12 : decode prog_3_method_2_code 12 = .ok (.iconst 0, 1) := by decide +kernel
theorem d1_13 : decode prog_3_method_2_code 13 = .ok (.istore_n 2, 1) := by decide +kernel
theorem d1_14 : decode prog_3_method_2_code 14 = .ok (.aload_n 1, 1) := by decide +kernel
theorem d1_15 : decode prog_3_method_2_code 15 = .ok (.astore_n 3, 1) := by decide +kernel
theorem d1_16 : decode prog_3_method_2_code 16 = .ok (.aload_n 3, 1) := by decide +kernel
theorem d1_17 : decode prog_3_method_2_code 17 = .ok (.arraylength, 1) := by decide +kernel
theorem d1_18 : decode prog_3_method_2_code 18 = .ok (.istore 4, 2) := by decide +kernel
theorem d1_20 : decode prog_3_method_2_code 20 = .ok (.iconst 0, 1) := by decide +kernel
theorem d1_21 : decode prog_3_method_2_code 21 = .ok (.istore 5, 2) := by decide +kernel
theorem d1_23 : decode prog_3_method_2_code 23 = .ok (.iload 5, 2) := by decide +kernel
theorem d1_25 : decode prog_3_method_2_code 25 = .ok (.iload 4, 2) := by decide +kernel
theorem d1_27 : decode prog_3_method_2_code 27 = .ok (.if_icmp .ge 37, 3) := by decide +kernel
theorem d1_30 : decode prog_3_method_2_code 30 = .ok (.aload_n 3, 1) := by decide +kernel
theorem d1_31 : decode prog_3_method_2_code 31 = .ok (.iload 5, 2) := by decide +kernel
theorem d1_33 : decode prog_3_method_2_code 33 = .ok (.iaload, 1) := by decide +kernel
theorem d1_34 : decode prog_3_method_2_code 34 = .ok (.istore 6, 2) := by decide +kernel
theorem d1_36 : decode prog_3_method_2_code 36 = .ok (.iload_n 2, 1) := by decide +kernel
theorem d1_37 : decode prog_3_method_2_code 37 = .ok (.ifCond .eq 13, 3) := by decide +kernel
theorem d1_40 : decode prog_3_method_2_code 40 = .ok (.aload_n 1, 1) := by decide +kernel
theorem d1_41 : decode prog_3_method_2_code 41 = .ok (.iload_n 2, 1) := by decide +kernel
theorem d1_42 : decode prog_3_method_2_code 42 = .ok (.iconst 1, 1) := by decide +kernel
theorem d1_43 : decode prog_3_method_2_code 43 = .ok (.isub, 1) := by decide +kernel
theorem d1_44 : decode prog_3_method_2_code 44 = .ok (.iaload, 1) := by decide +kernel
theorem d1_45 : decode prog_3_method_2_code 45 = .ok (.iload 6, 2) := by decide +kernel
theorem d1_47 : decode prog_3_method_2_code 47 = .ok (.if_icmp .eq 11, 3) := by decide +kernel
theorem d1_50 : decode prog_3_method_2_code 50 = .ok (.aload_n 1, 1) := by decide +kernel
theorem d1_51 : decode prog_3_method_2_code 51 = .ok (.iload_n 2, 1) := by decide +kernel
theorem d1_52 : decode prog_3_method_2_code 52 = .ok (.iinc 2 1, 3) := by decide +kernel
theorem d1_55 : decode prog_3_method_2_code 55 = .ok (.iload 6, 2) := by decide +kernel
theorem d1_57 : decode prog_3_method_2_code 57 = .ok (.iastore, 1) := by decide +kernel
theorem d1_58 : decode prog_3_method_2_code 58 = .ok (.iinc 5 1, 3) := by decide +kernel
theorem d1_61 : decode prog_3_method_2_code 61 = .ok (.goto (-38), 3) := by decide +kernel
theorem d1_64 : decode prog_3_method_2_code 64 = .ok (.new 8, 3) := by decide +kernel
theorem d1_67 : decode prog_3_method_2_code 67 = .ok (.dup, 1) := by decide +kernel
theorem d1_68 : decode prog_3_method_2_code 68 = .ok (.aload_n 1, 1) := by decide +kernel
theorem d1_69 : decode prog_3_method_2_code 69 = .ok (.iload_n 2, 1) := by decide +kernel
theorem d1_70 : decode prog_3_method_2_code 70 = .ok (.invokestatic 24, 3) := by decide +kernel
theorem d1_73 : decode prog_3_method_2_code 73 = .ok (.invokespecial 28, 3) := by decide +kernel
theorem d1_76 : decode prog_3_method_2_code 76 = .ok (.areturn, 1) := by decide +kernel
theorem d2_0 : decode jdk_65_method_2_code 0 = .ok (.aload_n 0, 1) := by decide +kernel
theorem d2_1 : decode jdk_65_method_2_code 1 = .ok (.iconst 0, 1) := by decide +kernel
theorem d2_2 : decode jdk_65_method_2_code 2 = .ok (.iconst 0, 1) := by decide +kernel
theorem d2_3 : decode jdk_65_method_2_code 3 = .ok (.aload_n 0, 1) := by decide +kernel
theorem d2_4 : decode jdk_65_method_2_code 4 = .ok (.arraylength, 1) := by decide +kernel
theorem d2_5 : decode jdk_65_method_2_code 5 = .ok (.invokestatic 7, 3) := by decide +kernel
theorem d2_8 : decode jdk_65_method_2_code 8 = .ok (.return_, 1) := by decide +kernel
theorem d3_0 : decode jdk_2529_method_3_code 0 = .ok (.iload_n 3, 1) := by decide +kernel
theorem d3_1 : decode jdk_2529_method_3_code 1 = .ok (.iload_n 2, 1) := by decide +kernel
theorem d3_2 : decode jdk_2529_method_3_code 2 = .ok (.isub, 1) := by decide +kernel
theorem d3_3 : decode jdk_2529_method_3_code 3 = .ok (.istore 4, 2) := by decide +kernel
theorem d3_5 : decode jdk_2529_method_3_code 5 = .ok (.iload_n 1, 1) := by decide +kernel
theorem d3_6 : decode jdk_2529_method_3_code 6 = .ok (.iconst 1, 1) := by decide +kernel
theorem d3_7 : decode jdk_2529_method_3_code 7 = .ok (.if_icmp .le 61, 3) := by decide +kernel
theorem d3_68 : decode jdk_2529_method_3_code 68 = .ok (.aconst_null, 1) := by decide +kernel
theorem d3_69 : decode jdk_2529_method_3_code 69 = .ok (.aload_n 0, 1) := by decide +kernel
theorem d3_70 : decode jdk_2529_method_3_code 70 = .ok (.iconst 0, 1) := by decide +kernel
theorem d3_71 : decode jdk_2529_method_3_code 71 = .ok (.iload_n 2, 1) := by decide +kernel
theorem d3_72 : decode jdk_2529_method_3_code 72 = .ok (.iload_n 3, 1) := by decide +kernel
theorem d3_73 : decode jdk_2529_method_3_code 73 = .ok (.invokestatic 26, 3) := by decide +kernel
theorem d3_76 : decode jdk_2529_method_3_code 76 = .ok (.return_, 1) := by decide +kernel
theorem d4_0 : decode jdk_2529_method_4_code 0 = .ok (.iload 4, 2) := by decide +kernel
theorem d4_2 : decode jdk_2529_method_4_code 2 = .ok (.iconst 1, 1) := by decide +kernel
theorem d4_3 : decode jdk_2529_method_4_code 3 = .ok (.isub, 1) := by decide +kernel
theorem d4_4 : decode jdk_2529_method_4_code 4 = .ok (.istore 5, 2) := by decide +kernel
theorem d4_6 : decode jdk_2529_method_4_code 6 = .ok (.iload 4, 2) := by decide +kernel
theorem d4_8 : decode jdk_2529_method_4_code 8 = .ok (.iload_n 3, 1) := by decide +kernel
theorem d4_9 : decode jdk_2529_method_4_code 9 = .ok (.isub, 1) := by decide +kernel
theorem d4_10 : decode jdk_2529_method_4_code 10 = .ok (.istore 6, 2) := by decide +kernel
theorem d4_12 : decode jdk_2529_method_4_code 12 = .ok (.iload 6, 2) := by decide +kernel
theorem d4_14 : decode jdk_2529_method_4_code 14 = .ok (.bipush 65, 2) := by decide +kernel
theorem d4_16 : decode jdk_2529_method_4_code 16 = .ok (.iload_n 2, 1) := by decide +kernel
theorem d4_17 : decode jdk_2529_method_4_code 17 = .ok (.iadd, 1) := by decide +kernel
theorem d4_18 : decode jdk_2529_method_4_code 18 = .ok (.if_icmp .ge 28, 3) := by decide +kernel
theorem d4_21 : decode jdk_2529_method_4_code 21 = .ok (.iload_n 2, 1) := by decide +kernel
theorem d4_22 : decode jdk_2529_method_4_code 22 = .ok (.iconst 1, 1) := by decide +kernel
theorem d4_23 : decode jdk_2529_method_4_code 23 = .ok (.iand, 1) := by decide +kernel
theorem d4_24 : decode jdk_2529_method_4_code 24 = .ok (.ifCond .le 22, 3) := by decide +kernel
theorem d4_46 : decode jdk_2529_method_4_code 46 = .ok (.iload 6, 2) := by decide +kernel
theorem d4_48 : decode jdk_2529_method_4_code 48 = .ok (.bipush 44, 2) := by decide +kernel
theorem d4_50 : decode jdk_2529_method_4_code 50 = .ok (.if_icmp .ge 11, 3) := by decide +kernel
theorem d4_53 : decode jdk_2529_method_4_code 53 = .ok (.aload_n 1, 1) := by decide +kernel
theorem d4_54 : decode jdk_2529_method_4_code 54 = .ok (.iload_n 3, 1) := by decide +kernel
theorem d4_55 : decode jdk_2529_method_4_code 55 = .ok (.iload 4, 2) := by decide +kernel
theorem d4_57 : decode jdk_2529_method_4_code 57 = .ok (.invokestatic 34, 3) := by decide +kernel
theorem d4_60 : decode jdk_2529_method_4_code 60 = .ok (.return_, 1) := by decide +kernel
theorem d5_0 : decode jdk_2529_method_6_code 0 = .ok (.iload_n 1, 1) := by decide +kernel
theorem d5_1 : decode jdk_2529_method_6_code 1 = .ok (.istore 4, 2) := by decide +kernel
theorem d5_3 : decode jdk_2529_method_6_code 3 = .ok (.iinc 4 1, 3) := by decide +kernel
theorem d5_6 : decode jdk_2529_method_6_code 6 = .ok (.iload 4, 2) := by decide +kernel
theorem d5_8 : decode jdk_2529_method_6_code 8 = .ok (.iload_n 2, 1) := by decide +kernel
theorem d5_9 : decode jdk_2529_method_6_code 9 = .ok (.if_icmp .ge 58, 3) := by decide +kernel
theorem d5_12 : decode jdk_2529_method_6_code 12 = .ok (.aload_n 0, 1) := by decide +kernel
theorem d5_13 : decode jdk_2529_method_6_code 13 = .ok (.iload 4, 2) := by decide +kernel
theorem d5_15 : decode jdk_2529_method_6_code 15 = .ok (.dup, 1) := by decide +kernel
theorem d5_16 : decode jdk_2529_method_6_code 16 = .ok (.istore_n 3, 1) := by decide +kernel
theorem d5_17 : decode jdk_2529_method_6_code 17 = .ok (.iaload, 1) := by decide +kernel
theorem d5_18 : decode jdk_2529_method_6_code 18 = .ok (.istore 5, 2) := by decide +kernel
theorem d5_20 : decode jdk_2529_method_6_code 20 = .ok (.iload 5, 2) := by decide +kernel
theorem d5_22 : decode jdk_2529_method_6_code 22 = .ok (.aload_n 0, 1) := by decide +kernel
theorem d5_23 : decode jdk_2529_method_6_code 23 = .ok (.iload_n 3, 1) := by decide +kernel
theorem d5_24 : decode jdk_2529_method_6_code 24 = .ok (.iconst 1, 1) := by decide +kernel
theorem d5_25 : decode jdk_2529_method_6_code 25 = .ok (.isub, 1) := by decide +kernel
theorem d5_26 : decode jdk_2529_method_6_code 26 = .ok (.iaload, 1) := by decide +kernel
theorem d5_27 : decode jdk_2529_method_6_code 27 = .ok (.if_icmp .ge 37, 3) := by decide +kernel
theorem d5_30 : decode jdk_2529_method_6_code 30 = .ok (.iinc 3 (-1), 3) := by decide +kernel
theorem d5_33 : decode jdk_2529_method_6_code 33 = .ok (.iload_n 3, 1) := by decide +kernel
theorem d5_34 : decode jdk_2529_method_6_code 34 = .ok (.iload_n 1, 1) := by decide +kernel
theorem d5_35 : decode jdk_2529_method_6_code 35 = .ok (.if_icmp .lt 22, 3) := by decide +kernel
theorem d5_38 : decode jdk_2529_method_6_code 38 = .ok (.iload 5, 2) := by decide +kernel
theorem d5_40 : decode jdk_2529_method_6_code 40 = .ok (.aload_n 0, 1) := by decide +kernel
theorem d5_41 : decode jdk_2529_method_6_code 41 = .ok (.iload_n 3, 1) := by decide +kernel
theorem d5_42 : decode jdk_2529_method_6_code 42 = .ok (.iaload, 1) := by decide +kernel
theorem d5_43 : decode jdk_2529_method_6_code 43 = .ok (.if_icmp .ge 14, 3) := by decide +kernel
theorem d5_46 : decode jdk_2529_method_6_code 46 = .ok (.aload_n 0, 1) := by decide +kernel
theorem d5_47 : decode jdk_2529_method_6_code 47 = .ok (.iload_n 3, 1) := by decide +kernel
theorem d5_48 : decode jdk_2529_method_6_code 48 = .ok (.iconst 1, 1) := by decide +kernel
theorem d5_49 : decode jdk_2529_method_6_code 49 = .ok (.iadd, 1) := by decide +kernel
theorem d5_50 : decode jdk_2529_method_6_code 50 = .ok (.aload_n 0, 1) := by decide +kernel
theorem d5_51 : decode jdk_2529_method_6_code 51 = .ok (.iload_n 3, 1) := by decide +kernel
theorem d5_52 : decode jdk_2529_method_6_code 52 = .ok (.iaload, 1) := by decide +kernel
theorem d5_53 : decode jdk_2529_method_6_code 53 = .ok (.iastore, 1) := by decide +kernel
theorem d5_54 : decode jdk_2529_method_6_code 54 = .ok (.goto (-24), 3) := by decide +kernel
theorem d5_57 : decode jdk_2529_method_6_code 57 = .ok (.aload_n 0, 1) := by decide +kernel
theorem d5_58 : decode jdk_2529_method_6_code 58 = .ok (.iload_n 3, 1) := by decide +kernel
theorem d5_59 : decode jdk_2529_method_6_code 59 = .ok (.iconst 1, 1) := by decide +kernel
theorem d5_60 : decode jdk_2529_method_6_code 60 = .ok (.iadd, 1) := by decide +kernel
theorem d5_61 : decode jdk_2529_method_6_code 61 = .ok (.iload 5, 2) := by decide +kernel
theorem d5_63 : decode jdk_2529_method_6_code 63 = .ok (.iastore, 1) := by decide +kernel
theorem d5_64 : decode jdk_2529_method_6_code 64 = .ok (.goto (-61), 3) := by decide +kernel
theorem d5_67 : decode jdk_2529_method_6_code 67 = .ok (.return_, 1) := by decide +kernel
theorem d6_0 : decode jdk_65_method_123_code 0 = .ok (.iload_n 1, 1) := by decide +kernel
theorem d6_1 : decode jdk_65_method_123_code 1 = .ok (.aload_n 0, 1) := by decide +kernel
theorem d6_2 : decode jdk_65_method_123_code 2 = .ok (.arraylength, 1) := by decide +kernel
theorem d6_3 : decode jdk_65_method_123_code 3 = .ok (.if_icmp .ne 11, 3) := by decide +kernel
theorem d6_6 : decode jdk_65_method_123_code 6 = .ok (.aload_n 0, 1) := by decide +kernel
theorem d6_7 : decode jdk_65_method_123_code 7 = .ok (.invokevirtual 316, 3) := by decide +kernel
theorem d6_10 : decode jdk_65_method_123_code 10 = .ok (.checkcast 317, 3) := by decide +kernel
theorem d6_13 : decode jdk_65_method_123_code 13 = .ok (.areturn, 1) := by decide +kernel
theorem d6_14 : decode jdk_65_method_123_code 14 = .ok (.iload_n 1, 1) := by decide +kernel
theorem d6_15 : decode jdk_65_method_123_code 15 = .ok (.newarray .int, 2) := by decide +kernel
theorem d6_17 : decode jdk_65_method_123_code 17 = .ok (.astore_n 2, 1) := by decide +kernel
theorem d6_18 : decode jdk_65_method_123_code 18 = .ok (.aload_n 0, 1) := by decide +kernel
theorem d6_19 : decode jdk_65_method_123_code 19 = .ok (.iconst 0, 1) := by decide +kernel
theorem d6_20 : decode jdk_65_method_123_code 20 = .ok (.aload_n 2, 1) := by decide +kernel
theorem d6_21 : decode jdk_65_method_123_code 21 = .ok (.iconst 0, 1) := by decide +kernel
theorem d6_22 : decode jdk_65_method_123_code 22 = .ok (.aload_n 0, 1) := by decide +kernel
theorem d6_23 : decode jdk_65_method_123_code 23 = .ok (.arraylength, 1) := by decide +kernel
theorem d6_24 : decode jdk_65_method_123_code 24 = .ok (.iload_n 1, 1) := by decide +kernel
theorem d6_25 : decode jdk_65_method_123_code 25 = .ok (.invokestatic 304, 3) := by decide +kernel
theorem d6_28 : decode jdk_65_method_123_code 28 = .ok (.invokestatic 150, 3) := by decide +kernel
theorem d6_31 : decode jdk_65_method_123_code 31 = .ok (.aload_n 2, 1) := by decide +kernel
theorem d6_32 : decode jdk_65_method_123_code 32 = .ok (.areturn, 1) := by decide +kernel
theorem d7_0 : decode prog_3_method_1_code 0 = .ok (.aload_n 0, 1) := by decide +kernel
theorem d7_1 : decode prog_3_method_1_code 1 = .ok (.invokespecial 1, 3) := by decide +kernel
theorem d7_4 : decode prog_3_method_1_code 4 = .ok (.aload_n 0, 1) := by decide +kernel
theorem d7_5 : decode prog_3_method_1_code 5 = .ok (.aload_n 1, 1) := by decide +kernel
theorem d7_6 : decode prog_3_method_1_code 6 = .ok (.putfield 7, 3) := by decide +kernel
theorem d7_9 : decode prog_3_method_1_code 9 = .ok (.return_, 1) := by decide +kernel
theorem d9_0 : decode method_2_code 0 = .ok (.aload_n 0, 1) := by decide +kernel
theorem d9_1 : decode method_2_code 1 = .ok (.arraylength, 1) := by decide +kernel
theorem d9_2 : decode method_2_code 2 = .ok (.iload_n 1, 1) := by decide +kernel
theorem d9_3 : decode method_2_code 3 = .ok (.if_icmp .eq 5, 3) := by decide +kernel
theorem d9_8 : decode method_2_code 8 = .ok (.iload_n 1, 1) := by decide +kernel
theorem d9_9 : decode method_2_code 9 = .ok (.iconst 1, 1) := by decide +kernel
theorem d9_10 : decode method_2_code 10 = .ok (.if_icmp .lt 12, 3) := by decide +kernel
theorem d9_13 : decode method_2_code 13 = .ok (.aload_n 0, 1) := by decide +kernel
theorem d9_14 : decode method_2_code 14 = .ok (.iconst 0, 1) := by decide +kernel
theorem d9_15 : decode method_2_code 15 = .ok (.iaload, 1) := by decide +kernel
theorem d9_16 : decode method_2_code 16 = .ok (.iload_n 2, 1) := by decide +kernel
theorem d9_17 : decode method_2_code 17 = .ok (.if_icmp .eq 5, 3) := by decide +kernel
theorem d9_22 : decode method_2_code 22 = .ok (.iload_n 1, 1) := by decide +kernel
theorem d9_23 : decode method_2_code 23 = .ok (.iconst 2, 1) := by decide +kernel
theorem d9_24 : decode method_2_code 24 = .ok (.if_icmp .lt 12, 3) := by decide +kernel
theorem d9_27 : decode method_2_code 27 = .ok (.aload_n 0, 1) := by decide +kernel
theorem d9_28 : decode method_2_code 28 = .ok (.iconst 1, 1) := by decide +kernel
theorem d9_29 : decode method_2_code 29 = .ok (.iaload, 1) := by decide +kernel
theorem d9_30 : decode method_2_code 30 = .ok (.iload_n 3, 1) := by decide +kernel
theorem d9_31 : decode method_2_code 31 = .ok (.if_icmp .eq 5, 3) := by decide +kernel
theorem d9_36 : decode method_2_code 36 = .ok (.iload_n 1, 1) := by decide +kernel
theorem d9_37 : decode method_2_code 37 = .ok (.iconst 3, 1) := by decide +kernel
theorem d9_38 : decode method_2_code 38 = .ok (.if_icmp .lt 13, 3) := by decide +kernel
theorem d9_41 : decode method_2_code 41 = .ok (.aload_n 0, 1) := by decide +kernel
theorem d9_42 : decode method_2_code 42 = .ok (.iconst 2, 1) := by decide +kernel
theorem d9_43 : decode method_2_code 43 = .ok (.iaload, 1) := by decide +kernel
theorem d9_44 : decode method_2_code 44 = .ok (.iload 4, 2) := by decide +kernel
theorem d9_46 : decode method_2_code 46 = .ok (.if_icmp .eq 5, 3) := by decide +kernel
theorem d9_51 : decode method_2_code 51 = .ok (.iload_n 1, 1) := by decide +kernel
theorem d9_52 : decode method_2_code 52 = .ok (.iconst 4, 1) := by decide +kernel
theorem d9_53 : decode method_2_code 53 = .ok (.if_icmp .lt 13, 3) := by decide +kernel
theorem d9_56 : decode method_2_code 56 = .ok (.aload_n 0, 1) := by decide +kernel
theorem d9_57 : decode method_2_code 57 = .ok (.iconst 3, 1) := by decide +kernel
theorem d9_58 : decode method_2_code 58 = .ok (.iaload, 1) := by decide +kernel
theorem d9_59 : decode method_2_code 59 = .ok (.iload 5, 2) := by decide +kernel
theorem d9_61 : decode method_2_code 61 = .ok (.if_icmp .eq 5, 3) := by decide +kernel
theorem d9_66 : decode method_2_code 66 = .ok (.iconst 1, 1) := by decide +kernel
theorem d9_67 : decode method_2_code 67 = .ok (.ireturn, 1) := by decide +kernel
theorem d10_0 : decode prog_3_method_4_code 0 = .ok (.iconst 0, 1) := by decide +kernel
theorem d10_1 : decode prog_3_method_4_code 1 = .ok (.istore_n 2, 1) := by decide +kernel
theorem d10_2 : decode prog_3_method_4_code 2 = .ok (.iconst 0, 1) := by decide +kernel
theorem d10_3 : decode prog_3_method_4_code 3 = .ok (.istore_n 3, 1) := by decide +kernel
theorem d10_4 : decode prog_3_method_4_code 4 = .ok (.iconst 0, 1) := by decide +kernel
theorem d10_5 : decode prog_3_method_4_code 5 = .ok (.istore 4, 2) := by decide +kernel
theorem d10_7 : decode prog_3_method_4_code 7 = .ok (.iload 4, 2) := by decide +kernel
theorem d10_9 : decode prog_3_method_4_code 9 = .ok (.ifCond .ne 69, 3) := by decide +kernel
theorem d10_12 : decode prog_3_method_4_code 12 = .ok (.iload_n 2, 1) := by decide +kernel
theorem d10_13 : decode prog_3_method_4_code 13 = .ok (.aload_n 0, 1) := by decide +kernel
theorem d10_14 : decode prog_3_method_4_code 14 = .ok (.getfield 7, 3) := by decide +kernel
theorem d10_17 : decode prog_3_method_4_code 17 = .ok (.arraylength, 1) := by decide +kernel
theorem d10_18 : decode prog_3_method_4_code 18 = .ok (.if_icmp .ge 60, 3) := by decide +kernel
theorem d10_21 : decode prog_3_method_4_code 21 = .ok (.iload_n 3, 1) := by decide +kernel
theorem d10_22 : decode prog_3_method_4_code 22 = .ok (.aload_n 1, 1) := by decide +kernel
theorem d10_23 : decode prog_3_method_4_code 23 = .ok (.getfield 7, 3) := by decide +kernel
theorem d10_26 : decode prog_3_method_4_code 26 = .ok (.arraylength, 1) := by decide +kernel
theorem d10_27 : decode prog_3_method_4_code 27 = .ok (.if_icmp .ge 51, 3) := by decide +kernel
theorem d10_30 : decode prog_3_method_4_code 30 = .ok (.aload_n 0, 1) := by decide +kernel
theorem d10_31 : decode prog_3_method_4_code 31 = .ok (.getfield 7, 3) := by decide +kernel
theorem d10_34 : decode prog_3_method_4_code 34 = .ok (.iload_n 2, 1) := by decide +kernel
theorem d10_35 : decode prog_3_method_4_code 35 = .ok (.iaload, 1) := by decide +kernel
theorem d10_36 : decode prog_3_method_4_code 36 = .ok (.aload_n 1, 1) := by decide +kernel
theorem d10_37 : decode prog_3_method_4_code 37 = .ok (.getfield 7, 3) := by decide +kernel
theorem d10_40 : decode prog_3_method_4_code 40 = .ok (.iload_n 3, 1) := by decide +kernel
theorem d10_41 : decode prog_3_method_4_code 41 = .ok (.iaload, 1) := by decide +kernel
theorem d10_42 : decode prog_3_method_4_code 42 = .ok (.if_icmp .ne 9, 3) := by decide +kernel
theorem d10_45 : decode prog_3_method_4_code 45 = .ok (.iconst 1, 1) := by decide +kernel
theorem d10_46 : decode prog_3_method_4_code 46 = .ok (.istore 4, 2) := by decide +kernel
theorem d10_48 : decode prog_3_method_4_code 48 = .ok (.goto (-41), 3) := by decide +kernel
theorem d10_51 : decode prog_3_method_4_code 51 = .ok (.aload_n 0, 1) := by decide +kernel
theorem d10_52 : decode prog_3_method_4_code 52 = .ok (.getfield 7, 3) := by decide +kernel
theorem d10_55 : decode prog_3_method_4_code 55 = .ok (.iload_n 2, 1) := by decide +kernel
theorem d10_56 : decode prog_3_method_4_code 56 = .ok (.iaload, 1) := by decide +kernel
theorem d10_57 : decode prog_3_method_4_code 57 = .ok (.aload_n 1, 1) := by decide +kernel
theorem d10_58 : decode prog_3_method_4_code 58 = .ok (.getfield 7, 3) := by decide +kernel
theorem d10_61 : decode prog_3_method_4_code 61 = .ok (.iload_n 3, 1) := by decide +kernel
theorem d10_62 : decode prog_3_method_4_code 62 = .ok (.iaload, 1) := by decide +kernel
theorem d10_63 : decode prog_3_method_4_code 63 = .ok (.if_icmp .ge 9, 3) := by decide +kernel
theorem d10_66 : decode prog_3_method_4_code 66 = .ok (.iinc 2 1, 3) := by decide +kernel
theorem d10_69 : decode prog_3_method_4_code 69 = .ok (.goto (-62), 3) := by decide +kernel
theorem d10_72 : decode prog_3_method_4_code 72 = .ok (.iinc 3 1, 3) := by decide +kernel
theorem d10_75 : decode prog_3_method_4_code 75 = .ok (.goto (-68), 3) := by decide +kernel
theorem d10_78 : decode prog_3_method_4_code 78 = .ok (.iload 4, 2) := by decide +kernel
theorem d10_80 : decode prog_3_method_4_code 80 = .ok (.ireturn, 1) := by decide +kernel
theorem d11_0 : decode jdk_29_method_69_code 0 = .ok (.iload_n 0, 1) := by decide +kernel
theorem d11_1 : decode jdk_29_method_69_code 1 = .ok (.iload_n 1, 1) := by decide +kernel
theorem d11_2 : decode jdk_29_method_69_code 2 = .ok (.if_icmp .gt 7, 3) := by decide +kernel
theorem d11_9 : decode jdk_29_method_69_code 9 = .ok (.iload_n 1, 1) := by decide +kernel
theorem d11_10 : decode jdk_29_method_69_code 10 = .ok (.ireturn, 1) := by decide +kernel
theorem own_pd0 : parseMethodDescriptor "([III)V" = some ⟨[(.array .int), .int, .int], none⟩ := by decide +kernel
theorem own_pd1 : parseMethodDescriptor "(Ljava/util/DualPivotQuicksort$Sorter;[IIII)V" = some ⟨[(.object "java/util/DualPivotQuicksort$Sorter"), (.array .int), .int, .int, .int], none⟩ := by decide +kernel
theorem own_pd2 : parseMethodDescriptor "([IIII)V" = some ⟨[(.array .int), .int, .int, .int], none⟩ := by decide +kernel
theorem own_pd3 : parseMethodDescriptor "(II)I" = some ⟨[.int, .int], some .int⟩ := by decide +kernel
theorem own_pd4 : parseMethodDescriptor "([I)V" = some ⟨[(.array .int)], none⟩ := by decide +kernel
theorem own_pd5 : parseMethodDescriptor "([II)[I" = some ⟨[(.array .int), .int], some (.array .int)⟩ := by decide +kernel
theorem own_pd6 : parseMethodDescriptor "([I)Lcom/example/reja/reja/IdSet;" = some ⟨[(.array .int)], some (.object "com/example/reja/reja/IdSet")⟩ := by decide +kernel
theorem own_pd7 : parseMethodDescriptor "([IIIIII)Z" = some ⟨[(.array .int), .int, .int, .int, .int, .int], some .boolean⟩ := by decide +kernel
theorem own_pd8 : parseMethodDescriptor "(Lcom/example/reja/reja/IdSet;)Z" = some ⟨[(.object "com/example/reja/reja/IdSet")], some .boolean⟩ := by decide +kernel
set_option maxRecDepth 65536 in
set_option maxHeartbeats 40000000 in
theorem own_ins_0 (l : Launch) (Z : State) (a0 : Array Value) (hw : ∀ d ∈ tables_1, d.before a0 Z = true) (a : Addr) (h0 : Heap) (n0 : Nat) (hn : n0 ≤ h0.size) (na : n0 ≤ a) (V : Av Z h0 a .int []) :
    ConN l Z (⟨"java/util/DualPivotQuicksort", "insertionSort", "([III)V"⟩ : MethodName) jdk_2529_method_6_code 6 ({ frames := 0, cells := 0, slots := 0, locals := 0 } : Room) #[(.ref a), (.int (0 : Int32)), (.int (0 : Int32))] h0 n0 (fun h => Keep h0 h [a] ∧ Av Z h a .int [] ∧ ∀ y : Int32, (False) ↔ (False)) := by
  refine Con.of (plainFor_of_name (by first | (simp [plainName, overriddenIn]; done) | decide +kernel)) hn ?_
  intro p e s m below meth c T w X
  refine Gl.enter (ls := #[.val (.ref a), .val (.int (0 : Int32)), .val (.int (0 : Int32)), .unset, .unset, .unset]) (by first | (simp [entryFrame, mkF, argsToLocals, Value.category]; done) | rfl) ?_
  refine gIloadN X w d5_0 rfl (n := 1) rfl ?_
  refine gIstore X w d5_1 #[.val (.ref a), .val (.int (0 : Int32)), .val (.int (0 : Int32)), .unset, .val (.int (0 : Int32)), .unset] rfl (n := 3) rfl ?_
  refine gIinc X w d5_3 rfl (z := (1 : Int32)) (by decide) #[.val (.ref a), .val (.int (0 : Int32)), .val (.int (0 : Int32)), .unset, .val (.int (1 : Int32)), .unset] rfl (n := 6) rfl ?_
  refine gIload X w d5_6 rfl (n := 8) rfl ?_
  refine gIloadN X w d5_8 rfl (n := 9) rfl ?_
  refine gIcmp_ge X w d5_9 (n := 67) (n' := 12) (by decide) rfl rfl ?_ ?_
  · intro c9
    exact gRetV X w rfl d5_67 (by decide) (by decide) (⟨rfl, (Keep.refl _ [a]), V, fun y => Iff.rfl⟩)
  · intro c9
    exact absurd c9 (by decide)
set_option maxRecDepth 65536 in
set_option maxHeartbeats 40000000 in
theorem own_dp2_0 (l : Launch) (Z : State) (a0 : Array Value) (hw : ∀ d ∈ tables_1, d.before a0 Z = true) (a : Addr) (h0 : Heap) (n0 : Nat) (hn : n0 ≤ h0.size) (na : n0 ≤ a) (V : Av Z h0 a .int []) :
    ConN l Z (⟨"java/util/DualPivotQuicksort", "sort", "(Ljava/util/DualPivotQuicksort$Sorter;[IIII)V"⟩ : MethodName) jdk_2529_method_4_code 21 ({ frames := 1, cells := 0, slots := 0, locals := 17 } : Room) #[.null, (.ref a), (.int (0 : Int32)), (.int (0 : Int32)), (.int (0 : Int32))] h0 n0 (fun h => Keep h0 h [a] ∧ Av Z h a .int [] ∧ ∀ y : Int32, (False) ↔ (False)) := by
  refine Con.of (plainFor_of_name (by first | (simp [plainName, overriddenIn]; done) | decide +kernel)) hn ?_
  intro p e s m below meth c T w X
  refine Gl.enter (ls := #[.val .null, .val (.ref a), .val (.int (0 : Int32)), .val (.int (0 : Int32)), .val (.int (0 : Int32)), .unset, .unset, .unset, .unset, .unset, .unset, .unset, .unset, .unset, .unset, .unset, .unset, .unset, .unset, .unset, .unset]) (by first | (simp [entryFrame, mkF, argsToLocals, Value.category]; done) | rfl) ?_
  refine gIload X w d4_0 rfl (n := 2) rfl ?_
  refine gIconst X w d4_2 (z := (1 : Int32)) rfl (n := 3) rfl ?_
  refine gIsub X w d4_3 (z := (-1 : Int32)) (by decide) (n := 4) rfl ?_
  refine gIstore X w d4_4 #[.val .null, .val (.ref a), .val (.int (0 : Int32)), .val (.int (0 : Int32)), .val (.int (0 : Int32)), .val (.int (-1 : Int32)), .unset, .unset, .unset, .unset, .unset, .unset, .unset, .unset, .unset, .unset, .unset, .unset, .unset, .unset, .unset] rfl (n := 6) rfl ?_
  refine gIload X w d4_6 rfl (n := 8) rfl ?_
  refine gIloadN X w d4_8 rfl (n := 9) rfl ?_
  refine gIsub X w d4_9 (z := (0 : Int32)) (by decide) (n := 10) rfl ?_
  refine gIstore X w d4_10 #[.val .null, .val (.ref a), .val (.int (0 : Int32)), .val (.int (0 : Int32)), .val (.int (0 : Int32)), .val (.int (-1 : Int32)), .val (.int (0 : Int32)), .unset, .unset, .unset, .unset, .unset, .unset, .unset, .unset, .unset, .unset, .unset, .unset, .unset, .unset] rfl (n := 12) rfl ?_
  refine gIload X w d4_12 rfl (n := 14) rfl ?_
  refine gBipush X w d4_14 (z := (65 : Int32)) (by decide) (n := 16) rfl ?_
  refine gIloadN X w d4_16 rfl (n := 17) rfl ?_
  refine gIadd X w d4_17 (z := (65 : Int32)) (by decide) (n := 18) rfl ?_
  refine gIcmp_ge X w d4_18 (n := 46) (n' := 21) (by decide) rfl rfl ?_ ?_
  · intro c18
    exact absurd c18 (by decide)
  · intro c18
    refine gIloadN X w d4_21 rfl (n := 22) rfl ?_
    refine gIconst X w d4_22 (z := (1 : Int32)) rfl (n := 23) rfl ?_
    refine gIand X w d4_23 (z := (0 : Int32)) (by decide) (n := 24) rfl ?_
    refine gIf_le X w d4_24 (n := 46) (n' := 27) (by decide) rfl rfl ?_ ?_
    · intro c24
      refine gIload X w d4_46 rfl (n := 48) rfl ?_
      refine gBipush X w d4_48 (z := (44 : Int32)) (by decide) (n := 50) rfl ?_
      refine gIcmp_ge X w d4_50 (n := 61) (n' := 53) (by decide) rfl rfl ?_ ?_
      · intro c50
        exact absurd c50 (by decide)
      · intro c50
        refine gAloadN X w d4_53 rfl rfl (n := 54) rfl ?_
        refine gIloadN X w d4_54 rfl (n := 55) rfl ?_
        refine gIload X w d4_55 rfl (n := 57) rfl ?_
        refine gCallSn X w [(.ref a), (.int (0 : Int32)), (.int (0 : Int32))] [] (own_ins_0 l Z a0 hw a h0 n0 (Sd.le X) na V) (own_wd hw 25 rfl) (own_wd hw 26 rfl) (own_wd hw 20 rfl) (own_wd hw 27 rfl) (by decide) own_pd0 rfl rfl d4_57 rfl (W := 0) (Nat.le_of_eq rfl) (by decide) (by decide) (by decide) (by decide) (n := 60) rfl ?_
        rintro T h1 ⟨K1, V1, m1⟩ X
        exact gRetV X w rfl d4_60 (by decide) (by decide) (⟨rfl, K1, V1, m1⟩)
    · intro c24
      exact absurd c24 (by decide)
set_option maxRecDepth 65536 in
set_option maxHeartbeats 40000000 in
theorem own_dp1_0 (l : Launch) (Z : State) (a0 : Array Value) (hw : ∀ d ∈ tables_1, d.before a0 Z = true) (a : Addr) (h0 : Heap) (n0 : Nat) (hn : n0 ≤ h0.size) (na : n0 ≤ a) (V : Av Z h0 a .int []) :
    ConN l Z (⟨"java/util/DualPivotQuicksort", "sort", "([IIII)V"⟩ : MethodName) jdk_2529_method_3_code 7 ({ frames := 2, cells := 0, slots := 0, locals := 49 } : Room) #[(.ref a), (.int (0 : Int32)), (.int (0 : Int32)), (.int (0 : Int32))] h0 n0 (fun h => Keep h0 h [a] ∧ Av Z h a .int [] ∧ ∀ y : Int32, (False) ↔ (False)) := by
  refine Con.of (plainFor_of_name (by first | (simp [plainName, overriddenIn]; done) | decide +kernel)) hn ?_
  intro p e s m below meth c T w X
  refine Gl.enter (ls := #[.val (.ref a), .val (.int (0 : Int32)), .val (.int (0 : Int32)), .val (.int (0 : Int32)), .unset, .unset, .unset]) (by first | (simp [entryFrame, mkF, argsToLocals, Value.category]; done) | rfl) ?_
  refine gIloadN X w d3_0 rfl (n := 1) rfl ?_
  refine gIloadN X w d3_1 rfl (n := 2) rfl ?_
  refine gIsub X w d3_2 (z := (0 : Int32)) (by decide) (n := 3) rfl ?_
  refine gIstore X w d3_3 #[.val (.ref a), .val (.int (0 : Int32)), .val (.int (0 : Int32)), .val (.int (0 : Int32)), .val (.int (0 : Int32)), .unset, .unset] rfl (n := 5) rfl ?_
  refine gIloadN X w d3_5 rfl (n := 6) rfl ?_
  refine gIconst X w d3_6 (z := (1 : Int32)) rfl (n := 7) rfl ?_
  refine gIcmp_le X w d3_7 (n := 68) (n' := 10) (by decide) rfl rfl ?_ ?_
  · intro c7
    refine gNull X w d3_68 (n := 69) rfl ?_
    refine gAloadN X w d3_69 rfl rfl (n := 70) rfl ?_
    refine gIconst X w d3_70 (z := (0 : Int32)) rfl (n := 71) rfl ?_
    refine gIloadN X w d3_71 rfl (n := 72) rfl ?_
    refine gIloadN X w d3_72 rfl (n := 73) rfl ?_
    refine gCallSn X w [.null, (.ref a), (.int (0 : Int32)), (.int (0 : Int32)), (.int (0 : Int32))] [] (own_dp2_0 l Z a0 hw a h0 n0 (Sd.le X) na V) (own_wd hw 22 rfl) (own_wd hw 23 rfl) (own_wd hw 20 rfl) (own_wd hw 24 rfl) (by decide) own_pd1 rfl rfl d3_73 rfl (W := 0) (Nat.le_of_eq rfl) (by decide) (by decide) (by decide) (by decide) (n := 76) rfl ?_
    rintro T h1 ⟨K1, V1, m1⟩ X
    exact gRetV X w rfl d3_76 (by decide) (by decide) (⟨rfl, K1, V1, m1⟩)
  · intro c7
    exact absurd c7 (by decide)
set_option maxRecDepth 65536 in
set_option maxHeartbeats 40000000 in
theorem own_srt_0 (l : Launch) (Z : State) (a0 : Array Value) (hw : ∀ d ∈ tables_1, d.before a0 Z = true) (a : Addr) (h0 : Heap) (n0 : Nat) (hn : n0 ≤ h0.size) (na : n0 ≤ a) (V : Av Z h0 a .int []) :
    ConN l Z (⟨"java/util/Arrays", "sort", "([I)V"⟩ : MethodName) jdk_65_method_2_code 1 ({ frames := 3, cells := 0, slots := 0, locals := 67 } : Room) #[(.ref a)] h0 n0 (fun h => Keep h0 h [a] ∧ Av Z h a .int [] ∧ ∀ y : Int32, (False) ↔ (False)) := by
  refine Con.of (plainFor_of_name (by first | (simp [plainName, overriddenIn]; done) | decide +kernel)) hn ?_
  intro p e s m below meth c T w X
  refine Gl.enter (ls := #[.val (.ref a)]) (by first | (simp [entryFrame, mkF, argsToLocals, Value.category]; done) | rfl) ?_
  refine gAloadN X w d2_0 rfl rfl (n := 1) rfl ?_
  refine gIconst X w d2_1 (z := (0 : Int32)) rfl (n := 2) rfl ?_
  refine gIconst X w d2_2 (z := (0 : Int32)) rfl (n := 3) rfl ?_
  refine gAloadN X w d2_3 rfl rfl (n := 4) rfl ?_
  refine gAlen X w V (z := (0 : Int32)) rfl d2_4 (n := 5) rfl ?_
  refine gCallSn X w [(.ref a), (.int (0 : Int32)), (.int (0 : Int32)), (.int (0 : Int32))] [] (own_dp1_0 l Z a0 hw a h0 n0 (Sd.le X) na V) (own_wd hw 18 rfl) (own_wd hw 19 rfl) (own_wd hw 20 rfl) (own_wd hw 21 rfl) (by decide) own_pd2 rfl rfl d2_5 rfl (W := 0) (Nat.le_of_eq rfl) (by decide) (by decide) (by decide) (by decide) (n := 8) rfl ?_
  rintro T h1 ⟨K1, V1, m1⟩ X
  exact gRetV X w rfl d2_8 (by decide) (by decide) (⟨rfl, K1, V1, m1⟩)
set_option maxRecDepth 65536 in
set_option maxHeartbeats 40000000 in
theorem own_cpy_0_0 (l : Launch) (Z : State) (a0 : Array Value) (hw : ∀ d ∈ tables_1, d.before a0 Z = true) (a : Addr) (h0 : Heap) (n0 : Nat) (hn : n0 ≤ h0.size) (V : Av Z h0 a .int []) (E : Exa Z h0 a "[I") :
    ConV l Z (⟨"java/util/Arrays", "copyOf", "([II)[I"⟩ : MethodName) jdk_65_method_123_code 3 (some (.array .int)) ({ frames := 1, cells := 1, slots := 0, locals := 40 } : Room) #[(.ref a), (.int (0 : Int32))] h0 n0 (fun v h => Keep h0 h [] ∧ ∃ d : Addr, v = .ref d ∧ h0.size ≤ d ∧ Av Z h d .int []) := by
  refine Con.of (plainFor_of_name (by first | (simp [plainName, overriddenIn]; done) | decide +kernel)) hn ?_
  intro p e s m below meth c T w X
  refine Gl.enter (ls := #[.val (.ref a), .val (.int (0 : Int32)), .unset]) (by first | (simp [entryFrame, mkF, argsToLocals, Value.category]; done) | rfl) ?_
  refine gIloadN X w d6_0 rfl (n := 1) rfl ?_
  refine gAloadN X w d6_1 rfl rfl (n := 2) rfl ?_
  refine gAlen X w V (z := (0 : Int32)) rfl d6_2 (n := 3) rfl ?_
  refine gIcmp_ne X w d6_3 (n := 14) (n' := 6) (by decide) rfl rfl ?_ ?_
  · rintro ⟨c3, c3'⟩
    exact absurd c3 (by decide)
  · rintro ⟨c3, c3'⟩
    refine gAloadN X w d6_6 rfl rfl (n := 7) rfl ?_
    refine gClone X w V E (own_fitI (by intro v hv; cases hv)) (own_wd hw 33 rfl) (own_wd hw 6 rfl) (own_wd hw 10 rfl) (own_wd hw 8 rfl) (own_wd hw 9 rfl) (own_wd hw 11 rfl) d6_7 rfl (by decide) (W := 0) (Nat.le_of_eq rfl) (by decide) (cap := 0) (by show (0 : Nat) ≤ 0; decide) (by decide) (by decide) (n := 10) rfl ?_
    intro T hp7 ad7 ea7 na7 X E7 V7 A7
    have ne_a_ad7 : a ≠ ad7 := neOf V.lt (Nat.le_of_eq ea7.symm)
    have F_1 := V.ext E7
    have F_2 := E.ext E7
    refine gCast X w (own_wd hw 34 rfl) (Ins.self A7) d6_10 (n := 13) rfl ?_
    intro T X
    exact gRetA X w rfl rfl rfl d6_13 (by decide) (by decide) (⟨_, rfl, (Keep.refl _ []).ext E7, ad7, rfl, Nat.le_of_eq ea7.symm, V7⟩)
set_option maxRecDepth 65536 in
set_option maxHeartbeats 40000000 in
theorem own_ins_1 (l : Launch) (Z : State) (a0 : Array Value) (hw : ∀ d ∈ tables_1, d.before a0 Z = true) (a : Addr) (z0 : Int32) (h0 : Heap) (n0 : Nat) (hn : n0 ≤ h0.size) (na : n0 ≤ a) (V : Av Z h0 a .int [.int z0]) :
    ConN l Z (⟨"java/util/DualPivotQuicksort", "insertionSort", "([III)V"⟩ : MethodName) jdk_2529_method_6_code 6 ({ frames := 0, cells := 0, slots := 0, locals := 0 } : Room) #[(.ref a), (.int (0 : Int32)), (.int (1 : Int32))] h0 n0 (fun h => Keep h0 h [a] ∧ ∃ w0 : Int32, Av Z h a .int [.int w0] ∧ ∀ y : Int32, (y = w0) ↔ (y = z0)) := by
  refine Con.of (plainFor_of_name (by first | (simp [plainName, overriddenIn]; done) | decide +kernel)) hn ?_
  intro p e s m below meth c T w X
  refine Gl.enter (ls := #[.val (.ref a), .val (.int (0 : Int32)), .val (.int (1 : Int32)), .unset, .unset, .unset]) (by first | (simp [entryFrame, mkF, argsToLocals, Value.category]; done) | rfl) ?_
  refine gIloadN X w d5_0 rfl (n := 1) rfl ?_
  refine gIstore X w d5_1 #[.val (.ref a), .val (.int (0 : Int32)), .val (.int (1 : Int32)), .unset, .val (.int (0 : Int32)), .unset] rfl (n := 3) rfl ?_
  refine gIinc X w d5_3 rfl (z := (1 : Int32)) (by decide) #[.val (.ref a), .val (.int (0 : Int32)), .val (.int (1 : Int32)), .unset, .val (.int (1 : Int32)), .unset] rfl (n := 6) rfl ?_
  refine gIload X w d5_6 rfl (n := 8) rfl ?_
  refine gIloadN X w d5_8 rfl (n := 9) rfl ?_
  refine gIcmp_ge X w d5_9 (n := 67) (n' := 12) (by decide) rfl rfl ?_ ?_
  · intro c9
    exact gRetV X w rfl d5_67 (by decide) (by decide) (⟨rfl, (Keep.refl _ [a]), z0, V, fun y => Iff.rfl⟩)
  · intro c9
    exact absurd c9 (by decide)
set_option maxRecDepth 65536 in
set_option maxHeartbeats 40000000 in
theorem own_dp2_1 (l : Launch) (Z : State) (a0 : Array Value) (hw : ∀ d ∈ tables_1, d.before a0 Z = true) (a : Addr) (z0 : Int32) (h0 : Heap) (n0 : Nat) (hn : n0 ≤ h0.size) (na : n0 ≤ a) (V : Av Z h0 a .int [.int z0]) :
    ConN l Z (⟨"java/util/DualPivotQuicksort", "sort", "(Ljava/util/DualPivotQuicksort$Sorter;[IIII)V"⟩ : MethodName) jdk_2529_method_4_code 21 ({ frames := 1, cells := 0, slots := 0, locals := 17 } : Room) #[.null, (.ref a), (.int (0 : Int32)), (.int (0 : Int32)), (.int (1 : Int32))] h0 n0 (fun h => Keep h0 h [a] ∧ ∃ w0 : Int32, Av Z h a .int [.int w0] ∧ ∀ y : Int32, (y = w0) ↔ (y = z0)) := by
  refine Con.of (plainFor_of_name (by first | (simp [plainName, overriddenIn]; done) | decide +kernel)) hn ?_
  intro p e s m below meth c T w X
  refine Gl.enter (ls := #[.val .null, .val (.ref a), .val (.int (0 : Int32)), .val (.int (0 : Int32)), .val (.int (1 : Int32)), .unset, .unset, .unset, .unset, .unset, .unset, .unset, .unset, .unset, .unset, .unset, .unset, .unset, .unset, .unset, .unset]) (by first | (simp [entryFrame, mkF, argsToLocals, Value.category]; done) | rfl) ?_
  refine gIload X w d4_0 rfl (n := 2) rfl ?_
  refine gIconst X w d4_2 (z := (1 : Int32)) rfl (n := 3) rfl ?_
  refine gIsub X w d4_3 (z := (0 : Int32)) (by decide) (n := 4) rfl ?_
  refine gIstore X w d4_4 #[.val .null, .val (.ref a), .val (.int (0 : Int32)), .val (.int (0 : Int32)), .val (.int (1 : Int32)), .val (.int (0 : Int32)), .unset, .unset, .unset, .unset, .unset, .unset, .unset, .unset, .unset, .unset, .unset, .unset, .unset, .unset, .unset] rfl (n := 6) rfl ?_
  refine gIload X w d4_6 rfl (n := 8) rfl ?_
  refine gIloadN X w d4_8 rfl (n := 9) rfl ?_
  refine gIsub X w d4_9 (z := (1 : Int32)) (by decide) (n := 10) rfl ?_
  refine gIstore X w d4_10 #[.val .null, .val (.ref a), .val (.int (0 : Int32)), .val (.int (0 : Int32)), .val (.int (1 : Int32)), .val (.int (0 : Int32)), .val (.int (1 : Int32)), .unset, .unset, .unset, .unset, .unset, .unset, .unset, .unset, .unset, .unset, .unset, .unset, .unset, .unset] rfl (n := 12) rfl ?_
  refine gIload X w d4_12 rfl (n := 14) rfl ?_
  refine gBipush X w d4_14 (z := (65 : Int32)) (by decide) (n := 16) rfl ?_
  refine gIloadN X w d4_16 rfl (n := 17) rfl ?_
  refine gIadd X w d4_17 (z := (65 : Int32)) (by decide) (n := 18) rfl ?_
  refine gIcmp_ge X w d4_18 (n := 46) (n' := 21) (by decide) rfl rfl ?_ ?_
  · intro c18
    exact absurd c18 (by decide)
  · intro c18
    refine gIloadN X w d4_21 rfl (n := 22) rfl ?_
    refine gIconst X w d4_22 (z := (1 : Int32)) rfl (n := 23) rfl ?_
    refine gIand X w d4_23 (z := (0 : Int32)) (by decide) (n := 24) rfl ?_
    refine gIf_le X w d4_24 (n := 46) (n' := 27) (by decide) rfl rfl ?_ ?_
    · intro c24
      refine gIload X w d4_46 rfl (n := 48) rfl ?_
      refine gBipush X w d4_48 (z := (44 : Int32)) (by decide) (n := 50) rfl ?_
      refine gIcmp_ge X w d4_50 (n := 61) (n' := 53) (by decide) rfl rfl ?_ ?_
      · intro c50
        exact absurd c50 (by decide)
      · intro c50
        refine gAloadN X w d4_53 rfl rfl (n := 54) rfl ?_
        refine gIloadN X w d4_54 rfl (n := 55) rfl ?_
        refine gIload X w d4_55 rfl (n := 57) rfl ?_
        refine gCallSn X w [(.ref a), (.int (0 : Int32)), (.int (1 : Int32))] [] (own_ins_1 l Z a0 hw a z0 h0 n0 (Sd.le X) na V) (own_wd hw 25 rfl) (own_wd hw 26 rfl) (own_wd hw 20 rfl) (own_wd hw 27 rfl) (by decide) own_pd0 rfl rfl d4_57 rfl (W := 0) (Nat.le_of_eq rfl) (by decide) (by decide) (by decide) (by decide) (n := 60) rfl ?_
        rintro T h1 ⟨K1, w0, V1, m1⟩ X
        exact gRetV X w rfl d4_60 (by decide) (by decide) (⟨rfl, K1, w0, V1, m1⟩)
    · intro c24
      exact absurd c24 (by decide)
set_option maxRecDepth 65536 in
set_option maxHeartbeats 40000000 in
theorem own_dp1_1 (l : Launch) (Z : State) (a0 : Array Value) (hw : ∀ d ∈ tables_1, d.before a0 Z = true) (a : Addr) (z0 : Int32) (h0 : Heap) (n0 : Nat) (hn : n0 ≤ h0.size) (na : n0 ≤ a) (V : Av Z h0 a .int [.int z0]) :
    ConN l Z (⟨"java/util/DualPivotQuicksort", "sort", "([IIII)V"⟩ : MethodName) jdk_2529_method_3_code 7 ({ frames := 2, cells := 0, slots := 0, locals := 49 } : Room) #[(.ref a), (.int (0 : Int32)), (.int (0 : Int32)), (.int (1 : Int32))] h0 n0 (fun h => Keep h0 h [a] ∧ ∃ w0 : Int32, Av Z h a .int [.int w0] ∧ ∀ y : Int32, (y = w0) ↔ (y = z0)) := by
  refine Con.of (plainFor_of_name (by first | (simp [plainName, overriddenIn]; done) | decide +kernel)) hn ?_
  intro p e s m below meth c T w X
  refine Gl.enter (ls := #[.val (.ref a), .val (.int (0 : Int32)), .val (.int (0 : Int32)), .val (.int (1 : Int32)), .unset, .unset, .unset]) (by first | (simp [entryFrame, mkF, argsToLocals, Value.category]; done) | rfl) ?_
  refine gIloadN X w d3_0 rfl (n := 1) rfl ?_
  refine gIloadN X w d3_1 rfl (n := 2) rfl ?_
  refine gIsub X w d3_2 (z := (1 : Int32)) (by decide) (n := 3) rfl ?_
  refine gIstore X w d3_3 #[.val (.ref a), .val (.int (0 : Int32)), .val (.int (0 : Int32)), .val (.int (1 : Int32)), .val (.int (1 : Int32)), .unset, .unset] rfl (n := 5) rfl ?_
  refine gIloadN X w d3_5 rfl (n := 6) rfl ?_
  refine gIconst X w d3_6 (z := (1 : Int32)) rfl (n := 7) rfl ?_
  refine gIcmp_le X w d3_7 (n := 68) (n' := 10) (by decide) rfl rfl ?_ ?_
  · intro c7
    refine gNull X w d3_68 (n := 69) rfl ?_
    refine gAloadN X w d3_69 rfl rfl (n := 70) rfl ?_
    refine gIconst X w d3_70 (z := (0 : Int32)) rfl (n := 71) rfl ?_
    refine gIloadN X w d3_71 rfl (n := 72) rfl ?_
    refine gIloadN X w d3_72 rfl (n := 73) rfl ?_
    refine gCallSn X w [.null, (.ref a), (.int (0 : Int32)), (.int (0 : Int32)), (.int (1 : Int32))] [] (own_dp2_1 l Z a0 hw a z0 h0 n0 (Sd.le X) na V) (own_wd hw 22 rfl) (own_wd hw 23 rfl) (own_wd hw 20 rfl) (own_wd hw 24 rfl) (by decide) own_pd1 rfl rfl d3_73 rfl (W := 0) (Nat.le_of_eq rfl) (by decide) (by decide) (by decide) (by decide) (n := 76) rfl ?_
    rintro T h1 ⟨K1, w0, V1, m1⟩ X
    exact gRetV X w rfl d3_76 (by decide) (by decide) (⟨rfl, K1, w0, V1, m1⟩)
  · intro c7
    exact absurd c7 (by decide)
set_option maxRecDepth 65536 in
set_option maxHeartbeats 40000000 in
theorem own_srt_1 (l : Launch) (Z : State) (a0 : Array Value) (hw : ∀ d ∈ tables_1, d.before a0 Z = true) (a : Addr) (z0 : Int32) (h0 : Heap) (n0 : Nat) (hn : n0 ≤ h0.size) (na : n0 ≤ a) (V : Av Z h0 a .int [.int z0]) :
    ConN l Z (⟨"java/util/Arrays", "sort", "([I)V"⟩ : MethodName) jdk_65_method_2_code 1 ({ frames := 3, cells := 0, slots := 0, locals := 67 } : Room) #[(.ref a)] h0 n0 (fun h => Keep h0 h [a] ∧ ∃ w0 : Int32, Av Z h a .int [.int w0] ∧ ∀ y : Int32, (y = w0) ↔ (y = z0)) := by
  refine Con.of (plainFor_of_name (by first | (simp [plainName, overriddenIn]; done) | decide +kernel)) hn ?_
  intro p e s m below meth c T w X
  refine Gl.enter (ls := #[.val (.ref a)]) (by first | (simp [entryFrame, mkF, argsToLocals, Value.category]; done) | rfl) ?_
  refine gAloadN X w d2_0 rfl rfl (n := 1) rfl ?_
  refine gIconst X w d2_1 (z := (0 : Int32)) rfl (n := 2) rfl ?_
  refine gIconst X w d2_2 (z := (0 : Int32)) rfl (n := 3) rfl ?_
  refine gAloadN X w d2_3 rfl rfl (n := 4) rfl ?_
  refine gAlen X w V (z := (1 : Int32)) rfl d2_4 (n := 5) rfl ?_
  refine gCallSn X w [(.ref a), (.int (0 : Int32)), (.int (0 : Int32)), (.int (1 : Int32))] [] (own_dp1_1 l Z a0 hw a z0 h0 n0 (Sd.le X) na V) (own_wd hw 18 rfl) (own_wd hw 19 rfl) (own_wd hw 20 rfl) (own_wd hw 21 rfl) (by decide) own_pd2 rfl rfl d2_5 rfl (W := 0) (Nat.le_of_eq rfl) (by decide) (by decide) (by decide) (by decide) (n := 8) rfl ?_
  rintro T h1 ⟨K1, w0, V1, m1⟩ X
  exact gRetV X w rfl d2_8 (by decide) (by decide) (⟨rfl, K1, w0, V1, m1⟩)
set_option maxRecDepth 65536 in
set_option maxHeartbeats 40000000 in
theorem own_cpy_1_1 (l : Launch) (Z : State) (a0 : Array Value) (hw : ∀ d ∈ tables_1, d.before a0 Z = true) (a : Addr) (z0 : Int32) (h0 : Heap) (n0 : Nat) (hn : n0 ≤ h0.size) (V : Av Z h0 a .int [.int z0]) (E : Exa Z h0 a "[I") :
    ConV l Z (⟨"java/util/Arrays", "copyOf", "([II)[I"⟩ : MethodName) jdk_65_method_123_code 3 (some (.array .int)) ({ frames := 1, cells := 1, slots := 1, locals := 40 } : Room) #[(.ref a), (.int (1 : Int32))] h0 n0 (fun v h => Keep h0 h [] ∧ ∃ d : Addr, v = .ref d ∧ h0.size ≤ d ∧ Av Z h d .int [.int z0]) := by
  refine Con.of (plainFor_of_name (by first | (simp [plainName, overriddenIn]; done) | decide +kernel)) hn ?_
  intro p e s m below meth c T w X
  refine Gl.enter (ls := #[.val (.ref a), .val (.int (1 : Int32)), .unset]) (by first | (simp [entryFrame, mkF, argsToLocals, Value.category]; done) | rfl) ?_
  refine gIloadN X w d6_0 rfl (n := 1) rfl ?_
  refine gAloadN X w d6_1 rfl rfl (n := 2) rfl ?_
  refine gAlen X w V (z := (1 : Int32)) rfl d6_2 (n := 3) rfl ?_
  refine gIcmp_ne X w d6_3 (n := 14) (n' := 6) (by decide) rfl rfl ?_ ?_
  · rintro ⟨c3, c3'⟩
    exact absurd c3 (by decide)
  · rintro ⟨c3, c3'⟩
    refine gAloadN X w d6_6 rfl rfl (n := 7) rfl ?_
    refine gClone X w V E (own_fitI (by intro v hv; simp only [List.mem_cons, List.not_mem_nil, or_false] at hv; rcases hv with rfl <;> exact ⟨_, rfl⟩)) (own_wd hw 33 rfl) (own_wd hw 6 rfl) (own_wd hw 10 rfl) (own_wd hw 8 rfl) (own_wd hw 9 rfl) (own_wd hw 11 rfl) d6_7 rfl (by decide) (W := 0) (Nat.le_of_eq rfl) (by decide) (cap := 1) (by show (1 : Nat) ≤ 1; decide) (by decide) (by decide) (n := 10) rfl ?_
    intro T hp7 ad7 ea7 na7 X E7 V7 A7
    have ne_a_ad7 : a ≠ ad7 := neOf V.lt (Nat.le_of_eq ea7.symm)
    have F_1 := V.ext E7
    have F_2 := E.ext E7
    refine gCast X w (own_wd hw 34 rfl) (Ins.self A7) d6_10 (n := 13) rfl ?_
    intro T X
    exact gRetA X w rfl rfl rfl d6_13 (by decide) (by decide) (⟨_, rfl, (Keep.refl _ []).ext E7, ad7, rfl, Nat.le_of_eq ea7.symm, V7⟩)
set_option maxRecDepth 65536 in
set_option maxHeartbeats 40000000 in
theorem own_ins_2 (l : Launch) (Z : State) (a0 : Array Value) (hw : ∀ d ∈ tables_1, d.before a0 Z = true) (a : Addr) (z0 z1 : Int32) (h0 : Heap) (n0 : Nat) (hn : n0 ≤ h0.size) (na : n0 ≤ a) (V : Av Z h0 a .int [.int z0, .int z1]) :
    ConN l Z (⟨"java/util/DualPivotQuicksort", "insertionSort", "([III)V"⟩ : MethodName) jdk_2529_method_6_code 6 ({ frames := 0, cells := 0, slots := 0, locals := 0 } : Room) #[(.ref a), (.int (0 : Int32)), (.int (2 : Int32))] h0 n0 (fun h => Keep h0 h [a] ∧ ∃ w0 w1 : Int32, Av Z h a .int [.int w0, .int w1] ∧ w0.toInt ≤ w1.toInt ∧ ∀ y : Int32, (y = w0 ∨ y = w1) ↔ (y = z0 ∨ y = z1)) := by
  refine Con.of (plainFor_of_name (by first | (simp [plainName, overriddenIn]; done) | decide +kernel)) hn ?_
  intro p e s m below meth c T w X
  refine Gl.enter (ls := #[.val (.ref a), .val (.int (0 : Int32)), .val (.int (2 : Int32)), .unset, .unset, .unset]) (by first | (simp [entryFrame, mkF, argsToLocals, Value.category]; done) | rfl) ?_
  refine gIloadN X w d5_0 rfl (n := 1) rfl ?_
  refine gIstore X w d5_1 #[.val (.ref a), .val (.int (0 : Int32)), .val (.int (2 : Int32)), .unset, .val (.int (0 : Int32)), .unset] rfl (n := 3) rfl ?_
  refine gIinc X w d5_3 rfl (z := (1 : Int32)) (by decide) #[.val (.ref a), .val (.int (0 : Int32)), .val (.int (2 : Int32)), .unset, .val (.int (1 : Int32)), .unset] rfl (n := 6) rfl ?_
  refine gIload X w d5_6 rfl (n := 8) rfl ?_
  refine gIloadN X w d5_8 rfl (n := 9) rfl ?_
  refine gIcmp_ge X w d5_9 (n := 67) (n' := 12) (by decide) rfl rfl ?_ ?_
  · intro c9
    exact absurd c9 (by decide)
  · intro c9
    refine gAloadN X w d5_12 rfl rfl (n := 13) rfl ?_
    refine gIload X w d5_13 rfl (n := 15) rfl ?_
    refine gDup X w d5_15 rfl (n := 16) rfl ?_
    refine gIstoreN X w d5_16 #[.val (.ref a), .val (.int (0 : Int32)), .val (.int (2 : Int32)), .val (.int (1 : Int32)), .val (.int (1 : Int32)), .unset] rfl (n := 17) rfl ?_
    refine gIaload X w V (by decide) rfl d5_17 (n := 18) rfl ?_
    refine gIstore X w d5_18 #[.val (.ref a), .val (.int (0 : Int32)), .val (.int (2 : Int32)), .val (.int (1 : Int32)), .val (.int (1 : Int32)), .val (.int z1)] rfl (n := 20) rfl ?_
    refine gIload X w d5_20 rfl (n := 22) rfl ?_
    refine gAloadN X w d5_22 rfl rfl (n := 23) rfl ?_
    refine gIloadN X w d5_23 rfl (n := 24) rfl ?_
    refine gIconst X w d5_24 (z := (1 : Int32)) rfl (n := 25) rfl ?_
    refine gIsub X w d5_25 (z := (0 : Int32)) (by decide) (n := 26) rfl ?_
    refine gIaload X w V (by decide) rfl d5_26 (n := 27) rfl ?_
    refine gIcmp_ge X w d5_27 (n := 64) (n' := 30) (by decide) rfl rfl ?_ ?_
    · intro c27
      refine gGoto X w d5_64 (by decide) (n := 3) rfl ?_
      refine gIinc X w d5_3 rfl (z := (2 : Int32)) (by decide) #[.val (.ref a), .val (.int (0 : Int32)), .val (.int (2 : Int32)), .val (.int (1 : Int32)), .val (.int (2 : Int32)), .val (.int z1)] rfl (n := 6) rfl ?_
      refine gIload X w d5_6 rfl (n := 8) rfl ?_
      refine gIloadN X w d5_8 rfl (n := 9) rfl ?_
      refine gIcmp_ge X w d5_9 (n := 67) (n' := 12) (by decide) rfl rfl ?_ ?_
      · intro c9
        exact gRetV X w rfl d5_67 (by decide) (by decide) (⟨rfl, (Keep.refl _ [a]), z0, z1, V, by omega, fun y => by simp only [← Int32.toInt_inj] <;> omega⟩)
      · intro c9
        exact absurd c9 (by decide)
    · intro c27
      refine gIinc X w d5_30 rfl (z := (0 : Int32)) (by decide) #[.val (.ref a), .val (.int (0 : Int32)), .val (.int (2 : Int32)), .val (.int (0 : Int32)), .val (.int (1 : Int32)), .val (.int z1)] rfl (n := 33) rfl ?_
      refine gIloadN X w d5_33 rfl (n := 34) rfl ?_
      refine gIloadN X w d5_34 rfl (n := 35) rfl ?_
      refine gIcmp_lt X w d5_35 (n := 57) (n' := 38) (by decide) rfl rfl ?_ ?_
      · intro c35
        exact absurd c35 (by decide)
      · intro c35
        refine gIload X w d5_38 rfl (n := 40) rfl ?_
        refine gAloadN X w d5_40 rfl rfl (n := 41) rfl ?_
        refine gIloadN X w d5_41 rfl (n := 42) rfl ?_
        refine gIaload X w V (by decide) rfl d5_42 (n := 43) rfl ?_
        refine gIcmp_ge X w d5_43 (n := 57) (n' := 46) (by decide) rfl rfl ?_ ?_
        · intro c43
          refine gAloadN X w d5_57 rfl rfl (n := 58) rfl ?_
          refine gIloadN X w d5_58 rfl (n := 59) rfl ?_
          refine gIconst X w d5_59 (z := (1 : Int32)) rfl (n := 60) rfl ?_
          refine gIadd X w d5_60 (z := (1 : Int32)) (by decide) (n := 61) rfl ?_
          refine gIload X w d5_61 rfl (n := 63) rfl ?_
          refine gIastore X w (z := (.int z1)) V (by decide) (show (1 : Int) < ((2 : Nat) : Int) from by decide) na rfl (vs' := [(.int z0), (.int z1)]) rfl d5_63 (n := 64) rfl ?_
          intro T hp63 X W63 V63
          have Kc1 := (Keep.refl _ [a]).wr W63 (Or.inl (List.mem_singleton.mpr rfl))
          refine gGoto X w d5_64 (by decide) (n := 3) rfl ?_
          refine gIinc X w d5_3 rfl (z := (2 : Int32)) (by decide) #[.val (.ref a), .val (.int (0 : Int32)), .val (.int (2 : Int32)), .val (.int (0 : Int32)), .val (.int (2 : Int32)), .val (.int z1)] rfl (n := 6) rfl ?_
          refine gIload X w d5_6 rfl (n := 8) rfl ?_
          refine gIloadN X w d5_8 rfl (n := 9) rfl ?_
          refine gIcmp_ge X w d5_9 (n := 67) (n' := 12) (by decide) rfl rfl ?_ ?_
          · intro c9
            exact gRetV X w rfl d5_67 (by decide) (by decide) (⟨rfl, Kc1, z0, z1, V63, by omega, fun y => by simp only [← Int32.toInt_inj] <;> omega⟩)
          · intro c9
            exact absurd c9 (by decide)
        · intro c43
          refine gAloadN X w d5_46 rfl rfl (n := 47) rfl ?_
          refine gIloadN X w d5_47 rfl (n := 48) rfl ?_
          refine gIconst X w d5_48 (z := (1 : Int32)) rfl (n := 49) rfl ?_
          refine gIadd X w d5_49 (z := (1 : Int32)) (by decide) (n := 50) rfl ?_
          refine gAloadN X w d5_50 rfl rfl (n := 51) rfl ?_
          refine gIloadN X w d5_51 rfl (n := 52) rfl ?_
          refine gIaload X w V (by decide) rfl d5_52 (n := 53) rfl ?_
          refine gIastore X w (z := (.int z0)) V (by decide) (show (1 : Int) < ((2 : Nat) : Int) from by decide) na rfl (vs' := [(.int z0), (.int z0)]) rfl d5_53 (n := 54) rfl ?_
          intro T hp53 X W53 V53
          have Kc1 := (Keep.refl _ [a]).wr W53 (Or.inl (List.mem_singleton.mpr rfl))
          refine gGoto X w d5_54 (by decide) (n := 30) rfl ?_
          refine gIinc X w d5_30 rfl (z := (-1 : Int32)) (by decide) #[.val (.ref a), .val (.int (0 : Int32)), .val (.int (2 : Int32)), .val (.int (-1 : Int32)), .val (.int (1 : Int32)), .val (.int z1)] rfl (n := 33) rfl ?_
          refine gIloadN X w d5_33 rfl (n := 34) rfl ?_
          refine gIloadN X w d5_34 rfl (n := 35) rfl ?_
          refine gIcmp_lt X w d5_35 (n := 57) (n' := 38) (by decide) rfl rfl ?_ ?_
          · intro c35
            refine gAloadN X w d5_57 rfl rfl (n := 58) rfl ?_
            refine gIloadN X w d5_58 rfl (n := 59) rfl ?_
            refine gIconst X w d5_59 (z := (1 : Int32)) rfl (n := 60) rfl ?_
            refine gIadd X w d5_60 (z := (0 : Int32)) (by decide) (n := 61) rfl ?_
            refine gIload X w d5_61 rfl (n := 63) rfl ?_
            refine gIastore X w (z := (.int z1)) V53 (by decide) (show (0 : Int) < ((2 : Nat) : Int) from by decide) na rfl (vs' := [(.int z1), (.int z0)]) rfl d5_63 (n := 64) rfl ?_
            intro T hp63 X W63 V63
            have Kc2 := Kc1.wr W63 (Or.inl (List.mem_singleton.mpr rfl))
            refine gGoto X w d5_64 (by decide) (n := 3) rfl ?_
            refine gIinc X w d5_3 rfl (z := (2 : Int32)) (by decide) #[.val (.ref a), .val (.int (0 : Int32)), .val (.int (2 : Int32)), .val (.int (-1 : Int32)), .val (.int (2 : Int32)), .val (.int z1)] rfl (n := 6) rfl ?_
            refine gIload X w d5_6 rfl (n := 8) rfl ?_
            refine gIloadN X w d5_8 rfl (n := 9) rfl ?_
            refine gIcmp_ge X w d5_9 (n := 67) (n' := 12) (by decide) rfl rfl ?_ ?_
            · intro c9
              exact gRetV X w rfl d5_67 (by decide) (by decide) (⟨rfl, Kc2, z1, z0, V63, by omega, fun y => by simp only [← Int32.toInt_inj] <;> omega⟩)
            · intro c9
              exact absurd c9 (by decide)
          · intro c35
            exact absurd c35 (by decide)
set_option maxRecDepth 65536 in
set_option maxHeartbeats 40000000 in
theorem own_dp2_2 (l : Launch) (Z : State) (a0 : Array Value) (hw : ∀ d ∈ tables_1, d.before a0 Z = true) (a : Addr) (z0 z1 : Int32) (h0 : Heap) (n0 : Nat) (hn : n0 ≤ h0.size) (na : n0 ≤ a) (V : Av Z h0 a .int [.int z0, .int z1]) :
    ConN l Z (⟨"java/util/DualPivotQuicksort", "sort", "(Ljava/util/DualPivotQuicksort$Sorter;[IIII)V"⟩ : MethodName) jdk_2529_method_4_code 21 ({ frames := 1, cells := 0, slots := 0, locals := 17 } : Room) #[.null, (.ref a), (.int (0 : Int32)), (.int (0 : Int32)), (.int (2 : Int32))] h0 n0 (fun h => Keep h0 h [a] ∧ ∃ w0 w1 : Int32, Av Z h a .int [.int w0, .int w1] ∧ w0.toInt ≤ w1.toInt ∧ ∀ y : Int32, (y = w0 ∨ y = w1) ↔ (y = z0 ∨ y = z1)) := by
  refine Con.of (plainFor_of_name (by first | (simp [plainName, overriddenIn]; done) | decide +kernel)) hn ?_
  intro p e s m below meth c T w X
  refine Gl.enter (ls := #[.val .null, .val (.ref a), .val (.int (0 : Int32)), .val (.int (0 : Int32)), .val (.int (2 : Int32)), .unset, .unset, .unset, .unset, .unset, .unset, .unset, .unset, .unset, .unset, .unset, .unset, .unset, .unset, .unset, .unset]) (by first | (simp [entryFrame, mkF, argsToLocals, Value.category]; done) | rfl) ?_
  refine gIload X w d4_0 rfl (n := 2) rfl ?_
  refine gIconst X w d4_2 (z := (1 : Int32)) rfl (n := 3) rfl ?_
  refine gIsub X w d4_3 (z := (1 : Int32)) (by decide) (n := 4) rfl ?_
  refine gIstore X w d4_4 #[.val .null, .val (.ref a), .val (.int (0 : Int32)), .val (.int (0 : Int32)), .val (.int (2 : Int32)), .val (.int (1 : Int32)), .unset, .unset, .unset, .unset, .unset, .unset, .unset, .unset, .unset, .unset, .unset, .unset, .unset, .unset, .unset] rfl (n := 6) rfl ?_
  refine gIload X w d4_6 rfl (n := 8) rfl ?_
  refine gIloadN X w d4_8 rfl (n := 9) rfl ?_
  refine gIsub X w d4_9 (z := (2 : Int32)) (by decide) (n := 10) rfl ?_
  refine gIstore X w d4_10 #[.val .null, .val (.ref a), .val (.int (0 : Int32)), .val (.int (0 : Int32)), .val (.int (2 : Int32)), .val (.int (1 : Int32)), .val (.int (2 : Int32)), .unset, .unset, .unset, .unset, .unset, .unset, .unset, .unset, .unset, .unset, .unset, .unset, .unset, .unset] rfl (n := 12) rfl ?_
  refine gIload X w d4_12 rfl (n := 14) rfl ?_
  refine gBipush X w d4_14 (z := (65 : Int32)) (by decide) (n := 16) rfl ?_
  refine gIloadN X w d4_16 rfl (n := 17) rfl ?_
  refine gIadd X w d4_17 (z := (65 : Int32)) (by decide) (n := 18) rfl ?_
  refine gIcmp_ge X w d4_18 (n := 46) (n' := 21) (by decide) rfl rfl ?_ ?_
  · intro c18
    exact absurd c18 (by decide)
  · intro c18
    refine gIloadN X w d4_21 rfl (n := 22) rfl ?_
    refine gIconst X w d4_22 (z := (1 : Int32)) rfl (n := 23) rfl ?_
    refine gIand X w d4_23 (z := (0 : Int32)) (by decide) (n := 24) rfl ?_
    refine gIf_le X w d4_24 (n := 46) (n' := 27) (by decide) rfl rfl ?_ ?_
    · intro c24
      refine gIload X w d4_46 rfl (n := 48) rfl ?_
      refine gBipush X w d4_48 (z := (44 : Int32)) (by decide) (n := 50) rfl ?_
      refine gIcmp_ge X w d4_50 (n := 61) (n' := 53) (by decide) rfl rfl ?_ ?_
      · intro c50
        exact absurd c50 (by decide)
      · intro c50
        refine gAloadN X w d4_53 rfl rfl (n := 54) rfl ?_
        refine gIloadN X w d4_54 rfl (n := 55) rfl ?_
        refine gIload X w d4_55 rfl (n := 57) rfl ?_
        refine gCallSn X w [(.ref a), (.int (0 : Int32)), (.int (2 : Int32))] [] (own_ins_2 l Z a0 hw a z0 z1 h0 n0 (Sd.le X) na V) (own_wd hw 25 rfl) (own_wd hw 26 rfl) (own_wd hw 20 rfl) (own_wd hw 27 rfl) (by decide) own_pd0 rfl rfl d4_57 rfl (W := 0) (Nat.le_of_eq rfl) (by decide) (by decide) (by decide) (by decide) (n := 60) rfl ?_
        rintro T h1 ⟨K1, w0, w1, V1, s0, m1⟩ X
        exact gRetV X w rfl d4_60 (by decide) (by decide) (⟨rfl, K1, w0, w1, V1, s0, m1⟩)
    · intro c24
      exact absurd c24 (by decide)
set_option maxRecDepth 65536 in
set_option maxHeartbeats 40000000 in
theorem own_dp1_2 (l : Launch) (Z : State) (a0 : Array Value) (hw : ∀ d ∈ tables_1, d.before a0 Z = true) (a : Addr) (z0 z1 : Int32) (h0 : Heap) (n0 : Nat) (hn : n0 ≤ h0.size) (na : n0 ≤ a) (V : Av Z h0 a .int [.int z0, .int z1]) :
    ConN l Z (⟨"java/util/DualPivotQuicksort", "sort", "([IIII)V"⟩ : MethodName) jdk_2529_method_3_code 7 ({ frames := 2, cells := 0, slots := 0, locals := 49 } : Room) #[(.ref a), (.int (0 : Int32)), (.int (0 : Int32)), (.int (2 : Int32))] h0 n0 (fun h => Keep h0 h [a] ∧ ∃ w0 w1 : Int32, Av Z h a .int [.int w0, .int w1] ∧ w0.toInt ≤ w1.toInt ∧ ∀ y : Int32, (y = w0 ∨ y = w1) ↔ (y = z0 ∨ y = z1)) := by
  refine Con.of (plainFor_of_name (by first | (simp [plainName, overriddenIn]; done) | decide +kernel)) hn ?_
  intro p e s m below meth c T w X
  refine Gl.enter (ls := #[.val (.ref a), .val (.int (0 : Int32)), .val (.int (0 : Int32)), .val (.int (2 : Int32)), .unset, .unset, .unset]) (by first | (simp [entryFrame, mkF, argsToLocals, Value.category]; done) | rfl) ?_
  refine gIloadN X w d3_0 rfl (n := 1) rfl ?_
  refine gIloadN X w d3_1 rfl (n := 2) rfl ?_
  refine gIsub X w d3_2 (z := (2 : Int32)) (by decide) (n := 3) rfl ?_
  refine gIstore X w d3_3 #[.val (.ref a), .val (.int (0 : Int32)), .val (.int (0 : Int32)), .val (.int (2 : Int32)), .val (.int (2 : Int32)), .unset, .unset] rfl (n := 5) rfl ?_
  refine gIloadN X w d3_5 rfl (n := 6) rfl ?_
  refine gIconst X w d3_6 (z := (1 : Int32)) rfl (n := 7) rfl ?_
  refine gIcmp_le X w d3_7 (n := 68) (n' := 10) (by decide) rfl rfl ?_ ?_
  · intro c7
    refine gNull X w d3_68 (n := 69) rfl ?_
    refine gAloadN X w d3_69 rfl rfl (n := 70) rfl ?_
    refine gIconst X w d3_70 (z := (0 : Int32)) rfl (n := 71) rfl ?_
    refine gIloadN X w d3_71 rfl (n := 72) rfl ?_
    refine gIloadN X w d3_72 rfl (n := 73) rfl ?_
    refine gCallSn X w [.null, (.ref a), (.int (0 : Int32)), (.int (0 : Int32)), (.int (2 : Int32))] [] (own_dp2_2 l Z a0 hw a z0 z1 h0 n0 (Sd.le X) na V) (own_wd hw 22 rfl) (own_wd hw 23 rfl) (own_wd hw 20 rfl) (own_wd hw 24 rfl) (by decide) own_pd1 rfl rfl d3_73 rfl (W := 0) (Nat.le_of_eq rfl) (by decide) (by decide) (by decide) (by decide) (n := 76) rfl ?_
    rintro T h1 ⟨K1, w0, w1, V1, s0, m1⟩ X
    exact gRetV X w rfl d3_76 (by decide) (by decide) (⟨rfl, K1, w0, w1, V1, s0, m1⟩)
  · intro c7
    exact absurd c7 (by decide)
set_option maxRecDepth 65536 in
set_option maxHeartbeats 40000000 in
theorem own_srt_2 (l : Launch) (Z : State) (a0 : Array Value) (hw : ∀ d ∈ tables_1, d.before a0 Z = true) (a : Addr) (z0 z1 : Int32) (h0 : Heap) (n0 : Nat) (hn : n0 ≤ h0.size) (na : n0 ≤ a) (V : Av Z h0 a .int [.int z0, .int z1]) :
    ConN l Z (⟨"java/util/Arrays", "sort", "([I)V"⟩ : MethodName) jdk_65_method_2_code 1 ({ frames := 3, cells := 0, slots := 0, locals := 67 } : Room) #[(.ref a)] h0 n0 (fun h => Keep h0 h [a] ∧ ∃ w0 w1 : Int32, Av Z h a .int [.int w0, .int w1] ∧ w0.toInt ≤ w1.toInt ∧ ∀ y : Int32, (y = w0 ∨ y = w1) ↔ (y = z0 ∨ y = z1)) := by
  refine Con.of (plainFor_of_name (by first | (simp [plainName, overriddenIn]; done) | decide +kernel)) hn ?_
  intro p e s m below meth c T w X
  refine Gl.enter (ls := #[.val (.ref a)]) (by first | (simp [entryFrame, mkF, argsToLocals, Value.category]; done) | rfl) ?_
  refine gAloadN X w d2_0 rfl rfl (n := 1) rfl ?_
  refine gIconst X w d2_1 (z := (0 : Int32)) rfl (n := 2) rfl ?_
  refine gIconst X w d2_2 (z := (0 : Int32)) rfl (n := 3) rfl ?_
  refine gAloadN X w d2_3 rfl rfl (n := 4) rfl ?_
  refine gAlen X w V (z := (2 : Int32)) rfl d2_4 (n := 5) rfl ?_
  refine gCallSn X w [(.ref a), (.int (0 : Int32)), (.int (0 : Int32)), (.int (2 : Int32))] [] (own_dp1_2 l Z a0 hw a z0 z1 h0 n0 (Sd.le X) na V) (own_wd hw 18 rfl) (own_wd hw 19 rfl) (own_wd hw 20 rfl) (own_wd hw 21 rfl) (by decide) own_pd2 rfl rfl d2_5 rfl (W := 0) (Nat.le_of_eq rfl) (by decide) (by decide) (by decide) (by decide) (n := 8) rfl ?_
  rintro T h1 ⟨K1, w0, w1, V1, s0, m1⟩ X
  exact gRetV X w rfl d2_8 (by decide) (by decide) (⟨rfl, K1, w0, w1, V1, s0, m1⟩)
set_option maxRecDepth 65536 in
set_option maxHeartbeats 40000000 in
theorem own_min_2_1 (l : Launch) (Z : State) (a0 : Array Value) (hw : ∀ d ∈ tables_1, d.before a0 Z = true)  (h0 : Heap) (n0 : Nat) (hn : n0 ≤ h0.size)  :
    ConV l Z (⟨"java/lang/Math", "min", "(II)I"⟩ : MethodName) jdk_29_method_69_code 2 (some .int) ({ frames := 0, cells := 0, slots := 0, locals := 0 } : Room) #[(.int (2 : Int32)), (.int (1 : Int32))] h0 n0 (fun v h => h0 = h ∧ v = .int (1 : Int32)) := by
  refine Con.of (Jvm.Free.JP.mathPlain rfl (by decide +kernel)) hn ?_
  intro p e s m below meth c T w X
  refine Gl.enter (ls := #[.val (.int (2 : Int32)), .val (.int (1 : Int32))]) (by first | (simp [entryFrame, mkF, argsToLocals, Value.category]; done) | rfl) ?_
  refine gIloadN X w d11_0 rfl (n := 1) rfl ?_
  refine gIloadN X w d11_1 rfl (n := 2) rfl ?_
  refine gIcmp_gt X w d11_2 (n := 9) (n' := 5) (by decide) rfl rfl ?_ ?_
  · intro c2
    refine gIloadN X w d11_9 rfl (n := 10) rfl ?_
    exact gRetI X w rfl d11_10 (by decide) (by decide) (⟨_, rfl, rfl, rfl⟩)
  · intro c2
    exact absurd c2 (by decide)
set_option maxRecDepth 65536 in
set_option maxHeartbeats 40000000 in
theorem own_cpy_2_1 (l : Launch) (Z : State) (a0 : Array Value) (hw : ∀ d ∈ tables_1, d.before a0 Z = true) (a : Addr) (z0 z1 : Int32) (h0 : Heap) (n0 : Nat) (hn : n0 ≤ h0.size) (V : Av Z h0 a .int [.int z0, .int z1]) (E : Exa Z h0 a "[I") :
    ConV l Z (⟨"java/util/Arrays", "copyOf", "([II)[I"⟩ : MethodName) jdk_65_method_123_code 3 (some (.array .int)) ({ frames := 1, cells := 1, slots := 1, locals := 40 } : Room) #[(.ref a), (.int (1 : Int32))] h0 n0 (fun v h => Keep h0 h [] ∧ ∃ d : Addr, v = .ref d ∧ h0.size ≤ d ∧ Av Z h d .int [.int z0]) := by
  refine Con.of (plainFor_of_name (by first | (simp [plainName, overriddenIn]; done) | decide +kernel)) hn ?_
  intro p e s m below meth c T w X
  refine Gl.enter (ls := #[.val (.ref a), .val (.int (1 : Int32)), .unset]) (by first | (simp [entryFrame, mkF, argsToLocals, Value.category]; done) | rfl) ?_
  refine gIloadN X w d6_0 rfl (n := 1) rfl ?_
  refine gAloadN X w d6_1 rfl rfl (n := 2) rfl ?_
  refine gAlen X w V (z := (2 : Int32)) rfl d6_2 (n := 3) rfl ?_
  refine gIcmp_ne X w d6_3 (n := 14) (n' := 6) (by decide) rfl rfl ?_ ?_
  · rintro ⟨c3, c3'⟩
    refine gIloadN X w d6_14 rfl (n := 15) rfl ?_
    refine gNewP X w (own_wd hw 0 rfl) d6_15 (by decide) (cap := 1) (by decide) (by decide) (by decide) (by decide) (vs := [(.int (0 : Int32))]) (ty := .int) rfl rfl (ad := "[I") (by decide) (n := 17) rfl ?_
    intro T hp15 ad15 ea15 na15 X E15 V15 A15
    have ne_a_ad15 : a ≠ ad15 := neOf V.lt (Nat.le_of_eq ea15.symm)
    have F_1 := V.ext E15
    have F_2 := E.ext E15
    refine gAstoreN X w d6_17 rfl #[.val (.ref a), .val (.int (1 : Int32)), .val (.ref ad15)] rfl (n := 18) rfl ?_
    refine gAloadN X w d6_18 rfl rfl (n := 19) rfl ?_
    refine gIconst X w d6_19 (z := (0 : Int32)) rfl (n := 20) rfl ?_
    refine gAloadN X w d6_20 rfl rfl (n := 21) rfl ?_
    refine gIconst X w d6_21 (z := (0 : Int32)) rfl (n := 22) rfl ?_
    refine gAloadN X w d6_22 rfl rfl (n := 23) rfl ?_
    refine gAlen X w F_1 (z := (2 : Int32)) rfl d6_23 (n := 24) rfl ?_
    refine gIloadN X w d6_24 rfl (n := 25) rfl ?_
    refine gCallSv X w [(.int (2 : Int32)), (.int (1 : Int32))] [(.int (0 : Int32)), (.ref ad15), (.int (0 : Int32)), (.ref a)] (own_min_2_1 l Z a0 hw hp15 n0 (Sd.le X)) (own_wd hw 52 rfl) (own_wd hw 53 rfl) (own_wd hw 54 rfl) (own_wd hw 55 rfl) (by decide) own_pd3 rfl rfl d6_25 rfl (W := 4) (Nat.le_of_eq rfl) (by decide) (by decide) (by decide) (by decide) (n := 28) rfl ?_
    rintro T _ _ ⟨rfl, rfl⟩ X
    refine gAcopy X w (.int 0) F_1 V15 rfl (own_fitI (by intro v hv; simp only [List.mem_cons, List.not_mem_nil, or_false] at hv; rcases hv with rfl | rfl <;> exact ⟨_, rfl⟩)) (own_fitI (by intro v hv; simp only [List.mem_cons, List.not_mem_nil, or_false] at hv; rcases hv with rfl <;> exact ⟨_, rfl⟩)) (by show (2 : Nat) < 2 ^ 31; decide) (by show (1 : Nat) < 2 ^ 31; decide) (own_wd hw 56 rfl) (own_wd hw 59 rfl) (own_wd hw 57 rfl) (own_wd hw 58 rfl) (by decide) (by decide) (by decide) (by show (1 : Int) ≤ ((2 : Nat) : Int); decide) (by show (1 : Int) ≤ ((1 : Nat) : Int); decide) (vs' := [.int z0]) rfl na15 d6_28 rfl (by decide) (W := 0) (Nat.le_of_eq rfl) (by decide) (n := 31) rfl ?_
    intro T hp28 X K28 V28
    refine gAloadN X w d6_31 rfl rfl (n := 32) rfl ?_
    exact gRetA X w rfl rfl rfl d6_32 (by decide) (by decide) (⟨_, rfl, ((Keep.refl _ []).ext E15).trans K28 (allS (Or.inr (Nat.le_of_eq ea15.symm)) all0), ad15, rfl, Nat.le_of_eq ea15.symm, V28⟩)
  · rintro ⟨c3, c3'⟩
    exact absurd c3 (by decide)
set_option maxRecDepth 65536 in
set_option maxHeartbeats 40000000 in
theorem own_cpy_2_2 (l : Launch) (Z : State) (a0 : Array Value) (hw : ∀ d ∈ tables_1, d.before a0 Z = true) (a : Addr) (z0 z1 : Int32) (h0 : Heap) (n0 : Nat) (hn : n0 ≤ h0.size) (V : Av Z h0 a .int [.int z0, .int z1]) (E : Exa Z h0 a "[I") :
    ConV l Z (⟨"java/util/Arrays", "copyOf", "([II)[I"⟩ : MethodName) jdk_65_method_123_code 3 (some (.array .int)) ({ frames := 1, cells := 1, slots := 2, locals := 40 } : Room) #[(.ref a), (.int (2 : Int32))] h0 n0 (fun v h => Keep h0 h [] ∧ ∃ d : Addr, v = .ref d ∧ h0.size ≤ d ∧ Av Z h d .int [.int z0, .int z1]) := by
  refine Con.of (plainFor_of_name (by first | (simp [plainName, overriddenIn]; done) | decide +kernel)) hn ?_
  intro p e s m below meth c T w X
  refine Gl.enter (ls := #[.val (.ref a), .val (.int (2 : Int32)), .unset]) (by first | (simp [entryFrame, mkF, argsToLocals, Value.category]; done) | rfl) ?_
  refine gIloadN X w d6_0 rfl (n := 1) rfl ?_
  refine gAloadN X w d6_1 rfl rfl (n := 2) rfl ?_
  refine gAlen X w V (z := (2 : Int32)) rfl d6_2 (n := 3) rfl ?_
  refine gIcmp_ne X w d6_3 (n := 14) (n' := 6) (by decide) rfl rfl ?_ ?_
  · rintro ⟨c3, c3'⟩
    exact absurd c3 (by decide)
  · rintro ⟨c3, c3'⟩
    refine gAloadN X w d6_6 rfl rfl (n := 7) rfl ?_
    refine gClone X w V E (own_fitI (by intro v hv; simp only [List.mem_cons, List.not_mem_nil, or_false] at hv; rcases hv with rfl | rfl <;> exact ⟨_, rfl⟩)) (own_wd hw 33 rfl) (own_wd hw 6 rfl) (own_wd hw 10 rfl) (own_wd hw 8 rfl) (own_wd hw 9 rfl) (own_wd hw 11 rfl) d6_7 rfl (by decide) (W := 0) (Nat.le_of_eq rfl) (by decide) (cap := 2) (by show (2 : Nat) ≤ 2; decide) (by decide) (by decide) (n := 10) rfl ?_
    intro T hp7 ad7 ea7 na7 X E7 V7 A7
    have ne_a_ad7 : a ≠ ad7 := neOf V.lt (Nat.le_of_eq ea7.symm)
    have F_1 := V.ext E7
    have F_2 := E.ext E7
    refine gCast X w (own_wd hw 34 rfl) (Ins.self A7) d6_10 (n := 13) rfl ?_
    intro T X
    exact gRetA X w rfl rfl rfl d6_13 (by decide) (by decide) (⟨_, rfl, (Keep.refl _ []).ext E7, ad7, rfl, Nat.le_of_eq ea7.symm, V7⟩)
set_option maxRecDepth 65536 in
set_option maxHeartbeats 40000000 in
theorem own_ins_3 (l : Launch) (Z : State) (a0 : Array Value) (hw : ∀ d ∈ tables_1, d.before a0 Z = true) (a : Addr) (z0 z1 z2 : Int32) (h0 : Heap) (n0 : Nat) (hn : n0 ≤ h0.size) (na : n0 ≤ a) (V : Av Z h0 a .int [.int z0, .int z1, .int z2]) :
    ConN l Z (⟨"java/util/DualPivotQuicksort", "insertionSort", "([III)V"⟩ : MethodName) jdk_2529_method_6_code 6 ({ frames := 0, cells := 0, slots := 0, locals := 0 } : Room) #[(.ref a), (.int (0 : Int32)), (.int (3 : Int32))] h0 n0 (fun h => Keep h0 h [a] ∧ ∃ w0 w1 w2 : Int32, Av Z h a .int [.int w0, .int w1, .int w2] ∧ w0.toInt ≤ w1.toInt ∧ w1.toInt ≤ w2.toInt ∧ ∀ y : Int32, (y = w0 ∨ y = w1 ∨ y = w2) ↔ (y = z0 ∨ y = z1 ∨ y = z2)) := by
  refine Con.of (plainFor_of_name (by first | (simp [plainName, overriddenIn]; done) | decide +kernel)) hn ?_
  intro p e s m below meth c T w X
  refine Gl.enter (ls := #[.val (.ref a), .val (.int (0 : Int32)), .val (.int (3 : Int32)), .unset, .unset, .unset]) (by first | (simp [entryFrame, mkF, argsToLocals, Value.category]; done) | rfl) ?_
  refine gIloadN X w d5_0 rfl (n := 1) rfl ?_
  refine gIstore X w d5_1 #[.val (.ref a), .val (.int (0 : Int32)), .val (.int (3 : Int32)), .unset, .val (.int (0 : Int32)), .unset] rfl (n := 3) rfl ?_
  refine gIinc X w d5_3 rfl (z := (1 : Int32)) (by decide) #[.val (.ref a), .val (.int (0 : Int32)), .val (.int (3 : Int32)), .unset, .val (.int (1 : Int32)), .unset] rfl (n := 6) rfl ?_
  refine gIload X w d5_6 rfl (n := 8) rfl ?_
  refine gIloadN X w d5_8 rfl (n := 9) rfl ?_
  refine gIcmp_ge X w d5_9 (n := 67) (n' := 12) (by decide) rfl rfl ?_ ?_
  · intro c9
    exact absurd c9 (by decide)
  · intro c9
    refine gAloadN X w d5_12 rfl rfl (n := 13) rfl ?_
    refine gIload X w d5_13 rfl (n := 15) rfl ?_
    refine gDup X w d5_15 rfl (n := 16) rfl ?_
    refine gIstoreN X w d5_16 #[.val (.ref a), .val (.int (0 : Int32)), .val (.int (3 : Int32)), .val (.int (1 : Int32)), .val (.int (1 : Int32)), .unset] rfl (n := 17) rfl ?_
    refine gIaload X w V (by decide) rfl d5_17 (n := 18) rfl ?_
    refine gIstore X w d5_18 #[.val (.ref a), .val (.int (0 : Int32)), .val (.int (3 : Int32)), .val (.int (1 : Int32)), .val (.int (1 : Int32)), .val (.int z1)] rfl (n := 20) rfl ?_
    refine gIload X w d5_20 rfl (n := 22) rfl ?_
    refine gAloadN X w d5_22 rfl rfl (n := 23) rfl ?_
    refine gIloadN X w d5_23 rfl (n := 24) rfl ?_
    refine gIconst X w d5_24 (z := (1 : Int32)) rfl (n := 25) rfl ?_
    refine gIsub X w d5_25 (z := (0 : Int32)) (by decide) (n := 26) rfl ?_
    refine gIaload X w V (by decide) rfl d5_26 (n := 27) rfl ?_
    refine gIcmp_ge X w d5_27 (n := 64) (n' := 30) (by decide) rfl rfl ?_ ?_
    · intro c27
      refine gGoto X w d5_64 (by decide) (n := 3) rfl ?_
      refine gIinc X w d5_3 rfl (z := (2 : Int32)) (by decide) #[.val (.ref a), .val (.int (0 : Int32)), .val (.int (3 : Int32)), .val (.int (1 : Int32)), .val (.int (2 : Int32)), .val (.int z1)] rfl (n := 6) rfl ?_
      refine gIload X w d5_6 rfl (n := 8) rfl ?_
      refine gIloadN X w d5_8 rfl (n := 9) rfl ?_
      refine gIcmp_ge X w d5_9 (n := 67) (n' := 12) (by decide) rfl rfl ?_ ?_
      · intro c9
        exact absurd c9 (by decide)
      · intro c9
        refine gAloadN X w d5_12 rfl rfl (n := 13) rfl ?_
        refine gIload X w d5_13 rfl (n := 15) rfl ?_
        refine gDup X w d5_15 rfl (n := 16) rfl ?_
        refine gIstoreN X w d5_16 #[.val (.ref a), .val (.int (0 : Int32)), .val (.int (3 : Int32)), .val (.int (2 : Int32)), .val (.int (2 : Int32)), .val (.int z1)] rfl (n := 17) rfl ?_
        refine gIaload X w V (by decide) rfl d5_17 (n := 18) rfl ?_
        refine gIstore X w d5_18 #[.val (.ref a), .val (.int (0 : Int32)), .val (.int (3 : Int32)), .val (.int (2 : Int32)), .val (.int (2 : Int32)), .val (.int z2)] rfl (n := 20) rfl ?_
        refine gIload X w d5_20 rfl (n := 22) rfl ?_
        refine gAloadN X w d5_22 rfl rfl (n := 23) rfl ?_
        refine gIloadN X w d5_23 rfl (n := 24) rfl ?_
        refine gIconst X w d5_24 (z := (1 : Int32)) rfl (n := 25) rfl ?_
        refine gIsub X w d5_25 (z := (1 : Int32)) (by decide) (n := 26) rfl ?_
        refine gIaload X w V (by decide) rfl d5_26 (n := 27) rfl ?_
        refine gIcmp_ge X w d5_27 (n := 64) (n' := 30) (by decide) rfl rfl ?_ ?_
        · intro c27
          refine gGoto X w d5_64 (by decide) (n := 3) rfl ?_
          refine gIinc X w d5_3 rfl (z := (3 : Int32)) (by decide) #[.val (.ref a), .val (.int (0 : Int32)), .val (.int (3 : Int32)), .val (.int (2 : Int32)), .val (.int (3 : Int32)), .val (.int z2)] rfl (n := 6) rfl ?_
          refine gIload X w d5_6 rfl (n := 8) rfl ?_
          refine gIloadN X w d5_8 rfl (n := 9) rfl ?_
          refine gIcmp_ge X w d5_9 (n := 67) (n' := 12) (by decide) rfl rfl ?_ ?_
          · intro c9
            exact gRetV X w rfl d5_67 (by decide) (by decide) (⟨rfl, (Keep.refl _ [a]), z0, z1, z2, V, by omega, by omega, fun y => by simp only [← Int32.toInt_inj] <;> omega⟩)
          · intro c9
            exact absurd c9 (by decide)
        · intro c27
          refine gIinc X w d5_30 rfl (z := (1 : Int32)) (by decide) #[.val (.ref a), .val (.int (0 : Int32)), .val (.int (3 : Int32)), .val (.int (1 : Int32)), .val (.int (2 : Int32)), .val (.int z2)] rfl (n := 33) rfl ?_
          refine gIloadN X w d5_33 rfl (n := 34) rfl ?_
          refine gIloadN X w d5_34 rfl (n := 35) rfl ?_
          refine gIcmp_lt X w d5_35 (n := 57) (n' := 38) (by decide) rfl rfl ?_ ?_
          · intro c35
            exact absurd c35 (by decide)
          · intro c35
            refine gIload X w d5_38 rfl (n := 40) rfl ?_
            refine gAloadN X w d5_40 rfl rfl (n := 41) rfl ?_
            refine gIloadN X w d5_41 rfl (n := 42) rfl ?_
            refine gIaload X w V (by decide) rfl d5_42 (n := 43) rfl ?_
            refine gIcmp_ge X w d5_43 (n := 57) (n' := 46) (by decide) rfl rfl ?_ ?_
            · intro c43
              refine gAloadN X w d5_57 rfl rfl (n := 58) rfl ?_
              refine gIloadN X w d5_58 rfl (n := 59) rfl ?_
              refine gIconst X w d5_59 (z := (1 : Int32)) rfl (n := 60) rfl ?_
              refine gIadd X w d5_60 (z := (2 : Int32)) (by decide) (n := 61) rfl ?_
              refine gIload X w d5_61 rfl (n := 63) rfl ?_
              refine gIastore X w (z := (.int z2)) V (by decide) (show (2 : Int) < ((3 : Nat) : Int) from by decide) na rfl (vs' := [(.int z0), (.int z1), (.int z2)]) rfl d5_63 (n := 64) rfl ?_
              intro T hp63 X W63 V63
              have Kc1 := (Keep.refl _ [a]).wr W63 (Or.inl (List.mem_singleton.mpr rfl))
              refine gGoto X w d5_64 (by decide) (n := 3) rfl ?_
              refine gIinc X w d5_3 rfl (z := (3 : Int32)) (by decide) #[.val (.ref a), .val (.int (0 : Int32)), .val (.int (3 : Int32)), .val (.int (1 : Int32)), .val (.int (3 : Int32)), .val (.int z2)] rfl (n := 6) rfl ?_
              refine gIload X w d5_6 rfl (n := 8) rfl ?_
              refine gIloadN X w d5_8 rfl (n := 9) rfl ?_
              refine gIcmp_ge X w d5_9 (n := 67) (n' := 12) (by decide) rfl rfl ?_ ?_
              · intro c9
                exact gRetV X w rfl d5_67 (by decide) (by decide) (⟨rfl, Kc1, z0, z1, z2, V63, by omega, by omega, fun y => by simp only [← Int32.toInt_inj] <;> omega⟩)
              · intro c9
                exact absurd c9 (by decide)
            · intro c43
              refine gAloadN X w d5_46 rfl rfl (n := 47) rfl ?_
              refine gIloadN X w d5_47 rfl (n := 48) rfl ?_
              refine gIconst X w d5_48 (z := (1 : Int32)) rfl (n := 49) rfl ?_
              refine gIadd X w d5_49 (z := (2 : Int32)) (by decide) (n := 50) rfl ?_
              refine gAloadN X w d5_50 rfl rfl (n := 51) rfl ?_
              refine gIloadN X w d5_51 rfl (n := 52) rfl ?_
              refine gIaload X w V (by decide) rfl d5_52 (n := 53) rfl ?_
              refine gIastore X w (z := (.int z1)) V (by decide) (show (2 : Int) < ((3 : Nat) : Int) from by decide) na rfl (vs' := [(.int z0), (.int z1), (.int z1)]) rfl d5_53 (n := 54) rfl ?_
              intro T hp53 X W53 V53
              have Kc1 := (Keep.refl _ [a]).wr W53 (Or.inl (List.mem_singleton.mpr rfl))
              refine gGoto X w d5_54 (by decide) (n := 30) rfl ?_
              refine gIinc X w d5_30 rfl (z := (0 : Int32)) (by decide) #[.val (.ref a), .val (.int (0 : Int32)), .val (.int (3 : Int32)), .val (.int (0 : Int32)), .val (.int (2 : Int32)), .val (.int z2)] rfl (n := 33) rfl ?_
              refine gIloadN X w d5_33 rfl (n := 34) rfl ?_
              refine gIloadN X w d5_34 rfl (n := 35) rfl ?_
              refine gIcmp_lt X w d5_35 (n := 57) (n' := 38) (by decide) rfl rfl ?_ ?_
              · intro c35
                exact absurd c35 (by decide)
              · intro c35
                refine gIload X w d5_38 rfl (n := 40) rfl ?_
                refine gAloadN X w d5_40 rfl rfl (n := 41) rfl ?_
                refine gIloadN X w d5_41 rfl (n := 42) rfl ?_
                refine gIaload X w V53 (by decide) rfl d5_42 (n := 43) rfl ?_
                refine gIcmp_ge X w d5_43 (n := 57) (n' := 46) (by decide) rfl rfl ?_ ?_
                · intro c43
                  refine gAloadN X w d5_57 rfl rfl (n := 58) rfl ?_
                  refine gIloadN X w d5_58 rfl (n := 59) rfl ?_
                  refine gIconst X w d5_59 (z := (1 : Int32)) rfl (n := 60) rfl ?_
                  refine gIadd X w d5_60 (z := (1 : Int32)) (by decide) (n := 61) rfl ?_
                  refine gIload X w d5_61 rfl (n := 63) rfl ?_
                  refine gIastore X w (z := (.int z2)) V53 (by decide) (show (1 : Int) < ((3 : Nat) : Int) from by decide) na rfl (vs' := [(.int z0), (.int z2), (.int z1)]) rfl d5_63 (n := 64) rfl ?_
                  intro T hp63 X W63 V63
                  have Kc2 := Kc1.wr W63 (Or.inl (List.mem_singleton.mpr rfl))
                  refine gGoto X w d5_64 (by decide) (n := 3) rfl ?_
                  refine gIinc X w d5_3 rfl (z := (3 : Int32)) (by decide) #[.val (.ref a), .val (.int (0 : Int32)), .val (.int (3 : Int32)), .val (.int (0 : Int32)), .val (.int (3 : Int32)), .val (.int z2)] rfl (n := 6) rfl ?_
                  refine gIload X w d5_6 rfl (n := 8) rfl ?_
                  refine gIloadN X w d5_8 rfl (n := 9) rfl ?_
                  refine gIcmp_ge X w d5_9 (n := 67) (n' := 12) (by decide) rfl rfl ?_ ?_
                  · intro c9
                    exact gRetV X w rfl d5_67 (by decide) (by decide) (⟨rfl, Kc2, z0, z2, z1, V63, by omega, by omega, fun y => by simp only [← Int32.toInt_inj] <;> omega⟩)
                  · intro c9
                    exact absurd c9 (by decide)
                · intro c43
                  refine gAloadN X w d5_46 rfl rfl (n := 47) rfl ?_
                  refine gIloadN X w d5_47 rfl (n := 48) rfl ?_
                  refine gIconst X w d5_48 (z := (1 : Int32)) rfl (n := 49) rfl ?_
                  refine gIadd X w d5_49 (z := (1 : Int32)) (by decide) (n := 50) rfl ?_
                  refine gAloadN X w d5_50 rfl rfl (n := 51) rfl ?_
                  refine gIloadN X w d5_51 rfl (n := 52) rfl ?_
                  refine gIaload X w V53 (by decide) rfl d5_52 (n := 53) rfl ?_
                  refine gIastore X w (z := (.int z0)) V53 (by decide) (show (1 : Int) < ((3 : Nat) : Int) from by decide) na rfl (vs' := [(.int z0), (.int z0), (.int z1)]) rfl d5_53 (n := 54) rfl ?_
                  intro T hp53 X W53 V53
                  have Kc2 := Kc1.wr W53 (Or.inl (List.mem_singleton.mpr rfl))
                  refine gGoto X w d5_54 (by decide) (n := 30) rfl ?_
                  refine gIinc X w d5_30 rfl (z := (-1 : Int32)) (by decide) #[.val (.ref a), .val (.int (0 : Int32)), .val (.int (3 : Int32)), .val (.int (-1 : Int32)), .val (.int (2 : Int32)), .val (.int z2)] rfl (n := 33) rfl ?_
                  refine gIloadN X w d5_33 rfl (n := 34) rfl ?_
                  refine gIloadN X w d5_34 rfl (n := 35) rfl ?_
                  refine gIcmp_lt X w d5_35 (n := 57) (n' := 38) (by decide) rfl rfl ?_ ?_
                  · intro c35
                    refine gAloadN X w d5_57 rfl rfl (n := 58) rfl ?_
                    refine gIloadN X w d5_58 rfl (n := 59) rfl ?_
                    refine gIconst X w d5_59 (z := (1 : Int32)) rfl (n := 60) rfl ?_
                    refine gIadd X w d5_60 (z := (0 : Int32)) (by decide) (n := 61) rfl ?_
                    refine gIload X w d5_61 rfl (n := 63) rfl ?_
                    refine gIastore X w (z := (.int z2)) V53 (by decide) (show (0 : Int) < ((3 : Nat) : Int) from by decide) na rfl (vs' := [(.int z2), (.int z0), (.int z1)]) rfl d5_63 (n := 64) rfl ?_
                    intro T hp63 X W63 V63
                    have Kc3 := Kc2.wr W63 (Or.inl (List.mem_singleton.mpr rfl))
                    refine gGoto X w d5_64 (by decide) (n := 3) rfl ?_
                    refine gIinc X w d5_3 rfl (z := (3 : Int32)) (by decide) #[.val (.ref a), .val (.int (0 : Int32)), .val (.int (3 : Int32)), .val (.int (-1 : Int32)), .val (.int (3 : Int32)), .val (.int z2)] rfl (n := 6) rfl ?_
                    refine gIload X w d5_6 rfl (n := 8) rfl ?_
                    refine gIloadN X w d5_8 rfl (n := 9) rfl ?_
                    refine gIcmp_ge X w d5_9 (n := 67) (n' := 12) (by decide) rfl rfl ?_ ?_
                    · intro c9
                      exact gRetV X w rfl d5_67 (by decide) (by decide) (⟨rfl, Kc3, z2, z0, z1, V63, by omega, by omega, fun y => by simp only [← Int32.toInt_inj] <;> omega⟩)
                    · intro c9
                      exact absurd c9 (by decide)
                  · intro c35
                    exact absurd c35 (by decide)
    · intro c27
      refine gIinc X w d5_30 rfl (z := (0 : Int32)) (by decide) #[.val (.ref a), .val (.int (0 : Int32)), .val (.int (3 : Int32)), .val (.int (0 : Int32)), .val (.int (1 : Int32)), .val (.int z1)] rfl (n := 33) rfl ?_
      refine gIloadN X w d5_33 rfl (n := 34) rfl ?_
      refine gIloadN X w d5_34 rfl (n := 35) rfl ?_
      refine gIcmp_lt X w d5_35 (n := 57) (n' := 38) (by decide) rfl rfl ?_ ?_
      · intro c35
        exact absurd c35 (by decide)
      · intro c35
        refine gIload X w d5_38 rfl (n := 40) rfl ?_
        refine gAloadN X w d5_40 rfl rfl (n := 41) rfl ?_
        refine gIloadN X w d5_41 rfl (n := 42) rfl ?_
        refine gIaload X w V (by decide) rfl d5_42 (n := 43) rfl ?_
        refine gIcmp_ge X w d5_43 (n := 57) (n' := 46) (by decide) rfl rfl ?_ ?_
        · intro c43
          refine gAloadN X w d5_57 rfl rfl (n := 58) rfl ?_
          refine gIloadN X w d5_58 rfl (n := 59) rfl ?_
          refine gIconst X w d5_59 (z := (1 : Int32)) rfl (n := 60) rfl ?_
          refine gIadd X w d5_60 (z := (1 : Int32)) (by decide) (n := 61) rfl ?_
          refine gIload X w d5_61 rfl (n := 63) rfl ?_
          refine gIastore X w (z := (.int z1)) V (by decide) (show (1 : Int) < ((3 : Nat) : Int) from by decide) na rfl (vs' := [(.int z0), (.int z1), (.int z2)]) rfl d5_63 (n := 64) rfl ?_
          intro T hp63 X W63 V63
          have Kc1 := (Keep.refl _ [a]).wr W63 (Or.inl (List.mem_singleton.mpr rfl))
          refine gGoto X w d5_64 (by decide) (n := 3) rfl ?_
          refine gIinc X w d5_3 rfl (z := (2 : Int32)) (by decide) #[.val (.ref a), .val (.int (0 : Int32)), .val (.int (3 : Int32)), .val (.int (0 : Int32)), .val (.int (2 : Int32)), .val (.int z1)] rfl (n := 6) rfl ?_
          refine gIload X w d5_6 rfl (n := 8) rfl ?_
          refine gIloadN X w d5_8 rfl (n := 9) rfl ?_
          refine gIcmp_ge X w d5_9 (n := 67) (n' := 12) (by decide) rfl rfl ?_ ?_
          · intro c9
            exact absurd c9 (by decide)
          · intro c9
            refine gAloadN X w d5_12 rfl rfl (n := 13) rfl ?_
            refine gIload X w d5_13 rfl (n := 15) rfl ?_
            refine gDup X w d5_15 rfl (n := 16) rfl ?_
            refine gIstoreN X w d5_16 #[.val (.ref a), .val (.int (0 : Int32)), .val (.int (3 : Int32)), .val (.int (2 : Int32)), .val (.int (2 : Int32)), .val (.int z1)] rfl (n := 17) rfl ?_
            refine gIaload X w V63 (by decide) rfl d5_17 (n := 18) rfl ?_
            refine gIstore X w d5_18 #[.val (.ref a), .val (.int (0 : Int32)), .val (.int (3 : Int32)), .val (.int (2 : Int32)), .val (.int (2 : Int32)), .val (.int z2)] rfl (n := 20) rfl ?_
            refine gIload X w d5_20 rfl (n := 22) rfl ?_
            refine gAloadN X w d5_22 rfl rfl (n := 23) rfl ?_
            refine gIloadN X w d5_23 rfl (n := 24) rfl ?_
            refine gIconst X w d5_24 (z := (1 : Int32)) rfl (n := 25) rfl ?_
            refine gIsub X w d5_25 (z := (1 : Int32)) (by decide) (n := 26) rfl ?_
            refine gIaload X w V63 (by decide) rfl d5_26 (n := 27) rfl ?_
            refine gIcmp_ge X w d5_27 (n := 64) (n' := 30) (by decide) rfl rfl ?_ ?_
            · intro c27
              refine gGoto X w d5_64 (by decide) (n := 3) rfl ?_
              refine gIinc X w d5_3 rfl (z := (3 : Int32)) (by decide) #[.val (.ref a), .val (.int (0 : Int32)), .val (.int (3 : Int32)), .val (.int (2 : Int32)), .val (.int (3 : Int32)), .val (.int z2)] rfl (n := 6) rfl ?_
              refine gIload X w d5_6 rfl (n := 8) rfl ?_
              refine gIloadN X w d5_8 rfl (n := 9) rfl ?_
              refine gIcmp_ge X w d5_9 (n := 67) (n' := 12) (by decide) rfl rfl ?_ ?_
              · intro c9
                exact gRetV X w rfl d5_67 (by decide) (by decide) (⟨rfl, Kc1, z0, z1, z2, V63, by omega, by omega, fun y => by simp only [← Int32.toInt_inj] <;> omega⟩)
              · intro c9
                exact absurd c9 (by decide)
            · intro c27
              refine gIinc X w d5_30 rfl (z := (1 : Int32)) (by decide) #[.val (.ref a), .val (.int (0 : Int32)), .val (.int (3 : Int32)), .val (.int (1 : Int32)), .val (.int (2 : Int32)), .val (.int z2)] rfl (n := 33) rfl ?_
              refine gIloadN X w d5_33 rfl (n := 34) rfl ?_
              refine gIloadN X w d5_34 rfl (n := 35) rfl ?_
              refine gIcmp_lt X w d5_35 (n := 57) (n' := 38) (by decide) rfl rfl ?_ ?_
              · intro c35
                exact absurd c35 (by decide)
              · intro c35
                refine gIload X w d5_38 rfl (n := 40) rfl ?_
                refine gAloadN X w d5_40 rfl rfl (n := 41) rfl ?_
                refine gIloadN X w d5_41 rfl (n := 42) rfl ?_
                refine gIaload X w V63 (by decide) rfl d5_42 (n := 43) rfl ?_
                refine gIcmp_ge X w d5_43 (n := 57) (n' := 46) (by decide) rfl rfl ?_ ?_
                · intro c43
                  refine gAloadN X w d5_57 rfl rfl (n := 58) rfl ?_
                  refine gIloadN X w d5_58 rfl (n := 59) rfl ?_
                  refine gIconst X w d5_59 (z := (1 : Int32)) rfl (n := 60) rfl ?_
                  refine gIadd X w d5_60 (z := (2 : Int32)) (by decide) (n := 61) rfl ?_
                  refine gIload X w d5_61 rfl (n := 63) rfl ?_
                  refine gIastore X w (z := (.int z2)) V63 (by decide) (show (2 : Int) < ((3 : Nat) : Int) from by decide) na rfl (vs' := [(.int z0), (.int z1), (.int z2)]) rfl d5_63 (n := 64) rfl ?_
                  intro T hp63 X W63 V63
                  have Kc2 := Kc1.wr W63 (Or.inl (List.mem_singleton.mpr rfl))
                  refine gGoto X w d5_64 (by decide) (n := 3) rfl ?_
                  refine gIinc X w d5_3 rfl (z := (3 : Int32)) (by decide) #[.val (.ref a), .val (.int (0 : Int32)), .val (.int (3 : Int32)), .val (.int (1 : Int32)), .val (.int (3 : Int32)), .val (.int z2)] rfl (n := 6) rfl ?_
                  refine gIload X w d5_6 rfl (n := 8) rfl ?_
                  refine gIloadN X w d5_8 rfl (n := 9) rfl ?_
                  refine gIcmp_ge X w d5_9 (n := 67) (n' := 12) (by decide) rfl rfl ?_ ?_
                  · intro c9
                    exact gRetV X w rfl d5_67 (by decide) (by decide) (⟨rfl, Kc2, z0, z1, z2, V63, by omega, by omega, fun y => by simp only [← Int32.toInt_inj] <;> omega⟩)
                  · intro c9
                    exact absurd c9 (by decide)
                · intro c43
                  refine gAloadN X w d5_46 rfl rfl (n := 47) rfl ?_
                  refine gIloadN X w d5_47 rfl (n := 48) rfl ?_
                  refine gIconst X w d5_48 (z := (1 : Int32)) rfl (n := 49) rfl ?_
                  refine gIadd X w d5_49 (z := (2 : Int32)) (by decide) (n := 50) rfl ?_
                  refine gAloadN X w d5_50 rfl rfl (n := 51) rfl ?_
                  refine gIloadN X w d5_51 rfl (n := 52) rfl ?_
                  refine gIaload X w V63 (by decide) rfl d5_52 (n := 53) rfl ?_
                  refine gIastore X w (z := (.int z1)) V63 (by decide) (show (2 : Int) < ((3 : Nat) : Int) from by decide) na rfl (vs' := [(.int z0), (.int z1), (.int z1)]) rfl d5_53 (n := 54) rfl ?_
                  intro T hp53 X W53 V53
                  have Kc2 := Kc1.wr W53 (Or.inl (List.mem_singleton.mpr rfl))
                  refine gGoto X w d5_54 (by decide) (n := 30) rfl ?_
                  refine gIinc X w d5_30 rfl (z := (0 : Int32)) (by decide) #[.val (.ref a), .val (.int (0 : Int32)), .val (.int (3 : Int32)), .val (.int (0 : Int32)), .val (.int (2 : Int32)), .val (.int z2)] rfl (n := 33) rfl ?_
                  refine gIloadN X w d5_33 rfl (n := 34) rfl ?_
                  refine gIloadN X w d5_34 rfl (n := 35) rfl ?_
                  refine gIcmp_lt X w d5_35 (n := 57) (n' := 38) (by decide) rfl rfl ?_ ?_
                  · intro c35
                    exact absurd c35 (by decide)
                  · intro c35
                    refine gIload X w d5_38 rfl (n := 40) rfl ?_
                    refine gAloadN X w d5_40 rfl rfl (n := 41) rfl ?_
                    refine gIloadN X w d5_41 rfl (n := 42) rfl ?_
                    refine gIaload X w V53 (by decide) rfl d5_42 (n := 43) rfl ?_
                    refine gIcmp_ge X w d5_43 (n := 57) (n' := 46) (by decide) rfl rfl ?_ ?_
                    · intro c43
                      refine gAloadN X w d5_57 rfl rfl (n := 58) rfl ?_
                      refine gIloadN X w d5_58 rfl (n := 59) rfl ?_
                      refine gIconst X w d5_59 (z := (1 : Int32)) rfl (n := 60) rfl ?_
                      refine gIadd X w d5_60 (z := (1 : Int32)) (by decide) (n := 61) rfl ?_
                      refine gIload X w d5_61 rfl (n := 63) rfl ?_
                      refine gIastore X w (z := (.int z2)) V53 (by decide) (show (1 : Int) < ((3 : Nat) : Int) from by decide) na rfl (vs' := [(.int z0), (.int z2), (.int z1)]) rfl d5_63 (n := 64) rfl ?_
                      intro T hp63 X W63 V63
                      have Kc3 := Kc2.wr W63 (Or.inl (List.mem_singleton.mpr rfl))
                      refine gGoto X w d5_64 (by decide) (n := 3) rfl ?_
                      refine gIinc X w d5_3 rfl (z := (3 : Int32)) (by decide) #[.val (.ref a), .val (.int (0 : Int32)), .val (.int (3 : Int32)), .val (.int (0 : Int32)), .val (.int (3 : Int32)), .val (.int z2)] rfl (n := 6) rfl ?_
                      refine gIload X w d5_6 rfl (n := 8) rfl ?_
                      refine gIloadN X w d5_8 rfl (n := 9) rfl ?_
                      refine gIcmp_ge X w d5_9 (n := 67) (n' := 12) (by decide) rfl rfl ?_ ?_
                      · intro c9
                        exact gRetV X w rfl d5_67 (by decide) (by decide) (⟨rfl, Kc3, z0, z2, z1, V63, by omega, by omega, fun y => by simp only [← Int32.toInt_inj] <;> omega⟩)
                      · intro c9
                        exact absurd c9 (by decide)
                    · intro c43
                      refine gAloadN X w d5_46 rfl rfl (n := 47) rfl ?_
                      refine gIloadN X w d5_47 rfl (n := 48) rfl ?_
                      refine gIconst X w d5_48 (z := (1 : Int32)) rfl (n := 49) rfl ?_
                      refine gIadd X w d5_49 (z := (1 : Int32)) (by decide) (n := 50) rfl ?_
                      refine gAloadN X w d5_50 rfl rfl (n := 51) rfl ?_
                      refine gIloadN X w d5_51 rfl (n := 52) rfl ?_
                      refine gIaload X w V53 (by decide) rfl d5_52 (n := 53) rfl ?_
                      refine gIastore X w (z := (.int z0)) V53 (by decide) (show (1 : Int) < ((3 : Nat) : Int) from by decide) na rfl (vs' := [(.int z0), (.int z0), (.int z1)]) rfl d5_53 (n := 54) rfl ?_
                      intro T hp53 X W53 V53
                      have Kc3 := Kc2.wr W53 (Or.inl (List.mem_singleton.mpr rfl))
                      refine gGoto X w d5_54 (by decide) (n := 30) rfl ?_
                      refine gIinc X w d5_30 rfl (z := (-1 : Int32)) (by decide) #[.val (.ref a), .val (.int (0 : Int32)), .val (.int (3 : Int32)), .val (.int (-1 : Int32)), .val (.int (2 : Int32)), .val (.int z2)] rfl (n := 33) rfl ?_
                      refine gIloadN X w d5_33 rfl (n := 34) rfl ?_
                      refine gIloadN X w d5_34 rfl (n := 35) rfl ?_
                      refine gIcmp_lt X w d5_35 (n := 57) (n' := 38) (by decide) rfl rfl ?_ ?_
                      · intro c35
                        refine gAloadN X w d5_57 rfl rfl (n := 58) rfl ?_
                        refine gIloadN X w d5_58 rfl (n := 59) rfl ?_
                        refine gIconst X w d5_59 (z := (1 : Int32)) rfl (n := 60) rfl ?_
                        refine gIadd X w d5_60 (z := (0 : Int32)) (by decide) (n := 61) rfl ?_
                        refine gIload X w d5_61 rfl (n := 63) rfl ?_
                        refine gIastore X w (z := (.int z2)) V53 (by decide) (show (0 : Int) < ((3 : Nat) : Int) from by decide) na rfl (vs' := [(.int z2), (.int z0), (.int z1)]) rfl d5_63 (n := 64) rfl ?_
                        intro T hp63 X W63 V63
                        have Kc4 := Kc3.wr W63 (Or.inl (List.mem_singleton.mpr rfl))
                        refine gGoto X w d5_64 (by decide) (n := 3) rfl ?_
                        refine gIinc X w d5_3 rfl (z := (3 : Int32)) (by decide) #[.val (.ref a), .val (.int (0 : Int32)), .val (.int (3 : Int32)), .val (.int (-1 : Int32)), .val (.int (3 : Int32)), .val (.int z2)] rfl (n := 6) rfl ?_
                        refine gIload X w d5_6 rfl (n := 8) rfl ?_
                        refine gIloadN X w d5_8 rfl (n := 9) rfl ?_
                        refine gIcmp_ge X w d5_9 (n := 67) (n' := 12) (by decide) rfl rfl ?_ ?_
                        · intro c9
                          exact gRetV X w rfl d5_67 (by decide) (by decide) (⟨rfl, Kc4, z2, z0, z1, V63, by omega, by omega, fun y => by simp only [← Int32.toInt_inj] <;> omega⟩)
                        · intro c9
                          exact absurd c9 (by decide)
                      · intro c35
                        exact absurd c35 (by decide)
        · intro c43
          refine gAloadN X w d5_46 rfl rfl (n := 47) rfl ?_
          refine gIloadN X w d5_47 rfl (n := 48) rfl ?_
          refine gIconst X w d5_48 (z := (1 : Int32)) rfl (n := 49) rfl ?_
          refine gIadd X w d5_49 (z := (1 : Int32)) (by decide) (n := 50) rfl ?_
          refine gAloadN X w d5_50 rfl rfl (n := 51) rfl ?_
          refine gIloadN X w d5_51 rfl (n := 52) rfl ?_
          refine gIaload X w V (by decide) rfl d5_52 (n := 53) rfl ?_
          refine gIastore X w (z := (.int z0)) V (by decide) (show (1 : Int) < ((3 : Nat) : Int) from by decide) na rfl (vs' := [(.int z0), (.int z0), (.int z2)]) rfl d5_53 (n := 54) rfl ?_
          intro T hp53 X W53 V53
          have Kc1 := (Keep.refl _ [a]).wr W53 (Or.inl (List.mem_singleton.mpr rfl))
          refine gGoto X w d5_54 (by decide) (n := 30) rfl ?_
          refine gIinc X w d5_30 rfl (z := (-1 : Int32)) (by decide) #[.val (.ref a), .val (.int (0 : Int32)), .val (.int (3 : Int32)), .val (.int (-1 : Int32)), .val (.int (1 : Int32)), .val (.int z1)] rfl (n := 33) rfl ?_
          refine gIloadN X w d5_33 rfl (n := 34) rfl ?_
          refine gIloadN X w d5_34 rfl (n := 35) rfl ?_
          refine gIcmp_lt X w d5_35 (n := 57) (n' := 38) (by decide) rfl rfl ?_ ?_
          · intro c35
            refine gAloadN X w d5_57 rfl rfl (n := 58) rfl ?_
            refine gIloadN X w d5_58 rfl (n := 59) rfl ?_
            refine gIconst X w d5_59 (z := (1 : Int32)) rfl (n := 60) rfl ?_
            refine gIadd X w d5_60 (z := (0 : Int32)) (by decide) (n := 61) rfl ?_
            refine gIload X w d5_61 rfl (n := 63) rfl ?_
            refine gIastore X w (z := (.int z1)) V53 (by decide) (show (0 : Int) < ((3 : Nat) : Int) from by decide) na rfl (vs' := [(.int z1), (.int z0), (.int z2)]) rfl d5_63 (n := 64) rfl ?_
            intro T hp63 X W63 V63
            have Kc2 := Kc1.wr W63 (Or.inl (List.mem_singleton.mpr rfl))
            refine gGoto X w d5_64 (by decide) (n := 3) rfl ?_
            refine gIinc X w d5_3 rfl (z := (2 : Int32)) (by decide) #[.val (.ref a), .val (.int (0 : Int32)), .val (.int (3 : Int32)), .val (.int (-1 : Int32)), .val (.int (2 : Int32)), .val (.int z1)] rfl (n := 6) rfl ?_
            refine gIload X w d5_6 rfl (n := 8) rfl ?_
            refine gIloadN X w d5_8 rfl (n := 9) rfl ?_
            refine gIcmp_ge X w d5_9 (n := 67) (n' := 12) (by decide) rfl rfl ?_ ?_
            · intro c9
              exact absurd c9 (by decide)
            · intro c9
              refine gAloadN X w d5_12 rfl rfl (n := 13) rfl ?_
              refine gIload X w d5_13 rfl (n := 15) rfl ?_
              refine gDup X w d5_15 rfl (n := 16) rfl ?_
              refine gIstoreN X w d5_16 #[.val (.ref a), .val (.int (0 : Int32)), .val (.int (3 : Int32)), .val (.int (2 : Int32)), .val (.int (2 : Int32)), .val (.int z1)] rfl (n := 17) rfl ?_
              refine gIaload X w V63 (by decide) rfl d5_17 (n := 18) rfl ?_
              refine gIstore X w d5_18 #[.val (.ref a), .val (.int (0 : Int32)), .val (.int (3 : Int32)), .val (.int (2 : Int32)), .val (.int (2 : Int32)), .val (.int z2)] rfl (n := 20) rfl ?_
              refine gIload X w d5_20 rfl (n := 22) rfl ?_
              refine gAloadN X w d5_22 rfl rfl (n := 23) rfl ?_
              refine gIloadN X w d5_23 rfl (n := 24) rfl ?_
              refine gIconst X w d5_24 (z := (1 : Int32)) rfl (n := 25) rfl ?_
              refine gIsub X w d5_25 (z := (1 : Int32)) (by decide) (n := 26) rfl ?_
              refine gIaload X w V63 (by decide) rfl d5_26 (n := 27) rfl ?_
              refine gIcmp_ge X w d5_27 (n := 64) (n' := 30) (by decide) rfl rfl ?_ ?_
              · intro c27
                refine gGoto X w d5_64 (by decide) (n := 3) rfl ?_
                refine gIinc X w d5_3 rfl (z := (3 : Int32)) (by decide) #[.val (.ref a), .val (.int (0 : Int32)), .val (.int (3 : Int32)), .val (.int (2 : Int32)), .val (.int (3 : Int32)), .val (.int z2)] rfl (n := 6) rfl ?_
                refine gIload X w d5_6 rfl (n := 8) rfl ?_
                refine gIloadN X w d5_8 rfl (n := 9) rfl ?_
                refine gIcmp_ge X w d5_9 (n := 67) (n' := 12) (by decide) rfl rfl ?_ ?_
                · intro c9
                  exact gRetV X w rfl d5_67 (by decide) (by decide) (⟨rfl, Kc2, z1, z0, z2, V63, by omega, by omega, fun y => by simp only [← Int32.toInt_inj] <;> omega⟩)
                · intro c9
                  exact absurd c9 (by decide)
              · intro c27
                refine gIinc X w d5_30 rfl (z := (1 : Int32)) (by decide) #[.val (.ref a), .val (.int (0 : Int32)), .val (.int (3 : Int32)), .val (.int (1 : Int32)), .val (.int (2 : Int32)), .val (.int z2)] rfl (n := 33) rfl ?_
                refine gIloadN X w d5_33 rfl (n := 34) rfl ?_
                refine gIloadN X w d5_34 rfl (n := 35) rfl ?_
                refine gIcmp_lt X w d5_35 (n := 57) (n' := 38) (by decide) rfl rfl ?_ ?_
                · intro c35
                  exact absurd c35 (by decide)
                · intro c35
                  refine gIload X w d5_38 rfl (n := 40) rfl ?_
                  refine gAloadN X w d5_40 rfl rfl (n := 41) rfl ?_
                  refine gIloadN X w d5_41 rfl (n := 42) rfl ?_
                  refine gIaload X w V63 (by decide) rfl d5_42 (n := 43) rfl ?_
                  refine gIcmp_ge X w d5_43 (n := 57) (n' := 46) (by decide) rfl rfl ?_ ?_
                  · intro c43
                    refine gAloadN X w d5_57 rfl rfl (n := 58) rfl ?_
                    refine gIloadN X w d5_58 rfl (n := 59) rfl ?_
                    refine gIconst X w d5_59 (z := (1 : Int32)) rfl (n := 60) rfl ?_
                    refine gIadd X w d5_60 (z := (2 : Int32)) (by decide) (n := 61) rfl ?_
                    refine gIload X w d5_61 rfl (n := 63) rfl ?_
                    refine gIastore X w (z := (.int z2)) V63 (by decide) (show (2 : Int) < ((3 : Nat) : Int) from by decide) na rfl (vs' := [(.int z1), (.int z0), (.int z2)]) rfl d5_63 (n := 64) rfl ?_
                    intro T hp63 X W63 V63
                    have Kc3 := Kc2.wr W63 (Or.inl (List.mem_singleton.mpr rfl))
                    refine gGoto X w d5_64 (by decide) (n := 3) rfl ?_
                    refine gIinc X w d5_3 rfl (z := (3 : Int32)) (by decide) #[.val (.ref a), .val (.int (0 : Int32)), .val (.int (3 : Int32)), .val (.int (1 : Int32)), .val (.int (3 : Int32)), .val (.int z2)] rfl (n := 6) rfl ?_
                    refine gIload X w d5_6 rfl (n := 8) rfl ?_
                    refine gIloadN X w d5_8 rfl (n := 9) rfl ?_
                    refine gIcmp_ge X w d5_9 (n := 67) (n' := 12) (by decide) rfl rfl ?_ ?_
                    · intro c9
                      exact gRetV X w rfl d5_67 (by decide) (by decide) (⟨rfl, Kc3, z1, z0, z2, V63, by omega, by omega, fun y => by simp only [← Int32.toInt_inj] <;> omega⟩)
                    · intro c9
                      exact absurd c9 (by decide)
                  · intro c43
                    refine gAloadN X w d5_46 rfl rfl (n := 47) rfl ?_
                    refine gIloadN X w d5_47 rfl (n := 48) rfl ?_
                    refine gIconst X w d5_48 (z := (1 : Int32)) rfl (n := 49) rfl ?_
                    refine gIadd X w d5_49 (z := (2 : Int32)) (by decide) (n := 50) rfl ?_
                    refine gAloadN X w d5_50 rfl rfl (n := 51) rfl ?_
                    refine gIloadN X w d5_51 rfl (n := 52) rfl ?_
                    refine gIaload X w V63 (by decide) rfl d5_52 (n := 53) rfl ?_
                    refine gIastore X w (z := (.int z0)) V63 (by decide) (show (2 : Int) < ((3 : Nat) : Int) from by decide) na rfl (vs' := [(.int z1), (.int z0), (.int z0)]) rfl d5_53 (n := 54) rfl ?_
                    intro T hp53 X W53 V53
                    have Kc3 := Kc2.wr W53 (Or.inl (List.mem_singleton.mpr rfl))
                    refine gGoto X w d5_54 (by decide) (n := 30) rfl ?_
                    refine gIinc X w d5_30 rfl (z := (0 : Int32)) (by decide) #[.val (.ref a), .val (.int (0 : Int32)), .val (.int (3 : Int32)), .val (.int (0 : Int32)), .val (.int (2 : Int32)), .val (.int z2)] rfl (n := 33) rfl ?_
                    refine gIloadN X w d5_33 rfl (n := 34) rfl ?_
                    refine gIloadN X w d5_34 rfl (n := 35) rfl ?_
                    refine gIcmp_lt X w d5_35 (n := 57) (n' := 38) (by decide) rfl rfl ?_ ?_
                    · intro c35
                      exact absurd c35 (by decide)
                    · intro c35
                      refine gIload X w d5_38 rfl (n := 40) rfl ?_
                      refine gAloadN X w d5_40 rfl rfl (n := 41) rfl ?_
                      refine gIloadN X w d5_41 rfl (n := 42) rfl ?_
                      refine gIaload X w V53 (by decide) rfl d5_42 (n := 43) rfl ?_
                      refine gIcmp_ge X w d5_43 (n := 57) (n' := 46) (by decide) rfl rfl ?_ ?_
                      · intro c43
                        refine gAloadN X w d5_57 rfl rfl (n := 58) rfl ?_
                        refine gIloadN X w d5_58 rfl (n := 59) rfl ?_
                        refine gIconst X w d5_59 (z := (1 : Int32)) rfl (n := 60) rfl ?_
                        refine gIadd X w d5_60 (z := (1 : Int32)) (by decide) (n := 61) rfl ?_
                        refine gIload X w d5_61 rfl (n := 63) rfl ?_
                        refine gIastore X w (z := (.int z2)) V53 (by decide) (show (1 : Int) < ((3 : Nat) : Int) from by decide) na rfl (vs' := [(.int z1), (.int z2), (.int z0)]) rfl d5_63 (n := 64) rfl ?_
                        intro T hp63 X W63 V63
                        have Kc4 := Kc3.wr W63 (Or.inl (List.mem_singleton.mpr rfl))
                        refine gGoto X w d5_64 (by decide) (n := 3) rfl ?_
                        refine gIinc X w d5_3 rfl (z := (3 : Int32)) (by decide) #[.val (.ref a), .val (.int (0 : Int32)), .val (.int (3 : Int32)), .val (.int (0 : Int32)), .val (.int (3 : Int32)), .val (.int z2)] rfl (n := 6) rfl ?_
                        refine gIload X w d5_6 rfl (n := 8) rfl ?_
                        refine gIloadN X w d5_8 rfl (n := 9) rfl ?_
                        refine gIcmp_ge X w d5_9 (n := 67) (n' := 12) (by decide) rfl rfl ?_ ?_
                        · intro c9
                          exact gRetV X w rfl d5_67 (by decide) (by decide) (⟨rfl, Kc4, z1, z2, z0, V63, by omega, by omega, fun y => by simp only [← Int32.toInt_inj] <;> omega⟩)
                        · intro c9
                          exact absurd c9 (by decide)
                      · intro c43
                        refine gAloadN X w d5_46 rfl rfl (n := 47) rfl ?_
                        refine gIloadN X w d5_47 rfl (n := 48) rfl ?_
                        refine gIconst X w d5_48 (z := (1 : Int32)) rfl (n := 49) rfl ?_
                        refine gIadd X w d5_49 (z := (1 : Int32)) (by decide) (n := 50) rfl ?_
                        refine gAloadN X w d5_50 rfl rfl (n := 51) rfl ?_
                        refine gIloadN X w d5_51 rfl (n := 52) rfl ?_
                        refine gIaload X w V53 (by decide) rfl d5_52 (n := 53) rfl ?_
                        refine gIastore X w (z := (.int z1)) V53 (by decide) (show (1 : Int) < ((3 : Nat) : Int) from by decide) na rfl (vs' := [(.int z1), (.int z1), (.int z0)]) rfl d5_53 (n := 54) rfl ?_
                        intro T hp53 X W53 V53
                        have Kc4 := Kc3.wr W53 (Or.inl (List.mem_singleton.mpr rfl))
                        refine gGoto X w d5_54 (by decide) (n := 30) rfl ?_
                        refine gIinc X w d5_30 rfl (z := (-1 : Int32)) (by decide) #[.val (.ref a), .val (.int (0 : Int32)), .val (.int (3 : Int32)), .val (.int (-1 : Int32)), .val (.int (2 : Int32)), .val (.int z2)] rfl (n := 33) rfl ?_
                        refine gIloadN X w d5_33 rfl (n := 34) rfl ?_
                        refine gIloadN X w d5_34 rfl (n := 35) rfl ?_
                        refine gIcmp_lt X w d5_35 (n := 57) (n' := 38) (by decide) rfl rfl ?_ ?_
                        · intro c35
                          refine gAloadN X w d5_57 rfl rfl (n := 58) rfl ?_
                          refine gIloadN X w d5_58 rfl (n := 59) rfl ?_
                          refine gIconst X w d5_59 (z := (1 : Int32)) rfl (n := 60) rfl ?_
                          refine gIadd X w d5_60 (z := (0 : Int32)) (by decide) (n := 61) rfl ?_
                          refine gIload X w d5_61 rfl (n := 63) rfl ?_
                          refine gIastore X w (z := (.int z2)) V53 (by decide) (show (0 : Int) < ((3 : Nat) : Int) from by decide) na rfl (vs' := [(.int z2), (.int z1), (.int z0)]) rfl d5_63 (n := 64) rfl ?_
                          intro T hp63 X W63 V63
                          have Kc5 := Kc4.wr W63 (Or.inl (List.mem_singleton.mpr rfl))
                          refine gGoto X w d5_64 (by decide) (n := 3) rfl ?_
                          refine gIinc X w d5_3 rfl (z := (3 : Int32)) (by decide) #[.val (.ref a), .val (.int (0 : Int32)), .val (.int (3 : Int32)), .val (.int (-1 : Int32)), .val (.int (3 : Int32)), .val (.int z2)] rfl (n := 6) rfl ?_
                          refine gIload X w d5_6 rfl (n := 8) rfl ?_
                          refine gIloadN X w d5_8 rfl (n := 9) rfl ?_
                          refine gIcmp_ge X w d5_9 (n := 67) (n' := 12) (by decide) rfl rfl ?_ ?_
                          · intro c9
                            exact gRetV X w rfl d5_67 (by decide) (by decide) (⟨rfl, Kc5, z2, z1, z0, V63, by omega, by omega, fun y => by simp only [← Int32.toInt_inj] <;> omega⟩)
                          · intro c9
                            exact absurd c9 (by decide)
                        · intro c35
                          exact absurd c35 (by decide)
          · intro c35
            exact absurd c35 (by decide)
set_option maxRecDepth 65536 in
set_option maxHeartbeats 40000000 in
theorem own_dp2_3 (l : Launch) (Z : State) (a0 : Array Value) (hw : ∀ d ∈ tables_1, d.before a0 Z = true) (a : Addr) (z0 z1 z2 : Int32) (h0 : Heap) (n0 : Nat) (hn : n0 ≤ h0.size) (na : n0 ≤ a) (V : Av Z h0 a .int [.int z0, .int z1, .int z2]) :
    ConN l Z (⟨"java/util/DualPivotQuicksort", "sort", "(Ljava/util/DualPivotQuicksort$Sorter;[IIII)V"⟩ : MethodName) jdk_2529_method_4_code 21 ({ frames := 1, cells := 0, slots := 0, locals := 17 } : Room) #[.null, (.ref a), (.int (0 : Int32)), (.int (0 : Int32)), (.int (3 : Int32))] h0 n0 (fun h => Keep h0 h [a] ∧ ∃ w0 w1 w2 : Int32, Av Z h a .int [.int w0, .int w1, .int w2] ∧ w0.toInt ≤ w1.toInt ∧ w1.toInt ≤ w2.toInt ∧ ∀ y : Int32, (y = w0 ∨ y = w1 ∨ y = w2) ↔ (y = z0 ∨ y = z1 ∨ y = z2)) := by
  refine Con.of (plainFor_of_name (by first | (simp [plainName, overriddenIn]; done) | decide +kernel)) hn ?_
  intro p e s m below meth c T w X
  refine Gl.enter (ls := #[.val .null, .val (.ref a), .val (.int (0 : Int32)), .val (.int (0 : Int32)), .val (.int (3 : Int32)), .unset, .unset, .unset, .unset, .unset, .unset, .unset, .unset, .unset, .unset, .unset, .unset, .unset, .unset, .unset, .unset]) (by first | (simp [entryFrame, mkF, argsToLocals, Value.category]; done) | rfl) ?_
  refine gIload X w d4_0 rfl (n := 2) rfl ?_
  refine gIconst X w d4_2 (z := (1 : Int32)) rfl (n := 3) rfl ?_
  refine gIsub X w d4_3 (z := (2 : Int32)) (by decide) (n := 4) rfl ?_
  refine gIstore X w d4_4 #[.val .null, .val (.ref a), .val (.int (0 : Int32)), .val (.int (0 : Int32)), .val (.int (3 : Int32)), .val (.int (2 : Int32)), .unset, .unset, .unset, .unset, .unset, .unset, .unset, .unset, .unset, .unset, .unset, .unset, .unset, .unset, .unset] rfl (n := 6) rfl ?_
  refine gIload X w d4_6 rfl (n := 8) rfl ?_
  refine gIloadN X w d4_8 rfl (n := 9) rfl ?_
  refine gIsub X w d4_9 (z := (3 : Int32)) (by decide) (n := 10) rfl ?_
  refine gIstore X w d4_10 #[.val .null, .val (.ref a), .val (.int (0 : Int32)), .val (.int (0 : Int32)), .val (.int (3 : Int32)), .val (.int (2 : Int32)), .val (.int (3 : Int32)), .unset, .unset, .unset, .unset, .unset, .unset, .unset, .unset, .unset, .unset, .unset, .unset, .unset, .unset] rfl (n := 12) rfl ?_
  refine gIload X w d4_12 rfl (n := 14) rfl ?_
  refine gBipush X w d4_14 (z := (65 : Int32)) (by decide) (n := 16) rfl ?_
  refine gIloadN X w d4_16 rfl (n := 17) rfl ?_
  refine gIadd X w d4_17 (z := (65 : Int32)) (by decide) (n := 18) rfl ?_
  refine gIcmp_ge X w d4_18 (n := 46) (n' := 21) (by decide) rfl rfl ?_ ?_
  · intro c18
    exact absurd c18 (by decide)
  · intro c18
    refine gIloadN X w d4_21 rfl (n := 22) rfl ?_
    refine gIconst X w d4_22 (z := (1 : Int32)) rfl (n := 23) rfl ?_
    refine gIand X w d4_23 (z := (0 : Int32)) (by decide) (n := 24) rfl ?_
    refine gIf_le X w d4_24 (n := 46) (n' := 27) (by decide) rfl rfl ?_ ?_
    · intro c24
      refine gIload X w d4_46 rfl (n := 48) rfl ?_
      refine gBipush X w d4_48 (z := (44 : Int32)) (by decide) (n := 50) rfl ?_
      refine gIcmp_ge X w d4_50 (n := 61) (n' := 53) (by decide) rfl rfl ?_ ?_
      · intro c50
        exact absurd c50 (by decide)
      · intro c50
        refine gAloadN X w d4_53 rfl rfl (n := 54) rfl ?_
        refine gIloadN X w d4_54 rfl (n := 55) rfl ?_
        refine gIload X w d4_55 rfl (n := 57) rfl ?_
        refine gCallSn X w [(.ref a), (.int (0 : Int32)), (.int (3 : Int32))] [] (own_ins_3 l Z a0 hw a z0 z1 z2 h0 n0 (Sd.le X) na V) (own_wd hw 25 rfl) (own_wd hw 26 rfl) (own_wd hw 20 rfl) (own_wd hw 27 rfl) (by decide) own_pd0 rfl rfl d4_57 rfl (W := 0) (Nat.le_of_eq rfl) (by decide) (by decide) (by decide) (by decide) (n := 60) rfl ?_
        rintro T h1 ⟨K1, w0, w1, w2, V1, s0, s1, m1⟩ X
        exact gRetV X w rfl d4_60 (by decide) (by decide) (⟨rfl, K1, w0, w1, w2, V1, s0, s1, m1⟩)
    · intro c24
      exact absurd c24 (by decide)
set_option maxRecDepth 65536 in
set_option maxHeartbeats 40000000 in
theorem own_dp1_3 (l : Launch) (Z : State) (a0 : Array Value) (hw : ∀ d ∈ tables_1, d.before a0 Z = true) (a : Addr) (z0 z1 z2 : Int32) (h0 : Heap) (n0 : Nat) (hn : n0 ≤ h0.size) (na : n0 ≤ a) (V : Av Z h0 a .int [.int z0, .int z1, .int z2]) :
    ConN l Z (⟨"java/util/DualPivotQuicksort", "sort", "([IIII)V"⟩ : MethodName) jdk_2529_method_3_code 7 ({ frames := 2, cells := 0, slots := 0, locals := 49 } : Room) #[(.ref a), (.int (0 : Int32)), (.int (0 : Int32)), (.int (3 : Int32))] h0 n0 (fun h => Keep h0 h [a] ∧ ∃ w0 w1 w2 : Int32, Av Z h a .int [.int w0, .int w1, .int w2] ∧ w0.toInt ≤ w1.toInt ∧ w1.toInt ≤ w2.toInt ∧ ∀ y : Int32, (y = w0 ∨ y = w1 ∨ y = w2) ↔ (y = z0 ∨ y = z1 ∨ y = z2)) := by
  refine Con.of (plainFor_of_name (by first | (simp [plainName, overriddenIn]; done) | decide +kernel)) hn ?_
  intro p e s m below meth c T w X
  refine Gl.enter (ls := #[.val (.ref a), .val (.int (0 : Int32)), .val (.int (0 : Int32)), .val (.int (3 : Int32)), .unset, .unset, .unset]) (by first | (simp [entryFrame, mkF, argsToLocals, Value.category]; done) | rfl) ?_
  refine gIloadN X w d3_0 rfl (n := 1) rfl ?_
  refine gIloadN X w d3_1 rfl (n := 2) rfl ?_
  refine gIsub X w d3_2 (z := (3 : Int32)) (by decide) (n := 3) rfl ?_
  refine gIstore X w d3_3 #[.val (.ref a), .val (.int (0 : Int32)), .val (.int (0 : Int32)), .val (.int (3 : Int32)), .val (.int (3 : Int32)), .unset, .unset] rfl (n := 5) rfl ?_
  refine gIloadN X w d3_5 rfl (n := 6) rfl ?_
  refine gIconst X w d3_6 (z := (1 : Int32)) rfl (n := 7) rfl ?_
  refine gIcmp_le X w d3_7 (n := 68) (n' := 10) (by decide) rfl rfl ?_ ?_
  · intro c7
    refine gNull X w d3_68 (n := 69) rfl ?_
    refine gAloadN X w d3_69 rfl rfl (n := 70) rfl ?_
    refine gIconst X w d3_70 (z := (0 : Int32)) rfl (n := 71) rfl ?_
    refine gIloadN X w d3_71 rfl (n := 72) rfl ?_
    refine gIloadN X w d3_72 rfl (n := 73) rfl ?_
    refine gCallSn X w [.null, (.ref a), (.int (0 : Int32)), (.int (0 : Int32)), (.int (3 : Int32))] [] (own_dp2_3 l Z a0 hw a z0 z1 z2 h0 n0 (Sd.le X) na V) (own_wd hw 22 rfl) (own_wd hw 23 rfl) (own_wd hw 20 rfl) (own_wd hw 24 rfl) (by decide) own_pd1 rfl rfl d3_73 rfl (W := 0) (Nat.le_of_eq rfl) (by decide) (by decide) (by decide) (by decide) (n := 76) rfl ?_
    rintro T h1 ⟨K1, w0, w1, w2, V1, s0, s1, m1⟩ X
    exact gRetV X w rfl d3_76 (by decide) (by decide) (⟨rfl, K1, w0, w1, w2, V1, s0, s1, m1⟩)
  · intro c7
    exact absurd c7 (by decide)
set_option maxRecDepth 65536 in
set_option maxHeartbeats 40000000 in
theorem own_srt_3 (l : Launch) (Z : State) (a0 : Array Value) (hw : ∀ d ∈ tables_1, d.before a0 Z = true) (a : Addr) (z0 z1 z2 : Int32) (h0 : Heap) (n0 : Nat) (hn : n0 ≤ h0.size) (na : n0 ≤ a) (V : Av Z h0 a .int [.int z0, .int z1, .int z2]) :
    ConN l Z (⟨"java/util/Arrays", "sort", "([I)V"⟩ : MethodName) jdk_65_method_2_code 1 ({ frames := 3, cells := 0, slots := 0, locals := 67 } : Room) #[(.ref a)] h0 n0 (fun h => Keep h0 h [a] ∧ ∃ w0 w1 w2 : Int32, Av Z h a .int [.int w0, .int w1, .int w2] ∧ w0.toInt ≤ w1.toInt ∧ w1.toInt ≤ w2.toInt ∧ ∀ y : Int32, (y = w0 ∨ y = w1 ∨ y = w2) ↔ (y = z0 ∨ y = z1 ∨ y = z2)) := by
  refine Con.of (plainFor_of_name (by first | (simp [plainName, overriddenIn]; done) | decide +kernel)) hn ?_
  intro p e s m below meth c T w X
  refine Gl.enter (ls := #[.val (.ref a)]) (by first | (simp [entryFrame, mkF, argsToLocals, Value.category]; done) | rfl) ?_
  refine gAloadN X w d2_0 rfl rfl (n := 1) rfl ?_
  refine gIconst X w d2_1 (z := (0 : Int32)) rfl (n := 2) rfl ?_
  refine gIconst X w d2_2 (z := (0 : Int32)) rfl (n := 3) rfl ?_
  refine gAloadN X w d2_3 rfl rfl (n := 4) rfl ?_
  refine gAlen X w V (z := (3 : Int32)) rfl d2_4 (n := 5) rfl ?_
  refine gCallSn X w [(.ref a), (.int (0 : Int32)), (.int (0 : Int32)), (.int (3 : Int32))] [] (own_dp1_3 l Z a0 hw a z0 z1 z2 h0 n0 (Sd.le X) na V) (own_wd hw 18 rfl) (own_wd hw 19 rfl) (own_wd hw 20 rfl) (own_wd hw 21 rfl) (by decide) own_pd2 rfl rfl d2_5 rfl (W := 0) (Nat.le_of_eq rfl) (by decide) (by decide) (by decide) (by decide) (n := 8) rfl ?_
  rintro T h1 ⟨K1, w0, w1, w2, V1, s0, s1, m1⟩ X
  exact gRetV X w rfl d2_8 (by decide) (by decide) (⟨rfl, K1, w0, w1, w2, V1, s0, s1, m1⟩)
set_option maxRecDepth 65536 in
set_option maxHeartbeats 40000000 in
theorem own_min_3_1 (l : Launch) (Z : State) (a0 : Array Value) (hw : ∀ d ∈ tables_1, d.before a0 Z = true)  (h0 : Heap) (n0 : Nat) (hn : n0 ≤ h0.size)  :
    ConV l Z (⟨"java/lang/Math", "min", "(II)I"⟩ : MethodName) jdk_29_method_69_code 2 (some .int) ({ frames := 0, cells := 0, slots := 0, locals := 0 } : Room) #[(.int (3 : Int32)), (.int (1 : Int32))] h0 n0 (fun v h => h0 = h ∧ v = .int (1 : Int32)) := by
  refine Con.of (Jvm.Free.JP.mathPlain rfl (by decide +kernel)) hn ?_
  intro p e s m below meth c T w X
  refine Gl.enter (ls := #[.val (.int (3 : Int32)), .val (.int (1 : Int32))]) (by first | (simp [entryFrame, mkF, argsToLocals, Value.category]; done) | rfl) ?_
  refine gIloadN X w d11_0 rfl (n := 1) rfl ?_
  refine gIloadN X w d11_1 rfl (n := 2) rfl ?_
  refine gIcmp_gt X w d11_2 (n := 9) (n' := 5) (by decide) rfl rfl ?_ ?_
  · intro c2
    refine gIloadN X w d11_9 rfl (n := 10) rfl ?_
    exact gRetI X w rfl d11_10 (by decide) (by decide) (⟨_, rfl, rfl, rfl⟩)
  · intro c2
    exact absurd c2 (by decide)
set_option maxRecDepth 65536 in
set_option maxHeartbeats 40000000 in
theorem own_cpy_3_1 (l : Launch) (Z : State) (a0 : Array Value) (hw : ∀ d ∈ tables_1, d.before a0 Z = true) (a : Addr) (z0 z1 z2 : Int32) (h0 : Heap) (n0 : Nat) (hn : n0 ≤ h0.size) (V : Av Z h0 a .int [.int z0, .int z1, .int z2]) (E : Exa Z h0 a "[I") :
    ConV l Z (⟨"java/util/Arrays", "copyOf", "([II)[I"⟩ : MethodName) jdk_65_method_123_code 3 (some (.array .int)) ({ frames := 1, cells := 1, slots := 1, locals := 40 } : Room) #[(.ref a), (.int (1 : Int32))] h0 n0 (fun v h => Keep h0 h [] ∧ ∃ d : Addr, v = .ref d ∧ h0.size ≤ d ∧ Av Z h d .int [.int z0]) := by
  refine Con.of (plainFor_of_name (by first | (simp [plainName, overriddenIn]; done) | decide +kernel)) hn ?_
  intro p e s m below meth c T w X
  refine Gl.enter (ls := #[.val (.ref a), .val (.int (1 : Int32)), .unset]) (by first | (simp [entryFrame, mkF, argsToLocals, Value.category]; done) | rfl) ?_
  refine gIloadN X w d6_0 rfl (n := 1) rfl ?_
  refine gAloadN X w d6_1 rfl rfl (n := 2) rfl ?_
  refine gAlen X w V (z := (3 : Int32)) rfl d6_2 (n := 3) rfl ?_
  refine gIcmp_ne X w d6_3 (n := 14) (n' := 6) (by decide) rfl rfl ?_ ?_
  · rintro ⟨c3, c3'⟩
    refine gIloadN X w d6_14 rfl (n := 15) rfl ?_
    refine gNewP X w (own_wd hw 0 rfl) d6_15 (by decide) (cap := 1) (by decide) (by decide) (by decide) (by decide) (vs := [(.int (0 : Int32))]) (ty := .int) rfl rfl (ad := "[I") (by decide) (n := 17) rfl ?_
    intro T hp15 ad15 ea15 na15 X E15 V15 A15
    have ne_a_ad15 : a ≠ ad15 := neOf V.lt (Nat.le_of_eq ea15.symm)
    have F_1 := V.ext E15
    have F_2 := E.ext E15
    refine gAstoreN X w d6_17 rfl #[.val (.ref a), .val (.int (1 : Int32)), .val (.ref ad15)] rfl (n := 18) rfl ?_
    refine gAloadN X w d6_18 rfl rfl (n := 19) rfl ?_
    refine gIconst X w d6_19 (z := (0 : Int32)) rfl (n := 20) rfl ?_
    refine gAloadN X w d6_20 rfl rfl (n := 21) rfl ?_
    refine gIconst X w d6_21 (z := (0 : Int32)) rfl (n := 22) rfl ?_
    refine gAloadN X w d6_22 rfl rfl (n := 23) rfl ?_
    refine gAlen X w F_1 (z := (3 : Int32)) rfl d6_23 (n := 24) rfl ?_
    refine gIloadN X w d6_24 rfl (n := 25) rfl ?_
    refine gCallSv X w [(.int (3 : Int32)), (.int (1 : Int32))] [(.int (0 : Int32)), (.ref ad15), (.int (0 : Int32)), (.ref a)] (own_min_3_1 l Z a0 hw hp15 n0 (Sd.le X)) (own_wd hw 52 rfl) (own_wd hw 53 rfl) (own_wd hw 54 rfl) (own_wd hw 55 rfl) (by decide) own_pd3 rfl rfl d6_25 rfl (W := 4) (Nat.le_of_eq rfl) (by decide) (by decide) (by decide) (by decide) (n := 28) rfl ?_
    rintro T _ _ ⟨rfl, rfl⟩ X
    refine gAcopy X w (.int 0) F_1 V15 rfl (own_fitI (by intro v hv; simp only [List.mem_cons, List.not_mem_nil, or_false] at hv; rcases hv with rfl | rfl | rfl <;> exact ⟨_, rfl⟩)) (own_fitI (by intro v hv; simp only [List.mem_cons, List.not_mem_nil, or_false] at hv; rcases hv with rfl <;> exact ⟨_, rfl⟩)) (by show (3 : Nat) < 2 ^ 31; decide) (by show (1 : Nat) < 2 ^ 31; decide) (own_wd hw 56 rfl) (own_wd hw 59 rfl) (own_wd hw 57 rfl) (own_wd hw 58 rfl) (by decide) (by decide) (by decide) (by show (1 : Int) ≤ ((3 : Nat) : Int); decide) (by show (1 : Int) ≤ ((1 : Nat) : Int); decide) (vs' := [.int z0]) rfl na15 d6_28 rfl (by decide) (W := 0) (Nat.le_of_eq rfl) (by decide) (n := 31) rfl ?_
    intro T hp28 X K28 V28
    refine gAloadN X w d6_31 rfl rfl (n := 32) rfl ?_
    exact gRetA X w rfl rfl rfl d6_32 (by decide) (by decide) (⟨_, rfl, ((Keep.refl _ []).ext E15).trans K28 (allS (Or.inr (Nat.le_of_eq ea15.symm)) all0), ad15, rfl, Nat.le_of_eq ea15.symm, V28⟩)
  · rintro ⟨c3, c3'⟩
    exact absurd c3 (by decide)
set_option maxRecDepth 65536 in
set_option maxHeartbeats 40000000 in
theorem own_min_3_2 (l : Launch) (Z : State) (a0 : Array Value) (hw : ∀ d ∈ tables_1, d.before a0 Z = true)  (h0 : Heap) (n0 : Nat) (hn : n0 ≤ h0.size)  :
    ConV l Z (⟨"java/lang/Math", "min", "(II)I"⟩ : MethodName) jdk_29_method_69_code 2 (some .int) ({ frames := 0, cells := 0, slots := 0, locals := 0 } : Room) #[(.int (3 : Int32)), (.int (2 : Int32))] h0 n0 (fun v h => h0 = h ∧ v = .int (2 : Int32)) := by
  refine Con.of (Jvm.Free.JP.mathPlain rfl (by decide +kernel)) hn ?_
  intro p e s m below meth c T w X
  refine Gl.enter (ls := #[.val (.int (3 : Int32)), .val (.int (2 : Int32))]) (by first | (simp [entryFrame, mkF, argsToLocals, Value.category]; done) | rfl) ?_
  refine gIloadN X w d11_0 rfl (n := 1) rfl ?_
  refine gIloadN X w d11_1 rfl (n := 2) rfl ?_
  refine gIcmp_gt X w d11_2 (n := 9) (n' := 5) (by decide) rfl rfl ?_ ?_
  · intro c2
    refine gIloadN X w d11_9 rfl (n := 10) rfl ?_
    exact gRetI X w rfl d11_10 (by decide) (by decide) (⟨_, rfl, rfl, rfl⟩)
  · intro c2
    exact absurd c2 (by decide)
set_option maxRecDepth 65536 in
set_option maxHeartbeats 40000000 in
theorem own_cpy_3_2 (l : Launch) (Z : State) (a0 : Array Value) (hw : ∀ d ∈ tables_1, d.before a0 Z = true) (a : Addr) (z0 z1 z2 : Int32) (h0 : Heap) (n0 : Nat) (hn : n0 ≤ h0.size) (V : Av Z h0 a .int [.int z0, .int z1, .int z2]) (E : Exa Z h0 a "[I") :
    ConV l Z (⟨"java/util/Arrays", "copyOf", "([II)[I"⟩ : MethodName) jdk_65_method_123_code 3 (some (.array .int)) ({ frames := 1, cells := 1, slots := 2, locals := 40 } : Room) #[(.ref a), (.int (2 : Int32))] h0 n0 (fun v h => Keep h0 h [] ∧ ∃ d : Addr, v = .ref d ∧ h0.size ≤ d ∧ Av Z h d .int [.int z0, .int z1]) := by
  refine Con.of (plainFor_of_name (by first | (simp [plainName, overriddenIn]; done) | decide +kernel)) hn ?_
  intro p e s m below meth c T w X
  refine Gl.enter (ls := #[.val (.ref a), .val (.int (2 : Int32)), .unset]) (by first | (simp [entryFrame, mkF, argsToLocals, Value.category]; done) | rfl) ?_
  refine gIloadN X w d6_0 rfl (n := 1) rfl ?_
  refine gAloadN X w d6_1 rfl rfl (n := 2) rfl ?_
  refine gAlen X w V (z := (3 : Int32)) rfl d6_2 (n := 3) rfl ?_
  refine gIcmp_ne X w d6_3 (n := 14) (n' := 6) (by decide) rfl rfl ?_ ?_
  · rintro ⟨c3, c3'⟩
    refine gIloadN X w d6_14 rfl (n := 15) rfl ?_
    refine gNewP X w (own_wd hw 0 rfl) d6_15 (by decide) (cap := 2) (by decide) (by decide) (by decide) (by decide) (vs := [(.int (0 : Int32)), (.int (0 : Int32))]) (ty := .int) rfl rfl (ad := "[I") (by decide) (n := 17) rfl ?_
    intro T hp15 ad15 ea15 na15 X E15 V15 A15
    have ne_a_ad15 : a ≠ ad15 := neOf V.lt (Nat.le_of_eq ea15.symm)
    have F_1 := V.ext E15
    have F_2 := E.ext E15
    refine gAstoreN X w d6_17 rfl #[.val (.ref a), .val (.int (2 : Int32)), .val (.ref ad15)] rfl (n := 18) rfl ?_
    refine gAloadN X w d6_18 rfl rfl (n := 19) rfl ?_
    refine gIconst X w d6_19 (z := (0 : Int32)) rfl (n := 20) rfl ?_
    refine gAloadN X w d6_20 rfl rfl (n := 21) rfl ?_
    refine gIconst X w d6_21 (z := (0 : Int32)) rfl (n := 22) rfl ?_
    refine gAloadN X w d6_22 rfl rfl (n := 23) rfl ?_
    refine gAlen X w F_1 (z := (3 : Int32)) rfl d6_23 (n := 24) rfl ?_
    refine gIloadN X w d6_24 rfl (n := 25) rfl ?_
    refine gCallSv X w [(.int (3 : Int32)), (.int (2 : Int32))] [(.int (0 : Int32)), (.ref ad15), (.int (0 : Int32)), (.ref a)] (own_min_3_2 l Z a0 hw hp15 n0 (Sd.le X)) (own_wd hw 52 rfl) (own_wd hw 53 rfl) (own_wd hw 54 rfl) (own_wd hw 55 rfl) (by decide) own_pd3 rfl rfl d6_25 rfl (W := 4) (Nat.le_of_eq rfl) (by decide) (by decide) (by decide) (by decide) (n := 28) rfl ?_
    rintro T _ _ ⟨rfl, rfl⟩ X
    refine gAcopy X w (.int 0) F_1 V15 rfl (own_fitI (by intro v hv; simp only [List.mem_cons, List.not_mem_nil, or_false] at hv; rcases hv with rfl | rfl | rfl <;> exact ⟨_, rfl⟩)) (own_fitI (by intro v hv; simp only [List.mem_cons, List.not_mem_nil, or_false] at hv; rcases hv with rfl | rfl <;> exact ⟨_, rfl⟩)) (by show (3 : Nat) < 2 ^ 31; decide) (by show (2 : Nat) < 2 ^ 31; decide) (own_wd hw 56 rfl) (own_wd hw 59 rfl) (own_wd hw 57 rfl) (own_wd hw 58 rfl) (by decide) (by decide) (by decide) (by show (2 : Int) ≤ ((3 : Nat) : Int); decide) (by show (2 : Int) ≤ ((2 : Nat) : Int); decide) (vs' := [.int z0, .int z1]) rfl na15 d6_28 rfl (by decide) (W := 0) (Nat.le_of_eq rfl) (by decide) (n := 31) rfl ?_
    intro T hp28 X K28 V28
    refine gAloadN X w d6_31 rfl rfl (n := 32) rfl ?_
    exact gRetA X w rfl rfl rfl d6_32 (by decide) (by decide) (⟨_, rfl, ((Keep.refl _ []).ext E15).trans K28 (allS (Or.inr (Nat.le_of_eq ea15.symm)) all0), ad15, rfl, Nat.le_of_eq ea15.symm, V28⟩)
  · rintro ⟨c3, c3'⟩
    exact absurd c3 (by decide)
set_option maxRecDepth 65536 in
set_option maxHeartbeats 40000000 in
theorem own_cpy_3_3 (l : Launch) (Z : State) (a0 : Array Value) (hw : ∀ d ∈ tables_1, d.before a0 Z = true) (a : Addr) (z0 z1 z2 : Int32) (h0 : Heap) (n0 : Nat) (hn : n0 ≤ h0.size) (V : Av Z h0 a .int [.int z0, .int z1, .int z2]) (E : Exa Z h0 a "[I") :
    ConV l Z (⟨"java/util/Arrays", "copyOf", "([II)[I"⟩ : MethodName) jdk_65_method_123_code 3 (some (.array .int)) ({ frames := 1, cells := 1, slots := 3, locals := 40 } : Room) #[(.ref a), (.int (3 : Int32))] h0 n0 (fun v h => Keep h0 h [] ∧ ∃ d : Addr, v = .ref d ∧ h0.size ≤ d ∧ Av Z h d .int [.int z0, .int z1, .int z2]) := by
  refine Con.of (plainFor_of_name (by first | (simp [plainName, overriddenIn]; done) | decide +kernel)) hn ?_
  intro p e s m below meth c T w X
  refine Gl.enter (ls := #[.val (.ref a), .val (.int (3 : Int32)), .unset]) (by first | (simp [entryFrame, mkF, argsToLocals, Value.category]; done) | rfl) ?_
  refine gIloadN X w d6_0 rfl (n := 1) rfl ?_
  refine gAloadN X w d6_1 rfl rfl (n := 2) rfl ?_
  refine gAlen X w V (z := (3 : Int32)) rfl d6_2 (n := 3) rfl ?_
  refine gIcmp_ne X w d6_3 (n := 14) (n' := 6) (by decide) rfl rfl ?_ ?_
  · rintro ⟨c3, c3'⟩
    exact absurd c3 (by decide)
  · rintro ⟨c3, c3'⟩
    refine gAloadN X w d6_6 rfl rfl (n := 7) rfl ?_
    refine gClone X w V E (own_fitI (by intro v hv; simp only [List.mem_cons, List.not_mem_nil, or_false] at hv; rcases hv with rfl | rfl | rfl <;> exact ⟨_, rfl⟩)) (own_wd hw 33 rfl) (own_wd hw 6 rfl) (own_wd hw 10 rfl) (own_wd hw 8 rfl) (own_wd hw 9 rfl) (own_wd hw 11 rfl) d6_7 rfl (by decide) (W := 0) (Nat.le_of_eq rfl) (by decide) (cap := 3) (by show (3 : Nat) ≤ 3; decide) (by decide) (by decide) (n := 10) rfl ?_
    intro T hp7 ad7 ea7 na7 X E7 V7 A7
    have ne_a_ad7 : a ≠ ad7 := neOf V.lt (Nat.le_of_eq ea7.symm)
    have F_1 := V.ext E7
    have F_2 := E.ext E7
    refine gCast X w (own_wd hw 34 rfl) (Ins.self A7) d6_10 (n := 13) rfl ?_
    intro T X
    exact gRetA X w rfl rfl rfl d6_13 (by decide) (by decide) (⟨_, rfl, (Keep.refl _ []).ext E7, ad7, rfl, Nat.le_of_eq ea7.symm, V7⟩)
set_option maxRecDepth 65536 in
set_option maxHeartbeats 40000000 in
theorem own_ins_4 (l : Launch) (Z : State) (a0 : Array Value) (hw : ∀ d ∈ tables_1, d.before a0 Z = true) (a : Addr) (z0 z1 z2 z3 : Int32) (h0 : Heap) (n0 : Nat) (hn : n0 ≤ h0.size) (na : n0 ≤ a) (V : Av Z h0 a .int [.int z0, .int z1, .int z2, .int z3]) :
    ConN l Z (⟨"java/util/DualPivotQuicksort", "insertionSort", "([III)V"⟩ : MethodName) jdk_2529_method_6_code 6 ({ frames := 0, cells := 0, slots := 0, locals := 0 } : Room) #[(.ref a), (.int (0 : Int32)), (.int (4 : Int32))] h0 n0 (fun h => Keep h0 h [a] ∧ ∃ w0 w1 w2 w3 : Int32, Av Z h a .int [.int w0, .int w1, .int w2, .int w3] ∧ w0.toInt ≤ w1.toInt ∧ w1.toInt ≤ w2.toInt ∧ w2.toInt ≤ w3.toInt ∧ ∀ y : Int32, (y = w0 ∨ y = w1 ∨ y = w2 ∨ y = w3) ↔ (y = z0 ∨ y = z1 ∨ y = z2 ∨ y = z3)) := by
  refine Con.of (plainFor_of_name (by first | (simp [plainName, overriddenIn]; done) | decide +kernel)) hn ?_
  intro p e s m below meth c T w X
  refine Gl.enter (ls := #[.val (.ref a), .val (.int (0 : Int32)), .val (.int (4 : Int32)), .unset, .unset, .unset]) (by first | (simp [entryFrame, mkF, argsToLocals, Value.category]; done) | rfl) ?_
  refine gIloadN X w d5_0 rfl (n := 1) rfl ?_
  refine gIstore X w d5_1 #[.val (.ref a), .val (.int (0 : Int32)), .val (.int (4 : Int32)), .unset, .val (.int (0 : Int32)), .unset] rfl (n := 3) rfl ?_
  refine gIinc X w d5_3 rfl (z := (1 : Int32)) (by decide) #[.val (.ref a), .val (.int (0 : Int32)), .val (.int (4 : Int32)), .unset, .val (.int (1 : Int32)), .unset] rfl (n := 6) rfl ?_
  refine gIload X w d5_6 rfl (n := 8) rfl ?_
  refine gIloadN X w d5_8 rfl (n := 9) rfl ?_
  refine gIcmp_ge X w d5_9 (n := 67) (n' := 12) (by decide) rfl rfl ?_ ?_
  · intro c9
    exact absurd c9 (by decide)
  · intro c9
    refine gAloadN X w d5_12 rfl rfl (n := 13) rfl ?_
    refine gIload X w d5_13 rfl (n := 15) rfl ?_
    refine gDup X w d5_15 rfl (n := 16) rfl ?_
    refine gIstoreN X w d5_16 #[.val (.ref a), .val (.int (0 : Int32)), .val (.int (4 : Int32)), .val (.int (1 : Int32)), .val (.int (1 : Int32)), .unset] rfl (n := 17) rfl ?_
    refine gIaload X w V (by decide) rfl d5_17 (n := 18) rfl ?_
    refine gIstore X w d5_18 #[.val (.ref a), .val (.int (0 : Int32)), .val (.int (4 : Int32)), .val (.int (1 : Int32)), .val (.int (1 : Int32)), .val (.int z1)] rfl (n := 20) rfl ?_
    refine gIload X w d5_20 rfl (n := 22) rfl ?_
    refine gAloadN X w d5_22 rfl rfl (n := 23) rfl ?_
    refine gIloadN X w d5_23 rfl (n := 24) rfl ?_
    refine gIconst X w d5_24 (z := (1 : Int32)) rfl (n := 25) rfl ?_
    refine gIsub X w d5_25 (z := (0 : Int32)) (by decide) (n := 26) rfl ?_
    refine gIaload X w V (by decide) rfl d5_26 (n := 27) rfl ?_
    refine gIcmp_ge X w d5_27 (n := 64) (n' := 30) (by decide) rfl rfl ?_ ?_
    · intro c27
      refine gGoto X w d5_64 (by decide) (n := 3) rfl ?_
      refine gIinc X w d5_3 rfl (z := (2 : Int32)) (by decide) #[.val (.ref a), .val (.int (0 : Int32)), .val (.int (4 : Int32)), .val (.int (1 : Int32)), .val (.int (2 : Int32)), .val (.int z1)] rfl (n := 6) rfl ?_
      refine gIload X w d5_6 rfl (n := 8) rfl ?_
      refine gIloadN X w d5_8 rfl (n := 9) rfl ?_
      refine gIcmp_ge X w d5_9 (n := 67) (n' := 12) (by decide) rfl rfl ?_ ?_
      · intro c9
        exact absurd c9 (by decide)
      · intro c9
        refine gAloadN X w d5_12 rfl rfl (n := 13) rfl ?_
        refine gIload X w d5_13 rfl (n := 15) rfl ?_
        refine gDup X w d5_15 rfl (n := 16) rfl ?_
        refine gIstoreN X w d5_16 #[.val (.ref a), .val (.int (0 : Int32)), .val (.int (4 : Int32)), .val (.int (2 : Int32)), .val (.int (2 : Int32)), .val (.int z1)] rfl (n := 17) rfl ?_
        refine gIaload X w V (by decide) rfl d5_17 (n := 18) rfl ?_
        refine gIstore X w d5_18 #[.val (.ref a), .val (.int (0 : Int32)), .val (.int (4 : Int32)), .val (.int (2 : Int32)), .val (.int (2 : Int32)), .val (.int z2)] rfl (n := 20) rfl ?_
        refine gIload X w d5_20 rfl (n := 22) rfl ?_
        refine gAloadN X w d5_22 rfl rfl (n := 23) rfl ?_
        refine gIloadN X w d5_23 rfl (n := 24) rfl ?_
        refine gIconst X w d5_24 (z := (1 : Int32)) rfl (n := 25) rfl ?_
        refine gIsub X w d5_25 (z := (1 : Int32)) (by decide) (n := 26) rfl ?_
        refine gIaload X w V (by decide) rfl d5_26 (n := 27) rfl ?_
        refine gIcmp_ge X w d5_27 (n := 64) (n' := 30) (by decide) rfl rfl ?_ ?_
        · intro c27
          refine gGoto X w d5_64 (by decide) (n := 3) rfl ?_
          refine gIinc X w d5_3 rfl (z := (3 : Int32)) (by decide) #[.val (.ref a), .val (.int (0 : Int32)), .val (.int (4 : Int32)), .val (.int (2 : Int32)), .val (.int (3 : Int32)), .val (.int z2)] rfl (n := 6) rfl ?_
          refine gIload X w d5_6 rfl (n := 8) rfl ?_
          refine gIloadN X w d5_8 rfl (n := 9) rfl ?_
          refine gIcmp_ge X w d5_9 (n := 67) (n' := 12) (by decide) rfl rfl ?_ ?_
          · intro c9
            exact absurd c9 (by decide)
          · intro c9
            refine gAloadN X w d5_12 rfl rfl (n := 13) rfl ?_
            refine gIload X w d5_13 rfl (n := 15) rfl ?_
            refine gDup X w d5_15 rfl (n := 16) rfl ?_
            refine gIstoreN X w d5_16 #[.val (.ref a), .val (.int (0 : Int32)), .val (.int (4 : Int32)), .val (.int (3 : Int32)), .val (.int (3 : Int32)), .val (.int z2)] rfl (n := 17) rfl ?_
            refine gIaload X w V (by decide) rfl d5_17 (n := 18) rfl ?_
            refine gIstore X w d5_18 #[.val (.ref a), .val (.int (0 : Int32)), .val (.int (4 : Int32)), .val (.int (3 : Int32)), .val (.int (3 : Int32)), .val (.int z3)] rfl (n := 20) rfl ?_
            refine gIload X w d5_20 rfl (n := 22) rfl ?_
            refine gAloadN X w d5_22 rfl rfl (n := 23) rfl ?_
            refine gIloadN X w d5_23 rfl (n := 24) rfl ?_
            refine gIconst X w d5_24 (z := (1 : Int32)) rfl (n := 25) rfl ?_
            refine gIsub X w d5_25 (z := (2 : Int32)) (by decide) (n := 26) rfl ?_
            refine gIaload X w V (by decide) rfl d5_26 (n := 27) rfl ?_
            refine gIcmp_ge X w d5_27 (n := 64) (n' := 30) (by decide) rfl rfl ?_ ?_
            · intro c27
              refine gGoto X w d5_64 (by decide) (n := 3) rfl ?_
              refine gIinc X w d5_3 rfl (z := (4 : Int32)) (by decide) #[.val (.ref a), .val (.int (0 : Int32)), .val (.int (4 : Int32)), .val (.int (3 : Int32)), .val (.int (4 : Int32)), .val (.int z3)] rfl (n := 6) rfl ?_
              refine gIload X w d5_6 rfl (n := 8) rfl ?_
              refine gIloadN X w d5_8 rfl (n := 9) rfl ?_
              refine gIcmp_ge X w d5_9 (n := 67) (n' := 12) (by decide) rfl rfl ?_ ?_
              · intro c9
                exact gRetV X w rfl d5_67 (by decide) (by decide) (⟨rfl, (Keep.refl _ [a]), z0, z1, z2, z3, V, by omega, by omega, by omega, fun y => by simp only [← Int32.toInt_inj] <;> omega⟩)
              · intro c9
                exact absurd c9 (by decide)
            · intro c27
              refine gIinc X w d5_30 rfl (z := (2 : Int32)) (by decide) #[.val (.ref a), .val (.int (0 : Int32)), .val (.int (4 : Int32)), .val (.int (2 : Int32)), .val (.int (3 : Int32)), .val (.int z3)] rfl (n := 33) rfl ?_
              refine gIloadN X w d5_33 rfl (n := 34) rfl ?_
              refine gIloadN X w d5_34 rfl (n := 35) rfl ?_
              refine gIcmp_lt X w d5_35 (n := 57) (n' := 38) (by decide) rfl rfl ?_ ?_
              · intro c35
                exact absurd c35 (by decide)
              · intro c35
                refine gIload X w d5_38 rfl (n := 40) rfl ?_
                refine gAloadN X w d5_40 rfl rfl (n := 41) rfl ?_
                refine gIloadN X w d5_41 rfl (n := 42) rfl ?_
                refine gIaload X w V (by decide) rfl d5_42 (n := 43) rfl ?_
                refine gIcmp_ge X w d5_43 (n := 57) (n' := 46) (by decide) rfl rfl ?_ ?_
                · intro c43
                  refine gAloadN X w d5_57 rfl rfl (n := 58) rfl ?_
                  refine gIloadN X w d5_58 rfl (n := 59) rfl ?_
                  refine gIconst X w d5_59 (z := (1 : Int32)) rfl (n := 60) rfl ?_
                  refine gIadd X w d5_60 (z := (3 : Int32)) (by decide) (n := 61) rfl ?_
                  refine gIload X w d5_61 rfl (n := 63) rfl ?_
                  refine gIastore X w (z := (.int z3)) V (by decide) (show (3 : Int) < ((4 : Nat) : Int) from by decide) na rfl (vs' := [(.int z0), (.int z1), (.int z2), (.int z3)]) rfl d5_63 (n := 64) rfl ?_
                  intro T hp63 X W63 V63
                  have Kc1 := (Keep.refl _ [a]).wr W63 (Or.inl (List.mem_singleton.mpr rfl))
                  refine gGoto X w d5_64 (by decide) (n := 3) rfl ?_
                  refine gIinc X w d5_3 rfl (z := (4 : Int32)) (by decide) #[.val (.ref a), .val (.int (0 : Int32)), .val (.int (4 : Int32)), .val (.int (2 : Int32)), .val (.int (4 : Int32)), .val (.int z3)] rfl (n := 6) rfl ?_
                  refine gIload X w d5_6 rfl (n := 8) rfl ?_
                  refine gIloadN X w d5_8 rfl (n := 9) rfl ?_
                  refine gIcmp_ge X w d5_9 (n := 67) (n' := 12) (by decide) rfl rfl ?_ ?_
                  · intro c9
                    exact gRetV X w rfl d5_67 (by decide) (by decide) (⟨rfl, Kc1, z0, z1, z2, z3, V63, by omega, by omega, by omega, fun y => by simp only [← Int32.toInt_inj] <;> omega⟩)
                  · intro c9
                    exact absurd c9 (by decide)
                · intro c43
                  refine gAloadN X w d5_46 rfl rfl (n := 47) rfl ?_
                  refine gIloadN X w d5_47 rfl (n := 48) rfl ?_
                  refine gIconst X w d5_48 (z := (1 : Int32)) rfl (n := 49) rfl ?_
                  refine gIadd X w d5_49 (z := (3 : Int32)) (by decide) (n := 50) rfl ?_
                  refine gAloadN X w d5_50 rfl rfl (n := 51) rfl ?_
                  refine gIloadN X w d5_51 rfl (n := 52) rfl ?_
                  refine gIaload X w V (by decide) rfl d5_52 (n := 53) rfl ?_
                  refine gIastore X w (z := (.int z2)) V (by decide) (show (3 : Int) < ((4 : Nat) : Int) from by decide) na rfl (vs' := [(.int z0), (.int z1), (.int z2), (.int z2)]) rfl d5_53 (n := 54) rfl ?_
                  intro T hp53 X W53 V53
                  have Kc1 := (Keep.refl _ [a]).wr W53 (Or.inl (List.mem_singleton.mpr rfl))
                  refine gGoto X w d5_54 (by decide) (n := 30) rfl ?_
                  refine gIinc X w d5_30 rfl (z := (1 : Int32)) (by decide) #[.val (.ref a), .val (.int (0 : Int32)), .val (.int (4 : Int32)), .val (.int (1 : Int32)), .val (.int (3 : Int32)), .val (.int z3)] rfl (n := 33) rfl ?_
                  refine gIloadN X w d5_33 rfl (n := 34) rfl ?_
                  refine gIloadN X w d5_34 rfl (n := 35) rfl ?_
                  refine gIcmp_lt X w d5_35 (n := 57) (n' := 38) (by decide) rfl rfl ?_ ?_
                  · intro c35
                    exact absurd c35 (by decide)
                  · intro c35
                    refine gIload X w d5_38 rfl (n := 40) rfl ?_
                    refine gAloadN X w d5_40 rfl rfl (n := 41) rfl ?_
                    refine gIloadN X w d5_41 rfl (n := 42) rfl ?_
                    refine gIaload X w V53 (by decide) rfl d5_42 (n := 43) rfl ?_
                    refine gIcmp_ge X w d5_43 (n := 57) (n' := 46) (by decide) rfl rfl ?_ ?_
                    · intro c43
                      refine gAloadN X w d5_57 rfl rfl (n := 58) rfl ?_
                      refine gIloadN X w d5_58 rfl (n := 59) rfl ?_
                      refine gIconst X w d5_59 (z := (1 : Int32)) rfl (n := 60) rfl ?_
                      refine gIadd X w d5_60 (z := (2 : Int32)) (by decide) (n := 61) rfl ?_
                      refine gIload X w d5_61 rfl (n := 63) rfl ?_
                      refine gIastore X w (z := (.int z3)) V53 (by decide) (show (2 : Int) < ((4 : Nat) : Int) from by decide) na rfl (vs' := [(.int z0), (.int z1), (.int z3), (.int z2)]) rfl d5_63 (n := 64) rfl ?_
                      intro T hp63 X W63 V63
                      have Kc2 := Kc1.wr W63 (Or.inl (List.mem_singleton.mpr rfl))
                      refine gGoto X w d5_64 (by decide) (n := 3) rfl ?_
                      refine gIinc X w d5_3 rfl (z := (4 : Int32)) (by decide) #[.val (.ref a), .val (.int (0 : Int32)), .val (.int (4 : Int32)), .val (.int (1 : Int32)), .val (.int (4 : Int32)), .val (.int z3)] rfl (n := 6) rfl ?_
                      refine gIload X w d5_6 rfl (n := 8) rfl ?_
                      refine gIloadN X w d5_8 rfl (n := 9) rfl ?_
                      refine gIcmp_ge X w d5_9 (n := 67) (n' := 12) (by decide) rfl rfl ?_ ?_
                      · intro c9
                        exact gRetV X w rfl d5_67 (by decide) (by decide) (⟨rfl, Kc2, z0, z1, z3, z2, V63, by omega, by omega, by omega, fun y => by simp only [← Int32.toInt_inj] <;> omega⟩)
                      · intro c9
                        exact absurd c9 (by decide)
                    · intro c43
                      refine gAloadN X w d5_46 rfl rfl (n := 47) rfl ?_
                      refine gIloadN X w d5_47 rfl (n := 48) rfl ?_
                      refine gIconst X w d5_48 (z := (1 : Int32)) rfl (n := 49) rfl ?_
                      refine gIadd X w d5_49 (z := (2 : Int32)) (by decide) (n := 50) rfl ?_
                      refine gAloadN X w d5_50 rfl rfl (n := 51) rfl ?_
                      refine gIloadN X w d5_51 rfl (n := 52) rfl ?_
                      refine gIaload X w V53 (by decide) rfl d5_52 (n := 53) rfl ?_
                      refine gIastore X w (z := (.int z1)) V53 (by decide) (show (2 : Int) < ((4 : Nat) : Int) from by decide) na rfl (vs' := [(.int z0), (.int z1), (.int z1), (.int z2)]) rfl d5_53 (n := 54) rfl ?_
                      intro T hp53 X W53 V53
                      have Kc2 := Kc1.wr W53 (Or.inl (List.mem_singleton.mpr rfl))
                      refine gGoto X w d5_54 (by decide) (n := 30) rfl ?_
                      refine gIinc X w d5_30 rfl (z := (0 : Int32)) (by decide) #[.val (.ref a), .val (.int (0 : Int32)), .val (.int (4 : Int32)), .val (.int (0 : Int32)), .val (.int (3 : Int32)), .val (.int z3)] rfl (n := 33) rfl ?_
                      refine gIloadN X w d5_33 rfl (n := 34) rfl ?_
                      refine gIloadN X w d5_34 rfl (n := 35) rfl ?_
                      refine gIcmp_lt X w d5_35 (n := 57) (n' := 38) (by decide) rfl rfl ?_ ?_
                      · intro c35
                        exact absurd c35 (by decide)
                      · intro c35
                        refine gIload X w d5_38 rfl (n := 40) rfl ?_
                        refine gAloadN X w d5_40 rfl rfl (n := 41) rfl ?_
                        refine gIloadN X w d5_41 rfl (n := 42) rfl ?_
                        refine gIaload X w V53 (by decide) rfl d5_42 (n := 43) rfl ?_
                        refine gIcmp_ge X w d5_43 (n := 57) (n' := 46) (by decide) rfl rfl ?_ ?_
                        · intro c43
                          refine gAloadN X w d5_57 rfl rfl (n := 58) rfl ?_
                          refine gIloadN X w d5_58 rfl (n := 59) rfl ?_
                          refine gIconst X w d5_59 (z := (1 : Int32)) rfl (n := 60) rfl ?_
                          refine gIadd X w d5_60 (z := (1 : Int32)) (by decide) (n := 61) rfl ?_
                          refine gIload X w d5_61 rfl (n := 63) rfl ?_
                          refine gIastore X w (z := (.int z3)) V53 (by decide) (show (1 : Int) < ((4 : Nat) : Int) from by decide) na rfl (vs' := [(.int z0), (.int z3), (.int z1), (.int z2)]) rfl d5_63 (n := 64) rfl ?_
                          intro T hp63 X W63 V63
                          have Kc3 := Kc2.wr W63 (Or.inl (List.mem_singleton.mpr rfl))
                          refine gGoto X w d5_64 (by decide) (n := 3) rfl ?_
                          refine gIinc X w d5_3 rfl (z := (4 : Int32)) (by decide) #[.val (.ref a), .val (.int (0 : Int32)), .val (.int (4 : Int32)), .val (.int (0 : Int32)), .val (.int (4 : Int32)), .val (.int z3)] rfl (n := 6) rfl ?_
                          refine gIload X w d5_6 rfl (n := 8) rfl ?_
                          refine gIloadN X w d5_8 rfl (n := 9) rfl ?_
                          refine gIcmp_ge X w d5_9 (n := 67) (n' := 12) (by decide) rfl rfl ?_ ?_
                          · intro c9
                            exact gRetV X w rfl d5_67 (by decide) (by decide) (⟨rfl, Kc3, z0, z3, z1, z2, V63, by omega, by omega, by omega, fun y => by simp only [← Int32.toInt_inj] <;> omega⟩)
                          · intro c9
                            exact absurd c9 (by decide)
                        · intro c43
                          refine gAloadN X w d5_46 rfl rfl (n := 47) rfl ?_
                          refine gIloadN X w d5_47 rfl (n := 48) rfl ?_
                          refine gIconst X w d5_48 (z := (1 : Int32)) rfl (n := 49) rfl ?_
                          refine gIadd X w d5_49 (z := (1 : Int32)) (by decide) (n := 50) rfl ?_
                          refine gAloadN X w d5_50 rfl rfl (n := 51) rfl ?_
                          refine gIloadN X w d5_51 rfl (n := 52) rfl ?_
                          refine gIaload X w V53 (by decide) rfl d5_52 (n := 53) rfl ?_
                          refine gIastore X w (z := (.int z0)) V53 (by decide) (show (1 : Int) < ((4 : Nat) : Int) from by decide) na rfl (vs' := [(.int z0), (.int z0), (.int z1), (.int z2)]) rfl d5_53 (n := 54) rfl ?_
                          intro T hp53 X W53 V53
                          have Kc3 := Kc2.wr W53 (Or.inl (List.mem_singleton.mpr rfl))
                          refine gGoto X w d5_54 (by decide) (n := 30) rfl ?_
                          refine gIinc X w d5_30 rfl (z := (-1 : Int32)) (by decide) #[.val (.ref a), .val (.int (0 : Int32)), .val (.int (4 : Int32)), .val (.int (-1 : Int32)), .val (.int (3 : Int32)), .val (.int z3)] rfl (n := 33) rfl ?_
                          refine gIloadN X w d5_33 rfl (n := 34) rfl ?_
                          refine gIloadN X w d5_34 rfl (n := 35) rfl ?_
                          refine gIcmp_lt X w d5_35 (n := 57) (n' := 38) (by decide) rfl rfl ?_ ?_
                          · intro c35
                            refine gAloadN X w d5_57 rfl rfl (n := 58) rfl ?_
                            refine gIloadN X w d5_58 rfl (n := 59) rfl ?_
                            refine gIconst X w d5_59 (z := (1 : Int32)) rfl (n := 60) rfl ?_
                            refine gIadd X w d5_60 (z := (0 : Int32)) (by decide) (n := 61) rfl ?_
                            refine gIload X w d5_61 rfl (n := 63) rfl ?_
                            refine gIastore X w (z := (.int z3)) V53 (by decide) (show (0 : Int) < ((4 : Nat) : Int) from by decide) na rfl (vs' := [(.int z3), (.int z0), (.int z1), (.int z2)]) rfl d5_63 (n := 64) rfl ?_
                            intro T hp63 X W63 V63
                            have Kc4 := Kc3.wr W63 (Or.inl (List.mem_singleton.mpr rfl))
                            refine gGoto X w d5_64 (by decide) (n := 3) rfl ?_
                            refine gIinc X w d5_3 rfl (z := (4 : Int32)) (by decide) #[.val (.ref a), .val (.int (0 : Int32)), .val (.int (4 : Int32)), .val (.int (-1 : Int32)), .val (.int (4 : Int32)), .val (.int z3)] rfl (n := 6) rfl ?_
                            refine gIload X w d5_6 rfl (n := 8) rfl ?_
                            refine gIloadN X w d5_8 rfl (n := 9) rfl ?_
                            refine gIcmp_ge X w d5_9 (n := 67) (n' := 12) (by decide) rfl rfl ?_ ?_
                            · intro c9
                              exact gRetV X w rfl d5_67 (by decide) (by decide) (⟨rfl, Kc4, z3, z0, z1, z2, V63, by omega, by omega, by omega, fun y => by simp only [← Int32.toInt_inj] <;> omega⟩)
                            · intro c9
                              exact absurd c9 (by decide)
                          · intro c35
                            exact absurd c35 (by decide)
        · intro c27
          refine gIinc X w d5_30 rfl (z := (1 : Int32)) (by decide) #[.val (.ref a), .val (.int (0 : Int32)), .val (.int (4 : Int32)), .val (.int (1 : Int32)), .val (.int (2 : Int32)), .val (.int z2)] rfl (n := 33) rfl ?_
          refine gIloadN X w d5_33 rfl (n := 34) rfl ?_
          refine gIloadN X w d5_34 rfl (n := 35) rfl ?_
          refine gIcmp_lt X w d5_35 (n := 57) (n' := 38) (by decide) rfl rfl ?_ ?_
          · intro c35
            exact absurd c35 (by decide)
          · intro c35
            refine gIload X w d5_38 rfl (n := 40) rfl ?_
            refine gAloadN X w d5_40 rfl rfl (n := 41) rfl ?_
            refine gIloadN X w d5_41 rfl (n := 42) rfl ?_
            refine gIaload X w V (by decide) rfl d5_42 (n := 43) rfl ?_
            refine gIcmp_ge X w d5_43 (n := 57) (n' := 46) (by decide) rfl rfl ?_ ?_
            · intro c43
              refine gAloadN X w d5_57 rfl rfl (n := 58) rfl ?_
              refine gIloadN X w d5_58 rfl (n := 59) rfl ?_
              refine gIconst X w d5_59 (z := (1 : Int32)) rfl (n := 60) rfl ?_
              refine gIadd X w d5_60 (z := (2 : Int32)) (by decide) (n := 61) rfl ?_
              refine gIload X w d5_61 rfl (n := 63) rfl ?_
              refine gIastore X w (z := (.int z2)) V (by decide) (show (2 : Int) < ((4 : Nat) : Int) from by decide) na rfl (vs' := [(.int z0), (.int z1), (.int z2), (.int z3)]) rfl d5_63 (n := 64) rfl ?_
              intro T hp63 X W63 V63
              have Kc1 := (Keep.refl _ [a]).wr W63 (Or.inl (List.mem_singleton.mpr rfl))
              refine gGoto X w d5_64 (by decide) (n := 3) rfl ?_
              refine gIinc X w d5_3 rfl (z := (3 : Int32)) (by decide) #[.val (.ref a), .val (.int (0 : Int32)), .val (.int (4 : Int32)), .val (.int (1 : Int32)), .val (.int (3 : Int32)), .val (.int z2)] rfl (n := 6) rfl ?_
              refine gIload X w d5_6 rfl (n := 8) rfl ?_
              refine gIloadN X w d5_8 rfl (n := 9) rfl ?_
              refine gIcmp_ge X w d5_9 (n := 67) (n' := 12) (by decide) rfl rfl ?_ ?_
              · intro c9
                exact absurd c9 (by decide)
              · intro c9
                refine gAloadN X w d5_12 rfl rfl (n := 13) rfl ?_
                refine gIload X w d5_13 rfl (n := 15) rfl ?_
                refine gDup X w d5_15 rfl (n := 16) rfl ?_
                refine gIstoreN X w d5_16 #[.val (.ref a), .val (.int (0 : Int32)), .val (.int (4 : Int32)), .val (.int (3 : Int32)), .val (.int (3 : Int32)), .val (.int z2)] rfl (n := 17) rfl ?_
                refine gIaload X w V63 (by decide) rfl d5_17 (n := 18) rfl ?_
                refine gIstore X w d5_18 #[.val (.ref a), .val (.int (0 : Int32)), .val (.int (4 : Int32)), .val (.int (3 : Int32)), .val (.int (3 : Int32)), .val (.int z3)] rfl (n := 20) rfl ?_
                refine gIload X w d5_20 rfl (n := 22) rfl ?_
                refine gAloadN X w d5_22 rfl rfl (n := 23) rfl ?_
                refine gIloadN X w d5_23 rfl (n := 24) rfl ?_
                refine gIconst X w d5_24 (z := (1 : Int32)) rfl (n := 25) rfl ?_
                refine gIsub X w d5_25 (z := (2 : Int32)) (by decide) (n := 26) rfl ?_
                refine gIaload X w V63 (by decide) rfl d5_26 (n := 27) rfl ?_
                refine gIcmp_ge X w d5_27 (n := 64) (n' := 30) (by decide) rfl rfl ?_ ?_
                · intro c27
                  refine gGoto X w d5_64 (by decide) (n := 3) rfl ?_
                  refine gIinc X w d5_3 rfl (z := (4 : Int32)) (by decide) #[.val (.ref a), .val (.int (0 : Int32)), .val (.int (4 : Int32)), .val (.int (3 : Int32)), .val (.int (4 : Int32)), .val (.int z3)] rfl (n := 6) rfl ?_
                  refine gIload X w d5_6 rfl (n := 8) rfl ?_
                  refine gIloadN X w d5_8 rfl (n := 9) rfl ?_
                  refine gIcmp_ge X w d5_9 (n := 67) (n' := 12) (by decide) rfl rfl ?_ ?_
                  · intro c9
                    exact gRetV X w rfl d5_67 (by decide) (by decide) (⟨rfl, Kc1, z0, z1, z2, z3, V63, by omega, by omega, by omega, fun y => by simp only [← Int32.toInt_inj] <;> omega⟩)
                  · intro c9
                    exact absurd c9 (by decide)
                · intro c27
                  refine gIinc X w d5_30 rfl (z := (2 : Int32)) (by decide) #[.val (.ref a), .val (.int (0 : Int32)), .val (.int (4 : Int32)), .val (.int (2 : Int32)), .val (.int (3 : Int32)), .val (.int z3)] rfl (n := 33) rfl ?_
                  refine gIloadN X w d5_33 rfl (n := 34) rfl ?_
                  refine gIloadN X w d5_34 rfl (n := 35) rfl ?_
                  refine gIcmp_lt X w d5_35 (n := 57) (n' := 38) (by decide) rfl rfl ?_ ?_
                  · intro c35
                    exact absurd c35 (by decide)
                  · intro c35
                    refine gIload X w d5_38 rfl (n := 40) rfl ?_
                    refine gAloadN X w d5_40 rfl rfl (n := 41) rfl ?_
                    refine gIloadN X w d5_41 rfl (n := 42) rfl ?_
                    refine gIaload X w V63 (by decide) rfl d5_42 (n := 43) rfl ?_
                    refine gIcmp_ge X w d5_43 (n := 57) (n' := 46) (by decide) rfl rfl ?_ ?_
                    · intro c43
                      refine gAloadN X w d5_57 rfl rfl (n := 58) rfl ?_
                      refine gIloadN X w d5_58 rfl (n := 59) rfl ?_
                      refine gIconst X w d5_59 (z := (1 : Int32)) rfl (n := 60) rfl ?_
                      refine gIadd X w d5_60 (z := (3 : Int32)) (by decide) (n := 61) rfl ?_
                      refine gIload X w d5_61 rfl (n := 63) rfl ?_
                      refine gIastore X w (z := (.int z3)) V63 (by decide) (show (3 : Int) < ((4 : Nat) : Int) from by decide) na rfl (vs' := [(.int z0), (.int z1), (.int z2), (.int z3)]) rfl d5_63 (n := 64) rfl ?_
                      intro T hp63 X W63 V63
                      have Kc2 := Kc1.wr W63 (Or.inl (List.mem_singleton.mpr rfl))
                      refine gGoto X w d5_64 (by decide) (n := 3) rfl ?_
                      refine gIinc X w d5_3 rfl (z := (4 : Int32)) (by decide) #[.val (.ref a), .val (.int (0 : Int32)), .val (.int (4 : Int32)), .val (.int (2 : Int32)), .val (.int (4 : Int32)), .val (.int z3)] rfl (n := 6) rfl ?_
                      refine gIload X w d5_6 rfl (n := 8) rfl ?_
                      refine gIloadN X w d5_8 rfl (n := 9) rfl ?_
                      refine gIcmp_ge X w d5_9 (n := 67) (n' := 12) (by decide) rfl rfl ?_ ?_
                      · intro c9
                        exact gRetV X w rfl d5_67 (by decide) (by decide) (⟨rfl, Kc2, z0, z1, z2, z3, V63, by omega, by omega, by omega, fun y => by simp only [← Int32.toInt_inj] <;> omega⟩)
                      · intro c9
                        exact absurd c9 (by decide)
                    · intro c43
                      refine gAloadN X w d5_46 rfl rfl (n := 47) rfl ?_
                      refine gIloadN X w d5_47 rfl (n := 48) rfl ?_
                      refine gIconst X w d5_48 (z := (1 : Int32)) rfl (n := 49) rfl ?_
                      refine gIadd X w d5_49 (z := (3 : Int32)) (by decide) (n := 50) rfl ?_
                      refine gAloadN X w d5_50 rfl rfl (n := 51) rfl ?_
                      refine gIloadN X w d5_51 rfl (n := 52) rfl ?_
                      refine gIaload X w V63 (by decide) rfl d5_52 (n := 53) rfl ?_
                      refine gIastore X w (z := (.int z2)) V63 (by decide) (show (3 : Int) < ((4 : Nat) : Int) from by decide) na rfl (vs' := [(.int z0), (.int z1), (.int z2), (.int z2)]) rfl d5_53 (n := 54) rfl ?_
                      intro T hp53 X W53 V53
                      have Kc2 := Kc1.wr W53 (Or.inl (List.mem_singleton.mpr rfl))
                      refine gGoto X w d5_54 (by decide) (n := 30) rfl ?_
                      refine gIinc X w d5_30 rfl (z := (1 : Int32)) (by decide) #[.val (.ref a), .val (.int (0 : Int32)), .val (.int (4 : Int32)), .val (.int (1 : Int32)), .val (.int (3 : Int32)), .val (.int z3)] rfl (n := 33) rfl ?_
                      refine gIloadN X w d5_33 rfl (n := 34) rfl ?_
                      refine gIloadN X w d5_34 rfl (n := 35) rfl ?_
                      refine gIcmp_lt X w d5_35 (n := 57) (n' := 38) (by decide) rfl rfl ?_ ?_
                      · intro c35
                        exact absurd c35 (by decide)
                      · intro c35
                        refine gIload X w d5_38 rfl (n := 40) rfl ?_
                        refine gAloadN X w d5_40 rfl rfl (n := 41) rfl ?_
                        refine gIloadN X w d5_41 rfl (n := 42) rfl ?_
                        refine gIaload X w V53 (by decide) rfl d5_42 (n := 43) rfl ?_
                        refine gIcmp_ge X w d5_43 (n := 57) (n' := 46) (by decide) rfl rfl ?_ ?_
                        · intro c43
                          refine gAloadN X w d5_57 rfl rfl (n := 58) rfl ?_
                          refine gIloadN X w d5_58 rfl (n := 59) rfl ?_
                          refine gIconst X w d5_59 (z := (1 : Int32)) rfl (n := 60) rfl ?_
                          refine gIadd X w d5_60 (z := (2 : Int32)) (by decide) (n := 61) rfl ?_
                          refine gIload X w d5_61 rfl (n := 63) rfl ?_
                          refine gIastore X w (z := (.int z3)) V53 (by decide) (show (2 : Int) < ((4 : Nat) : Int) from by decide) na rfl (vs' := [(.int z0), (.int z1), (.int z3), (.int z2)]) rfl d5_63 (n := 64) rfl ?_
                          intro T hp63 X W63 V63
                          have Kc3 := Kc2.wr W63 (Or.inl (List.mem_singleton.mpr rfl))
                          refine gGoto X w d5_64 (by decide) (n := 3) rfl ?_
                          refine gIinc X w d5_3 rfl (z := (4 : Int32)) (by decide) #[.val (.ref a), .val (.int (0 : Int32)), .val (.int (4 : Int32)), .val (.int (1 : Int32)), .val (.int (4 : Int32)), .val (.int z3)] rfl (n := 6) rfl ?_
                          refine gIload X w d5_6 rfl (n := 8) rfl ?_
                          refine gIloadN X w d5_8 rfl (n := 9) rfl ?_
                          refine gIcmp_ge X w d5_9 (n := 67) (n' := 12) (by decide) rfl rfl ?_ ?_
                          · intro c9
                            exact gRetV X w rfl d5_67 (by decide) (by decide) (⟨rfl, Kc3, z0, z1, z3, z2, V63, by omega, by omega, by omega, fun y => by simp only [← Int32.toInt_inj] <;> omega⟩)
                          · intro c9
                            exact absurd c9 (by decide)
                        · intro c43
                          refine gAloadN X w d5_46 rfl rfl (n := 47) rfl ?_
                          refine gIloadN X w d5_47 rfl (n := 48) rfl ?_
                          refine gIconst X w d5_48 (z := (1 : Int32)) rfl (n := 49) rfl ?_
                          refine gIadd X w d5_49 (z := (2 : Int32)) (by decide) (n := 50) rfl ?_
                          refine gAloadN X w d5_50 rfl rfl (n := 51) rfl ?_
                          refine gIloadN X w d5_51 rfl (n := 52) rfl ?_
                          refine gIaload X w V53 (by decide) rfl d5_52 (n := 53) rfl ?_
                          refine gIastore X w (z := (.int z1)) V53 (by decide) (show (2 : Int) < ((4 : Nat) : Int) from by decide) na rfl (vs' := [(.int z0), (.int z1), (.int z1), (.int z2)]) rfl d5_53 (n := 54) rfl ?_
                          intro T hp53 X W53 V53
                          have Kc3 := Kc2.wr W53 (Or.inl (List.mem_singleton.mpr rfl))
                          refine gGoto X w d5_54 (by decide) (n := 30) rfl ?_
                          refine gIinc X w d5_30 rfl (z := (0 : Int32)) (by decide) #[.val (.ref a), .val (.int (0 : Int32)), .val (.int (4 : Int32)), .val (.int (0 : Int32)), .val (.int (3 : Int32)), .val (.int z3)] rfl (n := 33) rfl ?_
                          refine gIloadN X w d5_33 rfl (n := 34) rfl ?_
                          refine gIloadN X w d5_34 rfl (n := 35) rfl ?_
                          refine gIcmp_lt X w d5_35 (n := 57) (n' := 38) (by decide) rfl rfl ?_ ?_
                          · intro c35
                            exact absurd c35 (by decide)
                          · intro c35
                            refine gIload X w d5_38 rfl (n := 40) rfl ?_
                            refine gAloadN X w d5_40 rfl rfl (n := 41) rfl ?_
                            refine gIloadN X w d5_41 rfl (n := 42) rfl ?_
                            refine gIaload X w V53 (by decide) rfl d5_42 (n := 43) rfl ?_
                            refine gIcmp_ge X w d5_43 (n := 57) (n' := 46) (by decide) rfl rfl ?_ ?_
                            · intro c43
                              refine gAloadN X w d5_57 rfl rfl (n := 58) rfl ?_
                              refine gIloadN X w d5_58 rfl (n := 59) rfl ?_
                              refine gIconst X w d5_59 (z := (1 : Int32)) rfl (n := 60) rfl ?_
                              refine gIadd X w d5_60 (z := (1 : Int32)) (by decide) (n := 61) rfl ?_
                              refine gIload X w d5_61 rfl (n := 63) rfl ?_
                              refine gIastore X w (z := (.int z3)) V53 (by decide) (show (1 : Int) < ((4 : Nat) : Int) from by decide) na rfl (vs' := [(.int z0), (.int z3), (.int z1), (.int z2)]) rfl d5_63 (n := 64) rfl ?_
                              intro T hp63 X W63 V63
                              have Kc4 := Kc3.wr W63 (Or.inl (List.mem_singleton.mpr rfl))
                              refine gGoto X w d5_64 (by decide) (n := 3) rfl ?_
                              refine gIinc X w d5_3 rfl (z := (4 : Int32)) (by decide) #[.val (.ref a), .val (.int (0 : Int32)), .val (.int (4 : Int32)), .val (.int (0 : Int32)), .val (.int (4 : Int32)), .val (.int z3)] rfl (n := 6) rfl ?_
                              refine gIload X w d5_6 rfl (n := 8) rfl ?_
                              refine gIloadN X w d5_8 rfl (n := 9) rfl ?_
                              refine gIcmp_ge X w d5_9 (n := 67) (n' := 12) (by decide) rfl rfl ?_ ?_
                              · intro c9
                                exact gRetV X w rfl d5_67 (by decide) (by decide) (⟨rfl, Kc4, z0, z3, z1, z2, V63, by omega, by omega, by omega, fun y => by simp only [← Int32.toInt_inj] <;> omega⟩)
                              · intro c9
                                exact absurd c9 (by decide)
                            · intro c43
                              refine gAloadN X w d5_46 rfl rfl (n := 47) rfl ?_
                              refine gIloadN X w d5_47 rfl (n := 48) rfl ?_
                              refine gIconst X w d5_48 (z := (1 : Int32)) rfl (n := 49) rfl ?_
                              refine gIadd X w d5_49 (z := (1 : Int32)) (by decide) (n := 50) rfl ?_
                              refine gAloadN X w d5_50 rfl rfl (n := 51) rfl ?_
                              refine gIloadN X w d5_51 rfl (n := 52) rfl ?_
                              refine gIaload X w V53 (by decide) rfl d5_52 (n := 53) rfl ?_
                              refine gIastore X w (z := (.int z0)) V53 (by decide) (show (1 : Int) < ((4 : Nat) : Int) from by decide) na rfl (vs' := [(.int z0), (.int z0), (.int z1), (.int z2)]) rfl d5_53 (n := 54) rfl ?_
                              intro T hp53 X W53 V53
                              have Kc4 := Kc3.wr W53 (Or.inl (List.mem_singleton.mpr rfl))
                              refine gGoto X w d5_54 (by decide) (n := 30) rfl ?_
                              refine gIinc X w d5_30 rfl (z := (-1 : Int32)) (by decide) #[.val (.ref a), .val (.int (0 : Int32)), .val (.int (4 : Int32)), .val (.int (-1 : Int32)), .val (.int (3 : Int32)), .val (.int z3)] rfl (n := 33) rfl ?_
                              refine gIloadN X w d5_33 rfl (n := 34) rfl ?_
                              refine gIloadN X w d5_34 rfl (n := 35) rfl ?_
                              refine gIcmp_lt X w d5_35 (n := 57) (n' := 38) (by decide) rfl rfl ?_ ?_
                              · intro c35
                                refine gAloadN X w d5_57 rfl rfl (n := 58) rfl ?_
                                refine gIloadN X w d5_58 rfl (n := 59) rfl ?_
                                refine gIconst X w d5_59 (z := (1 : Int32)) rfl (n := 60) rfl ?_
                                refine gIadd X w d5_60 (z := (0 : Int32)) (by decide) (n := 61) rfl ?_
                                refine gIload X w d5_61 rfl (n := 63) rfl ?_
                                refine gIastore X w (z := (.int z3)) V53 (by decide) (show (0 : Int) < ((4 : Nat) : Int) from by decide) na rfl (vs' := [(.int z3), (.int z0), (.int z1), (.int z2)]) rfl d5_63 (n := 64) rfl ?_
                                intro T hp63 X W63 V63
                                have Kc5 := Kc4.wr W63 (Or.inl (List.mem_singleton.mpr rfl))
                                refine gGoto X w d5_64 (by decide) (n := 3) rfl ?_
                                refine gIinc X w d5_3 rfl (z := (4 : Int32)) (by decide) #[.val (.ref a), .val (.int (0 : Int32)), .val (.int (4 : Int32)), .val (.int (-1 : Int32)), .val (.int (4 : Int32)), .val (.int z3)] rfl (n := 6) rfl ?_
                                refine gIload X w d5_6 rfl (n := 8) rfl ?_
                                refine gIloadN X w d5_8 rfl (n := 9) rfl ?_
                                refine gIcmp_ge X w d5_9 (n := 67) (n' := 12) (by decide) rfl rfl ?_ ?_
                                · intro c9
                                  exact gRetV X w rfl d5_67 (by decide) (by decide) (⟨rfl, Kc5, z3, z0, z1, z2, V63, by omega, by omega, by omega, fun y => by simp only [← Int32.toInt_inj] <;> omega⟩)
                                · intro c9
                                  exact absurd c9 (by decide)
                              · intro c35
                                exact absurd c35 (by decide)
            · intro c43
              refine gAloadN X w d5_46 rfl rfl (n := 47) rfl ?_
              refine gIloadN X w d5_47 rfl (n := 48) rfl ?_
              refine gIconst X w d5_48 (z := (1 : Int32)) rfl (n := 49) rfl ?_
              refine gIadd X w d5_49 (z := (2 : Int32)) (by decide) (n := 50) rfl ?_
              refine gAloadN X w d5_50 rfl rfl (n := 51) rfl ?_
              refine gIloadN X w d5_51 rfl (n := 52) rfl ?_
              refine gIaload X w V (by decide) rfl d5_52 (n := 53) rfl ?_
              refine gIastore X w (z := (.int z1)) V (by decide) (show (2 : Int) < ((4 : Nat) : Int) from by decide) na rfl (vs' := [(.int z0), (.int z1), (.int z1), (.int z3)]) rfl d5_53 (n := 54) rfl ?_
              intro T hp53 X W53 V53
              have Kc1 := (Keep.refl _ [a]).wr W53 (Or.inl (List.mem_singleton.mpr rfl))
              refine gGoto X w d5_54 (by decide) (n := 30) rfl ?_
              refine gIinc X w d5_30 rfl (z := (0 : Int32)) (by decide) #[.val (.ref a), .val (.int (0 : Int32)), .val (.int (4 : Int32)), .val (.int (0 : Int32)), .val (.int (2 : Int32)), .val (.int z2)] rfl (n := 33) rfl ?_
              refine gIloadN X w d5_33 rfl (n := 34) rfl ?_
              refine gIloadN X w d5_34 rfl (n := 35) rfl ?_
              refine gIcmp_lt X w d5_35 (n := 57) (n' := 38) (by decide) rfl rfl ?_ ?_
              · intro c35
                exact absurd c35 (by decide)
              · intro c35
                refine gIload X w d5_38 rfl (n := 40) rfl ?_
                refine gAloadN X w d5_40 rfl rfl (n := 41) rfl ?_
                refine gIloadN X w d5_41 rfl (n := 42) rfl ?_
                refine gIaload X w V53 (by decide) rfl d5_42 (n := 43) rfl ?_
                refine gIcmp_ge X w d5_43 (n := 57) (n' := 46) (by decide) rfl rfl ?_ ?_
                · intro c43
                  refine gAloadN X w d5_57 rfl rfl (n := 58) rfl ?_
                  refine gIloadN X w d5_58 rfl (n := 59) rfl ?_
                  refine gIconst X w d5_59 (z := (1 : Int32)) rfl (n := 60) rfl ?_
                  refine gIadd X w d5_60 (z := (1 : Int32)) (by decide) (n := 61) rfl ?_
                  refine gIload X w d5_61 rfl (n := 63) rfl ?_
                  refine gIastore X w (z := (.int z2)) V53 (by decide) (show (1 : Int) < ((4 : Nat) : Int) from by decide) na rfl (vs' := [(.int z0), (.int z2), (.int z1), (.int z3)]) rfl d5_63 (n := 64) rfl ?_
                  intro T hp63 X W63 V63
                  have Kc2 := Kc1.wr W63 (Or.inl (List.mem_singleton.mpr rfl))
                  refine gGoto X w d5_64 (by decide) (n := 3) rfl ?_
                  refine gIinc X w d5_3 rfl (z := (3 : Int32)) (by decide) #[.val (.ref a), .val (.int (0 : Int32)), .val (.int (4 : Int32)), .val (.int (0 : Int32)), .val (.int (3 : Int32)), .val (.int z2)] rfl (n := 6) rfl ?_
                  refine gIload X w d5_6 rfl (n := 8) rfl ?_
                  refine gIloadN X w d5_8 rfl (n := 9) rfl ?_
                  refine gIcmp_ge X w d5_9 (n := 67) (n' := 12) (by decide) rfl rfl ?_ ?_
                  · intro c9
                    exact absurd c9 (by decide)
                  · intro c9
                    refine gAloadN X w d5_12 rfl rfl (n := 13) rfl ?_
                    refine gIload X w d5_13 rfl (n := 15) rfl ?_
                    refine gDup X w d5_15 rfl (n := 16) rfl ?_
                    refine gIstoreN X w d5_16 #[.val (.ref a), .val (.int (0 : Int32)), .val (.int (4 : Int32)), .val (.int (3 : Int32)), .val (.int (3 : Int32)), .val (.int z2)] rfl (n := 17) rfl ?_
                    refine gIaload X w V63 (by decide) rfl d5_17 (n := 18) rfl ?_
                    refine gIstore X w d5_18 #[.val (.ref a), .val (.int (0 : Int32)), .val (.int (4 : Int32)), .val (.int (3 : Int32)), .val (.int (3 : Int32)), .val (.int z3)] rfl (n := 20) rfl ?_
                    refine gIload X w d5_20 rfl (n := 22) rfl ?_
                    refine gAloadN X w d5_22 rfl rfl (n := 23) rfl ?_
                    refine gIloadN X w d5_23 rfl (n := 24) rfl ?_
                    refine gIconst X w d5_24 (z := (1 : Int32)) rfl (n := 25) rfl ?_
                    refine gIsub X w d5_25 (z := (2 : Int32)) (by decide) (n := 26) rfl ?_
                    refine gIaload X w V63 (by decide) rfl d5_26 (n := 27) rfl ?_
                    refine gIcmp_ge X w d5_27 (n := 64) (n' := 30) (by decide) rfl rfl ?_ ?_
                    · intro c27
                      refine gGoto X w d5_64 (by decide) (n := 3) rfl ?_
                      refine gIinc X w d5_3 rfl (z := (4 : Int32)) (by decide) #[.val (.ref a), .val (.int (0 : Int32)), .val (.int (4 : Int32)), .val (.int (3 : Int32)), .val (.int (4 : Int32)), .val (.int z3)] rfl (n := 6) rfl ?_
                      refine gIload X w d5_6 rfl (n := 8) rfl ?_
                      refine gIloadN X w d5_8 rfl (n := 9) rfl ?_
                      refine gIcmp_ge X w d5_9 (n := 67) (n' := 12) (by decide) rfl rfl ?_ ?_
                      · intro c9
                        exact gRetV X w rfl d5_67 (by decide) (by decide) (⟨rfl, Kc2, z0, z2, z1, z3, V63, by omega, by omega, by omega, fun y => by simp only [← Int32.toInt_inj] <;> omega⟩)
                      · intro c9
                        exact absurd c9 (by decide)
                    · intro c27
                      refine gIinc X w d5_30 rfl (z := (2 : Int32)) (by decide) #[.val (.ref a), .val (.int (0 : Int32)), .val (.int (4 : Int32)), .val (.int (2 : Int32)), .val (.int (3 : Int32)), .val (.int z3)] rfl (n := 33) rfl ?_
                      refine gIloadN X w d5_33 rfl (n := 34) rfl ?_
                      refine gIloadN X w d5_34 rfl (n := 35) rfl ?_
                      refine gIcmp_lt X w d5_35 (n := 57) (n' := 38) (by decide) rfl rfl ?_ ?_
                      · intro c35
                        exact absurd c35 (by decide)
                      · intro c35
                        refine gIload X w d5_38 rfl (n := 40) rfl ?_
                        refine gAloadN X w d5_40 rfl rfl (n := 41) rfl ?_
                        refine gIloadN X w d5_41 rfl (n := 42) rfl ?_
                        refine gIaload X w V63 (by decide) rfl d5_42 (n := 43) rfl ?_
                        refine gIcmp_ge X w d5_43 (n := 57) (n' := 46) (by decide) rfl rfl ?_ ?_
                        · intro c43
                          refine gAloadN X w d5_57 rfl rfl (n := 58) rfl ?_
                          refine gIloadN X w d5_58 rfl (n := 59) rfl ?_
                          refine gIconst X w d5_59 (z := (1 : Int32)) rfl (n := 60) rfl ?_
                          refine gIadd X w d5_60 (z := (3 : Int32)) (by decide) (n := 61) rfl ?_
                          refine gIload X w d5_61 rfl (n := 63) rfl ?_
                          refine gIastore X w (z := (.int z3)) V63 (by decide) (show (3 : Int) < ((4 : Nat) : Int) from by decide) na rfl (vs' := [(.int z0), (.int z2), (.int z1), (.int z3)]) rfl d5_63 (n := 64) rfl ?_
                          intro T hp63 X W63 V63
                          have Kc3 := Kc2.wr W63 (Or.inl (List.mem_singleton.mpr rfl))
                          refine gGoto X w d5_64 (by decide) (n := 3) rfl ?_
                          refine gIinc X w d5_3 rfl (z := (4 : Int32)) (by decide) #[.val (.ref a), .val (.int (0 : Int32)), .val (.int (4 : Int32)), .val (.int (2 : Int32)), .val (.int (4 : Int32)), .val (.int z3)] rfl (n := 6) rfl ?_
                          refine gIload X w d5_6 rfl (n := 8) rfl ?_
                          refine gIloadN X w d5_8 rfl (n := 9) rfl ?_
                          refine gIcmp_ge X w d5_9 (n := 67) (n' := 12) (by decide) rfl rfl ?_ ?_
                          · intro c9
                            exact gRetV X w rfl d5_67 (by decide) (by decide) (⟨rfl, Kc3, z0, z2, z1, z3, V63, by omega, by omega, by omega, fun y => by simp only [← Int32.toInt_inj] <;> omega⟩)
                          · intro c9
                            exact absurd c9 (by decide)
                        · intro c43
                          refine gAloadN X w d5_46 rfl rfl (n := 47) rfl ?_
                          refine gIloadN X w d5_47 rfl (n := 48) rfl ?_
                          refine gIconst X w d5_48 (z := (1 : Int32)) rfl (n := 49) rfl ?_
                          refine gIadd X w d5_49 (z := (3 : Int32)) (by decide) (n := 50) rfl ?_
                          refine gAloadN X w d5_50 rfl rfl (n := 51) rfl ?_
                          refine gIloadN X w d5_51 rfl (n := 52) rfl ?_
                          refine gIaload X w V63 (by decide) rfl d5_52 (n := 53) rfl ?_
                          refine gIastore X w (z := (.int z1)) V63 (by decide) (show (3 : Int) < ((4 : Nat) : Int) from by decide) na rfl (vs' := [(.int z0), (.int z2), (.int z1), (.int z1)]) rfl d5_53 (n := 54) rfl ?_
                          intro T hp53 X W53 V53
                          have Kc3 := Kc2.wr W53 (Or.inl (List.mem_singleton.mpr rfl))
                          refine gGoto X w d5_54 (by decide) (n := 30) rfl ?_
                          refine gIinc X w d5_30 rfl (z := (1 : Int32)) (by decide) #[.val (.ref a), .val (.int (0 : Int32)), .val (.int (4 : Int32)), .val (.int (1 : Int32)), .val (.int (3 : Int32)), .val (.int z3)] rfl (n := 33) rfl ?_
                          refine gIloadN X w d5_33 rfl (n := 34) rfl ?_
                          refine gIloadN X w d5_34 rfl (n := 35) rfl ?_
                          refine gIcmp_lt X w d5_35 (n := 57) (n' := 38) (by decide) rfl rfl ?_ ?_
                          · intro c35
                            exact absurd c35 (by decide)
                          · intro c35
                            refine gIload X w d5_38 rfl (n := 40) rfl ?_
                            refine gAloadN X w d5_40 rfl rfl (n := 41) rfl ?_
                            refine gIloadN X w d5_41 rfl (n := 42) rfl ?_
                            refine gIaload X w V53 (by decide) rfl d5_42 (n := 43) rfl ?_
                            refine gIcmp_ge X w d5_43 (n := 57) (n' := 46) (by decide) rfl rfl ?_ ?_
                            · intro c43
                              refine gAloadN X w d5_57 rfl rfl (n := 58) rfl ?_
                              refine gIloadN X w d5_58 rfl (n := 59) rfl ?_
                              refine gIconst X w d5_59 (z := (1 : Int32)) rfl (n := 60) rfl ?_
                              refine gIadd X w d5_60 (z := (2 : Int32)) (by decide) (n := 61) rfl ?_
                              refine gIload X w d5_61 rfl (n := 63) rfl ?_
                              refine gIastore X w (z := (.int z3)) V53 (by decide) (show (2 : Int) < ((4 : Nat) : Int) from by decide) na rfl (vs' := [(.int z0), (.int z2), (.int z3), (.int z1)]) rfl d5_63 (n := 64) rfl ?_
                              intro T hp63 X W63 V63
                              have Kc4 := Kc3.wr W63 (Or.inl (List.mem_singleton.mpr rfl))
                              refine gGoto X w d5_64 (by decide) (n := 3) rfl ?_
                              refine gIinc X w d5_3 rfl (z := (4 : Int32)) (by decide) #[.val (.ref a), .val (.int (0 : Int32)), .val (.int (4 : Int32)), .val (.int (1 : Int32)), .val (.int (4 : Int32)), .val (.int z3)] rfl (n := 6) rfl ?_
                              refine gIload X w d5_6 rfl (n := 8) rfl ?_
                              refine gIloadN X w d5_8 rfl (n := 9) rfl ?_
                              refine gIcmp_ge X w d5_9 (n := 67) (n' := 12) (by decide) rfl rfl ?_ ?_
                              · intro c9
                                exact gRetV X w rfl d5_67 (by decide) (by decide) (⟨rfl, Kc4, z0, z2, z3, z1, V63, by omega, by omega, by omega, fun y => by simp only [← Int32.toInt_inj] <;> omega⟩)
                              · intro c9
                                exact absurd c9 (by decide)
                            · intro c43
                              refine gAloadN X w d5_46 rfl rfl (n := 47) rfl ?_
                              refine gIloadN X w d5_47 rfl (n := 48) rfl ?_
                              refine gIconst X w d5_48 (z := (1 : Int32)) rfl (n := 49) rfl ?_
                              refine gIadd X w d5_49 (z := (2 : Int32)) (by decide) (n := 50) rfl ?_
                              refine gAloadN X w d5_50 rfl rfl (n := 51) rfl ?_
                              refine gIloadN X w d5_51 rfl (n := 52) rfl ?_
                              refine gIaload X w V53 (by decide) rfl d5_52 (n := 53) rfl ?_
                              refine gIastore X w (z := (.int z2)) V53 (by decide) (show (2 : Int) < ((4 : Nat) : Int) from by decide) na rfl (vs' := [(.int z0), (.int z2), (.int z2), (.int z1)]) rfl d5_53 (n := 54) rfl ?_
                              intro T hp53 X W53 V53
                              have Kc4 := Kc3.wr W53 (Or.inl (List.mem_singleton.mpr rfl))
                              refine gGoto X w d5_54 (by decide) (n := 30) rfl ?_
                              refine gIinc X w d5_30 rfl (z := (0 : Int32)) (by decide) #[.val (.ref a), .val (.int (0 : Int32)), .val (.int (4 : Int32)), .val (.int (0 : Int32)), .val (.int (3 : Int32)), .val (.int z3)] rfl (n := 33) rfl ?_
                              refine gIloadN X w d5_33 rfl (n := 34) rfl ?_
                              refine gIloadN X w d5_34 rfl (n := 35) rfl ?_
                              refine gIcmp_lt X w d5_35 (n := 57) (n' := 38) (by decide) rfl rfl ?_ ?_
                              · intro c35
                                exact absurd c35 (by decide)
                              · intro c35
                                refine gIload X w d5_38 rfl (n := 40) rfl ?_
                                refine gAloadN X w d5_40 rfl rfl (n := 41) rfl ?_
                                refine gIloadN X w d5_41 rfl (n := 42) rfl ?_
                                refine gIaload X w V53 (by decide) rfl d5_42 (n := 43) rfl ?_
                                refine gIcmp_ge X w d5_43 (n := 57) (n' := 46) (by decide) rfl rfl ?_ ?_
                                · intro c43
                                  refine gAloadN X w d5_57 rfl rfl (n := 58) rfl ?_
                                  refine gIloadN X w d5_58 rfl (n := 59) rfl ?_
                                  refine gIconst X w d5_59 (z := (1 : Int32)) rfl (n := 60) rfl ?_
                                  refine gIadd X w d5_60 (z := (1 : Int32)) (by decide) (n := 61) rfl ?_
                                  refine gIload X w d5_61 rfl (n := 63) rfl ?_
                                  refine gIastore X w (z := (.int z3)) V53 (by decide) (show (1 : Int) < ((4 : Nat) : Int) from by decide) na rfl (vs' := [(.int z0), (.int z3), (.int z2), (.int z1)]) rfl d5_63 (n := 64) rfl ?_
                                  intro T hp63 X W63 V63
                                  have Kc5 := Kc4.wr W63 (Or.inl (List.mem_singleton.mpr rfl))
                                  refine gGoto X w d5_64 (by decide) (n := 3) rfl ?_
                                  refine gIinc X w d5_3 rfl (z := (4 : Int32)) (by decide) #[.val (.ref a), .val (.int (0 : Int32)), .val (.int (4 : Int32)), .val (.int (0 : Int32)), .val (.int (4 : Int32)), .val (.int z3)] rfl (n := 6) rfl ?_
                                  refine gIload X w d5_6 rfl (n := 8) rfl ?_
                                  refine gIloadN X w d5_8 rfl (n := 9) rfl ?_
                                  refine gIcmp_ge X w d5_9 (n := 67) (n' := 12) (by decide) rfl rfl ?_ ?_
                                  · intro c9
                                    exact gRetV X w rfl d5_67 (by decide) (by decide) (⟨rfl, Kc5, z0, z3, z2, z1, V63, by omega, by omega, by omega, fun y => by simp only [← Int32.toInt_inj] <;> omega⟩)
                                  · intro c9
                                    exact absurd c9 (by decide)
                                · intro c43
                                  refine gAloadN X w d5_46 rfl rfl (n := 47) rfl ?_
                                  refine gIloadN X w d5_47 rfl (n := 48) rfl ?_
                                  refine gIconst X w d5_48 (z := (1 : Int32)) rfl (n := 49) rfl ?_
                                  refine gIadd X w d5_49 (z := (1 : Int32)) (by decide) (n := 50) rfl ?_
                                  refine gAloadN X w d5_50 rfl rfl (n := 51) rfl ?_
                                  refine gIloadN X w d5_51 rfl (n := 52) rfl ?_
                                  refine gIaload X w V53 (by decide) rfl d5_52 (n := 53) rfl ?_
                                  refine gIastore X w (z := (.int z0)) V53 (by decide) (show (1 : Int) < ((4 : Nat) : Int) from by decide) na rfl (vs' := [(.int z0), (.int z0), (.int z2), (.int z1)]) rfl d5_53 (n := 54) rfl ?_
                                  intro T hp53 X W53 V53
                                  have Kc5 := Kc4.wr W53 (Or.inl (List.mem_singleton.mpr rfl))
                                  refine gGoto X w d5_54 (by decide) (n := 30) rfl ?_
                                  refine gIinc X w d5_30 rfl (z := (-1 : Int32)) (by decide) #[.val (.ref a), .val (.int (0 : Int32)), .val (.int (4 : Int32)), .val (.int (-1 : Int32)), .val (.int (3 : Int32)), .val (.int z3)] rfl (n := 33) rfl ?_
                                  refine gIloadN X w d5_33 rfl (n := 34) rfl ?_
                                  refine gIloadN X w d5_34 rfl (n := 35) rfl ?_
                                  refine gIcmp_lt X w d5_35 (n := 57) (n' := 38) (by decide) rfl rfl ?_ ?_
                                  · intro c35
                                    refine gAloadN X w d5_57 rfl rfl (n := 58) rfl ?_
                                    refine gIloadN X w d5_58 rfl (n := 59) rfl ?_
                                    refine gIconst X w d5_59 (z := (1 : Int32)) rfl (n := 60) rfl ?_
                                    refine gIadd X w d5_60 (z := (0 : Int32)) (by decide) (n := 61) rfl ?_
                                    refine gIload X w d5_61 rfl (n := 63) rfl ?_
                                    refine gIastore X w (z := (.int z3)) V53 (by decide) (show (0 : Int) < ((4 : Nat) : Int) from by decide) na rfl (vs' := [(.int z3), (.int z0), (.int z2), (.int z1)]) rfl d5_63 (n := 64) rfl ?_
                                    intro T hp63 X W63 V63
                                    have Kc6 := Kc5.wr W63 (Or.inl (List.mem_singleton.mpr rfl))
                                    refine gGoto X w d5_64 (by decide) (n := 3) rfl ?_
                                    refine gIinc X w d5_3 rfl (z := (4 : Int32)) (by decide) #[.val (.ref a), .val (.int (0 : Int32)), .val (.int (4 : Int32)), .val (.int (-1 : Int32)), .val (.int (4 : Int32)), .val (.int z3)] rfl (n := 6) rfl ?_
                                    refine gIload X w d5_6 rfl (n := 8) rfl ?_
                                    refine gIloadN X w d5_8 rfl (n := 9) rfl ?_
                                    refine gIcmp_ge X w d5_9 (n := 67) (n' := 12) (by decide) rfl rfl ?_ ?_
                                    · intro c9
                                      exact gRetV X w rfl d5_67 (by decide) (by decide) (⟨rfl, Kc6, z3, z0, z2, z1, V63, by omega, by omega, by omega, fun y => by simp only [← Int32.toInt_inj] <;> omega⟩)
                                    · intro c9
                                      exact absurd c9 (by decide)
                                  · intro c35
                                    exact absurd c35 (by decide)
                · intro c43
                  refine gAloadN X w d5_46 rfl rfl (n := 47) rfl ?_
                  refine gIloadN X w d5_47 rfl (n := 48) rfl ?_
                  refine gIconst X w d5_48 (z := (1 : Int32)) rfl (n := 49) rfl ?_
                  refine gIadd X w d5_49 (z := (1 : Int32)) (by decide) (n := 50) rfl ?_
                  refine gAloadN X w d5_50 rfl rfl (n := 51) rfl ?_
                  refine gIloadN X w d5_51 rfl (n := 52) rfl ?_
                  refine gIaload X w V53 (by decide) rfl d5_52 (n := 53) rfl ?_
                  refine gIastore X w (z := (.int z0)) V53 (by decide) (show (1 : Int) < ((4 : Nat) : Int) from by decide) na rfl (vs' := [(.int z0), (.int z0), (.int z1), (.int z3)]) rfl d5_53 (n := 54) rfl ?_
                  intro T hp53 X W53 V53
                  have Kc2 := Kc1.wr W53 (Or.inl (List.mem_singleton.mpr rfl))
                  refine gGoto X w d5_54 (by decide) (n := 30) rfl ?_
                  refine gIinc X w d5_30 rfl (z := (-1 : Int32)) (by decide) #[.val (.ref a), .val (.int (0 : Int32)), .val (.int (4 : Int32)), .val (.int (-1 : Int32)), .val (.int (2 : Int32)), .val (.int z2)] rfl (n := 33) rfl ?_
                  refine gIloadN X w d5_33 rfl (n := 34) rfl ?_
                  refine gIloadN X w d5_34 rfl (n := 35) rfl ?_
                  refine gIcmp_lt X w d5_35 (n := 57) (n' := 38) (by decide) rfl rfl ?_ ?_
                  · intro c35
                    refine gAloadN X w d5_57 rfl rfl (n := 58) rfl ?_
                    refine gIloadN X w d5_58 rfl (n := 59) rfl ?_
                    refine gIconst X w d5_59 (z := (1 : Int32)) rfl (n := 60) rfl ?_
                    refine gIadd X w d5_60 (z := (0 : Int32)) (by decide) (n := 61) rfl ?_
                    refine gIload X w d5_61 rfl (n := 63) rfl ?_
                    refine gIastore X w (z := (.int z2)) V53 (by decide) (show (0 : Int) < ((4 : Nat) : Int) from by decide) na rfl (vs' := [(.int z2), (.int z0), (.int z1), (.int z3)]) rfl d5_63 (n := 64) rfl ?_
                    intro T hp63 X W63 V63
                    have Kc3 := Kc2.wr W63 (Or.inl (List.mem_singleton.mpr rfl))
                    refine gGoto X w d5_64 (by decide) (n := 3) rfl ?_
                    refine gIinc X w d5_3 rfl (z := (3 : Int32)) (by decide) #[.val (.ref a), .val (.int (0 : Int32)), .val (.int (4 : Int32)), .val (.int (-1 : Int32)), .val (.int (3 : Int32)), .val (.int z2)] rfl (n := 6) rfl ?_
                    refine gIload X w d5_6 rfl (n := 8) rfl ?_
                    refine gIloadN X w d5_8 rfl (n := 9) rfl ?_
                    refine gIcmp_ge X w d5_9 (n := 67) (n' := 12) (by decide) rfl rfl ?_ ?_
                    · intro c9
                      exact absurd c9 (by decide)
                    · intro c9
                      refine gAloadN X w d5_12 rfl rfl (n := 13) rfl ?_
                      refine gIload X w d5_13 rfl (n := 15) rfl ?_
                      refine gDup X w d5_15 rfl (n := 16) rfl ?_
                      refine gIstoreN X w d5_16 #[.val (.ref a), .val (.int (0 : Int32)), .val (.int (4 : Int32)), .val (.int (3 : Int32)), .val (.int (3 : Int32)), .val (.int z2)] rfl (n := 17) rfl ?_
                      refine gIaload X w V63 (by decide) rfl d5_17 (n := 18) rfl ?_
                      refine gIstore X w d5_18 #[.val (.ref a), .val (.int (0 : Int32)), .val (.int (4 : Int32)), .val (.int (3 : Int32)), .val (.int (3 : Int32)), .val (.int z3)] rfl (n := 20) rfl ?_
                      refine gIload X w d5_20 rfl (n := 22) rfl ?_
                      refine gAloadN X w d5_22 rfl rfl (n := 23) rfl ?_
                      refine gIloadN X w d5_23 rfl (n := 24) rfl ?_
                      refine gIconst X w d5_24 (z := (1 : Int32)) rfl (n := 25) rfl ?_
                      refine gIsub X w d5_25 (z := (2 : Int32)) (by decide) (n := 26) rfl ?_
                      refine gIaload X w V63 (by decide) rfl d5_26 (n := 27) rfl ?_
                      refine gIcmp_ge X w d5_27 (n := 64) (n' := 30) (by decide) rfl rfl ?_ ?_
                      · intro c27
                        refine gGoto X w d5_64 (by decide) (n := 3) rfl ?_
                        refine gIinc X w d5_3 rfl (z := (4 : Int32)) (by decide) #[.val (.ref a), .val (.int (0 : Int32)), .val (.int (4 : Int32)), .val (.int (3 : Int32)), .val (.int (4 : Int32)), .val (.int z3)] rfl (n := 6) rfl ?_
                        refine gIload X w d5_6 rfl (n := 8) rfl ?_
                        refine gIloadN X w d5_8 rfl (n := 9) rfl ?_
                        refine gIcmp_ge X w d5_9 (n := 67) (n' := 12) (by decide) rfl rfl ?_ ?_
                        · intro c9
                          exact gRetV X w rfl d5_67 (by decide) (by decide) (⟨rfl, Kc3, z2, z0, z1, z3, V63, by omega, by omega, by omega, fun y => by simp only [← Int32.toInt_inj] <;> omega⟩)
                        · intro c9
                          exact absurd c9 (by decide)
                      · intro c27
                        refine gIinc X w d5_30 rfl (z := (2 : Int32)) (by decide) #[.val (.ref a), .val (.int (0 : Int32)), .val (.int (4 : Int32)), .val (.int (2 : Int32)), .val (.int (3 : Int32)), .val (.int z3)] rfl (n := 33) rfl ?_
                        refine gIloadN X w d5_33 rfl (n := 34) rfl ?_
                        refine gIloadN X w d5_34 rfl (n := 35) rfl ?_
                        refine gIcmp_lt X w d5_35 (n := 57) (n' := 38) (by decide) rfl rfl ?_ ?_
                        · intro c35
                          exact absurd c35 (by decide)
                        · intro c35
                          refine gIload X w d5_38 rfl (n := 40) rfl ?_
                          refine gAloadN X w d5_40 rfl rfl (n := 41) rfl ?_
                          refine gIloadN X w d5_41 rfl (n := 42) rfl ?_
                          refine gIaload X w V63 (by decide) rfl d5_42 (n := 43) rfl ?_
                          refine gIcmp_ge X w d5_43 (n := 57) (n' := 46) (by decide) rfl rfl ?_ ?_
                          · intro c43
                            refine gAloadN X w d5_57 rfl rfl (n := 58) rfl ?_
                            refine gIloadN X w d5_58 rfl (n := 59) rfl ?_
                            refine gIconst X w d5_59 (z := (1 : Int32)) rfl (n := 60) rfl ?_
                            refine gIadd X w d5_60 (z := (3 : Int32)) (by decide) (n := 61) rfl ?_
                            refine gIload X w d5_61 rfl (n := 63) rfl ?_
                            refine gIastore X w (z := (.int z3)) V63 (by decide) (show (3 : Int) < ((4 : Nat) : Int) from by decide) na rfl (vs' := [(.int z2), (.int z0), (.int z1), (.int z3)]) rfl d5_63 (n := 64) rfl ?_
                            intro T hp63 X W63 V63
                            have Kc4 := Kc3.wr W63 (Or.inl (List.mem_singleton.mpr rfl))
                            refine gGoto X w d5_64 (by decide) (n := 3) rfl ?_
                            refine gIinc X w d5_3 rfl (z := (4 : Int32)) (by decide) #[.val (.ref a), .val (.int (0 : Int32)), .val (.int (4 : Int32)), .val (.int (2 : Int32)), .val (.int (4 : Int32)), .val (.int z3)] rfl (n := 6) rfl ?_
                            refine gIload X w d5_6 rfl (n := 8) rfl ?_
                            refine gIloadN X w d5_8 rfl (n := 9) rfl ?_
                            refine gIcmp_ge X w d5_9 (n := 67) (n' := 12) (by decide) rfl rfl ?_ ?_
                            · intro c9
                              exact gRetV X w rfl d5_67 (by decide) (by decide) (⟨rfl, Kc4, z2, z0, z1, z3, V63, by omega, by omega, by omega, fun y => by simp only [← Int32.toInt_inj] <;> omega⟩)
                            · intro c9
                              exact absurd c9 (by decide)
                          · intro c43
                            refine gAloadN X w d5_46 rfl rfl (n := 47) rfl ?_
                            refine gIloadN X w d5_47 rfl (n := 48) rfl ?_
                            refine gIconst X w d5_48 (z := (1 : Int32)) rfl (n := 49) rfl ?_
                            refine gIadd X w d5_49 (z := (3 : Int32)) (by decide) (n := 50) rfl ?_
                            refine gAloadN X w d5_50 rfl rfl (n := 51) rfl ?_
                            refine gIloadN X w d5_51 rfl (n := 52) rfl ?_
                            refine gIaload X w V63 (by decide) rfl d5_52 (n := 53) rfl ?_
                            refine gIastore X w (z := (.int z1)) V63 (by decide) (show (3 : Int) < ((4 : Nat) : Int) from by decide) na rfl (vs' := [(.int z2), (.int z0), (.int z1), (.int z1)]) rfl d5_53 (n := 54) rfl ?_
                            intro T hp53 X W53 V53
                            have Kc4 := Kc3.wr W53 (Or.inl (List.mem_singleton.mpr rfl))
                            refine gGoto X w d5_54 (by decide) (n := 30) rfl ?_
                            refine gIinc X w d5_30 rfl (z := (1 : Int32)) (by decide) #[.val (.ref a), .val (.int (0 : Int32)), .val (.int (4 : Int32)), .val (.int (1 : Int32)), .val (.int (3 : Int32)), .val (.int z3)] rfl (n := 33) rfl ?_
                            refine gIloadN X w d5_33 rfl (n := 34) rfl ?_
                            refine gIloadN X w d5_34 rfl (n := 35) rfl ?_
                            refine gIcmp_lt X w d5_35 (n := 57) (n' := 38) (by decide) rfl rfl ?_ ?_
                            · intro c35
                              exact absurd c35 (by decide)
                            · intro c35
                              refine gIload X w d5_38 rfl (n := 40) rfl ?_
                              refine gAloadN X w d5_40 rfl rfl (n := 41) rfl ?_
                              refine gIloadN X w d5_41 rfl (n := 42) rfl ?_
                              refine gIaload X w V53 (by decide) rfl d5_42 (n := 43) rfl ?_
                              refine gIcmp_ge X w d5_43 (n := 57) (n' := 46) (by decide) rfl rfl ?_ ?_
                              · intro c43
                                refine gAloadN X w d5_57 rfl rfl (n := 58) rfl ?_
                                refine gIloadN X w d5_58 rfl (n := 59) rfl ?_
                                refine gIconst X w d5_59 (z := (1 : Int32)) rfl (n := 60) rfl ?_
                                refine gIadd X w d5_60 (z := (2 : Int32)) (by decide) (n := 61) rfl ?_
                                refine gIload X w d5_61 rfl (n := 63) rfl ?_
                                refine gIastore X w (z := (.int z3)) V53 (by decide) (show (2 : Int) < ((4 : Nat) : Int) from by decide) na rfl (vs' := [(.int z2), (.int z0), (.int z3), (.int z1)]) rfl d5_63 (n := 64) rfl ?_
                                intro T hp63 X W63 V63
                                have Kc5 := Kc4.wr W63 (Or.inl (List.mem_singleton.mpr rfl))
                                refine gGoto X w d5_64 (by decide) (n := 3) rfl ?_
                                refine gIinc X w d5_3 rfl (z := (4 : Int32)) (by decide) #[.val (.ref a), .val (.int (0 : Int32)), .val (.int (4 : Int32)), .val (.int (1 : Int32)), .val (.int (4 : Int32)), .val (.int z3)] rfl (n := 6) rfl ?_
                                refine gIload X w d5_6 rfl (n := 8) rfl ?_
                                refine gIloadN X w d5_8 rfl (n := 9) rfl ?_
                                refine gIcmp_ge X w d5_9 (n := 67) (n' := 12) (by decide) rfl rfl ?_ ?_
                                · intro c9
                                  exact gRetV X w rfl d5_67 (by decide) (by decide) (⟨rfl, Kc5, z2, z0, z3, z1, V63, by omega, by omega, by omega, fun y => by simp only [← Int32.toInt_inj] <;> omega⟩)
                                · intro c9
                                  exact absurd c9 (by decide)
                              · intro c43
                                refine gAloadN X w d5_46 rfl rfl (n := 47) rfl ?_
                                refine gIloadN X w d5_47 rfl (n := 48) rfl ?_
                                refine gIconst X w d5_48 (z := (1 : Int32)) rfl (n := 49) rfl ?_
                                refine gIadd X w d5_49 (z := (2 : Int32)) (by decide) (n := 50) rfl ?_
                                refine gAloadN X w d5_50 rfl rfl (n := 51) rfl ?_
                                refine gIloadN X w d5_51 rfl (n := 52) rfl ?_
                                refine gIaload X w V53 (by decide) rfl d5_52 (n := 53) rfl ?_
                                refine gIastore X w (z := (.int z0)) V53 (by decide) (show (2 : Int) < ((4 : Nat) : Int) from by decide) na rfl (vs' := [(.int z2), (.int z0), (.int z0), (.int z1)]) rfl d5_53 (n := 54) rfl ?_
                                intro T hp53 X W53 V53
                                have Kc5 := Kc4.wr W53 (Or.inl (List.mem_singleton.mpr rfl))
                                refine gGoto X w d5_54 (by decide) (n := 30) rfl ?_
                                refine gIinc X w d5_30 rfl (z := (0 : Int32)) (by decide) #[.val (.ref a), .val (.int (0 : Int32)), .val (.int (4 : Int32)), .val (.int (0 : Int32)), .val (.int (3 : Int32)), .val (.int z3)] rfl (n := 33) rfl ?_
                                refine gIloadN X w d5_33 rfl (n := 34) rfl ?_
                                refine gIloadN X w d5_34 rfl (n := 35) rfl ?_
                                refine gIcmp_lt X w d5_35 (n := 57) (n' := 38) (by decide) rfl rfl ?_ ?_
                                · intro c35
                                  exact absurd c35 (by decide)
                                · intro c35
                                  refine gIload X w d5_38 rfl (n := 40) rfl ?_
                                  refine gAloadN X w d5_40 rfl rfl (n := 41) rfl ?_
                                  refine gIloadN X w d5_41 rfl (n := 42) rfl ?_
                                  refine gIaload X w V53 (by decide) rfl d5_42 (n := 43) rfl ?_
                                  refine gIcmp_ge X w d5_43 (n := 57) (n' := 46) (by decide) rfl rfl ?_ ?_
                                  · intro c43
                                    refine gAloadN X w d5_57 rfl rfl (n := 58) rfl ?_
                                    refine gIloadN X w d5_58 rfl (n := 59) rfl ?_
                                    refine gIconst X w d5_59 (z := (1 : Int32)) rfl (n := 60) rfl ?_
                                    refine gIadd X w d5_60 (z := (1 : Int32)) (by decide) (n := 61) rfl ?_
                                    refine gIload X w d5_61 rfl (n := 63) rfl ?_
                                    refine gIastore X w (z := (.int z3)) V53 (by decide) (show (1 : Int) < ((4 : Nat) : Int) from by decide) na rfl (vs' := [(.int z2), (.int z3), (.int z0), (.int z1)]) rfl d5_63 (n := 64) rfl ?_
                                    intro T hp63 X W63 V63
                                    have Kc6 := Kc5.wr W63 (Or.inl (List.mem_singleton.mpr rfl))
                                    refine gGoto X w d5_64 (by decide) (n := 3) rfl ?_
                                    refine gIinc X w d5_3 rfl (z := (4 : Int32)) (by decide) #[.val (.ref a), .val (.int (0 : Int32)), .val (.int (4 : Int32)), .val (.int (0 : Int32)), .val (.int (4 : Int32)), .val (.int z3)] rfl (n := 6) rfl ?_
                                    refine gIload X w d5_6 rfl (n := 8) rfl ?_
                                    refine gIloadN X w d5_8 rfl (n := 9) rfl ?_
                                    refine gIcmp_ge X w d5_9 (n := 67) (n' := 12) (by decide) rfl rfl ?_ ?_
                                    · intro c9
                                      exact gRetV X w rfl d5_67 (by decide) (by decide) (⟨rfl, Kc6, z2, z3, z0, z1, V63, by omega, by omega, by omega, fun y => by simp only [← Int32.toInt_inj] <;> omega⟩)
                                    · intro c9
                                      exact absurd c9 (by decide)
                                  · intro c43
                                    refine gAloadN X w d5_46 rfl rfl (n := 47) rfl ?_
                                    refine gIloadN X w d5_47 rfl (n := 48) rfl ?_
                                    refine gIconst X w d5_48 (z := (1 : Int32)) rfl (n := 49) rfl ?_
                                    refine gIadd X w d5_49 (z := (1 : Int32)) (by decide) (n := 50) rfl ?_
                                    refine gAloadN X w d5_50 rfl rfl (n := 51) rfl ?_
                                    refine gIloadN X w d5_51 rfl (n := 52) rfl ?_
                                    refine gIaload X w V53 (by decide) rfl d5_52 (n := 53) rfl ?_
                                    refine gIastore X w (z := (.int z2)) V53 (by decide) (show (1 : Int) < ((4 : Nat) : Int) from by decide) na rfl (vs' := [(.int z2), (.int z2), (.int z0), (.int z1)]) rfl d5_53 (n := 54) rfl ?_
                                    intro T hp53 X W53 V53
                                    have Kc6 := Kc5.wr W53 (Or.inl (List.mem_singleton.mpr rfl))
                                    refine gGoto X w d5_54 (by decide) (n := 30) rfl ?_
                                    refine gIinc X w d5_30 rfl (z := (-1 : Int32)) (by decide) #[.val (.ref a), .val (.int (0 : Int32)), .val (.int (4 : Int32)), .val (.int (-1 : Int32)), .val (.int (3 : Int32)), .val (.int z3)] rfl (n := 33) rfl ?_
                                    refine gIloadN X w d5_33 rfl (n := 34) rfl ?_
                                    refine gIloadN X w d5_34 rfl (n := 35) rfl ?_
                                    refine gIcmp_lt X w d5_35 (n := 57) (n' := 38) (by decide) rfl rfl ?_ ?_
                                    · intro c35
                                      refine gAloadN X w d5_57 rfl rfl (n := 58) rfl ?_
                                      refine gIloadN X w d5_58 rfl (n := 59) rfl ?_
                                      refine gIconst X w d5_59 (z := (1 : Int32)) rfl (n := 60) rfl ?_
                                      refine gIadd X w d5_60 (z := (0 : Int32)) (by decide) (n := 61) rfl ?_
                                      refine gIload X w d5_61 rfl (n := 63) rfl ?_
                                      refine gIastore X w (z := (.int z3)) V53 (by decide) (show (0 : Int) < ((4 : Nat) : Int) from by decide) na rfl (vs' := [(.int z3), (.int z2), (.int z0), (.int z1)]) rfl d5_63 (n := 64) rfl ?_
                                      intro T hp63 X W63 V63
                                      have Kc7 := Kc6.wr W63 (Or.inl (List.mem_singleton.mpr rfl))
                                      refine gGoto X w d5_64 (by decide) (n := 3) rfl ?_
                                      refine gIinc X w d5_3 rfl (z := (4 : Int32)) (by decide) #[.val (.ref a), .val (.int (0 : Int32)), .val (.int (4 : Int32)), .val (.int (-1 : Int32)), .val (.int (4 : Int32)), .val (.int z3)] rfl (n := 6) rfl ?_
                                      refine gIload X w d5_6 rfl (n := 8) rfl ?_
                                      refine gIloadN X w d5_8 rfl (n := 9) rfl ?_
                                      refine gIcmp_ge X w d5_9 (n := 67) (n' := 12) (by decide) rfl rfl ?_ ?_
                                      · intro c9
                                        exact gRetV X w rfl d5_67 (by decide) (by decide) (⟨rfl, Kc7, z3, z2, z0, z1, V63, by omega, by omega, by omega, fun y => by simp only [← Int32.toInt_inj] <;> omega⟩)
                                      · intro c9
                                        exact absurd c9 (by decide)
                                    · intro c35
                                      exact absurd c35 (by decide)
                  · intro c35
                    exact absurd c35 (by decide)
    · intro c27
      refine gIinc X w d5_30 rfl (z := (0 : Int32)) (by decide) #[.val (.ref a), .val (.int (0 : Int32)), .val (.int (4 : Int32)), .val (.int (0 : Int32)), .val (.int (1 : Int32)), .val (.int z1)] rfl (n := 33) rfl ?_
      refine gIloadN X w d5_33 rfl (n := 34) rfl ?_
      refine gIloadN X w d5_34 rfl (n := 35) rfl ?_
      refine gIcmp_lt X w d5_35 (n := 57) (n' := 38) (by decide) rfl rfl ?_ ?_
      · intro c35
        exact absurd c35 (by decide)
      · intro c35
        refine gIload X w d5_38 rfl (n := 40) rfl ?_
        refine gAloadN X w d5_40 rfl rfl (n := 41) rfl ?_
        refine gIloadN X w d5_41 rfl (n := 42) rfl ?_
        refine gIaload X w V (by decide) rfl d5_42 (n := 43) rfl ?_
        refine gIcmp_ge X w d5_43 (n := 57) (n' := 46) (by decide) rfl rfl ?_ ?_
        · intro c43
          refine gAloadN X w d5_57 rfl rfl (n := 58) rfl ?_
          refine gIloadN X w d5_58 rfl (n := 59) rfl ?_
          refine gIconst X w d5_59 (z := (1 : Int32)) rfl (n := 60) rfl ?_
          refine gIadd X w d5_60 (z := (1 : Int32)) (by decide) (n := 61) rfl ?_
          refine gIload X w d5_61 rfl (n := 63) rfl ?_
          refine gIastore X w (z := (.int z1)) V (by decide) (show (1 : Int) < ((4 : Nat) : Int) from by decide) na rfl (vs' := [(.int z0), (.int z1), (.int z2), (.int z3)]) rfl d5_63 (n := 64) rfl ?_
          intro T hp63 X W63 V63
          have Kc1 := (Keep.refl _ [a]).wr W63 (Or.inl (List.mem_singleton.mpr rfl))
          refine gGoto X w d5_64 (by decide) (n := 3) rfl ?_
          refine gIinc X w d5_3 rfl (z := (2 : Int32)) (by decide) #[.val (.ref a), .val (.int (0 : Int32)), .val (.int (4 : Int32)), .val (.int (0 : Int32)), .val (.int (2 : Int32)), .val (.int z1)] rfl (n := 6) rfl ?_
          refine gIload X w d5_6 rfl (n := 8) rfl ?_
          refine gIloadN X w d5_8 rfl (n := 9) rfl ?_
          refine gIcmp_ge X w d5_9 (n := 67) (n' := 12) (by decide) rfl rfl ?_ ?_
          · intro c9
            exact absurd c9 (by decide)
          · intro c9
            refine gAloadN X w d5_12 rfl rfl (n := 13) rfl ?_
            refine gIload X w d5_13 rfl (n := 15) rfl ?_
            refine gDup X w d5_15 rfl (n := 16) rfl ?_
            refine gIstoreN X w d5_16 #[.val (.ref a), .val (.int (0 : Int32)), .val (.int (4 : Int32)), .val (.int (2 : Int32)), .val (.int (2 : Int32)), .val (.int z1)] rfl (n := 17) rfl ?_
            refine gIaload X w V63 (by decide) rfl d5_17 (n := 18) rfl ?_
            refine gIstore X w d5_18 #[.val (.ref a), .val (.int (0 : Int32)), .val (.int (4 : Int32)), .val (.int (2 : Int32)), .val (.int (2 : Int32)), .val (.int z2)] rfl (n := 20) rfl ?_
            refine gIload X w d5_20 rfl (n := 22) rfl ?_
            refine gAloadN X w d5_22 rfl rfl (n := 23) rfl ?_
            refine gIloadN X w d5_23 rfl (n := 24) rfl ?_
            refine gIconst X w d5_24 (z := (1 : Int32)) rfl (n := 25) rfl ?_
            refine gIsub X w d5_25 (z := (1 : Int32)) (by decide) (n := 26) rfl ?_
            refine gIaload X w V63 (by decide) rfl d5_26 (n := 27) rfl ?_
            refine gIcmp_ge X w d5_27 (n := 64) (n' := 30) (by decide) rfl rfl ?_ ?_
            · intro c27
              refine gGoto X w d5_64 (by decide) (n := 3) rfl ?_
              refine gIinc X w d5_3 rfl (z := (3 : Int32)) (by decide) #[.val (.ref a), .val (.int (0 : Int32)), .val (.int (4 : Int32)), .val (.int (2 : Int32)), .val (.int (3 : Int32)), .val (.int z2)] rfl (n := 6) rfl ?_
              refine gIload X w d5_6 rfl (n := 8) rfl ?_
              refine gIloadN X w d5_8 rfl (n := 9) rfl ?_
              refine gIcmp_ge X w d5_9 (n := 67) (n' := 12) (by decide) rfl rfl ?_ ?_
              · intro c9
                exact absurd c9 (by decide)
              · intro c9
                refine gAloadN X w d5_12 rfl rfl (n := 13) rfl ?_
                refine gIload X w d5_13 rfl (n := 15) rfl ?_
                refine gDup X w d5_15 rfl (n := 16) rfl ?_
                refine gIstoreN X w d5_16 #[.val (.ref a), .val (.int (0 : Int32)), .val (.int (4 : Int32)), .val (.int (3 : Int32)), .val (.int (3 : Int32)), .val (.int z2)] rfl (n := 17) rfl ?_
                refine gIaload X w V63 (by decide) rfl d5_17 (n := 18) rfl ?_
                refine gIstore X w d5_18 #[.val (.ref a), .val (.int (0 : Int32)), .val (.int (4 : Int32)), .val (.int (3 : Int32)), .val (.int (3 : Int32)), .val (.int z3)] rfl (n := 20) rfl ?_
                refine gIload X w d5_20 rfl (n := 22) rfl ?_
                refine gAloadN X w d5_22 rfl rfl (n := 23) rfl ?_
                refine gIloadN X w d5_23 rfl (n := 24) rfl ?_
                refine gIconst X w d5_24 (z := (1 : Int32)) rfl (n := 25) rfl ?_
                refine gIsub X w d5_25 (z := (2 : Int32)) (by decide) (n := 26) rfl ?_
                refine gIaload X w V63 (by decide) rfl d5_26 (n := 27) rfl ?_
                refine gIcmp_ge X w d5_27 (n := 64) (n' := 30) (by decide) rfl rfl ?_ ?_
                · intro c27
                  refine gGoto X w d5_64 (by decide) (n := 3) rfl ?_
                  refine gIinc X w d5_3 rfl (z := (4 : Int32)) (by decide) #[.val (.ref a), .val (.int (0 : Int32)), .val (.int (4 : Int32)), .val (.int (3 : Int32)), .val (.int (4 : Int32)), .val (.int z3)] rfl (n := 6) rfl ?_
                  refine gIload X w d5_6 rfl (n := 8) rfl ?_
                  refine gIloadN X w d5_8 rfl (n := 9) rfl ?_
                  refine gIcmp_ge X w d5_9 (n := 67) (n' := 12) (by decide) rfl rfl ?_ ?_
                  · intro c9
                    exact gRetV X w rfl d5_67 (by decide) (by decide) (⟨rfl, Kc1, z0, z1, z2, z3, V63, by omega, by omega, by omega, fun y => by simp only [← Int32.toInt_inj] <;> omega⟩)
                  · intro c9
                    exact absurd c9 (by decide)
                · intro c27
                  refine gIinc X w d5_30 rfl (z := (2 : Int32)) (by decide) #[.val (.ref a), .val (.int (0 : Int32)), .val (.int (4 : Int32)), .val (.int (2 : Int32)), .val (.int (3 : Int32)), .val (.int z3)] rfl (n := 33) rfl ?_
                  refine gIloadN X w d5_33 rfl (n := 34) rfl ?_
                  refine gIloadN X w d5_34 rfl (n := 35) rfl ?_
                  refine gIcmp_lt X w d5_35 (n := 57) (n' := 38) (by decide) rfl rfl ?_ ?_
                  · intro c35
                    exact absurd c35 (by decide)
                  · intro c35
                    refine gIload X w d5_38 rfl (n := 40) rfl ?_
                    refine gAloadN X w d5_40 rfl rfl (n := 41) rfl ?_
                    refine gIloadN X w d5_41 rfl (n := 42) rfl ?_
                    refine gIaload X w V63 (by decide) rfl d5_42 (n := 43) rfl ?_
                    refine gIcmp_ge X w d5_43 (n := 57) (n' := 46) (by decide) rfl rfl ?_ ?_
                    · intro c43
                      refine gAloadN X w d5_57 rfl rfl (n := 58) rfl ?_
                      refine gIloadN X w d5_58 rfl (n := 59) rfl ?_
                      refine gIconst X w d5_59 (z := (1 : Int32)) rfl (n := 60) rfl ?_
                      refine gIadd X w d5_60 (z := (3 : Int32)) (by decide) (n := 61) rfl ?_
                      refine gIload X w d5_61 rfl (n := 63) rfl ?_
                      refine gIastore X w (z := (.int z3)) V63 (by decide) (show (3 : Int) < ((4 : Nat) : Int) from by decide) na rfl (vs' := [(.int z0), (.int z1), (.int z2), (.int z3)]) rfl d5_63 (n := 64) rfl ?_
                      intro T hp63 X W63 V63
                      have Kc2 := Kc1.wr W63 (Or.inl (List.mem_singleton.mpr rfl))
                      refine gGoto X w d5_64 (by decide) (n := 3) rfl ?_
                      refine gIinc X w d5_3 rfl (z := (4 : Int32)) (by decide) #[.val (.ref a), .val (.int (0 : Int32)), .val (.int (4 : Int32)), .val (.int (2 : Int32)), .val (.int (4 : Int32)), .val (.int z3)] rfl (n := 6) rfl ?_
                      refine gIload X w d5_6 rfl (n := 8) rfl ?_
                      refine gIloadN X w d5_8 rfl (n := 9) rfl ?_
                      refine gIcmp_ge X w d5_9 (n := 67) (n' := 12) (by decide) rfl rfl ?_ ?_
                      · intro c9
                        exact gRetV X w rfl d5_67 (by decide) (by decide) (⟨rfl, Kc2, z0, z1, z2, z3, V63, by omega, by omega, by omega, fun y => by simp only [← Int32.toInt_inj] <;> omega⟩)
                      · intro c9
                        exact absurd c9 (by decide)
                    · intro c43
                      refine gAloadN X w d5_46 rfl rfl (n := 47) rfl ?_
                      refine gIloadN X w d5_47 rfl (n := 48) rfl ?_
                      refine gIconst X w d5_48 (z := (1 : Int32)) rfl (n := 49) rfl ?_
                      refine gIadd X w d5_49 (z := (3 : Int32)) (by decide) (n := 50) rfl ?_
                      refine gAloadN X w d5_50 rfl rfl (n := 51) rfl ?_
                      refine gIloadN X w d5_51 rfl (n := 52) rfl ?_
                      refine gIaload X w V63 (by decide) rfl d5_52 (n := 53) rfl ?_
                      refine gIastore X w (z := (.int z2)) V63 (by decide) (show (3 : Int) < ((4 : Nat) : Int) from by decide) na rfl (vs' := [(.int z0), (.int z1), (.int z2), (.int z2)]) rfl d5_53 (n := 54) rfl ?_
                      intro T hp53 X W53 V53
                      have Kc2 := Kc1.wr W53 (Or.inl (List.mem_singleton.mpr rfl))
                      refine gGoto X w d5_54 (by decide) (n := 30) rfl ?_
                      refine gIinc X w d5_30 rfl (z := (1 : Int32)) (by decide) #[.val (.ref a), .val (.int (0 : Int32)), .val (.int (4 : Int32)), .val (.int (1 : Int32)), .val (.int (3 : Int32)), .val (.int z3)] rfl (n := 33) rfl ?_
                      refine gIloadN X w d5_33 rfl (n := 34) rfl ?_
                      refine gIloadN X w d5_34 rfl (n := 35) rfl ?_
                      refine gIcmp_lt X w d5_35 (n := 57) (n' := 38) (by decide) rfl rfl ?_ ?_
                      · intro c35
                        exact absurd c35 (by decide)
                      · intro c35
                        refine gIload X w d5_38 rfl (n := 40) rfl ?_
                        refine gAloadN X w d5_40 rfl rfl (n := 41) rfl ?_
                        refine gIloadN X w d5_41 rfl (n := 42) rfl ?_
                        refine gIaload X w V53 (by decide) rfl d5_42 (n := 43) rfl ?_
                        refine gIcmp_ge X w d5_43 (n := 57) (n' := 46) (by decide) rfl rfl ?_ ?_
                        · intro c43
                          refine gAloadN X w d5_57 rfl rfl (n := 58) rfl ?_
                          refine gIloadN X w d5_58 rfl (n := 59) rfl ?_
                          refine gIconst X w d5_59 (z := (1 : Int32)) rfl (n := 60) rfl ?_
                          refine gIadd X w d5_60 (z := (2 : Int32)) (by decide) (n := 61) rfl ?_
                          refine gIload X w d5_61 rfl (n := 63) rfl ?_
                          refine gIastore X w (z := (.int z3)) V53 (by decide) (show (2 : Int) < ((4 : Nat) : Int) from by decide) na rfl (vs' := [(.int z0), (.int z1), (.int z3), (.int z2)]) rfl d5_63 (n := 64) rfl ?_
                          intro T hp63 X W63 V63
                          have Kc3 := Kc2.wr W63 (Or.inl (List.mem_singleton.mpr rfl))
                          refine gGoto X w d5_64 (by decide) (n := 3) rfl ?_
                          refine gIinc X w d5_3 rfl (z := (4 : Int32)) (by decide) #[.val (.ref a), .val (.int (0 : Int32)), .val (.int (4 : Int32)), .val (.int (1 : Int32)), .val (.int (4 : Int32)), .val (.int z3)] rfl (n := 6) rfl ?_
                          refine gIload X w d5_6 rfl (n := 8) rfl ?_
                          refine gIloadN X w d5_8 rfl (n := 9) rfl ?_
                          refine gIcmp_ge X w d5_9 (n := 67) (n' := 12) (by decide) rfl rfl ?_ ?_
                          · intro c9
                            exact gRetV X w rfl d5_67 (by decide) (by decide) (⟨rfl, Kc3, z0, z1, z3, z2, V63, by omega, by omega, by omega, fun y => by simp only [← Int32.toInt_inj] <;> omega⟩)
                          · intro c9
                            exact absurd c9 (by decide)
                        · intro c43
                          refine gAloadN X w d5_46 rfl rfl (n := 47) rfl ?_
                          refine gIloadN X w d5_47 rfl (n := 48) rfl ?_
                          refine gIconst X w d5_48 (z := (1 : Int32)) rfl (n := 49) rfl ?_
                          refine gIadd X w d5_49 (z := (2 : Int32)) (by decide) (n := 50) rfl ?_
                          refine gAloadN X w d5_50 rfl rfl (n := 51) rfl ?_
                          refine gIloadN X w d5_51 rfl (n := 52) rfl ?_
                          refine gIaload X w V53 (by decide) rfl d5_52 (n := 53) rfl ?_
                          refine gIastore X w (z := (.int z1)) V53 (by decide) (show (2 : Int) < ((4 : Nat) : Int) from by decide) na rfl (vs' := [(.int z0), (.int z1), (.int z1), (.int z2)]) rfl d5_53 (n := 54) rfl ?_
                          intro T hp53 X W53 V53
                          have Kc3 := Kc2.wr W53 (Or.inl (List.mem_singleton.mpr rfl))
                          refine gGoto X w d5_54 (by decide) (n := 30) rfl ?_
                          refine gIinc X w d5_30 rfl (z := (0 : Int32)) (by decide) #[.val (.ref a), .val (.int (0 : Int32)), .val (.int (4 : Int32)), .val (.int (0 : Int32)), .val (.int (3 : Int32)), .val (.int z3)] rfl (n := 33) rfl ?_
                          refine gIloadN X w d5_33 rfl (n := 34) rfl ?_
                          refine gIloadN X w d5_34 rfl (n := 35) rfl ?_
                          refine gIcmp_lt X w d5_35 (n := 57) (n' := 38) (by decide) rfl rfl ?_ ?_
                          · intro c35
                            exact absurd c35 (by decide)
                          · intro c35
                            refine gIload X w d5_38 rfl (n := 40) rfl ?_
                            refine gAloadN X w d5_40 rfl rfl (n := 41) rfl ?_
                            refine gIloadN X w d5_41 rfl (n := 42) rfl ?_
                            refine gIaload X w V53 (by decide) rfl d5_42 (n := 43) rfl ?_
                            refine gIcmp_ge X w d5_43 (n := 57) (n' := 46) (by decide) rfl rfl ?_ ?_
                            · intro c43
                              refine gAloadN X w d5_57 rfl rfl (n := 58) rfl ?_
                              refine gIloadN X w d5_58 rfl (n := 59) rfl ?_
                              refine gIconst X w d5_59 (z := (1 : Int32)) rfl (n := 60) rfl ?_
                              refine gIadd X w d5_60 (z := (1 : Int32)) (by decide) (n := 61) rfl ?_
                              refine gIload X w d5_61 rfl (n := 63) rfl ?_
                              refine gIastore X w (z := (.int z3)) V53 (by decide) (show (1 : Int) < ((4 : Nat) : Int) from by decide) na rfl (vs' := [(.int z0), (.int z3), (.int z1), (.int z2)]) rfl d5_63 (n := 64) rfl ?_
                              intro T hp63 X W63 V63
                              have Kc4 := Kc3.wr W63 (Or.inl (List.mem_singleton.mpr rfl))
                              refine gGoto X w d5_64 (by decide) (n := 3) rfl ?_
                              refine gIinc X w d5_3 rfl (z := (4 : Int32)) (by decide) #[.val (.ref a), .val (.int (0 : Int32)), .val (.int (4 : Int32)), .val (.int (0 : Int32)), .val (.int (4 : Int32)), .val (.int z3)] rfl (n := 6) rfl ?_
                              refine gIload X w d5_6 rfl (n := 8) rfl ?_
                              refine gIloadN X w d5_8 rfl (n := 9) rfl ?_
                              refine gIcmp_ge X w d5_9 (n := 67) (n' := 12) (by decide) rfl rfl ?_ ?_
                              · intro c9
                                exact gRetV X w rfl d5_67 (by decide) (by decide) (⟨rfl, Kc4, z0, z3, z1, z2, V63, by omega, by omega, by omega, fun y => by simp only [← Int32.toInt_inj] <;> omega⟩)
                              · intro c9
                                exact absurd c9 (by decide)
                            · intro c43
                              refine gAloadN X w d5_46 rfl rfl (n := 47) rfl ?_
                              refine gIloadN X w d5_47 rfl (n := 48) rfl ?_
                              refine gIconst X w d5_48 (z := (1 : Int32)) rfl (n := 49) rfl ?_
                              refine gIadd X w d5_49 (z := (1 : Int32)) (by decide) (n := 50) rfl ?_
                              refine gAloadN X w d5_50 rfl rfl (n := 51) rfl ?_
                              refine gIloadN X w d5_51 rfl (n := 52) rfl ?_
                              refine gIaload X w V53 (by decide) rfl d5_52 (n := 53) rfl ?_
                              refine gIastore X w (z := (.int z0)) V53 (by decide) (show (1 : Int) < ((4 : Nat) : Int) from by decide) na rfl (vs' := [(.int z0), (.int z0), (.int z1), (.int z2)]) rfl d5_53 (n := 54) rfl ?_
                              intro T hp53 X W53 V53
                              have Kc4 := Kc3.wr W53 (Or.inl (List.mem_singleton.mpr rfl))
                              refine gGoto X w d5_54 (by decide) (n := 30) rfl ?_
                              refine gIinc X w d5_30 rfl (z := (-1 : Int32)) (by decide) #[.val (.ref a), .val (.int (0 : Int32)), .val (.int (4 : Int32)), .val (.int (-1 : Int32)), .val (.int (3 : Int32)), .val (.int z3)] rfl (n := 33) rfl ?_
                              refine gIloadN X w d5_33 rfl (n := 34) rfl ?_
                              refine gIloadN X w d5_34 rfl (n := 35) rfl ?_
                              refine gIcmp_lt X w d5_35 (n := 57) (n' := 38) (by decide) rfl rfl ?_ ?_
                              · intro c35
                                refine gAloadN X w d5_57 rfl rfl (n := 58) rfl ?_
                                refine gIloadN X w d5_58 rfl (n := 59) rfl ?_
                                refine gIconst X w d5_59 (z := (1 : Int32)) rfl (n := 60) rfl ?_
                                refine gIadd X w d5_60 (z := (0 : Int32)) (by decide) (n := 61) rfl ?_
                                refine gIload X w d5_61 rfl (n := 63) rfl ?_
                                refine gIastore X w (z := (.int z3)) V53 (by decide) (show (0 : Int) < ((4 : Nat) : Int) from by decide) na rfl (vs' := [(.int z3), (.int z0), (.int z1), (.int z2)]) rfl d5_63 (n := 64) rfl ?_
                                intro T hp63 X W63 V63
                                have Kc5 := Kc4.wr W63 (Or.inl (List.mem_singleton.mpr rfl))
                                refine gGoto X w d5_64 (by decide) (n := 3) rfl ?_
                                refine gIinc X w d5_3 rfl (z := (4 : Int32)) (by decide) #[.val (.ref a), .val (.int (0 : Int32)), .val (.int (4 : Int32)), .val (.int (-1 : Int32)), .val (.int (4 : Int32)), .val (.int z3)] rfl (n := 6) rfl ?_
                                refine gIload X w d5_6 rfl (n := 8) rfl ?_
                                refine gIloadN X w d5_8 rfl (n := 9) rfl ?_
                                refine gIcmp_ge X w d5_9 (n := 67) (n' := 12) (by decide) rfl rfl ?_ ?_
                                · intro c9
                                  exact gRetV X w rfl d5_67 (by decide) (by decide) (⟨rfl, Kc5, z3, z0, z1, z2, V63, by omega, by omega, by omega, fun y => by simp only [← Int32.toInt_inj] <;> omega⟩)
                                · intro c9
                                  exact absurd c9 (by decide)
                              · intro c35
                                exact absurd c35 (by decide)
            · intro c27
              refine gIinc X w d5_30 rfl (z := (1 : Int32)) (by decide) #[.val (.ref a), .val (.int (0 : Int32)), .val (.int (4 : Int32)), .val (.int (1 : Int32)), .val (.int (2 : Int32)), .val (.int z2)] rfl (n := 33) rfl ?_
              refine gIloadN X w d5_33 rfl (n := 34) rfl ?_
              refine gIloadN X w d5_34 rfl (n := 35) rfl ?_
              refine gIcmp_lt X w d5_35 (n := 57) (n' := 38) (by decide) rfl rfl ?_ ?_
              · intro c35
                exact absurd c35 (by decide)
              · intro c35
                refine gIload X w d5_38 rfl (n := 40) rfl ?_
                refine gAloadN X w d5_40 rfl rfl (n := 41) rfl ?_
                refine gIloadN X w d5_41 rfl (n := 42) rfl ?_
                refine gIaload X w V63 (by decide) rfl d5_42 (n := 43) rfl ?_
                refine gIcmp_ge X w d5_43 (n := 57) (n' := 46) (by decide) rfl rfl ?_ ?_
                · intro c43
                  refine gAloadN X w d5_57 rfl rfl (n := 58) rfl ?_
                  refine gIloadN X w d5_58 rfl (n := 59) rfl ?_
                  refine gIconst X w d5_59 (z := (1 : Int32)) rfl (n := 60) rfl ?_
                  refine gIadd X w d5_60 (z := (2 : Int32)) (by decide) (n := 61) rfl ?_
                  refine gIload X w d5_61 rfl (n := 63) rfl ?_
                  refine gIastore X w (z := (.int z2)) V63 (by decide) (show (2 : Int) < ((4 : Nat) : Int) from by decide) na rfl (vs' := [(.int z0), (.int z1), (.int z2), (.int z3)]) rfl d5_63 (n := 64) rfl ?_
                  intro T hp63 X W63 V63
                  have Kc2 := Kc1.wr W63 (Or.inl (List.mem_singleton.mpr rfl))
                  refine gGoto X w d5_64 (by decide) (n := 3) rfl ?_
                  refine gIinc X w d5_3 rfl (z := (3 : Int32)) (by decide) #[.val (.ref a), .val (.int (0 : Int32)), .val (.int (4 : Int32)), .val (.int (1 : Int32)), .val (.int (3 : Int32)), .val (.int z2)] rfl (n := 6) rfl ?_
                  refine gIload X w d5_6 rfl (n := 8) rfl ?_
                  refine gIloadN X w d5_8 rfl (n := 9) rfl ?_
                  refine gIcmp_ge X w d5_9 (n := 67) (n' := 12) (by decide) rfl rfl ?_ ?_
                  · intro c9
                    exact absurd c9 (by decide)
                  · intro c9
                    refine gAloadN X w d5_12 rfl rfl (n := 13) rfl ?_
                    refine gIload X w d5_13 rfl (n := 15) rfl ?_
                    refine gDup X w d5_15 rfl (n := 16) rfl ?_
                    refine gIstoreN X w d5_16 #[.val (.ref a), .val (.int (0 : Int32)), .val (.int (4 : Int32)), .val (.int (3 : Int32)), .val (.int (3 : Int32)), .val (.int z2)] rfl (n := 17) rfl ?_
                    refine gIaload X w V63 (by decide) rfl d5_17 (n := 18) rfl ?_
                    refine gIstore X w d5_18 #[.val (.ref a), .val (.int (0 : Int32)), .val (.int (4 : Int32)), .val (.int (3 : Int32)), .val (.int (3 : Int32)), .val (.int z3)] rfl (n := 20) rfl ?_
                    refine gIload X w d5_20 rfl (n := 22) rfl ?_
                    refine gAloadN X w d5_22 rfl rfl (n := 23) rfl ?_
                    refine gIloadN X w d5_23 rfl (n := 24) rfl ?_
                    refine gIconst X w d5_24 (z := (1 : Int32)) rfl (n := 25) rfl ?_
                    refine gIsub X w d5_25 (z := (2 : Int32)) (by decide) (n := 26) rfl ?_
                    refine gIaload X w V63 (by decide) rfl d5_26 (n := 27) rfl ?_
                    refine gIcmp_ge X w d5_27 (n := 64) (n' := 30) (by decide) rfl rfl ?_ ?_
                    · intro c27
                      refine gGoto X w d5_64 (by decide) (n := 3) rfl ?_
                      refine gIinc X w d5_3 rfl (z := (4 : Int32)) (by decide) #[.val (.ref a), .val (.int (0 : Int32)), .val (.int (4 : Int32)), .val (.int (3 : Int32)), .val (.int (4 : Int32)), .val (.int z3)] rfl (n := 6) rfl ?_
                      refine gIload X w d5_6 rfl (n := 8) rfl ?_
                      refine gIloadN X w d5_8 rfl (n := 9) rfl ?_
                      refine gIcmp_ge X w d5_9 (n := 67) (n' := 12) (by decide) rfl rfl ?_ ?_
                      · intro c9
                        exact gRetV X w rfl d5_67 (by decide) (by decide) (⟨rfl, Kc2, z0, z1, z2, z3, V63, by omega, by omega, by omega, fun y => by simp only [← Int32.toInt_inj] <;> omega⟩)
                      · intro c9
                        exact absurd c9 (by decide)
                    · intro c27
                      refine gIinc X w d5_30 rfl (z := (2 : Int32)) (by decide) #[.val (.ref a), .val (.int (0 : Int32)), .val (.int (4 : Int32)), .val (.int (2 : Int32)), .val (.int (3 : Int32)), .val (.int z3)] rfl (n := 33) rfl ?_
                      refine gIloadN X w d5_33 rfl (n := 34) rfl ?_
                      refine gIloadN X w d5_34 rfl (n := 35) rfl ?_
                      refine gIcmp_lt X w d5_35 (n := 57) (n' := 38) (by decide) rfl rfl ?_ ?_
                      · intro c35
                        exact absurd c35 (by decide)
                      · intro c35
                        refine gIload X w d5_38 rfl (n := 40) rfl ?_
                        refine gAloadN X w d5_40 rfl rfl (n := 41) rfl ?_
                        refine gIloadN X w d5_41 rfl (n := 42) rfl ?_
                        refine gIaload X w V63 (by decide) rfl d5_42 (n := 43) rfl ?_
                        refine gIcmp_ge X w d5_43 (n := 57) (n' := 46) (by decide) rfl rfl ?_ ?_
                        · intro c43
                          refine gAloadN X w d5_57 rfl rfl (n := 58) rfl ?_
                          refine gIloadN X w d5_58 rfl (n := 59) rfl ?_
                          refine gIconst X w d5_59 (z := (1 : Int32)) rfl (n := 60) rfl ?_
                          refine gIadd X w d5_60 (z := (3 : Int32)) (by decide) (n := 61) rfl ?_
                          refine gIload X w d5_61 rfl (n := 63) rfl ?_
                          refine gIastore X w (z := (.int z3)) V63 (by decide) (show (3 : Int) < ((4 : Nat) : Int) from by decide) na rfl (vs' := [(.int z0), (.int z1), (.int z2), (.int z3)]) rfl d5_63 (n := 64) rfl ?_
                          intro T hp63 X W63 V63
                          have Kc3 := Kc2.wr W63 (Or.inl (List.mem_singleton.mpr rfl))
                          refine gGoto X w d5_64 (by decide) (n := 3) rfl ?_
                          refine gIinc X w d5_3 rfl (z := (4 : Int32)) (by decide) #[.val (.ref a), .val (.int (0 : Int32)), .val (.int (4 : Int32)), .val (.int (2 : Int32)), .val (.int (4 : Int32)), .val (.int z3)] rfl (n := 6) rfl ?_
                          refine gIload X w d5_6 rfl (n := 8) rfl ?_
                          refine gIloadN X w d5_8 rfl (n := 9) rfl ?_
                          refine gIcmp_ge X w d5_9 (n := 67) (n' := 12) (by decide) rfl rfl ?_ ?_
                          · intro c9
                            exact gRetV X w rfl d5_67 (by decide) (by decide) (⟨rfl, Kc3, z0, z1, z2, z3, V63, by omega, by omega, by omega, fun y => by simp only [← Int32.toInt_inj] <;> omega⟩)
                          · intro c9
                            exact absurd c9 (by decide)
                        · intro c43
                          refine gAloadN X w d5_46 rfl rfl (n := 47) rfl ?_
                          refine gIloadN X w d5_47 rfl (n := 48) rfl ?_
                          refine gIconst X w d5_48 (z := (1 : Int32)) rfl (n := 49) rfl ?_
                          refine gIadd X w d5_49 (z := (3 : Int32)) (by decide) (n := 50) rfl ?_
                          refine gAloadN X w d5_50 rfl rfl (n := 51) rfl ?_
                          refine gIloadN X w d5_51 rfl (n := 52) rfl ?_
                          refine gIaload X w V63 (by decide) rfl d5_52 (n := 53) rfl ?_
                          refine gIastore X w (z := (.int z2)) V63 (by decide) (show (3 : Int) < ((4 : Nat) : Int) from by decide) na rfl (vs' := [(.int z0), (.int z1), (.int z2), (.int z2)]) rfl d5_53 (n := 54) rfl ?_
                          intro T hp53 X W53 V53
                          have Kc3 := Kc2.wr W53 (Or.inl (List.mem_singleton.mpr rfl))
                          refine gGoto X w d5_54 (by decide) (n := 30) rfl ?_
                          refine gIinc X w d5_30 rfl (z := (1 : Int32)) (by decide) #[.val (.ref a), .val (.int (0 : Int32)), .val (.int (4 : Int32)), .val (.int (1 : Int32)), .val (.int (3 : Int32)), .val (.int z3)] rfl (n := 33) rfl ?_
                          refine gIloadN X w d5_33 rfl (n := 34) rfl ?_
                          refine gIloadN X w d5_34 rfl (n := 35) rfl ?_
                          refine gIcmp_lt X w d5_35 (n := 57) (n' := 38) (by decide) rfl rfl ?_ ?_
                          · intro c35
                            exact absurd c35 (by decide)
                          · intro c35
                            refine gIload X w d5_38 rfl (n := 40) rfl ?_
                            refine gAloadN X w d5_40 rfl rfl (n := 41) rfl ?_
                            refine gIloadN X w d5_41 rfl (n := 42) rfl ?_
                            refine gIaload X w V53 (by decide) rfl d5_42 (n := 43) rfl ?_
                            refine gIcmp_ge X w d5_43 (n := 57) (n' := 46) (by decide) rfl rfl ?_ ?_
                            · intro c43
                              refine gAloadN X w d5_57 rfl rfl (n := 58) rfl ?_
                              refine gIloadN X w d5_58 rfl (n := 59) rfl ?_
                              refine gIconst X w d5_59 (z := (1 : Int32)) rfl (n := 60) rfl ?_
                              refine gIadd X w d5_60 (z := (2 : Int32)) (by decide) (n := 61) rfl ?_
                              refine gIload X w d5_61 rfl (n := 63) rfl ?_
                              refine gIastore X w (z := (.int z3)) V53 (by decide) (show (2 : Int) < ((4 : Nat) : Int) from by decide) na rfl (vs' := [(.int z0), (.int z1), (.int z3), (.int z2)]) rfl d5_63 (n := 64) rfl ?_
                              intro T hp63 X W63 V63
                              have Kc4 := Kc3.wr W63 (Or.inl (List.mem_singleton.mpr rfl))
                              refine gGoto X w d5_64 (by decide) (n := 3) rfl ?_
                              refine gIinc X w d5_3 rfl (z := (4 : Int32)) (by decide) #[.val (.ref a), .val (.int (0 : Int32)), .val (.int (4 : Int32)), .val (.int (1 : Int32)), .val (.int (4 : Int32)), .val (.int z3)] rfl (n := 6) rfl ?_
                              refine gIload X w d5_6 rfl (n := 8) rfl ?_
                              refine gIloadN X w d5_8 rfl (n := 9) rfl ?_
                              refine gIcmp_ge X w d5_9 (n := 67) (n' := 12) (by decide) rfl rfl ?_ ?_
                              · intro c9
                                exact gRetV X w rfl d5_67 (by decide) (by decide) (⟨rfl, Kc4, z0, z1, z3, z2, V63, by omega, by omega, by omega, fun y => by simp only [← Int32.toInt_inj] <;> omega⟩)
                              · intro c9
                                exact absurd c9 (by decide)
                            · intro c43
                              refine gAloadN X w d5_46 rfl rfl (n := 47) rfl ?_
                              refine gIloadN X w d5_47 rfl (n := 48) rfl ?_
                              refine gIconst X w d5_48 (z := (1 : Int32)) rfl (n := 49) rfl ?_
                              refine gIadd X w d5_49 (z := (2 : Int32)) (by decide) (n := 50) rfl ?_
                              refine gAloadN X w d5_50 rfl rfl (n := 51) rfl ?_
                              refine gIloadN X w d5_51 rfl (n := 52) rfl ?_
                              refine gIaload X w V53 (by decide) rfl d5_52 (n := 53) rfl ?_
                              refine gIastore X w (z := (.int z1)) V53 (by decide) (show (2 : Int) < ((4 : Nat) : Int) from by decide) na rfl (vs' := [(.int z0), (.int z1), (.int z1), (.int z2)]) rfl d5_53 (n := 54) rfl ?_
                              intro T hp53 X W53 V53
                              have Kc4 := Kc3.wr W53 (Or.inl (List.mem_singleton.mpr rfl))
                              refine gGoto X w d5_54 (by decide) (n := 30) rfl ?_
                              refine gIinc X w d5_30 rfl (z := (0 : Int32)) (by decide) #[.val (.ref a), .val (.int (0 : Int32)), .val (.int (4 : Int32)), .val (.int (0 : Int32)), .val (.int (3 : Int32)), .val (.int z3)] rfl (n := 33) rfl ?_
                              refine gIloadN X w d5_33 rfl (n := 34) rfl ?_
                              refine gIloadN X w d5_34 rfl (n := 35) rfl ?_
                              refine gIcmp_lt X w d5_35 (n := 57) (n' := 38) (by decide) rfl rfl ?_ ?_
                              · intro c35
                                exact absurd c35 (by decide)
                              · intro c35
                                refine gIload X w d5_38 rfl (n := 40) rfl ?_
                                refine gAloadN X w d5_40 rfl rfl (n := 41) rfl ?_
                                refine gIloadN X w d5_41 rfl (n := 42) rfl ?_
                                refine gIaload X w V53 (by decide) rfl d5_42 (n := 43) rfl ?_
                                refine gIcmp_ge X w d5_43 (n := 57) (n' := 46) (by decide) rfl rfl ?_ ?_
                                · intro c43
                                  refine gAloadN X w d5_57 rfl rfl (n := 58) rfl ?_
                                  refine gIloadN X w d5_58 rfl (n := 59) rfl ?_
                                  refine gIconst X w d5_59 (z := (1 : Int32)) rfl (n := 60) rfl ?_
                                  refine gIadd X w d5_60 (z := (1 : Int32)) (by decide) (n := 61) rfl ?_
                                  refine gIload X w d5_61 rfl (n := 63) rfl ?_
                                  refine gIastore X w (z := (.int z3)) V53 (by decide) (show (1 : Int) < ((4 : Nat) : Int) from by decide) na rfl (vs' := [(.int z0), (.int z3), (.int z1), (.int z2)]) rfl d5_63 (n := 64) rfl ?_
                                  intro T hp63 X W63 V63
                                  have Kc5 := Kc4.wr W63 (Or.inl (List.mem_singleton.mpr rfl))
                                  refine gGoto X w d5_64 (by decide) (n := 3) rfl ?_
                                  refine gIinc X w d5_3 rfl (z := (4 : Int32)) (by decide) #[.val (.ref a), .val (.int (0 : Int32)), .val (.int (4 : Int32)), .val (.int (0 : Int32)), .val (.int (4 : Int32)), .val (.int z3)] rfl (n := 6) rfl ?_
                                  refine gIload X w d5_6 rfl (n := 8) rfl ?_
                                  refine gIloadN X w d5_8 rfl (n := 9) rfl ?_
                                  refine gIcmp_ge X w d5_9 (n := 67) (n' := 12) (by decide) rfl rfl ?_ ?_
                                  · intro c9
                                    exact gRetV X w rfl d5_67 (by decide) (by decide) (⟨rfl, Kc5, z0, z3, z1, z2, V63, by omega, by omega, by omega, fun y => by simp only [← Int32.toInt_inj] <;> omega⟩)
                                  · intro c9
                                    exact absurd c9 (by decide)
                                · intro c43
                                  refine gAloadN X w d5_46 rfl rfl (n := 47) rfl ?_
                                  refine gIloadN X w d5_47 rfl (n := 48) rfl ?_
                                  refine gIconst X w d5_48 (z := (1 : Int32)) rfl (n := 49) rfl ?_
                                  refine gIadd X w d5_49 (z := (1 : Int32)) (by decide) (n := 50) rfl ?_
                                  refine gAloadN X w d5_50 rfl rfl (n := 51) rfl ?_
                                  refine gIloadN X w d5_51 rfl (n := 52) rfl ?_
                                  refine gIaload X w V53 (by decide) rfl d5_52 (n := 53) rfl ?_
                                  refine gIastore X w (z := (.int z0)) V53 (by decide) (show (1 : Int) < ((4 : Nat) : Int) from by decide) na rfl (vs' := [(.int z0), (.int z0), (.int z1), (.int z2)]) rfl d5_53 (n := 54) rfl ?_
                                  intro T hp53 X W53 V53
                                  have Kc5 := Kc4.wr W53 (Or.inl (List.mem_singleton.mpr rfl))
                                  refine gGoto X w d5_54 (by decide) (n := 30) rfl ?_
                                  refine gIinc X w d5_30 rfl (z := (-1 : Int32)) (by decide) #[.val (.ref a), .val (.int (0 : Int32)), .val (.int (4 : Int32)), .val (.int (-1 : Int32)), .val (.int (3 : Int32)), .val (.int z3)] rfl (n := 33) rfl ?_
                                  refine gIloadN X w d5_33 rfl (n := 34) rfl ?_
                                  refine gIloadN X w d5_34 rfl (n := 35) rfl ?_
                                  refine gIcmp_lt X w d5_35 (n := 57) (n' := 38) (by decide) rfl rfl ?_ ?_
                                  · intro c35
                                    refine gAloadN X w d5_57 rfl rfl (n := 58) rfl ?_
                                    refine gIloadN X w d5_58 rfl (n := 59) rfl ?_
                                    refine gIconst X w d5_59 (z := (1 : Int32)) rfl (n := 60) rfl ?_
                                    refine gIadd X w d5_60 (z := (0 : Int32)) (by decide) (n := 61) rfl ?_
                                    refine gIload X w d5_61 rfl (n := 63) rfl ?_
                                    refine gIastore X w (z := (.int z3)) V53 (by decide) (show (0 : Int) < ((4 : Nat) : Int) from by decide) na rfl (vs' := [(.int z3), (.int z0), (.int z1), (.int z2)]) rfl d5_63 (n := 64) rfl ?_
                                    intro T hp63 X W63 V63
                                    have Kc6 := Kc5.wr W63 (Or.inl (List.mem_singleton.mpr rfl))
                                    refine gGoto X w d5_64 (by decide) (n := 3) rfl ?_
                                    refine gIinc X w d5_3 rfl (z := (4 : Int32)) (by decide) #[.val (.ref a), .val (.int (0 : Int32)), .val (.int (4 : Int32)), .val (.int (-1 : Int32)), .val (.int (4 : Int32)), .val (.int z3)] rfl (n := 6) rfl ?_
                                    refine gIload X w d5_6 rfl (n := 8) rfl ?_
                                    refine gIloadN X w d5_8 rfl (n := 9) rfl ?_
                                    refine gIcmp_ge X w d5_9 (n := 67) (n' := 12) (by decide) rfl rfl ?_ ?_
                                    · intro c9
                                      exact gRetV X w rfl d5_67 (by decide) (by decide) (⟨rfl, Kc6, z3, z0, z1, z2, V63, by omega, by omega, by omega, fun y => by simp only [← Int32.toInt_inj] <;> omega⟩)
                                    · intro c9
                                      exact absurd c9 (by decide)
                                  · intro c35
                                    exact absurd c35 (by decide)
                · intro c43
                  refine gAloadN X w d5_46 rfl rfl (n := 47) rfl ?_
                  refine gIloadN X w d5_47 rfl (n := 48) rfl ?_
                  refine gIconst X w d5_48 (z := (1 : Int32)) rfl (n := 49) rfl ?_
                  refine gIadd X w d5_49 (z := (2 : Int32)) (by decide) (n := 50) rfl ?_
                  refine gAloadN X w d5_50 rfl rfl (n := 51) rfl ?_
                  refine gIloadN X w d5_51 rfl (n := 52) rfl ?_
                  refine gIaload X w V63 (by decide) rfl d5_52 (n := 53) rfl ?_
                  refine gIastore X w (z := (.int z1)) V63 (by decide) (show (2 : Int) < ((4 : Nat) : Int) from by decide) na rfl (vs' := [(.int z0), (.int z1), (.int z1), (.int z3)]) rfl d5_53 (n := 54) rfl ?_
                  intro T hp53 X W53 V53
                  have Kc2 := Kc1.wr W53 (Or.inl (List.mem_singleton.mpr rfl))
                  refine gGoto X w d5_54 (by decide) (n := 30) rfl ?_
                  refine gIinc X w d5_30 rfl (z := (0 : Int32)) (by decide) #[.val (.ref a), .val (.int (0 : Int32)), .val (.int (4 : Int32)), .val (.int (0 : Int32)), .val (.int (2 : Int32)), .val (.int z2)] rfl (n := 33) rfl ?_
                  refine gIloadN X w d5_33 rfl (n := 34) rfl ?_
                  refine gIloadN X w d5_34 rfl (n := 35) rfl ?_
                  refine gIcmp_lt X w d5_35 (n := 57) (n' := 38) (by decide) rfl rfl ?_ ?_
                  · intro c35
                    exact absurd c35 (by decide)
                  · intro c35
                    refine gIload X w d5_38 rfl (n := 40) rfl ?_
                    refine gAloadN X w d5_40 rfl rfl (n := 41) rfl ?_
                    refine gIloadN X w d5_41 rfl (n := 42) rfl ?_
                    refine gIaload X w V53 (by decide) rfl d5_42 (n := 43) rfl ?_
                    refine gIcmp_ge X w d5_43 (n := 57) (n' := 46) (by decide) rfl rfl ?_ ?_
                    · intro c43
                      refine gAloadN X w d5_57 rfl rfl (n := 58) rfl ?_
                      refine gIloadN X w d5_58 rfl (n := 59) rfl ?_
                      refine gIconst X w d5_59 (z := (1 : Int32)) rfl (n := 60) rfl ?_
                      refine gIadd X w d5_60 (z := (1 : Int32)) (by decide) (n := 61) rfl ?_
                      refine gIload X w d5_61 rfl (n := 63) rfl ?_
                      refine gIastore X w (z := (.int z2)) V53 (by decide) (show (1 : Int) < ((4 : Nat) : Int) from by decide) na rfl (vs' := [(.int z0), (.int z2), (.int z1), (.int z3)]) rfl d5_63 (n := 64) rfl ?_
                      intro T hp63 X W63 V63
                      have Kc3 := Kc2.wr W63 (Or.inl (List.mem_singleton.mpr rfl))
                      refine gGoto X w d5_64 (by decide) (n := 3) rfl ?_
                      refine gIinc X w d5_3 rfl (z := (3 : Int32)) (by decide) #[.val (.ref a), .val (.int (0 : Int32)), .val (.int (4 : Int32)), .val (.int (0 : Int32)), .val (.int (3 : Int32)), .val (.int z2)] rfl (n := 6) rfl ?_
                      refine gIload X w d5_6 rfl (n := 8) rfl ?_
                      refine gIloadN X w d5_8 rfl (n := 9) rfl ?_
                      refine gIcmp_ge X w d5_9 (n := 67) (n' := 12) (by decide) rfl rfl ?_ ?_
                      · intro c9
                        exact absurd c9 (by decide)
                      · intro c9
                        refine gAloadN X w d5_12 rfl rfl (n := 13) rfl ?_
                        refine gIload X w d5_13 rfl (n := 15) rfl ?_
                        refine gDup X w d5_15 rfl (n := 16) rfl ?_
                        refine gIstoreN X w d5_16 #[.val (.ref a), .val (.int (0 : Int32)), .val (.int (4 : Int32)), .val (.int (3 : Int32)), .val (.int (3 : Int32)), .val (.int z2)] rfl (n := 17) rfl ?_
                        refine gIaload X w V63 (by decide) rfl d5_17 (n := 18) rfl ?_
                        refine gIstore X w d5_18 #[.val (.ref a), .val (.int (0 : Int32)), .val (.int (4 : Int32)), .val (.int (3 : Int32)), .val (.int (3 : Int32)), .val (.int z3)] rfl (n := 20) rfl ?_
                        refine gIload X w d5_20 rfl (n := 22) rfl ?_
                        refine gAloadN X w d5_22 rfl rfl (n := 23) rfl ?_
                        refine gIloadN X w d5_23 rfl (n := 24) rfl ?_
                        refine gIconst X w d5_24 (z := (1 : Int32)) rfl (n := 25) rfl ?_
                        refine gIsub X w d5_25 (z := (2 : Int32)) (by decide) (n := 26) rfl ?_
                        refine gIaload X w V63 (by decide) rfl d5_26 (n := 27) rfl ?_
                        refine gIcmp_ge X w d5_27 (n := 64) (n' := 30) (by decide) rfl rfl ?_ ?_
                        · intro c27
                          refine gGoto X w d5_64 (by decide) (n := 3) rfl ?_
                          refine gIinc X w d5_3 rfl (z := (4 : Int32)) (by decide) #[.val (.ref a), .val (.int (0 : Int32)), .val (.int (4 : Int32)), .val (.int (3 : Int32)), .val (.int (4 : Int32)), .val (.int z3)] rfl (n := 6) rfl ?_
                          refine gIload X w d5_6 rfl (n := 8) rfl ?_
                          refine gIloadN X w d5_8 rfl (n := 9) rfl ?_
                          refine gIcmp_ge X w d5_9 (n := 67) (n' := 12) (by decide) rfl rfl ?_ ?_
                          · intro c9
                            exact gRetV X w rfl d5_67 (by decide) (by decide) (⟨rfl, Kc3, z0, z2, z1, z3, V63, by omega, by omega, by omega, fun y => by simp only [← Int32.toInt_inj] <;> omega⟩)
                          · intro c9
                            exact absurd c9 (by decide)
                        · intro c27
                          refine gIinc X w d5_30 rfl (z := (2 : Int32)) (by decide) #[.val (.ref a), .val (.int (0 : Int32)), .val (.int (4 : Int32)), .val (.int (2 : Int32)), .val (.int (3 : Int32)), .val (.int z3)] rfl (n := 33) rfl ?_
                          refine gIloadN X w d5_33 rfl (n := 34) rfl ?_
                          refine gIloadN X w d5_34 rfl (n := 35) rfl ?_
                          refine gIcmp_lt X w d5_35 (n := 57) (n' := 38) (by decide) rfl rfl ?_ ?_
                          · intro c35
                            exact absurd c35 (by decide)
                          · intro c35
                            refine gIload X w d5_38 rfl (n := 40) rfl ?_
                            refine gAloadN X w d5_40 rfl rfl (n := 41) rfl ?_
                            refine gIloadN X w d5_41 rfl (n := 42) rfl ?_
                            refine gIaload X w V63 (by decide) rfl d5_42 (n := 43) rfl ?_
                            refine gIcmp_ge X w d5_43 (n := 57) (n' := 46) (by decide) rfl rfl ?_ ?_
                            · intro c43
                              refine gAloadN X w d5_57 rfl rfl (n := 58) rfl ?_
                              refine gIloadN X w d5_58 rfl (n := 59) rfl ?_
                              refine gIconst X w d5_59 (z := (1 : Int32)) rfl (n := 60) rfl ?_
                              refine gIadd X w d5_60 (z := (3 : Int32)) (by decide) (n := 61) rfl ?_
                              refine gIload X w d5_61 rfl (n := 63) rfl ?_
                              refine gIastore X w (z := (.int z3)) V63 (by decide) (show (3 : Int) < ((4 : Nat) : Int) from by decide) na rfl (vs' := [(.int z0), (.int z2), (.int z1), (.int z3)]) rfl d5_63 (n := 64) rfl ?_
                              intro T hp63 X W63 V63
                              have Kc4 := Kc3.wr W63 (Or.inl (List.mem_singleton.mpr rfl))
                              refine gGoto X w d5_64 (by decide) (n := 3) rfl ?_
                              refine gIinc X w d5_3 rfl (z := (4 : Int32)) (by decide) #[.val (.ref a), .val (.int (0 : Int32)), .val (.int (4 : Int32)), .val (.int (2 : Int32)), .val (.int (4 : Int32)), .val (.int z3)] rfl (n := 6) rfl ?_
                              refine gIload X w d5_6 rfl (n := 8) rfl ?_
                              refine gIloadN X w d5_8 rfl (n := 9) rfl ?_
                              refine gIcmp_ge X w d5_9 (n := 67) (n' := 12) (by decide) rfl rfl ?_ ?_
                              · intro c9
                                exact gRetV X w rfl d5_67 (by decide) (by decide) (⟨rfl, Kc4, z0, z2, z1, z3, V63, by omega, by omega, by omega, fun y => by simp only [← Int32.toInt_inj] <;> omega⟩)
                              · intro c9
                                exact absurd c9 (by decide)
                            · intro c43
                              refine gAloadN X w d5_46 rfl rfl (n := 47) rfl ?_
                              refine gIloadN X w d5_47 rfl (n := 48) rfl ?_
                              refine gIconst X w d5_48 (z := (1 : Int32)) rfl (n := 49) rfl ?_
                              refine gIadd X w d5_49 (z := (3 : Int32)) (by decide) (n := 50) rfl ?_
                              refine gAloadN X w d5_50 rfl rfl (n := 51) rfl ?_
                              refine gIloadN X w d5_51 rfl (n := 52) rfl ?_
                              refine gIaload X w V63 (by decide) rfl d5_52 (n := 53) rfl ?_
                              refine gIastore X w (z := (.int z1)) V63 (by decide) (show (3 : Int) < ((4 : Nat) : Int) from by decide) na rfl (vs' := [(.int z0), (.int z2), (.int z1), (.int z1)]) rfl d5_53 (n := 54) rfl ?_
                              intro T hp53 X W53 V53
                              have Kc4 := Kc3.wr W53 (Or.inl (List.mem_singleton.mpr rfl))
                              refine gGoto X w d5_54 (by decide) (n := 30) rfl ?_
                              refine gIinc X w d5_30 rfl (z := (1 : Int32)) (by decide) #[.val (.ref a), .val (.int (0 : Int32)), .val (.int (4 : Int32)), .val (.int (1 : Int32)), .val (.int (3 : Int32)), .val (.int z3)] rfl (n := 33) rfl ?_
                              refine gIloadN X w d5_33 rfl (n := 34) rfl ?_
                              refine gIloadN X w d5_34 rfl (n := 35) rfl ?_
                              refine gIcmp_lt X w d5_35 (n := 57) (n' := 38) (by decide) rfl rfl ?_ ?_
                              · intro c35
                                exact absurd c35 (by decide)
                              · intro c35
                                refine gIload X w d5_38 rfl (n := 40) rfl ?_
                                refine gAloadN X w d5_40 rfl rfl (n := 41) rfl ?_
                                refine gIloadN X w d5_41 rfl (n := 42) rfl ?_
                                refine gIaload X w V53 (by decide) rfl d5_42 (n := 43) rfl ?_
                                refine gIcmp_ge X w d5_43 (n := 57) (n' := 46) (by decide) rfl rfl ?_ ?_
                                · intro c43
                                  refine gAloadN X w d5_57 rfl rfl (n := 58) rfl ?_
                                  refine gIloadN X w d5_58 rfl (n := 59) rfl ?_
                                  refine gIconst X w d5_59 (z := (1 : Int32)) rfl (n := 60) rfl ?_
                                  refine gIadd X w d5_60 (z := (2 : Int32)) (by decide) (n := 61) rfl ?_
                                  refine gIload X w d5_61 rfl (n := 63) rfl ?_
                                  refine gIastore X w (z := (.int z3)) V53 (by decide) (show (2 : Int) < ((4 : Nat) : Int) from by decide) na rfl (vs' := [(.int z0), (.int z2), (.int z3), (.int z1)]) rfl d5_63 (n := 64) rfl ?_
                                  intro T hp63 X W63 V63
                                  have Kc5 := Kc4.wr W63 (Or.inl (List.mem_singleton.mpr rfl))
                                  refine gGoto X w d5_64 (by decide) (n := 3) rfl ?_
                                  refine gIinc X w d5_3 rfl (z := (4 : Int32)) (by decide) #[.val (.ref a), .val (.int (0 : Int32)), .val (.int (4 : Int32)), .val (.int (1 : Int32)), .val (.int (4 : Int32)), .val (.int z3)] rfl (n := 6) rfl ?_
                                  refine gIload X w d5_6 rfl (n := 8) rfl ?_
                                  refine gIloadN X w d5_8 rfl (n := 9) rfl ?_
                                  refine gIcmp_ge X w d5_9 (n := 67) (n' := 12) (by decide) rfl rfl ?_ ?_
                                  · intro c9
                                    exact gRetV X w rfl d5_67 (by decide) (by decide) (⟨rfl, Kc5, z0, z2, z3, z1, V63, by omega, by omega, by omega, fun y => by simp only [← Int32.toInt_inj] <;> omega⟩)
                                  · intro c9
                                    exact absurd c9 (by decide)
                                · intro c43
                                  refine gAloadN X w d5_46 rfl rfl (n := 47) rfl ?_
                                  refine gIloadN X w d5_47 rfl (n := 48) rfl ?_
                                  refine gIconst X w d5_48 (z := (1 : Int32)) rfl (n := 49) rfl ?_
                                  refine gIadd X w d5_49 (z := (2 : Int32)) (by decide) (n := 50) rfl ?_
                                  refine gAloadN X w d5_50 rfl rfl (n := 51) rfl ?_
                                  refine gIloadN X w d5_51 rfl (n := 52) rfl ?_
                                  refine gIaload X w V53 (by decide) rfl d5_52 (n := 53) rfl ?_
                                  refine gIastore X w (z := (.int z2)) V53 (by decide) (show (2 : Int) < ((4 : Nat) : Int) from by decide) na rfl (vs' := [(.int z0), (.int z2), (.int z2), (.int z1)]) rfl d5_53 (n := 54) rfl ?_
                                  intro T hp53 X W53 V53
                                  have Kc5 := Kc4.wr W53 (Or.inl (List.mem_singleton.mpr rfl))
                                  refine gGoto X w d5_54 (by decide) (n := 30) rfl ?_
                                  refine gIinc X w d5_30 rfl (z := (0 : Int32)) (by decide) #[.val (.ref a), .val (.int (0 : Int32)), .val (.int (4 : Int32)), .val (.int (0 : Int32)), .val (.int (3 : Int32)), .val (.int z3)] rfl (n := 33) rfl ?_
                                  refine gIloadN X w d5_33 rfl (n := 34) rfl ?_
                                  refine gIloadN X w d5_34 rfl (n := 35) rfl ?_
                                  refine gIcmp_lt X w d5_35 (n := 57) (n' := 38) (by decide) rfl rfl ?_ ?_
                                  · intro c35
                                    exact absurd c35 (by decide)
                                  · intro c35
                                    refine gIload X w d5_38 rfl (n := 40) rfl ?_
                                    refine gAloadN X w d5_40 rfl rfl (n := 41) rfl ?_
                                    refine gIloadN X w d5_41 rfl (n := 42) rfl ?_
                                    refine gIaload X w V53 (by decide) rfl d5_42 (n := 43) rfl ?_
                                    refine gIcmp_ge X w d5_43 (n := 57) (n' := 46) (by decide) rfl rfl ?_ ?_
                                    · intro c43
                                      refine gAloadN X w d5_57 rfl rfl (n := 58) rfl ?_
                                      refine gIloadN X w d5_58 rfl (n := 59) rfl ?_
                                      refine gIconst X w d5_59 (z := (1 : Int32)) rfl (n := 60) rfl ?_
                                      refine gIadd X w d5_60 (z := (1 : Int32)) (by decide) (n := 61) rfl ?_
                                      refine gIload X w d5_61 rfl (n := 63) rfl ?_
                                      refine gIastore X w (z := (.int z3)) V53 (by decide) (show (1 : Int) < ((4 : Nat) : Int) from by decide) na rfl (vs' := [(.int z0), (.int z3), (.int z2), (.int z1)]) rfl d5_63 (n := 64) rfl ?_
                                      intro T hp63 X W63 V63
                                      have Kc6 := Kc5.wr W63 (Or.inl (List.mem_singleton.mpr rfl))
                                      refine gGoto X w d5_64 (by decide) (n := 3) rfl ?_
                                      refine gIinc X w d5_3 rfl (z := (4 : Int32)) (by decide) #[.val (.ref a), .val (.int (0 : Int32)), .val (.int (4 : Int32)), .val (.int (0 : Int32)), .val (.int (4 : Int32)), .val (.int z3)] rfl (n := 6) rfl ?_
                                      refine gIload X w d5_6 rfl (n := 8) rfl ?_
                                      refine gIloadN X w d5_8 rfl (n := 9) rfl ?_
                                      refine gIcmp_ge X w d5_9 (n := 67) (n' := 12) (by decide) rfl rfl ?_ ?_
                                      · intro c9
                                        exact gRetV X w rfl d5_67 (by decide) (by decide) (⟨rfl, Kc6, z0, z3, z2, z1, V63, by omega, by omega, by omega, fun y => by simp only [← Int32.toInt_inj] <;> omega⟩)
                                      · intro c9
                                        exact absurd c9 (by decide)
                                    · intro c43
                                      refine gAloadN X w d5_46 rfl rfl (n := 47) rfl ?_
                                      refine gIloadN X w d5_47 rfl (n := 48) rfl ?_
                                      refine gIconst X w d5_48 (z := (1 : Int32)) rfl (n := 49) rfl ?_
                                      refine gIadd X w d5_49 (z := (1 : Int32)) (by decide) (n := 50) rfl ?_
                                      refine gAloadN X w d5_50 rfl rfl (n := 51) rfl ?_
                                      refine gIloadN X w d5_51 rfl (n := 52) rfl ?_
                                      refine gIaload X w V53 (by decide) rfl d5_52 (n := 53) rfl ?_
                                      refine gIastore X w (z := (.int z0)) V53 (by decide) (show (1 : Int) < ((4 : Nat) : Int) from by decide) na rfl (vs' := [(.int z0), (.int z0), (.int z2), (.int z1)]) rfl d5_53 (n := 54) rfl ?_
                                      intro T hp53 X W53 V53
                                      have Kc6 := Kc5.wr W53 (Or.inl (List.mem_singleton.mpr rfl))
                                      refine gGoto X w d5_54 (by decide) (n := 30) rfl ?_
                                      refine gIinc X w d5_30 rfl (z := (-1 : Int32)) (by decide) #[.val (.ref a), .val (.int (0 : Int32)), .val (.int (4 : Int32)), .val (.int (-1 : Int32)), .val (.int (3 : Int32)), .val (.int z3)] rfl (n := 33) rfl ?_
                                      refine gIloadN X w d5_33 rfl (n := 34) rfl ?_
                                      refine gIloadN X w d5_34 rfl (n := 35) rfl ?_
                                      refine gIcmp_lt X w d5_35 (n := 57) (n' := 38) (by decide) rfl rfl ?_ ?_
                                      · intro c35
                                        refine gAloadN X w d5_57 rfl rfl (n := 58) rfl ?_
                                        refine gIloadN X w d5_58 rfl (n := 59) rfl ?_
                                        refine gIconst X w d5_59 (z := (1 : Int32)) rfl (n := 60) rfl ?_
                                        refine gIadd X w d5_60 (z := (0 : Int32)) (by decide) (n := 61) rfl ?_
                                        refine gIload X w d5_61 rfl (n := 63) rfl ?_
                                        refine gIastore X w (z := (.int z3)) V53 (by decide) (show (0 : Int) < ((4 : Nat) : Int) from by decide) na rfl (vs' := [(.int z3), (.int z0), (.int z2), (.int z1)]) rfl d5_63 (n := 64) rfl ?_
                                        intro T hp63 X W63 V63
                                        have Kc7 := Kc6.wr W63 (Or.inl (List.mem_singleton.mpr rfl))
                                        refine gGoto X w d5_64 (by decide) (n := 3) rfl ?_
                                        refine gIinc X w d5_3 rfl (z := (4 : Int32)) (by decide) #[.val (.ref a), .val (.int (0 : Int32)), .val (.int (4 : Int32)), .val (.int (-1 : Int32)), .val (.int (4 : Int32)), .val (.int z3)] rfl (n := 6) rfl ?_
                                        refine gIload X w d5_6 rfl (n := 8) rfl ?_
                                        refine gIloadN X w d5_8 rfl (n := 9) rfl ?_
                                        refine gIcmp_ge X w d5_9 (n := 67) (n' := 12) (by decide) rfl rfl ?_ ?_
                                        · intro c9
                                          exact gRetV X w rfl d5_67 (by decide) (by decide) (⟨rfl, Kc7, z3, z0, z2, z1, V63, by omega, by omega, by omega, fun y => by simp only [← Int32.toInt_inj] <;> omega⟩)
                                        · intro c9
                                          exact absurd c9 (by decide)
                                      · intro c35
                                        exact absurd c35 (by decide)
                    · intro c43
                      refine gAloadN X w d5_46 rfl rfl (n := 47) rfl ?_
                      refine gIloadN X w d5_47 rfl (n := 48) rfl ?_
                      refine gIconst X w d5_48 (z := (1 : Int32)) rfl (n := 49) rfl ?_
                      refine gIadd X w d5_49 (z := (1 : Int32)) (by decide) (n := 50) rfl ?_
                      refine gAloadN X w d5_50 rfl rfl (n := 51) rfl ?_
                      refine gIloadN X w d5_51 rfl (n := 52) rfl ?_
                      refine gIaload X w V53 (by decide) rfl d5_52 (n := 53) rfl ?_
                      refine gIastore X w (z := (.int z0)) V53 (by decide) (show (1 : Int) < ((4 : Nat) : Int) from by decide) na rfl (vs' := [(.int z0), (.int z0), (.int z1), (.int z3)]) rfl d5_53 (n := 54) rfl ?_
                      intro T hp53 X W53 V53
                      have Kc3 := Kc2.wr W53 (Or.inl (List.mem_singleton.mpr rfl))
                      refine gGoto X w d5_54 (by decide) (n := 30) rfl ?_
                      refine gIinc X w d5_30 rfl (z := (-1 : Int32)) (by decide) #[.val (.ref a), .val (.int (0 : Int32)), .val (.int (4 : Int32)), .val (.int (-1 : Int32)), .val (.int (2 : Int32)), .val (.int z2)] rfl (n := 33) rfl ?_
                      refine gIloadN X w d5_33 rfl (n := 34) rfl ?_
                      refine gIloadN X w d5_34 rfl (n := 35) rfl ?_
                      refine gIcmp_lt X w d5_35 (n := 57) (n' := 38) (by decide) rfl rfl ?_ ?_
                      · intro c35
                        refine gAloadN X w d5_57 rfl rfl (n := 58) rfl ?_
                        refine gIloadN X w d5_58 rfl (n := 59) rfl ?_
                        refine gIconst X w d5_59 (z := (1 : Int32)) rfl (n := 60) rfl ?_
                        refine gIadd X w d5_60 (z := (0 : Int32)) (by decide) (n := 61) rfl ?_
                        refine gIload X w d5_61 rfl (n := 63) rfl ?_
                        refine gIastore X w (z := (.int z2)) V53 (by decide) (show (0 : Int) < ((4 : Nat) : Int) from by decide) na rfl (vs' := [(.int z2), (.int z0), (.int z1), (.int z3)]) rfl d5_63 (n := 64) rfl ?_
                        intro T hp63 X W63 V63
                        have Kc4 := Kc3.wr W63 (Or.inl (List.mem_singleton.mpr rfl))
                        refine gGoto X w d5_64 (by decide) (n := 3) rfl ?_
                        refine gIinc X w d5_3 rfl (z := (3 : Int32)) (by decide) #[.val (.ref a), .val (.int (0 : Int32)), .val (.int (4 : Int32)), .val (.int (-1 : Int32)), .val (.int (3 : Int32)), .val (.int z2)] rfl (n := 6) rfl ?_
                        refine gIload X w d5_6 rfl (n := 8) rfl ?_
                        refine gIloadN X w d5_8 rfl (n := 9) rfl ?_
                        refine gIcmp_ge X w d5_9 (n := 67) (n' := 12) (by decide) rfl rfl ?_ ?_
                        · intro c9
                          exact absurd c9 (by decide)
                        · intro c9
                          refine gAloadN X w d5_12 rfl rfl (n := 13) rfl ?_
                          refine gIload X w d5_13 rfl (n := 15) rfl ?_
                          refine gDup X w d5_15 rfl (n := 16) rfl ?_
                          refine gIstoreN X w d5_16 #[.val (.ref a), .val (.int (0 : Int32)), .val (.int (4 : Int32)), .val (.int (3 : Int32)), .val (.int (3 : Int32)), .val (.int z2)] rfl (n := 17) rfl ?_
                          refine gIaload X w V63 (by decide) rfl d5_17 (n := 18) rfl ?_
                          refine gIstore X w d5_18 #[.val (.ref a), .val (.int (0 : Int32)), .val (.int (4 : Int32)), .val (.int (3 : Int32)), .val (.int (3 : Int32)), .val (.int z3)] rfl (n := 20) rfl ?_
                          refine gIload X w d5_20 rfl (n := 22) rfl ?_
                          refine gAloadN X w d5_22 rfl rfl (n := 23) rfl ?_
                          refine gIloadN X w d5_23 rfl (n := 24) rfl ?_
                          refine gIconst X w d5_24 (z := (1 : Int32)) rfl (n := 25) rfl ?_
                          refine gIsub X w d5_25 (z := (2 : Int32)) (by decide) (n := 26) rfl ?_
                          refine gIaload X w V63 (by decide) rfl d5_26 (n := 27) rfl ?_
                          refine gIcmp_ge X w d5_27 (n := 64) (n' := 30) (by decide) rfl rfl ?_ ?_
                          · intro c27
                            refine gGoto X w d5_64 (by decide) (n := 3) rfl ?_
                            refine gIinc X w d5_3 rfl (z := (4 : Int32)) (by decide) #[.val (.ref a), .val (.int (0 : Int32)), .val (.int (4 : Int32)), .val (.int (3 : Int32)), .val (.int (4 : Int32)), .val (.int z3)] rfl (n := 6) rfl ?_
                            refine gIload X w d5_6 rfl (n := 8) rfl ?_
                            refine gIloadN X w d5_8 rfl (n := 9) rfl ?_
                            refine gIcmp_ge X w d5_9 (n := 67) (n' := 12) (by decide) rfl rfl ?_ ?_
                            · intro c9
                              exact gRetV X w rfl d5_67 (by decide) (by decide) (⟨rfl, Kc4, z2, z0, z1, z3, V63, by omega, by omega, by omega, fun y => by simp only [← Int32.toInt_inj] <;> omega⟩)
                            · intro c9
                              exact absurd c9 (by decide)
                          · intro c27
                            refine gIinc X w d5_30 rfl (z := (2 : Int32)) (by decide) #[.val (.ref a), .val (.int (0 : Int32)), .val (.int (4 : Int32)), .val (.int (2 : Int32)), .val (.int (3 : Int32)), .val (.int z3)] rfl (n := 33) rfl ?_
                            refine gIloadN X w d5_33 rfl (n := 34) rfl ?_
                            refine gIloadN X w d5_34 rfl (n := 35) rfl ?_
                            refine gIcmp_lt X w d5_35 (n := 57) (n' := 38) (by decide) rfl rfl ?_ ?_
                            · intro c35
                              exact absurd c35 (by decide)
                            · intro c35
                              refine gIload X w d5_38 rfl (n := 40) rfl ?_
                              refine gAloadN X w d5_40 rfl rfl (n := 41) rfl ?_
                              refine gIloadN X w d5_41 rfl (n := 42) rfl ?_
                              refine gIaload X w V63 (by decide) rfl d5_42 (n := 43) rfl ?_
                              refine gIcmp_ge X w d5_43 (n := 57) (n' := 46) (by decide) rfl rfl ?_ ?_
                              · intro c43
                                refine gAloadN X w d5_57 rfl rfl (n := 58) rfl ?_
                                refine gIloadN X w d5_58 rfl (n := 59) rfl ?_
                                refine gIconst X w d5_59 (z := (1 : Int32)) rfl (n := 60) rfl ?_
                                refine gIadd X w d5_60 (z := (3 : Int32)) (by decide) (n := 61) rfl ?_
                                refine gIload X w d5_61 rfl (n := 63) rfl ?_
                                refine gIastore X w (z := (.int z3)) V63 (by decide) (show (3 : Int) < ((4 : Nat) : Int) from by decide) na rfl (vs' := [(.int z2), (.int z0), (.int z1), (.int z3)]) rfl d5_63 (n := 64) rfl ?_
                                intro T hp63 X W63 V63
                                have Kc5 := Kc4.wr W63 (Or.inl (List.mem_singleton.mpr rfl))
                                refine gGoto X w d5_64 (by decide) (n := 3) rfl ?_
                                refine gIinc X w d5_3 rfl (z := (4 : Int32)) (by decide) #[.val (.ref a), .val (.int (0 : Int32)), .val (.int (4 : Int32)), .val (.int (2 : Int32)), .val (.int (4 : Int32)), .val (.int z3)] rfl (n := 6) rfl ?_
                                refine gIload X w d5_6 rfl (n := 8) rfl ?_
                                refine gIloadN X w d5_8 rfl (n := 9) rfl ?_
                                refine gIcmp_ge X w d5_9 (n := 67) (n' := 12) (by decide) rfl rfl ?_ ?_
                                · intro c9
                                  exact gRetV X w rfl d5_67 (by decide) (by decide) (⟨rfl, Kc5, z2, z0, z1, z3, V63, by omega, by omega, by omega, fun y => by simp only [← Int32.toInt_inj] <;> omega⟩)
                                · intro c9
                                  exact absurd c9 (by decide)
                              · intro c43
                                refine gAloadN X w d5_46 rfl rfl (n := 47) rfl ?_
                                refine gIloadN X w d5_47 rfl (n := 48) rfl ?_
                                refine gIconst X w d5_48 (z := (1 : Int32)) rfl (n := 49) rfl ?_
                                refine gIadd X w d5_49 (z := (3 : Int32)) (by decide) (n := 50) rfl ?_
                                refine gAloadN X w d5_50 rfl rfl (n := 51) rfl ?_
                                refine gIloadN X w d5_51 rfl (n := 52) rfl ?_
                                refine gIaload X w V63 (by decide) rfl d5_52 (n := 53) rfl ?_
                                refine gIastore X w (z := (.int z1)) V63 (by decide) (show (3 : Int) < ((4 : Nat) : Int) from by decide) na rfl (vs' := [(.int z2), (.int z0), (.int z1), (.int z1)]) rfl d5_53 (n := 54) rfl ?_
                                intro T hp53 X W53 V53
                                have Kc5 := Kc4.wr W53 (Or.inl (List.mem_singleton.mpr rfl))
                                refine gGoto X w d5_54 (by decide) (n := 30) rfl ?_
                                refine gIinc X w d5_30 rfl (z := (1 : Int32)) (by decide) #[.val (.ref a), .val (.int (0 : Int32)), .val (.int (4 : Int32)), .val (.int (1 : Int32)), .val (.int (3 : Int32)), .val (.int z3)] rfl (n := 33) rfl ?_
                                refine gIloadN X w d5_33 rfl (n := 34) rfl ?_
                                refine gIloadN X w d5_34 rfl (n := 35) rfl ?_
                                refine gIcmp_lt X w d5_35 (n := 57) (n' := 38) (by decide) rfl rfl ?_ ?_
                                · intro c35
                                  exact absurd c35 (by decide)
                                · intro c35
                                  refine gIload X w d5_38 rfl (n := 40) rfl ?_
                                  refine gAloadN X w d5_40 rfl rfl (n := 41) rfl ?_
                                  refine gIloadN X w d5_41 rfl (n := 42) rfl ?_
                                  refine gIaload X w V53 (by decide) rfl d5_42 (n := 43) rfl ?_
                                  refine gIcmp_ge X w d5_43 (n := 57) (n' := 46) (by decide) rfl rfl ?_ ?_
                                  · intro c43
                                    refine gAloadN X w d5_57 rfl rfl (n := 58) rfl ?_
                                    refine gIloadN X w d5_58 rfl (n := 59) rfl ?_
                                    refine gIconst X w d5_59 (z := (1 : Int32)) rfl (n := 60) rfl ?_
                                    refine gIadd X w d5_60 (z := (2 : Int32)) (by decide) (n := 61) rfl ?_
                                    refine gIload X w d5_61 rfl (n := 63) rfl ?_
                                    refine gIastore X w (z := (.int z3)) V53 (by decide) (show (2 : Int) < ((4 : Nat) : Int) from by decide) na rfl (vs' := [(.int z2), (.int z0), (.int z3), (.int z1)]) rfl d5_63 (n := 64) rfl ?_
                                    intro T hp63 X W63 V63
                                    have Kc6 := Kc5.wr W63 (Or.inl (List.mem_singleton.mpr rfl))
                                    refine gGoto X w d5_64 (by decide) (n := 3) rfl ?_
                                    refine gIinc X w d5_3 rfl (z := (4 : Int32)) (by decide) #[.val (.ref a), .val (.int (0 : Int32)), .val (.int (4 : Int32)), .val (.int (1 : Int32)), .val (.int (4 : Int32)), .val (.int z3)] rfl (n := 6) rfl ?_
                                    refine gIload X w d5_6 rfl (n := 8) rfl ?_
                                    refine gIloadN X w d5_8 rfl (n := 9) rfl ?_
                                    refine gIcmp_ge X w d5_9 (n := 67) (n' := 12) (by decide) rfl rfl ?_ ?_
                                    · intro c9
                                      exact gRetV X w rfl d5_67 (by decide) (by decide) (⟨rfl, Kc6, z2, z0, z3, z1, V63, by omega, by omega, by omega, fun y => by simp only [← Int32.toInt_inj] <;> omega⟩)
                                    · intro c9
                                      exact absurd c9 (by decide)
                                  · intro c43
                                    refine gAloadN X w d5_46 rfl rfl (n := 47) rfl ?_
                                    refine gIloadN X w d5_47 rfl (n := 48) rfl ?_
                                    refine gIconst X w d5_48 (z := (1 : Int32)) rfl (n := 49) rfl ?_
                                    refine gIadd X w d5_49 (z := (2 : Int32)) (by decide) (n := 50) rfl ?_
                                    refine gAloadN X w d5_50 rfl rfl (n := 51) rfl ?_
                                    refine gIloadN X w d5_51 rfl (n := 52) rfl ?_
                                    refine gIaload X w V53 (by decide) rfl d5_52 (n := 53) rfl ?_
                                    refine gIastore X w (z := (.int z0)) V53 (by decide) (show (2 : Int) < ((4 : Nat) : Int) from by decide) na rfl (vs' := [(.int z2), (.int z0), (.int z0), (.int z1)]) rfl d5_53 (n := 54) rfl ?_
                                    intro T hp53 X W53 V53
                                    have Kc6 := Kc5.wr W53 (Or.inl (List.mem_singleton.mpr rfl))
                                    refine gGoto X w d5_54 (by decide) (n := 30) rfl ?_
                                    refine gIinc X w d5_30 rfl (z := (0 : Int32)) (by decide) #[.val (.ref a), .val (.int (0 : Int32)), .val (.int (4 : Int32)), .val (.int (0 : Int32)), .val (.int (3 : Int32)), .val (.int z3)] rfl (n := 33) rfl ?_
                                    refine gIloadN X w d5_33 rfl (n := 34) rfl ?_
                                    refine gIloadN X w d5_34 rfl (n := 35) rfl ?_
                                    refine gIcmp_lt X w d5_35 (n := 57) (n' := 38) (by decide) rfl rfl ?_ ?_
                                    · intro c35
                                      exact absurd c35 (by decide)
                                    · intro c35
                                      refine gIload X w d5_38 rfl (n := 40) rfl ?_
                                      refine gAloadN X w d5_40 rfl rfl (n := 41) rfl ?_
                                      refine gIloadN X w d5_41 rfl (n := 42) rfl ?_
                                      refine gIaload X w V53 (by decide) rfl d5_42 (n := 43) rfl ?_
                                      refine gIcmp_ge X w d5_43 (n := 57) (n' := 46) (by decide) rfl rfl ?_ ?_
                                      · intro c43
                                        refine gAloadN X w d5_57 rfl rfl (n := 58) rfl ?_
                                        refine gIloadN X w d5_58 rfl (n := 59) rfl ?_
                                        refine gIconst X w d5_59 (z := (1 : Int32)) rfl (n := 60) rfl ?_
                                        refine gIadd X w d5_60 (z := (1 : Int32)) (by decide) (n := 61) rfl ?_
                                        refine gIload X w d5_61 rfl (n := 63) rfl ?_
                                        refine gIastore X w (z := (.int z3)) V53 (by decide) (show (1 : Int) < ((4 : Nat) : Int) from by decide) na rfl (vs' := [(.int z2), (.int z3), (.int z0), (.int z1)]) rfl d5_63 (n := 64) rfl ?_
                                        intro T hp63 X W63 V63
                                        have Kc7 := Kc6.wr W63 (Or.inl (List.mem_singleton.mpr rfl))
                                        refine gGoto X w d5_64 (by decide) (n := 3) rfl ?_
                                        refine gIinc X w d5_3 rfl (z := (4 : Int32)) (by decide) #[.val (.ref a), .val (.int (0 : Int32)), .val (.int (4 : Int32)), .val (.int (0 : Int32)), .val (.int (4 : Int32)), .val (.int z3)] rfl (n := 6) rfl ?_
                                        refine gIload X w d5_6 rfl (n := 8) rfl ?_
                                        refine gIloadN X w d5_8 rfl (n := 9) rfl ?_
                                        refine gIcmp_ge X w d5_9 (n := 67) (n' := 12) (by decide) rfl rfl ?_ ?_
                                        · intro c9
                                          exact gRetV X w rfl d5_67 (by decide) (by decide) (⟨rfl, Kc7, z2, z3, z0, z1, V63, by omega, by omega, by omega, fun y => by simp only [← Int32.toInt_inj] <;> omega⟩)
                                        · intro c9
                                          exact absurd c9 (by decide)
                                      · intro c43
                                        refine gAloadN X w d5_46 rfl rfl (n := 47) rfl ?_
                                        refine gIloadN X w d5_47 rfl (n := 48) rfl ?_
                                        refine gIconst X w d5_48 (z := (1 : Int32)) rfl (n := 49) rfl ?_
                                        refine gIadd X w d5_49 (z := (1 : Int32)) (by decide) (n := 50) rfl ?_
                                        refine gAloadN X w d5_50 rfl rfl (n := 51) rfl ?_
                                        refine gIloadN X w d5_51 rfl (n := 52) rfl ?_
                                        refine gIaload X w V53 (by decide) rfl d5_52 (n := 53) rfl ?_
                                        refine gIastore X w (z := (.int z2)) V53 (by decide) (show (1 : Int) < ((4 : Nat) : Int) from by decide) na rfl (vs' := [(.int z2), (.int z2), (.int z0), (.int z1)]) rfl d5_53 (n := 54) rfl ?_
                                        intro T hp53 X W53 V53
                                        have Kc7 := Kc6.wr W53 (Or.inl (List.mem_singleton.mpr rfl))
                                        refine gGoto X w d5_54 (by decide) (n := 30) rfl ?_
                                        refine gIinc X w d5_30 rfl (z := (-1 : Int32)) (by decide) #[.val (.ref a), .val (.int (0 : Int32)), .val (.int (4 : Int32)), .val (.int (-1 : Int32)), .val (.int (3 : Int32)), .val (.int z3)] rfl (n := 33) rfl ?_
                                        refine gIloadN X w d5_33 rfl (n := 34) rfl ?_
                                        refine gIloadN X w d5_34 rfl (n := 35) rfl ?_
                                        refine gIcmp_lt X w d5_35 (n := 57) (n' := 38) (by decide) rfl rfl ?_ ?_
                                        · intro c35
                                          refine gAloadN X w d5_57 rfl rfl (n := 58) rfl ?_
                                          refine gIloadN X w d5_58 rfl (n := 59) rfl ?_
                                          refine gIconst X w d5_59 (z := (1 : Int32)) rfl (n := 60) rfl ?_
                                          refine gIadd X w d5_60 (z := (0 : Int32)) (by decide) (n := 61) rfl ?_
                                          refine gIload X w d5_61 rfl (n := 63) rfl ?_
                                          refine gIastore X w (z := (.int z3)) V53 (by decide) (show (0 : Int) < ((4 : Nat) : Int) from by decide) na rfl (vs' := [(.int z3), (.int z2), (.int z0), (.int z1)]) rfl d5_63 (n := 64) rfl ?_
                                          intro T hp63 X W63 V63
                                          have Kc8 := Kc7.wr W63 (Or.inl (List.mem_singleton.mpr rfl))
                                          refine gGoto X w d5_64 (by decide) (n := 3) rfl ?_
                                          refine gIinc X w d5_3 rfl (z := (4 : Int32)) (by decide) #[.val (.ref a), .val (.int (0 : Int32)), .val (.int (4 : Int32)), .val (.int (-1 : Int32)), .val (.int (4 : Int32)), .val (.int z3)] rfl (n := 6) rfl ?_
                                          refine gIload X w d5_6 rfl (n := 8) rfl ?_
                                          refine gIloadN X w d5_8 rfl (n := 9) rfl ?_
                                          refine gIcmp_ge X w d5_9 (n := 67) (n' := 12) (by decide) rfl rfl ?_ ?_
                                          · intro c9
                                            exact gRetV X w rfl d5_67 (by decide) (by decide) (⟨rfl, Kc8, z3, z2, z0, z1, V63, by omega, by omega, by omega, fun y => by simp only [← Int32.toInt_inj] <;> omega⟩)
                                          · intro c9
                                            exact absurd c9 (by decide)
                                        · intro c35
                                          exact absurd c35 (by decide)
                      · intro c35
                        exact absurd c35 (by decide)
        · intro c43
          refine gAloadN X w d5_46 rfl rfl (n := 47) rfl ?_
          refine gIloadN X w d5_47 rfl (n := 48) rfl ?_
          refine gIconst X w d5_48 (z := (1 : Int32)) rfl (n := 49) rfl ?_
          refine gIadd X w d5_49 (z := (1 : Int32)) (by decide) (n := 50) rfl ?_
          refine gAloadN X w d5_50 rfl rfl (n := 51) rfl ?_
          refine gIloadN X w d5_51 rfl (n := 52) rfl ?_
          refine gIaload X w V (by decide) rfl d5_52 (n := 53) rfl ?_
          refine gIastore X w (z := (.int z0)) V (by decide) (show (1 : Int) < ((4 : Nat) : Int) from by decide) na rfl (vs' := [(.int z0), (.int z0), (.int z2), (.int z3)]) rfl d5_53 (n := 54) rfl ?_
          intro T hp53 X W53 V53
          have Kc1 := (Keep.refl _ [a]).wr W53 (Or.inl (List.mem_singleton.mpr rfl))
          refine gGoto X w d5_54 (by decide) (n := 30) rfl ?_
          refine gIinc X w d5_30 rfl (z := (-1 : Int32)) (by decide) #[.val (.ref a), .val (.int (0 : Int32)), .val (.int (4 : Int32)), .val (.int (-1 : Int32)), .val (.int (1 : Int32)), .val (.int z1)] rfl (n := 33) rfl ?_
          refine gIloadN X w d5_33 rfl (n := 34) rfl ?_
          refine gIloadN X w d5_34 rfl (n := 35) rfl ?_
          refine gIcmp_lt X w d5_35 (n := 57) (n' := 38) (by decide) rfl rfl ?_ ?_
          · intro c35
            refine gAloadN X w d5_57 rfl rfl (n := 58) rfl ?_
            refine gIloadN X w d5_58 rfl (n := 59) rfl ?_
            refine gIconst X w d5_59 (z := (1 : Int32)) rfl (n := 60) rfl ?_
            refine gIadd X w d5_60 (z := (0 : Int32)) (by decide) (n := 61) rfl ?_
            refine gIload X w d5_61 rfl (n := 63) rfl ?_
            refine gIastore X w (z := (.int z1)) V53 (by decide) (show (0 : Int) < ((4 : Nat) : Int) from by decide) na rfl (vs' := [(.int z1), (.int z0), (.int z2), (.int z3)]) rfl d5_63 (n := 64) rfl ?_
            intro T hp63 X W63 V63
            have Kc2 := Kc1.wr W63 (Or.inl (List.mem_singleton.mpr rfl))
            refine gGoto X w d5_64 (by decide) (n := 3) rfl ?_
            refine gIinc X w d5_3 rfl (z := (2 : Int32)) (by decide) #[.val (.ref a), .val (.int (0 : Int32)), .val (.int (4 : Int32)), .val (.int (-1 : Int32)), .val (.int (2 : Int32)), .val (.int z1)] rfl (n := 6) rfl ?_
            refine gIload X w d5_6 rfl (n := 8) rfl ?_
            refine gIloadN X w d5_8 rfl (n := 9) rfl ?_
            refine gIcmp_ge X w d5_9 (n := 67) (n' := 12) (by decide) rfl rfl ?_ ?_
            · intro c9
              exact absurd c9 (by decide)
            · intro c9
              refine gAloadN X w d5_12 rfl rfl (n := 13) rfl ?_
              refine gIload X w d5_13 rfl (n := 15) rfl ?_
              refine gDup X w d5_15 rfl (n := 16) rfl ?_
              refine gIstoreN X w d5_16 #[.val (.ref a), .val (.int (0 : Int32)), .val (.int (4 : Int32)), .val (.int (2 : Int32)), .val (.int (2 : Int32)), .val (.int z1)] rfl (n := 17) rfl ?_
              refine gIaload X w V63 (by decide) rfl d5_17 (n := 18) rfl ?_
              refine gIstore X w d5_18 #[.val (.ref a), .val (.int (0 : Int32)), .val (.int (4 : Int32)), .val (.int (2 : Int32)), .val (.int (2 : Int32)), .val (.int z2)] rfl (n := 20) rfl ?_
              refine gIload X w d5_20 rfl (n := 22) rfl ?_
              refine gAloadN X w d5_22 rfl rfl (n := 23) rfl ?_
              refine gIloadN X w d5_23 rfl (n := 24) rfl ?_
              refine gIconst X w d5_24 (z := (1 : Int32)) rfl (n := 25) rfl ?_
              refine gIsub X w d5_25 (z := (1 : Int32)) (by decide) (n := 26) rfl ?_
              refine gIaload X w V63 (by decide) rfl d5_26 (n := 27) rfl ?_
              refine gIcmp_ge X w d5_27 (n := 64) (n' := 30) (by decide) rfl rfl ?_ ?_
              · intro c27
                refine gGoto X w d5_64 (by decide) (n := 3) rfl ?_
                refine gIinc X w d5_3 rfl (z := (3 : Int32)) (by decide) #[.val (.ref a), .val (.int (0 : Int32)), .val (.int (4 : Int32)), .val (.int (2 : Int32)), .val (.int (3 : Int32)), .val (.int z2)] rfl (n := 6) rfl ?_
                refine gIload X w d5_6 rfl (n := 8) rfl ?_
                refine gIloadN X w d5_8 rfl (n := 9) rfl ?_
                refine gIcmp_ge X w d5_9 (n := 67) (n' := 12) (by decide) rfl rfl ?_ ?_
                · intro c9
                  exact absurd c9 (by decide)
                · intro c9
                  refine gAloadN X w d5_12 rfl rfl (n := 13) rfl ?_
                  refine gIload X w d5_13 rfl (n := 15) rfl ?_
                  refine gDup X w d5_15 rfl (n := 16) rfl ?_
                  refine gIstoreN X w d5_16 #[.val (.ref a), .val (.int (0 : Int32)), .val (.int (4 : Int32)), .val (.int (3 : Int32)), .val (.int (3 : Int32)), .val (.int z2)] rfl (n := 17) rfl ?_
                  refine gIaload X w V63 (by decide) rfl d5_17 (n := 18) rfl ?_
                  refine gIstore X w d5_18 #[.val (.ref a), .val (.int (0 : Int32)), .val (.int (4 : Int32)), .val (.int (3 : Int32)), .val (.int (3 : Int32)), .val (.int z3)] rfl (n := 20) rfl ?_
                  refine gIload X w d5_20 rfl (n := 22) rfl ?_
                  refine gAloadN X w d5_22 rfl rfl (n := 23) rfl ?_
                  refine gIloadN X w d5_23 rfl (n := 24) rfl ?_
                  refine gIconst X w d5_24 (z := (1 : Int32)) rfl (n := 25) rfl ?_
                  refine gIsub X w d5_25 (z := (2 : Int32)) (by decide) (n := 26) rfl ?_
                  refine gIaload X w V63 (by decide) rfl d5_26 (n := 27) rfl ?_
                  refine gIcmp_ge X w d5_27 (n := 64) (n' := 30) (by decide) rfl rfl ?_ ?_
                  · intro c27
                    refine gGoto X w d5_64 (by decide) (n := 3) rfl ?_
                    refine gIinc X w d5_3 rfl (z := (4 : Int32)) (by decide) #[.val (.ref a), .val (.int (0 : Int32)), .val (.int (4 : Int32)), .val (.int (3 : Int32)), .val (.int (4 : Int32)), .val (.int z3)] rfl (n := 6) rfl ?_
                    refine gIload X w d5_6 rfl (n := 8) rfl ?_
                    refine gIloadN X w d5_8 rfl (n := 9) rfl ?_
                    refine gIcmp_ge X w d5_9 (n := 67) (n' := 12) (by decide) rfl rfl ?_ ?_
                    · intro c9
                      exact gRetV X w rfl d5_67 (by decide) (by decide) (⟨rfl, Kc2, z1, z0, z2, z3, V63, by omega, by omega, by omega, fun y => by simp only [← Int32.toInt_inj] <;> omega⟩)
                    · intro c9
                      exact absurd c9 (by decide)
                  · intro c27
                    refine gIinc X w d5_30 rfl (z := (2 : Int32)) (by decide) #[.val (.ref a), .val (.int (0 : Int32)), .val (.int (4 : Int32)), .val (.int (2 : Int32)), .val (.int (3 : Int32)), .val (.int z3)] rfl (n := 33) rfl ?_
                    refine gIloadN X w d5_33 rfl (n := 34) rfl ?_
                    refine gIloadN X w d5_34 rfl (n := 35) rfl ?_
                    refine gIcmp_lt X w d5_35 (n := 57) (n' := 38) (by decide) rfl rfl ?_ ?_
                    · intro c35
                      exact absurd c35 (by decide)
                    · intro c35
                      refine gIload X w d5_38 rfl (n := 40) rfl ?_
                      refine gAloadN X w d5_40 rfl rfl (n := 41) rfl ?_
                      refine gIloadN X w d5_41 rfl (n := 42) rfl ?_
                      refine gIaload X w V63 (by decide) rfl d5_42 (n := 43) rfl ?_
                      refine gIcmp_ge X w d5_43 (n := 57) (n' := 46) (by decide) rfl rfl ?_ ?_
                      · intro c43
                        refine gAloadN X w d5_57 rfl rfl (n := 58) rfl ?_
                        refine gIloadN X w d5_58 rfl (n := 59) rfl ?_
                        refine gIconst X w d5_59 (z := (1 : Int32)) rfl (n := 60) rfl ?_
                        refine gIadd X w d5_60 (z := (3 : Int32)) (by decide) (n := 61) rfl ?_
                        refine gIload X w d5_61 rfl (n := 63) rfl ?_
                        refine gIastore X w (z := (.int z3)) V63 (by decide) (show (3 : Int) < ((4 : Nat) : Int) from by decide) na rfl (vs' := [(.int z1), (.int z0), (.int z2), (.int z3)]) rfl d5_63 (n := 64) rfl ?_
                        intro T hp63 X W63 V63
                        have Kc3 := Kc2.wr W63 (Or.inl (List.mem_singleton.mpr rfl))
                        refine gGoto X w d5_64 (by decide) (n := 3) rfl ?_
                        refine gIinc X w d5_3 rfl (z := (4 : Int32)) (by decide) #[.val (.ref a), .val (.int (0 : Int32)), .val (.int (4 : Int32)), .val (.int (2 : Int32)), .val (.int (4 : Int32)), .val (.int z3)] rfl (n := 6) rfl ?_
                        refine gIload X w d5_6 rfl (n := 8) rfl ?_
                        refine gIloadN X w d5_8 rfl (n := 9) rfl ?_
                        refine gIcmp_ge X w d5_9 (n := 67) (n' := 12) (by decide) rfl rfl ?_ ?_
                        · intro c9
                          exact gRetV X w rfl d5_67 (by decide) (by decide) (⟨rfl, Kc3, z1, z0, z2, z3, V63, by omega, by omega, by omega, fun y => by simp only [← Int32.toInt_inj] <;> omega⟩)
                        · intro c9
                          exact absurd c9 (by decide)
                      · intro c43
                        refine gAloadN X w d5_46 rfl rfl (n := 47) rfl ?_
                        refine gIloadN X w d5_47 rfl (n := 48) rfl ?_
                        refine gIconst X w d5_48 (z := (1 : Int32)) rfl (n := 49) rfl ?_
                        refine gIadd X w d5_49 (z := (3 : Int32)) (by decide) (n := 50) rfl ?_
                        refine gAloadN X w d5_50 rfl rfl (n := 51) rfl ?_
                        refine gIloadN X w d5_51 rfl (n := 52) rfl ?_
                        refine gIaload X w V63 (by decide) rfl d5_52 (n := 53) rfl ?_
                        refine gIastore X w (z := (.int z2)) V63 (by decide) (show (3 : Int) < ((4 : Nat) : Int) from by decide) na rfl (vs' := [(.int z1), (.int z0), (.int z2), (.int z2)]) rfl d5_53 (n := 54) rfl ?_
                        intro T hp53 X W53 V53
                        have Kc3 := Kc2.wr W53 (Or.inl (List.mem_singleton.mpr rfl))
                        refine gGoto X w d5_54 (by decide) (n := 30) rfl ?_
                        refine gIinc X w d5_30 rfl (z := (1 : Int32)) (by decide) #[.val (.ref a), .val (.int (0 : Int32)), .val (.int (4 : Int32)), .val (.int (1 : Int32)), .val (.int (3 : Int32)), .val (.int z3)] rfl (n := 33) rfl ?_
                        refine gIloadN X w d5_33 rfl (n := 34) rfl ?_
                        refine gIloadN X w d5_34 rfl (n := 35) rfl ?_
                        refine gIcmp_lt X w d5_35 (n := 57) (n' := 38) (by decide) rfl rfl ?_ ?_
                        · intro c35
                          exact absurd c35 (by decide)
                        · intro c35
                          refine gIload X w d5_38 rfl (n := 40) rfl ?_
                          refine gAloadN X w d5_40 rfl rfl (n := 41) rfl ?_
                          refine gIloadN X w d5_41 rfl (n := 42) rfl ?_
                          refine gIaload X w V53 (by decide) rfl d5_42 (n := 43) rfl ?_
                          refine gIcmp_ge X w d5_43 (n := 57) (n' := 46) (by decide) rfl rfl ?_ ?_
                          · intro c43
                            refine gAloadN X w d5_57 rfl rfl (n := 58) rfl ?_
                            refine gIloadN X w d5_58 rfl (n := 59) rfl ?_
                            refine gIconst X w d5_59 (z := (1 : Int32)) rfl (n := 60) rfl ?_
                            refine gIadd X w d5_60 (z := (2 : Int32)) (by decide) (n := 61) rfl ?_
                            refine gIload X w d5_61 rfl (n := 63) rfl ?_
                            refine gIastore X w (z := (.int z3)) V53 (by decide) (show (2 : Int) < ((4 : Nat) : Int) from by decide) na rfl (vs' := [(.int z1), (.int z0), (.int z3), (.int z2)]) rfl d5_63 (n := 64) rfl ?_
                            intro T hp63 X W63 V63
                            have Kc4 := Kc3.wr W63 (Or.inl (List.mem_singleton.mpr rfl))
                            refine gGoto X w d5_64 (by decide) (n := 3) rfl ?_
                            refine gIinc X w d5_3 rfl (z := (4 : Int32)) (by decide) #[.val (.ref a), .val (.int (0 : Int32)), .val (.int (4 : Int32)), .val (.int (1 : Int32)), .val (.int (4 : Int32)), .val (.int z3)] rfl (n := 6) rfl ?_
                            refine gIload X w d5_6 rfl (n := 8) rfl ?_
                            refine gIloadN X w d5_8 rfl (n := 9) rfl ?_
                            refine gIcmp_ge X w d5_9 (n := 67) (n' := 12) (by decide) rfl rfl ?_ ?_
                            · intro c9
                              exact gRetV X w rfl d5_67 (by decide) (by decide) (⟨rfl, Kc4, z1, z0, z3, z2, V63, by omega, by omega, by omega, fun y => by simp only [← Int32.toInt_inj] <;> omega⟩)
                            · intro c9
                              exact absurd c9 (by decide)
                          · intro c43
                            refine gAloadN X w d5_46 rfl rfl (n := 47) rfl ?_
                            refine gIloadN X w d5_47 rfl (n := 48) rfl ?_
                            refine gIconst X w d5_48 (z := (1 : Int32)) rfl (n := 49) rfl ?_
                            refine gIadd X w d5_49 (z := (2 : Int32)) (by decide) (n := 50) rfl ?_
                            refine gAloadN X w d5_50 rfl rfl (n := 51) rfl ?_
                            refine gIloadN X w d5_51 rfl (n := 52) rfl ?_
                            refine gIaload X w V53 (by decide) rfl d5_52 (n := 53) rfl ?_
                            refine gIastore X w (z := (.int z0)) V53 (by decide) (show (2 : Int) < ((4 : Nat) : Int) from by decide) na rfl (vs' := [(.int z1), (.int z0), (.int z0), (.int z2)]) rfl d5_53 (n := 54) rfl ?_
                            intro T hp53 X W53 V53
                            have Kc4 := Kc3.wr W53 (Or.inl (List.mem_singleton.mpr rfl))
                            refine gGoto X w d5_54 (by decide) (n := 30) rfl ?_
                            refine gIinc X w d5_30 rfl (z := (0 : Int32)) (by decide) #[.val (.ref a), .val (.int (0 : Int32)), .val (.int (4 : Int32)), .val (.int (0 : Int32)), .val (.int (3 : Int32)), .val (.int z3)] rfl (n := 33) rfl ?_
                            refine gIloadN X w d5_33 rfl (n := 34) rfl ?_
                            refine gIloadN X w d5_34 rfl (n := 35) rfl ?_
                            refine gIcmp_lt X w d5_35 (n := 57) (n' := 38) (by decide) rfl rfl ?_ ?_
                            · intro c35
                              exact absurd c35 (by decide)
                            · intro c35
                              refine gIload X w d5_38 rfl (n := 40) rfl ?_
                              refine gAloadN X w d5_40 rfl rfl (n := 41) rfl ?_
                              refine gIloadN X w d5_41 rfl (n := 42) rfl ?_
                              refine gIaload X w V53 (by decide) rfl d5_42 (n := 43) rfl ?_
                              refine gIcmp_ge X w d5_43 (n := 57) (n' := 46) (by decide) rfl rfl ?_ ?_
                              · intro c43
                                refine gAloadN X w d5_57 rfl rfl (n := 58) rfl ?_
                                refine gIloadN X w d5_58 rfl (n := 59) rfl ?_
                                refine gIconst X w d5_59 (z := (1 : Int32)) rfl (n := 60) rfl ?_
                                refine gIadd X w d5_60 (z := (1 : Int32)) (by decide) (n := 61) rfl ?_
                                refine gIload X w d5_61 rfl (n := 63) rfl ?_
                                refine gIastore X w (z := (.int z3)) V53 (by decide) (show (1 : Int) < ((4 : Nat) : Int) from by decide) na rfl (vs' := [(.int z1), (.int z3), (.int z0), (.int z2)]) rfl d5_63 (n := 64) rfl ?_
                                intro T hp63 X W63 V63
                                have Kc5 := Kc4.wr W63 (Or.inl (List.mem_singleton.mpr rfl))
                                refine gGoto X w d5_64 (by decide) (n := 3) rfl ?_
                                refine gIinc X w d5_3 rfl (z := (4 : Int32)) (by decide) #[.val (.ref a), .val (.int (0 : Int32)), .val (.int (4 : Int32)), .val (.int (0 : Int32)), .val (.int (4 : Int32)), .val (.int z3)] rfl (n := 6) rfl ?_
                                refine gIload X w d5_6 rfl (n := 8) rfl ?_
                                refine gIloadN X w d5_8 rfl (n := 9) rfl ?_
                                refine gIcmp_ge X w d5_9 (n := 67) (n' := 12) (by decide) rfl rfl ?_ ?_
                                · intro c9
                                  exact gRetV X w rfl d5_67 (by decide) (by decide) (⟨rfl, Kc5, z1, z3, z0, z2, V63, by omega, by omega, by omega, fun y => by simp only [← Int32.toInt_inj] <;> omega⟩)
                                · intro c9
                                  exact absurd c9 (by decide)
                              · intro c43
                                refine gAloadN X w d5_46 rfl rfl (n := 47) rfl ?_
                                refine gIloadN X w d5_47 rfl (n := 48) rfl ?_
                                refine gIconst X w d5_48 (z := (1 : Int32)) rfl (n := 49) rfl ?_
                                refine gIadd X w d5_49 (z := (1 : Int32)) (by decide) (n := 50) rfl ?_
                                refine gAloadN X w d5_50 rfl rfl (n := 51) rfl ?_
                                refine gIloadN X w d5_51 rfl (n := 52) rfl ?_
                                refine gIaload X w V53 (by decide) rfl d5_52 (n := 53) rfl ?_
                                refine gIastore X w (z := (.int z1)) V53 (by decide) (show (1 : Int) < ((4 : Nat) : Int) from by decide) na rfl (vs' := [(.int z1), (.int z1), (.int z0), (.int z2)]) rfl d5_53 (n := 54) rfl ?_
                                intro T hp53 X W53 V53
                                have Kc5 := Kc4.wr W53 (Or.inl (List.mem_singleton.mpr rfl))
                                refine gGoto X w d5_54 (by decide) (n := 30) rfl ?_
                                refine gIinc X w d5_30 rfl (z := (-1 : Int32)) (by decide) #[.val (.ref a), .val (.int (0 : Int32)), .val (.int (4 : Int32)), .val (.int (-1 : Int32)), .val (.int (3 : Int32)), .val (.int z3)] rfl (n := 33) rfl ?_
                                refine gIloadN X w d5_33 rfl (n := 34) rfl ?_
                                refine gIloadN X w d5_34 rfl (n := 35) rfl ?_
                                refine gIcmp_lt X w d5_35 (n := 57) (n' := 38) (by decide) rfl rfl ?_ ?_
                                · intro c35
                                  refine gAloadN X w d5_57 rfl rfl (n := 58) rfl ?_
                                  refine gIloadN X w d5_58 rfl (n := 59) rfl ?_
                                  refine gIconst X w d5_59 (z := (1 : Int32)) rfl (n := 60) rfl ?_
                                  refine gIadd X w d5_60 (z := (0 : Int32)) (by decide) (n := 61) rfl ?_
                                  refine gIload X w d5_61 rfl (n := 63) rfl ?_
                                  refine gIastore X w (z := (.int z3)) V53 (by decide) (show (0 : Int) < ((4 : Nat) : Int) from by decide) na rfl (vs' := [(.int z3), (.int z1), (.int z0), (.int z2)]) rfl d5_63 (n := 64) rfl ?_
                                  intro T hp63 X W63 V63
                                  have Kc6 := Kc5.wr W63 (Or.inl (List.mem_singleton.mpr rfl))
                                  refine gGoto X w d5_64 (by decide) (n := 3) rfl ?_
                                  refine gIinc X w d5_3 rfl (z := (4 : Int32)) (by decide) #[.val (.ref a), .val (.int (0 : Int32)), .val (.int (4 : Int32)), .val (.int (-1 : Int32)), .val (.int (4 : Int32)), .val (.int z3)] rfl (n := 6) rfl ?_
                                  refine gIload X w d5_6 rfl (n := 8) rfl ?_
                                  refine gIloadN X w d5_8 rfl (n := 9) rfl ?_
                                  refine gIcmp_ge X w d5_9 (n := 67) (n' := 12) (by decide) rfl rfl ?_ ?_
                                  · intro c9
                                    exact gRetV X w rfl d5_67 (by decide) (by decide) (⟨rfl, Kc6, z3, z1, z0, z2, V63, by omega, by omega, by omega, fun y => by simp only [← Int32.toInt_inj] <;> omega⟩)
                                  · intro c9
                                    exact absurd c9 (by decide)
                                · intro c35
                                  exact absurd c35 (by decide)
              · intro c27
                refine gIinc X w d5_30 rfl (z := (1 : Int32)) (by decide) #[.val (.ref a), .val (.int (0 : Int32)), .val (.int (4 : Int32)), .val (.int (1 : Int32)), .val (.int (2 : Int32)), .val (.int z2)] rfl (n := 33) rfl ?_
                refine gIloadN X w d5_33 rfl (n := 34) rfl ?_
                refine gIloadN X w d5_34 rfl (n := 35) rfl ?_
                refine gIcmp_lt X w d5_35 (n := 57) (n' := 38) (by decide) rfl rfl ?_ ?_
                · intro c35
                  exact absurd c35 (by decide)
                · intro c35
                  refine gIload X w d5_38 rfl (n := 40) rfl ?_
                  refine gAloadN X w d5_40 rfl rfl (n := 41) rfl ?_
                  refine gIloadN X w d5_41 rfl (n := 42) rfl ?_
                  refine gIaload X w V63 (by decide) rfl d5_42 (n := 43) rfl ?_
                  refine gIcmp_ge X w d5_43 (n := 57) (n' := 46) (by decide) rfl rfl ?_ ?_
                  · intro c43
                    refine gAloadN X w d5_57 rfl rfl (n := 58) rfl ?_
                    refine gIloadN X w d5_58 rfl (n := 59) rfl ?_
                    refine gIconst X w d5_59 (z := (1 : Int32)) rfl (n := 60) rfl ?_
                    refine gIadd X w d5_60 (z := (2 : Int32)) (by decide) (n := 61) rfl ?_
                    refine gIload X w d5_61 rfl (n := 63) rfl ?_
                    refine gIastore X w (z := (.int z2)) V63 (by decide) (show (2 : Int) < ((4 : Nat) : Int) from by decide) na rfl (vs' := [(.int z1), (.int z0), (.int z2), (.int z3)]) rfl d5_63 (n := 64) rfl ?_
                    intro T hp63 X W63 V63
                    have Kc3 := Kc2.wr W63 (Or.inl (List.mem_singleton.mpr rfl))
                    refine gGoto X w d5_64 (by decide) (n := 3) rfl ?_
                    refine gIinc X w d5_3 rfl (z := (3 : Int32)) (by decide) #[.val (.ref a), .val (.int (0 : Int32)), .val (.int (4 : Int32)), .val (.int (1 : Int32)), .val (.int (3 : Int32)), .val (.int z2)] rfl (n := 6) rfl ?_
                    refine gIload X w d5_6 rfl (n := 8) rfl ?_
                    refine gIloadN X w d5_8 rfl (n := 9) rfl ?_
                    refine gIcmp_ge X w d5_9 (n := 67) (n' := 12) (by decide) rfl rfl ?_ ?_
                    · intro c9
                      exact absurd c9 (by decide)
                    · intro c9
                      refine gAloadN X w d5_12 rfl rfl (n := 13) rfl ?_
                      refine gIload X w d5_13 rfl (n := 15) rfl ?_
                      refine gDup X w d5_15 rfl (n := 16) rfl ?_
                      refine gIstoreN X w d5_16 #[.val (.ref a), .val (.int (0 : Int32)), .val (.int (4 : Int32)), .val (.int (3 : Int32)), .val (.int (3 : Int32)), .val (.int z2)] rfl (n := 17) rfl ?_
                      refine gIaload X w V63 (by decide) rfl d5_17 (n := 18) rfl ?_
                      refine gIstore X w d5_18 #[.val (.ref a), .val (.int (0 : Int32)), .val (.int (4 : Int32)), .val (.int (3 : Int32)), .val (.int (3 : Int32)), .val (.int z3)] rfl (n := 20) rfl ?_
                      refine gIload X w d5_20 rfl (n := 22) rfl ?_
                      refine gAloadN X w d5_22 rfl rfl (n := 23) rfl ?_
                      refine gIloadN X w d5_23 rfl (n := 24) rfl ?_
                      refine gIconst X w d5_24 (z := (1 : Int32)) rfl (n := 25) rfl ?_
                      refine gIsub X w d5_25 (z := (2 : Int32)) (by decide) (n := 26) rfl ?_
                      refine gIaload X w V63 (by decide) rfl d5_26 (n := 27) rfl ?_
                      refine gIcmp_ge X w d5_27 (n := 64) (n' := 30) (by decide) rfl rfl ?_ ?_
                      · intro c27
                        refine gGoto X w d5_64 (by decide) (n := 3) rfl ?_
                        refine gIinc X w d5_3 rfl (z := (4 : Int32)) (by decide) #[.val (.ref a), .val (.int (0 : Int32)), .val (.int (4 : Int32)), .val (.int (3 : Int32)), .val (.int (4 : Int32)), .val (.int z3)] rfl (n := 6) rfl ?_
                        refine gIload X w d5_6 rfl (n := 8) rfl ?_
                        refine gIloadN X w d5_8 rfl (n := 9) rfl ?_
                        refine gIcmp_ge X w d5_9 (n := 67) (n' := 12) (by decide) rfl rfl ?_ ?_
                        · intro c9
                          exact gRetV X w rfl d5_67 (by decide) (by decide) (⟨rfl, Kc3, z1, z0, z2, z3, V63, by omega, by omega, by omega, fun y => by simp only [← Int32.toInt_inj] <;> omega⟩)
                        · intro c9
                          exact absurd c9 (by decide)
                      · intro c27
                        refine gIinc X w d5_30 rfl (z := (2 : Int32)) (by decide) #[.val (.ref a), .val (.int (0 : Int32)), .val (.int (4 : Int32)), .val (.int (2 : Int32)), .val (.int (3 : Int32)), .val (.int z3)] rfl (n := 33) rfl ?_
                        refine gIloadN X w d5_33 rfl (n := 34) rfl ?_
                        refine gIloadN X w d5_34 rfl (n := 35) rfl ?_
                        refine gIcmp_lt X w d5_35 (n := 57) (n' := 38) (by decide) rfl rfl ?_ ?_
                        · intro c35
                          exact absurd c35 (by decide)
                        · intro c35
                          refine gIload X w d5_38 rfl (n := 40) rfl ?_
                          refine gAloadN X w d5_40 rfl rfl (n := 41) rfl ?_
                          refine gIloadN X w d5_41 rfl (n := 42) rfl ?_
                          refine gIaload X w V63 (by decide) rfl d5_42 (n := 43) rfl ?_
                          refine gIcmp_ge X w d5_43 (n := 57) (n' := 46) (by decide) rfl rfl ?_ ?_
                          · intro c43
                            refine gAloadN X w d5_57 rfl rfl (n := 58) rfl ?_
                            refine gIloadN X w d5_58 rfl (n := 59) rfl ?_
                            refine gIconst X w d5_59 (z := (1 : Int32)) rfl (n := 60) rfl ?_
                            refine gIadd X w d5_60 (z := (3 : Int32)) (by decide) (n := 61) rfl ?_
                            refine gIload X w d5_61 rfl (n := 63) rfl ?_
                            refine gIastore X w (z := (.int z3)) V63 (by decide) (show (3 : Int) < ((4 : Nat) : Int) from by decide) na rfl (vs' := [(.int z1), (.int z0), (.int z2), (.int z3)]) rfl d5_63 (n := 64) rfl ?_
                            intro T hp63 X W63 V63
                            have Kc4 := Kc3.wr W63 (Or.inl (List.mem_singleton.mpr rfl))
                            refine gGoto X w d5_64 (by decide) (n := 3) rfl ?_
                            refine gIinc X w d5_3 rfl (z := (4 : Int32)) (by decide) #[.val (.ref a), .val (.int (0 : Int32)), .val (.int (4 : Int32)), .val (.int (2 : Int32)), .val (.int (4 : Int32)), .val (.int z3)] rfl (n := 6) rfl ?_
                            refine gIload X w d5_6 rfl (n := 8) rfl ?_
                            refine gIloadN X w d5_8 rfl (n := 9) rfl ?_
                            refine gIcmp_ge X w d5_9 (n := 67) (n' := 12) (by decide) rfl rfl ?_ ?_
                            · intro c9
                              exact gRetV X w rfl d5_67 (by decide) (by decide) (⟨rfl, Kc4, z1, z0, z2, z3, V63, by omega, by omega, by omega, fun y => by simp only [← Int32.toInt_inj] <;> omega⟩)
                            · intro c9
                              exact absurd c9 (by decide)
                          · intro c43
                            refine gAloadN X w d5_46 rfl rfl (n := 47) rfl ?_
                            refine gIloadN X w d5_47 rfl (n := 48) rfl ?_
                            refine gIconst X w d5_48 (z := (1 : Int32)) rfl (n := 49) rfl ?_
                            refine gIadd X w d5_49 (z := (3 : Int32)) (by decide) (n := 50) rfl ?_
                            refine gAloadN X w d5_50 rfl rfl (n := 51) rfl ?_
                            refine gIloadN X w d5_51 rfl (n := 52) rfl ?_
                            refine gIaload X w V63 (by decide) rfl d5_52 (n := 53) rfl ?_
                            refine gIastore X w (z := (.int z2)) V63 (by decide) (show (3 : Int) < ((4 : Nat) : Int) from by decide) na rfl (vs' := [(.int z1), (.int z0), (.int z2), (.int z2)]) rfl d5_53 (n := 54) rfl ?_
                            intro T hp53 X W53 V53
                            have Kc4 := Kc3.wr W53 (Or.inl (List.mem_singleton.mpr rfl))
                            refine gGoto X w d5_54 (by decide) (n := 30) rfl ?_
                            refine gIinc X w d5_30 rfl (z := (1 : Int32)) (by decide) #[.val (.ref a), .val (.int (0 : Int32)), .val (.int (4 : Int32)), .val (.int (1 : Int32)), .val (.int (3 : Int32)), .val (.int z3)] rfl (n := 33) rfl ?_
                            refine gIloadN X w d5_33 rfl (n := 34) rfl ?_
                            refine gIloadN X w d5_34 rfl (n := 35) rfl ?_
                            refine gIcmp_lt X w d5_35 (n := 57) (n' := 38) (by decide) rfl rfl ?_ ?_
                            · intro c35
                              exact absurd c35 (by decide)
                            · intro c35
                              refine gIload X w d5_38 rfl (n := 40) rfl ?_
                              refine gAloadN X w d5_40 rfl rfl (n := 41) rfl ?_
                              refine gIloadN X w d5_41 rfl (n := 42) rfl ?_
                              refine gIaload X w V53 (by decide) rfl d5_42 (n := 43) rfl ?_
                              refine gIcmp_ge X w d5_43 (n := 57) (n' := 46) (by decide) rfl rfl ?_ ?_
                              · intro c43
                                refine gAloadN X w d5_57 rfl rfl (n := 58) rfl ?_
                                refine gIloadN X w d5_58 rfl (n := 59) rfl ?_
                                refine gIconst X w d5_59 (z := (1 : Int32)) rfl (n := 60) rfl ?_
                                refine gIadd X w d5_60 (z := (2 : Int32)) (by decide) (n := 61) rfl ?_
                                refine gIload X w d5_61 rfl (n := 63) rfl ?_
                                refine gIastore X w (z := (.int z3)) V53 (by decide) (show (2 : Int) < ((4 : Nat) : Int) from by decide) na rfl (vs' := [(.int z1), (.int z0), (.int z3), (.int z2)]) rfl d5_63 (n := 64) rfl ?_
                                intro T hp63 X W63 V63
                                have Kc5 := Kc4.wr W63 (Or.inl (List.mem_singleton.mpr rfl))
                                refine gGoto X w d5_64 (by decide) (n := 3) rfl ?_
                                refine gIinc X w d5_3 rfl (z := (4 : Int32)) (by decide) #[.val (.ref a), .val (.int (0 : Int32)), .val (.int (4 : Int32)), .val (.int (1 : Int32)), .val (.int (4 : Int32)), .val (.int z3)] rfl (n := 6) rfl ?_
                                refine gIload X w d5_6 rfl (n := 8) rfl ?_
                                refine gIloadN X w d5_8 rfl (n := 9) rfl ?_
                                refine gIcmp_ge X w d5_9 (n := 67) (n' := 12) (by decide) rfl rfl ?_ ?_
                                · intro c9
                                  exact gRetV X w rfl d5_67 (by decide) (by decide) (⟨rfl, Kc5, z1, z0, z3, z2, V63, by omega, by omega, by omega, fun y => by simp only [← Int32.toInt_inj] <;> omega⟩)
                                · intro c9
                                  exact absurd c9 (by decide)
                              · intro c43
                                refine gAloadN X w d5_46 rfl rfl (n := 47) rfl ?_
                                refine gIloadN X w d5_47 rfl (n := 48) rfl ?_
                                refine gIconst X w d5_48 (z := (1 : Int32)) rfl (n := 49) rfl ?_
                                refine gIadd X w d5_49 (z := (2 : Int32)) (by decide) (n := 50) rfl ?_
                                refine gAloadN X w d5_50 rfl rfl (n := 51) rfl ?_
                                refine gIloadN X w d5_51 rfl (n := 52) rfl ?_
                                refine gIaload X w V53 (by decide) rfl d5_52 (n := 53) rfl ?_
                                refine gIastore X w (z := (.int z0)) V53 (by decide) (show (2 : Int) < ((4 : Nat) : Int) from by decide) na rfl (vs' := [(.int z1), (.int z0), (.int z0), (.int z2)]) rfl d5_53 (n := 54) rfl ?_
                                intro T hp53 X W53 V53
                                have Kc5 := Kc4.wr W53 (Or.inl (List.mem_singleton.mpr rfl))
                                refine gGoto X w d5_54 (by decide) (n := 30) rfl ?_
                                refine gIinc X w d5_30 rfl (z := (0 : Int32)) (by decide) #[.val (.ref a), .val (.int (0 : Int32)), .val (.int (4 : Int32)), .val (.int (0 : Int32)), .val (.int (3 : Int32)), .val (.int z3)] rfl (n := 33) rfl ?_
                                refine gIloadN X w d5_33 rfl (n := 34) rfl ?_
                                refine gIloadN X w d5_34 rfl (n := 35) rfl ?_
                                refine gIcmp_lt X w d5_35 (n := 57) (n' := 38) (by decide) rfl rfl ?_ ?_
                                · intro c35
                                  exact absurd c35 (by decide)
                                · intro c35
                                  refine gIload X w d5_38 rfl (n := 40) rfl ?_
                                  refine gAloadN X w d5_40 rfl rfl (n := 41) rfl ?_
                                  refine gIloadN X w d5_41 rfl (n := 42) rfl ?_
                                  refine gIaload X w V53 (by decide) rfl d5_42 (n := 43) rfl ?_
                                  refine gIcmp_ge X w d5_43 (n := 57) (n' := 46) (by decide) rfl rfl ?_ ?_
                                  · intro c43
                                    refine gAloadN X w d5_57 rfl rfl (n := 58) rfl ?_
                                    refine gIloadN X w d5_58 rfl (n := 59) rfl ?_
                                    refine gIconst X w d5_59 (z := (1 : Int32)) rfl (n := 60) rfl ?_
                                    refine gIadd X w d5_60 (z := (1 : Int32)) (by decide) (n := 61) rfl ?_
                                    refine gIload X w d5_61 rfl (n := 63) rfl ?_
                                    refine gIastore X w (z := (.int z3)) V53 (by decide) (show (1 : Int) < ((4 : Nat) : Int) from by decide) na rfl (vs' := [(.int z1), (.int z3), (.int z0), (.int z2)]) rfl d5_63 (n := 64) rfl ?_
                                    intro T hp63 X W63 V63
                                    have Kc6 := Kc5.wr W63 (Or.inl (List.mem_singleton.mpr rfl))
                                    refine gGoto X w d5_64 (by decide) (n := 3) rfl ?_
                                    refine gIinc X w d5_3 rfl (z := (4 : Int32)) (by decide) #[.val (.ref a), .val (.int (0 : Int32)), .val (.int (4 : Int32)), .val (.int (0 : Int32)), .val (.int (4 : Int32)), .val (.int z3)] rfl (n := 6) rfl ?_
                                    refine gIload X w d5_6 rfl (n := 8) rfl ?_
                                    refine gIloadN X w d5_8 rfl (n := 9) rfl ?_
                                    refine gIcmp_ge X w d5_9 (n := 67) (n' := 12) (by decide) rfl rfl ?_ ?_
                                    · intro c9
                                      exact gRetV X w rfl d5_67 (by decide) (by decide) (⟨rfl, Kc6, z1, z3, z0, z2, V63, by omega, by omega, by omega, fun y => by simp only [← Int32.toInt_inj] <;> omega⟩)
                                    · intro c9
                                      exact absurd c9 (by decide)
                                  · intro c43
                                    refine gAloadN X w d5_46 rfl rfl (n := 47) rfl ?_
                                    refine gIloadN X w d5_47 rfl (n := 48) rfl ?_
                                    refine gIconst X w d5_48 (z := (1 : Int32)) rfl (n := 49) rfl ?_
                                    refine gIadd X w d5_49 (z := (1 : Int32)) (by decide) (n := 50) rfl ?_
                                    refine gAloadN X w d5_50 rfl rfl (n := 51) rfl ?_
                                    refine gIloadN X w d5_51 rfl (n := 52) rfl ?_
                                    refine gIaload X w V53 (by decide) rfl d5_52 (n := 53) rfl ?_
                                    refine gIastore X w (z := (.int z1)) V53 (by decide) (show (1 : Int) < ((4 : Nat) : Int) from by decide) na rfl (vs' := [(.int z1), (.int z1), (.int z0), (.int z2)]) rfl d5_53 (n := 54) rfl ?_
                                    intro T hp53 X W53 V53
                                    have Kc6 := Kc5.wr W53 (Or.inl (List.mem_singleton.mpr rfl))
                                    refine gGoto X w d5_54 (by decide) (n := 30) rfl ?_
                                    refine gIinc X w d5_30 rfl (z := (-1 : Int32)) (by decide) #[.val (.ref a), .val (.int (0 : Int32)), .val (.int (4 : Int32)), .val (.int (-1 : Int32)), .val (.int (3 : Int32)), .val (.int z3)] rfl (n := 33) rfl ?_
                                    refine gIloadN X w d5_33 rfl (n := 34) rfl ?_
                                    refine gIloadN X w d5_34 rfl (n := 35) rfl ?_
                                    refine gIcmp_lt X w d5_35 (n := 57) (n' := 38) (by decide) rfl rfl ?_ ?_
                                    · intro c35
                                      refine gAloadN X w d5_57 rfl rfl (n := 58) rfl ?_
                                      refine gIloadN X w d5_58 rfl (n := 59) rfl ?_
                                      refine gIconst X w d5_59 (z := (1 : Int32)) rfl (n := 60) rfl ?_
                                      refine gIadd X w d5_60 (z := (0 : Int32)) (by decide) (n := 61) rfl ?_
                                      refine gIload X w d5_61 rfl (n := 63) rfl ?_
                                      refine gIastore X w (z := (.int z3)) V53 (by decide) (show (0 : Int) < ((4 : Nat) : Int) from by decide) na rfl (vs' := [(.int z3), (.int z1), (.int z0), (.int z2)]) rfl d5_63 (n := 64) rfl ?_
                                      intro T hp63 X W63 V63
                                      have Kc7 := Kc6.wr W63 (Or.inl (List.mem_singleton.mpr rfl))
                                      refine gGoto X w d5_64 (by decide) (n := 3) rfl ?_
                                      refine gIinc X w d5_3 rfl (z := (4 : Int32)) (by decide) #[.val (.ref a), .val (.int (0 : Int32)), .val (.int (4 : Int32)), .val (.int (-1 : Int32)), .val (.int (4 : Int32)), .val (.int z3)] rfl (n := 6) rfl ?_
                                      refine gIload X w d5_6 rfl (n := 8) rfl ?_
                                      refine gIloadN X w d5_8 rfl (n := 9) rfl ?_
                                      refine gIcmp_ge X w d5_9 (n := 67) (n' := 12) (by decide) rfl rfl ?_ ?_
                                      · intro c9
                                        exact gRetV X w rfl d5_67 (by decide) (by decide) (⟨rfl, Kc7, z3, z1, z0, z2, V63, by omega, by omega, by omega, fun y => by simp only [← Int32.toInt_inj] <;> omega⟩)
                                      · intro c9
                                        exact absurd c9 (by decide)
                                    · intro c35
                                      exact absurd c35 (by decide)
                  · intro c43
                    refine gAloadN X w d5_46 rfl rfl (n := 47) rfl ?_
                    refine gIloadN X w d5_47 rfl (n := 48) rfl ?_
                    refine gIconst X w d5_48 (z := (1 : Int32)) rfl (n := 49) rfl ?_
                    refine gIadd X w d5_49 (z := (2 : Int32)) (by decide) (n := 50) rfl ?_
                    refine gAloadN X w d5_50 rfl rfl (n := 51) rfl ?_
                    refine gIloadN X w d5_51 rfl (n := 52) rfl ?_
                    refine gIaload X w V63 (by decide) rfl d5_52 (n := 53) rfl ?_
                    refine gIastore X w (z := (.int z0)) V63 (by decide) (show (2 : Int) < ((4 : Nat) : Int) from by decide) na rfl (vs' := [(.int z1), (.int z0), (.int z0), (.int z3)]) rfl d5_53 (n := 54) rfl ?_
                    intro T hp53 X W53 V53
                    have Kc3 := Kc2.wr W53 (Or.inl (List.mem_singleton.mpr rfl))
                    refine gGoto X w d5_54 (by decide) (n := 30) rfl ?_
                    refine gIinc X w d5_30 rfl (z := (0 : Int32)) (by decide) #[.val (.ref a), .val (.int (0 : Int32)), .val (.int (4 : Int32)), .val (.int (0 : Int32)), .val (.int (2 : Int32)), .val (.int z2)] rfl (n := 33) rfl ?_
                    refine gIloadN X w d5_33 rfl (n := 34) rfl ?_
                    refine gIloadN X w d5_34 rfl (n := 35) rfl ?_
                    refine gIcmp_lt X w d5_35 (n := 57) (n' := 38) (by decide) rfl rfl ?_ ?_
                    · intro c35
                      exact absurd c35 (by decide)
                    · intro c35
                      refine gIload X w d5_38 rfl (n := 40) rfl ?_
                      refine gAloadN X w d5_40 rfl rfl (n := 41) rfl ?_
                      refine gIloadN X w d5_41 rfl (n := 42) rfl ?_
                      refine gIaload X w V53 (by decide) rfl d5_42 (n := 43) rfl ?_
                      refine gIcmp_ge X w d5_43 (n := 57) (n' := 46) (by decide) rfl rfl ?_ ?_
                      · intro c43
                        refine gAloadN X w d5_57 rfl rfl (n := 58) rfl ?_
                        refine gIloadN X w d5_58 rfl (n := 59) rfl ?_
                        refine gIconst X w d5_59 (z := (1 : Int32)) rfl (n := 60) rfl ?_
                        refine gIadd X w d5_60 (z := (1 : Int32)) (by decide) (n := 61) rfl ?_
                        refine gIload X w d5_61 rfl (n := 63) rfl ?_
                        refine gIastore X w (z := (.int z2)) V53 (by decide) (show (1 : Int) < ((4 : Nat) : Int) from by decide) na rfl (vs' := [(.int z1), (.int z2), (.int z0), (.int z3)]) rfl d5_63 (n := 64) rfl ?_
                        intro T hp63 X W63 V63
                        have Kc4 := Kc3.wr W63 (Or.inl (List.mem_singleton.mpr rfl))
                        refine gGoto X w d5_64 (by decide) (n := 3) rfl ?_
                        refine gIinc X w d5_3 rfl (z := (3 : Int32)) (by decide) #[.val (.ref a), .val (.int (0 : Int32)), .val (.int (4 : Int32)), .val (.int (0 : Int32)), .val (.int (3 : Int32)), .val (.int z2)] rfl (n := 6) rfl ?_
                        refine gIload X w d5_6 rfl (n := 8) rfl ?_
                        refine gIloadN X w d5_8 rfl (n := 9) rfl ?_
                        refine gIcmp_ge X w d5_9 (n := 67) (n' := 12) (by decide) rfl rfl ?_ ?_
                        · intro c9
                          exact absurd c9 (by decide)
                        · intro c9
                          refine gAloadN X w d5_12 rfl rfl (n := 13) rfl ?_
                          refine gIload X w d5_13 rfl (n := 15) rfl ?_
                          refine gDup X w d5_15 rfl (n := 16) rfl ?_
                          refine gIstoreN X w d5_16 #[.val (.ref a), .val (.int (0 : Int32)), .val (.int (4 : Int32)), .val (.int (3 : Int32)), .val (.int (3 : Int32)), .val (.int z2)] rfl (n := 17) rfl ?_
                          refine gIaload X w V63 (by decide) rfl d5_17 (n := 18) rfl ?_
                          refine gIstore X w d5_18 #[.val (.ref a), .val (.int (0 : Int32)), .val (.int (4 : Int32)), .val (.int (3 : Int32)), .val (.int (3 : Int32)), .val (.int z3)] rfl (n := 20) rfl ?_
                          refine gIload X w d5_20 rfl (n := 22) rfl ?_
                          refine gAloadN X w d5_22 rfl rfl (n := 23) rfl ?_
                          refine gIloadN X w d5_23 rfl (n := 24) rfl ?_
                          refine gIconst X w d5_24 (z := (1 : Int32)) rfl (n := 25) rfl ?_
                          refine gIsub X w d5_25 (z := (2 : Int32)) (by decide) (n := 26) rfl ?_
                          refine gIaload X w V63 (by decide) rfl d5_26 (n := 27) rfl ?_
                          refine gIcmp_ge X w d5_27 (n := 64) (n' := 30) (by decide) rfl rfl ?_ ?_
                          · intro c27
                            refine gGoto X w d5_64 (by decide) (n := 3) rfl ?_
                            refine gIinc X w d5_3 rfl (z := (4 : Int32)) (by decide) #[.val (.ref a), .val (.int (0 : Int32)), .val (.int (4 : Int32)), .val (.int (3 : Int32)), .val (.int (4 : Int32)), .val (.int z3)] rfl (n := 6) rfl ?_
                            refine gIload X w d5_6 rfl (n := 8) rfl ?_
                            refine gIloadN X w d5_8 rfl (n := 9) rfl ?_
                            refine gIcmp_ge X w d5_9 (n := 67) (n' := 12) (by decide) rfl rfl ?_ ?_
                            · intro c9
                              exact gRetV X w rfl d5_67 (by decide) (by decide) (⟨rfl, Kc4, z1, z2, z0, z3, V63, by omega, by omega, by omega, fun y => by simp only [← Int32.toInt_inj] <;> omega⟩)
                            · intro c9
                              exact absurd c9 (by decide)
                          · intro c27
                            refine gIinc X w d5_30 rfl (z := (2 : Int32)) (by decide) #[.val (.ref a), .val (.int (0 : Int32)), .val (.int (4 : Int32)), .val (.int (2 : Int32)), .val (.int (3 : Int32)), .val (.int z3)] rfl (n := 33) rfl ?_
                            refine gIloadN X w d5_33 rfl (n := 34) rfl ?_
                            refine gIloadN X w d5_34 rfl (n := 35) rfl ?_
                            refine gIcmp_lt X w d5_35 (n := 57) (n' := 38) (by decide) rfl rfl ?_ ?_
                            · intro c35
                              exact absurd c35 (by decide)
                            · intro c35
                              refine gIload X w d5_38 rfl (n := 40) rfl ?_
                              refine gAloadN X w d5_40 rfl rfl (n := 41) rfl ?_
                              refine gIloadN X w d5_41 rfl (n := 42) rfl ?_
                              refine gIaload X w V63 (by decide) rfl d5_42 (n := 43) rfl ?_
                              refine gIcmp_ge X w d5_43 (n := 57) (n' := 46) (by decide) rfl rfl ?_ ?_
                              · intro c43
                                refine gAloadN X w d5_57 rfl rfl (n := 58) rfl ?_
                                refine gIloadN X w d5_58 rfl (n := 59) rfl ?_
                                refine gIconst X w d5_59 (z := (1 : Int32)) rfl (n := 60) rfl ?_
                                refine gIadd X w d5_60 (z := (3 : Int32)) (by decide) (n := 61) rfl ?_
                                refine gIload X w d5_61 rfl (n := 63) rfl ?_
                                refine gIastore X w (z := (.int z3)) V63 (by decide) (show (3 : Int) < ((4 : Nat) : Int) from by decide) na rfl (vs' := [(.int z1), (.int z2), (.int z0), (.int z3)]) rfl d5_63 (n := 64) rfl ?_
                                intro T hp63 X W63 V63
                                have Kc5 := Kc4.wr W63 (Or.inl (List.mem_singleton.mpr rfl))
                                refine gGoto X w d5_64 (by decide) (n := 3) rfl ?_
                                refine gIinc X w d5_3 rfl (z := (4 : Int32)) (by decide) #[.val (.ref a), .val (.int (0 : Int32)), .val (.int (4 : Int32)), .val (.int (2 : Int32)), .val (.int (4 : Int32)), .val (.int z3)] rfl (n := 6) rfl ?_
                                refine gIload X w d5_6 rfl (n := 8) rfl ?_
                                refine gIloadN X w d5_8 rfl (n := 9) rfl ?_
                                refine gIcmp_ge X w d5_9 (n := 67) (n' := 12) (by decide) rfl rfl ?_ ?_
                                · intro c9
                                  exact gRetV X w rfl d5_67 (by decide) (by decide) (⟨rfl, Kc5, z1, z2, z0, z3, V63, by omega, by omega, by omega, fun y => by simp only [← Int32.toInt_inj] <;> omega⟩)
                                · intro c9
                                  exact absurd c9 (by decide)
                              · intro c43
                                refine gAloadN X w d5_46 rfl rfl (n := 47) rfl ?_
                                refine gIloadN X w d5_47 rfl (n := 48) rfl ?_
                                refine gIconst X w d5_48 (z := (1 : Int32)) rfl (n := 49) rfl ?_
                                refine gIadd X w d5_49 (z := (3 : Int32)) (by decide) (n := 50) rfl ?_
                                refine gAloadN X w d5_50 rfl rfl (n := 51) rfl ?_
                                refine gIloadN X w d5_51 rfl (n := 52) rfl ?_
                                refine gIaload X w V63 (by decide) rfl d5_52 (n := 53) rfl ?_
                                refine gIastore X w (z := (.int z0)) V63 (by decide) (show (3 : Int) < ((4 : Nat) : Int) from by decide) na rfl (vs' := [(.int z1), (.int z2), (.int z0), (.int z0)]) rfl d5_53 (n := 54) rfl ?_
                                intro T hp53 X W53 V53
                                have Kc5 := Kc4.wr W53 (Or.inl (List.mem_singleton.mpr rfl))
                                refine gGoto X w d5_54 (by decide) (n := 30) rfl ?_
                                refine gIinc X w d5_30 rfl (z := (1 : Int32)) (by decide) #[.val (.ref a), .val (.int (0 : Int32)), .val (.int (4 : Int32)), .val (.int (1 : Int32)), .val (.int (3 : Int32)), .val (.int z3)] rfl (n := 33) rfl ?_
                                refine gIloadN X w d5_33 rfl (n := 34) rfl ?_
                                refine gIloadN X w d5_34 rfl (n := 35) rfl ?_
                                refine gIcmp_lt X w d5_35 (n := 57) (n' := 38) (by decide) rfl rfl ?_ ?_
                                · intro c35
                                  exact absurd c35 (by decide)
                                · intro c35
                                  refine gIload X w d5_38 rfl (n := 40) rfl ?_
                                  refine gAloadN X w d5_40 rfl rfl (n := 41) rfl ?_
                                  refine gIloadN X w d5_41 rfl (n := 42) rfl ?_
                                  refine gIaload X w V53 (by decide) rfl d5_42 (n := 43) rfl ?_
                                  refine gIcmp_ge X w d5_43 (n := 57) (n' := 46) (by decide) rfl rfl ?_ ?_
                                  · intro c43
                                    refine gAloadN X w d5_57 rfl rfl (n := 58) rfl ?_
                                    refine gIloadN X w d5_58 rfl (n := 59) rfl ?_
                                    refine gIconst X w d5_59 (z := (1 : Int32)) rfl (n := 60) rfl ?_
                                    refine gIadd X w d5_60 (z := (2 : Int32)) (by decide) (n := 61) rfl ?_
                                    refine gIload X w d5_61 rfl (n := 63) rfl ?_
                                    refine gIastore X w (z := (.int z3)) V53 (by decide) (show (2 : Int) < ((4 : Nat) : Int) from by decide) na rfl (vs' := [(.int z1), (.int z2), (.int z3), (.int z0)]) rfl d5_63 (n := 64) rfl ?_
                                    intro T hp63 X W63 V63
                                    have Kc6 := Kc5.wr W63 (Or.inl (List.mem_singleton.mpr rfl))
                                    refine gGoto X w d5_64 (by decide) (n := 3) rfl ?_
                                    refine gIinc X w d5_3 rfl (z := (4 : Int32)) (by decide) #[.val (.ref a), .val (.int (0 : Int32)), .val (.int (4 : Int32)), .val (.int (1 : Int32)), .val (.int (4 : Int32)), .val (.int z3)] rfl (n := 6) rfl ?_
                                    refine gIload X w d5_6 rfl (n := 8) rfl ?_
                                    refine gIloadN X w d5_8 rfl (n := 9) rfl ?_
                                    refine gIcmp_ge X w d5_9 (n := 67) (n' := 12) (by decide) rfl rfl ?_ ?_
                                    · intro c9
                                      exact gRetV X w rfl d5_67 (by decide) (by decide) (⟨rfl, Kc6, z1, z2, z3, z0, V63, by omega, by omega, by omega, fun y => by simp only [← Int32.toInt_inj] <;> omega⟩)
                                    · intro c9
                                      exact absurd c9 (by decide)
                                  · intro c43
                                    refine gAloadN X w d5_46 rfl rfl (n := 47) rfl ?_
                                    refine gIloadN X w d5_47 rfl (n := 48) rfl ?_
                                    refine gIconst X w d5_48 (z := (1 : Int32)) rfl (n := 49) rfl ?_
                                    refine gIadd X w d5_49 (z := (2 : Int32)) (by decide) (n := 50) rfl ?_
                                    refine gAloadN X w d5_50 rfl rfl (n := 51) rfl ?_
                                    refine gIloadN X w d5_51 rfl (n := 52) rfl ?_
                                    refine gIaload X w V53 (by decide) rfl d5_52 (n := 53) rfl ?_
                                    refine gIastore X w (z := (.int z2)) V53 (by decide) (show (2 : Int) < ((4 : Nat) : Int) from by decide) na rfl (vs' := [(.int z1), (.int z2), (.int z2), (.int z0)]) rfl d5_53 (n := 54) rfl ?_
                                    intro T hp53 X W53 V53
                                    have Kc6 := Kc5.wr W53 (Or.inl (List.mem_singleton.mpr rfl))
                                    refine gGoto X w d5_54 (by decide) (n := 30) rfl ?_
                                    refine gIinc X w d5_30 rfl (z := (0 : Int32)) (by decide) #[.val (.ref a), .val (.int (0 : Int32)), .val (.int (4 : Int32)), .val (.int (0 : Int32)), .val (.int (3 : Int32)), .val (.int z3)] rfl (n := 33) rfl ?_
                                    refine gIloadN X w d5_33 rfl (n := 34) rfl ?_
                                    refine gIloadN X w d5_34 rfl (n := 35) rfl ?_
                                    refine gIcmp_lt X w d5_35 (n := 57) (n' := 38) (by decide) rfl rfl ?_ ?_
                                    · intro c35
                                      exact absurd c35 (by decide)
                                    · intro c35
                                      refine gIload X w d5_38 rfl (n := 40) rfl ?_
                                      refine gAloadN X w d5_40 rfl rfl (n := 41) rfl ?_
                                      refine gIloadN X w d5_41 rfl (n := 42) rfl ?_
                                      refine gIaload X w V53 (by decide) rfl d5_42 (n := 43) rfl ?_
                                      refine gIcmp_ge X w d5_43 (n := 57) (n' := 46) (by decide) rfl rfl ?_ ?_
                                      · intro c43
                                        refine gAloadN X w d5_57 rfl rfl (n := 58) rfl ?_
                                        refine gIloadN X w d5_58 rfl (n := 59) rfl ?_
                                        refine gIconst X w d5_59 (z := (1 : Int32)) rfl (n := 60) rfl ?_
                                        refine gIadd X w d5_60 (z := (1 : Int32)) (by decide) (n := 61) rfl ?_
                                        refine gIload X w d5_61 rfl (n := 63) rfl ?_
                                        refine gIastore X w (z := (.int z3)) V53 (by decide) (show (1 : Int) < ((4 : Nat) : Int) from by decide) na rfl (vs' := [(.int z1), (.int z3), (.int z2), (.int z0)]) rfl d5_63 (n := 64) rfl ?_
                                        intro T hp63 X W63 V63
                                        have Kc7 := Kc6.wr W63 (Or.inl (List.mem_singleton.mpr rfl))
                                        refine gGoto X w d5_64 (by decide) (n := 3) rfl ?_
                                        refine gIinc X w d5_3 rfl (z := (4 : Int32)) (by decide) #[.val (.ref a), .val (.int (0 : Int32)), .val (.int (4 : Int32)), .val (.int (0 : Int32)), .val (.int (4 : Int32)), .val (.int z3)] rfl (n := 6) rfl ?_
                                        refine gIload X w d5_6 rfl (n := 8) rfl ?_
                                        refine gIloadN X w d5_8 rfl (n := 9) rfl ?_
                                        refine gIcmp_ge X w d5_9 (n := 67) (n' := 12) (by decide) rfl rfl ?_ ?_
                                        · intro c9
                                          exact gRetV X w rfl d5_67 (by decide) (by decide) (⟨rfl, Kc7, z1, z3, z2, z0, V63, by omega, by omega, by omega, fun y => by simp only [← Int32.toInt_inj] <;> omega⟩)
                                        · intro c9
                                          exact absurd c9 (by decide)
                                      · intro c43
                                        refine gAloadN X w d5_46 rfl rfl (n := 47) rfl ?_
                                        refine gIloadN X w d5_47 rfl (n := 48) rfl ?_
                                        refine gIconst X w d5_48 (z := (1 : Int32)) rfl (n := 49) rfl ?_
                                        refine gIadd X w d5_49 (z := (1 : Int32)) (by decide) (n := 50) rfl ?_
                                        refine gAloadN X w d5_50 rfl rfl (n := 51) rfl ?_
                                        refine gIloadN X w d5_51 rfl (n := 52) rfl ?_
                                        refine gIaload X w V53 (by decide) rfl d5_52 (n := 53) rfl ?_
                                        refine gIastore X w (z := (.int z1)) V53 (by decide) (show (1 : Int) < ((4 : Nat) : Int) from by decide) na rfl (vs' := [(.int z1), (.int z1), (.int z2), (.int z0)]) rfl d5_53 (n := 54) rfl ?_
                                        intro T hp53 X W53 V53
                                        have Kc7 := Kc6.wr W53 (Or.inl (List.mem_singleton.mpr rfl))
                                        refine gGoto X w d5_54 (by decide) (n := 30) rfl ?_
                                        refine gIinc X w d5_30 rfl (z := (-1 : Int32)) (by decide) #[.val (.ref a), .val (.int (0 : Int32)), .val (.int (4 : Int32)), .val (.int (-1 : Int32)), .val (.int (3 : Int32)), .val (.int z3)] rfl (n := 33) rfl ?_
                                        refine gIloadN X w d5_33 rfl (n := 34) rfl ?_
                                        refine gIloadN X w d5_34 rfl (n := 35) rfl ?_
                                        refine gIcmp_lt X w d5_35 (n := 57) (n' := 38) (by decide) rfl rfl ?_ ?_
                                        · intro c35
                                          refine gAloadN X w d5_57 rfl rfl (n := 58) rfl ?_
                                          refine gIloadN X w d5_58 rfl (n := 59) rfl ?_
                                          refine gIconst X w d5_59 (z := (1 : Int32)) rfl (n := 60) rfl ?_
                                          refine gIadd X w d5_60 (z := (0 : Int32)) (by decide) (n := 61) rfl ?_
                                          refine gIload X w d5_61 rfl (n := 63) rfl ?_
                                          refine gIastore X w (z := (.int z3)) V53 (by decide) (show (0 : Int) < ((4 : Nat) : Int) from by decide) na rfl (vs' := [(.int z3), (.int z1), (.int z2), (.int z0)]) rfl d5_63 (n := 64) rfl ?_
                                          intro T hp63 X W63 V63
                                          have Kc8 := Kc7.wr W63 (Or.inl (List.mem_singleton.mpr rfl))
                                          refine gGoto X w d5_64 (by decide) (n := 3) rfl ?_
                                          refine gIinc X w d5_3 rfl (z := (4 : Int32)) (by decide) #[.val (.ref a), .val (.int (0 : Int32)), .val (.int (4 : Int32)), .val (.int (-1 : Int32)), .val (.int (4 : Int32)), .val (.int z3)] rfl (n := 6) rfl ?_
                                          refine gIload X w d5_6 rfl (n := 8) rfl ?_
                                          refine gIloadN X w d5_8 rfl (n := 9) rfl ?_
                                          refine gIcmp_ge X w d5_9 (n := 67) (n' := 12) (by decide) rfl rfl ?_ ?_
                                          · intro c9
                                            exact gRetV X w rfl d5_67 (by decide) (by decide) (⟨rfl, Kc8, z3, z1, z2, z0, V63, by omega, by omega, by omega, fun y => by simp only [← Int32.toInt_inj] <;> omega⟩)
                                          · intro c9
                                            exact absurd c9 (by decide)
                                        · intro c35
                                          exact absurd c35 (by decide)
                      · intro c43
                        refine gAloadN X w d5_46 rfl rfl (n := 47) rfl ?_
                        refine gIloadN X w d5_47 rfl (n := 48) rfl ?_
                        refine gIconst X w d5_48 (z := (1 : Int32)) rfl (n := 49) rfl ?_
                        refine gIadd X w d5_49 (z := (1 : Int32)) (by decide) (n := 50) rfl ?_
                        refine gAloadN X w d5_50 rfl rfl (n := 51) rfl ?_
                        refine gIloadN X w d5_51 rfl (n := 52) rfl ?_
                        refine gIaload X w V53 (by decide) rfl d5_52 (n := 53) rfl ?_
                        refine gIastore X w (z := (.int z1)) V53 (by decide) (show (1 : Int) < ((4 : Nat) : Int) from by decide) na rfl (vs' := [(.int z1), (.int z1), (.int z0), (.int z3)]) rfl d5_53 (n := 54) rfl ?_
                        intro T hp53 X W53 V53
                        have Kc4 := Kc3.wr W53 (Or.inl (List.mem_singleton.mpr rfl))
                        refine gGoto X w d5_54 (by decide) (n := 30) rfl ?_
                        refine gIinc X w d5_30 rfl (z := (-1 : Int32)) (by decide) #[.val (.ref a), .val (.int (0 : Int32)), .val (.int (4 : Int32)), .val (.int (-1 : Int32)), .val (.int (2 : Int32)), .val (.int z2)] rfl (n := 33) rfl ?_
                        refine gIloadN X w d5_33 rfl (n := 34) rfl ?_
                        refine gIloadN X w d5_34 rfl (n := 35) rfl ?_
                        refine gIcmp_lt X w d5_35 (n := 57) (n' := 38) (by decide) rfl rfl ?_ ?_
                        · intro c35
                          refine gAloadN X w d5_57 rfl rfl (n := 58) rfl ?_
                          refine gIloadN X w d5_58 rfl (n := 59) rfl ?_
                          refine gIconst X w d5_59 (z := (1 : Int32)) rfl (n := 60) rfl ?_
                          refine gIadd X w d5_60 (z := (0 : Int32)) (by decide) (n := 61) rfl ?_
                          refine gIload X w d5_61 rfl (n := 63) rfl ?_
                          refine gIastore X w (z := (.int z2)) V53 (by decide) (show (0 : Int) < ((4 : Nat) : Int) from by decide) na rfl (vs' := [(.int z2), (.int z1), (.int z0), (.int z3)]) rfl d5_63 (n := 64) rfl ?_
                          intro T hp63 X W63 V63
                          have Kc5 := Kc4.wr W63 (Or.inl (List.mem_singleton.mpr rfl))
                          refine gGoto X w d5_64 (by decide) (n := 3) rfl ?_
                          refine gIinc X w d5_3 rfl (z := (3 : Int32)) (by decide) #[.val (.ref a), .val (.int (0 : Int32)), .val (.int (4 : Int32)), .val (.int (-1 : Int32)), .val (.int (3 : Int32)), .val (.int z2)] rfl (n := 6) rfl ?_
                          refine gIload X w d5_6 rfl (n := 8) rfl ?_
                          refine gIloadN X w d5_8 rfl (n := 9) rfl ?_
                          refine gIcmp_ge X w d5_9 (n := 67) (n' := 12) (by decide) rfl rfl ?_ ?_
                          · intro c9
                            exact absurd c9 (by decide)
                          · intro c9
                            refine gAloadN X w d5_12 rfl rfl (n := 13) rfl ?_
                            refine gIload X w d5_13 rfl (n := 15) rfl ?_
                            refine gDup X w d5_15 rfl (n := 16) rfl ?_
                            refine gIstoreN X w d5_16 #[.val (.ref a), .val (.int (0 : Int32)), .val (.int (4 : Int32)), .val (.int (3 : Int32)), .val (.int (3 : Int32)), .val (.int z2)] rfl (n := 17) rfl ?_
                            refine gIaload X w V63 (by decide) rfl d5_17 (n := 18) rfl ?_
                            refine gIstore X w d5_18 #[.val (.ref a), .val (.int (0 : Int32)), .val (.int (4 : Int32)), .val (.int (3 : Int32)), .val (.int (3 : Int32)), .val (.int z3)] rfl (n := 20) rfl ?_
                            refine gIload X w d5_20 rfl (n := 22) rfl ?_
                            refine gAloadN X w d5_22 rfl rfl (n := 23) rfl ?_
                            refine gIloadN X w d5_23 rfl (n := 24) rfl ?_
                            refine gIconst X w d5_24 (z := (1 : Int32)) rfl (n := 25) rfl ?_
                            refine gIsub X w d5_25 (z := (2 : Int32)) (by decide) (n := 26) rfl ?_
                            refine gIaload X w V63 (by decide) rfl d5_26 (n := 27) rfl ?_
                            refine gIcmp_ge X w d5_27 (n := 64) (n' := 30) (by decide) rfl rfl ?_ ?_
                            · intro c27
                              refine gGoto X w d5_64 (by decide) (n := 3) rfl ?_
                              refine gIinc X w d5_3 rfl (z := (4 : Int32)) (by decide) #[.val (.ref a), .val (.int (0 : Int32)), .val (.int (4 : Int32)), .val (.int (3 : Int32)), .val (.int (4 : Int32)), .val (.int z3)] rfl (n := 6) rfl ?_
                              refine gIload X w d5_6 rfl (n := 8) rfl ?_
                              refine gIloadN X w d5_8 rfl (n := 9) rfl ?_
                              refine gIcmp_ge X w d5_9 (n := 67) (n' := 12) (by decide) rfl rfl ?_ ?_
                              · intro c9
                                exact gRetV X w rfl d5_67 (by decide) (by decide) (⟨rfl, Kc5, z2, z1, z0, z3, V63, by omega, by omega, by omega, fun y => by simp only [← Int32.toInt_inj] <;> omega⟩)
                              · intro c9
                                exact absurd c9 (by decide)
                            · intro c27
                              refine gIinc X w d5_30 rfl (z := (2 : Int32)) (by decide) #[.val (.ref a), .val (.int (0 : Int32)), .val (.int (4 : Int32)), .val (.int (2 : Int32)), .val (.int (3 : Int32)), .val (.int z3)] rfl (n := 33) rfl ?_
                              refine gIloadN X w d5_33 rfl (n := 34) rfl ?_
                              refine gIloadN X w d5_34 rfl (n := 35) rfl ?_
                              refine gIcmp_lt X w d5_35 (n := 57) (n' := 38) (by decide) rfl rfl ?_ ?_
                              · intro c35
                                exact absurd c35 (by decide)
                              · intro c35
                                refine gIload X w d5_38 rfl (n := 40) rfl ?_
                                refine gAloadN X w d5_40 rfl rfl (n := 41) rfl ?_
                                refine gIloadN X w d5_41 rfl (n := 42) rfl ?_
                                refine gIaload X w V63 (by decide) rfl d5_42 (n := 43) rfl ?_
                                refine gIcmp_ge X w d5_43 (n := 57) (n' := 46) (by decide) rfl rfl ?_ ?_
                                · intro c43
                                  refine gAloadN X w d5_57 rfl rfl (n := 58) rfl ?_
                                  refine gIloadN X w d5_58 rfl (n := 59) rfl ?_
                                  refine gIconst X w d5_59 (z := (1 : Int32)) rfl (n := 60) rfl ?_
                                  refine gIadd X w d5_60 (z := (3 : Int32)) (by decide) (n := 61) rfl ?_
                                  refine gIload X w d5_61 rfl (n := 63) rfl ?_
                                  refine gIastore X w (z := (.int z3)) V63 (by decide) (show (3 : Int) < ((4 : Nat) : Int) from by decide) na rfl (vs' := [(.int z2), (.int z1), (.int z0), (.int z3)]) rfl d5_63 (n := 64) rfl ?_
                                  intro T hp63 X W63 V63
                                  have Kc6 := Kc5.wr W63 (Or.inl (List.mem_singleton.mpr rfl))
                                  refine gGoto X w d5_64 (by decide) (n := 3) rfl ?_
                                  refine gIinc X w d5_3 rfl (z := (4 : Int32)) (by decide) #[.val (.ref a), .val (.int (0 : Int32)), .val (.int (4 : Int32)), .val (.int (2 : Int32)), .val (.int (4 : Int32)), .val (.int z3)] rfl (n := 6) rfl ?_
                                  refine gIload X w d5_6 rfl (n := 8) rfl ?_
                                  refine gIloadN X w d5_8 rfl (n := 9) rfl ?_
                                  refine gIcmp_ge X w d5_9 (n := 67) (n' := 12) (by decide) rfl rfl ?_ ?_
                                  · intro c9
                                    exact gRetV X w rfl d5_67 (by decide) (by decide) (⟨rfl, Kc6, z2, z1, z0, z3, V63, by omega, by omega, by omega, fun y => by simp only [← Int32.toInt_inj] <;> omega⟩)
                                  · intro c9
                                    exact absurd c9 (by decide)
                                · intro c43
                                  refine gAloadN X w d5_46 rfl rfl (n := 47) rfl ?_
                                  refine gIloadN X w d5_47 rfl (n := 48) rfl ?_
                                  refine gIconst X w d5_48 (z := (1 : Int32)) rfl (n := 49) rfl ?_
                                  refine gIadd X w d5_49 (z := (3 : Int32)) (by decide) (n := 50) rfl ?_
                                  refine gAloadN X w d5_50 rfl rfl (n := 51) rfl ?_
                                  refine gIloadN X w d5_51 rfl (n := 52) rfl ?_
                                  refine gIaload X w V63 (by decide) rfl d5_52 (n := 53) rfl ?_
                                  refine gIastore X w (z := (.int z0)) V63 (by decide) (show (3 : Int) < ((4 : Nat) : Int) from by decide) na rfl (vs' := [(.int z2), (.int z1), (.int z0), (.int z0)]) rfl d5_53 (n := 54) rfl ?_
                                  intro T hp53 X W53 V53
                                  have Kc6 := Kc5.wr W53 (Or.inl (List.mem_singleton.mpr rfl))
                                  refine gGoto X w d5_54 (by decide) (n := 30) rfl ?_
                                  refine gIinc X w d5_30 rfl (z := (1 : Int32)) (by decide) #[.val (.ref a), .val (.int (0 : Int32)), .val (.int (4 : Int32)), .val (.int (1 : Int32)), .val (.int (3 : Int32)), .val (.int z3)] rfl (n := 33) rfl ?_
                                  refine gIloadN X w d5_33 rfl (n := 34) rfl ?_
                                  refine gIloadN X w d5_34 rfl (n := 35) rfl ?_
                                  refine gIcmp_lt X w d5_35 (n := 57) (n' := 38) (by decide) rfl rfl ?_ ?_
                                  · intro c35
                                    exact absurd c35 (by decide)
                                  · intro c35
                                    refine gIload X w d5_38 rfl (n := 40) rfl ?_
                                    refine gAloadN X w d5_40 rfl rfl (n := 41) rfl ?_
                                    refine gIloadN X w d5_41 rfl (n := 42) rfl ?_
                                    refine gIaload X w V53 (by decide) rfl d5_42 (n := 43) rfl ?_
                                    refine gIcmp_ge X w d5_43 (n := 57) (n' := 46) (by decide) rfl rfl ?_ ?_
                                    · intro c43
                                      refine gAloadN X w d5_57 rfl rfl (n := 58) rfl ?_
                                      refine gIloadN X w d5_58 rfl (n := 59) rfl ?_
                                      refine gIconst X w d5_59 (z := (1 : Int32)) rfl (n := 60) rfl ?_
                                      refine gIadd X w d5_60 (z := (2 : Int32)) (by decide) (n := 61) rfl ?_
                                      refine gIload X w d5_61 rfl (n := 63) rfl ?_
                                      refine gIastore X w (z := (.int z3)) V53 (by decide) (show (2 : Int) < ((4 : Nat) : Int) from by decide) na rfl (vs' := [(.int z2), (.int z1), (.int z3), (.int z0)]) rfl d5_63 (n := 64) rfl ?_
                                      intro T hp63 X W63 V63
                                      have Kc7 := Kc6.wr W63 (Or.inl (List.mem_singleton.mpr rfl))
                                      refine gGoto X w d5_64 (by decide) (n := 3) rfl ?_
                                      refine gIinc X w d5_3 rfl (z := (4 : Int32)) (by decide) #[.val (.ref a), .val (.int (0 : Int32)), .val (.int (4 : Int32)), .val (.int (1 : Int32)), .val (.int (4 : Int32)), .val (.int z3)] rfl (n := 6) rfl ?_
                                      refine gIload X w d5_6 rfl (n := 8) rfl ?_
                                      refine gIloadN X w d5_8 rfl (n := 9) rfl ?_
                                      refine gIcmp_ge X w d5_9 (n := 67) (n' := 12) (by decide) rfl rfl ?_ ?_
                                      · intro c9
                                        exact gRetV X w rfl d5_67 (by decide) (by decide) (⟨rfl, Kc7, z2, z1, z3, z0, V63, by omega, by omega, by omega, fun y => by simp only [← Int32.toInt_inj] <;> omega⟩)
                                      · intro c9
                                        exact absurd c9 (by decide)
                                    · intro c43
                                      refine gAloadN X w d5_46 rfl rfl (n := 47) rfl ?_
                                      refine gIloadN X w d5_47 rfl (n := 48) rfl ?_
                                      refine gIconst X w d5_48 (z := (1 : Int32)) rfl (n := 49) rfl ?_
                                      refine gIadd X w d5_49 (z := (2 : Int32)) (by decide) (n := 50) rfl ?_
                                      refine gAloadN X w d5_50 rfl rfl (n := 51) rfl ?_
                                      refine gIloadN X w d5_51 rfl (n := 52) rfl ?_
                                      refine gIaload X w V53 (by decide) rfl d5_52 (n := 53) rfl ?_
                                      refine gIastore X w (z := (.int z1)) V53 (by decide) (show (2 : Int) < ((4 : Nat) : Int) from by decide) na rfl (vs' := [(.int z2), (.int z1), (.int z1), (.int z0)]) rfl d5_53 (n := 54) rfl ?_
                                      intro T hp53 X W53 V53
                                      have Kc7 := Kc6.wr W53 (Or.inl (List.mem_singleton.mpr rfl))
                                      refine gGoto X w d5_54 (by decide) (n := 30) rfl ?_
                                      refine gIinc X w d5_30 rfl (z := (0 : Int32)) (by decide) #[.val (.ref a), .val (.int (0 : Int32)), .val (.int (4 : Int32)), .val (.int (0 : Int32)), .val (.int (3 : Int32)), .val (.int z3)] rfl (n := 33) rfl ?_
                                      refine gIloadN X w d5_33 rfl (n := 34) rfl ?_
                                      refine gIloadN X w d5_34 rfl (n := 35) rfl ?_
                                      refine gIcmp_lt X w d5_35 (n := 57) (n' := 38) (by decide) rfl rfl ?_ ?_
                                      · intro c35
                                        exact absurd c35 (by decide)
                                      · intro c35
                                        refine gIload X w d5_38 rfl (n := 40) rfl ?_
                                        refine gAloadN X w d5_40 rfl rfl (n := 41) rfl ?_
                                        refine gIloadN X w d5_41 rfl (n := 42) rfl ?_
                                        refine gIaload X w V53 (by decide) rfl d5_42 (n := 43) rfl ?_
                                        refine gIcmp_ge X w d5_43 (n := 57) (n' := 46) (by decide) rfl rfl ?_ ?_
                                        · intro c43
                                          refine gAloadN X w d5_57 rfl rfl (n := 58) rfl ?_
                                          refine gIloadN X w d5_58 rfl (n := 59) rfl ?_
                                          refine gIconst X w d5_59 (z := (1 : Int32)) rfl (n := 60) rfl ?_
                                          refine gIadd X w d5_60 (z := (1 : Int32)) (by decide) (n := 61) rfl ?_
                                          refine gIload X w d5_61 rfl (n := 63) rfl ?_
                                          refine gIastore X w (z := (.int z3)) V53 (by decide) (show (1 : Int) < ((4 : Nat) : Int) from by decide) na rfl (vs' := [(.int z2), (.int z3), (.int z1), (.int z0)]) rfl d5_63 (n := 64) rfl ?_
                                          intro T hp63 X W63 V63
                                          have Kc8 := Kc7.wr W63 (Or.inl (List.mem_singleton.mpr rfl))
                                          refine gGoto X w d5_64 (by decide) (n := 3) rfl ?_
                                          refine gIinc X w d5_3 rfl (z := (4 : Int32)) (by decide) #[.val (.ref a), .val (.int (0 : Int32)), .val (.int (4 : Int32)), .val (.int (0 : Int32)), .val (.int (4 : Int32)), .val (.int z3)] rfl (n := 6) rfl ?_
                                          refine gIload X w d5_6 rfl (n := 8) rfl ?_
                                          refine gIloadN X w d5_8 rfl (n := 9) rfl ?_
                                          refine gIcmp_ge X w d5_9 (n := 67) (n' := 12) (by decide) rfl rfl ?_ ?_
                                          · intro c9
                                            exact gRetV X w rfl d5_67 (by decide) (by decide) (⟨rfl, Kc8, z2, z3, z1, z0, V63, by omega, by omega, by omega, fun y => by simp only [← Int32.toInt_inj] <;> omega⟩)
                                          · intro c9
                                            exact absurd c9 (by decide)
                                        · intro c43
                                          refine gAloadN X w d5_46 rfl rfl (n := 47) rfl ?_
                                          refine gIloadN X w d5_47 rfl (n := 48) rfl ?_
                                          refine gIconst X w d5_48 (z := (1 : Int32)) rfl (n := 49) rfl ?_
                                          refine gIadd X w d5_49 (z := (1 : Int32)) (by decide) (n := 50) rfl ?_
                                          refine gAloadN X w d5_50 rfl rfl (n := 51) rfl ?_
                                          refine gIloadN X w d5_51 rfl (n := 52) rfl ?_
                                          refine gIaload X w V53 (by decide) rfl d5_52 (n := 53) rfl ?_
                                          refine gIastore X w (z := (.int z2)) V53 (by decide) (show (1 : Int) < ((4 : Nat) : Int) from by decide) na rfl (vs' := [(.int z2), (.int z2), (.int z1), (.int z0)]) rfl d5_53 (n := 54) rfl ?_
                                          intro T hp53 X W53 V53
                                          have Kc8 := Kc7.wr W53 (Or.inl (List.mem_singleton.mpr rfl))
                                          refine gGoto X w d5_54 (by decide) (n := 30) rfl ?_
                                          refine gIinc X w d5_30 rfl (z := (-1 : Int32)) (by decide) #[.val (.ref a), .val (.int (0 : Int32)), .val (.int (4 : Int32)), .val (.int (-1 : Int32)), .val (.int (3 : Int32)), .val (.int z3)] rfl (n := 33) rfl ?_
                                          refine gIloadN X w d5_33 rfl (n := 34) rfl ?_
                                          refine gIloadN X w d5_34 rfl (n := 35) rfl ?_
                                          refine gIcmp_lt X w d5_35 (n := 57) (n' := 38) (by decide) rfl rfl ?_ ?_
                                          · intro c35
                                            refine gAloadN X w d5_57 rfl rfl (n := 58) rfl ?_
                                            refine gIloadN X w d5_58 rfl (n := 59) rfl ?_
                                            refine gIconst X w d5_59 (z := (1 : Int32)) rfl (n := 60) rfl ?_
                                            refine gIadd X w d5_60 (z := (0 : Int32)) (by decide) (n := 61) rfl ?_
                                            refine gIload X w d5_61 rfl (n := 63) rfl ?_
                                            refine gIastore X w (z := (.int z3)) V53 (by decide) (show (0 : Int) < ((4 : Nat) : Int) from by decide) na rfl (vs' := [(.int z3), (.int z2), (.int z1), (.int z0)]) rfl d5_63 (n := 64) rfl ?_
                                            intro T hp63 X W63 V63
                                            have Kc9 := Kc8.wr W63 (Or.inl (List.mem_singleton.mpr rfl))
                                            refine gGoto X w d5_64 (by decide) (n := 3) rfl ?_
                                            refine gIinc X w d5_3 rfl (z := (4 : Int32)) (by decide) #[.val (.ref a), .val (.int (0 : Int32)), .val (.int (4 : Int32)), .val (.int (-1 : Int32)), .val (.int (4 : Int32)), .val (.int z3)] rfl (n := 6) rfl ?_
                                            refine gIload X w d5_6 rfl (n := 8) rfl ?_
                                            refine gIloadN X w d5_8 rfl (n := 9) rfl ?_
                                            refine gIcmp_ge X w d5_9 (n := 67) (n' := 12) (by decide) rfl rfl ?_ ?_
                                            · intro c9
                                              exact gRetV X w rfl d5_67 (by decide) (by decide) (⟨rfl, Kc9, z3, z2, z1, z0, V63, by omega, by omega, by omega, fun y => by simp only [← Int32.toInt_inj] <;> omega⟩)
                                            · intro c9
                                              exact absurd c9 (by decide)
                                          · intro c35
                                            exact absurd c35 (by decide)
                        · intro c35
                          exact absurd c35 (by decide)
          · intro c35
            exact absurd c35 (by decide)
set_option maxRecDepth 65536 in
set_option maxHeartbeats 40000000 in
theorem own_dp2_4 (l : Launch) (Z : State) (a0 : Array Value) (hw : ∀ d ∈ tables_1, d.before a0 Z = true) (a : Addr) (z0 z1 z2 z3 : Int32) (h0 : Heap) (n0 : Nat) (hn : n0 ≤ h0.size) (na : n0 ≤ a) (V : Av Z h0 a .int [.int z0, .int z1, .int z2, .int z3]) :
    ConN l Z (⟨"java/util/DualPivotQuicksort", "sort", "(Ljava/util/DualPivotQuicksort$Sorter;[IIII)V"⟩ : MethodName) jdk_2529_method_4_code 21 ({ frames := 1, cells := 0, slots := 0, locals := 17 } : Room) #[.null, (.ref a), (.int (0 : Int32)), (.int (0 : Int32)), (.int (4 : Int32))] h0 n0 (fun h => Keep h0 h [a] ∧ ∃ w0 w1 w2 w3 : Int32, Av Z h a .int [.int w0, .int w1, .int w2, .int w3] ∧ w0.toInt ≤ w1.toInt ∧ w1.toInt ≤ w2.toInt ∧ w2.toInt ≤ w3.toInt ∧ ∀ y : Int32, (y = w0 ∨ y = w1 ∨ y = w2 ∨ y = w3) ↔ (y = z0 ∨ y = z1 ∨ y = z2 ∨ y = z3)) := by
  refine Con.of (plainFor_of_name (by first | (simp [plainName, overriddenIn]; done) | decide +kernel)) hn ?_
  intro p e s m below meth c T w X
  refine Gl.enter (ls := #[.val .null, .val (.ref a), .val (.int (0 : Int32)), .val (.int (0 : Int32)), .val (.int (4 : Int32)), .unset, .unset, .unset, .unset, .unset, .unset, .unset, .unset, .unset, .unset, .unset, .unset, .unset, .unset, .unset, .unset]) (by first | (simp [entryFrame, mkF, argsToLocals, Value.category]; done) | rfl) ?_
  refine gIload X w d4_0 rfl (n := 2) rfl ?_
  refine gIconst X w d4_2 (z := (1 : Int32)) rfl (n := 3) rfl ?_
  refine gIsub X w d4_3 (z := (3 : Int32)) (by decide) (n := 4) rfl ?_
  refine gIstore X w d4_4 #[.val .null, .val (.ref a), .val (.int (0 : Int32)), .val (.int (0 : Int32)), .val (.int (4 : Int32)), .val (.int (3 : Int32)), .unset, .unset, .unset, .unset, .unset, .unset, .unset, .unset, .unset, .unset, .unset, .unset, .unset, .unset, .unset] rfl (n := 6) rfl ?_
  refine gIload X w d4_6 rfl (n := 8) rfl ?_
  refine gIloadN X w d4_8 rfl (n := 9) rfl ?_
  refine gIsub X w d4_9 (z := (4 : Int32)) (by decide) (n := 10) rfl ?_
  refine gIstore X w d4_10 #[.val .null, .val (.ref a), .val (.int (0 : Int32)), .val (.int (0 : Int32)), .val (.int (4 : Int32)), .val (.int (3 : Int32)), .val (.int (4 : Int32)), .unset, .unset, .unset, .unset, .unset, .unset, .unset, .unset, .unset, .unset, .unset, .unset, .unset, .unset] rfl (n := 12) rfl ?_
  refine gIload X w d4_12 rfl (n := 14) rfl ?_
  refine gBipush X w d4_14 (z := (65 : Int32)) (by decide) (n := 16) rfl ?_
  refine gIloadN X w d4_16 rfl (n := 17) rfl ?_
  refine gIadd X w d4_17 (z := (65 : Int32)) (by decide) (n := 18) rfl ?_
  refine gIcmp_ge X w d4_18 (n := 46) (n' := 21) (by decide) rfl rfl ?_ ?_
  · intro c18
    exact absurd c18 (by decide)
  · intro c18
    refine gIloadN X w d4_21 rfl (n := 22) rfl ?_
    refine gIconst X w d4_22 (z := (1 : Int32)) rfl (n := 23) rfl ?_
    refine gIand X w d4_23 (z := (0 : Int32)) (by decide) (n := 24) rfl ?_
    refine gIf_le X w d4_24 (n := 46) (n' := 27) (by decide) rfl rfl ?_ ?_
    · intro c24
      refine gIload X w d4_46 rfl (n := 48) rfl ?_
      refine gBipush X w d4_48 (z := (44 : Int32)) (by decide) (n := 50) rfl ?_
      refine gIcmp_ge X w d4_50 (n := 61) (n' := 53) (by decide) rfl rfl ?_ ?_
      · intro c50
        exact absurd c50 (by decide)
      · intro c50
        refine gAloadN X w d4_53 rfl rfl (n := 54) rfl ?_
        refine gIloadN X w d4_54 rfl (n := 55) rfl ?_
        refine gIload X w d4_55 rfl (n := 57) rfl ?_
        refine gCallSn X w [(.ref a), (.int (0 : Int32)), (.int (4 : Int32))] [] (own_ins_4 l Z a0 hw a z0 z1 z2 z3 h0 n0 (Sd.le X) na V) (own_wd hw 25 rfl) (own_wd hw 26 rfl) (own_wd hw 20 rfl) (own_wd hw 27 rfl) (by decide) own_pd0 rfl rfl d4_57 rfl (W := 0) (Nat.le_of_eq rfl) (by decide) (by decide) (by decide) (by decide) (n := 60) rfl ?_
        rintro T h1 ⟨K1, w0, w1, w2, w3, V1, s0, s1, s2, m1⟩ X
        exact gRetV X w rfl d4_60 (by decide) (by decide) (⟨rfl, K1, w0, w1, w2, w3, V1, s0, s1, s2, m1⟩)
    · intro c24
      exact absurd c24 (by decide)
set_option maxRecDepth 65536 in
set_option maxHeartbeats 40000000 in
theorem own_dp1_4 (l : Launch) (Z : State) (a0 : Array Value) (hw : ∀ d ∈ tables_1, d.before a0 Z = true) (a : Addr) (z0 z1 z2 z3 : Int32) (h0 : Heap) (n0 : Nat) (hn : n0 ≤ h0.size) (na : n0 ≤ a) (V : Av Z h0 a .int [.int z0, .int z1, .int z2, .int z3]) :
    ConN l Z (⟨"java/util/DualPivotQuicksort", "sort", "([IIII)V"⟩ : MethodName) jdk_2529_method_3_code 7 ({ frames := 2, cells := 0, slots := 0, locals := 49 } : Room) #[(.ref a), (.int (0 : Int32)), (.int (0 : Int32)), (.int (4 : Int32))] h0 n0 (fun h => Keep h0 h [a] ∧ ∃ w0 w1 w2 w3 : Int32, Av Z h a .int [.int w0, .int w1, .int w2, .int w3] ∧ w0.toInt ≤ w1.toInt ∧ w1.toInt ≤ w2.toInt ∧ w2.toInt ≤ w3.toInt ∧ ∀ y : Int32, (y = w0 ∨ y = w1 ∨ y = w2 ∨ y = w3) ↔ (y = z0 ∨ y = z1 ∨ y = z2 ∨ y = z3)) := by
  refine Con.of (plainFor_of_name (by first | (simp [plainName, overriddenIn]; done) | decide +kernel)) hn ?_
  intro p e s m below meth c T w X
  refine Gl.enter (ls := #[.val (.ref a), .val (.int (0 : Int32)), .val (.int (0 : Int32)), .val (.int (4 : Int32)), .unset, .unset, .unset]) (by first | (simp [entryFrame, mkF, argsToLocals, Value.category]; done) | rfl) ?_
  refine gIloadN X w d3_0 rfl (n := 1) rfl ?_
  refine gIloadN X w d3_1 rfl (n := 2) rfl ?_
  refine gIsub X w d3_2 (z := (4 : Int32)) (by decide) (n := 3) rfl ?_
  refine gIstore X w d3_3 #[.val (.ref a), .val (.int (0 : Int32)), .val (.int (0 : Int32)), .val (.int (4 : Int32)), .val (.int (4 : Int32)), .unset, .unset] rfl (n := 5) rfl ?_
  refine gIloadN X w d3_5 rfl (n := 6) rfl ?_
  refine gIconst X w d3_6 (z := (1 : Int32)) rfl (n := 7) rfl ?_
  refine gIcmp_le X w d3_7 (n := 68) (n' := 10) (by decide) rfl rfl ?_ ?_
  · intro c7
    refine gNull X w d3_68 (n := 69) rfl ?_
    refine gAloadN X w d3_69 rfl rfl (n := 70) rfl ?_
    refine gIconst X w d3_70 (z := (0 : Int32)) rfl (n := 71) rfl ?_
    refine gIloadN X w d3_71 rfl (n := 72) rfl ?_
    refine gIloadN X w d3_72 rfl (n := 73) rfl ?_
    refine gCallSn X w [.null, (.ref a), (.int (0 : Int32)), (.int (0 : Int32)), (.int (4 : Int32))] [] (own_dp2_4 l Z a0 hw a z0 z1 z2 z3 h0 n0 (Sd.le X) na V) (own_wd hw 22 rfl) (own_wd hw 23 rfl) (own_wd hw 20 rfl) (own_wd hw 24 rfl) (by decide) own_pd1 rfl rfl d3_73 rfl (W := 0) (Nat.le_of_eq rfl) (by decide) (by decide) (by decide) (by decide) (n := 76) rfl ?_
    rintro T h1 ⟨K1, w0, w1, w2, w3, V1, s0, s1, s2, m1⟩ X
    exact gRetV X w rfl d3_76 (by decide) (by decide) (⟨rfl, K1, w0, w1, w2, w3, V1, s0, s1, s2, m1⟩)
  · intro c7
    exact absurd c7 (by decide)
set_option maxRecDepth 65536 in
set_option maxHeartbeats 40000000 in
theorem own_srt_4 (l : Launch) (Z : State) (a0 : Array Value) (hw : ∀ d ∈ tables_1, d.before a0 Z = true) (a : Addr) (z0 z1 z2 z3 : Int32) (h0 : Heap) (n0 : Nat) (hn : n0 ≤ h0.size) (na : n0 ≤ a) (V : Av Z h0 a .int [.int z0, .int z1, .int z2, .int z3]) :
    ConN l Z (⟨"java/util/Arrays", "sort", "([I)V"⟩ : MethodName) jdk_65_method_2_code 1 ({ frames := 3, cells := 0, slots := 0, locals := 67 } : Room) #[(.ref a)] h0 n0 (fun h => Keep h0 h [a] ∧ ∃ w0 w1 w2 w3 : Int32, Av Z h a .int [.int w0, .int w1, .int w2, .int w3] ∧ w0.toInt ≤ w1.toInt ∧ w1.toInt ≤ w2.toInt ∧ w2.toInt ≤ w3.toInt ∧ ∀ y : Int32, (y = w0 ∨ y = w1 ∨ y = w2 ∨ y = w3) ↔ (y = z0 ∨ y = z1 ∨ y = z2 ∨ y = z3)) := by
  refine Con.of (plainFor_of_name (by first | (simp [plainName, overriddenIn]; done) | decide +kernel)) hn ?_
  intro p e s m below meth c T w X
  refine Gl.enter (ls := #[.val (.ref a)]) (by first | (simp [entryFrame, mkF, argsToLocals, Value.category]; done) | rfl) ?_
  refine gAloadN X w d2_0 rfl rfl (n := 1) rfl ?_
  refine gIconst X w d2_1 (z := (0 : Int32)) rfl (n := 2) rfl ?_
  refine gIconst X w d2_2 (z := (0 : Int32)) rfl (n := 3) rfl ?_
  refine gAloadN X w d2_3 rfl rfl (n := 4) rfl ?_
  refine gAlen X w V (z := (4 : Int32)) rfl d2_4 (n := 5) rfl ?_
  refine gCallSn X w [(.ref a), (.int (0 : Int32)), (.int (0 : Int32)), (.int (4 : Int32))] [] (own_dp1_4 l Z a0 hw a z0 z1 z2 z3 h0 n0 (Sd.le X) na V) (own_wd hw 18 rfl) (own_wd hw 19 rfl) (own_wd hw 20 rfl) (own_wd hw 21 rfl) (by decide) own_pd2 rfl rfl d2_5 rfl (W := 0) (Nat.le_of_eq rfl) (by decide) (by decide) (by decide) (by decide) (n := 8) rfl ?_
  rintro T h1 ⟨K1, w0, w1, w2, w3, V1, s0, s1, s2, m1⟩ X
  exact gRetV X w rfl d2_8 (by decide) (by decide) (⟨rfl, K1, w0, w1, w2, w3, V1, s0, s1, s2, m1⟩)
set_option maxRecDepth 65536 in
set_option maxHeartbeats 40000000 in
theorem own_min_4_1 (l : Launch) (Z : State) (a0 : Array Value) (hw : ∀ d ∈ tables_1, d.before a0 Z = true)  (h0 : Heap) (n0 : Nat) (hn : n0 ≤ h0.size)  :
    ConV l Z (⟨"java/lang/Math", "min", "(II)I"⟩ : MethodName) jdk_29_method_69_code 2 (some .int) ({ frames := 0, cells := 0, slots := 0, locals := 0 } : Room) #[(.int (4 : Int32)), (.int (1 : Int32))] h0 n0 (fun v h => h0 = h ∧ v = .int (1 : Int32)) := by
  refine Con.of (Jvm.Free.JP.mathPlain rfl (by decide +kernel)) hn ?_
  intro p e s m below meth c T w X
  refine Gl.enter (ls := #[.val (.int (4 : Int32)), .val (.int (1 : Int32))]) (by first | (simp [entryFrame, mkF, argsToLocals, Value.category]; done) | rfl) ?_
  refine gIloadN X w d11_0 rfl (n := 1) rfl ?_
  refine gIloadN X w d11_1 rfl (n := 2) rfl ?_
  refine gIcmp_gt X w d11_2 (n := 9) (n' := 5) (by decide) rfl rfl ?_ ?_
  · intro c2
    refine gIloadN X w d11_9 rfl (n := 10) rfl ?_
    exact gRetI X w rfl d11_10 (by decide) (by decide) (⟨_, rfl, rfl, rfl⟩)
  · intro c2
    exact absurd c2 (by decide)
set_option maxRecDepth 65536 in
set_option maxHeartbeats 40000000 in
theorem own_cpy_4_1 (l : Launch) (Z : State) (a0 : Array Value) (hw : ∀ d ∈ tables_1, d.before a0 Z = true) (a : Addr) (z0 z1 z2 z3 : Int32) (h0 : Heap) (n0 : Nat) (hn : n0 ≤ h0.size) (V : Av Z h0 a .int [.int z0, .int z1, .int z2, .int z3]) (E : Exa Z h0 a "[I") :
    ConV l Z (⟨"java/util/Arrays", "copyOf", "([II)[I"⟩ : MethodName) jdk_65_method_123_code 3 (some (.array .int)) ({ frames := 1, cells := 1, slots := 1, locals := 40 } : Room) #[(.ref a), (.int (1 : Int32))] h0 n0 (fun v h => Keep h0 h [] ∧ ∃ d : Addr, v = .ref d ∧ h0.size ≤ d ∧ Av Z h d .int [.int z0]) := by
  refine Con.of (plainFor_of_name (by first | (simp [plainName, overriddenIn]; done) | decide +kernel)) hn ?_
  intro p e s m below meth c T w X
  refine Gl.enter (ls := #[.val (.ref a), .val (.int (1 : Int32)), .unset]) (by first | (simp [entryFrame, mkF, argsToLocals, Value.category]; done) | rfl) ?_
  refine gIloadN X w d6_0 rfl (n := 1) rfl ?_
  refine gAloadN X w d6_1 rfl rfl (n := 2) rfl ?_
  refine gAlen X w V (z := (4 : Int32)) rfl d6_2 (n := 3) rfl ?_
  refine gIcmp_ne X w d6_3 (n := 14) (n' := 6) (by decide) rfl rfl ?_ ?_
  · rintro ⟨c3, c3'⟩
    refine gIloadN X w d6_14 rfl (n := 15) rfl ?_
    refine gNewP X w (own_wd hw 0 rfl) d6_15 (by decide) (cap := 1) (by decide) (by decide) (by decide) (by decide) (vs := [(.int (0 : Int32))]) (ty := .int) rfl rfl (ad := "[I") (by decide) (n := 17) rfl ?_
    intro T hp15 ad15 ea15 na15 X E15 V15 A15
    have ne_a_ad15 : a ≠ ad15 := neOf V.lt (Nat.le_of_eq ea15.symm)
    have F_1 := V.ext E15
    have F_2 := E.ext E15
    refine gAstoreN X w d6_17 rfl #[.val (.ref a), .val (.int (1 : Int32)), .val (.ref ad15)] rfl (n := 18) rfl ?_
    refine gAloadN X w d6_18 rfl rfl (n := 19) rfl ?_
    refine gIconst X w d6_19 (z := (0 : Int32)) rfl (n := 20) rfl ?_
    refine gAloadN X w d6_20 rfl rfl (n := 21) rfl ?_
    refine gIconst X w d6_21 (z := (0 : Int32)) rfl (n := 22) rfl ?_
    refine gAloadN X w d6_22 rfl rfl (n := 23) rfl ?_
    refine gAlen X w F_1 (z := (4 : Int32)) rfl d6_23 (n := 24) rfl ?_
    refine gIloadN X w d6_24 rfl (n := 25) rfl ?_
    refine gCallSv X w [(.int (4 : Int32)), (.int (1 : Int32))] [(.int (0 : Int32)), (.ref ad15), (.int (0 : Int32)), (.ref a)] (own_min_4_1 l Z a0 hw hp15 n0 (Sd.le X)) (own_wd hw 52 rfl) (own_wd hw 53 rfl) (own_wd hw 54 rfl) (own_wd hw 55 rfl) (by decide) own_pd3 rfl rfl d6_25 rfl (W := 4) (Nat.le_of_eq rfl) (by decide) (by decide) (by decide) (by decide) (n := 28) rfl ?_
    rintro T _ _ ⟨rfl, rfl⟩ X
    refine gAcopy X w (.int 0) F_1 V15 rfl (own_fitI (by intro v hv; simp only [List.mem_cons, List.not_mem_nil, or_false] at hv; rcases hv with rfl | rfl | rfl | rfl <;> exact ⟨_, rfl⟩)) (own_fitI (by intro v hv; simp only [List.mem_cons, List.not_mem_nil, or_false] at hv; rcases hv with rfl <;> exact ⟨_, rfl⟩)) (by show (4 : Nat) < 2 ^ 31; decide) (by show (1 : Nat) < 2 ^ 31; decide) (own_wd hw 56 rfl) (own_wd hw 59 rfl) (own_wd hw 57 rfl) (own_wd hw 58 rfl) (by decide) (by decide) (by decide) (by show (1 : Int) ≤ ((4 : Nat) : Int); decide) (by show (1 : Int) ≤ ((1 : Nat) : Int); decide) (vs' := [.int z0]) rfl na15 d6_28 rfl (by decide) (W := 0) (Nat.le_of_eq rfl) (by decide) (n := 31) rfl ?_
    intro T hp28 X K28 V28
    refine gAloadN X w d6_31 rfl rfl (n := 32) rfl ?_
    exact gRetA X w rfl rfl rfl d6_32 (by decide) (by decide) (⟨_, rfl, ((Keep.refl _ []).ext E15).trans K28 (allS (Or.inr (Nat.le_of_eq ea15.symm)) all0), ad15, rfl, Nat.le_of_eq ea15.symm, V28⟩)
  · rintro ⟨c3, c3'⟩
    exact absurd c3 (by decide)
set_option maxRecDepth 65536 in
set_option maxHeartbeats 40000000 in
theorem own_min_4_2 (l : Launch) (Z : State) (a0 : Array Value) (hw : ∀ d ∈ tables_1, d.before a0 Z = true)  (h0 : Heap) (n0 : Nat) (hn : n0 ≤ h0.size)  :
    ConV l Z (⟨"java/lang/Math", "min", "(II)I"⟩ : MethodName) jdk_29_method_69_code 2 (some .int) ({ frames := 0, cells := 0, slots := 0, locals := 0 } : Room) #[(.int (4 : Int32)), (.int (2 : Int32))] h0 n0 (fun v h => h0 = h ∧ v = .int (2 : Int32)) := by
  refine Con.of (Jvm.Free.JP.mathPlain rfl (by decide +kernel)) hn ?_
  intro p e s m below meth c T w X
  refine Gl.enter (ls := #[.val (.int (4 : Int32)), .val (.int (2 : Int32))]) (by first | (simp [entryFrame, mkF, argsToLocals, Value.category]; done) | rfl) ?_
  refine gIloadN X w d11_0 rfl (n := 1) rfl ?_
  refine gIloadN X w d11_1 rfl (n := 2) rfl ?_
  refine gIcmp_gt X w d11_2 (n := 9) (n' := 5) (by decide) rfl rfl ?_ ?_
  · intro c2
    refine gIloadN X w d11_9 rfl (n := 10) rfl ?_
    exact gRetI X w rfl d11_10 (by decide) (by decide) (⟨_, rfl, rfl, rfl⟩)
  · intro c2
    exact absurd c2 (by decide)
set_option maxRecDepth 65536 in
set_option maxHeartbeats 40000000 in
theorem own_cpy_4_2 (l : Launch) (Z : State) (a0 : Array Value) (hw : ∀ d ∈ tables_1, d.before a0 Z = true) (a : Addr) (z0 z1 z2 z3 : Int32) (h0 : Heap) (n0 : Nat) (hn : n0 ≤ h0.size) (V : Av Z h0 a .int [.int z0, .int z1, .int z2, .int z3]) (E : Exa Z h0 a "[I") :
    ConV l Z (⟨"java/util/Arrays", "copyOf", "([II)[I"⟩ : MethodName) jdk_65_method_123_code 3 (some (.array .int)) ({ frames := 1, cells := 1, slots := 2, locals := 40 } : Room) #[(.ref a), (.int (2 : Int32))] h0 n0 (fun v h => Keep h0 h [] ∧ ∃ d : Addr, v = .ref d ∧ h0.size ≤ d ∧ Av Z h d .int [.int z0, .int z1]) := by
  refine Con.of (plainFor_of_name (by first | (simp [plainName, overriddenIn]; done) | decide +kernel)) hn ?_
  intro p e s m below meth c T w X
  refine Gl.enter (ls := #[.val (.ref a), .val (.int (2 : Int32)), .unset]) (by first | (simp [entryFrame, mkF, argsToLocals, Value.category]; done) | rfl) ?_
  refine gIloadN X w d6_0 rfl (n := 1) rfl ?_
  refine gAloadN X w d6_1 rfl rfl (n := 2) rfl ?_
  refine gAlen X w V (z := (4 : Int32)) rfl d6_2 (n := 3) rfl ?_
  refine gIcmp_ne X w d6_3 (n := 14) (n' := 6) (by decide) rfl rfl ?_ ?_
  · rintro ⟨c3, c3'⟩
    refine gIloadN X w d6_14 rfl (n := 15) rfl ?_
    refine gNewP X w (own_wd hw 0 rfl) d6_15 (by decide) (cap := 2) (by decide) (by decide) (by decide) (by decide) (vs := [(.int (0 : Int32)), (.int (0 : Int32))]) (ty := .int) rfl rfl (ad := "[I") (by decide) (n := 17) rfl ?_
    intro T hp15 ad15 ea15 na15 X E15 V15 A15
    have ne_a_ad15 : a ≠ ad15 := neOf V.lt (Nat.le_of_eq ea15.symm)
    have F_1 := V.ext E15
    have F_2 := E.ext E15
    refine gAstoreN X w d6_17 rfl #[.val (.ref a), .val (.int (2 : Int32)), .val (.ref ad15)] rfl (n := 18) rfl ?_
    refine gAloadN X w d6_18 rfl rfl (n := 19) rfl ?_
    refine gIconst X w d6_19 (z := (0 : Int32)) rfl (n := 20) rfl ?_
    refine gAloadN X w d6_20 rfl rfl (n := 21) rfl ?_
    refine gIconst X w d6_21 (z := (0 : Int32)) rfl (n := 22) rfl ?_
    refine gAloadN X w d6_22 rfl rfl (n := 23) rfl ?_
    refine gAlen X w F_1 (z := (4 : Int32)) rfl d6_23 (n := 24) rfl ?_
    refine gIloadN X w d6_24 rfl (n := 25) rfl ?_
    refine gCallSv X w [(.int (4 : Int32)), (.int (2 : Int32))] [(.int (0 : Int32)), (.ref ad15), (.int (0 : Int32)), (.ref a)] (own_min_4_2 l Z a0 hw hp15 n0 (Sd.le X)) (own_wd hw 52 rfl) (own_wd hw 53 rfl) (own_wd hw 54 rfl) (own_wd hw 55 rfl) (by decide) own_pd3 rfl rfl d6_25 rfl (W := 4) (Nat.le_of_eq rfl) (by decide) (by decide) (by decide) (by decide) (n := 28) rfl ?_
    rintro T _ _ ⟨rfl, rfl⟩ X
    refine gAcopy X w (.int 0) F_1 V15 rfl (own_fitI (by intro v hv; simp only [List.mem_cons, List.not_mem_nil, or_false] at hv; rcases hv with rfl | rfl | rfl | rfl <;> exact ⟨_, rfl⟩)) (own_fitI (by intro v hv; simp only [List.mem_cons, List.not_mem_nil, or_false] at hv; rcases hv with rfl | rfl <;> exact ⟨_, rfl⟩)) (by show (4 : Nat) < 2 ^ 31; decide) (by show (2 : Nat) < 2 ^ 31; decide) (own_wd hw 56 rfl) (own_wd hw 59 rfl) (own_wd hw 57 rfl) (own_wd hw 58 rfl) (by decide) (by decide) (by decide) (by show (2 : Int) ≤ ((4 : Nat) : Int); decide) (by show (2 : Int) ≤ ((2 : Nat) : Int); decide) (vs' := [.int z0, .int z1]) rfl na15 d6_28 rfl (by decide) (W := 0) (Nat.le_of_eq rfl) (by decide) (n := 31) rfl ?_
    intro T hp28 X K28 V28
    refine gAloadN X w d6_31 rfl rfl (n := 32) rfl ?_
    exact gRetA X w rfl rfl rfl d6_32 (by decide) (by decide) (⟨_, rfl, ((Keep.refl _ []).ext E15).trans K28 (allS (Or.inr (Nat.le_of_eq ea15.symm)) all0), ad15, rfl, Nat.le_of_eq ea15.symm, V28⟩)
  · rintro ⟨c3, c3'⟩
    exact absurd c3 (by decide)
set_option maxRecDepth 65536 in
set_option maxHeartbeats 40000000 in
theorem own_min_4_3 (l : Launch) (Z : State) (a0 : Array Value) (hw : ∀ d ∈ tables_1, d.before a0 Z = true)  (h0 : Heap) (n0 : Nat) (hn : n0 ≤ h0.size)  :
    ConV l Z (⟨"java/lang/Math", "min", "(II)I"⟩ : MethodName) jdk_29_method_69_code 2 (some .int) ({ frames := 0, cells := 0, slots := 0, locals := 0 } : Room) #[(.int (4 : Int32)), (.int (3 : Int32))] h0 n0 (fun v h => h0 = h ∧ v = .int (3 : Int32)) := by
  refine Con.of (Jvm.Free.JP.mathPlain rfl (by decide +kernel)) hn ?_
  intro p e s m below meth c T w X
  refine Gl.enter (ls := #[.val (.int (4 : Int32)), .val (.int (3 : Int32))]) (by first | (simp [entryFrame, mkF, argsToLocals, Value.category]; done) | rfl) ?_
  refine gIloadN X w d11_0 rfl (n := 1) rfl ?_
  refine gIloadN X w d11_1 rfl (n := 2) rfl ?_
  refine gIcmp_gt X w d11_2 (n := 9) (n' := 5) (by decide) rfl rfl ?_ ?_
  · intro c2
    refine gIloadN X w d11_9 rfl (n := 10) rfl ?_
    exact gRetI X w rfl d11_10 (by decide) (by decide) (⟨_, rfl, rfl, rfl⟩)
  · intro c2
    exact absurd c2 (by decide)
set_option maxRecDepth 65536 in
set_option maxHeartbeats 40000000 in
theorem own_cpy_4_3 (l : Launch) (Z : State) (a0 : Array Value) (hw : ∀ d ∈ tables_1, d.before a0 Z = true) (a : Addr) (z0 z1 z2 z3 : Int32) (h0 : Heap) (n0 : Nat) (hn : n0 ≤ h0.size) (V : Av Z h0 a .int [.int z0, .int z1, .int z2, .int z3]) (E : Exa Z h0 a "[I") :
    ConV l Z (⟨"java/util/Arrays", "copyOf", "([II)[I"⟩ : MethodName) jdk_65_method_123_code 3 (some (.array .int)) ({ frames := 1, cells := 1, slots := 3, locals := 40 } : Room) #[(.ref a), (.int (3 : Int32))] h0 n0 (fun v h => Keep h0 h [] ∧ ∃ d : Addr, v = .ref d ∧ h0.size ≤ d ∧ Av Z h d .int [.int z0, .int z1, .int z2]) := by
  refine Con.of (plainFor_of_name (by first | (simp [plainName, overriddenIn]; done) | decide +kernel)) hn ?_
  intro p e s m below meth c T w X
  refine Gl.enter (ls := #[.val (.ref a), .val (.int (3 : Int32)), .unset]) (by first | (simp [entryFrame, mkF, argsToLocals, Value.category]; done) | rfl) ?_
  refine gIloadN X w d6_0 rfl (n := 1) rfl ?_
  refine gAloadN X w d6_1 rfl rfl (n := 2) rfl ?_
  refine gAlen X w V (z := (4 : Int32)) rfl d6_2 (n := 3) rfl ?_
  refine gIcmp_ne X w d6_3 (n := 14) (n' := 6) (by decide) rfl rfl ?_ ?_
  · rintro ⟨c3, c3'⟩
    refine gIloadN X w d6_14 rfl (n := 15) rfl ?_
    refine gNewP X w (own_wd hw 0 rfl) d6_15 (by decide) (cap := 3) (by decide) (by decide) (by decide) (by decide) (vs := [(.int (0 : Int32)), (.int (0 : Int32)), (.int (0 : Int32))]) (ty := .int) rfl rfl (ad := "[I") (by decide) (n := 17) rfl ?_
    intro T hp15 ad15 ea15 na15 X E15 V15 A15
    have ne_a_ad15 : a ≠ ad15 := neOf V.lt (Nat.le_of_eq ea15.symm)
    have F_1 := V.ext E15
    have F_2 := E.ext E15
    refine gAstoreN X w d6_17 rfl #[.val (.ref a), .val (.int (3 : Int32)), .val (.ref ad15)] rfl (n := 18) rfl ?_
    refine gAloadN X w d6_18 rfl rfl (n := 19) rfl ?_
    refine gIconst X w d6_19 (z := (0 : Int32)) rfl (n := 20) rfl ?_
    refine gAloadN X w d6_20 rfl rfl (n := 21) rfl ?_
    refine gIconst X w d6_21 (z := (0 : Int32)) rfl (n := 22) rfl ?_
    refine gAloadN X w d6_22 rfl rfl (n := 23) rfl ?_
    refine gAlen X w F_1 (z := (4 : Int32)) rfl d6_23 (n := 24) rfl ?_
    refine gIloadN X w d6_24 rfl (n := 25) rfl ?_
    refine gCallSv X w [(.int (4 : Int32)), (.int (3 : Int32))] [(.int (0 : Int32)), (.ref ad15), (.int (0 : Int32)), (.ref a)] (own_min_4_3 l Z a0 hw hp15 n0 (Sd.le X)) (own_wd hw 52 rfl) (own_wd hw 53 rfl) (own_wd hw 54 rfl) (own_wd hw 55 rfl) (by decide) own_pd3 rfl rfl d6_25 rfl (W := 4) (Nat.le_of_eq rfl) (by decide) (by decide) (by decide) (by decide) (n := 28) rfl ?_
    rintro T _ _ ⟨rfl, rfl⟩ X
    refine gAcopy X w (.int 0) F_1 V15 rfl (own_fitI (by intro v hv; simp only [List.mem_cons, List.not_mem_nil, or_false] at hv; rcases hv with rfl | rfl | rfl | rfl <;> exact ⟨_, rfl⟩)) (own_fitI (by intro v hv; simp only [List.mem_cons, List.not_mem_nil, or_false] at hv; rcases hv with rfl | rfl | rfl <;> exact ⟨_, rfl⟩)) (by show (4 : Nat) < 2 ^ 31; decide) (by show (3 : Nat) < 2 ^ 31; decide) (own_wd hw 56 rfl) (own_wd hw 59 rfl) (own_wd hw 57 rfl) (own_wd hw 58 rfl) (by decide) (by decide) (by decide) (by show (3 : Int) ≤ ((4 : Nat) : Int); decide) (by show (3 : Int) ≤ ((3 : Nat) : Int); decide) (vs' := [.int z0, .int z1, .int z2]) rfl na15 d6_28 rfl (by decide) (W := 0) (Nat.le_of_eq rfl) (by decide) (n := 31) rfl ?_
    intro T hp28 X K28 V28
    refine gAloadN X w d6_31 rfl rfl (n := 32) rfl ?_
    exact gRetA X w rfl rfl rfl d6_32 (by decide) (by decide) (⟨_, rfl, ((Keep.refl _ []).ext E15).trans K28 (allS (Or.inr (Nat.le_of_eq ea15.symm)) all0), ad15, rfl, Nat.le_of_eq ea15.symm, V28⟩)
  · rintro ⟨c3, c3'⟩
    exact absurd c3 (by decide)
set_option maxRecDepth 65536 in
set_option maxHeartbeats 40000000 in
theorem own_cpy_4_4 (l : Launch) (Z : State) (a0 : Array Value) (hw : ∀ d ∈ tables_1, d.before a0 Z = true) (a : Addr) (z0 z1 z2 z3 : Int32) (h0 : Heap) (n0 : Nat) (hn : n0 ≤ h0.size) (V : Av Z h0 a .int [.int z0, .int z1, .int z2, .int z3]) (E : Exa Z h0 a "[I") :
    ConV l Z (⟨"java/util/Arrays", "copyOf", "([II)[I"⟩ : MethodName) jdk_65_method_123_code 3 (some (.array .int)) ({ frames := 1, cells := 1, slots := 4, locals := 40 } : Room) #[(.ref a), (.int (4 : Int32))] h0 n0 (fun v h => Keep h0 h [] ∧ ∃ d : Addr, v = .ref d ∧ h0.size ≤ d ∧ Av Z h d .int [.int z0, .int z1, .int z2, .int z3]) := by
  refine Con.of (plainFor_of_name (by first | (simp [plainName, overriddenIn]; done) | decide +kernel)) hn ?_
  intro p e s m below meth c T w X
  refine Gl.enter (ls := #[.val (.ref a), .val (.int (4 : Int32)), .unset]) (by first | (simp [entryFrame, mkF, argsToLocals, Value.category]; done) | rfl) ?_
  refine gIloadN X w d6_0 rfl (n := 1) rfl ?_
  refine gAloadN X w d6_1 rfl rfl (n := 2) rfl ?_
  refine gAlen X w V (z := (4 : Int32)) rfl d6_2 (n := 3) rfl ?_
  refine gIcmp_ne X w d6_3 (n := 14) (n' := 6) (by decide) rfl rfl ?_ ?_
  · rintro ⟨c3, c3'⟩
    exact absurd c3 (by decide)
  · rintro ⟨c3, c3'⟩
    refine gAloadN X w d6_6 rfl rfl (n := 7) rfl ?_
    refine gClone X w V E (own_fitI (by intro v hv; simp only [List.mem_cons, List.not_mem_nil, or_false] at hv; rcases hv with rfl | rfl | rfl | rfl <;> exact ⟨_, rfl⟩)) (own_wd hw 33 rfl) (own_wd hw 6 rfl) (own_wd hw 10 rfl) (own_wd hw 8 rfl) (own_wd hw 9 rfl) (own_wd hw 11 rfl) d6_7 rfl (by decide) (W := 0) (Nat.le_of_eq rfl) (by decide) (cap := 4) (by show (4 : Nat) ≤ 4; decide) (by decide) (by decide) (n := 10) rfl ?_
    intro T hp7 ad7 ea7 na7 X E7 V7 A7
    have ne_a_ad7 : a ≠ ad7 := neOf V.lt (Nat.le_of_eq ea7.symm)
    have F_1 := V.ext E7
    have F_2 := E.ext E7
    refine gCast X w (own_wd hw 34 rfl) (Ins.self A7) d6_10 (n := 13) rfl ?_
    intro T X
    exact gRetA X w rfl rfl rfl d6_13 (by decide) (by decide) (⟨_, rfl, (Keep.refl _ []).ext E7, ad7, rfl, Nat.le_of_eq ea7.symm, V7⟩)
set_option maxRecDepth 65536 in
set_option maxHeartbeats 40000000 in
theorem own_init (l : Launch) (Z : State) (a0 : Array Value) (hw : ∀ d ∈ tables_1, d.before a0 Z = true) (a b1 : Addr) (h0 : Heap) (n0 : Nat) (hn : n0 ≤ h0.size) (na : n0 ≤ a) (A0 : Exa Z h0 a "com/example/reja/reja/IdSet") (F0 : Fld Z h0 a "com/example/reja/reja/IdSet" "ids" "[I" .null) :
    ConN l Z (⟨"com/example/reja/reja/IdSet", "<init>", "([I)V"⟩ : MethodName) prog_3_method_1_code 2 ({ frames := 1, cells := 0, slots := 0, locals := 12 } : Room) #[(.ref a), (.ref b1)] h0 n0 (fun h => Keep h0 h [a] ∧ Exa Z h a "com/example/reja/reja/IdSet" ∧ Fld Z h a "com/example/reja/reja/IdSet" "ids" "[I" (.ref b1)) := by
  refine Con.of (plainFor_of_name (by first | (simp [plainName, overriddenIn]; done) | decide +kernel)) hn ?_
  intro p e s m below meth c T w X
  refine Gl.enter (ls := #[.val (.ref a), .val (.ref b1)]) (by first | (simp [entryFrame, mkF, argsToLocals, Value.category]; done) | rfl) ?_
  refine gAloadN X w d7_0 rfl rfl (n := 1) rfl ?_
  refine gInitO X w (own_wd hw 38 rfl) (own_wd hw 39 rfl) (own_wd hw 40 rfl) d7_1 rfl (by decide) (W := 0) (Nat.le_of_eq rfl) (by decide) (n := 4) rfl ?_
  intro T X
  refine gAloadN X w d7_4 rfl rfl (n := 5) rfl ?_
  refine gAloadN X w d7_5 rfl rfl (n := 6) rfl ?_
  refine gPutF X w (own_wd hw 41 rfl) Via.refl F0 A0 (Or.inr ⟨own_wd hw 42 rfl, rfl, rfl⟩) (own_wd hw 29 rfl) na (ty := (.array .int)) (by decide) rfl rfl d7_6 (n := 9) rfl ?_
  intro T hp6 X W6
  have F_1 := A0.wr W6
  have F_2 := F0.same W6
  exact gRetV X w rfl d7_9 (by decide) (by decide) (⟨rfl, (Keep.refl _ _).wr W6 (Or.inl (List.mem_singleton.mpr rfl)), F_1, F_2⟩)
set_option maxRecDepth 65536 in
set_option maxHeartbeats 40000000 in
theorem own_of_0 (l : Launch) (Z : State) (a0 : Array Value) (hw : ∀ d ∈ tables_1, d.before a0 Z = true) (a : Addr) (h0 : Heap) (n0 : Nat) (hn : n0 ≤ h0.size) (V : Av Z h0 a .int []) (E : Exa Z h0 a "[I") :
    ConV l Z (⟨"com/example/reja/reja/IdSet", "of", "([I)Lcom/example/reja/reja/IdSet;"⟩ : MethodName) prog_3_method_2_code 7 (some (.object "com/example/reja/reja/IdSet")) ({ frames := 4, cells := 3, slots := 1, locals := 79 } : Room) #[(.ref a)] h0 n0 (fun v h => Keep h0 h [] ∧ ∃ (b d : Addr) (us : List Int32), v = .ref b ∧ h0.size ≤ b ∧ h0.size ≤ d ∧ d ≠ b ∧ Exa Z h b "com/example/reja/reja/IdSet" ∧ Fld Z h b "com/example/reja/reja/IdSet" "ids" "[I" (.ref d) ∧ Av Z h d .int (us.map Value.int) ∧ us.length ≤ 4 ∧ own_asc us ∧ ∀ y, y ∈ us ↔ (False)) := by
  refine Con.of (plainFor_of_name (by first | (simp [plainName, overriddenIn]; done) | decide +kernel)) hn ?_
  intro p e s m below meth c T w X
  refine Gl.enter (ls := #[.val (.ref a), .unset, .unset, .unset, .unset, .unset, .unset]) (by first | (simp [entryFrame, mkF, argsToLocals, Value.category]; done) | rfl) ?_
  refine gAloadN X w d1_0 rfl rfl (n := 1) rfl ?_
  refine gClone X w V E (own_fitI (by intro v hv; cases hv)) (own_wd hw 5 rfl) (own_wd hw 6 rfl) (own_wd hw 10 rfl) (own_wd hw 8 rfl) (own_wd hw 9 rfl) (own_wd hw 11 rfl) d1_1 rfl (by decide) (W := 0) (Nat.le_of_eq rfl) (by decide) (cap := 0) (by show (0 : Nat) ≤ 0; decide) (by decide) (by decide) (n := 4) rfl ?_
  intro T hp1 ad1 ea1 na1 X E1 V1 A1
  have ne_a_ad1 : a ≠ ad1 := neOf V.lt (Nat.le_of_eq ea1.symm)
  have F_1 := V.ext E1
  have F_2 := E.ext E1
  refine gCast X w (own_wd hw 12 rfl) (Ins.self A1) d1_4 (n := 7) rfl ?_
  intro T X
  refine gAstoreN X w d1_7 rfl #[.val (.ref a), .val (.ref ad1), .unset, .unset, .unset, .unset, .unset] rfl (n := 8) rfl ?_
  refine gAloadN X w d1_8 rfl rfl (n := 9) rfl ?_
  refine gCallSn X w [(.ref ad1)] [] (own_srt_0 l Z a0 hw ad1  hp1 n0 (Sd.le X) na1 V1) (own_wd hw 14 rfl) (own_wd hw 15 rfl) (own_wd hw 16 rfl) (own_wd hw 17 rfl) (by decide) own_pd4 rfl rfl d1_9 rfl (W := 0) (Nat.le_of_eq rfl) (by decide) (by decide) (by decide) (by decide) (n := 12) rfl ?_
  rintro T h9 ⟨K9, V9, m9⟩ X
  have F_3 := F_1.keep K9 (ninS ne_a_ad1 nin0)
  have F_4 := F_2.keep K9
  have F_5 := A1.keep K9
  refine gIconst X w d1_12 (z := (0 : Int32)) rfl (n := 13) rfl ?_
  refine gIstoreN X w d1_13 #[.val (.ref a), .val (.ref ad1), .val (.int (0 : Int32)), .unset, .unset, .unset, .unset] rfl (n := 14) rfl ?_
  refine gAloadN X w d1_14 rfl rfl (n := 15) rfl ?_
  refine gAstoreN X w d1_15 rfl #[.val (.ref a), .val (.ref ad1), .val (.int (0 : Int32)), .val (.ref ad1), .unset, .unset, .unset] rfl (n := 16) rfl ?_
  refine gAloadN X w d1_16 rfl rfl (n := 17) rfl ?_
  refine gAlen X w V9 (z := (0 : Int32)) rfl d1_17 (n := 18) rfl ?_
  refine gIstore X w d1_18 #[.val (.ref a), .val (.ref ad1), .val (.int (0 : Int32)), .val (.ref ad1), .val (.int (0 : Int32)), .unset, .unset] rfl (n := 20) rfl ?_
  refine gIconst X w d1_20 (z := (0 : Int32)) rfl (n := 21) rfl ?_
  refine gIstore X w d1_21 #[.val (.ref a), .val (.ref ad1), .val (.int (0 : Int32)), .val (.ref ad1), .val (.int (0 : Int32)), .val (.int (0 : Int32)), .unset] rfl (n := 23) rfl ?_
  refine gIload X w d1_23 rfl (n := 25) rfl ?_
  refine gIload X w d1_25 rfl (n := 27) rfl ?_
  refine gIcmp_ge X w d1_27 (n := 64) (n' := 30) (by decide) rfl rfl ?_ ?_
  · intro c27
    refine gNew X w (own_wd hw 28 rfl) (own_wd hw 29 rfl) (own_wd hw 3 rfl) d1_64 (by decide) (by decide) (n := 67) rfl ?_
    intro T hp64 ad64 ea64 na64 X E64 A64 D64
    have ne_a_ad64 : a ≠ ad64 := neOf F_3.lt (Nat.le_of_eq ea64.symm)
    have ne_ad1_ad64 : ad1 ≠ ad64 := neOf F_5.lt (Nat.le_of_eq ea64.symm)
    have F_6 := F_3.ext E64
    have F_7 := F_4.ext E64
    have F_8 := F_5.ext E64
    have F_9 := V9.ext E64
    have F_10 : Fld Z hp64 ad64 "com/example/reja/reja/IdSet" "ids" "[I" .null := D64 (Or.inr (own_wd hw 42 rfl)) (ty := (.array .int)) (by decide)
    refine gDup X w d1_67 rfl (n := 68) rfl ?_
    refine gAloadN X w d1_68 rfl rfl (n := 69) rfl ?_
    refine gIloadN X w d1_69 rfl (n := 70) rfl ?_
    refine gCallSv X w [(.ref ad1), (.int (0 : Int32))] [(.ref ad64), (.ref ad64)] (own_cpy_0_0 l Z a0 hw ad1  hp64 n0 (Sd.le X) F_9 F_8) (own_wd hw 30 rfl) (own_wd hw 31 rfl) (own_wd hw 16 rfl) (own_wd hw 32 rfl) (by decide) own_pd5 rfl rfl d1_70 rfl (W := 2) (Nat.le_of_eq rfl) (by decide) (by decide) (by decide) (by decide) (n := 73) rfl ?_
    rintro T h70 _ ⟨K70, d70, rfl, gd70, V70⟩ X
    have ne_a_d70 : a ≠ d70 := neOf F_6.lt gd70
    have ne_ad1_d70 : ad1 ≠ d70 := neOf F_8.lt gd70
    have ne_ad64_d70 : ad64 ≠ d70 := neOf A64.lt gd70
    have F_11 := F_6.keep K70 nin0
    have F_12 := F_7.keep K70
    have F_13 := F_8.keep K70
    have F_14 := F_9.keep K70 nin0
    have F_15 := A64.keep K70
    have F_16 := F_10.keep K70 nin0
    refine gCallIn X w [(.ref d70)] [(.ref ad64)] rfl (own_init l Z a0 hw ad64 d70 h70 n0 (Sd.le X) na64 F_15 F_16) (own_wd hw 35 rfl) (own_wd hw 36 rfl) (own_wd hw 3 rfl) (own_wd hw 37 rfl) (by decide) own_pd4 rfl rfl d1_73 rfl (W := 1) (Nat.le_of_eq rfl) (by decide) (by decide) (by decide) (by decide) (n := 76) rfl ?_
    rintro T h73 ⟨K73, A73, F73⟩ X
    have F_17 := F_11.keep K73 (ninS ne_a_ad64 nin0)
    have F_18 := F_12.keep K73
    have F_19 := F_13.keep K73
    have F_20 := F_14.keep K73 (ninS ne_ad1_ad64 nin0)
    have F_21 := F_15.keep K73
    have F_22 := V70.keep K73 (ninS (Ne.symm ne_ad64_d70) nin0)
    exact gRetA X w rfl rfl rfl d1_76 (by decide) (by decide) (⟨_, rfl, (((((Keep.refl _ []).ext E1).trans K9 (allS (Or.inr (Nat.le_of_eq ea1.symm)) all0)).ext E64).trans K70 all0).trans K73 (allS (Or.inr (Nat.le_trans (((Keep.refl _ []).ext E1).trans K9 (allS (Or.inr (Nat.le_of_eq ea1.symm)) all0)).1 (Nat.le_of_eq ea64.symm))) all0), ad64, d70, [], rfl, Nat.le_trans (((Keep.refl _ []).ext E1).trans K9 (allS (Or.inr (Nat.le_of_eq ea1.symm)) all0)).1 (Nat.le_of_eq ea64.symm), Nat.le_trans ((((Keep.refl _ []).ext E1).trans K9 (allS (Or.inr (Nat.le_of_eq ea1.symm)) all0)).ext E64).1 gd70, (Ne.symm ne_ad64_d70), A73, F73, F_22, (by show (0 : Nat) ≤ 4; decide), by simp [own_asc], fun y => by simp⟩)
  · intro c27
    exact absurd c27 (by decide)
set_option maxRecDepth 65536 in
set_option maxHeartbeats 40000000 in
theorem own_unt_0 (l : Launch) (Z : State) (a0 : Array Value) (hw : ∀ d ∈ tables_1, d.before a0 Z = true) (a : Addr) (z0 z1 z2 z3 : Int32) (h0 : Heap) (n0 : Nat) (hn : n0 ≤ h0.size) (V : Av Z h0 a .int []) :
    ConV l Z (⟨"com/example/reja/reja/IdSetOfPinLaw", "untouched", "([IIIIII)Z"⟩ : MethodName) method_2_code 6 (some .boolean) ({ frames := 0, cells := 0, slots := 0, locals := 0 } : Room) #[(.ref a), (.int (0 : Int32)), (.int z0), (.int z1), (.int z2), (.int z3)] h0 n0 (fun v h => h0 = h ∧ v = .int 1) := by
  refine Con.of (plainFor_of_name (by first | (simp [plainName, overriddenIn]; done) | decide +kernel)) hn ?_
  intro p e s m below meth c T w X
  refine Gl.enter (ls := #[.val (.ref a), .val (.int (0 : Int32)), .val (.int z0), .val (.int z1), .val (.int z2), .val (.int z3)]) (by first | (simp [entryFrame, mkF, argsToLocals, Value.category]; done) | rfl) ?_
  refine gAloadN X w d9_0 rfl rfl (n := 1) rfl ?_
  refine gAlen X w V (z := (0 : Int32)) rfl d9_1 (n := 2) rfl ?_
  refine gIloadN X w d9_2 rfl (n := 3) rfl ?_
  refine gIcmp_eq X w d9_3 (n := 8) (n' := 6) (by decide) rfl rfl ?_ ?_
  · rintro ⟨c3, c3'⟩
    refine gIloadN X w d9_8 rfl (n := 9) rfl ?_
    refine gIconst X w d9_9 (z := (1 : Int32)) rfl (n := 10) rfl ?_
    refine gIcmp_lt X w d9_10 (n := 22) (n' := 13) (by decide) rfl rfl ?_ ?_
    · intro c10
      refine gIloadN X w d9_22 rfl (n := 23) rfl ?_
      refine gIconst X w d9_23 (z := (2 : Int32)) rfl (n := 24) rfl ?_
      refine gIcmp_lt X w d9_24 (n := 36) (n' := 27) (by decide) rfl rfl ?_ ?_
      · intro c24
        refine gIloadN X w d9_36 rfl (n := 37) rfl ?_
        refine gIconst X w d9_37 (z := (3 : Int32)) rfl (n := 38) rfl ?_
        refine gIcmp_lt X w d9_38 (n := 51) (n' := 41) (by decide) rfl rfl ?_ ?_
        · intro c38
          refine gIloadN X w d9_51 rfl (n := 52) rfl ?_
          refine gIconst X w d9_52 (z := (4 : Int32)) rfl (n := 53) rfl ?_
          refine gIcmp_lt X w d9_53 (n := 66) (n' := 56) (by decide) rfl rfl ?_ ?_
          · intro c53
            refine gIconst X w d9_66 (z := (1 : Int32)) rfl (n := 67) rfl ?_
            exact gRetZ X w rfl (Or.inr rfl) d9_67 (by decide) (by decide) (⟨_, rfl, rfl, rfl⟩)
          · intro c53
            exact absurd c53 (by decide)
        · intro c38
          exact absurd c38 (by decide)
      · intro c24
        exact absurd c24 (by decide)
    · intro c10
      exact absurd c10 (by decide)
  · rintro ⟨c3, c3'⟩
    exact absurd c3 (by decide)
set_option maxRecDepth 65536 in
set_option maxHeartbeats 40000000 in
theorem own_of_1 (l : Launch) (Z : State) (a0 : Array Value) (hw : ∀ d ∈ tables_1, d.before a0 Z = true) (a : Addr) (z0 : Int32) (h0 : Heap) (n0 : Nat) (hn : n0 ≤ h0.size) (V : Av Z h0 a .int [.int z0]) (E : Exa Z h0 a "[I") :
    ConV l Z (⟨"com/example/reja/reja/IdSet", "of", "([I)Lcom/example/reja/reja/IdSet;"⟩ : MethodName) prog_3_method_2_code 7 (some (.object "com/example/reja/reja/IdSet")) ({ frames := 4, cells := 3, slots := 3, locals := 79 } : Room) #[(.ref a)] h0 n0 (fun v h => Keep h0 h [] ∧ ∃ (b d : Addr) (us : List Int32), v = .ref b ∧ h0.size ≤ b ∧ h0.size ≤ d ∧ d ≠ b ∧ Exa Z h b "com/example/reja/reja/IdSet" ∧ Fld Z h b "com/example/reja/reja/IdSet" "ids" "[I" (.ref d) ∧ Av Z h d .int (us.map Value.int) ∧ us.length ≤ 4 ∧ own_asc us ∧ ∀ y, y ∈ us ↔ (y = z0)) := by
  refine Con.of (plainFor_of_name (by first | (simp [plainName, overriddenIn]; done) | decide +kernel)) hn ?_
  intro p e s m below meth c T w X
  refine Gl.enter (ls := #[.val (.ref a), .unset, .unset, .unset, .unset, .unset, .unset]) (by first | (simp [entryFrame, mkF, argsToLocals, Value.category]; done) | rfl) ?_
  refine gAloadN X w d1_0 rfl rfl (n := 1) rfl ?_
  refine gClone X w V E (own_fitI (by intro v hv; simp only [List.mem_cons, List.not_mem_nil, or_false] at hv; rcases hv with rfl <;> exact ⟨_, rfl⟩)) (own_wd hw 5 rfl) (own_wd hw 6 rfl) (own_wd hw 10 rfl) (own_wd hw 8 rfl) (own_wd hw 9 rfl) (own_wd hw 11 rfl) d1_1 rfl (by decide) (W := 0) (Nat.le_of_eq rfl) (by decide) (cap := 1) (by show (1 : Nat) ≤ 1; decide) (by decide) (by decide) (n := 4) rfl ?_
  intro T hp1 ad1 ea1 na1 X E1 V1 A1
  have ne_a_ad1 : a ≠ ad1 := neOf V.lt (Nat.le_of_eq ea1.symm)
  have F_1 := V.ext E1
  have F_2 := E.ext E1
  refine gCast X w (own_wd hw 12 rfl) (Ins.self A1) d1_4 (n := 7) rfl ?_
  intro T X
  refine gAstoreN X w d1_7 rfl #[.val (.ref a), .val (.ref ad1), .unset, .unset, .unset, .unset, .unset] rfl (n := 8) rfl ?_
  refine gAloadN X w d1_8 rfl rfl (n := 9) rfl ?_
  refine gCallSn X w [(.ref ad1)] [] (own_srt_1 l Z a0 hw ad1 z0 hp1 n0 (Sd.le X) na1 V1) (own_wd hw 14 rfl) (own_wd hw 15 rfl) (own_wd hw 16 rfl) (own_wd hw 17 rfl) (by decide) own_pd4 rfl rfl d1_9 rfl (W := 0) (Nat.le_of_eq rfl) (by decide) (by decide) (by decide) (by decide) (n := 12) rfl ?_
  rintro T h9 ⟨K9, w0, V9, m9⟩ X
  have F_3 := F_1.keep K9 (ninS ne_a_ad1 nin0)
  have F_4 := F_2.keep K9
  have F_5 := A1.keep K9
  refine gIconst X w d1_12 (z := (0 : Int32)) rfl (n := 13) rfl ?_
  refine gIstoreN X w d1_13 #[.val (.ref a), .val (.ref ad1), .val (.int (0 : Int32)), .unset, .unset, .unset, .unset] rfl (n := 14) rfl ?_
  refine gAloadN X w d1_14 rfl rfl (n := 15) rfl ?_
  refine gAstoreN X w d1_15 rfl #[.val (.ref a), .val (.ref ad1), .val (.int (0 : Int32)), .val (.ref ad1), .unset, .unset, .unset] rfl (n := 16) rfl ?_
  refine gAloadN X w d1_16 rfl rfl (n := 17) rfl ?_
  refine gAlen X w V9 (z := (1 : Int32)) rfl d1_17 (n := 18) rfl ?_
  refine gIstore X w d1_18 #[.val (.ref a), .val (.ref ad1), .val (.int (0 : Int32)), .val (.ref ad1), .val (.int (1 : Int32)), .unset, .unset] rfl (n := 20) rfl ?_
  refine gIconst X w d1_20 (z := (0 : Int32)) rfl (n := 21) rfl ?_
  refine gIstore X w d1_21 #[.val (.ref a), .val (.ref ad1), .val (.int (0 : Int32)), .val (.ref ad1), .val (.int (1 : Int32)), .val (.int (0 : Int32)), .unset] rfl (n := 23) rfl ?_
  refine gIload X w d1_23 rfl (n := 25) rfl ?_
  refine gIload X w d1_25 rfl (n := 27) rfl ?_
  refine gIcmp_ge X w d1_27 (n := 64) (n' := 30) (by decide) rfl rfl ?_ ?_
  · intro c27
    exact absurd c27 (by decide)
  · intro c27
    refine gAloadN X w d1_30 rfl rfl (n := 31) rfl ?_
    refine gIload X w d1_31 rfl (n := 33) rfl ?_
    refine gIaload X w V9 (by decide) rfl d1_33 (n := 34) rfl ?_
    refine gIstore X w d1_34 #[.val (.ref a), .val (.ref ad1), .val (.int (0 : Int32)), .val (.ref ad1), .val (.int (1 : Int32)), .val (.int (0 : Int32)), .val (.int w0)] rfl (n := 36) rfl ?_
    refine gIloadN X w d1_36 rfl (n := 37) rfl ?_
    refine gIf_eq X w d1_37 (n := 50) (n' := 40) (by decide) rfl rfl ?_ ?_
    · rintro ⟨c37, c37'⟩
      refine gAloadN X w d1_50 rfl rfl (n := 51) rfl ?_
      refine gIloadN X w d1_51 rfl (n := 52) rfl ?_
      refine gIinc X w d1_52 rfl (z := (1 : Int32)) (by decide) #[.val (.ref a), .val (.ref ad1), .val (.int (1 : Int32)), .val (.ref ad1), .val (.int (1 : Int32)), .val (.int (0 : Int32)), .val (.int w0)] rfl (n := 55) rfl ?_
      refine gIload X w d1_55 rfl (n := 57) rfl ?_
      refine gIastore X w (z := (.int w0)) V9 (by decide) (show (0 : Int) < ((1 : Nat) : Int) from by decide) na1 rfl (vs' := [(.int w0)]) rfl d1_57 (n := 58) rfl ?_
      intro T hp57 X W57 V57
      have F_6 := F_3.other W57 ne_a_ad1
      have F_7 := F_4.wr W57
      have F_8 := F_5.wr W57
      have Kc1 := (((Keep.refl _ []).ext E1).trans K9 (allS (Or.inr (Nat.le_of_eq ea1.symm)) all0)).wr W57 (Or.inr (Nat.le_of_eq ea1.symm))
      refine gIinc X w d1_58 rfl (z := (1 : Int32)) (by decide) #[.val (.ref a), .val (.ref ad1), .val (.int (1 : Int32)), .val (.ref ad1), .val (.int (1 : Int32)), .val (.int (1 : Int32)), .val (.int w0)] rfl (n := 61) rfl ?_
      refine gGoto X w d1_61 (by decide) (n := 23) rfl ?_
      refine gIload X w d1_23 rfl (n := 25) rfl ?_
      refine gIload X w d1_25 rfl (n := 27) rfl ?_
      refine gIcmp_ge X w d1_27 (n := 64) (n' := 30) (by decide) rfl rfl ?_ ?_
      · intro c27
        refine gNew X w (own_wd hw 28 rfl) (own_wd hw 29 rfl) (own_wd hw 3 rfl) d1_64 (by decide) (by decide) (n := 67) rfl ?_
        intro T hp64 ad64 ea64 na64 X E64 A64 D64
        have ne_a_ad64 : a ≠ ad64 := neOf F_6.lt (Nat.le_of_eq ea64.symm)
        have ne_ad1_ad64 : ad1 ≠ ad64 := neOf F_8.lt (Nat.le_of_eq ea64.symm)
        have F_9 := F_6.ext E64
        have F_10 := F_7.ext E64
        have F_11 := F_8.ext E64
        have F_12 := V57.ext E64
        have F_13 : Fld Z hp64 ad64 "com/example/reja/reja/IdSet" "ids" "[I" .null := D64 (Or.inr (own_wd hw 42 rfl)) (ty := (.array .int)) (by decide)
        refine gDup X w d1_67 rfl (n := 68) rfl ?_
        refine gAloadN X w d1_68 rfl rfl (n := 69) rfl ?_
        refine gIloadN X w d1_69 rfl (n := 70) rfl ?_
        refine gCallSv X w [(.ref ad1), (.int (1 : Int32))] [(.ref ad64), (.ref ad64)] (own_cpy_1_1 l Z a0 hw ad1 w0 hp64 n0 (Sd.le X) F_12 F_11) (own_wd hw 30 rfl) (own_wd hw 31 rfl) (own_wd hw 16 rfl) (own_wd hw 32 rfl) (by decide) own_pd5 rfl rfl d1_70 rfl (W := 2) (Nat.le_of_eq rfl) (by decide) (by decide) (by decide) (by decide) (n := 73) rfl ?_
        rintro T h70 _ ⟨K70, d70, rfl, gd70, V70⟩ X
        have ne_a_d70 : a ≠ d70 := neOf F_9.lt gd70
        have ne_ad1_d70 : ad1 ≠ d70 := neOf F_11.lt gd70
        have ne_ad64_d70 : ad64 ≠ d70 := neOf A64.lt gd70
        have F_14 := F_9.keep K70 nin0
        have F_15 := F_10.keep K70
        have F_16 := F_11.keep K70
        have F_17 := F_12.keep K70 nin0
        have F_18 := A64.keep K70
        have F_19 := F_13.keep K70 nin0
        refine gCallIn X w [(.ref d70)] [(.ref ad64)] rfl (own_init l Z a0 hw ad64 d70 h70 n0 (Sd.le X) na64 F_18 F_19) (own_wd hw 35 rfl) (own_wd hw 36 rfl) (own_wd hw 3 rfl) (own_wd hw 37 rfl) (by decide) own_pd4 rfl rfl d1_73 rfl (W := 1) (Nat.le_of_eq rfl) (by decide) (by decide) (by decide) (by decide) (n := 76) rfl ?_
        rintro T h73 ⟨K73, A73, F73⟩ X
        have F_20 := F_14.keep K73 (ninS ne_a_ad64 nin0)
        have F_21 := F_15.keep K73
        have F_22 := F_16.keep K73
        have F_23 := F_17.keep K73 (ninS ne_ad1_ad64 nin0)
        have F_24 := F_18.keep K73
        have F_25 := V70.keep K73 (ninS (Ne.symm ne_ad64_d70) nin0)
        exact gRetA X w rfl rfl rfl d1_76 (by decide) (by decide) (⟨_, rfl, ((Kc1.ext E64).trans K70 all0).trans K73 (allS (Or.inr (Nat.le_trans Kc1.1 (Nat.le_of_eq ea64.symm))) all0), ad64, d70, [w0], rfl, Nat.le_trans Kc1.1 (Nat.le_of_eq ea64.symm), Nat.le_trans (Kc1.ext E64).1 gd70, (Ne.symm ne_ad64_d70), A73, F73, F_25, (by show (1 : Nat) ≤ 4; decide), by simp [own_asc], fun y => by rw [← m9 y]; simp only [List.mem_cons, List.not_mem_nil, or_false, ← Int32.toInt_inj] <;> omega⟩)
      · intro c27
        exact absurd c27 (by decide)
    · rintro ⟨c37, c37'⟩
      exact absurd c37 (by decide)
set_option maxRecDepth 65536 in
set_option maxHeartbeats 40000000 in
theorem own_unt_1 (l : Launch) (Z : State) (a0 : Array Value) (hw : ∀ d ∈ tables_1, d.before a0 Z = true) (a : Addr) (z0 z1 z2 z3 : Int32) (h0 : Heap) (n0 : Nat) (hn : n0 ≤ h0.size) (V : Av Z h0 a .int [.int z0]) :
    ConV l Z (⟨"com/example/reja/reja/IdSetOfPinLaw", "untouched", "([IIIIII)Z"⟩ : MethodName) method_2_code 6 (some .boolean) ({ frames := 0, cells := 0, slots := 0, locals := 0 } : Room) #[(.ref a), (.int (1 : Int32)), (.int z0), (.int z1), (.int z2), (.int z3)] h0 n0 (fun v h => h0 = h ∧ v = .int 1) := by
  refine Con.of (plainFor_of_name (by first | (simp [plainName, overriddenIn]; done) | decide +kernel)) hn ?_
  intro p e s m below meth c T w X
  refine Gl.enter (ls := #[.val (.ref a), .val (.int (1 : Int32)), .val (.int z0), .val (.int z1), .val (.int z2), .val (.int z3)]) (by first | (simp [entryFrame, mkF, argsToLocals, Value.category]; done) | rfl) ?_
  refine gAloadN X w d9_0 rfl rfl (n := 1) rfl ?_
  refine gAlen X w V (z := (1 : Int32)) rfl d9_1 (n := 2) rfl ?_
  refine gIloadN X w d9_2 rfl (n := 3) rfl ?_
  refine gIcmp_eq X w d9_3 (n := 8) (n' := 6) (by decide) rfl rfl ?_ ?_
  · rintro ⟨c3, c3'⟩
    refine gIloadN X w d9_8 rfl (n := 9) rfl ?_
    refine gIconst X w d9_9 (z := (1 : Int32)) rfl (n := 10) rfl ?_
    refine gIcmp_lt X w d9_10 (n := 22) (n' := 13) (by decide) rfl rfl ?_ ?_
    · intro c10
      exact absurd c10 (by decide)
    · intro c10
      refine gAloadN X w d9_13 rfl rfl (n := 14) rfl ?_
      refine gIconst X w d9_14 (z := (0 : Int32)) rfl (n := 15) rfl ?_
      refine gIaload X w V (by decide) rfl d9_15 (n := 16) rfl ?_
      refine gIloadN X w d9_16 rfl (n := 17) rfl ?_
      refine gIcmp_eq X w d9_17 (n := 22) (n' := 20) (by decide) rfl rfl ?_ ?_
      · rintro ⟨c17, c17'⟩
        refine gIloadN X w d9_22 rfl (n := 23) rfl ?_
        refine gIconst X w d9_23 (z := (2 : Int32)) rfl (n := 24) rfl ?_
        refine gIcmp_lt X w d9_24 (n := 36) (n' := 27) (by decide) rfl rfl ?_ ?_
        · intro c24
          refine gIloadN X w d9_36 rfl (n := 37) rfl ?_
          refine gIconst X w d9_37 (z := (3 : Int32)) rfl (n := 38) rfl ?_
          refine gIcmp_lt X w d9_38 (n := 51) (n' := 41) (by decide) rfl rfl ?_ ?_
          · intro c38
            refine gIloadN X w d9_51 rfl (n := 52) rfl ?_
            refine gIconst X w d9_52 (z := (4 : Int32)) rfl (n := 53) rfl ?_
            refine gIcmp_lt X w d9_53 (n := 66) (n' := 56) (by decide) rfl rfl ?_ ?_
            · intro c53
              refine gIconst X w d9_66 (z := (1 : Int32)) rfl (n := 67) rfl ?_
              exact gRetZ X w rfl (Or.inr rfl) d9_67 (by decide) (by decide) (⟨_, rfl, rfl, rfl⟩)
            · intro c53
              exact absurd c53 (by decide)
          · intro c38
            exact absurd c38 (by decide)
        · intro c24
          exact absurd c24 (by decide)
      · rintro ⟨c17, c17'⟩
        exact absurd rfl c17
  · rintro ⟨c3, c3'⟩
    exact absurd c3 (by decide)
set_option maxRecDepth 65536 in
set_option maxHeartbeats 40000000 in
theorem own_of_2 (l : Launch) (Z : State) (a0 : Array Value) (hw : ∀ d ∈ tables_1, d.before a0 Z = true) (a : Addr) (z0 z1 : Int32) (h0 : Heap) (n0 : Nat) (hn : n0 ≤ h0.size) (V : Av Z h0 a .int [.int z0, .int z1]) (E : Exa Z h0 a "[I") :
    ConV l Z (⟨"com/example/reja/reja/IdSet", "of", "([I)Lcom/example/reja/reja/IdSet;"⟩ : MethodName) prog_3_method_2_code 7 (some (.object "com/example/reja/reja/IdSet")) ({ frames := 4, cells := 3, slots := 5, locals := 79 } : Room) #[(.ref a)] h0 n0 (fun v h => Keep h0 h [] ∧ ∃ (b d : Addr) (us : List Int32), v = .ref b ∧ h0.size ≤ b ∧ h0.size ≤ d ∧ d ≠ b ∧ Exa Z h b "com/example/reja/reja/IdSet" ∧ Fld Z h b "com/example/reja/reja/IdSet" "ids" "[I" (.ref d) ∧ Av Z h d .int (us.map Value.int) ∧ us.length ≤ 4 ∧ own_asc us ∧ ∀ y, y ∈ us ↔ (y = z0 ∨ y = z1)) := by
  refine Con.of (plainFor_of_name (by first | (simp [plainName, overriddenIn]; done) | decide +kernel)) hn ?_
  intro p e s m below meth c T w X
  refine Gl.enter (ls := #[.val (.ref a), .unset, .unset, .unset, .unset, .unset, .unset]) (by first | (simp [entryFrame, mkF, argsToLocals, Value.category]; done) | rfl) ?_
  refine gAloadN X w d1_0 rfl rfl (n := 1) rfl ?_
  refine gClone X w V E (own_fitI (by intro v hv; simp only [List.mem_cons, List.not_mem_nil, or_false] at hv; rcases hv with rfl | rfl <;> exact ⟨_, rfl⟩)) (own_wd hw 5 rfl) (own_wd hw 6 rfl) (own_wd hw 10 rfl) (own_wd hw 8 rfl) (own_wd hw 9 rfl) (own_wd hw 11 rfl) d1_1 rfl (by decide) (W := 0) (Nat.le_of_eq rfl) (by decide) (cap := 2) (by show (2 : Nat) ≤ 2; decide) (by decide) (by decide) (n := 4) rfl ?_
  intro T hp1 ad1 ea1 na1 X E1 V1 A1
  have ne_a_ad1 : a ≠ ad1 := neOf V.lt (Nat.le_of_eq ea1.symm)
  have F_1 := V.ext E1
  have F_2 := E.ext E1
  refine gCast X w (own_wd hw 12 rfl) (Ins.self A1) d1_4 (n := 7) rfl ?_
  intro T X
  refine gAstoreN X w d1_7 rfl #[.val (.ref a), .val (.ref ad1), .unset, .unset, .unset, .unset, .unset] rfl (n := 8) rfl ?_
  refine gAloadN X w d1_8 rfl rfl (n := 9) rfl ?_
  refine gCallSn X w [(.ref ad1)] [] (own_srt_2 l Z a0 hw ad1 z0 z1 hp1 n0 (Sd.le X) na1 V1) (own_wd hw 14 rfl) (own_wd hw 15 rfl) (own_wd hw 16 rfl) (own_wd hw 17 rfl) (by decide) own_pd4 rfl rfl d1_9 rfl (W := 0) (Nat.le_of_eq rfl) (by decide) (by decide) (by decide) (by decide) (n := 12) rfl ?_
  rintro T h9 ⟨K9, w0, w1, V9, s0, m9⟩ X
  have F_3 := F_1.keep K9 (ninS ne_a_ad1 nin0)
  have F_4 := F_2.keep K9
  have F_5 := A1.keep K9
  refine gIconst X w d1_12 (z := (0 : Int32)) rfl (n := 13) rfl ?_
  refine gIstoreN X w d1_13 #[.val (.ref a), .val (.ref ad1), .val (.int (0 : Int32)), .unset, .unset, .unset, .unset] rfl (n := 14) rfl ?_
  refine gAloadN X w d1_14 rfl rfl (n := 15) rfl ?_
  refine gAstoreN X w d1_15 rfl #[.val (.ref a), .val (.ref ad1), .val (.int (0 : Int32)), .val (.ref ad1), .unset, .unset, .unset] rfl (n := 16) rfl ?_
  refine gAloadN X w d1_16 rfl rfl (n := 17) rfl ?_
  refine gAlen X w V9 (z := (2 : Int32)) rfl d1_17 (n := 18) rfl ?_
  refine gIstore X w d1_18 #[.val (.ref a), .val (.ref ad1), .val (.int (0 : Int32)), .val (.ref ad1), .val (.int (2 : Int32)), .unset, .unset] rfl (n := 20) rfl ?_
  refine gIconst X w d1_20 (z := (0 : Int32)) rfl (n := 21) rfl ?_
  refine gIstore X w d1_21 #[.val (.ref a), .val (.ref ad1), .val (.int (0 : Int32)), .val (.ref ad1), .val (.int (2 : Int32)), .val (.int (0 : Int32)), .unset] rfl (n := 23) rfl ?_
  refine gIload X w d1_23 rfl (n := 25) rfl ?_
  refine gIload X w d1_25 rfl (n := 27) rfl ?_
  refine gIcmp_ge X w d1_27 (n := 64) (n' := 30) (by decide) rfl rfl ?_ ?_
  · intro c27
    exact absurd c27 (by decide)
  · intro c27
    refine gAloadN X w d1_30 rfl rfl (n := 31) rfl ?_
    refine gIload X w d1_31 rfl (n := 33) rfl ?_
    refine gIaload X w V9 (by decide) rfl d1_33 (n := 34) rfl ?_
    refine gIstore X w d1_34 #[.val (.ref a), .val (.ref ad1), .val (.int (0 : Int32)), .val (.ref ad1), .val (.int (2 : Int32)), .val (.int (0 : Int32)), .val (.int w0)] rfl (n := 36) rfl ?_
    refine gIloadN X w d1_36 rfl (n := 37) rfl ?_
    refine gIf_eq X w d1_37 (n := 50) (n' := 40) (by decide) rfl rfl ?_ ?_
    · rintro ⟨c37, c37'⟩
      refine gAloadN X w d1_50 rfl rfl (n := 51) rfl ?_
      refine gIloadN X w d1_51 rfl (n := 52) rfl ?_
      refine gIinc X w d1_52 rfl (z := (1 : Int32)) (by decide) #[.val (.ref a), .val (.ref ad1), .val (.int (1 : Int32)), .val (.ref ad1), .val (.int (2 : Int32)), .val (.int (0 : Int32)), .val (.int w0)] rfl (n := 55) rfl ?_
      refine gIload X w d1_55 rfl (n := 57) rfl ?_
      refine gIastore X w (z := (.int w0)) V9 (by decide) (show (0 : Int) < ((2 : Nat) : Int) from by decide) na1 rfl (vs' := [(.int w0), (.int w1)]) rfl d1_57 (n := 58) rfl ?_
      intro T hp57 X W57 V57
      have F_6 := F_3.other W57 ne_a_ad1
      have F_7 := F_4.wr W57
      have F_8 := F_5.wr W57
      have Kc1 := (((Keep.refl _ []).ext E1).trans K9 (allS (Or.inr (Nat.le_of_eq ea1.symm)) all0)).wr W57 (Or.inr (Nat.le_of_eq ea1.symm))
      refine gIinc X w d1_58 rfl (z := (1 : Int32)) (by decide) #[.val (.ref a), .val (.ref ad1), .val (.int (1 : Int32)), .val (.ref ad1), .val (.int (2 : Int32)), .val (.int (1 : Int32)), .val (.int w0)] rfl (n := 61) rfl ?_
      refine gGoto X w d1_61 (by decide) (n := 23) rfl ?_
      refine gIload X w d1_23 rfl (n := 25) rfl ?_
      refine gIload X w d1_25 rfl (n := 27) rfl ?_
      refine gIcmp_ge X w d1_27 (n := 64) (n' := 30) (by decide) rfl rfl ?_ ?_
      · intro c27
        exact absurd c27 (by decide)
      · intro c27
        refine gAloadN X w d1_30 rfl rfl (n := 31) rfl ?_
        refine gIload X w d1_31 rfl (n := 33) rfl ?_
        refine gIaload X w V57 (by decide) rfl d1_33 (n := 34) rfl ?_
        refine gIstore X w d1_34 #[.val (.ref a), .val (.ref ad1), .val (.int (1 : Int32)), .val (.ref ad1), .val (.int (2 : Int32)), .val (.int (1 : Int32)), .val (.int w1)] rfl (n := 36) rfl ?_
        refine gIloadN X w d1_36 rfl (n := 37) rfl ?_
        refine gIf_eq X w d1_37 (n := 50) (n' := 40) (by decide) rfl rfl ?_ ?_
        · rintro ⟨c37, c37'⟩
          exact absurd c37 (by decide)
        · rintro ⟨c37, c37'⟩
          refine gAloadN X w d1_40 rfl rfl (n := 41) rfl ?_
          refine gIloadN X w d1_41 rfl (n := 42) rfl ?_
          refine gIconst X w d1_42 (z := (1 : Int32)) rfl (n := 43) rfl ?_
          refine gIsub X w d1_43 (z := (0 : Int32)) (by decide) (n := 44) rfl ?_
          refine gIaload X w V57 (by decide) rfl d1_44 (n := 45) rfl ?_
          refine gIload X w d1_45 rfl (n := 47) rfl ?_
          refine gIcmp_eq X w d1_47 (n := 58) (n' := 50) (by decide) rfl rfl ?_ ?_
          · rintro ⟨c47, c47'⟩
            refine gIinc X w d1_58 rfl (z := (2 : Int32)) (by decide) #[.val (.ref a), .val (.ref ad1), .val (.int (1 : Int32)), .val (.ref ad1), .val (.int (2 : Int32)), .val (.int (2 : Int32)), .val (.int w1)] rfl (n := 61) rfl ?_
            refine gGoto X w d1_61 (by decide) (n := 23) rfl ?_
            refine gIload X w d1_23 rfl (n := 25) rfl ?_
            refine gIload X w d1_25 rfl (n := 27) rfl ?_
            refine gIcmp_ge X w d1_27 (n := 64) (n' := 30) (by decide) rfl rfl ?_ ?_
            · intro c27
              refine gNew X w (own_wd hw 28 rfl) (own_wd hw 29 rfl) (own_wd hw 3 rfl) d1_64 (by decide) (by decide) (n := 67) rfl ?_
              intro T hp64 ad64 ea64 na64 X E64 A64 D64
              have ne_a_ad64 : a ≠ ad64 := neOf F_6.lt (Nat.le_of_eq ea64.symm)
              have ne_ad1_ad64 : ad1 ≠ ad64 := neOf F_8.lt (Nat.le_of_eq ea64.symm)
              have F_9 := F_6.ext E64
              have F_10 := F_7.ext E64
              have F_11 := F_8.ext E64
              have F_12 := V57.ext E64
              have F_13 : Fld Z hp64 ad64 "com/example/reja/reja/IdSet" "ids" "[I" .null := D64 (Or.inr (own_wd hw 42 rfl)) (ty := (.array .int)) (by decide)
              refine gDup X w d1_67 rfl (n := 68) rfl ?_
              refine gAloadN X w d1_68 rfl rfl (n := 69) rfl ?_
              refine gIloadN X w d1_69 rfl (n := 70) rfl ?_
              refine gCallSv X w [(.ref ad1), (.int (1 : Int32))] [(.ref ad64), (.ref ad64)] (own_cpy_2_1 l Z a0 hw ad1 w0 w1 hp64 n0 (Sd.le X) F_12 F_11) (own_wd hw 30 rfl) (own_wd hw 31 rfl) (own_wd hw 16 rfl) (own_wd hw 32 rfl) (by decide) own_pd5 rfl rfl d1_70 rfl (W := 2) (Nat.le_of_eq rfl) (by decide) (by decide) (by decide) (by decide) (n := 73) rfl ?_
              rintro T h70 _ ⟨K70, d70, rfl, gd70, V70⟩ X
              have ne_a_d70 : a ≠ d70 := neOf F_9.lt gd70
              have ne_ad1_d70 : ad1 ≠ d70 := neOf F_11.lt gd70
              have ne_ad64_d70 : ad64 ≠ d70 := neOf A64.lt gd70
              have F_14 := F_9.keep K70 nin0
              have F_15 := F_10.keep K70
              have F_16 := F_11.keep K70
              have F_17 := F_12.keep K70 nin0
              have F_18 := A64.keep K70
              have F_19 := F_13.keep K70 nin0
              refine gCallIn X w [(.ref d70)] [(.ref ad64)] rfl (own_init l Z a0 hw ad64 d70 h70 n0 (Sd.le X) na64 F_18 F_19) (own_wd hw 35 rfl) (own_wd hw 36 rfl) (own_wd hw 3 rfl) (own_wd hw 37 rfl) (by decide) own_pd4 rfl rfl d1_73 rfl (W := 1) (Nat.le_of_eq rfl) (by decide) (by decide) (by decide) (by decide) (n := 76) rfl ?_
              rintro T h73 ⟨K73, A73, F73⟩ X
              have F_20 := F_14.keep K73 (ninS ne_a_ad64 nin0)
              have F_21 := F_15.keep K73
              have F_22 := F_16.keep K73
              have F_23 := F_17.keep K73 (ninS ne_ad1_ad64 nin0)
              have F_24 := F_18.keep K73
              have F_25 := V70.keep K73 (ninS (Ne.symm ne_ad64_d70) nin0)
              exact gRetA X w rfl rfl rfl d1_76 (by decide) (by decide) (⟨_, rfl, ((Kc1.ext E64).trans K70 all0).trans K73 (allS (Or.inr (Nat.le_trans Kc1.1 (Nat.le_of_eq ea64.symm))) all0), ad64, d70, [w0], rfl, Nat.le_trans Kc1.1 (Nat.le_of_eq ea64.symm), Nat.le_trans (Kc1.ext E64).1 gd70, (Ne.symm ne_ad64_d70), A73, F73, F_25, (by show (1 : Nat) ≤ 4; decide), by simp [own_asc], fun y => by rw [← m9 y]; simp only [List.mem_cons, List.not_mem_nil, or_false, ← Int32.toInt_inj] <;> omega⟩)
            · intro c27
              exact absurd c27 (by decide)
          · rintro ⟨c47, c47'⟩
            refine gAloadN X w d1_50 rfl rfl (n := 51) rfl ?_
            refine gIloadN X w d1_51 rfl (n := 52) rfl ?_
            refine gIinc X w d1_52 rfl (z := (2 : Int32)) (by decide) #[.val (.ref a), .val (.ref ad1), .val (.int (2 : Int32)), .val (.ref ad1), .val (.int (2 : Int32)), .val (.int (1 : Int32)), .val (.int w1)] rfl (n := 55) rfl ?_
            refine gIload X w d1_55 rfl (n := 57) rfl ?_
            refine gIastore X w (z := (.int w1)) V57 (by decide) (show (1 : Int) < ((2 : Nat) : Int) from by decide) na1 rfl (vs' := [(.int w0), (.int w1)]) rfl d1_57 (n := 58) rfl ?_
            intro T hp57 X W57 V57
            have F_26 := F_6.other W57 ne_a_ad1
            have F_27 := F_7.wr W57
            have F_28 := F_8.wr W57
            have Kc2 := Kc1.wr W57 (Or.inr (Nat.le_of_eq ea1.symm))
            refine gIinc X w d1_58 rfl (z := (2 : Int32)) (by decide) #[.val (.ref a), .val (.ref ad1), .val (.int (2 : Int32)), .val (.ref ad1), .val (.int (2 : Int32)), .val (.int (2 : Int32)), .val (.int w1)] rfl (n := 61) rfl ?_
            refine gGoto X w d1_61 (by decide) (n := 23) rfl ?_
            refine gIload X w d1_23 rfl (n := 25) rfl ?_
            refine gIload X w d1_25 rfl (n := 27) rfl ?_
            refine gIcmp_ge X w d1_27 (n := 64) (n' := 30) (by decide) rfl rfl ?_ ?_
            · intro c27
              refine gNew X w (own_wd hw 28 rfl) (own_wd hw 29 rfl) (own_wd hw 3 rfl) d1_64 (by decide) (by decide) (n := 67) rfl ?_
              intro T hp64 ad64 ea64 na64 X E64 A64 D64
              have ne_a_ad64 : a ≠ ad64 := neOf F_26.lt (Nat.le_of_eq ea64.symm)
              have ne_ad1_ad64 : ad1 ≠ ad64 := neOf F_28.lt (Nat.le_of_eq ea64.symm)
              have F_29 := F_26.ext E64
              have F_30 := F_27.ext E64
              have F_31 := F_28.ext E64
              have F_32 := V57.ext E64
              have F_33 : Fld Z hp64 ad64 "com/example/reja/reja/IdSet" "ids" "[I" .null := D64 (Or.inr (own_wd hw 42 rfl)) (ty := (.array .int)) (by decide)
              refine gDup X w d1_67 rfl (n := 68) rfl ?_
              refine gAloadN X w d1_68 rfl rfl (n := 69) rfl ?_
              refine gIloadN X w d1_69 rfl (n := 70) rfl ?_
              refine gCallSv X w [(.ref ad1), (.int (2 : Int32))] [(.ref ad64), (.ref ad64)] (own_cpy_2_2 l Z a0 hw ad1 w0 w1 hp64 n0 (Sd.le X) F_32 F_31) (own_wd hw 30 rfl) (own_wd hw 31 rfl) (own_wd hw 16 rfl) (own_wd hw 32 rfl) (by decide) own_pd5 rfl rfl d1_70 rfl (W := 2) (Nat.le_of_eq rfl) (by decide) (by decide) (by decide) (by decide) (n := 73) rfl ?_
              rintro T h70 _ ⟨K70, d70, rfl, gd70, V70⟩ X
              have ne_a_d70 : a ≠ d70 := neOf F_29.lt gd70
              have ne_ad1_d70 : ad1 ≠ d70 := neOf F_31.lt gd70
              have ne_ad64_d70 : ad64 ≠ d70 := neOf A64.lt gd70
              have F_34 := F_29.keep K70 nin0
              have F_35 := F_30.keep K70
              have F_36 := F_31.keep K70
              have F_37 := F_32.keep K70 nin0
              have F_38 := A64.keep K70
              have F_39 := F_33.keep K70 nin0
              refine gCallIn X w [(.ref d70)] [(.ref ad64)] rfl (own_init l Z a0 hw ad64 d70 h70 n0 (Sd.le X) na64 F_38 F_39) (own_wd hw 35 rfl) (own_wd hw 36 rfl) (own_wd hw 3 rfl) (own_wd hw 37 rfl) (by decide) own_pd4 rfl rfl d1_73 rfl (W := 1) (Nat.le_of_eq rfl) (by decide) (by decide) (by decide) (by decide) (n := 76) rfl ?_
              rintro T h73 ⟨K73, A73, F73⟩ X
              have F_40 := F_34.keep K73 (ninS ne_a_ad64 nin0)
              have F_41 := F_35.keep K73
              have F_42 := F_36.keep K73
              have F_43 := F_37.keep K73 (ninS ne_ad1_ad64 nin0)
              have F_44 := F_38.keep K73
              have F_45 := V70.keep K73 (ninS (Ne.symm ne_ad64_d70) nin0)
              exact gRetA X w rfl rfl rfl d1_76 (by decide) (by decide) (⟨_, rfl, ((Kc2.ext E64).trans K70 all0).trans K73 (allS (Or.inr (Nat.le_trans Kc2.1 (Nat.le_of_eq ea64.symm))) all0), ad64, d70, [w0, w1], rfl, Nat.le_trans Kc2.1 (Nat.le_of_eq ea64.symm), Nat.le_trans (Kc2.ext E64).1 gd70, (Ne.symm ne_ad64_d70), A73, F73, F_45, (by show (2 : Nat) ≤ 4; decide), by simp only [own_asc, List.pairwise_cons, List.mem_cons, List.not_mem_nil, or_false, forall_eq_or_imp, forall_eq, false_implies, implies_true, List.Pairwise.nil, and_true] <;> omega, fun y => by rw [← m9 y]; simp only [List.mem_cons, List.not_mem_nil, or_false, ← Int32.toInt_inj] <;> omega⟩)
            · intro c27
              exact absurd c27 (by decide)
    · rintro ⟨c37, c37'⟩
      exact absurd c37 (by decide)
set_option maxRecDepth 65536 in
set_option maxHeartbeats 40000000 in
theorem own_unt_2 (l : Launch) (Z : State) (a0 : Array Value) (hw : ∀ d ∈ tables_1, d.before a0 Z = true) (a : Addr) (z0 z1 z2 z3 : Int32) (h0 : Heap) (n0 : Nat) (hn : n0 ≤ h0.size) (V : Av Z h0 a .int [.int z0, .int z1]) :
    ConV l Z (⟨"com/example/reja/reja/IdSetOfPinLaw", "untouched", "([IIIIII)Z"⟩ : MethodName) method_2_code 6 (some .boolean) ({ frames := 0, cells := 0, slots := 0, locals := 0 } : Room) #[(.ref a), (.int (2 : Int32)), (.int z0), (.int z1), (.int z2), (.int z3)] h0 n0 (fun v h => h0 = h ∧ v = .int 1) := by
  refine Con.of (plainFor_of_name (by first | (simp [plainName, overriddenIn]; done) | decide +kernel)) hn ?_
  intro p e s m below meth c T w X
  refine Gl.enter (ls := #[.val (.ref a), .val (.int (2 : Int32)), .val (.int z0), .val (.int z1), .val (.int z2), .val (.int z3)]) (by first | (simp [entryFrame, mkF, argsToLocals, Value.category]; done) | rfl) ?_
  refine gAloadN X w d9_0 rfl rfl (n := 1) rfl ?_
  refine gAlen X w V (z := (2 : Int32)) rfl d9_1 (n := 2) rfl ?_
  refine gIloadN X w d9_2 rfl (n := 3) rfl ?_
  refine gIcmp_eq X w d9_3 (n := 8) (n' := 6) (by decide) rfl rfl ?_ ?_
  · rintro ⟨c3, c3'⟩
    refine gIloadN X w d9_8 rfl (n := 9) rfl ?_
    refine gIconst X w d9_9 (z := (1 : Int32)) rfl (n := 10) rfl ?_
    refine gIcmp_lt X w d9_10 (n := 22) (n' := 13) (by decide) rfl rfl ?_ ?_
    · intro c10
      exact absurd c10 (by decide)
    · intro c10
      refine gAloadN X w d9_13 rfl rfl (n := 14) rfl ?_
      refine gIconst X w d9_14 (z := (0 : Int32)) rfl (n := 15) rfl ?_
      refine gIaload X w V (by decide) rfl d9_15 (n := 16) rfl ?_
      refine gIloadN X w d9_16 rfl (n := 17) rfl ?_
      refine gIcmp_eq X w d9_17 (n := 22) (n' := 20) (by decide) rfl rfl ?_ ?_
      · rintro ⟨c17, c17'⟩
        refine gIloadN X w d9_22 rfl (n := 23) rfl ?_
        refine gIconst X w d9_23 (z := (2 : Int32)) rfl (n := 24) rfl ?_
        refine gIcmp_lt X w d9_24 (n := 36) (n' := 27) (by decide) rfl rfl ?_ ?_
        · intro c24
          exact absurd c24 (by decide)
        · intro c24
          refine gAloadN X w d9_27 rfl rfl (n := 28) rfl ?_
          refine gIconst X w d9_28 (z := (1 : Int32)) rfl (n := 29) rfl ?_
          refine gIaload X w V (by decide) rfl d9_29 (n := 30) rfl ?_
          refine gIloadN X w d9_30 rfl (n := 31) rfl ?_
          refine gIcmp_eq X w d9_31 (n := 36) (n' := 34) (by decide) rfl rfl ?_ ?_
          · rintro ⟨c31, c31'⟩
            refine gIloadN X w d9_36 rfl (n := 37) rfl ?_
            refine gIconst X w d9_37 (z := (3 : Int32)) rfl (n := 38) rfl ?_
            refine gIcmp_lt X w d9_38 (n := 51) (n' := 41) (by decide) rfl rfl ?_ ?_
            · intro c38
              refine gIloadN X w d9_51 rfl (n := 52) rfl ?_
              refine gIconst X w d9_52 (z := (4 : Int32)) rfl (n := 53) rfl ?_
              refine gIcmp_lt X w d9_53 (n := 66) (n' := 56) (by decide) rfl rfl ?_ ?_
              · intro c53
                refine gIconst X w d9_66 (z := (1 : Int32)) rfl (n := 67) rfl ?_
                exact gRetZ X w rfl (Or.inr rfl) d9_67 (by decide) (by decide) (⟨_, rfl, rfl, rfl⟩)
              · intro c53
                exact absurd c53 (by decide)
            · intro c38
              exact absurd c38 (by decide)
          · rintro ⟨c31, c31'⟩
            exact absurd rfl c31
      · rintro ⟨c17, c17'⟩
        exact absurd rfl c17
  · rintro ⟨c3, c3'⟩
    exact absurd c3 (by decide)
set_option maxRecDepth 65536 in
set_option maxHeartbeats 40000000 in
theorem own_of_3 (l : Launch) (Z : State) (a0 : Array Value) (hw : ∀ d ∈ tables_1, d.before a0 Z = true) (a : Addr) (z0 z1 z2 : Int32) (h0 : Heap) (n0 : Nat) (hn : n0 ≤ h0.size) (V : Av Z h0 a .int [.int z0, .int z1, .int z2]) (E : Exa Z h0 a "[I") :
    ConV l Z (⟨"com/example/reja/reja/IdSet", "of", "([I)Lcom/example/reja/reja/IdSet;"⟩ : MethodName) prog_3_method_2_code 7 (some (.object "com/example/reja/reja/IdSet")) ({ frames := 4, cells := 3, slots := 7, locals := 79 } : Room) #[(.ref a)] h0 n0 (fun v h => Keep h0 h [] ∧ ∃ (b d : Addr) (us : List Int32), v = .ref b ∧ h0.size ≤ b ∧ h0.size ≤ d ∧ d ≠ b ∧ Exa Z h b "com/example/reja/reja/IdSet" ∧ Fld Z h b "com/example/reja/reja/IdSet" "ids" "[I" (.ref d) ∧ Av Z h d .int (us.map Value.int) ∧ us.length ≤ 4 ∧ own_asc us ∧ ∀ y, y ∈ us ↔ (y = z0 ∨ y = z1 ∨ y = z2)) := by
  refine Con.of (plainFor_of_name (by first | (simp [plainName, overriddenIn]; done) | decide +kernel)) hn ?_
  intro p e s m below meth c T w X
  refine Gl.enter (ls := #[.val (.ref a), .unset, .unset, .unset, .unset, .unset, .unset]) (by first | (simp [entryFrame, mkF, argsToLocals, Value.category]; done) | rfl) ?_
  refine gAloadN X w d1_0 rfl rfl (n := 1) rfl ?_
  refine gClone X w V E (own_fitI (by intro v hv; simp only [List.mem_cons, List.not_mem_nil, or_false] at hv; rcases hv with rfl | rfl | rfl <;> exact ⟨_, rfl⟩)) (own_wd hw 5 rfl) (own_wd hw 6 rfl) (own_wd hw 10 rfl) (own_wd hw 8 rfl) (own_wd hw 9 rfl) (own_wd hw 11 rfl) d1_1 rfl (by decide) (W := 0) (Nat.le_of_eq rfl) (by decide) (cap := 3) (by show (3 : Nat) ≤ 3; decide) (by decide) (by decide) (n := 4) rfl ?_
  intro T hp1 ad1 ea1 na1 X E1 V1 A1
  have ne_a_ad1 : a ≠ ad1 := neOf V.lt (Nat.le_of_eq ea1.symm)
  have F_1 := V.ext E1
  have F_2 := E.ext E1
  refine gCast X w (own_wd hw 12 rfl) (Ins.self A1) d1_4 (n := 7) rfl ?_
  intro T X
  refine gAstoreN X w d1_7 rfl #[.val (.ref a), .val (.ref ad1), .unset, .unset, .unset, .unset, .unset] rfl (n := 8) rfl ?_
  refine gAloadN X w d1_8 rfl rfl (n := 9) rfl ?_
  refine gCallSn X w [(.ref ad1)] [] (own_srt_3 l Z a0 hw ad1 z0 z1 z2 hp1 n0 (Sd.le X) na1 V1) (own_wd hw 14 rfl) (own_wd hw 15 rfl) (own_wd hw 16 rfl) (own_wd hw 17 rfl) (by decide) own_pd4 rfl rfl d1_9 rfl (W := 0) (Nat.le_of_eq rfl) (by decide) (by decide) (by decide) (by decide) (n := 12) rfl ?_
  rintro T h9 ⟨K9, w0, w1, w2, V9, s0, s1, m9⟩ X
  have F_3 := F_1.keep K9 (ninS ne_a_ad1 nin0)
  have F_4 := F_2.keep K9
  have F_5 := A1.keep K9
  refine gIconst X w d1_12 (z := (0 : Int32)) rfl (n := 13) rfl ?_
  refine gIstoreN X w d1_13 #[.val (.ref a), .val (.ref ad1), .val (.int (0 : Int32)), .unset, .unset, .unset, .unset] rfl (n := 14) rfl ?_
  refine gAloadN X w d1_14 rfl rfl (n := 15) rfl ?_
  refine gAstoreN X w d1_15 rfl #[.val (.ref a), .val (.ref ad1), .val (.int (0 : Int32)), .val (.ref ad1), .unset, .unset, .unset] rfl (n := 16) rfl ?_
  refine gAloadN X w d1_16 rfl rfl (n := 17) rfl ?_
  refine gAlen X w V9 (z := (3 : Int32)) rfl d1_17 (n := 18) rfl ?_
  refine gIstore X w d1_18 #[.val (.ref a), .val (.ref ad1), .val (.int (0 : Int32)), .val (.ref ad1), .val (.int (3 : Int32)), .unset, .unset] rfl (n := 20) rfl ?_
  refine gIconst X w d1_20 (z := (0 : Int32)) rfl (n := 21) rfl ?_
  refine gIstore X w d1_21 #[.val (.ref a), .val (.ref ad1), .val (.int (0 : Int32)), .val (.ref ad1), .val (.int (3 : Int32)), .val (.int (0 : Int32)), .unset] rfl (n := 23) rfl ?_
  refine gIload X w d1_23 rfl (n := 25) rfl ?_
  refine gIload X w d1_25 rfl (n := 27) rfl ?_
  refine gIcmp_ge X w d1_27 (n := 64) (n' := 30) (by decide) rfl rfl ?_ ?_
  · intro c27
    exact absurd c27 (by decide)
  · intro c27
    refine gAloadN X w d1_30 rfl rfl (n := 31) rfl ?_
    refine gIload X w d1_31 rfl (n := 33) rfl ?_
    refine gIaload X w V9 (by decide) rfl d1_33 (n := 34) rfl ?_
    refine gIstore X w d1_34 #[.val (.ref a), .val (.ref ad1), .val (.int (0 : Int32)), .val (.ref ad1), .val (.int (3 : Int32)), .val (.int (0 : Int32)), .val (.int w0)] rfl (n := 36) rfl ?_
    refine gIloadN X w d1_36 rfl (n := 37) rfl ?_
    refine gIf_eq X w d1_37 (n := 50) (n' := 40) (by decide) rfl rfl ?_ ?_
    · rintro ⟨c37, c37'⟩
      refine gAloadN X w d1_50 rfl rfl (n := 51) rfl ?_
      refine gIloadN X w d1_51 rfl (n := 52) rfl ?_
      refine gIinc X w d1_52 rfl (z := (1 : Int32)) (by decide) #[.val (.ref a), .val (.ref ad1), .val (.int (1 : Int32)), .val (.ref ad1), .val (.int (3 : Int32)), .val (.int (0 : Int32)), .val (.int w0)] rfl (n := 55) rfl ?_
      refine gIload X w d1_55 rfl (n := 57) rfl ?_
      refine gIastore X w (z := (.int w0)) V9 (by decide) (show (0 : Int) < ((3 : Nat) : Int) from by decide) na1 rfl (vs' := [(.int w0), (.int w1), (.int w2)]) rfl d1_57 (n := 58) rfl ?_
      intro T hp57 X W57 V57
      have F_6 := F_3.other W57 ne_a_ad1
      have F_7 := F_4.wr W57
      have F_8 := F_5.wr W57
      have Kc1 := (((Keep.refl _ []).ext E1).trans K9 (allS (Or.inr (Nat.le_of_eq ea1.symm)) all0)).wr W57 (Or.inr (Nat.le_of_eq ea1.symm))
      refine gIinc X w d1_58 rfl (z := (1 : Int32)) (by decide) #[.val (.ref a), .val (.ref ad1), .val (.int (1 : Int32)), .val (.ref ad1), .val (.int (3 : Int32)), .val (.int (1 : Int32)), .val (.int w0)] rfl (n := 61) rfl ?_
      refine gGoto X w d1_61 (by decide) (n := 23) rfl ?_
      refine gIload X w d1_23 rfl (n := 25) rfl ?_
      refine gIload X w d1_25 rfl (n := 27) rfl ?_
      refine gIcmp_ge X w d1_27 (n := 64) (n' := 30) (by decide) rfl rfl ?_ ?_
      · intro c27
        exact absurd c27 (by decide)
      · intro c27
        refine gAloadN X w d1_30 rfl rfl (n := 31) rfl ?_
        refine gIload X w d1_31 rfl (n := 33) rfl ?_
        refine gIaload X w V57 (by decide) rfl d1_33 (n := 34) rfl ?_
        refine gIstore X w d1_34 #[.val (.ref a), .val (.ref ad1), .val (.int (1 : Int32)), .val (.ref ad1), .val (.int (3 : Int32)), .val (.int (1 : Int32)), .val (.int w1)] rfl (n := 36) rfl ?_
        refine gIloadN X w d1_36 rfl (n := 37) rfl ?_
        refine gIf_eq X w d1_37 (n := 50) (n' := 40) (by decide) rfl rfl ?_ ?_
        · rintro ⟨c37, c37'⟩
          exact absurd c37 (by decide)
        · rintro ⟨c37, c37'⟩
          refine gAloadN X w d1_40 rfl rfl (n := 41) rfl ?_
          refine gIloadN X w d1_41 rfl (n := 42) rfl ?_
          refine gIconst X w d1_42 (z := (1 : Int32)) rfl (n := 43) rfl ?_
          refine gIsub X w d1_43 (z := (0 : Int32)) (by decide) (n := 44) rfl ?_
          refine gIaload X w V57 (by decide) rfl d1_44 (n := 45) rfl ?_
          refine gIload X w d1_45 rfl (n := 47) rfl ?_
          refine gIcmp_eq X w d1_47 (n := 58) (n' := 50) (by decide) rfl rfl ?_ ?_
          · rintro ⟨c47, c47'⟩
            refine gIinc X w d1_58 rfl (z := (2 : Int32)) (by decide) #[.val (.ref a), .val (.ref ad1), .val (.int (1 : Int32)), .val (.ref ad1), .val (.int (3 : Int32)), .val (.int (2 : Int32)), .val (.int w1)] rfl (n := 61) rfl ?_
            refine gGoto X w d1_61 (by decide) (n := 23) rfl ?_
            refine gIload X w d1_23 rfl (n := 25) rfl ?_
            refine gIload X w d1_25 rfl (n := 27) rfl ?_
            refine gIcmp_ge X w d1_27 (n := 64) (n' := 30) (by decide) rfl rfl ?_ ?_
            · intro c27
              exact absurd c27 (by decide)
            · intro c27
              refine gAloadN X w d1_30 rfl rfl (n := 31) rfl ?_
              refine gIload X w d1_31 rfl (n := 33) rfl ?_
              refine gIaload X w V57 (by decide) rfl d1_33 (n := 34) rfl ?_
              refine gIstore X w d1_34 #[.val (.ref a), .val (.ref ad1), .val (.int (1 : Int32)), .val (.ref ad1), .val (.int (3 : Int32)), .val (.int (2 : Int32)), .val (.int w2)] rfl (n := 36) rfl ?_
              refine gIloadN X w d1_36 rfl (n := 37) rfl ?_
              refine gIf_eq X w d1_37 (n := 50) (n' := 40) (by decide) rfl rfl ?_ ?_
              · rintro ⟨c37, c37'⟩
                exact absurd c37 (by decide)
              · rintro ⟨c37, c37'⟩
                refine gAloadN X w d1_40 rfl rfl (n := 41) rfl ?_
                refine gIloadN X w d1_41 rfl (n := 42) rfl ?_
                refine gIconst X w d1_42 (z := (1 : Int32)) rfl (n := 43) rfl ?_
                refine gIsub X w d1_43 (z := (0 : Int32)) (by decide) (n := 44) rfl ?_
                refine gIaload X w V57 (by decide) rfl d1_44 (n := 45) rfl ?_
                refine gIload X w d1_45 rfl (n := 47) rfl ?_
                refine gIcmp_eq X w d1_47 (n := 58) (n' := 50) (by decide) rfl rfl ?_ ?_
                · rintro ⟨c47, c47'⟩
                  refine gIinc X w d1_58 rfl (z := (3 : Int32)) (by decide) #[.val (.ref a), .val (.ref ad1), .val (.int (1 : Int32)), .val (.ref ad1), .val (.int (3 : Int32)), .val (.int (3 : Int32)), .val (.int w2)] rfl (n := 61) rfl ?_
                  refine gGoto X w d1_61 (by decide) (n := 23) rfl ?_
                  refine gIload X w d1_23 rfl (n := 25) rfl ?_
                  refine gIload X w d1_25 rfl (n := 27) rfl ?_
                  refine gIcmp_ge X w d1_27 (n := 64) (n' := 30) (by decide) rfl rfl ?_ ?_
                  · intro c27
                    refine gNew X w (own_wd hw 28 rfl) (own_wd hw 29 rfl) (own_wd hw 3 rfl) d1_64 (by decide) (by decide) (n := 67) rfl ?_
                    intro T hp64 ad64 ea64 na64 X E64 A64 D64
                    have ne_a_ad64 : a ≠ ad64 := neOf F_6.lt (Nat.le_of_eq ea64.symm)
                    have ne_ad1_ad64 : ad1 ≠ ad64 := neOf F_8.lt (Nat.le_of_eq ea64.symm)
                    have F_9 := F_6.ext E64
                    have F_10 := F_7.ext E64
                    have F_11 := F_8.ext E64
                    have F_12 := V57.ext E64
                    have F_13 : Fld Z hp64 ad64 "com/example/reja/reja/IdSet" "ids" "[I" .null := D64 (Or.inr (own_wd hw 42 rfl)) (ty := (.array .int)) (by decide)
                    refine gDup X w d1_67 rfl (n := 68) rfl ?_
                    refine gAloadN X w d1_68 rfl rfl (n := 69) rfl ?_
                    refine gIloadN X w d1_69 rfl (n := 70) rfl ?_
                    refine gCallSv X w [(.ref ad1), (.int (1 : Int32))] [(.ref ad64), (.ref ad64)] (own_cpy_3_1 l Z a0 hw ad1 w0 w1 w2 hp64 n0 (Sd.le X) F_12 F_11) (own_wd hw 30 rfl) (own_wd hw 31 rfl) (own_wd hw 16 rfl) (own_wd hw 32 rfl) (by decide) own_pd5 rfl rfl d1_70 rfl (W := 2) (Nat.le_of_eq rfl) (by decide) (by decide) (by decide) (by decide) (n := 73) rfl ?_
                    rintro T h70 _ ⟨K70, d70, rfl, gd70, V70⟩ X
                    have ne_a_d70 : a ≠ d70 := neOf F_9.lt gd70
                    have ne_ad1_d70 : ad1 ≠ d70 := neOf F_11.lt gd70
                    have ne_ad64_d70 : ad64 ≠ d70 := neOf A64.lt gd70
                    have F_14 := F_9.keep K70 nin0
                    have F_15 := F_10.keep K70
                    have F_16 := F_11.keep K70
                    have F_17 := F_12.keep K70 nin0
                    have F_18 := A64.keep K70
                    have F_19 := F_13.keep K70 nin0
                    refine gCallIn X w [(.ref d70)] [(.ref ad64)] rfl (own_init l Z a0 hw ad64 d70 h70 n0 (Sd.le X) na64 F_18 F_19) (own_wd hw 35 rfl) (own_wd hw 36 rfl) (own_wd hw 3 rfl) (own_wd hw 37 rfl) (by decide) own_pd4 rfl rfl d1_73 rfl (W := 1) (Nat.le_of_eq rfl) (by decide) (by decide) (by decide) (by decide) (n := 76) rfl ?_
                    rintro T h73 ⟨K73, A73, F73⟩ X
                    have F_20 := F_14.keep K73 (ninS ne_a_ad64 nin0)
                    have F_21 := F_15.keep K73
                    have F_22 := F_16.keep K73
                    have F_23 := F_17.keep K73 (ninS ne_ad1_ad64 nin0)
                    have F_24 := F_18.keep K73
                    have F_25 := V70.keep K73 (ninS (Ne.symm ne_ad64_d70) nin0)
                    exact gRetA X w rfl rfl rfl d1_76 (by decide) (by decide) (⟨_, rfl, ((Kc1.ext E64).trans K70 all0).trans K73 (allS (Or.inr (Nat.le_trans Kc1.1 (Nat.le_of_eq ea64.symm))) all0), ad64, d70, [w0], rfl, Nat.le_trans Kc1.1 (Nat.le_of_eq ea64.symm), Nat.le_trans (Kc1.ext E64).1 gd70, (Ne.symm ne_ad64_d70), A73, F73, F_25, (by show (1 : Nat) ≤ 4; decide), by simp [own_asc], fun y => by rw [← m9 y]; simp only [List.mem_cons, List.not_mem_nil, or_false, ← Int32.toInt_inj] <;> omega⟩)
                  · intro c27
                    exact absurd c27 (by decide)
                · rintro ⟨c47, c47'⟩
                  refine gAloadN X w d1_50 rfl rfl (n := 51) rfl ?_
                  refine gIloadN X w d1_51 rfl (n := 52) rfl ?_
                  refine gIinc X w d1_52 rfl (z := (2 : Int32)) (by decide) #[.val (.ref a), .val (.ref ad1), .val (.int (2 : Int32)), .val (.ref ad1), .val (.int (3 : Int32)), .val (.int (2 : Int32)), .val (.int w2)] rfl (n := 55) rfl ?_
                  refine gIload X w d1_55 rfl (n := 57) rfl ?_
                  refine gIastore X w (z := (.int w2)) V57 (by decide) (show (1 : Int) < ((3 : Nat) : Int) from by decide) na1 rfl (vs' := [(.int w0), (.int w2), (.int w2)]) rfl d1_57 (n := 58) rfl ?_
                  intro T hp57 X W57 V57
                  have F_26 := F_6.other W57 ne_a_ad1
                  have F_27 := F_7.wr W57
                  have F_28 := F_8.wr W57
                  have Kc2 := Kc1.wr W57 (Or.inr (Nat.le_of_eq ea1.symm))
                  refine gIinc X w d1_58 rfl (z := (3 : Int32)) (by decide) #[.val (.ref a), .val (.ref ad1), .val (.int (2 : Int32)), .val (.ref ad1), .val (.int (3 : Int32)), .val (.int (3 : Int32)), .val (.int w2)] rfl (n := 61) rfl ?_
                  refine gGoto X w d1_61 (by decide) (n := 23) rfl ?_
                  refine gIload X w d1_23 rfl (n := 25) rfl ?_
                  refine gIload X w d1_25 rfl (n := 27) rfl ?_
                  refine gIcmp_ge X w d1_27 (n := 64) (n' := 30) (by decide) rfl rfl ?_ ?_
                  · intro c27
                    refine gNew X w (own_wd hw 28 rfl) (own_wd hw 29 rfl) (own_wd hw 3 rfl) d1_64 (by decide) (by decide) (n := 67) rfl ?_
                    intro T hp64 ad64 ea64 na64 X E64 A64 D64
                    have ne_a_ad64 : a ≠ ad64 := neOf F_26.lt (Nat.le_of_eq ea64.symm)
                    have ne_ad1_ad64 : ad1 ≠ ad64 := neOf F_28.lt (Nat.le_of_eq ea64.symm)
                    have F_29 := F_26.ext E64
                    have F_30 := F_27.ext E64
                    have F_31 := F_28.ext E64
                    have F_32 := V57.ext E64
                    have F_33 : Fld Z hp64 ad64 "com/example/reja/reja/IdSet" "ids" "[I" .null := D64 (Or.inr (own_wd hw 42 rfl)) (ty := (.array .int)) (by decide)
                    refine gDup X w d1_67 rfl (n := 68) rfl ?_
                    refine gAloadN X w d1_68 rfl rfl (n := 69) rfl ?_
                    refine gIloadN X w d1_69 rfl (n := 70) rfl ?_
                    refine gCallSv X w [(.ref ad1), (.int (2 : Int32))] [(.ref ad64), (.ref ad64)] (own_cpy_3_2 l Z a0 hw ad1 w0 w2 w2 hp64 n0 (Sd.le X) F_32 F_31) (own_wd hw 30 rfl) (own_wd hw 31 rfl) (own_wd hw 16 rfl) (own_wd hw 32 rfl) (by decide) own_pd5 rfl rfl d1_70 rfl (W := 2) (Nat.le_of_eq rfl) (by decide) (by decide) (by decide) (by decide) (n := 73) rfl ?_
                    rintro T h70 _ ⟨K70, d70, rfl, gd70, V70⟩ X
                    have ne_a_d70 : a ≠ d70 := neOf F_29.lt gd70
                    have ne_ad1_d70 : ad1 ≠ d70 := neOf F_31.lt gd70
                    have ne_ad64_d70 : ad64 ≠ d70 := neOf A64.lt gd70
                    have F_34 := F_29.keep K70 nin0
                    have F_35 := F_30.keep K70
                    have F_36 := F_31.keep K70
                    have F_37 := F_32.keep K70 nin0
                    have F_38 := A64.keep K70
                    have F_39 := F_33.keep K70 nin0
                    refine gCallIn X w [(.ref d70)] [(.ref ad64)] rfl (own_init l Z a0 hw ad64 d70 h70 n0 (Sd.le X) na64 F_38 F_39) (own_wd hw 35 rfl) (own_wd hw 36 rfl) (own_wd hw 3 rfl) (own_wd hw 37 rfl) (by decide) own_pd4 rfl rfl d1_73 rfl (W := 1) (Nat.le_of_eq rfl) (by decide) (by decide) (by decide) (by decide) (n := 76) rfl ?_
                    rintro T h73 ⟨K73, A73, F73⟩ X
                    have F_40 := F_34.keep K73 (ninS ne_a_ad64 nin0)
                    have F_41 := F_35.keep K73
                    have F_42 := F_36.keep K73
                    have F_43 := F_37.keep K73 (ninS ne_ad1_ad64 nin0)
                    have F_44 := F_38.keep K73
                    have F_45 := V70.keep K73 (ninS (Ne.symm ne_ad64_d70) nin0)
                    exact gRetA X w rfl rfl rfl d1_76 (by decide) (by decide) (⟨_, rfl, ((Kc2.ext E64).trans K70 all0).trans K73 (allS (Or.inr (Nat.le_trans Kc2.1 (Nat.le_of_eq ea64.symm))) all0), ad64, d70, [w0, w2], rfl, Nat.le_trans Kc2.1 (Nat.le_of_eq ea64.symm), Nat.le_trans (Kc2.ext E64).1 gd70, (Ne.symm ne_ad64_d70), A73, F73, F_45, (by show (2 : Nat) ≤ 4; decide), by simp only [own_asc, List.pairwise_cons, List.mem_cons, List.not_mem_nil, or_false, forall_eq_or_imp, forall_eq, false_implies, implies_true, List.Pairwise.nil, and_true] <;> omega, fun y => by rw [← m9 y]; simp only [List.mem_cons, List.not_mem_nil, or_false, ← Int32.toInt_inj] <;> omega⟩)
                  · intro c27
                    exact absurd c27 (by decide)
          · rintro ⟨c47, c47'⟩
            refine gAloadN X w d1_50 rfl rfl (n := 51) rfl ?_
            refine gIloadN X w d1_51 rfl (n := 52) rfl ?_
            refine gIinc X w d1_52 rfl (z := (2 : Int32)) (by decide) #[.val (.ref a), .val (.ref ad1), .val (.int (2 : Int32)), .val (.ref ad1), .val (.int (3 : Int32)), .val (.int (1 : Int32)), .val (.int w1)] rfl (n := 55) rfl ?_
            refine gIload X w d1_55 rfl (n := 57) rfl ?_
            refine gIastore X w (z := (.int w1)) V57 (by decide) (show (1 : Int) < ((3 : Nat) : Int) from by decide) na1 rfl (vs' := [(.int w0), (.int w1), (.int w2)]) rfl d1_57 (n := 58) rfl ?_
            intro T hp57 X W57 V57
            have F_46 := F_6.other W57 ne_a_ad1
            have F_47 := F_7.wr W57
            have F_48 := F_8.wr W57
            have Kc2 := Kc1.wr W57 (Or.inr (Nat.le_of_eq ea1.symm))
            refine gIinc X w d1_58 rfl (z := (2 : Int32)) (by decide) #[.val (.ref a), .val (.ref ad1), .val (.int (2 : Int32)), .val (.ref ad1), .val (.int (3 : Int32)), .val (.int (2 : Int32)), .val (.int w1)] rfl (n := 61) rfl ?_
            refine gGoto X w d1_61 (by decide) (n := 23) rfl ?_
            refine gIload X w d1_23 rfl (n := 25) rfl ?_
            refine gIload X w d1_25 rfl (n := 27) rfl ?_
            refine gIcmp_ge X w d1_27 (n := 64) (n' := 30) (by decide) rfl rfl ?_ ?_
            · intro c27
              exact absurd c27 (by decide)
            · intro c27
              refine gAloadN X w d1_30 rfl rfl (n := 31) rfl ?_
              refine gIload X w d1_31 rfl (n := 33) rfl ?_
              refine gIaload X w V57 (by decide) rfl d1_33 (n := 34) rfl ?_
              refine gIstore X w d1_34 #[.val (.ref a), .val (.ref ad1), .val (.int (2 : Int32)), .val (.ref ad1), .val (.int (3 : Int32)), .val (.int (2 : Int32)), .val (.int w2)] rfl (n := 36) rfl ?_
              refine gIloadN X w d1_36 rfl (n := 37) rfl ?_
              refine gIf_eq X w d1_37 (n := 50) (n' := 40) (by decide) rfl rfl ?_ ?_
              · rintro ⟨c37, c37'⟩
                exact absurd c37 (by decide)
              · rintro ⟨c37, c37'⟩
                refine gAloadN X w d1_40 rfl rfl (n := 41) rfl ?_
                refine gIloadN X w d1_41 rfl (n := 42) rfl ?_
                refine gIconst X w d1_42 (z := (1 : Int32)) rfl (n := 43) rfl ?_
                refine gIsub X w d1_43 (z := (1 : Int32)) (by decide) (n := 44) rfl ?_
                refine gIaload X w V57 (by decide) rfl d1_44 (n := 45) rfl ?_
                refine gIload X w d1_45 rfl (n := 47) rfl ?_
                refine gIcmp_eq X w d1_47 (n := 58) (n' := 50) (by decide) rfl rfl ?_ ?_
                · rintro ⟨c47, c47'⟩
                  refine gIinc X w d1_58 rfl (z := (3 : Int32)) (by decide) #[.val (.ref a), .val (.ref ad1), .val (.int (2 : Int32)), .val (.ref ad1), .val (.int (3 : Int32)), .val (.int (3 : Int32)), .val (.int w2)] rfl (n := 61) rfl ?_
                  refine gGoto X w d1_61 (by decide) (n := 23) rfl ?_
                  refine gIload X w d1_23 rfl (n := 25) rfl ?_
                  refine gIload X w d1_25 rfl (n := 27) rfl ?_
                  refine gIcmp_ge X w d1_27 (n := 64) (n' := 30) (by decide) rfl rfl ?_ ?_
                  · intro c27
                    refine gNew X w (own_wd hw 28 rfl) (own_wd hw 29 rfl) (own_wd hw 3 rfl) d1_64 (by decide) (by decide) (n := 67) rfl ?_
                    intro T hp64 ad64 ea64 na64 X E64 A64 D64
                    have ne_a_ad64 : a ≠ ad64 := neOf F_46.lt (Nat.le_of_eq ea64.symm)
                    have ne_ad1_ad64 : ad1 ≠ ad64 := neOf F_48.lt (Nat.le_of_eq ea64.symm)
                    have F_49 := F_46.ext E64
                    have F_50 := F_47.ext E64
                    have F_51 := F_48.ext E64
                    have F_52 := V57.ext E64
                    have F_53 : Fld Z hp64 ad64 "com/example/reja/reja/IdSet" "ids" "[I" .null := D64 (Or.inr (own_wd hw 42 rfl)) (ty := (.array .int)) (by decide)
                    refine gDup X w d1_67 rfl (n := 68) rfl ?_
                    refine gAloadN X w d1_68 rfl rfl (n := 69) rfl ?_
                    refine gIloadN X w d1_69 rfl (n := 70) rfl ?_
                    refine gCallSv X w [(.ref ad1), (.int (2 : Int32))] [(.ref ad64), (.ref ad64)] (own_cpy_3_2 l Z a0 hw ad1 w0 w1 w2 hp64 n0 (Sd.le X) F_52 F_51) (own_wd hw 30 rfl) (own_wd hw 31 rfl) (own_wd hw 16 rfl) (own_wd hw 32 rfl) (by decide) own_pd5 rfl rfl d1_70 rfl (W := 2) (Nat.le_of_eq rfl) (by decide) (by decide) (by decide) (by decide) (n := 73) rfl ?_
                    rintro T h70 _ ⟨K70, d70, rfl, gd70, V70⟩ X
                    have ne_a_d70 : a ≠ d70 := neOf F_49.lt gd70
                    have ne_ad1_d70 : ad1 ≠ d70 := neOf F_51.lt gd70
                    have ne_ad64_d70 : ad64 ≠ d70 := neOf A64.lt gd70
                    have F_54 := F_49.keep K70 nin0
                    have F_55 := F_50.keep K70
                    have F_56 := F_51.keep K70
                    have F_57 := F_52.keep K70 nin0
                    have F_58 := A64.keep K70
                    have F_59 := F_53.keep K70 nin0
                    refine gCallIn X w [(.ref d70)] [(.ref ad64)] rfl (own_init l Z a0 hw ad64 d70 h70 n0 (Sd.le X) na64 F_58 F_59) (own_wd hw 35 rfl) (own_wd hw 36 rfl) (own_wd hw 3 rfl) (own_wd hw 37 rfl) (by decide) own_pd4 rfl rfl d1_73 rfl (W := 1) (Nat.le_of_eq rfl) (by decide) (by decide) (by decide) (by decide) (n := 76) rfl ?_
                    rintro T h73 ⟨K73, A73, F73⟩ X
                    have F_60 := F_54.keep K73 (ninS ne_a_ad64 nin0)
                    have F_61 := F_55.keep K73
                    have F_62 := F_56.keep K73
                    have F_63 := F_57.keep K73 (ninS ne_ad1_ad64 nin0)
                    have F_64 := F_58.keep K73
                    have F_65 := V70.keep K73 (ninS (Ne.symm ne_ad64_d70) nin0)
                    exact gRetA X w rfl rfl rfl d1_76 (by decide) (by decide) (⟨_, rfl, ((Kc2.ext E64).trans K70 all0).trans K73 (allS (Or.inr (Nat.le_trans Kc2.1 (Nat.le_of_eq ea64.symm))) all0), ad64, d70, [w0, w1], rfl, Nat.le_trans Kc2.1 (Nat.le_of_eq ea64.symm), Nat.le_trans (Kc2.ext E64).1 gd70, (Ne.symm ne_ad64_d70), A73, F73, F_65, (by show (2 : Nat) ≤ 4; decide), by simp only [own_asc, List.pairwise_cons, List.mem_cons, List.not_mem_nil, or_false, forall_eq_or_imp, forall_eq, false_implies, implies_true, List.Pairwise.nil, and_true] <;> omega, fun y => by rw [← m9 y]; simp only [List.mem_cons, List.not_mem_nil, or_false, ← Int32.toInt_inj] <;> omega⟩)
                  · intro c27
                    exact absurd c27 (by decide)
                · rintro ⟨c47, c47'⟩
                  refine gAloadN X w d1_50 rfl rfl (n := 51) rfl ?_
                  refine gIloadN X w d1_51 rfl (n := 52) rfl ?_
                  refine gIinc X w d1_52 rfl (z := (3 : Int32)) (by decide) #[.val (.ref a), .val (.ref ad1), .val (.int (3 : Int32)), .val (.ref ad1), .val (.int (3 : Int32)), .val (.int (2 : Int32)), .val (.int w2)] rfl (n := 55) rfl ?_
                  refine gIload X w d1_55 rfl (n := 57) rfl ?_
                  refine gIastore X w (z := (.int w2)) V57 (by decide) (show (2 : Int) < ((3 : Nat) : Int) from by decide) na1 rfl (vs' := [(.int w0), (.int w1), (.int w2)]) rfl d1_57 (n := 58) rfl ?_
                  intro T hp57 X W57 V57
                  have F_66 := F_46.other W57 ne_a_ad1
                  have F_67 := F_47.wr W57
                  have F_68 := F_48.wr W57
                  have Kc3 := Kc2.wr W57 (Or.inr (Nat.le_of_eq ea1.symm))
                  refine gIinc X w d1_58 rfl (z := (3 : Int32)) (by decide) #[.val (.ref a), .val (.ref ad1), .val (.int (3 : Int32)), .val (.ref ad1), .val (.int (3 : Int32)), .val (.int (3 : Int32)), .val (.int w2)] rfl (n := 61) rfl ?_
                  refine gGoto X w d1_61 (by decide) (n := 23) rfl ?_
                  refine gIload X w d1_23 rfl (n := 25) rfl ?_
                  refine gIload X w d1_25 rfl (n := 27) rfl ?_
                  refine gIcmp_ge X w d1_27 (n := 64) (n' := 30) (by decide) rfl rfl ?_ ?_
                  · intro c27
                    refine gNew X w (own_wd hw 28 rfl) (own_wd hw 29 rfl) (own_wd hw 3 rfl) d1_64 (by decide) (by decide) (n := 67) rfl ?_
                    intro T hp64 ad64 ea64 na64 X E64 A64 D64
                    have ne_a_ad64 : a ≠ ad64 := neOf F_66.lt (Nat.le_of_eq ea64.symm)
                    have ne_ad1_ad64 : ad1 ≠ ad64 := neOf F_68.lt (Nat.le_of_eq ea64.symm)
                    have F_69 := F_66.ext E64
                    have F_70 := F_67.ext E64
                    have F_71 := F_68.ext E64
                    have F_72 := V57.ext E64
                    have F_73 : Fld Z hp64 ad64 "com/example/reja/reja/IdSet" "ids" "[I" .null := D64 (Or.inr (own_wd hw 42 rfl)) (ty := (.array .int)) (by decide)
                    refine gDup X w d1_67 rfl (n := 68) rfl ?_
                    refine gAloadN X w d1_68 rfl rfl (n := 69) rfl ?_
                    refine gIloadN X w d1_69 rfl (n := 70) rfl ?_
                    refine gCallSv X w [(.ref ad1), (.int (3 : Int32))] [(.ref ad64), (.ref ad64)] (own_cpy_3_3 l Z a0 hw ad1 w0 w1 w2 hp64 n0 (Sd.le X) F_72 F_71) (own_wd hw 30 rfl) (own_wd hw 31 rfl) (own_wd hw 16 rfl) (own_wd hw 32 rfl) (by decide) own_pd5 rfl rfl d1_70 rfl (W := 2) (Nat.le_of_eq rfl) (by decide) (by decide) (by decide) (by decide) (n := 73) rfl ?_
                    rintro T h70 _ ⟨K70, d70, rfl, gd70, V70⟩ X
                    have ne_a_d70 : a ≠ d70 := neOf F_69.lt gd70
                    have ne_ad1_d70 : ad1 ≠ d70 := neOf F_71.lt gd70
                    have ne_ad64_d70 : ad64 ≠ d70 := neOf A64.lt gd70
                    have F_74 := F_69.keep K70 nin0
                    have F_75 := F_70.keep K70
                    have F_76 := F_71.keep K70
                    have F_77 := F_72.keep K70 nin0
                    have F_78 := A64.keep K70
                    have F_79 := F_73.keep K70 nin0
                    refine gCallIn X w [(.ref d70)] [(.ref ad64)] rfl (own_init l Z a0 hw ad64 d70 h70 n0 (Sd.le X) na64 F_78 F_79) (own_wd hw 35 rfl) (own_wd hw 36 rfl) (own_wd hw 3 rfl) (own_wd hw 37 rfl) (by decide) own_pd4 rfl rfl d1_73 rfl (W := 1) (Nat.le_of_eq rfl) (by decide) (by decide) (by decide) (by decide) (n := 76) rfl ?_
                    rintro T h73 ⟨K73, A73, F73⟩ X
                    have F_80 := F_74.keep K73 (ninS ne_a_ad64 nin0)
                    have F_81 := F_75.keep K73
                    have F_82 := F_76.keep K73
                    have F_83 := F_77.keep K73 (ninS ne_ad1_ad64 nin0)
                    have F_84 := F_78.keep K73
                    have F_85 := V70.keep K73 (ninS (Ne.symm ne_ad64_d70) nin0)
                    exact gRetA X w rfl rfl rfl d1_76 (by decide) (by decide) (⟨_, rfl, ((Kc3.ext E64).trans K70 all0).trans K73 (allS (Or.inr (Nat.le_trans Kc3.1 (Nat.le_of_eq ea64.symm))) all0), ad64, d70, [w0, w1, w2], rfl, Nat.le_trans Kc3.1 (Nat.le_of_eq ea64.symm), Nat.le_trans (Kc3.ext E64).1 gd70, (Ne.symm ne_ad64_d70), A73, F73, F_85, (by show (3 : Nat) ≤ 4; decide), by simp only [own_asc, List.pairwise_cons, List.mem_cons, List.not_mem_nil, or_false, forall_eq_or_imp, forall_eq, false_implies, implies_true, List.Pairwise.nil, and_true] <;> omega, fun y => by rw [← m9 y]; simp only [List.mem_cons, List.not_mem_nil, or_false, ← Int32.toInt_inj] <;> omega⟩)
                  · intro c27
                    exact absurd c27 (by decide)
    · rintro ⟨c37, c37'⟩
      exact absurd c37 (by decide)
set_option maxRecDepth 65536 in
set_option maxHeartbeats 40000000 in
theorem own_unt_3 (l : Launch) (Z : State) (a0 : Array Value) (hw : ∀ d ∈ tables_1, d.before a0 Z = true) (a : Addr) (z0 z1 z2 z3 : Int32) (h0 : Heap) (n0 : Nat) (hn : n0 ≤ h0.size) (V : Av Z h0 a .int [.int z0, .int z1, .int z2]) :
    ConV l Z (⟨"com/example/reja/reja/IdSetOfPinLaw", "untouched", "([IIIIII)Z"⟩ : MethodName) method_2_code 6 (some .boolean) ({ frames := 0, cells := 0, slots := 0, locals := 0 } : Room) #[(.ref a), (.int (3 : Int32)), (.int z0), (.int z1), (.int z2), (.int z3)] h0 n0 (fun v h => h0 = h ∧ v = .int 1) := by
  refine Con.of (plainFor_of_name (by first | (simp [plainName, overriddenIn]; done) | decide +kernel)) hn ?_
  intro p e s m below meth c T w X
  refine Gl.enter (ls := #[.val (.ref a), .val (.int (3 : Int32)), .val (.int z0), .val (.int z1), .val (.int z2), .val (.int z3)]) (by first | (simp [entryFrame, mkF, argsToLocals, Value.category]; done) | rfl) ?_
  refine gAloadN X w d9_0 rfl rfl (n := 1) rfl ?_
  refine gAlen X w V (z := (3 : Int32)) rfl d9_1 (n := 2) rfl ?_
  refine gIloadN X w d9_2 rfl (n := 3) rfl ?_
  refine gIcmp_eq X w d9_3 (n := 8) (n' := 6) (by decide) rfl rfl ?_ ?_
  · rintro ⟨c3, c3'⟩
    refine gIloadN X w d9_8 rfl (n := 9) rfl ?_
    refine gIconst X w d9_9 (z := (1 : Int32)) rfl (n := 10) rfl ?_
    refine gIcmp_lt X w d9_10 (n := 22) (n' := 13) (by decide) rfl rfl ?_ ?_
    · intro c10
      exact absurd c10 (by decide)
    · intro c10
      refine gAloadN X w d9_13 rfl rfl (n := 14) rfl ?_
      refine gIconst X w d9_14 (z := (0 : Int32)) rfl (n := 15) rfl ?_
      refine gIaload X w V (by decide) rfl d9_15 (n := 16) rfl ?_
      refine gIloadN X w d9_16 rfl (n := 17) rfl ?_
      refine gIcmp_eq X w d9_17 (n := 22) (n' := 20) (by decide) rfl rfl ?_ ?_
      · rintro ⟨c17, c17'⟩
        refine gIloadN X w d9_22 rfl (n := 23) rfl ?_
        refine gIconst X w d9_23 (z := (2 : Int32)) rfl (n := 24) rfl ?_
        refine gIcmp_lt X w d9_24 (n := 36) (n' := 27) (by decide) rfl rfl ?_ ?_
        · intro c24
          exact absurd c24 (by decide)
        · intro c24
          refine gAloadN X w d9_27 rfl rfl (n := 28) rfl ?_
          refine gIconst X w d9_28 (z := (1 : Int32)) rfl (n := 29) rfl ?_
          refine gIaload X w V (by decide) rfl d9_29 (n := 30) rfl ?_
          refine gIloadN X w d9_30 rfl (n := 31) rfl ?_
          refine gIcmp_eq X w d9_31 (n := 36) (n' := 34) (by decide) rfl rfl ?_ ?_
          · rintro ⟨c31, c31'⟩
            refine gIloadN X w d9_36 rfl (n := 37) rfl ?_
            refine gIconst X w d9_37 (z := (3 : Int32)) rfl (n := 38) rfl ?_
            refine gIcmp_lt X w d9_38 (n := 51) (n' := 41) (by decide) rfl rfl ?_ ?_
            · intro c38
              exact absurd c38 (by decide)
            · intro c38
              refine gAloadN X w d9_41 rfl rfl (n := 42) rfl ?_
              refine gIconst X w d9_42 (z := (2 : Int32)) rfl (n := 43) rfl ?_
              refine gIaload X w V (by decide) rfl d9_43 (n := 44) rfl ?_
              refine gIload X w d9_44 rfl (n := 46) rfl ?_
              refine gIcmp_eq X w d9_46 (n := 51) (n' := 49) (by decide) rfl rfl ?_ ?_
              · rintro ⟨c46, c46'⟩
                refine gIloadN X w d9_51 rfl (n := 52) rfl ?_
                refine gIconst X w d9_52 (z := (4 : Int32)) rfl (n := 53) rfl ?_
                refine gIcmp_lt X w d9_53 (n := 66) (n' := 56) (by decide) rfl rfl ?_ ?_
                · intro c53
                  refine gIconst X w d9_66 (z := (1 : Int32)) rfl (n := 67) rfl ?_
                  exact gRetZ X w rfl (Or.inr rfl) d9_67 (by decide) (by decide) (⟨_, rfl, rfl, rfl⟩)
                · intro c53
                  exact absurd c53 (by decide)
              · rintro ⟨c46, c46'⟩
                exact absurd rfl c46
          · rintro ⟨c31, c31'⟩
            exact absurd rfl c31
      · rintro ⟨c17, c17'⟩
        exact absurd rfl c17
  · rintro ⟨c3, c3'⟩
    exact absurd c3 (by decide)
set_option maxRecDepth 65536 in
set_option maxHeartbeats 40000000 in
theorem own_of_4 (l : Launch) (Z : State) (a0 : Array Value) (hw : ∀ d ∈ tables_1, d.before a0 Z = true) (a : Addr) (z0 z1 z2 z3 : Int32) (h0 : Heap) (n0 : Nat) (hn : n0 ≤ h0.size) (V : Av Z h0 a .int [.int z0, .int z1, .int z2, .int z3]) (E : Exa Z h0 a "[I") :
    ConV l Z (⟨"com/example/reja/reja/IdSet", "of", "([I)Lcom/example/reja/reja/IdSet;"⟩ : MethodName) prog_3_method_2_code 7 (some (.object "com/example/reja/reja/IdSet")) ({ frames := 4, cells := 3, slots := 9, locals := 79 } : Room) #[(.ref a)] h0 n0 (fun v h => Keep h0 h [] ∧ ∃ (b d : Addr) (us : List Int32), v = .ref b ∧ h0.size ≤ b ∧ h0.size ≤ d ∧ d ≠ b ∧ Exa Z h b "com/example/reja/reja/IdSet" ∧ Fld Z h b "com/example/reja/reja/IdSet" "ids" "[I" (.ref d) ∧ Av Z h d .int (us.map Value.int) ∧ us.length ≤ 4 ∧ own_asc us ∧ ∀ y, y ∈ us ↔ (y = z0 ∨ y = z1 ∨ y = z2 ∨ y = z3)) := by
  refine Con.of (plainFor_of_name (by first | (simp [plainName, overriddenIn]; done) | decide +kernel)) hn ?_
  intro p e s m below meth c T w X
  refine Gl.enter (ls := #[.val (.ref a), .unset, .unset, .unset, .unset, .unset, .unset]) (by first | (simp [entryFrame, mkF, argsToLocals, Value.category]; done) | rfl) ?_
  refine gAloadN X w d1_0 rfl rfl (n := 1) rfl ?_
  refine gClone X w V E (own_fitI (by intro v hv; simp only [List.mem_cons, List.not_mem_nil, or_false] at hv; rcases hv with rfl | rfl | rfl | rfl <;> exact ⟨_, rfl⟩)) (own_wd hw 5 rfl) (own_wd hw 6 rfl) (own_wd hw 10 rfl) (own_wd hw 8 rfl) (own_wd hw 9 rfl) (own_wd hw 11 rfl) d1_1 rfl (by decide) (W := 0) (Nat.le_of_eq rfl) (by decide) (cap := 4) (by show (4 : Nat) ≤ 4; decide) (by decide) (by decide) (n := 4) rfl ?_
  intro T hp1 ad1 ea1 na1 X E1 V1 A1
  have ne_a_ad1 : a ≠ ad1 := neOf V.lt (Nat.le_of_eq ea1.symm)
  have F_1 := V.ext E1
  have F_2 := E.ext E1
  refine gCast X w (own_wd hw 12 rfl) (Ins.self A1) d1_4 (n := 7) rfl ?_
  intro T X
  refine gAstoreN X w d1_7 rfl #[.val (.ref a), .val (.ref ad1), .unset, .unset, .unset, .unset, .unset] rfl (n := 8) rfl ?_
  refine gAloadN X w d1_8 rfl rfl (n := 9) rfl ?_
  refine gCallSn X w [(.ref ad1)] [] (own_srt_4 l Z a0 hw ad1 z0 z1 z2 z3 hp1 n0 (Sd.le X) na1 V1) (own_wd hw 14 rfl) (own_wd hw 15 rfl) (own_wd hw 16 rfl) (own_wd hw 17 rfl) (by decide) own_pd4 rfl rfl d1_9 rfl (W := 0) (Nat.le_of_eq rfl) (by decide) (by decide) (by decide) (by decide) (n := 12) rfl ?_
  rintro T h9 ⟨K9, w0, w1, w2, w3, V9, s0, s1, s2, m9⟩ X
  have F_3 := F_1.keep K9 (ninS ne_a_ad1 nin0)
  have F_4 := F_2.keep K9
  have F_5 := A1.keep K9
  refine gIconst X w d1_12 (z := (0 : Int32)) rfl (n := 13) rfl ?_
  refine gIstoreN X w d1_13 #[.val (.ref a), .val (.ref ad1), .val (.int (0 : Int32)), .unset, .unset, .unset, .unset] rfl (n := 14) rfl ?_
  refine gAloadN X w d1_14 rfl rfl (n := 15) rfl ?_
  refine gAstoreN X w d1_15 rfl #[.val (.ref a), .val (.ref ad1), .val (.int (0 : Int32)), .val (.ref ad1), .unset, .unset, .unset] rfl (n := 16) rfl ?_
  refine gAloadN X w d1_16 rfl rfl (n := 17) rfl ?_
  refine gAlen X w V9 (z := (4 : Int32)) rfl d1_17 (n := 18) rfl ?_
  refine gIstore X w d1_18 #[.val (.ref a), .val (.ref ad1), .val (.int (0 : Int32)), .val (.ref ad1), .val (.int (4 : Int32)), .unset, .unset] rfl (n := 20) rfl ?_
  refine gIconst X w d1_20 (z := (0 : Int32)) rfl (n := 21) rfl ?_
  refine gIstore X w d1_21 #[.val (.ref a), .val (.ref ad1), .val (.int (0 : Int32)), .val (.ref ad1), .val (.int (4 : Int32)), .val (.int (0 : Int32)), .unset] rfl (n := 23) rfl ?_
  refine gIload X w d1_23 rfl (n := 25) rfl ?_
  refine gIload X w d1_25 rfl (n := 27) rfl ?_
  refine gIcmp_ge X w d1_27 (n := 64) (n' := 30) (by decide) rfl rfl ?_ ?_
  · intro c27
    exact absurd c27 (by decide)
  · intro c27
    refine gAloadN X w d1_30 rfl rfl (n := 31) rfl ?_
    refine gIload X w d1_31 rfl (n := 33) rfl ?_
    refine gIaload X w V9 (by decide) rfl d1_33 (n := 34) rfl ?_
    refine gIstore X w d1_34 #[.val (.ref a), .val (.ref ad1), .val (.int (0 : Int32)), .val (.ref ad1), .val (.int (4 : Int32)), .val (.int (0 : Int32)), .val (.int w0)] rfl (n := 36) rfl ?_
    refine gIloadN X w d1_36 rfl (n := 37) rfl ?_
    refine gIf_eq X w d1_37 (n := 50) (n' := 40) (by decide) rfl rfl ?_ ?_
    · rintro ⟨c37, c37'⟩
      refine gAloadN X w d1_50 rfl rfl (n := 51) rfl ?_
      refine gIloadN X w d1_51 rfl (n := 52) rfl ?_
      refine gIinc X w d1_52 rfl (z := (1 : Int32)) (by decide) #[.val (.ref a), .val (.ref ad1), .val (.int (1 : Int32)), .val (.ref ad1), .val (.int (4 : Int32)), .val (.int (0 : Int32)), .val (.int w0)] rfl (n := 55) rfl ?_
      refine gIload X w d1_55 rfl (n := 57) rfl ?_
      refine gIastore X w (z := (.int w0)) V9 (by decide) (show (0 : Int) < ((4 : Nat) : Int) from by decide) na1 rfl (vs' := [(.int w0), (.int w1), (.int w2), (.int w3)]) rfl d1_57 (n := 58) rfl ?_
      intro T hp57 X W57 V57
      have F_6 := F_3.other W57 ne_a_ad1
      have F_7 := F_4.wr W57
      have F_8 := F_5.wr W57
      have Kc1 := (((Keep.refl _ []).ext E1).trans K9 (allS (Or.inr (Nat.le_of_eq ea1.symm)) all0)).wr W57 (Or.inr (Nat.le_of_eq ea1.symm))
      refine gIinc X w d1_58 rfl (z := (1 : Int32)) (by decide) #[.val (.ref a), .val (.ref ad1), .val (.int (1 : Int32)), .val (.ref ad1), .val (.int (4 : Int32)), .val (.int (1 : Int32)), .val (.int w0)] rfl (n := 61) rfl ?_
      refine gGoto X w d1_61 (by decide) (n := 23) rfl ?_
      refine gIload X w d1_23 rfl (n := 25) rfl ?_
      refine gIload X w d1_25 rfl (n := 27) rfl ?_
      refine gIcmp_ge X w d1_27 (n := 64) (n' := 30) (by decide) rfl rfl ?_ ?_
      · intro c27
        exact absurd c27 (by decide)
      · intro c27
        refine gAloadN X w d1_30 rfl rfl (n := 31) rfl ?_
        refine gIload X w d1_31 rfl (n := 33) rfl ?_
        refine gIaload X w V57 (by decide) rfl d1_33 (n := 34) rfl ?_
        refine gIstore X w d1_34 #[.val (.ref a), .val (.ref ad1), .val (.int (1 : Int32)), .val (.ref ad1), .val (.int (4 : Int32)), .val (.int (1 : Int32)), .val (.int w1)] rfl (n := 36) rfl ?_
        refine gIloadN X w d1_36 rfl (n := 37) rfl ?_
        refine gIf_eq X w d1_37 (n := 50) (n' := 40) (by decide) rfl rfl ?_ ?_
        · rintro ⟨c37, c37'⟩
          exact absurd c37 (by decide)
        · rintro ⟨c37, c37'⟩
          refine gAloadN X w d1_40 rfl rfl (n := 41) rfl ?_
          refine gIloadN X w d1_41 rfl (n := 42) rfl ?_
          refine gIconst X w d1_42 (z := (1 : Int32)) rfl (n := 43) rfl ?_
          refine gIsub X w d1_43 (z := (0 : Int32)) (by decide) (n := 44) rfl ?_
          refine gIaload X w V57 (by decide) rfl d1_44 (n := 45) rfl ?_
          refine gIload X w d1_45 rfl (n := 47) rfl ?_
          refine gIcmp_eq X w d1_47 (n := 58) (n' := 50) (by decide) rfl rfl ?_ ?_
          · rintro ⟨c47, c47'⟩
            refine gIinc X w d1_58 rfl (z := (2 : Int32)) (by decide) #[.val (.ref a), .val (.ref ad1), .val (.int (1 : Int32)), .val (.ref ad1), .val (.int (4 : Int32)), .val (.int (2 : Int32)), .val (.int w1)] rfl (n := 61) rfl ?_
            refine gGoto X w d1_61 (by decide) (n := 23) rfl ?_
            refine gIload X w d1_23 rfl (n := 25) rfl ?_
            refine gIload X w d1_25 rfl (n := 27) rfl ?_
            refine gIcmp_ge X w d1_27 (n := 64) (n' := 30) (by decide) rfl rfl ?_ ?_
            · intro c27
              exact absurd c27 (by decide)
            · intro c27
              refine gAloadN X w d1_30 rfl rfl (n := 31) rfl ?_
              refine gIload X w d1_31 rfl (n := 33) rfl ?_
              refine gIaload X w V57 (by decide) rfl d1_33 (n := 34) rfl ?_
              refine gIstore X w d1_34 #[.val (.ref a), .val (.ref ad1), .val (.int (1 : Int32)), .val (.ref ad1), .val (.int (4 : Int32)), .val (.int (2 : Int32)), .val (.int w2)] rfl (n := 36) rfl ?_
              refine gIloadN X w d1_36 rfl (n := 37) rfl ?_
              refine gIf_eq X w d1_37 (n := 50) (n' := 40) (by decide) rfl rfl ?_ ?_
              · rintro ⟨c37, c37'⟩
                exact absurd c37 (by decide)
              · rintro ⟨c37, c37'⟩
                refine gAloadN X w d1_40 rfl rfl (n := 41) rfl ?_
                refine gIloadN X w d1_41 rfl (n := 42) rfl ?_
                refine gIconst X w d1_42 (z := (1 : Int32)) rfl (n := 43) rfl ?_
                refine gIsub X w d1_43 (z := (0 : Int32)) (by decide) (n := 44) rfl ?_
                refine gIaload X w V57 (by decide) rfl d1_44 (n := 45) rfl ?_
                refine gIload X w d1_45 rfl (n := 47) rfl ?_
                refine gIcmp_eq X w d1_47 (n := 58) (n' := 50) (by decide) rfl rfl ?_ ?_
                · rintro ⟨c47, c47'⟩
                  refine gIinc X w d1_58 rfl (z := (3 : Int32)) (by decide) #[.val (.ref a), .val (.ref ad1), .val (.int (1 : Int32)), .val (.ref ad1), .val (.int (4 : Int32)), .val (.int (3 : Int32)), .val (.int w2)] rfl (n := 61) rfl ?_
                  refine gGoto X w d1_61 (by decide) (n := 23) rfl ?_
                  refine gIload X w d1_23 rfl (n := 25) rfl ?_
                  refine gIload X w d1_25 rfl (n := 27) rfl ?_
                  refine gIcmp_ge X w d1_27 (n := 64) (n' := 30) (by decide) rfl rfl ?_ ?_
                  · intro c27
                    exact absurd c27 (by decide)
                  · intro c27
                    refine gAloadN X w d1_30 rfl rfl (n := 31) rfl ?_
                    refine gIload X w d1_31 rfl (n := 33) rfl ?_
                    refine gIaload X w V57 (by decide) rfl d1_33 (n := 34) rfl ?_
                    refine gIstore X w d1_34 #[.val (.ref a), .val (.ref ad1), .val (.int (1 : Int32)), .val (.ref ad1), .val (.int (4 : Int32)), .val (.int (3 : Int32)), .val (.int w3)] rfl (n := 36) rfl ?_
                    refine gIloadN X w d1_36 rfl (n := 37) rfl ?_
                    refine gIf_eq X w d1_37 (n := 50) (n' := 40) (by decide) rfl rfl ?_ ?_
                    · rintro ⟨c37, c37'⟩
                      exact absurd c37 (by decide)
                    · rintro ⟨c37, c37'⟩
                      refine gAloadN X w d1_40 rfl rfl (n := 41) rfl ?_
                      refine gIloadN X w d1_41 rfl (n := 42) rfl ?_
                      refine gIconst X w d1_42 (z := (1 : Int32)) rfl (n := 43) rfl ?_
                      refine gIsub X w d1_43 (z := (0 : Int32)) (by decide) (n := 44) rfl ?_
                      refine gIaload X w V57 (by decide) rfl d1_44 (n := 45) rfl ?_
                      refine gIload X w d1_45 rfl (n := 47) rfl ?_
                      refine gIcmp_eq X w d1_47 (n := 58) (n' := 50) (by decide) rfl rfl ?_ ?_
                      · rintro ⟨c47, c47'⟩
                        refine gIinc X w d1_58 rfl (z := (4 : Int32)) (by decide) #[.val (.ref a), .val (.ref ad1), .val (.int (1 : Int32)), .val (.ref ad1), .val (.int (4 : Int32)), .val (.int (4 : Int32)), .val (.int w3)] rfl (n := 61) rfl ?_
                        refine gGoto X w d1_61 (by decide) (n := 23) rfl ?_
                        refine gIload X w d1_23 rfl (n := 25) rfl ?_
                        refine gIload X w d1_25 rfl (n := 27) rfl ?_
                        refine gIcmp_ge X w d1_27 (n := 64) (n' := 30) (by decide) rfl rfl ?_ ?_
                        · intro c27
                          refine gNew X w (own_wd hw 28 rfl) (own_wd hw 29 rfl) (own_wd hw 3 rfl) d1_64 (by decide) (by decide) (n := 67) rfl ?_
                          intro T hp64 ad64 ea64 na64 X E64 A64 D64
                          have ne_a_ad64 : a ≠ ad64 := neOf F_6.lt (Nat.le_of_eq ea64.symm)
                          have ne_ad1_ad64 : ad1 ≠ ad64 := neOf F_8.lt (Nat.le_of_eq ea64.symm)
                          have F_9 := F_6.ext E64
                          have F_10 := F_7.ext E64
                          have F_11 := F_8.ext E64
                          have F_12 := V57.ext E64
                          have F_13 : Fld Z hp64 ad64 "com/example/reja/reja/IdSet" "ids" "[I" .null := D64 (Or.inr (own_wd hw 42 rfl)) (ty := (.array .int)) (by decide)
                          refine gDup X w d1_67 rfl (n := 68) rfl ?_
                          refine gAloadN X w d1_68 rfl rfl (n := 69) rfl ?_
                          refine gIloadN X w d1_69 rfl (n := 70) rfl ?_
                          refine gCallSv X w [(.ref ad1), (.int (1 : Int32))] [(.ref ad64), (.ref ad64)] (own_cpy_4_1 l Z a0 hw ad1 w0 w1 w2 w3 hp64 n0 (Sd.le X) F_12 F_11) (own_wd hw 30 rfl) (own_wd hw 31 rfl) (own_wd hw 16 rfl) (own_wd hw 32 rfl) (by decide) own_pd5 rfl rfl d1_70 rfl (W := 2) (Nat.le_of_eq rfl) (by decide) (by decide) (by decide) (by decide) (n := 73) rfl ?_
                          rintro T h70 _ ⟨K70, d70, rfl, gd70, V70⟩ X
                          have ne_a_d70 : a ≠ d70 := neOf F_9.lt gd70
                          have ne_ad1_d70 : ad1 ≠ d70 := neOf F_11.lt gd70
                          have ne_ad64_d70 : ad64 ≠ d70 := neOf A64.lt gd70
                          have F_14 := F_9.keep K70 nin0
                          have F_15 := F_10.keep K70
                          have F_16 := F_11.keep K70
                          have F_17 := F_12.keep K70 nin0
                          have F_18 := A64.keep K70
                          have F_19 := F_13.keep K70 nin0
                          refine gCallIn X w [(.ref d70)] [(.ref ad64)] rfl (own_init l Z a0 hw ad64 d70 h70 n0 (Sd.le X) na64 F_18 F_19) (own_wd hw 35 rfl) (own_wd hw 36 rfl) (own_wd hw 3 rfl) (own_wd hw 37 rfl) (by decide) own_pd4 rfl rfl d1_73 rfl (W := 1) (Nat.le_of_eq rfl) (by decide) (by decide) (by decide) (by decide) (n := 76) rfl ?_
                          rintro T h73 ⟨K73, A73, F73⟩ X
                          have F_20 := F_14.keep K73 (ninS ne_a_ad64 nin0)
                          have F_21 := F_15.keep K73
                          have F_22 := F_16.keep K73
                          have F_23 := F_17.keep K73 (ninS ne_ad1_ad64 nin0)
                          have F_24 := F_18.keep K73
                          have F_25 := V70.keep K73 (ninS (Ne.symm ne_ad64_d70) nin0)
                          exact gRetA X w rfl rfl rfl d1_76 (by decide) (by decide) (⟨_, rfl, ((Kc1.ext E64).trans K70 all0).trans K73 (allS (Or.inr (Nat.le_trans Kc1.1 (Nat.le_of_eq ea64.symm))) all0), ad64, d70, [w0], rfl, Nat.le_trans Kc1.1 (Nat.le_of_eq ea64.symm), Nat.le_trans (Kc1.ext E64).1 gd70, (Ne.symm ne_ad64_d70), A73, F73, F_25, (by show (1 : Nat) ≤ 4; decide), by simp [own_asc], fun y => by rw [← m9 y]; simp only [List.mem_cons, List.not_mem_nil, or_false, ← Int32.toInt_inj] <;> omega⟩)
                        · intro c27
                          exact absurd c27 (by decide)
                      · rintro ⟨c47, c47'⟩
                        refine gAloadN X w d1_50 rfl rfl (n := 51) rfl ?_
                        refine gIloadN X w d1_51 rfl (n := 52) rfl ?_
                        refine gIinc X w d1_52 rfl (z := (2 : Int32)) (by decide) #[.val (.ref a), .val (.ref ad1), .val (.int (2 : Int32)), .val (.ref ad1), .val (.int (4 : Int32)), .val (.int (3 : Int32)), .val (.int w3)] rfl (n := 55) rfl ?_
                        refine gIload X w d1_55 rfl (n := 57) rfl ?_
                        refine gIastore X w (z := (.int w3)) V57 (by decide) (show (1 : Int) < ((4 : Nat) : Int) from by decide) na1 rfl (vs' := [(.int w0), (.int w3), (.int w2), (.int w3)]) rfl d1_57 (n := 58) rfl ?_
                        intro T hp57 X W57 V57
                        have F_26 := F_6.other W57 ne_a_ad1
                        have F_27 := F_7.wr W57
                        have F_28 := F_8.wr W57
                        have Kc2 := Kc1.wr W57 (Or.inr (Nat.le_of_eq ea1.symm))
                        refine gIinc X w d1_58 rfl (z := (4 : Int32)) (by decide) #[.val (.ref a), .val (.ref ad1), .val (.int (2 : Int32)), .val (.ref ad1), .val (.int (4 : Int32)), .val (.int (4 : Int32)), .val (.int w3)] rfl (n := 61) rfl ?_
                        refine gGoto X w d1_61 (by decide) (n := 23) rfl ?_
                        refine gIload X w d1_23 rfl (n := 25) rfl ?_
                        refine gIload X w d1_25 rfl (n := 27) rfl ?_
                        refine gIcmp_ge X w d1_27 (n := 64) (n' := 30) (by decide) rfl rfl ?_ ?_
                        · intro c27
                          refine gNew X w (own_wd hw 28 rfl) (own_wd hw 29 rfl) (own_wd hw 3 rfl) d1_64 (by decide) (by decide) (n := 67) rfl ?_
                          intro T hp64 ad64 ea64 na64 X E64 A64 D64
                          have ne_a_ad64 : a ≠ ad64 := neOf F_26.lt (Nat.le_of_eq ea64.symm)
                          have ne_ad1_ad64 : ad1 ≠ ad64 := neOf F_28.lt (Nat.le_of_eq ea64.symm)
                          have F_29 := F_26.ext E64
                          have F_30 := F_27.ext E64
                          have F_31 := F_28.ext E64
                          have F_32 := V57.ext E64
                          have F_33 : Fld Z hp64 ad64 "com/example/reja/reja/IdSet" "ids" "[I" .null := D64 (Or.inr (own_wd hw 42 rfl)) (ty := (.array .int)) (by decide)
                          refine gDup X w d1_67 rfl (n := 68) rfl ?_
                          refine gAloadN X w d1_68 rfl rfl (n := 69) rfl ?_
                          refine gIloadN X w d1_69 rfl (n := 70) rfl ?_
                          refine gCallSv X w [(.ref ad1), (.int (2 : Int32))] [(.ref ad64), (.ref ad64)] (own_cpy_4_2 l Z a0 hw ad1 w0 w3 w2 w3 hp64 n0 (Sd.le X) F_32 F_31) (own_wd hw 30 rfl) (own_wd hw 31 rfl) (own_wd hw 16 rfl) (own_wd hw 32 rfl) (by decide) own_pd5 rfl rfl d1_70 rfl (W := 2) (Nat.le_of_eq rfl) (by decide) (by decide) (by decide) (by decide) (n := 73) rfl ?_
                          rintro T h70 _ ⟨K70, d70, rfl, gd70, V70⟩ X
                          have ne_a_d70 : a ≠ d70 := neOf F_29.lt gd70
                          have ne_ad1_d70 : ad1 ≠ d70 := neOf F_31.lt gd70
                          have ne_ad64_d70 : ad64 ≠ d70 := neOf A64.lt gd70
                          have F_34 := F_29.keep K70 nin0
                          have F_35 := F_30.keep K70
                          have F_36 := F_31.keep K70
                          have F_37 := F_32.keep K70 nin0
                          have F_38 := A64.keep K70
                          have F_39 := F_33.keep K70 nin0
                          refine gCallIn X w [(.ref d70)] [(.ref ad64)] rfl (own_init l Z a0 hw ad64 d70 h70 n0 (Sd.le X) na64 F_38 F_39) (own_wd hw 35 rfl) (own_wd hw 36 rfl) (own_wd hw 3 rfl) (own_wd hw 37 rfl) (by decide) own_pd4 rfl rfl d1_73 rfl (W := 1) (Nat.le_of_eq rfl) (by decide) (by decide) (by decide) (by decide) (n := 76) rfl ?_
                          rintro T h73 ⟨K73, A73, F73⟩ X
                          have F_40 := F_34.keep K73 (ninS ne_a_ad64 nin0)
                          have F_41 := F_35.keep K73
                          have F_42 := F_36.keep K73
                          have F_43 := F_37.keep K73 (ninS ne_ad1_ad64 nin0)
                          have F_44 := F_38.keep K73
                          have F_45 := V70.keep K73 (ninS (Ne.symm ne_ad64_d70) nin0)
                          exact gRetA X w rfl rfl rfl d1_76 (by decide) (by decide) (⟨_, rfl, ((Kc2.ext E64).trans K70 all0).trans K73 (allS (Or.inr (Nat.le_trans Kc2.1 (Nat.le_of_eq ea64.symm))) all0), ad64, d70, [w0, w3], rfl, Nat.le_trans Kc2.1 (Nat.le_of_eq ea64.symm), Nat.le_trans (Kc2.ext E64).1 gd70, (Ne.symm ne_ad64_d70), A73, F73, F_45, (by show (2 : Nat) ≤ 4; decide), by simp only [own_asc, List.pairwise_cons, List.mem_cons, List.not_mem_nil, or_false, forall_eq_or_imp, forall_eq, false_implies, implies_true, List.Pairwise.nil, and_true] <;> omega, fun y => by rw [← m9 y]; simp only [List.mem_cons, List.not_mem_nil, or_false, ← Int32.toInt_inj] <;> omega⟩)
                        · intro c27
                          exact absurd c27 (by decide)
                · rintro ⟨c47, c47'⟩
                  refine gAloadN X w d1_50 rfl rfl (n := 51) rfl ?_
                  refine gIloadN X w d1_51 rfl (n := 52) rfl ?_
                  refine gIinc X w d1_52 rfl (z := (2 : Int32)) (by decide) #[.val (.ref a), .val (.ref ad1), .val (.int (2 : Int32)), .val (.ref ad1), .val (.int (4 : Int32)), .val (.int (2 : Int32)), .val (.int w2)] rfl (n := 55) rfl ?_
                  refine gIload X w d1_55 rfl (n := 57) rfl ?_
                  refine gIastore X w (z := (.int w2)) V57 (by decide) (show (1 : Int) < ((4 : Nat) : Int) from by decide) na1 rfl (vs' := [(.int w0), (.int w2), (.int w2), (.int w3)]) rfl d1_57 (n := 58) rfl ?_
                  intro T hp57 X W57 V57
                  have F_46 := F_6.other W57 ne_a_ad1
                  have F_47 := F_7.wr W57
                  have F_48 := F_8.wr W57
                  have Kc2 := Kc1.wr W57 (Or.inr (Nat.le_of_eq ea1.symm))
                  refine gIinc X w d1_58 rfl (z := (3 : Int32)) (by decide) #[.val (.ref a), .val (.ref ad1), .val (.int (2 : Int32)), .val (.ref ad1), .val (.int (4 : Int32)), .val (.int (3 : Int32)), .val (.int w2)] rfl (n := 61) rfl ?_
                  refine gGoto X w d1_61 (by decide) (n := 23) rfl ?_
                  refine gIload X w d1_23 rfl (n := 25) rfl ?_
                  refine gIload X w d1_25 rfl (n := 27) rfl ?_
                  refine gIcmp_ge X w d1_27 (n := 64) (n' := 30) (by decide) rfl rfl ?_ ?_
                  · intro c27
                    exact absurd c27 (by decide)
                  · intro c27
                    refine gAloadN X w d1_30 rfl rfl (n := 31) rfl ?_
                    refine gIload X w d1_31 rfl (n := 33) rfl ?_
                    refine gIaload X w V57 (by decide) rfl d1_33 (n := 34) rfl ?_
                    refine gIstore X w d1_34 #[.val (.ref a), .val (.ref ad1), .val (.int (2 : Int32)), .val (.ref ad1), .val (.int (4 : Int32)), .val (.int (3 : Int32)), .val (.int w3)] rfl (n := 36) rfl ?_
                    refine gIloadN X w d1_36 rfl (n := 37) rfl ?_
                    refine gIf_eq X w d1_37 (n := 50) (n' := 40) (by decide) rfl rfl ?_ ?_
                    · rintro ⟨c37, c37'⟩
                      exact absurd c37 (by decide)
                    · rintro ⟨c37, c37'⟩
                      refine gAloadN X w d1_40 rfl rfl (n := 41) rfl ?_
                      refine gIloadN X w d1_41 rfl (n := 42) rfl ?_
                      refine gIconst X w d1_42 (z := (1 : Int32)) rfl (n := 43) rfl ?_
                      refine gIsub X w d1_43 (z := (1 : Int32)) (by decide) (n := 44) rfl ?_
                      refine gIaload X w V57 (by decide) rfl d1_44 (n := 45) rfl ?_
                      refine gIload X w d1_45 rfl (n := 47) rfl ?_
                      refine gIcmp_eq X w d1_47 (n := 58) (n' := 50) (by decide) rfl rfl ?_ ?_
                      · rintro ⟨c47, c47'⟩
                        refine gIinc X w d1_58 rfl (z := (4 : Int32)) (by decide) #[.val (.ref a), .val (.ref ad1), .val (.int (2 : Int32)), .val (.ref ad1), .val (.int (4 : Int32)), .val (.int (4 : Int32)), .val (.int w3)] rfl (n := 61) rfl ?_
                        refine gGoto X w d1_61 (by decide) (n := 23) rfl ?_
                        refine gIload X w d1_23 rfl (n := 25) rfl ?_
                        refine gIload X w d1_25 rfl (n := 27) rfl ?_
                        refine gIcmp_ge X w d1_27 (n := 64) (n' := 30) (by decide) rfl rfl ?_ ?_
                        · intro c27
                          refine gNew X w (own_wd hw 28 rfl) (own_wd hw 29 rfl) (own_wd hw 3 rfl) d1_64 (by decide) (by decide) (n := 67) rfl ?_
                          intro T hp64 ad64 ea64 na64 X E64 A64 D64
                          have ne_a_ad64 : a ≠ ad64 := neOf F_46.lt (Nat.le_of_eq ea64.symm)
                          have ne_ad1_ad64 : ad1 ≠ ad64 := neOf F_48.lt (Nat.le_of_eq ea64.symm)
                          have F_49 := F_46.ext E64
                          have F_50 := F_47.ext E64
                          have F_51 := F_48.ext E64
                          have F_52 := V57.ext E64
                          have F_53 : Fld Z hp64 ad64 "com/example/reja/reja/IdSet" "ids" "[I" .null := D64 (Or.inr (own_wd hw 42 rfl)) (ty := (.array .int)) (by decide)
                          refine gDup X w d1_67 rfl (n := 68) rfl ?_
                          refine gAloadN X w d1_68 rfl rfl (n := 69) rfl ?_
                          refine gIloadN X w d1_69 rfl (n := 70) rfl ?_
                          refine gCallSv X w [(.ref ad1), (.int (2 : Int32))] [(.ref ad64), (.ref ad64)] (own_cpy_4_2 l Z a0 hw ad1 w0 w2 w2 w3 hp64 n0 (Sd.le X) F_52 F_51) (own_wd hw 30 rfl) (own_wd hw 31 rfl) (own_wd hw 16 rfl) (own_wd hw 32 rfl) (by decide) own_pd5 rfl rfl d1_70 rfl (W := 2) (Nat.le_of_eq rfl) (by decide) (by decide) (by decide) (by decide) (n := 73) rfl ?_
                          rintro T h70 _ ⟨K70, d70, rfl, gd70, V70⟩ X
                          have ne_a_d70 : a ≠ d70 := neOf F_49.lt gd70
                          have ne_ad1_d70 : ad1 ≠ d70 := neOf F_51.lt gd70
                          have ne_ad64_d70 : ad64 ≠ d70 := neOf A64.lt gd70
                          have F_54 := F_49.keep K70 nin0
                          have F_55 := F_50.keep K70
                          have F_56 := F_51.keep K70
                          have F_57 := F_52.keep K70 nin0
                          have F_58 := A64.keep K70
                          have F_59 := F_53.keep K70 nin0
                          refine gCallIn X w [(.ref d70)] [(.ref ad64)] rfl (own_init l Z a0 hw ad64 d70 h70 n0 (Sd.le X) na64 F_58 F_59) (own_wd hw 35 rfl) (own_wd hw 36 rfl) (own_wd hw 3 rfl) (own_wd hw 37 rfl) (by decide) own_pd4 rfl rfl d1_73 rfl (W := 1) (Nat.le_of_eq rfl) (by decide) (by decide) (by decide) (by decide) (n := 76) rfl ?_
                          rintro T h73 ⟨K73, A73, F73⟩ X
                          have F_60 := F_54.keep K73 (ninS ne_a_ad64 nin0)
                          have F_61 := F_55.keep K73
                          have F_62 := F_56.keep K73
                          have F_63 := F_57.keep K73 (ninS ne_ad1_ad64 nin0)
                          have F_64 := F_58.keep K73
                          have F_65 := V70.keep K73 (ninS (Ne.symm ne_ad64_d70) nin0)
                          exact gRetA X w rfl rfl rfl d1_76 (by decide) (by decide) (⟨_, rfl, ((Kc2.ext E64).trans K70 all0).trans K73 (allS (Or.inr (Nat.le_trans Kc2.1 (Nat.le_of_eq ea64.symm))) all0), ad64, d70, [w0, w2], rfl, Nat.le_trans Kc2.1 (Nat.le_of_eq ea64.symm), Nat.le_trans (Kc2.ext E64).1 gd70, (Ne.symm ne_ad64_d70), A73, F73, F_65, (by show (2 : Nat) ≤ 4; decide), by simp only [own_asc, List.pairwise_cons, List.mem_cons, List.not_mem_nil, or_false, forall_eq_or_imp, forall_eq, false_implies, implies_true, List.Pairwise.nil, and_true] <;> omega, fun y => by rw [← m9 y]; simp only [List.mem_cons, List.not_mem_nil, or_false, ← Int32.toInt_inj] <;> omega⟩)
                        · intro c27
                          exact absurd c27 (by decide)
                      · rintro ⟨c47, c47'⟩
                        refine gAloadN X w d1_50 rfl rfl (n := 51) rfl ?_
                        refine gIloadN X w d1_51 rfl (n := 52) rfl ?_
                        refine gIinc X w d1_52 rfl (z := (3 : Int32)) (by decide) #[.val (.ref a), .val (.ref ad1), .val (.int (3 : Int32)), .val (.ref ad1), .val (.int (4 : Int32)), .val (.int (3 : Int32)), .val (.int w3)] rfl (n := 55) rfl ?_
                        refine gIload X w d1_55 rfl (n := 57) rfl ?_
                        refine gIastore X w (z := (.int w3)) V57 (by decide) (show (2 : Int) < ((4 : Nat) : Int) from by decide) na1 rfl (vs' := [(.int w0), (.int w2), (.int w3), (.int w3)]) rfl d1_57 (n := 58) rfl ?_
                        intro T hp57 X W57 V57
                        have F_66 := F_46.other W57 ne_a_ad1
                        have F_67 := F_47.wr W57
                        have F_68 := F_48.wr W57
                        have Kc3 := Kc2.wr W57 (Or.inr (Nat.le_of_eq ea1.symm))
                        refine gIinc X w d1_58 rfl (z := (4 : Int32)) (by decide) #[.val (.ref a), .val (.ref ad1), .val (.int (3 : Int32)), .val (.ref ad1), .val (.int (4 : Int32)), .val (.int (4 : Int32)), .val (.int w3)] rfl (n := 61) rfl ?_
                        refine gGoto X w d1_61 (by decide) (n := 23) rfl ?_
                        refine gIload X w d1_23 rfl (n := 25) rfl ?_
                        refine gIload X w d1_25 rfl (n := 27) rfl ?_
                        refine gIcmp_ge X w d1_27 (n := 64) (n' := 30) (by decide) rfl rfl ?_ ?_
                        · intro c27
                          refine gNew X w (own_wd hw 28 rfl) (own_wd hw 29 rfl) (own_wd hw 3 rfl) d1_64 (by decide) (by decide) (n := 67) rfl ?_
                          intro T hp64 ad64 ea64 na64 X E64 A64 D64
                          have ne_a_ad64 : a ≠ ad64 := neOf F_66.lt (Nat.le_of_eq ea64.symm)
                          have ne_ad1_ad64 : ad1 ≠ ad64 := neOf F_68.lt (Nat.le_of_eq ea64.symm)
                          have F_69 := F_66.ext E64
                          have F_70 := F_67.ext E64
                          have F_71 := F_68.ext E64
                          have F_72 := V57.ext E64
                          have F_73 : Fld Z hp64 ad64 "com/example/reja/reja/IdSet" "ids" "[I" .null := D64 (Or.inr (own_wd hw 42 rfl)) (ty := (.array .int)) (by decide)
                          refine gDup X w d1_67 rfl (n := 68) rfl ?_
                          refine gAloadN X w d1_68 rfl rfl (n := 69) rfl ?_
                          refine gIloadN X w d1_69 rfl (n := 70) rfl ?_
                          refine gCallSv X w [(.ref ad1), (.int (3 : Int32))] [(.ref ad64), (.ref ad64)] (own_cpy_4_3 l Z a0 hw ad1 w0 w2 w3 w3 hp64 n0 (Sd.le X) F_72 F_71) (own_wd hw 30 rfl) (own_wd hw 31 rfl) (own_wd hw 16 rfl) (own_wd hw 32 rfl) (by decide) own_pd5 rfl rfl d1_70 rfl (W := 2) (Nat.le_of_eq rfl) (by decide) (by decide) (by decide) (by decide) (n := 73) rfl ?_
                          rintro T h70 _ ⟨K70, d70, rfl, gd70, V70⟩ X
                          have ne_a_d70 : a ≠ d70 := neOf F_69.lt gd70
                          have ne_ad1_d70 : ad1 ≠ d70 := neOf F_71.lt gd70
                          have ne_ad64_d70 : ad64 ≠ d70 := neOf A64.lt gd70
                          have F_74 := F_69.keep K70 nin0
                          have F_75 := F_70.keep K70
                          have F_76 := F_71.keep K70
                          have F_77 := F_72.keep K70 nin0
                          have F_78 := A64.keep K70
                          have F_79 := F_73.keep K70 nin0
                          refine gCallIn X w [(.ref d70)] [(.ref ad64)] rfl (own_init l Z a0 hw ad64 d70 h70 n0 (Sd.le X) na64 F_78 F_79) (own_wd hw 35 rfl) (own_wd hw 36 rfl) (own_wd hw 3 rfl) (own_wd hw 37 rfl) (by decide) own_pd4 rfl rfl d1_73 rfl (W := 1) (Nat.le_of_eq rfl) (by decide) (by decide) (by decide) (by decide) (n := 76) rfl ?_
                          rintro T h73 ⟨K73, A73, F73⟩ X
                          have F_80 := F_74.keep K73 (ninS ne_a_ad64 nin0)
                          have F_81 := F_75.keep K73
                          have F_82 := F_76.keep K73
                          have F_83 := F_77.keep K73 (ninS ne_ad1_ad64 nin0)
                          have F_84 := F_78.keep K73
                          have F_85 := V70.keep K73 (ninS (Ne.symm ne_ad64_d70) nin0)
                          exact gRetA X w rfl rfl rfl d1_76 (by decide) (by decide) (⟨_, rfl, ((Kc3.ext E64).trans K70 all0).trans K73 (allS (Or.inr (Nat.le_trans Kc3.1 (Nat.le_of_eq ea64.symm))) all0), ad64, d70, [w0, w2, w3], rfl, Nat.le_trans Kc3.1 (Nat.le_of_eq ea64.symm), Nat.le_trans (Kc3.ext E64).1 gd70, (Ne.symm ne_ad64_d70), A73, F73, F_85, (by show (3 : Nat) ≤ 4; decide), by simp only [own_asc, List.pairwise_cons, List.mem_cons, List.not_mem_nil, or_false, forall_eq_or_imp, forall_eq, false_implies, implies_true, List.Pairwise.nil, and_true] <;> omega, fun y => by rw [← m9 y]; simp only [List.mem_cons, List.not_mem_nil, or_false, ← Int32.toInt_inj] <;> omega⟩)
                        · intro c27
                          exact absurd c27 (by decide)
          · rintro ⟨c47, c47'⟩
            refine gAloadN X w d1_50 rfl rfl (n := 51) rfl ?_
            refine gIloadN X w d1_51 rfl (n := 52) rfl ?_
            refine gIinc X w d1_52 rfl (z := (2 : Int32)) (by decide) #[.val (.ref a), .val (.ref ad1), .val (.int (2 : Int32)), .val (.ref ad1), .val (.int (4 : Int32)), .val (.int (1 : Int32)), .val (.int w1)] rfl (n := 55) rfl ?_
            refine gIload X w d1_55 rfl (n := 57) rfl ?_
            refine gIastore X w (z := (.int w1)) V57 (by decide) (show (1 : Int) < ((4 : Nat) : Int) from by decide) na1 rfl (vs' := [(.int w0), (.int w1), (.int w2), (.int w3)]) rfl d1_57 (n := 58) rfl ?_
            intro T hp57 X W57 V57
            have F_86 := F_6.other W57 ne_a_ad1
            have F_87 := F_7.wr W57
            have F_88 := F_8.wr W57
            have Kc2 := Kc1.wr W57 (Or.inr (Nat.le_of_eq ea1.symm))
            refine gIinc X w d1_58 rfl (z := (2 : Int32)) (by decide) #[.val (.ref a), .val (.ref ad1), .val (.int (2 : Int32)), .val (.ref ad1), .val (.int (4 : Int32)), .val (.int (2 : Int32)), .val (.int w1)] rfl (n := 61) rfl ?_
            refine gGoto X w d1_61 (by decide) (n := 23) rfl ?_
            refine gIload X w d1_23 rfl (n := 25) rfl ?_
            refine gIload X w d1_25 rfl (n := 27) rfl ?_
            refine gIcmp_ge X w d1_27 (n := 64) (n' := 30) (by decide) rfl rfl ?_ ?_
            · intro c27
              exact absurd c27 (by decide)
            · intro c27
              refine gAloadN X w d1_30 rfl rfl (n := 31) rfl ?_
              refine gIload X w d1_31 rfl (n := 33) rfl ?_
              refine gIaload X w V57 (by decide) rfl d1_33 (n := 34) rfl ?_
              refine gIstore X w d1_34 #[.val (.ref a), .val (.ref ad1), .val (.int (2 : Int32)), .val (.ref ad1), .val (.int (4 : Int32)), .val (.int (2 : Int32)), .val (.int w2)] rfl (n := 36) rfl ?_
              refine gIloadN X w d1_36 rfl (n := 37) rfl ?_
              refine gIf_eq X w d1_37 (n := 50) (n' := 40) (by decide) rfl rfl ?_ ?_
              · rintro ⟨c37, c37'⟩
                exact absurd c37 (by decide)
              · rintro ⟨c37, c37'⟩
                refine gAloadN X w d1_40 rfl rfl (n := 41) rfl ?_
                refine gIloadN X w d1_41 rfl (n := 42) rfl ?_
                refine gIconst X w d1_42 (z := (1 : Int32)) rfl (n := 43) rfl ?_
                refine gIsub X w d1_43 (z := (1 : Int32)) (by decide) (n := 44) rfl ?_
                refine gIaload X w V57 (by decide) rfl d1_44 (n := 45) rfl ?_
                refine gIload X w d1_45 rfl (n := 47) rfl ?_
                refine gIcmp_eq X w d1_47 (n := 58) (n' := 50) (by decide) rfl rfl ?_ ?_
                · rintro ⟨c47, c47'⟩
                  refine gIinc X w d1_58 rfl (z := (3 : Int32)) (by decide) #[.val (.ref a), .val (.ref ad1), .val (.int (2 : Int32)), .val (.ref ad1), .val (.int (4 : Int32)), .val (.int (3 : Int32)), .val (.int w2)] rfl (n := 61) rfl ?_
                  refine gGoto X w d1_61 (by decide) (n := 23) rfl ?_
                  refine gIload X w d1_23 rfl (n := 25) rfl ?_
                  refine gIload X w d1_25 rfl (n := 27) rfl ?_
                  refine gIcmp_ge X w d1_27 (n := 64) (n' := 30) (by decide) rfl rfl ?_ ?_
                  · intro c27
                    exact absurd c27 (by decide)
                  · intro c27
                    refine gAloadN X w d1_30 rfl rfl (n := 31) rfl ?_
                    refine gIload X w d1_31 rfl (n := 33) rfl ?_
                    refine gIaload X w V57 (by decide) rfl d1_33 (n := 34) rfl ?_
                    refine gIstore X w d1_34 #[.val (.ref a), .val (.ref ad1), .val (.int (2 : Int32)), .val (.ref ad1), .val (.int (4 : Int32)), .val (.int (3 : Int32)), .val (.int w3)] rfl (n := 36) rfl ?_
                    refine gIloadN X w d1_36 rfl (n := 37) rfl ?_
                    refine gIf_eq X w d1_37 (n := 50) (n' := 40) (by decide) rfl rfl ?_ ?_
                    · rintro ⟨c37, c37'⟩
                      exact absurd c37 (by decide)
                    · rintro ⟨c37, c37'⟩
                      refine gAloadN X w d1_40 rfl rfl (n := 41) rfl ?_
                      refine gIloadN X w d1_41 rfl (n := 42) rfl ?_
                      refine gIconst X w d1_42 (z := (1 : Int32)) rfl (n := 43) rfl ?_
                      refine gIsub X w d1_43 (z := (1 : Int32)) (by decide) (n := 44) rfl ?_
                      refine gIaload X w V57 (by decide) rfl d1_44 (n := 45) rfl ?_
                      refine gIload X w d1_45 rfl (n := 47) rfl ?_
                      refine gIcmp_eq X w d1_47 (n := 58) (n' := 50) (by decide) rfl rfl ?_ ?_
                      · rintro ⟨c47, c47'⟩
                        refine gIinc X w d1_58 rfl (z := (4 : Int32)) (by decide) #[.val (.ref a), .val (.ref ad1), .val (.int (2 : Int32)), .val (.ref ad1), .val (.int (4 : Int32)), .val (.int (4 : Int32)), .val (.int w3)] rfl (n := 61) rfl ?_
                        refine gGoto X w d1_61 (by decide) (n := 23) rfl ?_
                        refine gIload X w d1_23 rfl (n := 25) rfl ?_
                        refine gIload X w d1_25 rfl (n := 27) rfl ?_
                        refine gIcmp_ge X w d1_27 (n := 64) (n' := 30) (by decide) rfl rfl ?_ ?_
                        · intro c27
                          refine gNew X w (own_wd hw 28 rfl) (own_wd hw 29 rfl) (own_wd hw 3 rfl) d1_64 (by decide) (by decide) (n := 67) rfl ?_
                          intro T hp64 ad64 ea64 na64 X E64 A64 D64
                          have ne_a_ad64 : a ≠ ad64 := neOf F_86.lt (Nat.le_of_eq ea64.symm)
                          have ne_ad1_ad64 : ad1 ≠ ad64 := neOf F_88.lt (Nat.le_of_eq ea64.symm)
                          have F_89 := F_86.ext E64
                          have F_90 := F_87.ext E64
                          have F_91 := F_88.ext E64
                          have F_92 := V57.ext E64
                          have F_93 : Fld Z hp64 ad64 "com/example/reja/reja/IdSet" "ids" "[I" .null := D64 (Or.inr (own_wd hw 42 rfl)) (ty := (.array .int)) (by decide)
                          refine gDup X w d1_67 rfl (n := 68) rfl ?_
                          refine gAloadN X w d1_68 rfl rfl (n := 69) rfl ?_
                          refine gIloadN X w d1_69 rfl (n := 70) rfl ?_
                          refine gCallSv X w [(.ref ad1), (.int (2 : Int32))] [(.ref ad64), (.ref ad64)] (own_cpy_4_2 l Z a0 hw ad1 w0 w1 w2 w3 hp64 n0 (Sd.le X) F_92 F_91) (own_wd hw 30 rfl) (own_wd hw 31 rfl) (own_wd hw 16 rfl) (own_wd hw 32 rfl) (by decide) own_pd5 rfl rfl d1_70 rfl (W := 2) (Nat.le_of_eq rfl) (by decide) (by decide) (by decide) (by decide) (n := 73) rfl ?_
                          rintro T h70 _ ⟨K70, d70, rfl, gd70, V70⟩ X
                          have ne_a_d70 : a ≠ d70 := neOf F_89.lt gd70
                          have ne_ad1_d70 : ad1 ≠ d70 := neOf F_91.lt gd70
                          have ne_ad64_d70 : ad64 ≠ d70 := neOf A64.lt gd70
                          have F_94 := F_89.keep K70 nin0
                          have F_95 := F_90.keep K70
                          have F_96 := F_91.keep K70
                          have F_97 := F_92.keep K70 nin0
                          have F_98 := A64.keep K70
                          have F_99 := F_93.keep K70 nin0
                          refine gCallIn X w [(.ref d70)] [(.ref ad64)] rfl (own_init l Z a0 hw ad64 d70 h70 n0 (Sd.le X) na64 F_98 F_99) (own_wd hw 35 rfl) (own_wd hw 36 rfl) (own_wd hw 3 rfl) (own_wd hw 37 rfl) (by decide) own_pd4 rfl rfl d1_73 rfl (W := 1) (Nat.le_of_eq rfl) (by decide) (by decide) (by decide) (by decide) (n := 76) rfl ?_
                          rintro T h73 ⟨K73, A73, F73⟩ X
                          have F_100 := F_94.keep K73 (ninS ne_a_ad64 nin0)
                          have F_101 := F_95.keep K73
                          have F_102 := F_96.keep K73
                          have F_103 := F_97.keep K73 (ninS ne_ad1_ad64 nin0)
                          have F_104 := F_98.keep K73
                          have F_105 := V70.keep K73 (ninS (Ne.symm ne_ad64_d70) nin0)
                          exact gRetA X w rfl rfl rfl d1_76 (by decide) (by decide) (⟨_, rfl, ((Kc2.ext E64).trans K70 all0).trans K73 (allS (Or.inr (Nat.le_trans Kc2.1 (Nat.le_of_eq ea64.symm))) all0), ad64, d70, [w0, w1], rfl, Nat.le_trans Kc2.1 (Nat.le_of_eq ea64.symm), Nat.le_trans (Kc2.ext E64).1 gd70, (Ne.symm ne_ad64_d70), A73, F73, F_105, (by show (2 : Nat) ≤ 4; decide), by simp only [own_asc, List.pairwise_cons, List.mem_cons, List.not_mem_nil, or_false, forall_eq_or_imp, forall_eq, false_implies, implies_true, List.Pairwise.nil, and_true] <;> omega, fun y => by rw [← m9 y]; simp only [List.mem_cons, List.not_mem_nil, or_false, ← Int32.toInt_inj] <;> omega⟩)
                        · intro c27
                          exact absurd c27 (by decide)
                      · rintro ⟨c47, c47'⟩
                        refine gAloadN X w d1_50 rfl rfl (n := 51) rfl ?_
                        refine gIloadN X w d1_51 rfl (n := 52) rfl ?_
                        refine gIinc X w d1_52 rfl (z := (3 : Int32)) (by decide) #[.val (.ref a), .val (.ref ad1), .val (.int (3 : Int32)), .val (.ref ad1), .val (.int (4 : Int32)), .val (.int (3 : Int32)), .val (.int w3)] rfl (n := 55) rfl ?_
                        refine gIload X w d1_55 rfl (n := 57) rfl ?_
                        refine gIastore X w (z := (.int w3)) V57 (by decide) (show (2 : Int) < ((4 : Nat) : Int) from by decide) na1 rfl (vs' := [(.int w0), (.int w1), (.int w3), (.int w3)]) rfl d1_57 (n := 58) rfl ?_
                        intro T hp57 X W57 V57
                        have F_106 := F_86.other W57 ne_a_ad1
                        have F_107 := F_87.wr W57
                        have F_108 := F_88.wr W57
                        have Kc3 := Kc2.wr W57 (Or.inr (Nat.le_of_eq ea1.symm))
                        refine gIinc X w d1_58 rfl (z := (4 : Int32)) (by decide) #[.val (.ref a), .val (.ref ad1), .val (.int (3 : Int32)), .val (.ref ad1), .val (.int (4 : Int32)), .val (.int (4 : Int32)), .val (.int w3)] rfl (n := 61) rfl ?_
                        refine gGoto X w d1_61 (by decide) (n := 23) rfl ?_
                        refine gIload X w d1_23 rfl (n := 25) rfl ?_
                        refine gIload X w d1_25 rfl (n := 27) rfl ?_
                        refine gIcmp_ge X w d1_27 (n := 64) (n' := 30) (by decide) rfl rfl ?_ ?_
                        · intro c27
                          refine gNew X w (own_wd hw 28 rfl) (own_wd hw 29 rfl) (own_wd hw 3 rfl) d1_64 (by decide) (by decide) (n := 67) rfl ?_
                          intro T hp64 ad64 ea64 na64 X E64 A64 D64
                          have ne_a_ad64 : a ≠ ad64 := neOf F_106.lt (Nat.le_of_eq ea64.symm)
                          have ne_ad1_ad64 : ad1 ≠ ad64 := neOf F_108.lt (Nat.le_of_eq ea64.symm)
                          have F_109 := F_106.ext E64
                          have F_110 := F_107.ext E64
                          have F_111 := F_108.ext E64
                          have F_112 := V57.ext E64
                          have F_113 : Fld Z hp64 ad64 "com/example/reja/reja/IdSet" "ids" "[I" .null := D64 (Or.inr (own_wd hw 42 rfl)) (ty := (.array .int)) (by decide)
                          refine gDup X w d1_67 rfl (n := 68) rfl ?_
                          refine gAloadN X w d1_68 rfl rfl (n := 69) rfl ?_
                          refine gIloadN X w d1_69 rfl (n := 70) rfl ?_
                          refine gCallSv X w [(.ref ad1), (.int (3 : Int32))] [(.ref ad64), (.ref ad64)] (own_cpy_4_3 l Z a0 hw ad1 w0 w1 w3 w3 hp64 n0 (Sd.le X) F_112 F_111) (own_wd hw 30 rfl) (own_wd hw 31 rfl) (own_wd hw 16 rfl) (own_wd hw 32 rfl) (by decide) own_pd5 rfl rfl d1_70 rfl (W := 2) (Nat.le_of_eq rfl) (by decide) (by decide) (by decide) (by decide) (n := 73) rfl ?_
                          rintro T h70 _ ⟨K70, d70, rfl, gd70, V70⟩ X
                          have ne_a_d70 : a ≠ d70 := neOf F_109.lt gd70
                          have ne_ad1_d70 : ad1 ≠ d70 := neOf F_111.lt gd70
                          have ne_ad64_d70 : ad64 ≠ d70 := neOf A64.lt gd70
                          have F_114 := F_109.keep K70 nin0
                          have F_115 := F_110.keep K70
                          have F_116 := F_111.keep K70
                          have F_117 := F_112.keep K70 nin0
                          have F_118 := A64.keep K70
                          have F_119 := F_113.keep K70 nin0
                          refine gCallIn X w [(.ref d70)] [(.ref ad64)] rfl (own_init l Z a0 hw ad64 d70 h70 n0 (Sd.le X) na64 F_118 F_119) (own_wd hw 35 rfl) (own_wd hw 36 rfl) (own_wd hw 3 rfl) (own_wd hw 37 rfl) (by decide) own_pd4 rfl rfl d1_73 rfl (W := 1) (Nat.le_of_eq rfl) (by decide) (by decide) (by decide) (by decide) (n := 76) rfl ?_
                          rintro T h73 ⟨K73, A73, F73⟩ X
                          have F_120 := F_114.keep K73 (ninS ne_a_ad64 nin0)
                          have F_121 := F_115.keep K73
                          have F_122 := F_116.keep K73
                          have F_123 := F_117.keep K73 (ninS ne_ad1_ad64 nin0)
                          have F_124 := F_118.keep K73
                          have F_125 := V70.keep K73 (ninS (Ne.symm ne_ad64_d70) nin0)
                          exact gRetA X w rfl rfl rfl d1_76 (by decide) (by decide) (⟨_, rfl, ((Kc3.ext E64).trans K70 all0).trans K73 (allS (Or.inr (Nat.le_trans Kc3.1 (Nat.le_of_eq ea64.symm))) all0), ad64, d70, [w0, w1, w3], rfl, Nat.le_trans Kc3.1 (Nat.le_of_eq ea64.symm), Nat.le_trans (Kc3.ext E64).1 gd70, (Ne.symm ne_ad64_d70), A73, F73, F_125, (by show (3 : Nat) ≤ 4; decide), by simp only [own_asc, List.pairwise_cons, List.mem_cons, List.not_mem_nil, or_false, forall_eq_or_imp, forall_eq, false_implies, implies_true, List.Pairwise.nil, and_true] <;> omega, fun y => by rw [← m9 y]; simp only [List.mem_cons, List.not_mem_nil, or_false, ← Int32.toInt_inj] <;> omega⟩)
                        · intro c27
                          exact absurd c27 (by decide)
                · rintro ⟨c47, c47'⟩
                  refine gAloadN X w d1_50 rfl rfl (n := 51) rfl ?_
                  refine gIloadN X w d1_51 rfl (n := 52) rfl ?_
                  refine gIinc X w d1_52 rfl (z := (3 : Int32)) (by decide) #[.val (.ref a), .val (.ref ad1), .val (.int (3 : Int32)), .val (.ref ad1), .val (.int (4 : Int32)), .val (.int (2 : Int32)), .val (.int w2)] rfl (n := 55) rfl ?_
                  refine gIload X w d1_55 rfl (n := 57) rfl ?_
                  refine gIastore X w (z := (.int w2)) V57 (by decide) (show (2 : Int) < ((4 : Nat) : Int) from by decide) na1 rfl (vs' := [(.int w0), (.int w1), (.int w2), (.int w3)]) rfl d1_57 (n := 58) rfl ?_
                  intro T hp57 X W57 V57
                  have F_126 := F_86.other W57 ne_a_ad1
                  have F_127 := F_87.wr W57
                  have F_128 := F_88.wr W57
                  have Kc3 := Kc2.wr W57 (Or.inr (Nat.le_of_eq ea1.symm))
                  refine gIinc X w d1_58 rfl (z := (3 : Int32)) (by decide) #[.val (.ref a), .val (.ref ad1), .val (.int (3 : Int32)), .val (.ref ad1), .val (.int (4 : Int32)), .val (.int (3 : Int32)), .val (.int w2)] rfl (n := 61) rfl ?_
                  refine gGoto X w d1_61 (by decide) (n := 23) rfl ?_
                  refine gIload X w d1_23 rfl (n := 25) rfl ?_
                  refine gIload X w d1_25 rfl (n := 27) rfl ?_
                  refine gIcmp_ge X w d1_27 (n := 64) (n' := 30) (by decide) rfl rfl ?_ ?_
                  · intro c27
                    exact absurd c27 (by decide)
                  · intro c27
                    refine gAloadN X w d1_30 rfl rfl (n := 31) rfl ?_
                    refine gIload X w d1_31 rfl (n := 33) rfl ?_
                    refine gIaload X w V57 (by decide) rfl d1_33 (n := 34) rfl ?_
                    refine gIstore X w d1_34 #[.val (.ref a), .val (.ref ad1), .val (.int (3 : Int32)), .val (.ref ad1), .val (.int (4 : Int32)), .val (.int (3 : Int32)), .val (.int w3)] rfl (n := 36) rfl ?_
                    refine gIloadN X w d1_36 rfl (n := 37) rfl ?_
                    refine gIf_eq X w d1_37 (n := 50) (n' := 40) (by decide) rfl rfl ?_ ?_
                    · rintro ⟨c37, c37'⟩
                      exact absurd c37 (by decide)
                    · rintro ⟨c37, c37'⟩
                      refine gAloadN X w d1_40 rfl rfl (n := 41) rfl ?_
                      refine gIloadN X w d1_41 rfl (n := 42) rfl ?_
                      refine gIconst X w d1_42 (z := (1 : Int32)) rfl (n := 43) rfl ?_
                      refine gIsub X w d1_43 (z := (2 : Int32)) (by decide) (n := 44) rfl ?_
                      refine gIaload X w V57 (by decide) rfl d1_44 (n := 45) rfl ?_
                      refine gIload X w d1_45 rfl (n := 47) rfl ?_
                      refine gIcmp_eq X w d1_47 (n := 58) (n' := 50) (by decide) rfl rfl ?_ ?_
                      · rintro ⟨c47, c47'⟩
                        refine gIinc X w d1_58 rfl (z := (4 : Int32)) (by decide) #[.val (.ref a), .val (.ref ad1), .val (.int (3 : Int32)), .val (.ref ad1), .val (.int (4 : Int32)), .val (.int (4 : Int32)), .val (.int w3)] rfl (n := 61) rfl ?_
                        refine gGoto X w d1_61 (by decide) (n := 23) rfl ?_
                        refine gIload X w d1_23 rfl (n := 25) rfl ?_
                        refine gIload X w d1_25 rfl (n := 27) rfl ?_
                        refine gIcmp_ge X w d1_27 (n := 64) (n' := 30) (by decide) rfl rfl ?_ ?_
                        · intro c27
                          refine gNew X w (own_wd hw 28 rfl) (own_wd hw 29 rfl) (own_wd hw 3 rfl) d1_64 (by decide) (by decide) (n := 67) rfl ?_
                          intro T hp64 ad64 ea64 na64 X E64 A64 D64
                          have ne_a_ad64 : a ≠ ad64 := neOf F_126.lt (Nat.le_of_eq ea64.symm)
                          have ne_ad1_ad64 : ad1 ≠ ad64 := neOf F_128.lt (Nat.le_of_eq ea64.symm)
                          have F_129 := F_126.ext E64
                          have F_130 := F_127.ext E64
                          have F_131 := F_128.ext E64
                          have F_132 := V57.ext E64
                          have F_133 : Fld Z hp64 ad64 "com/example/reja/reja/IdSet" "ids" "[I" .null := D64 (Or.inr (own_wd hw 42 rfl)) (ty := (.array .int)) (by decide)
                          refine gDup X w d1_67 rfl (n := 68) rfl ?_
                          refine gAloadN X w d1_68 rfl rfl (n := 69) rfl ?_
                          refine gIloadN X w d1_69 rfl (n := 70) rfl ?_
                          refine gCallSv X w [(.ref ad1), (.int (3 : Int32))] [(.ref ad64), (.ref ad64)] (own_cpy_4_3 l Z a0 hw ad1 w0 w1 w2 w3 hp64 n0 (Sd.le X) F_132 F_131) (own_wd hw 30 rfl) (own_wd hw 31 rfl) (own_wd hw 16 rfl) (own_wd hw 32 rfl) (by decide) own_pd5 rfl rfl d1_70 rfl (W := 2) (Nat.le_of_eq rfl) (by decide) (by decide) (by decide) (by decide) (n := 73) rfl ?_
                          rintro T h70 _ ⟨K70, d70, rfl, gd70, V70⟩ X
                          have ne_a_d70 : a ≠ d70 := neOf F_129.lt gd70
                          have ne_ad1_d70 : ad1 ≠ d70 := neOf F_131.lt gd70
                          have ne_ad64_d70 : ad64 ≠ d70 := neOf A64.lt gd70
                          have F_134 := F_129.keep K70 nin0
                          have F_135 := F_130.keep K70
                          have F_136 := F_131.keep K70
                          have F_137 := F_132.keep K70 nin0
                          have F_138 := A64.keep K70
                          have F_139 := F_133.keep K70 nin0
                          refine gCallIn X w [(.ref d70)] [(.ref ad64)] rfl (own_init l Z a0 hw ad64 d70 h70 n0 (Sd.le X) na64 F_138 F_139) (own_wd hw 35 rfl) (own_wd hw 36 rfl) (own_wd hw 3 rfl) (own_wd hw 37 rfl) (by decide) own_pd4 rfl rfl d1_73 rfl (W := 1) (Nat.le_of_eq rfl) (by decide) (by decide) (by decide) (by decide) (n := 76) rfl ?_
                          rintro T h73 ⟨K73, A73, F73⟩ X
                          have F_140 := F_134.keep K73 (ninS ne_a_ad64 nin0)
                          have F_141 := F_135.keep K73
                          have F_142 := F_136.keep K73
                          have F_143 := F_137.keep K73 (ninS ne_ad1_ad64 nin0)
                          have F_144 := F_138.keep K73
                          have F_145 := V70.keep K73 (ninS (Ne.symm ne_ad64_d70) nin0)
                          exact gRetA X w rfl rfl rfl d1_76 (by decide) (by decide) (⟨_, rfl, ((Kc3.ext E64).trans K70 all0).trans K73 (allS (Or.inr (Nat.le_trans Kc3.1 (Nat.le_of_eq ea64.symm))) all0), ad64, d70, [w0, w1, w2], rfl, Nat.le_trans Kc3.1 (Nat.le_of_eq ea64.symm), Nat.le_trans (Kc3.ext E64).1 gd70, (Ne.symm ne_ad64_d70), A73, F73, F_145, (by show (3 : Nat) ≤ 4; decide), by simp only [own_asc, List.pairwise_cons, List.mem_cons, List.not_mem_nil, or_false, forall_eq_or_imp, forall_eq, false_implies, implies_true, List.Pairwise.nil, and_true] <;> omega, fun y => by rw [← m9 y]; simp only [List.mem_cons, List.not_mem_nil, or_false, ← Int32.toInt_inj] <;> omega⟩)
                        · intro c27
                          exact absurd c27 (by decide)
                      · rintro ⟨c47, c47'⟩
                        refine gAloadN X w d1_50 rfl rfl (n := 51) rfl ?_
                        refine gIloadN X w d1_51 rfl (n := 52) rfl ?_
                        refine gIinc X w d1_52 rfl (z := (4 : Int32)) (by decide) #[.val (.ref a), .val (.ref ad1), .val (.int (4 : Int32)), .val (.ref ad1), .val (.int (4 : Int32)), .val (.int (3 : Int32)), .val (.int w3)] rfl (n := 55) rfl ?_
                        refine gIload X w d1_55 rfl (n := 57) rfl ?_
                        refine gIastore X w (z := (.int w3)) V57 (by decide) (show (3 : Int) < ((4 : Nat) : Int) from by decide) na1 rfl (vs' := [(.int w0), (.int w1), (.int w2), (.int w3)]) rfl d1_57 (n := 58) rfl ?_
                        intro T hp57 X W57 V57
                        have F_146 := F_126.other W57 ne_a_ad1
                        have F_147 := F_127.wr W57
                        have F_148 := F_128.wr W57
                        have Kc4 := Kc3.wr W57 (Or.inr (Nat.le_of_eq ea1.symm))
                        refine gIinc X w d1_58 rfl (z := (4 : Int32)) (by decide) #[.val (.ref a), .val (.ref ad1), .val (.int (4 : Int32)), .val (.ref ad1), .val (.int (4 : Int32)), .val (.int (4 : Int32)), .val (.int w3)] rfl (n := 61) rfl ?_
                        refine gGoto X w d1_61 (by decide) (n := 23) rfl ?_
                        refine gIload X w d1_23 rfl (n := 25) rfl ?_
                        refine gIload X w d1_25 rfl (n := 27) rfl ?_
                        refine gIcmp_ge X w d1_27 (n := 64) (n' := 30) (by decide) rfl rfl ?_ ?_
                        · intro c27
                          refine gNew X w (own_wd hw 28 rfl) (own_wd hw 29 rfl) (own_wd hw 3 rfl) d1_64 (by decide) (by decide) (n := 67) rfl ?_
                          intro T hp64 ad64 ea64 na64 X E64 A64 D64
                          have ne_a_ad64 : a ≠ ad64 := neOf F_146.lt (Nat.le_of_eq ea64.symm)
                          have ne_ad1_ad64 : ad1 ≠ ad64 := neOf F_148.lt (Nat.le_of_eq ea64.symm)
                          have F_149 := F_146.ext E64
                          have F_150 := F_147.ext E64
                          have F_151 := F_148.ext E64
                          have F_152 := V57.ext E64
                          have F_153 : Fld Z hp64 ad64 "com/example/reja/reja/IdSet" "ids" "[I" .null := D64 (Or.inr (own_wd hw 42 rfl)) (ty := (.array .int)) (by decide)
                          refine gDup X w d1_67 rfl (n := 68) rfl ?_
                          refine gAloadN X w d1_68 rfl rfl (n := 69) rfl ?_
                          refine gIloadN X w d1_69 rfl (n := 70) rfl ?_
                          refine gCallSv X w [(.ref ad1), (.int (4 : Int32))] [(.ref ad64), (.ref ad64)] (own_cpy_4_4 l Z a0 hw ad1 w0 w1 w2 w3 hp64 n0 (Sd.le X) F_152 F_151) (own_wd hw 30 rfl) (own_wd hw 31 rfl) (own_wd hw 16 rfl) (own_wd hw 32 rfl) (by decide) own_pd5 rfl rfl d1_70 rfl (W := 2) (Nat.le_of_eq rfl) (by decide) (by decide) (by decide) (by decide) (n := 73) rfl ?_
                          rintro T h70 _ ⟨K70, d70, rfl, gd70, V70⟩ X
                          have ne_a_d70 : a ≠ d70 := neOf F_149.lt gd70
                          have ne_ad1_d70 : ad1 ≠ d70 := neOf F_151.lt gd70
                          have ne_ad64_d70 : ad64 ≠ d70 := neOf A64.lt gd70
                          have F_154 := F_149.keep K70 nin0
                          have F_155 := F_150.keep K70
                          have F_156 := F_151.keep K70
                          have F_157 := F_152.keep K70 nin0
                          have F_158 := A64.keep K70
                          have F_159 := F_153.keep K70 nin0
                          refine gCallIn X w [(.ref d70)] [(.ref ad64)] rfl (own_init l Z a0 hw ad64 d70 h70 n0 (Sd.le X) na64 F_158 F_159) (own_wd hw 35 rfl) (own_wd hw 36 rfl) (own_wd hw 3 rfl) (own_wd hw 37 rfl) (by decide) own_pd4 rfl rfl d1_73 rfl (W := 1) (Nat.le_of_eq rfl) (by decide) (by decide) (by decide) (by decide) (n := 76) rfl ?_
                          rintro T h73 ⟨K73, A73, F73⟩ X
                          have F_160 := F_154.keep K73 (ninS ne_a_ad64 nin0)
                          have F_161 := F_155.keep K73
                          have F_162 := F_156.keep K73
                          have F_163 := F_157.keep K73 (ninS ne_ad1_ad64 nin0)
                          have F_164 := F_158.keep K73
                          have F_165 := V70.keep K73 (ninS (Ne.symm ne_ad64_d70) nin0)
                          exact gRetA X w rfl rfl rfl d1_76 (by decide) (by decide) (⟨_, rfl, ((Kc4.ext E64).trans K70 all0).trans K73 (allS (Or.inr (Nat.le_trans Kc4.1 (Nat.le_of_eq ea64.symm))) all0), ad64, d70, [w0, w1, w2, w3], rfl, Nat.le_trans Kc4.1 (Nat.le_of_eq ea64.symm), Nat.le_trans (Kc4.ext E64).1 gd70, (Ne.symm ne_ad64_d70), A73, F73, F_165, (by show (4 : Nat) ≤ 4; decide), by simp only [own_asc, List.pairwise_cons, List.mem_cons, List.not_mem_nil, or_false, forall_eq_or_imp, forall_eq, false_implies, implies_true, List.Pairwise.nil, and_true] <;> omega, fun y => by rw [← m9 y]; simp only [List.mem_cons, List.not_mem_nil, or_false, ← Int32.toInt_inj] <;> omega⟩)
                        · intro c27
                          exact absurd c27 (by decide)
    · rintro ⟨c37, c37'⟩
      exact absurd c37 (by decide)
set_option maxRecDepth 65536 in
set_option maxHeartbeats 40000000 in
theorem own_unt_4 (l : Launch) (Z : State) (a0 : Array Value) (hw : ∀ d ∈ tables_1, d.before a0 Z = true) (a : Addr) (z0 z1 z2 z3 : Int32) (h0 : Heap) (n0 : Nat) (hn : n0 ≤ h0.size) (V : Av Z h0 a .int [.int z0, .int z1, .int z2, .int z3]) :
    ConV l Z (⟨"com/example/reja/reja/IdSetOfPinLaw", "untouched", "([IIIIII)Z"⟩ : MethodName) method_2_code 6 (some .boolean) ({ frames := 0, cells := 0, slots := 0, locals := 0 } : Room) #[(.ref a), (.int (4 : Int32)), (.int z0), (.int z1), (.int z2), (.int z3)] h0 n0 (fun v h => h0 = h ∧ v = .int 1) := by
  refine Con.of (plainFor_of_name (by first | (simp [plainName, overriddenIn]; done) | decide +kernel)) hn ?_
  intro p e s m below meth c T w X
  refine Gl.enter (ls := #[.val (.ref a), .val (.int (4 : Int32)), .val (.int z0), .val (.int z1), .val (.int z2), .val (.int z3)]) (by first | (simp [entryFrame, mkF, argsToLocals, Value.category]; done) | rfl) ?_
  refine gAloadN X w d9_0 rfl rfl (n := 1) rfl ?_
  refine gAlen X w V (z := (4 : Int32)) rfl d9_1 (n := 2) rfl ?_
  refine gIloadN X w d9_2 rfl (n := 3) rfl ?_
  refine gIcmp_eq X w d9_3 (n := 8) (n' := 6) (by decide) rfl rfl ?_ ?_
  · rintro ⟨c3, c3'⟩
    refine gIloadN X w d9_8 rfl (n := 9) rfl ?_
    refine gIconst X w d9_9 (z := (1 : Int32)) rfl (n := 10) rfl ?_
    refine gIcmp_lt X w d9_10 (n := 22) (n' := 13) (by decide) rfl rfl ?_ ?_
    · intro c10
      exact absurd c10 (by decide)
    · intro c10
      refine gAloadN X w d9_13 rfl rfl (n := 14) rfl ?_
      refine gIconst X w d9_14 (z := (0 : Int32)) rfl (n := 15) rfl ?_
      refine gIaload X w V (by decide) rfl d9_15 (n := 16) rfl ?_
      refine gIloadN X w d9_16 rfl (n := 17) rfl ?_
      refine gIcmp_eq X w d9_17 (n := 22) (n' := 20) (by decide) rfl rfl ?_ ?_
      · rintro ⟨c17, c17'⟩
        refine gIloadN X w d9_22 rfl (n := 23) rfl ?_
        refine gIconst X w d9_23 (z := (2 : Int32)) rfl (n := 24) rfl ?_
        refine gIcmp_lt X w d9_24 (n := 36) (n' := 27) (by decide) rfl rfl ?_ ?_
        · intro c24
          exact absurd c24 (by decide)
        · intro c24
          refine gAloadN X w d9_27 rfl rfl (n := 28) rfl ?_
          refine gIconst X w d9_28 (z := (1 : Int32)) rfl (n := 29) rfl ?_
          refine gIaload X w V (by decide) rfl d9_29 (n := 30) rfl ?_
          refine gIloadN X w d9_30 rfl (n := 31) rfl ?_
          refine gIcmp_eq X w d9_31 (n := 36) (n' := 34) (by decide) rfl rfl ?_ ?_
          · rintro ⟨c31, c31'⟩
            refine gIloadN X w d9_36 rfl (n := 37) rfl ?_
            refine gIconst X w d9_37 (z := (3 : Int32)) rfl (n := 38) rfl ?_
            refine gIcmp_lt X w d9_38 (n := 51) (n' := 41) (by decide) rfl rfl ?_ ?_
            · intro c38
              exact absurd c38 (by decide)
            · intro c38
              refine gAloadN X w d9_41 rfl rfl (n := 42) rfl ?_
              refine gIconst X w d9_42 (z := (2 : Int32)) rfl (n := 43) rfl ?_
              refine gIaload X w V (by decide) rfl d9_43 (n := 44) rfl ?_
              refine gIload X w d9_44 rfl (n := 46) rfl ?_
              refine gIcmp_eq X w d9_46 (n := 51) (n' := 49) (by decide) rfl rfl ?_ ?_
              · rintro ⟨c46, c46'⟩
                refine gIloadN X w d9_51 rfl (n := 52) rfl ?_
                refine gIconst X w d9_52 (z := (4 : Int32)) rfl (n := 53) rfl ?_
                refine gIcmp_lt X w d9_53 (n := 66) (n' := 56) (by decide) rfl rfl ?_ ?_
                · intro c53
                  exact absurd c53 (by decide)
                · intro c53
                  refine gAloadN X w d9_56 rfl rfl (n := 57) rfl ?_
                  refine gIconst X w d9_57 (z := (3 : Int32)) rfl (n := 58) rfl ?_
                  refine gIaload X w V (by decide) rfl d9_58 (n := 59) rfl ?_
                  refine gIload X w d9_59 rfl (n := 61) rfl ?_
                  refine gIcmp_eq X w d9_61 (n := 66) (n' := 64) (by decide) rfl rfl ?_ ?_
                  · rintro ⟨c61, c61'⟩
                    refine gIconst X w d9_66 (z := (1 : Int32)) rfl (n := 67) rfl ?_
                    exact gRetZ X w rfl (Or.inr rfl) d9_67 (by decide) (by decide) (⟨_, rfl, rfl, rfl⟩)
                  · rintro ⟨c61, c61'⟩
                    exact absurd rfl c61
              · rintro ⟨c46, c46'⟩
                exact absurd rfl c46
          · rintro ⟨c31, c31'⟩
            exact absurd rfl c31
      · rintro ⟨c17, c17'⟩
        exact absurd rfl c17
  · rintro ⟨c3, c3'⟩
    exact absurd c3 (by decide)
set_option maxRecDepth 65536 in
set_option maxHeartbeats 40000000 in
theorem own_meets (l : Launch) (Z : State) (a0 : Array Value) (hw : ∀ d ∈ tables_1, d.before a0 Z = true) (p1 p2 da db : Addr) (us ws : List Int32) (h0 : Heap) (n0 : Nat) (hn : n0 ≤ h0.size) (F1 : Fld Z h0 p1 "com/example/reja/reja/IdSet" "ids" "[I" (.ref da)) (F2 : Fld Z h0 p2 "com/example/reja/reja/IdSet" "ids" "[I" (.ref db)) (V1 : Av Z h0 da .int (us.map Value.int)) (V2 : Av Z h0 db .int (ws.map Value.int)) (hlu : us.length < 2 ^ 31) (hlw : ws.length < 2 ^ 31) (au : own_asc us) (aw : own_asc ws) :
    ConV l Z (⟨"com/example/reja/reja/IdSet", "meets", "(Lcom/example/reja/reja/IdSet;)Z"⟩ : MethodName) prog_3_method_4_code 5 (some .boolean) ({ frames := 0, cells := 0, slots := 0, locals := 0 } : Room) #[(.ref p1), (.ref p2)] h0 n0 (fun v h => h0 = h ∧ ∃ z : Int32, v = .int z ∧ (z = 0 ∨ z = 1) ∧ (z = 1 ↔ own_com us ws)) := by
  refine Con.of (plainFor_of_name (by first | (simp [plainName, overriddenIn]; done) | decide +kernel)) hn ?_
  intro p e s m below meth c T w X
  refine Gl.enter (ls := #[.val (.ref p1), .val (.ref p2), .unset, .unset, .unset]) (by first | (simp [entryFrame, mkF, argsToLocals, Value.category]; done) | rfl) ?_
  have loop : ∀ (t i j : Nat) (T : State) (zi zj : Int32), Sd p l e ({ frames := 0, cells := 0, slots := 0, locals := 0 } : Room) s m #[.ref p1, .ref p2] below meth c n0 T h0 0 0 → us.length - i + (ws.length - j) ≤ t → i ≤ us.length → j ≤ ws.length → zi.toInt = i → zj.toInt = j → (own_com us ws ↔ own_com (us.drop i) (ws.drop j)) → Gl p e below s n0 (fun r h => ∃ v, r = some v ∧ (fun v h => h0 = h ∧ ∃ z : Int32, v = .int z ∧ (z = 0 ∨ z = 1) ∧ (z = 1 ↔ own_com us ws)) v h) 0 0 (T.setTop (mkF m 7 #[.val (.ref p1), .val (.ref p2), .val (.int zi), .val (.int zj), .val (.int (0 : Int32))] [])) := by
    intro t
    induction t with
    | zero =>
      intro i j T zi zj X ht hi hj hzi hzj hinv
      refine gIload X w d10_7 rfl (n := 9) rfl ?_
      refine gIf_ne X w d10_9 (n := 78) (n' := 12) (by decide) rfl rfl ?_ ?_
      · rintro ⟨c9, c9'⟩
        exact absurd c9 (by decide)
      · rintro ⟨c9, c9'⟩
        refine gIloadN X w d10_12 rfl (n := 13) rfl ?_
        refine gAloadN X w d10_13 rfl rfl (n := 14) rfl ?_
        refine gGetF X w (own_wd hw 41 rfl) Via.refl F1 d10_14 (n := 17) rfl ?_
        intro T X
        obtain ⟨x17, q17⟩ : ∃ z : Int32, (us.map Value.int).length.toInt32 = z := ⟨_, rfl⟩
        have f17 := own_len hlu q17
        refine gAlen X w V1 q17 d10_17 (n := 18) rfl ?_
        refine gIcmp_ge X w d10_18 (n := 78) (n' := 21) (by decide) rfl rfl ?_ ?_
        · intro c18
          refine gIload X w d10_78 rfl (n := 80) rfl ?_
          exact gRetZ X w rfl (Or.inl rfl) d10_80 (by decide) (by decide) (⟨_, rfl, rfl, 0, rfl, Or.inl rfl, ⟨fun q => absurd q (by decide), fun q => absurd (hinv.mp q) (own_com_n (by omega))⟩⟩)
        · intro c18
          refine gIloadN X w d10_21 rfl (n := 22) rfl ?_
          refine gAloadN X w d10_22 rfl rfl (n := 23) rfl ?_
          refine gGetF X w (own_wd hw 41 rfl) Via.refl F2 d10_23 (n := 26) rfl ?_
          intro T X
          obtain ⟨x26, q26⟩ : ∃ z : Int32, (ws.map Value.int).length.toInt32 = z := ⟨_, rfl⟩
          have f26 := own_len hlw q26
          refine gAlen X w V2 q26 d10_26 (n := 27) rfl ?_
          refine gIcmp_ge X w d10_27 (n := 78) (n' := 30) (by decide) rfl rfl ?_ ?_
          · intro c27
            refine gIload X w d10_78 rfl (n := 80) rfl ?_
            exact gRetZ X w rfl (Or.inl rfl) d10_80 (by decide) (by decide) (⟨_, rfl, rfl, 0, rfl, Or.inl rfl, ⟨fun q => absurd q (by decide), fun q => absurd (hinv.mp q) (own_com_n (by omega))⟩⟩)
          · intro c27
            refine gAloadN X w d10_30 rfl rfl (n := 31) rfl ?_
            refine gGetF X w (own_wd hw 41 rfl) Via.refl F1 d10_31 (n := 34) rfl ?_
            intro T X
            refine gIloadN X w d10_34 rfl (n := 35) rfl ?_
            refine gIaload X w V1 (by omega) (own_at (us := us) (i := i) (by omega) hzi) d10_35 (n := 36) rfl ?_
            refine gAloadN X w d10_36 rfl rfl (n := 37) rfl ?_
            refine gGetF X w (own_wd hw 41 rfl) Via.refl F2 d10_37 (n := 40) rfl ?_
            intro T X
            refine gIloadN X w d10_40 rfl (n := 41) rfl ?_
            refine gIaload X w V2 (by omega) (own_at (us := ws) (i := j) (by omega) hzj) d10_41 (n := 42) rfl ?_
            refine gIcmp_ne X w d10_42 (n := 51) (n' := 45) (by decide) rfl rfl ?_ ?_
            · rintro ⟨c42, c42'⟩
              refine gAloadN X w d10_51 rfl rfl (n := 52) rfl ?_
              refine gGetF X w (own_wd hw 41 rfl) Via.refl F1 d10_52 (n := 55) rfl ?_
              intro T X
              refine gIloadN X w d10_55 rfl (n := 56) rfl ?_
              refine gIaload X w V1 (by omega) (own_at (us := us) (i := i) (by omega) hzi) d10_56 (n := 57) rfl ?_
              refine gAloadN X w d10_57 rfl rfl (n := 58) rfl ?_
              refine gGetF X w (own_wd hw 41 rfl) Via.refl F2 d10_58 (n := 61) rfl ?_
              intro T X
              refine gIloadN X w d10_61 rfl (n := 62) rfl ?_
              refine gIaload X w V2 (by omega) (own_at (us := ws) (i := j) (by omega) hzj) d10_62 (n := 63) rfl ?_
              refine gIcmp_ge X w d10_63 (n := 72) (n' := 66) (by decide) rfl rfl ?_ ?_
              · intro c63
                obtain ⟨x72, q72⟩ : ∃ zz_ : Int32, zj + Int32.ofInt 1 = zz_ := ⟨_, rfl⟩
                refine gIinc X w d10_72 rfl q72 #[.val (.ref p1), .val (.ref p2), .val (.int zi), .val (.int x72), .val (.int (0 : Int32))] rfl (n := 75) rfl ?_
                have f72 : x72.toInt = (j + 1 : Nat) := by rw [← q72, iadd_toInt] <;> rw [show (Int32.ofInt 1).toInt = 1 from rfl] <;> omega
                refine gGoto X w d10_75 (by decide) (n := 7) rfl ?_
                exfalso; omega
              · intro c63
                obtain ⟨x66, q66⟩ : ∃ zz_ : Int32, zi + Int32.ofInt 1 = zz_ := ⟨_, rfl⟩
                refine gIinc X w d10_66 rfl q66 #[.val (.ref p1), .val (.ref p2), .val (.int x66), .val (.int zj), .val (.int (0 : Int32))] rfl (n := 69) rfl ?_
                have f66 : x66.toInt = (i + 1 : Nat) := by rw [← q66, iadd_toInt] <;> rw [show (Int32.ofInt 1).toInt = 1 from rfl] <;> omega
                refine gGoto X w d10_69 (by decide) (n := 7) rfl ?_
                exfalso; omega
            · rintro ⟨c42, c42'⟩
              refine gIconst X w d10_45 (z := (1 : Int32)) rfl (n := 46) rfl ?_
              refine gIstore X w d10_46 #[.val (.ref p1), .val (.ref p2), .val (.int zi), .val (.int zj), .val (.int (1 : Int32))] rfl (n := 48) rfl ?_
              refine gGoto X w d10_48 (by decide) (n := 7) rfl ?_
              refine gIload X w d10_7 rfl (n := 9) rfl ?_
              refine gIf_ne X w d10_9 (n := 78) (n' := 12) (by decide) rfl rfl ?_ ?_
              · rintro ⟨c9, c9'⟩
                refine gIload X w d10_78 rfl (n := 80) rfl ?_
                exact gRetZ X w rfl (Or.inr rfl) d10_80 (by decide) (by decide) (⟨_, rfl, rfl, 1, rfl, Or.inr rfl, ⟨fun _ => hinv.mpr (own_com_eq (by omega) (by omega) c42), fun _ => rfl⟩⟩)
              · rintro ⟨c9, c9'⟩
                exact absurd c9 (by decide)
    | succ t ih =>
      intro i j T zi zj X ht hi hj hzi hzj hinv
      refine gIload X w d10_7 rfl (n := 9) rfl ?_
      refine gIf_ne X w d10_9 (n := 78) (n' := 12) (by decide) rfl rfl ?_ ?_
      · rintro ⟨c9, c9'⟩
        exact absurd c9 (by decide)
      · rintro ⟨c9, c9'⟩
        refine gIloadN X w d10_12 rfl (n := 13) rfl ?_
        refine gAloadN X w d10_13 rfl rfl (n := 14) rfl ?_
        refine gGetF X w (own_wd hw 41 rfl) Via.refl F1 d10_14 (n := 17) rfl ?_
        intro T X
        obtain ⟨x17, q17⟩ : ∃ z : Int32, (us.map Value.int).length.toInt32 = z := ⟨_, rfl⟩
        have f17 := own_len hlu q17
        refine gAlen X w V1 q17 d10_17 (n := 18) rfl ?_
        refine gIcmp_ge X w d10_18 (n := 78) (n' := 21) (by decide) rfl rfl ?_ ?_
        · intro c18
          refine gIload X w d10_78 rfl (n := 80) rfl ?_
          exact gRetZ X w rfl (Or.inl rfl) d10_80 (by decide) (by decide) (⟨_, rfl, rfl, 0, rfl, Or.inl rfl, ⟨fun q => absurd q (by decide), fun q => absurd (hinv.mp q) (own_com_n (by omega))⟩⟩)
        · intro c18
          refine gIloadN X w d10_21 rfl (n := 22) rfl ?_
          refine gAloadN X w d10_22 rfl rfl (n := 23) rfl ?_
          refine gGetF X w (own_wd hw 41 rfl) Via.refl F2 d10_23 (n := 26) rfl ?_
          intro T X
          obtain ⟨x26, q26⟩ : ∃ z : Int32, (ws.map Value.int).length.toInt32 = z := ⟨_, rfl⟩
          have f26 := own_len hlw q26
          refine gAlen X w V2 q26 d10_26 (n := 27) rfl ?_
          refine gIcmp_ge X w d10_27 (n := 78) (n' := 30) (by decide) rfl rfl ?_ ?_
          · intro c27
            refine gIload X w d10_78 rfl (n := 80) rfl ?_
            exact gRetZ X w rfl (Or.inl rfl) d10_80 (by decide) (by decide) (⟨_, rfl, rfl, 0, rfl, Or.inl rfl, ⟨fun q => absurd q (by decide), fun q => absurd (hinv.mp q) (own_com_n (by omega))⟩⟩)
          · intro c27
            refine gAloadN X w d10_30 rfl rfl (n := 31) rfl ?_
            refine gGetF X w (own_wd hw 41 rfl) Via.refl F1 d10_31 (n := 34) rfl ?_
            intro T X
            refine gIloadN X w d10_34 rfl (n := 35) rfl ?_
            refine gIaload X w V1 (by omega) (own_at (us := us) (i := i) (by omega) hzi) d10_35 (n := 36) rfl ?_
            refine gAloadN X w d10_36 rfl rfl (n := 37) rfl ?_
            refine gGetF X w (own_wd hw 41 rfl) Via.refl F2 d10_37 (n := 40) rfl ?_
            intro T X
            refine gIloadN X w d10_40 rfl (n := 41) rfl ?_
            refine gIaload X w V2 (by omega) (own_at (us := ws) (i := j) (by omega) hzj) d10_41 (n := 42) rfl ?_
            refine gIcmp_ne X w d10_42 (n := 51) (n' := 45) (by decide) rfl rfl ?_ ?_
            · rintro ⟨c42, c42'⟩
              refine gAloadN X w d10_51 rfl rfl (n := 52) rfl ?_
              refine gGetF X w (own_wd hw 41 rfl) Via.refl F1 d10_52 (n := 55) rfl ?_
              intro T X
              refine gIloadN X w d10_55 rfl (n := 56) rfl ?_
              refine gIaload X w V1 (by omega) (own_at (us := us) (i := i) (by omega) hzi) d10_56 (n := 57) rfl ?_
              refine gAloadN X w d10_57 rfl rfl (n := 58) rfl ?_
              refine gGetF X w (own_wd hw 41 rfl) Via.refl F2 d10_58 (n := 61) rfl ?_
              intro T X
              refine gIloadN X w d10_61 rfl (n := 62) rfl ?_
              refine gIaload X w V2 (by omega) (own_at (us := ws) (i := j) (by omega) hzj) d10_62 (n := 63) rfl ?_
              refine gIcmp_ge X w d10_63 (n := 72) (n' := 66) (by decide) rfl rfl ?_ ?_
              · intro c63
                obtain ⟨x72, q72⟩ : ∃ zz_ : Int32, zj + Int32.ofInt 1 = zz_ := ⟨_, rfl⟩
                refine gIinc X w d10_72 rfl q72 #[.val (.ref p1), .val (.ref p2), .val (.int zi), .val (.int x72), .val (.int (0 : Int32))] rfl (n := 75) rfl ?_
                have f72 : x72.toInt = (j + 1 : Nat) := by rw [← q72, iadd_toInt] <;> rw [show (Int32.ofInt 1).toInt = 1 from rfl] <;> omega
                refine gGoto X w d10_75 (by decide) (n := 7) rfl ?_
                exact ih i (j + 1) _ _ _ X (by omega) (by omega) (by omega) hzi f72 (hinv.trans (own_com_r (by omega) (by omega) au (by have := c42'; omega)))
              · intro c63
                obtain ⟨x66, q66⟩ : ∃ zz_ : Int32, zi + Int32.ofInt 1 = zz_ := ⟨_, rfl⟩
                refine gIinc X w d10_66 rfl q66 #[.val (.ref p1), .val (.ref p2), .val (.int x66), .val (.int zj), .val (.int (0 : Int32))] rfl (n := 69) rfl ?_
                have f66 : x66.toInt = (i + 1 : Nat) := by rw [← q66, iadd_toInt] <;> rw [show (Int32.ofInt 1).toInt = 1 from rfl] <;> omega
                refine gGoto X w d10_69 (by decide) (n := 7) rfl ?_
                exact ih (i + 1) j _ _ _ X (by omega) (by omega) (by omega) f66 hzj (hinv.trans (own_com_l (by omega) (by omega) aw c63))
            · rintro ⟨c42, c42'⟩
              refine gIconst X w d10_45 (z := (1 : Int32)) rfl (n := 46) rfl ?_
              refine gIstore X w d10_46 #[.val (.ref p1), .val (.ref p2), .val (.int zi), .val (.int zj), .val (.int (1 : Int32))] rfl (n := 48) rfl ?_
              refine gGoto X w d10_48 (by decide) (n := 7) rfl ?_
              refine gIload X w d10_7 rfl (n := 9) rfl ?_
              refine gIf_ne X w d10_9 (n := 78) (n' := 12) (by decide) rfl rfl ?_ ?_
              · rintro ⟨c9, c9'⟩
                refine gIload X w d10_78 rfl (n := 80) rfl ?_
                exact gRetZ X w rfl (Or.inr rfl) d10_80 (by decide) (by decide) (⟨_, rfl, rfl, 1, rfl, Or.inr rfl, ⟨fun _ => hinv.mpr (own_com_eq (by omega) (by omega) c42), fun _ => rfl⟩⟩)
              · rintro ⟨c9, c9'⟩
                exact absurd c9 (by decide)
  refine gIconst X w d10_0 (z := (0 : Int32)) rfl (n := 1) rfl ?_
  refine gIstoreN X w d10_1 #[.val (.ref p1), .val (.ref p2), .val (.int (0 : Int32)), .unset, .unset] rfl (n := 2) rfl ?_
  refine gIconst X w d10_2 (z := (0 : Int32)) rfl (n := 3) rfl ?_
  refine gIstoreN X w d10_3 #[.val (.ref p1), .val (.ref p2), .val (.int (0 : Int32)), .val (.int (0 : Int32)), .unset] rfl (n := 4) rfl ?_
  refine gIconst X w d10_4 (z := (0 : Int32)) rfl (n := 5) rfl ?_
  refine gIstore X w d10_5 #[.val (.ref p1), .val (.ref p2), .val (.int (0 : Int32)), .val (.int (0 : Int32)), .val (.int (0 : Int32))] rfl (n := 7) rfl ?_
  exact loop _ 0 0 _ _ _ X (Nat.le_refl _) (by omega) (by omega) rfl rfl Iff.rfl
set_option maxRecDepth 65536 in
set_option maxHeartbeats 40000000 in
theorem own_law (l : Launch) (Z : State) (a0 : Array Value) (hw : ∀ d ∈ tables_1, d.before a0 Z = true) (p1 p2 p3 p4 p5 p6 : Int32) (h0 : Heap) (n0 : Nat) (hn : n0 ≤ h0.size)  :
    Con l Z x code maxLocals ret tables_1 room_1 24 128 #[(.int p1), (.int p2), (.int p3), (.int p4), (.int p5), (.int p6)] h0 n0 (fun r h => r = some (.int 1)) := by
  refine Con.of (plainFor_of_name (by first | (simp [plainName, overriddenIn]; done) | decide +kernel)) hn ?_
  intro p e s m below meth c T w X
  refine Gl.enter (ls := #[.val (.int p1), .val (.int p2), .val (.int p3), .val (.int p4), .val (.int p5), .val (.int p6), .unset, .unset, .unset, .unset, .unset, .unset, .unset]) (by first | (simp [entryFrame, mkF, argsToLocals, Value.category, maxLocals]; done) | rfl) ?_
  have k84 : ∀ a b c_ d xx nn pk : Int32, (nn = 0 ∨ nn = 1 ∨ nn = 2 ∨ nn = 3 ∨ nn = 4) → Gl p e below s n0 (fun r h => r = some (.int 1)) 24 128 (T.setTop (mkF m 84 #[.val (.int a), .val (.int b), .val (.int c_), .val (.int d), .val (.int xx), .val (.int p6), .val (.int nn), .val (.int pk), .unset, .unset, .unset, .unset, .unset] [])) := by
    intro a b c_ d xx nn pk hnn
    rcases hnn with rfl | rfl | rfl | rfl | rfl
    · skip
      refine gIload X w at_84 rfl (n := 86) rfl ?_
      refine gIf_ne X w at_86 (n := 97) (n' := 89) (by decide) rfl rfl ?_ ?_
      · rintro ⟨c86, c86'⟩
        exact absurd c86 (by decide)
      · rintro ⟨c86, c86'⟩
        refine gIconst X w at_89 (z := (0 : Int32)) rfl (n := 90) rfl ?_
        refine gNewP X w (own_wd hw 0 rfl) at_90 (by decide) (cap := 0) (by decide) (by decide) (by decide) (by decide) (vs := []) (ty := .int) rfl rfl (ad := "[I") (by decide) (n := 92) rfl ?_
        intro T hp90 ad90 ea90 na90 X E90 V90 A90
        refine gAstore X w at_92 rfl #[.val (.int a), .val (.int b), .val (.int c_), .val (.int d), .val (.int xx), .val (.int p6), .val (.int (0 : Int32)), .val (.int pk), .val (.ref ad90), .unset, .unset, .unset, .unset] rfl (n := 94) rfl ?_
        refine gGoto X w at_94 (by decide) (n := 184) rfl ?_
        refine gAload X w at_184 rfl rfl (n := 186) rfl ?_
        refine gCallSv X w [(.ref ad90)] [] (own_of_0 l Z a0 hw ad90  hp90 n0 (Sd.le X) V90 A90) (own_wd hw 1 rfl) (own_wd hw 2 rfl) (own_wd hw 3 rfl) (own_wd hw 4 rfl) (by decide) own_pd6 rfl rfl at_186 rfl (W := 0) (Nat.le_of_eq rfl) (by decide) (by decide) (by decide) (by decide) (n := 189) rfl ?_
        rintro T h186 _ ⟨K186, b186, d186, u186, rfl, gb186, gd186, nbd186, A186, F186, V186, l186, asc186, mem186⟩ X
        have ne_ad90_b186 : ad90 ≠ b186 := neOf A90.lt gb186
        have ne_ad90_d186 : ad90 ≠ d186 := neOf A90.lt gd186
        have F_1 := A90.keep K186
        have F_2 := V90.keep K186 nin0
        refine gAstore X w at_189 rfl #[.val (.int a), .val (.int b), .val (.int c_), .val (.int d), .val (.int xx), .val (.int p6), .val (.int (0 : Int32)), .val (.int pk), .val (.ref ad90), .val (.ref b186), .unset, .unset, .unset] rfl (n := 191) rfl ?_
        refine gIconst X w at_191 (z := (1 : Int32)) rfl (n := 192) rfl ?_
        refine gNewP X w (own_wd hw 0 rfl) at_192 (by decide) (cap := 1) (by decide) (by decide) (by decide) (by decide) (vs := [(.int (0 : Int32))]) (ty := .int) rfl rfl (ad := "[I") (by decide) (n := 194) rfl ?_
        intro T hp192 ad192 ea192 na192 X E192 V192 A192
        have ne_ad90_ad192 : ad90 ≠ ad192 := neOf F_1.lt (Nat.le_of_eq ea192.symm)
        have ne_b186_ad192 : b186 ≠ ad192 := neOf A186.lt (Nat.le_of_eq ea192.symm)
        have ne_d186_ad192 : d186 ≠ ad192 := neOf V186.lt (Nat.le_of_eq ea192.symm)
        have F_3 := F_1.ext E192
        have F_4 := F_2.ext E192
        have F_5 := A186.ext E192
        have F_6 := F186.ext E192
        have F_7 := V186.ext E192
        refine gDup X w at_194 rfl (n := 195) rfl ?_
        refine gIconst X w at_195 (z := (0 : Int32)) rfl (n := 196) rfl ?_
        refine gIload X w at_196 rfl (n := 198) rfl ?_
        refine gIastore X w (z := (.int xx)) V192 (by decide) (show (0 : Int) < ((1 : Nat) : Int) from by decide) na192 rfl (vs' := [(.int xx)]) rfl at_198 (n := 199) rfl ?_
        intro T hp198 X W198 V198
        have F_8 := F_3.wr W198
        have F_9 := F_4.other W198 ne_ad90_ad192
        have F_10 := F_5.wr W198
        have F_11 := F_6.other W198 (Or.inl ne_b186_ad192)
        have F_12 := F_7.other W198 ne_d186_ad192
        have F_13 := A192.wr W198
        refine gCallSv X w [(.ref ad192)] [] (own_of_1 l Z a0 hw ad192 xx hp198 n0 (Sd.le X) V198 F_13) (own_wd hw 1 rfl) (own_wd hw 2 rfl) (own_wd hw 3 rfl) (own_wd hw 4 rfl) (by decide) own_pd6 rfl rfl at_199 rfl (W := 0) (Nat.le_of_eq rfl) (by decide) (by decide) (by decide) (by decide) (n := 202) rfl ?_
        rintro T h199 _ ⟨K199, b199, d199, u199, rfl, gb199, gd199, nbd199, A199, F199, V199, l199, asc199, mem199⟩ X
        have ne_ad90_b199 : ad90 ≠ b199 := neOf F_8.lt gb199
        have ne_b186_b199 : b186 ≠ b199 := neOf F_10.lt gb199
        have ne_d186_b199 : d186 ≠ b199 := neOf F_12.lt gb199
        have ne_ad192_b199 : ad192 ≠ b199 := neOf F_13.lt gb199
        have ne_ad90_d199 : ad90 ≠ d199 := neOf F_8.lt gd199
        have ne_b186_d199 : b186 ≠ d199 := neOf F_10.lt gd199
        have ne_d186_d199 : d186 ≠ d199 := neOf F_12.lt gd199
        have ne_ad192_d199 : ad192 ≠ d199 := neOf F_13.lt gd199
        have F_14 := F_8.keep K199
        have F_15 := F_9.keep K199 nin0
        have F_16 := F_10.keep K199
        have F_17 := F_11.keep K199 nin0
        have F_18 := F_12.keep K199 nin0
        have F_19 := F_13.keep K199
        have F_20 := V198.keep K199 nin0
        refine gAstore X w at_202 rfl #[.val (.int a), .val (.int b), .val (.int c_), .val (.int d), .val (.int xx), .val (.int p6), .val (.int (0 : Int32)), .val (.int pk), .val (.ref ad90), .val (.ref b186), .val (.ref b199), .unset, .unset] rfl (n := 204) rfl ?_
        have k257 : ∀ e_ : Int32, (e_ = 0 ∨ e_ = 1) → (e_ = 1 ↔ (False)) → Gl p e below s n0 (fun r h => r = some (.int 1)) 24 128 (T.setTop (mkF m 257 #[.val (.int a), .val (.int b), .val (.int c_), .val (.int d), .val (.int xx), .val (.int p6), .val (.int (0 : Int32)), .val (.int pk), .val (.ref ad90), .val (.ref b186), .val (.ref b199), .unset, .unset] [.int e_])) := by
          intro e_ oe ie
          have hc1 : own_com u186 u199 ↔ (False) := ⟨fun ⟨y, h1, h2⟩ => by have h3 := (mem199 y).mp h2; rw [h3] at h1; exact (mem186 xx).mp h1, fun h => ⟨xx, (mem186 xx).mpr h, (mem199 xx).mpr rfl⟩⟩
          have hc0 : ¬ own_com u186 u186 := fun ⟨y, h1, h2⟩ => (mem186 y).mp h1
          refine gIstore X w at_257 #[.val (.int a), .val (.int b), .val (.int c_), .val (.int d), .val (.int xx), .val (.int p6), .val (.int (0 : Int32)), .val (.int pk), .val (.ref ad90), .val (.ref b186), .val (.ref b199), .val (.int e_), .unset] rfl (n := 259) rfl ?_
          refine gAload X w at_259 rfl rfl (n := 261) rfl ?_
          refine gIload X w at_261 rfl (n := 263) rfl ?_
          refine gIloadN X w at_263 rfl (n := 264) rfl ?_
          refine gIloadN X w at_264 rfl (n := 265) rfl ?_
          refine gIloadN X w at_265 rfl (n := 266) rfl ?_
          refine gIloadN X w at_266 rfl (n := 267) rfl ?_
          refine gCallSv X w [(.ref ad90), (.int (0 : Int32)), (.int a), (.int b), (.int c_), (.int d)] [] (own_unt_0 l Z a0 hw ad90 a b c_ d h199 n0 (Sd.le X) F_15) (own_wd hw 43 rfl) (own_wd hw 44 rfl) (own_wd hw 45 rfl) (own_wd hw 46 rfl) (by decide) own_pd7 rfl rfl at_267 rfl (W := 0) (Nat.le_of_eq rfl) (by decide) (by decide) (by decide) (by decide) (n := 270) rfl ?_
          rintro T _ _ ⟨rfl, rfl⟩ X
          refine gIstore X w at_270 #[.val (.int a), .val (.int b), .val (.int c_), .val (.int d), .val (.int xx), .val (.int p6), .val (.int (0 : Int32)), .val (.int pk), .val (.ref ad90), .val (.ref b186), .val (.ref b199), .val (.int e_), .val (.int (1 : Int32))] rfl (n := 272) rfl ?_
          refine gAload X w at_272 rfl rfl (n := 274) rfl ?_
          refine gAload X w at_274 rfl rfl (n := 276) rfl ?_
          refine gCallVv X w [(.ref b199)] [] F_16 (own_meets l Z a0 hw b186 b199 d186 d199 u186 u199 h199 n0 (Sd.le X) F_17 F199 F_18 V199 (by omega) (by omega) asc186 asc199) (own_wd hw 47 rfl) (own_wd hw 48 rfl) (notFace_of_selects (args := #[]) (mvT w.2.2.1 (own_wd hw 50 rfl))) (own_wd hw 50 rfl) (own_wd hw 49 rfl) (own_wd hw 3 rfl) (own_wd hw 51 rfl) (by decide) own_pd8 rfl rfl at_276 rfl (W := 0) (Nat.le_of_eq rfl) (by decide) (by decide) (by decide) (by decide) (n := 279) rfl ?_
          rintro T _ _ ⟨rfl, z276, rfl, o276, i276⟩ X
          refine gIload X w at_279 rfl (n := 281) rfl ?_
          refine gIcmp_ne X w at_281 (n := 325) (n' := 284) (by decide) rfl rfl ?_ ?_
          · rintro ⟨c281, c281'⟩
            exact absurd (own_b01 o276 oe (i276.trans (hc1.trans ie.symm))) c281
          · rintro ⟨c281, c281'⟩
            refine gAload X w at_284 rfl rfl (n := 286) rfl ?_
            refine gAload X w at_286 rfl rfl (n := 288) rfl ?_
            refine gCallVv X w [(.ref b186)] [] A199 (own_meets l Z a0 hw b199 b186 d199 d186 u199 u186 h199 n0 (Sd.le X) F199 F_17 V199 F_18 (by omega) (by omega) asc199 asc186) (own_wd hw 47 rfl) (own_wd hw 48 rfl) (notFace_of_selects (args := #[]) (mvT w.2.2.1 (own_wd hw 50 rfl))) (own_wd hw 50 rfl) (own_wd hw 49 rfl) (own_wd hw 3 rfl) (own_wd hw 51 rfl) (by decide) own_pd8 rfl rfl at_288 rfl (W := 0) (Nat.le_of_eq rfl) (by decide) (by decide) (by decide) (by decide) (n := 291) rfl ?_
            rintro T _ _ ⟨rfl, z288, rfl, o288, i288⟩ X
            refine gIload X w at_291 rfl (n := 293) rfl ?_
            refine gIcmp_ne X w at_293 (n := 325) (n' := 296) (by decide) rfl rfl ?_ ?_
            · rintro ⟨c293, c293'⟩
              exact absurd (own_b01 o288 oe (i288.trans (own_com_symm.trans (hc1.trans ie.symm)))) c293
            · rintro ⟨c293, c293'⟩
              refine gAload X w at_296 rfl rfl (n := 298) rfl ?_
              refine gAload X w at_298 rfl rfl (n := 300) rfl ?_
              refine gCallVv X w [(.ref b186)] [] F_16 (own_meets l Z a0 hw b186 b186 d186 d186 u186 u186 h199 n0 (Sd.le X) F_17 F_17 F_18 F_18 (by omega) (by omega) asc186 asc186) (own_wd hw 47 rfl) (own_wd hw 48 rfl) (notFace_of_selects (args := #[]) (mvT w.2.2.1 (own_wd hw 50 rfl))) (own_wd hw 50 rfl) (own_wd hw 49 rfl) (own_wd hw 3 rfl) (own_wd hw 51 rfl) (by decide) own_pd8 rfl rfl at_300 rfl (W := 0) (Nat.le_of_eq rfl) (by decide) (by decide) (by decide) (by decide) (n := 303) rfl ?_
              rintro T _ _ ⟨rfl, z300, rfl, o300, i300⟩ X
              refine gIload X w at_303 rfl (n := 305) rfl ?_
              refine gIf_le X w at_305 (n := 312) (n' := 308) (by decide) rfl rfl ?_ ?_
              · intro c305
                refine gIconst X w at_312 (z := (0 : Int32)) rfl (n := 313) rfl ?_
                refine gIcmp_ne X w at_313 (n := 325) (n' := 316) (by decide) rfl rfl ?_ ?_
                · rintro ⟨c313, c313'⟩
                  exact absurd (o300.resolve_right (fun q => hc0 (i300.mp q))) c313
                · rintro ⟨c313, c313'⟩
                  refine gIload X w at_316 rfl (n := 318) rfl ?_
                  refine gIf_eq X w at_318 (n := 325) (n' := 321) (by decide) rfl rfl ?_ ?_
                  · rintro ⟨c318, c318'⟩
                    exact absurd c318 (by decide)
                  · rintro ⟨c318, c318'⟩
                    refine gIconst X w at_321 (z := (1 : Int32)) rfl (n := 322) rfl ?_
                    refine gGoto X w at_322 (by decide) (n := 326) rfl ?_
                    exact gRetZ X w rfl (Or.inr rfl) at_326 (by decide) (by decide) (rfl)
              · intro c305
                exact absurd c305 (by decide)
        refine gIload X w at_204 rfl (n := 206) rfl ?_
        refine gIconst X w at_206 (z := (1 : Int32)) rfl (n := 207) rfl ?_
        refine gIcmp_lt X w at_207 (n := 216) (n' := 210) (by decide) rfl rfl ?_ ?_
        · intro c207
          refine gIload X w at_216 rfl (n := 218) rfl ?_
          refine gIconst X w at_218 (z := (2 : Int32)) rfl (n := 219) rfl ?_
          refine gIcmp_lt X w at_219 (n := 228) (n' := 222) (by decide) rfl rfl ?_ ?_
          · intro c219
            refine gIload X w at_228 rfl (n := 230) rfl ?_
            refine gIconst X w at_230 (z := (3 : Int32)) rfl (n := 231) rfl ?_
            refine gIcmp_lt X w at_231 (n := 240) (n' := 234) (by decide) rfl rfl ?_ ?_
            · intro c231
              refine gIload X w at_240 rfl (n := 242) rfl ?_
              refine gIconst X w at_242 (z := (4 : Int32)) rfl (n := 243) rfl ?_
              refine gIcmp_lt X w at_243 (n := 256) (n' := 246) (by decide) rfl rfl ?_ ?_
              · intro c243
                refine gIconst X w at_256 (z := (0 : Int32)) rfl (n := 257) rfl ?_
                exact k257 _ (by decide) ⟨fun q => absurd q (by decide), fun q => by exfalso; simp_all⟩
              · intro c243
                exact absurd c243 (by decide)
            · intro c231
              exact absurd c231 (by decide)
          · intro c219
            exact absurd c219 (by decide)
        · intro c207
          exact absurd c207 (by decide)
    · skip
      refine gIload X w at_84 rfl (n := 86) rfl ?_
      refine gIf_ne X w at_86 (n := 97) (n' := 89) (by decide) rfl rfl ?_ ?_
      · rintro ⟨c86, c86'⟩
        refine gIload X w at_97 rfl (n := 99) rfl ?_
        refine gIconst X w at_99 (z := (1 : Int32)) rfl (n := 100) rfl ?_
        refine gIcmp_ne X w at_100 (n := 115) (n' := 103) (by decide) rfl rfl ?_ ?_
        · rintro ⟨c100, c100'⟩
          exact absurd c100 (by decide)
        · rintro ⟨c100, c100'⟩
          refine gIconst X w at_103 (z := (1 : Int32)) rfl (n := 104) rfl ?_
          refine gNewP X w (own_wd hw 0 rfl) at_104 (by decide) (cap := 1) (by decide) (by decide) (by decide) (by decide) (vs := [(.int (0 : Int32))]) (ty := .int) rfl rfl (ad := "[I") (by decide) (n := 106) rfl ?_
          intro T hp104 ad104 ea104 na104 X E104 V104 A104
          refine gDup X w at_106 rfl (n := 107) rfl ?_
          refine gIconst X w at_107 (z := (0 : Int32)) rfl (n := 108) rfl ?_
          refine gIloadN X w at_108 rfl (n := 109) rfl ?_
          refine gIastore X w (z := (.int a)) V104 (by decide) (show (0 : Int) < ((1 : Nat) : Int) from by decide) na104 rfl (vs' := [(.int a)]) rfl at_109 (n := 110) rfl ?_
          intro T hp109 X W109 V109
          have F_1 := A104.wr W109
          refine gAstore X w at_110 rfl #[.val (.int a), .val (.int b), .val (.int c_), .val (.int d), .val (.int xx), .val (.int p6), .val (.int (1 : Int32)), .val (.int pk), .val (.ref ad104), .unset, .unset, .unset, .unset] rfl (n := 112) rfl ?_
          refine gGoto X w at_112 (by decide) (n := 184) rfl ?_
          refine gAload X w at_184 rfl rfl (n := 186) rfl ?_
          refine gCallSv X w [(.ref ad104)] [] (own_of_1 l Z a0 hw ad104 a hp109 n0 (Sd.le X) V109 F_1) (own_wd hw 1 rfl) (own_wd hw 2 rfl) (own_wd hw 3 rfl) (own_wd hw 4 rfl) (by decide) own_pd6 rfl rfl at_186 rfl (W := 0) (Nat.le_of_eq rfl) (by decide) (by decide) (by decide) (by decide) (n := 189) rfl ?_
          rintro T h186 _ ⟨K186, b186, d186, u186, rfl, gb186, gd186, nbd186, A186, F186, V186, l186, asc186, mem186⟩ X
          have ne_ad104_b186 : ad104 ≠ b186 := neOf F_1.lt gb186
          have ne_ad104_d186 : ad104 ≠ d186 := neOf F_1.lt gd186
          have F_2 := F_1.keep K186
          have F_3 := V109.keep K186 nin0
          refine gAstore X w at_189 rfl #[.val (.int a), .val (.int b), .val (.int c_), .val (.int d), .val (.int xx), .val (.int p6), .val (.int (1 : Int32)), .val (.int pk), .val (.ref ad104), .val (.ref b186), .unset, .unset, .unset] rfl (n := 191) rfl ?_
          refine gIconst X w at_191 (z := (1 : Int32)) rfl (n := 192) rfl ?_
          refine gNewP X w (own_wd hw 0 rfl) at_192 (by decide) (cap := 1) (by decide) (by decide) (by decide) (by decide) (vs := [(.int (0 : Int32))]) (ty := .int) rfl rfl (ad := "[I") (by decide) (n := 194) rfl ?_
          intro T hp192 ad192 ea192 na192 X E192 V192 A192
          have ne_ad104_ad192 : ad104 ≠ ad192 := neOf F_2.lt (Nat.le_of_eq ea192.symm)
          have ne_b186_ad192 : b186 ≠ ad192 := neOf A186.lt (Nat.le_of_eq ea192.symm)
          have ne_d186_ad192 : d186 ≠ ad192 := neOf V186.lt (Nat.le_of_eq ea192.symm)
          have F_4 := F_2.ext E192
          have F_5 := F_3.ext E192
          have F_6 := A186.ext E192
          have F_7 := F186.ext E192
          have F_8 := V186.ext E192
          refine gDup X w at_194 rfl (n := 195) rfl ?_
          refine gIconst X w at_195 (z := (0 : Int32)) rfl (n := 196) rfl ?_
          refine gIload X w at_196 rfl (n := 198) rfl ?_
          refine gIastore X w (z := (.int xx)) V192 (by decide) (show (0 : Int) < ((1 : Nat) : Int) from by decide) na192 rfl (vs' := [(.int xx)]) rfl at_198 (n := 199) rfl ?_
          intro T hp198 X W198 V198
          have F_9 := F_4.wr W198
          have F_10 := F_5.other W198 ne_ad104_ad192
          have F_11 := F_6.wr W198
          have F_12 := F_7.other W198 (Or.inl ne_b186_ad192)
          have F_13 := F_8.other W198 ne_d186_ad192
          have F_14 := A192.wr W198
          refine gCallSv X w [(.ref ad192)] [] (own_of_1 l Z a0 hw ad192 xx hp198 n0 (Sd.le X) V198 F_14) (own_wd hw 1 rfl) (own_wd hw 2 rfl) (own_wd hw 3 rfl) (own_wd hw 4 rfl) (by decide) own_pd6 rfl rfl at_199 rfl (W := 0) (Nat.le_of_eq rfl) (by decide) (by decide) (by decide) (by decide) (n := 202) rfl ?_
          rintro T h199 _ ⟨K199, b199, d199, u199, rfl, gb199, gd199, nbd199, A199, F199, V199, l199, asc199, mem199⟩ X
          have ne_ad104_b199 : ad104 ≠ b199 := neOf F_9.lt gb199
          have ne_b186_b199 : b186 ≠ b199 := neOf F_11.lt gb199
          have ne_d186_b199 : d186 ≠ b199 := neOf F_13.lt gb199
          have ne_ad192_b199 : ad192 ≠ b199 := neOf F_14.lt gb199
          have ne_ad104_d199 : ad104 ≠ d199 := neOf F_9.lt gd199
          have ne_b186_d199 : b186 ≠ d199 := neOf F_11.lt gd199
          have ne_d186_d199 : d186 ≠ d199 := neOf F_13.lt gd199
          have ne_ad192_d199 : ad192 ≠ d199 := neOf F_14.lt gd199
          have F_15 := F_9.keep K199
          have F_16 := F_10.keep K199 nin0
          have F_17 := F_11.keep K199
          have F_18 := F_12.keep K199 nin0
          have F_19 := F_13.keep K199 nin0
          have F_20 := F_14.keep K199
          have F_21 := V198.keep K199 nin0
          refine gAstore X w at_202 rfl #[.val (.int a), .val (.int b), .val (.int c_), .val (.int d), .val (.int xx), .val (.int p6), .val (.int (1 : Int32)), .val (.int pk), .val (.ref ad104), .val (.ref b186), .val (.ref b199), .unset, .unset] rfl (n := 204) rfl ?_
          have k257 : ∀ e_ : Int32, (e_ = 0 ∨ e_ = 1) → (e_ = 1 ↔ (xx = a)) → Gl p e below s n0 (fun r h => r = some (.int 1)) 24 128 (T.setTop (mkF m 257 #[.val (.int a), .val (.int b), .val (.int c_), .val (.int d), .val (.int xx), .val (.int p6), .val (.int (1 : Int32)), .val (.int pk), .val (.ref ad104), .val (.ref b186), .val (.ref b199), .unset, .unset] [.int e_])) := by
            intro e_ oe ie
            have hc1 : own_com u186 u199 ↔ (xx = a) := ⟨fun ⟨y, h1, h2⟩ => by have h3 := (mem199 y).mp h2; rw [h3] at h1; exact (mem186 xx).mp h1, fun h => ⟨xx, (mem186 xx).mpr h, (mem199 xx).mpr rfl⟩⟩
            have hc0 : own_com u186 u186 := ⟨a, (mem186 a).mpr (by simp), (mem186 a).mpr (by simp)⟩
            refine gIstore X w at_257 #[.val (.int a), .val (.int b), .val (.int c_), .val (.int d), .val (.int xx), .val (.int p6), .val (.int (1 : Int32)), .val (.int pk), .val (.ref ad104), .val (.ref b186), .val (.ref b199), .val (.int e_), .unset] rfl (n := 259) rfl ?_
            refine gAload X w at_259 rfl rfl (n := 261) rfl ?_
            refine gIload X w at_261 rfl (n := 263) rfl ?_
            refine gIloadN X w at_263 rfl (n := 264) rfl ?_
            refine gIloadN X w at_264 rfl (n := 265) rfl ?_
            refine gIloadN X w at_265 rfl (n := 266) rfl ?_
            refine gIloadN X w at_266 rfl (n := 267) rfl ?_
            refine gCallSv X w [(.ref ad104), (.int (1 : Int32)), (.int a), (.int b), (.int c_), (.int d)] [] (own_unt_1 l Z a0 hw ad104 a b c_ d h199 n0 (Sd.le X) F_16) (own_wd hw 43 rfl) (own_wd hw 44 rfl) (own_wd hw 45 rfl) (own_wd hw 46 rfl) (by decide) own_pd7 rfl rfl at_267 rfl (W := 0) (Nat.le_of_eq rfl) (by decide) (by decide) (by decide) (by decide) (n := 270) rfl ?_
            rintro T _ _ ⟨rfl, rfl⟩ X
            refine gIstore X w at_270 #[.val (.int a), .val (.int b), .val (.int c_), .val (.int d), .val (.int xx), .val (.int p6), .val (.int (1 : Int32)), .val (.int pk), .val (.ref ad104), .val (.ref b186), .val (.ref b199), .val (.int e_), .val (.int (1 : Int32))] rfl (n := 272) rfl ?_
            refine gAload X w at_272 rfl rfl (n := 274) rfl ?_
            refine gAload X w at_274 rfl rfl (n := 276) rfl ?_
            refine gCallVv X w [(.ref b199)] [] F_17 (own_meets l Z a0 hw b186 b199 d186 d199 u186 u199 h199 n0 (Sd.le X) F_18 F199 F_19 V199 (by omega) (by omega) asc186 asc199) (own_wd hw 47 rfl) (own_wd hw 48 rfl) (notFace_of_selects (args := #[]) (mvT w.2.2.1 (own_wd hw 50 rfl))) (own_wd hw 50 rfl) (own_wd hw 49 rfl) (own_wd hw 3 rfl) (own_wd hw 51 rfl) (by decide) own_pd8 rfl rfl at_276 rfl (W := 0) (Nat.le_of_eq rfl) (by decide) (by decide) (by decide) (by decide) (n := 279) rfl ?_
            rintro T _ _ ⟨rfl, z276, rfl, o276, i276⟩ X
            refine gIload X w at_279 rfl (n := 281) rfl ?_
            refine gIcmp_ne X w at_281 (n := 325) (n' := 284) (by decide) rfl rfl ?_ ?_
            · rintro ⟨c281, c281'⟩
              exact absurd (own_b01 o276 oe (i276.trans (hc1.trans ie.symm))) c281
            · rintro ⟨c281, c281'⟩
              refine gAload X w at_284 rfl rfl (n := 286) rfl ?_
              refine gAload X w at_286 rfl rfl (n := 288) rfl ?_
              refine gCallVv X w [(.ref b186)] [] A199 (own_meets l Z a0 hw b199 b186 d199 d186 u199 u186 h199 n0 (Sd.le X) F199 F_18 V199 F_19 (by omega) (by omega) asc199 asc186) (own_wd hw 47 rfl) (own_wd hw 48 rfl) (notFace_of_selects (args := #[]) (mvT w.2.2.1 (own_wd hw 50 rfl))) (own_wd hw 50 rfl) (own_wd hw 49 rfl) (own_wd hw 3 rfl) (own_wd hw 51 rfl) (by decide) own_pd8 rfl rfl at_288 rfl (W := 0) (Nat.le_of_eq rfl) (by decide) (by decide) (by decide) (by decide) (n := 291) rfl ?_
              rintro T _ _ ⟨rfl, z288, rfl, o288, i288⟩ X
              refine gIload X w at_291 rfl (n := 293) rfl ?_
              refine gIcmp_ne X w at_293 (n := 325) (n' := 296) (by decide) rfl rfl ?_ ?_
              · rintro ⟨c293, c293'⟩
                exact absurd (own_b01 o288 oe (i288.trans (own_com_symm.trans (hc1.trans ie.symm)))) c293
              · rintro ⟨c293, c293'⟩
                refine gAload X w at_296 rfl rfl (n := 298) rfl ?_
                refine gAload X w at_298 rfl rfl (n := 300) rfl ?_
                refine gCallVv X w [(.ref b186)] [] F_17 (own_meets l Z a0 hw b186 b186 d186 d186 u186 u186 h199 n0 (Sd.le X) F_18 F_18 F_19 F_19 (by omega) (by omega) asc186 asc186) (own_wd hw 47 rfl) (own_wd hw 48 rfl) (notFace_of_selects (args := #[]) (mvT w.2.2.1 (own_wd hw 50 rfl))) (own_wd hw 50 rfl) (own_wd hw 49 rfl) (own_wd hw 3 rfl) (own_wd hw 51 rfl) (by decide) own_pd8 rfl rfl at_300 rfl (W := 0) (Nat.le_of_eq rfl) (by decide) (by decide) (by decide) (by decide) (n := 303) rfl ?_
                rintro T _ _ ⟨rfl, z300, rfl, o300, i300⟩ X
                refine gIload X w at_303 rfl (n := 305) rfl ?_
                refine gIf_le X w at_305 (n := 312) (n' := 308) (by decide) rfl rfl ?_ ?_
                · intro c305
                  exact absurd c305 (by decide)
                · intro c305
                  refine gIconst X w at_308 (z := (1 : Int32)) rfl (n := 309) rfl ?_
                  refine gGoto X w at_309 (by decide) (n := 313) rfl ?_
                  refine gIcmp_ne X w at_313 (n := 325) (n' := 316) (by decide) rfl rfl ?_ ?_
                  · rintro ⟨c313, c313'⟩
                    exact absurd (i300.mpr hc0) c313
                  · rintro ⟨c313, c313'⟩
                    refine gIload X w at_316 rfl (n := 318) rfl ?_
                    refine gIf_eq X w at_318 (n := 325) (n' := 321) (by decide) rfl rfl ?_ ?_
                    · rintro ⟨c318, c318'⟩
                      exact absurd c318 (by decide)
                    · rintro ⟨c318, c318'⟩
                      refine gIconst X w at_321 (z := (1 : Int32)) rfl (n := 322) rfl ?_
                      refine gGoto X w at_322 (by decide) (n := 326) rfl ?_
                      exact gRetZ X w rfl (Or.inr rfl) at_326 (by decide) (by decide) (rfl)
          refine gIload X w at_204 rfl (n := 206) rfl ?_
          refine gIconst X w at_206 (z := (1 : Int32)) rfl (n := 207) rfl ?_
          refine gIcmp_lt X w at_207 (n := 216) (n' := 210) (by decide) rfl rfl ?_ ?_
          · intro c207
            exact absurd c207 (by decide)
          · intro c207
            refine gIload X w at_210 rfl (n := 212) rfl ?_
            refine gIloadN X w at_212 rfl (n := 213) rfl ?_
            refine gIcmp_eq X w at_213 (n := 252) (n' := 216) (by decide) rfl rfl ?_ ?_
            · rintro ⟨c213, c213'⟩
              refine gIconst X w at_252 (z := (1 : Int32)) rfl (n := 253) rfl ?_
              refine gGoto X w at_253 (by decide) (n := 257) rfl ?_
              exact k257 _ (by decide) ⟨fun _ => by simp_all, fun _ => rfl⟩
            · rintro ⟨c213, c213'⟩
              refine gIload X w at_216 rfl (n := 218) rfl ?_
              refine gIconst X w at_218 (z := (2 : Int32)) rfl (n := 219) rfl ?_
              refine gIcmp_lt X w at_219 (n := 228) (n' := 222) (by decide) rfl rfl ?_ ?_
              · intro c219
                refine gIload X w at_228 rfl (n := 230) rfl ?_
                refine gIconst X w at_230 (z := (3 : Int32)) rfl (n := 231) rfl ?_
                refine gIcmp_lt X w at_231 (n := 240) (n' := 234) (by decide) rfl rfl ?_ ?_
                · intro c231
                  refine gIload X w at_240 rfl (n := 242) rfl ?_
                  refine gIconst X w at_242 (z := (4 : Int32)) rfl (n := 243) rfl ?_
                  refine gIcmp_lt X w at_243 (n := 256) (n' := 246) (by decide) rfl rfl ?_ ?_
                  · intro c243
                    refine gIconst X w at_256 (z := (0 : Int32)) rfl (n := 257) rfl ?_
                    exact k257 _ (by decide) ⟨fun q => absurd q (by decide), fun q => by exfalso; simp_all⟩
                  · intro c243
                    exact absurd c243 (by decide)
                · intro c231
                  exact absurd c231 (by decide)
              · intro c219
                exact absurd c219 (by decide)
      · rintro ⟨c86, c86'⟩
        exact absurd c86 (by decide)
    · skip
      refine gIload X w at_84 rfl (n := 86) rfl ?_
      refine gIf_ne X w at_86 (n := 97) (n' := 89) (by decide) rfl rfl ?_ ?_
      · rintro ⟨c86, c86'⟩
        refine gIload X w at_97 rfl (n := 99) rfl ?_
        refine gIconst X w at_99 (z := (1 : Int32)) rfl (n := 100) rfl ?_
        refine gIcmp_ne X w at_100 (n := 115) (n' := 103) (by decide) rfl rfl ?_ ?_
        · rintro ⟨c100, c100'⟩
          refine gIload X w at_115 rfl (n := 117) rfl ?_
          refine gIconst X w at_117 (z := (2 : Int32)) rfl (n := 118) rfl ?_
          refine gIcmp_ne X w at_118 (n := 137) (n' := 121) (by decide) rfl rfl ?_ ?_
          · rintro ⟨c118, c118'⟩
            exact absurd c118 (by decide)
          · rintro ⟨c118, c118'⟩
            refine gIconst X w at_121 (z := (2 : Int32)) rfl (n := 122) rfl ?_
            refine gNewP X w (own_wd hw 0 rfl) at_122 (by decide) (cap := 2) (by decide) (by decide) (by decide) (by decide) (vs := [(.int (0 : Int32)), (.int (0 : Int32))]) (ty := .int) rfl rfl (ad := "[I") (by decide) (n := 124) rfl ?_
            intro T hp122 ad122 ea122 na122 X E122 V122 A122
            refine gDup X w at_124 rfl (n := 125) rfl ?_
            refine gIconst X w at_125 (z := (0 : Int32)) rfl (n := 126) rfl ?_
            refine gIloadN X w at_126 rfl (n := 127) rfl ?_
            refine gIastore X w (z := (.int a)) V122 (by decide) (show (0 : Int) < ((2 : Nat) : Int) from by decide) na122 rfl (vs' := [(.int a), (.int (0 : Int32))]) rfl at_127 (n := 128) rfl ?_
            intro T hp127 X W127 V127
            have F_1 := A122.wr W127
            refine gDup X w at_128 rfl (n := 129) rfl ?_
            refine gIconst X w at_129 (z := (1 : Int32)) rfl (n := 130) rfl ?_
            refine gIloadN X w at_130 rfl (n := 131) rfl ?_
            refine gIastore X w (z := (.int b)) V127 (by decide) (show (1 : Int) < ((2 : Nat) : Int) from by decide) na122 rfl (vs' := [(.int a), (.int b)]) rfl at_131 (n := 132) rfl ?_
            intro T hp131 X W131 V131
            have F_2 := F_1.wr W131
            refine gAstore X w at_132 rfl #[.val (.int a), .val (.int b), .val (.int c_), .val (.int d), .val (.int xx), .val (.int p6), .val (.int (2 : Int32)), .val (.int pk), .val (.ref ad122), .unset, .unset, .unset, .unset] rfl (n := 134) rfl ?_
            refine gGoto X w at_134 (by decide) (n := 184) rfl ?_
            refine gAload X w at_184 rfl rfl (n := 186) rfl ?_
            refine gCallSv X w [(.ref ad122)] [] (own_of_2 l Z a0 hw ad122 a b hp131 n0 (Sd.le X) V131 F_2) (own_wd hw 1 rfl) (own_wd hw 2 rfl) (own_wd hw 3 rfl) (own_wd hw 4 rfl) (by decide) own_pd6 rfl rfl at_186 rfl (W := 0) (Nat.le_of_eq rfl) (by decide) (by decide) (by decide) (by decide) (n := 189) rfl ?_
            rintro T h186 _ ⟨K186, b186, d186, u186, rfl, gb186, gd186, nbd186, A186, F186, V186, l186, asc186, mem186⟩ X
            have ne_ad122_b186 : ad122 ≠ b186 := neOf F_2.lt gb186
            have ne_ad122_d186 : ad122 ≠ d186 := neOf F_2.lt gd186
            have F_3 := F_2.keep K186
            have F_4 := V131.keep K186 nin0
            refine gAstore X w at_189 rfl #[.val (.int a), .val (.int b), .val (.int c_), .val (.int d), .val (.int xx), .val (.int p6), .val (.int (2 : Int32)), .val (.int pk), .val (.ref ad122), .val (.ref b186), .unset, .unset, .unset] rfl (n := 191) rfl ?_
            refine gIconst X w at_191 (z := (1 : Int32)) rfl (n := 192) rfl ?_
            refine gNewP X w (own_wd hw 0 rfl) at_192 (by decide) (cap := 1) (by decide) (by decide) (by decide) (by decide) (vs := [(.int (0 : Int32))]) (ty := .int) rfl rfl (ad := "[I") (by decide) (n := 194) rfl ?_
            intro T hp192 ad192 ea192 na192 X E192 V192 A192
            have ne_ad122_ad192 : ad122 ≠ ad192 := neOf F_3.lt (Nat.le_of_eq ea192.symm)
            have ne_b186_ad192 : b186 ≠ ad192 := neOf A186.lt (Nat.le_of_eq ea192.symm)
            have ne_d186_ad192 : d186 ≠ ad192 := neOf V186.lt (Nat.le_of_eq ea192.symm)
            have F_5 := F_3.ext E192
            have F_6 := F_4.ext E192
            have F_7 := A186.ext E192
            have F_8 := F186.ext E192
            have F_9 := V186.ext E192
            refine gDup X w at_194 rfl (n := 195) rfl ?_
            refine gIconst X w at_195 (z := (0 : Int32)) rfl (n := 196) rfl ?_
            refine gIload X w at_196 rfl (n := 198) rfl ?_
            refine gIastore X w (z := (.int xx)) V192 (by decide) (show (0 : Int) < ((1 : Nat) : Int) from by decide) na192 rfl (vs' := [(.int xx)]) rfl at_198 (n := 199) rfl ?_
            intro T hp198 X W198 V198
            have F_10 := F_5.wr W198
            have F_11 := F_6.other W198 ne_ad122_ad192
            have F_12 := F_7.wr W198
            have F_13 := F_8.other W198 (Or.inl ne_b186_ad192)
            have F_14 := F_9.other W198 ne_d186_ad192
            have F_15 := A192.wr W198
            refine gCallSv X w [(.ref ad192)] [] (own_of_1 l Z a0 hw ad192 xx hp198 n0 (Sd.le X) V198 F_15) (own_wd hw 1 rfl) (own_wd hw 2 rfl) (own_wd hw 3 rfl) (own_wd hw 4 rfl) (by decide) own_pd6 rfl rfl at_199 rfl (W := 0) (Nat.le_of_eq rfl) (by decide) (by decide) (by decide) (by decide) (n := 202) rfl ?_
            rintro T h199 _ ⟨K199, b199, d199, u199, rfl, gb199, gd199, nbd199, A199, F199, V199, l199, asc199, mem199⟩ X
            have ne_ad122_b199 : ad122 ≠ b199 := neOf F_10.lt gb199
            have ne_b186_b199 : b186 ≠ b199 := neOf F_12.lt gb199
            have ne_d186_b199 : d186 ≠ b199 := neOf F_14.lt gb199
            have ne_ad192_b199 : ad192 ≠ b199 := neOf F_15.lt gb199
            have ne_ad122_d199 : ad122 ≠ d199 := neOf F_10.lt gd199
            have ne_b186_d199 : b186 ≠ d199 := neOf F_12.lt gd199
            have ne_d186_d199 : d186 ≠ d199 := neOf F_14.lt gd199
            have ne_ad192_d199 : ad192 ≠ d199 := neOf F_15.lt gd199
            have F_16 := F_10.keep K199
            have F_17 := F_11.keep K199 nin0
            have F_18 := F_12.keep K199
            have F_19 := F_13.keep K199 nin0
            have F_20 := F_14.keep K199 nin0
            have F_21 := F_15.keep K199
            have F_22 := V198.keep K199 nin0
            refine gAstore X w at_202 rfl #[.val (.int a), .val (.int b), .val (.int c_), .val (.int d), .val (.int xx), .val (.int p6), .val (.int (2 : Int32)), .val (.int pk), .val (.ref ad122), .val (.ref b186), .val (.ref b199), .unset, .unset] rfl (n := 204) rfl ?_
            have k257 : ∀ e_ : Int32, (e_ = 0 ∨ e_ = 1) → (e_ = 1 ↔ (xx = a ∨ xx = b)) → Gl p e below s n0 (fun r h => r = some (.int 1)) 24 128 (T.setTop (mkF m 257 #[.val (.int a), .val (.int b), .val (.int c_), .val (.int d), .val (.int xx), .val (.int p6), .val (.int (2 : Int32)), .val (.int pk), .val (.ref ad122), .val (.ref b186), .val (.ref b199), .unset, .unset] [.int e_])) := by
              intro e_ oe ie
              have hc1 : own_com u186 u199 ↔ (xx = a ∨ xx = b) := ⟨fun ⟨y, h1, h2⟩ => by have h3 := (mem199 y).mp h2; rw [h3] at h1; exact (mem186 xx).mp h1, fun h => ⟨xx, (mem186 xx).mpr h, (mem199 xx).mpr rfl⟩⟩
              have hc0 : own_com u186 u186 := ⟨a, (mem186 a).mpr (by simp), (mem186 a).mpr (by simp)⟩
              refine gIstore X w at_257 #[.val (.int a), .val (.int b), .val (.int c_), .val (.int d), .val (.int xx), .val (.int p6), .val (.int (2 : Int32)), .val (.int pk), .val (.ref ad122), .val (.ref b186), .val (.ref b199), .val (.int e_), .unset] rfl (n := 259) rfl ?_
              refine gAload X w at_259 rfl rfl (n := 261) rfl ?_
              refine gIload X w at_261 rfl (n := 263) rfl ?_
              refine gIloadN X w at_263 rfl (n := 264) rfl ?_
              refine gIloadN X w at_264 rfl (n := 265) rfl ?_
              refine gIloadN X w at_265 rfl (n := 266) rfl ?_
              refine gIloadN X w at_266 rfl (n := 267) rfl ?_
              refine gCallSv X w [(.ref ad122), (.int (2 : Int32)), (.int a), (.int b), (.int c_), (.int d)] [] (own_unt_2 l Z a0 hw ad122 a b c_ d h199 n0 (Sd.le X) F_17) (own_wd hw 43 rfl) (own_wd hw 44 rfl) (own_wd hw 45 rfl) (own_wd hw 46 rfl) (by decide) own_pd7 rfl rfl at_267 rfl (W := 0) (Nat.le_of_eq rfl) (by decide) (by decide) (by decide) (by decide) (n := 270) rfl ?_
              rintro T _ _ ⟨rfl, rfl⟩ X
              refine gIstore X w at_270 #[.val (.int a), .val (.int b), .val (.int c_), .val (.int d), .val (.int xx), .val (.int p6), .val (.int (2 : Int32)), .val (.int pk), .val (.ref ad122), .val (.ref b186), .val (.ref b199), .val (.int e_), .val (.int (1 : Int32))] rfl (n := 272) rfl ?_
              refine gAload X w at_272 rfl rfl (n := 274) rfl ?_
              refine gAload X w at_274 rfl rfl (n := 276) rfl ?_
              refine gCallVv X w [(.ref b199)] [] F_18 (own_meets l Z a0 hw b186 b199 d186 d199 u186 u199 h199 n0 (Sd.le X) F_19 F199 F_20 V199 (by omega) (by omega) asc186 asc199) (own_wd hw 47 rfl) (own_wd hw 48 rfl) (notFace_of_selects (args := #[]) (mvT w.2.2.1 (own_wd hw 50 rfl))) (own_wd hw 50 rfl) (own_wd hw 49 rfl) (own_wd hw 3 rfl) (own_wd hw 51 rfl) (by decide) own_pd8 rfl rfl at_276 rfl (W := 0) (Nat.le_of_eq rfl) (by decide) (by decide) (by decide) (by decide) (n := 279) rfl ?_
              rintro T _ _ ⟨rfl, z276, rfl, o276, i276⟩ X
              refine gIload X w at_279 rfl (n := 281) rfl ?_
              refine gIcmp_ne X w at_281 (n := 325) (n' := 284) (by decide) rfl rfl ?_ ?_
              · rintro ⟨c281, c281'⟩
                exact absurd (own_b01 o276 oe (i276.trans (hc1.trans ie.symm))) c281
              · rintro ⟨c281, c281'⟩
                refine gAload X w at_284 rfl rfl (n := 286) rfl ?_
                refine gAload X w at_286 rfl rfl (n := 288) rfl ?_
                refine gCallVv X w [(.ref b186)] [] A199 (own_meets l Z a0 hw b199 b186 d199 d186 u199 u186 h199 n0 (Sd.le X) F199 F_19 V199 F_20 (by omega) (by omega) asc199 asc186) (own_wd hw 47 rfl) (own_wd hw 48 rfl) (notFace_of_selects (args := #[]) (mvT w.2.2.1 (own_wd hw 50 rfl))) (own_wd hw 50 rfl) (own_wd hw 49 rfl) (own_wd hw 3 rfl) (own_wd hw 51 rfl) (by decide) own_pd8 rfl rfl at_288 rfl (W := 0) (Nat.le_of_eq rfl) (by decide) (by decide) (by decide) (by decide) (n := 291) rfl ?_
                rintro T _ _ ⟨rfl, z288, rfl, o288, i288⟩ X
                refine gIload X w at_291 rfl (n := 293) rfl ?_
                refine gIcmp_ne X w at_293 (n := 325) (n' := 296) (by decide) rfl rfl ?_ ?_
                · rintro ⟨c293, c293'⟩
                  exact absurd (own_b01 o288 oe (i288.trans (own_com_symm.trans (hc1.trans ie.symm)))) c293
                · rintro ⟨c293, c293'⟩
                  refine gAload X w at_296 rfl rfl (n := 298) rfl ?_
                  refine gAload X w at_298 rfl rfl (n := 300) rfl ?_
                  refine gCallVv X w [(.ref b186)] [] F_18 (own_meets l Z a0 hw b186 b186 d186 d186 u186 u186 h199 n0 (Sd.le X) F_19 F_19 F_20 F_20 (by omega) (by omega) asc186 asc186) (own_wd hw 47 rfl) (own_wd hw 48 rfl) (notFace_of_selects (args := #[]) (mvT w.2.2.1 (own_wd hw 50 rfl))) (own_wd hw 50 rfl) (own_wd hw 49 rfl) (own_wd hw 3 rfl) (own_wd hw 51 rfl) (by decide) own_pd8 rfl rfl at_300 rfl (W := 0) (Nat.le_of_eq rfl) (by decide) (by decide) (by decide) (by decide) (n := 303) rfl ?_
                  rintro T _ _ ⟨rfl, z300, rfl, o300, i300⟩ X
                  refine gIload X w at_303 rfl (n := 305) rfl ?_
                  refine gIf_le X w at_305 (n := 312) (n' := 308) (by decide) rfl rfl ?_ ?_
                  · intro c305
                    exact absurd c305 (by decide)
                  · intro c305
                    refine gIconst X w at_308 (z := (1 : Int32)) rfl (n := 309) rfl ?_
                    refine gGoto X w at_309 (by decide) (n := 313) rfl ?_
                    refine gIcmp_ne X w at_313 (n := 325) (n' := 316) (by decide) rfl rfl ?_ ?_
                    · rintro ⟨c313, c313'⟩
                      exact absurd (i300.mpr hc0) c313
                    · rintro ⟨c313, c313'⟩
                      refine gIload X w at_316 rfl (n := 318) rfl ?_
                      refine gIf_eq X w at_318 (n := 325) (n' := 321) (by decide) rfl rfl ?_ ?_
                      · rintro ⟨c318, c318'⟩
                        exact absurd c318 (by decide)
                      · rintro ⟨c318, c318'⟩
                        refine gIconst X w at_321 (z := (1 : Int32)) rfl (n := 322) rfl ?_
                        refine gGoto X w at_322 (by decide) (n := 326) rfl ?_
                        exact gRetZ X w rfl (Or.inr rfl) at_326 (by decide) (by decide) (rfl)
            refine gIload X w at_204 rfl (n := 206) rfl ?_
            refine gIconst X w at_206 (z := (1 : Int32)) rfl (n := 207) rfl ?_
            refine gIcmp_lt X w at_207 (n := 216) (n' := 210) (by decide) rfl rfl ?_ ?_
            · intro c207
              exact absurd c207 (by decide)
            · intro c207
              refine gIload X w at_210 rfl (n := 212) rfl ?_
              refine gIloadN X w at_212 rfl (n := 213) rfl ?_
              refine gIcmp_eq X w at_213 (n := 252) (n' := 216) (by decide) rfl rfl ?_ ?_
              · rintro ⟨c213, c213'⟩
                refine gIconst X w at_252 (z := (1 : Int32)) rfl (n := 253) rfl ?_
                refine gGoto X w at_253 (by decide) (n := 257) rfl ?_
                exact k257 _ (by decide) ⟨fun _ => by simp_all, fun _ => rfl⟩
              · rintro ⟨c213, c213'⟩
                refine gIload X w at_216 rfl (n := 218) rfl ?_
                refine gIconst X w at_218 (z := (2 : Int32)) rfl (n := 219) rfl ?_
                refine gIcmp_lt X w at_219 (n := 228) (n' := 222) (by decide) rfl rfl ?_ ?_
                · intro c219
                  exact absurd c219 (by decide)
                · intro c219
                  refine gIload X w at_222 rfl (n := 224) rfl ?_
                  refine gIloadN X w at_224 rfl (n := 225) rfl ?_
                  refine gIcmp_eq X w at_225 (n := 252) (n' := 228) (by decide) rfl rfl ?_ ?_
                  · rintro ⟨c225, c225'⟩
                    refine gIconst X w at_252 (z := (1 : Int32)) rfl (n := 253) rfl ?_
                    refine gGoto X w at_253 (by decide) (n := 257) rfl ?_
                    exact k257 _ (by decide) ⟨fun _ => by simp_all, fun _ => rfl⟩
                  · rintro ⟨c225, c225'⟩
                    refine gIload X w at_228 rfl (n := 230) rfl ?_
                    refine gIconst X w at_230 (z := (3 : Int32)) rfl (n := 231) rfl ?_
                    refine gIcmp_lt X w at_231 (n := 240) (n' := 234) (by decide) rfl rfl ?_ ?_
                    · intro c231
                      refine gIload X w at_240 rfl (n := 242) rfl ?_
                      refine gIconst X w at_242 (z := (4 : Int32)) rfl (n := 243) rfl ?_
                      refine gIcmp_lt X w at_243 (n := 256) (n' := 246) (by decide) rfl rfl ?_ ?_
                      · intro c243
                        refine gIconst X w at_256 (z := (0 : Int32)) rfl (n := 257) rfl ?_
                        exact k257 _ (by decide) ⟨fun q => absurd q (by decide), fun q => by exfalso; simp_all⟩
                      · intro c243
                        exact absurd c243 (by decide)
                    · intro c231
                      exact absurd c231 (by decide)
        · rintro ⟨c100, c100'⟩
          exact absurd c100 (by decide)
      · rintro ⟨c86, c86'⟩
        exact absurd c86 (by decide)
    · skip
      refine gIload X w at_84 rfl (n := 86) rfl ?_
      refine gIf_ne X w at_86 (n := 97) (n' := 89) (by decide) rfl rfl ?_ ?_
      · rintro ⟨c86, c86'⟩
        refine gIload X w at_97 rfl (n := 99) rfl ?_
        refine gIconst X w at_99 (z := (1 : Int32)) rfl (n := 100) rfl ?_
        refine gIcmp_ne X w at_100 (n := 115) (n' := 103) (by decide) rfl rfl ?_ ?_
        · rintro ⟨c100, c100'⟩
          refine gIload X w at_115 rfl (n := 117) rfl ?_
          refine gIconst X w at_117 (z := (2 : Int32)) rfl (n := 118) rfl ?_
          refine gIcmp_ne X w at_118 (n := 137) (n' := 121) (by decide) rfl rfl ?_ ?_
          · rintro ⟨c118, c118'⟩
            refine gIload X w at_137 rfl (n := 139) rfl ?_
            refine gIconst X w at_139 (z := (3 : Int32)) rfl (n := 140) rfl ?_
            refine gIcmp_ne X w at_140 (n := 163) (n' := 143) (by decide) rfl rfl ?_ ?_
            · rintro ⟨c140, c140'⟩
              exact absurd c140 (by decide)
            · rintro ⟨c140, c140'⟩
              refine gIconst X w at_143 (z := (3 : Int32)) rfl (n := 144) rfl ?_
              refine gNewP X w (own_wd hw 0 rfl) at_144 (by decide) (cap := 3) (by decide) (by decide) (by decide) (by decide) (vs := [(.int (0 : Int32)), (.int (0 : Int32)), (.int (0 : Int32))]) (ty := .int) rfl rfl (ad := "[I") (by decide) (n := 146) rfl ?_
              intro T hp144 ad144 ea144 na144 X E144 V144 A144
              refine gDup X w at_146 rfl (n := 147) rfl ?_
              refine gIconst X w at_147 (z := (0 : Int32)) rfl (n := 148) rfl ?_
              refine gIloadN X w at_148 rfl (n := 149) rfl ?_
              refine gIastore X w (z := (.int a)) V144 (by decide) (show (0 : Int) < ((3 : Nat) : Int) from by decide) na144 rfl (vs' := [(.int a), (.int (0 : Int32)), (.int (0 : Int32))]) rfl at_149 (n := 150) rfl ?_
              intro T hp149 X W149 V149
              have F_1 := A144.wr W149
              refine gDup X w at_150 rfl (n := 151) rfl ?_
              refine gIconst X w at_151 (z := (1 : Int32)) rfl (n := 152) rfl ?_
              refine gIloadN X w at_152 rfl (n := 153) rfl ?_
              refine gIastore X w (z := (.int b)) V149 (by decide) (show (1 : Int) < ((3 : Nat) : Int) from by decide) na144 rfl (vs' := [(.int a), (.int b), (.int (0 : Int32))]) rfl at_153 (n := 154) rfl ?_
              intro T hp153 X W153 V153
              have F_2 := F_1.wr W153
              refine gDup X w at_154 rfl (n := 155) rfl ?_
              refine gIconst X w at_155 (z := (2 : Int32)) rfl (n := 156) rfl ?_
              refine gIloadN X w at_156 rfl (n := 157) rfl ?_
              refine gIastore X w (z := (.int c_)) V153 (by decide) (show (2 : Int) < ((3 : Nat) : Int) from by decide) na144 rfl (vs' := [(.int a), (.int b), (.int c_)]) rfl at_157 (n := 158) rfl ?_
              intro T hp157 X W157 V157
              have F_3 := F_2.wr W157
              refine gAstore X w at_158 rfl #[.val (.int a), .val (.int b), .val (.int c_), .val (.int d), .val (.int xx), .val (.int p6), .val (.int (3 : Int32)), .val (.int pk), .val (.ref ad144), .unset, .unset, .unset, .unset] rfl (n := 160) rfl ?_
              refine gGoto X w at_160 (by decide) (n := 184) rfl ?_
              refine gAload X w at_184 rfl rfl (n := 186) rfl ?_
              refine gCallSv X w [(.ref ad144)] [] (own_of_3 l Z a0 hw ad144 a b c_ hp157 n0 (Sd.le X) V157 F_3) (own_wd hw 1 rfl) (own_wd hw 2 rfl) (own_wd hw 3 rfl) (own_wd hw 4 rfl) (by decide) own_pd6 rfl rfl at_186 rfl (W := 0) (Nat.le_of_eq rfl) (by decide) (by decide) (by decide) (by decide) (n := 189) rfl ?_
              rintro T h186 _ ⟨K186, b186, d186, u186, rfl, gb186, gd186, nbd186, A186, F186, V186, l186, asc186, mem186⟩ X
              have ne_ad144_b186 : ad144 ≠ b186 := neOf F_3.lt gb186
              have ne_ad144_d186 : ad144 ≠ d186 := neOf F_3.lt gd186
              have F_4 := F_3.keep K186
              have F_5 := V157.keep K186 nin0
              refine gAstore X w at_189 rfl #[.val (.int a), .val (.int b), .val (.int c_), .val (.int d), .val (.int xx), .val (.int p6), .val (.int (3 : Int32)), .val (.int pk), .val (.ref ad144), .val (.ref b186), .unset, .unset, .unset] rfl (n := 191) rfl ?_
              refine gIconst X w at_191 (z := (1 : Int32)) rfl (n := 192) rfl ?_
              refine gNewP X w (own_wd hw 0 rfl) at_192 (by decide) (cap := 1) (by decide) (by decide) (by decide) (by decide) (vs := [(.int (0 : Int32))]) (ty := .int) rfl rfl (ad := "[I") (by decide) (n := 194) rfl ?_
              intro T hp192 ad192 ea192 na192 X E192 V192 A192
              have ne_ad144_ad192 : ad144 ≠ ad192 := neOf F_4.lt (Nat.le_of_eq ea192.symm)
              have ne_b186_ad192 : b186 ≠ ad192 := neOf A186.lt (Nat.le_of_eq ea192.symm)
              have ne_d186_ad192 : d186 ≠ ad192 := neOf V186.lt (Nat.le_of_eq ea192.symm)
              have F_6 := F_4.ext E192
              have F_7 := F_5.ext E192
              have F_8 := A186.ext E192
              have F_9 := F186.ext E192
              have F_10 := V186.ext E192
              refine gDup X w at_194 rfl (n := 195) rfl ?_
              refine gIconst X w at_195 (z := (0 : Int32)) rfl (n := 196) rfl ?_
              refine gIload X w at_196 rfl (n := 198) rfl ?_
              refine gIastore X w (z := (.int xx)) V192 (by decide) (show (0 : Int) < ((1 : Nat) : Int) from by decide) na192 rfl (vs' := [(.int xx)]) rfl at_198 (n := 199) rfl ?_
              intro T hp198 X W198 V198
              have F_11 := F_6.wr W198
              have F_12 := F_7.other W198 ne_ad144_ad192
              have F_13 := F_8.wr W198
              have F_14 := F_9.other W198 (Or.inl ne_b186_ad192)
              have F_15 := F_10.other W198 ne_d186_ad192
              have F_16 := A192.wr W198
              refine gCallSv X w [(.ref ad192)] [] (own_of_1 l Z a0 hw ad192 xx hp198 n0 (Sd.le X) V198 F_16) (own_wd hw 1 rfl) (own_wd hw 2 rfl) (own_wd hw 3 rfl) (own_wd hw 4 rfl) (by decide) own_pd6 rfl rfl at_199 rfl (W := 0) (Nat.le_of_eq rfl) (by decide) (by decide) (by decide) (by decide) (n := 202) rfl ?_
              rintro T h199 _ ⟨K199, b199, d199, u199, rfl, gb199, gd199, nbd199, A199, F199, V199, l199, asc199, mem199⟩ X
              have ne_ad144_b199 : ad144 ≠ b199 := neOf F_11.lt gb199
              have ne_b186_b199 : b186 ≠ b199 := neOf F_13.lt gb199
              have ne_d186_b199 : d186 ≠ b199 := neOf F_15.lt gb199
              have ne_ad192_b199 : ad192 ≠ b199 := neOf F_16.lt gb199
              have ne_ad144_d199 : ad144 ≠ d199 := neOf F_11.lt gd199
              have ne_b186_d199 : b186 ≠ d199 := neOf F_13.lt gd199
              have ne_d186_d199 : d186 ≠ d199 := neOf F_15.lt gd199
              have ne_ad192_d199 : ad192 ≠ d199 := neOf F_16.lt gd199
              have F_17 := F_11.keep K199
              have F_18 := F_12.keep K199 nin0
              have F_19 := F_13.keep K199
              have F_20 := F_14.keep K199 nin0
              have F_21 := F_15.keep K199 nin0
              have F_22 := F_16.keep K199
              have F_23 := V198.keep K199 nin0
              refine gAstore X w at_202 rfl #[.val (.int a), .val (.int b), .val (.int c_), .val (.int d), .val (.int xx), .val (.int p6), .val (.int (3 : Int32)), .val (.int pk), .val (.ref ad144), .val (.ref b186), .val (.ref b199), .unset, .unset] rfl (n := 204) rfl ?_
              have k257 : ∀ e_ : Int32, (e_ = 0 ∨ e_ = 1) → (e_ = 1 ↔ (xx = a ∨ xx = b ∨ xx = c_)) → Gl p e below s n0 (fun r h => r = some (.int 1)) 24 128 (T.setTop (mkF m 257 #[.val (.int a), .val (.int b), .val (.int c_), .val (.int d), .val (.int xx), .val (.int p6), .val (.int (3 : Int32)), .val (.int pk), .val (.ref ad144), .val (.ref b186), .val (.ref b199), .unset, .unset] [.int e_])) := by
                intro e_ oe ie
                have hc1 : own_com u186 u199 ↔ (xx = a ∨ xx = b ∨ xx = c_) := ⟨fun ⟨y, h1, h2⟩ => by have h3 := (mem199 y).mp h2; rw [h3] at h1; exact (mem186 xx).mp h1, fun h => ⟨xx, (mem186 xx).mpr h, (mem199 xx).mpr rfl⟩⟩
                have hc0 : own_com u186 u186 := ⟨a, (mem186 a).mpr (by simp), (mem186 a).mpr (by simp)⟩
                refine gIstore X w at_257 #[.val (.int a), .val (.int b), .val (.int c_), .val (.int d), .val (.int xx), .val (.int p6), .val (.int (3 : Int32)), .val (.int pk), .val (.ref ad144), .val (.ref b186), .val (.ref b199), .val (.int e_), .unset] rfl (n := 259) rfl ?_
                refine gAload X w at_259 rfl rfl (n := 261) rfl ?_
                refine gIload X w at_261 rfl (n := 263) rfl ?_
                refine gIloadN X w at_263 rfl (n := 264) rfl ?_
                refine gIloadN X w at_264 rfl (n := 265) rfl ?_
                refine gIloadN X w at_265 rfl (n := 266) rfl ?_
                refine gIloadN X w at_266 rfl (n := 267) rfl ?_
                refine gCallSv X w [(.ref ad144), (.int (3 : Int32)), (.int a), (.int b), (.int c_), (.int d)] [] (own_unt_3 l Z a0 hw ad144 a b c_ d h199 n0 (Sd.le X) F_18) (own_wd hw 43 rfl) (own_wd hw 44 rfl) (own_wd hw 45 rfl) (own_wd hw 46 rfl) (by decide) own_pd7 rfl rfl at_267 rfl (W := 0) (Nat.le_of_eq rfl) (by decide) (by decide) (by decide) (by decide) (n := 270) rfl ?_
                rintro T _ _ ⟨rfl, rfl⟩ X
                refine gIstore X w at_270 #[.val (.int a), .val (.int b), .val (.int c_), .val (.int d), .val (.int xx), .val (.int p6), .val (.int (3 : Int32)), .val (.int pk), .val (.ref ad144), .val (.ref b186), .val (.ref b199), .val (.int e_), .val (.int (1 : Int32))] rfl (n := 272) rfl ?_
                refine gAload X w at_272 rfl rfl (n := 274) rfl ?_
                refine gAload X w at_274 rfl rfl (n := 276) rfl ?_
                refine gCallVv X w [(.ref b199)] [] F_19 (own_meets l Z a0 hw b186 b199 d186 d199 u186 u199 h199 n0 (Sd.le X) F_20 F199 F_21 V199 (by omega) (by omega) asc186 asc199) (own_wd hw 47 rfl) (own_wd hw 48 rfl) (notFace_of_selects (args := #[]) (mvT w.2.2.1 (own_wd hw 50 rfl))) (own_wd hw 50 rfl) (own_wd hw 49 rfl) (own_wd hw 3 rfl) (own_wd hw 51 rfl) (by decide) own_pd8 rfl rfl at_276 rfl (W := 0) (Nat.le_of_eq rfl) (by decide) (by decide) (by decide) (by decide) (n := 279) rfl ?_
                rintro T _ _ ⟨rfl, z276, rfl, o276, i276⟩ X
                refine gIload X w at_279 rfl (n := 281) rfl ?_
                refine gIcmp_ne X w at_281 (n := 325) (n' := 284) (by decide) rfl rfl ?_ ?_
                · rintro ⟨c281, c281'⟩
                  exact absurd (own_b01 o276 oe (i276.trans (hc1.trans ie.symm))) c281
                · rintro ⟨c281, c281'⟩
                  refine gAload X w at_284 rfl rfl (n := 286) rfl ?_
                  refine gAload X w at_286 rfl rfl (n := 288) rfl ?_
                  refine gCallVv X w [(.ref b186)] [] A199 (own_meets l Z a0 hw b199 b186 d199 d186 u199 u186 h199 n0 (Sd.le X) F199 F_20 V199 F_21 (by omega) (by omega) asc199 asc186) (own_wd hw 47 rfl) (own_wd hw 48 rfl) (notFace_of_selects (args := #[]) (mvT w.2.2.1 (own_wd hw 50 rfl))) (own_wd hw 50 rfl) (own_wd hw 49 rfl) (own_wd hw 3 rfl) (own_wd hw 51 rfl) (by decide) own_pd8 rfl rfl at_288 rfl (W := 0) (Nat.le_of_eq rfl) (by decide) (by decide) (by decide) (by decide) (n := 291) rfl ?_
                  rintro T _ _ ⟨rfl, z288, rfl, o288, i288⟩ X
                  refine gIload X w at_291 rfl (n := 293) rfl ?_
                  refine gIcmp_ne X w at_293 (n := 325) (n' := 296) (by decide) rfl rfl ?_ ?_
                  · rintro ⟨c293, c293'⟩
                    exact absurd (own_b01 o288 oe (i288.trans (own_com_symm.trans (hc1.trans ie.symm)))) c293
                  · rintro ⟨c293, c293'⟩
                    refine gAload X w at_296 rfl rfl (n := 298) rfl ?_
                    refine gAload X w at_298 rfl rfl (n := 300) rfl ?_
                    refine gCallVv X w [(.ref b186)] [] F_19 (own_meets l Z a0 hw b186 b186 d186 d186 u186 u186 h199 n0 (Sd.le X) F_20 F_20 F_21 F_21 (by omega) (by omega) asc186 asc186) (own_wd hw 47 rfl) (own_wd hw 48 rfl) (notFace_of_selects (args := #[]) (mvT w.2.2.1 (own_wd hw 50 rfl))) (own_wd hw 50 rfl) (own_wd hw 49 rfl) (own_wd hw 3 rfl) (own_wd hw 51 rfl) (by decide) own_pd8 rfl rfl at_300 rfl (W := 0) (Nat.le_of_eq rfl) (by decide) (by decide) (by decide) (by decide) (n := 303) rfl ?_
                    rintro T _ _ ⟨rfl, z300, rfl, o300, i300⟩ X
                    refine gIload X w at_303 rfl (n := 305) rfl ?_
                    refine gIf_le X w at_305 (n := 312) (n' := 308) (by decide) rfl rfl ?_ ?_
                    · intro c305
                      exact absurd c305 (by decide)
                    · intro c305
                      refine gIconst X w at_308 (z := (1 : Int32)) rfl (n := 309) rfl ?_
                      refine gGoto X w at_309 (by decide) (n := 313) rfl ?_
                      refine gIcmp_ne X w at_313 (n := 325) (n' := 316) (by decide) rfl rfl ?_ ?_
                      · rintro ⟨c313, c313'⟩
                        exact absurd (i300.mpr hc0) c313
                      · rintro ⟨c313, c313'⟩
                        refine gIload X w at_316 rfl (n := 318) rfl ?_
                        refine gIf_eq X w at_318 (n := 325) (n' := 321) (by decide) rfl rfl ?_ ?_
                        · rintro ⟨c318, c318'⟩
                          exact absurd c318 (by decide)
                        · rintro ⟨c318, c318'⟩
                          refine gIconst X w at_321 (z := (1 : Int32)) rfl (n := 322) rfl ?_
                          refine gGoto X w at_322 (by decide) (n := 326) rfl ?_
                          exact gRetZ X w rfl (Or.inr rfl) at_326 (by decide) (by decide) (rfl)
              refine gIload X w at_204 rfl (n := 206) rfl ?_
              refine gIconst X w at_206 (z := (1 : Int32)) rfl (n := 207) rfl ?_
              refine gIcmp_lt X w at_207 (n := 216) (n' := 210) (by decide) rfl rfl ?_ ?_
              · intro c207
                exact absurd c207 (by decide)
              · intro c207
                refine gIload X w at_210 rfl (n := 212) rfl ?_
                refine gIloadN X w at_212 rfl (n := 213) rfl ?_
                refine gIcmp_eq X w at_213 (n := 252) (n' := 216) (by decide) rfl rfl ?_ ?_
                · rintro ⟨c213, c213'⟩
                  refine gIconst X w at_252 (z := (1 : Int32)) rfl (n := 253) rfl ?_
                  refine gGoto X w at_253 (by decide) (n := 257) rfl ?_
                  exact k257 _ (by decide) ⟨fun _ => by simp_all, fun _ => rfl⟩
                · rintro ⟨c213, c213'⟩
                  refine gIload X w at_216 rfl (n := 218) rfl ?_
                  refine gIconst X w at_218 (z := (2 : Int32)) rfl (n := 219) rfl ?_
                  refine gIcmp_lt X w at_219 (n := 228) (n' := 222) (by decide) rfl rfl ?_ ?_
                  · intro c219
                    exact absurd c219 (by decide)
                  · intro c219
                    refine gIload X w at_222 rfl (n := 224) rfl ?_
                    refine gIloadN X w at_224 rfl (n := 225) rfl ?_
                    refine gIcmp_eq X w at_225 (n := 252) (n' := 228) (by decide) rfl rfl ?_ ?_
                    · rintro ⟨c225, c225'⟩
                      refine gIconst X w at_252 (z := (1 : Int32)) rfl (n := 253) rfl ?_
                      refine gGoto X w at_253 (by decide) (n := 257) rfl ?_
                      exact k257 _ (by decide) ⟨fun _ => by simp_all, fun _ => rfl⟩
                    · rintro ⟨c225, c225'⟩
                      refine gIload X w at_228 rfl (n := 230) rfl ?_
                      refine gIconst X w at_230 (z := (3 : Int32)) rfl (n := 231) rfl ?_
                      refine gIcmp_lt X w at_231 (n := 240) (n' := 234) (by decide) rfl rfl ?_ ?_
                      · intro c231
                        exact absurd c231 (by decide)
                      · intro c231
                        refine gIload X w at_234 rfl (n := 236) rfl ?_
                        refine gIloadN X w at_236 rfl (n := 237) rfl ?_
                        refine gIcmp_eq X w at_237 (n := 252) (n' := 240) (by decide) rfl rfl ?_ ?_
                        · rintro ⟨c237, c237'⟩
                          refine gIconst X w at_252 (z := (1 : Int32)) rfl (n := 253) rfl ?_
                          refine gGoto X w at_253 (by decide) (n := 257) rfl ?_
                          exact k257 _ (by decide) ⟨fun _ => by simp_all, fun _ => rfl⟩
                        · rintro ⟨c237, c237'⟩
                          refine gIload X w at_240 rfl (n := 242) rfl ?_
                          refine gIconst X w at_242 (z := (4 : Int32)) rfl (n := 243) rfl ?_
                          refine gIcmp_lt X w at_243 (n := 256) (n' := 246) (by decide) rfl rfl ?_ ?_
                          · intro c243
                            refine gIconst X w at_256 (z := (0 : Int32)) rfl (n := 257) rfl ?_
                            exact k257 _ (by decide) ⟨fun q => absurd q (by decide), fun q => by exfalso; simp_all⟩
                          · intro c243
                            exact absurd c243 (by decide)
          · rintro ⟨c118, c118'⟩
            exact absurd c118 (by decide)
        · rintro ⟨c100, c100'⟩
          exact absurd c100 (by decide)
      · rintro ⟨c86, c86'⟩
        exact absurd c86 (by decide)
    · skip
      refine gIload X w at_84 rfl (n := 86) rfl ?_
      refine gIf_ne X w at_86 (n := 97) (n' := 89) (by decide) rfl rfl ?_ ?_
      · rintro ⟨c86, c86'⟩
        refine gIload X w at_97 rfl (n := 99) rfl ?_
        refine gIconst X w at_99 (z := (1 : Int32)) rfl (n := 100) rfl ?_
        refine gIcmp_ne X w at_100 (n := 115) (n' := 103) (by decide) rfl rfl ?_ ?_
        · rintro ⟨c100, c100'⟩
          refine gIload X w at_115 rfl (n := 117) rfl ?_
          refine gIconst X w at_117 (z := (2 : Int32)) rfl (n := 118) rfl ?_
          refine gIcmp_ne X w at_118 (n := 137) (n' := 121) (by decide) rfl rfl ?_ ?_
          · rintro ⟨c118, c118'⟩
            refine gIload X w at_137 rfl (n := 139) rfl ?_
            refine gIconst X w at_139 (z := (3 : Int32)) rfl (n := 140) rfl ?_
            refine gIcmp_ne X w at_140 (n := 163) (n' := 143) (by decide) rfl rfl ?_ ?_
            · rintro ⟨c140, c140'⟩
              refine gIconst X w at_163 (z := (4 : Int32)) rfl (n := 164) rfl ?_
              refine gNewP X w (own_wd hw 0 rfl) at_164 (by decide) (cap := 4) (by decide) (by decide) (by decide) (by decide) (vs := [(.int (0 : Int32)), (.int (0 : Int32)), (.int (0 : Int32)), (.int (0 : Int32))]) (ty := .int) rfl rfl (ad := "[I") (by decide) (n := 166) rfl ?_
              intro T hp164 ad164 ea164 na164 X E164 V164 A164
              refine gDup X w at_166 rfl (n := 167) rfl ?_
              refine gIconst X w at_167 (z := (0 : Int32)) rfl (n := 168) rfl ?_
              refine gIloadN X w at_168 rfl (n := 169) rfl ?_
              refine gIastore X w (z := (.int a)) V164 (by decide) (show (0 : Int) < ((4 : Nat) : Int) from by decide) na164 rfl (vs' := [(.int a), (.int (0 : Int32)), (.int (0 : Int32)), (.int (0 : Int32))]) rfl at_169 (n := 170) rfl ?_
              intro T hp169 X W169 V169
              have F_1 := A164.wr W169
              refine gDup X w at_170 rfl (n := 171) rfl ?_
              refine gIconst X w at_171 (z := (1 : Int32)) rfl (n := 172) rfl ?_
              refine gIloadN X w at_172 rfl (n := 173) rfl ?_
              refine gIastore X w (z := (.int b)) V169 (by decide) (show (1 : Int) < ((4 : Nat) : Int) from by decide) na164 rfl (vs' := [(.int a), (.int b), (.int (0 : Int32)), (.int (0 : Int32))]) rfl at_173 (n := 174) rfl ?_
              intro T hp173 X W173 V173
              have F_2 := F_1.wr W173
              refine gDup X w at_174 rfl (n := 175) rfl ?_
              refine gIconst X w at_175 (z := (2 : Int32)) rfl (n := 176) rfl ?_
              refine gIloadN X w at_176 rfl (n := 177) rfl ?_
              refine gIastore X w (z := (.int c_)) V173 (by decide) (show (2 : Int) < ((4 : Nat) : Int) from by decide) na164 rfl (vs' := [(.int a), (.int b), (.int c_), (.int (0 : Int32))]) rfl at_177 (n := 178) rfl ?_
              intro T hp177 X W177 V177
              have F_3 := F_2.wr W177
              refine gDup X w at_178 rfl (n := 179) rfl ?_
              refine gIconst X w at_179 (z := (3 : Int32)) rfl (n := 180) rfl ?_
              refine gIloadN X w at_180 rfl (n := 181) rfl ?_
              refine gIastore X w (z := (.int d)) V177 (by decide) (show (3 : Int) < ((4 : Nat) : Int) from by decide) na164 rfl (vs' := [(.int a), (.int b), (.int c_), (.int d)]) rfl at_181 (n := 182) rfl ?_
              intro T hp181 X W181 V181
              have F_4 := F_3.wr W181
              refine gAstore X w at_182 rfl #[.val (.int a), .val (.int b), .val (.int c_), .val (.int d), .val (.int xx), .val (.int p6), .val (.int (4 : Int32)), .val (.int pk), .val (.ref ad164), .unset, .unset, .unset, .unset] rfl (n := 184) rfl ?_
              refine gAload X w at_184 rfl rfl (n := 186) rfl ?_
              refine gCallSv X w [(.ref ad164)] [] (own_of_4 l Z a0 hw ad164 a b c_ d hp181 n0 (Sd.le X) V181 F_4) (own_wd hw 1 rfl) (own_wd hw 2 rfl) (own_wd hw 3 rfl) (own_wd hw 4 rfl) (by decide) own_pd6 rfl rfl at_186 rfl (W := 0) (Nat.le_of_eq rfl) (by decide) (by decide) (by decide) (by decide) (n := 189) rfl ?_
              rintro T h186 _ ⟨K186, b186, d186, u186, rfl, gb186, gd186, nbd186, A186, F186, V186, l186, asc186, mem186⟩ X
              have ne_ad164_b186 : ad164 ≠ b186 := neOf F_4.lt gb186
              have ne_ad164_d186 : ad164 ≠ d186 := neOf F_4.lt gd186
              have F_5 := F_4.keep K186
              have F_6 := V181.keep K186 nin0
              refine gAstore X w at_189 rfl #[.val (.int a), .val (.int b), .val (.int c_), .val (.int d), .val (.int xx), .val (.int p6), .val (.int (4 : Int32)), .val (.int pk), .val (.ref ad164), .val (.ref b186), .unset, .unset, .unset] rfl (n := 191) rfl ?_
              refine gIconst X w at_191 (z := (1 : Int32)) rfl (n := 192) rfl ?_
              refine gNewP X w (own_wd hw 0 rfl) at_192 (by decide) (cap := 1) (by decide) (by decide) (by decide) (by decide) (vs := [(.int (0 : Int32))]) (ty := .int) rfl rfl (ad := "[I") (by decide) (n := 194) rfl ?_
              intro T hp192 ad192 ea192 na192 X E192 V192 A192
              have ne_ad164_ad192 : ad164 ≠ ad192 := neOf F_5.lt (Nat.le_of_eq ea192.symm)
              have ne_b186_ad192 : b186 ≠ ad192 := neOf A186.lt (Nat.le_of_eq ea192.symm)
              have ne_d186_ad192 : d186 ≠ ad192 := neOf V186.lt (Nat.le_of_eq ea192.symm)
              have F_7 := F_5.ext E192
              have F_8 := F_6.ext E192
              have F_9 := A186.ext E192
              have F_10 := F186.ext E192
              have F_11 := V186.ext E192
              refine gDup X w at_194 rfl (n := 195) rfl ?_
              refine gIconst X w at_195 (z := (0 : Int32)) rfl (n := 196) rfl ?_
              refine gIload X w at_196 rfl (n := 198) rfl ?_
              refine gIastore X w (z := (.int xx)) V192 (by decide) (show (0 : Int) < ((1 : Nat) : Int) from by decide) na192 rfl (vs' := [(.int xx)]) rfl at_198 (n := 199) rfl ?_
              intro T hp198 X W198 V198
              have F_12 := F_7.wr W198
              have F_13 := F_8.other W198 ne_ad164_ad192
              have F_14 := F_9.wr W198
              have F_15 := F_10.other W198 (Or.inl ne_b186_ad192)
              have F_16 := F_11.other W198 ne_d186_ad192
              have F_17 := A192.wr W198
              refine gCallSv X w [(.ref ad192)] [] (own_of_1 l Z a0 hw ad192 xx hp198 n0 (Sd.le X) V198 F_17) (own_wd hw 1 rfl) (own_wd hw 2 rfl) (own_wd hw 3 rfl) (own_wd hw 4 rfl) (by decide) own_pd6 rfl rfl at_199 rfl (W := 0) (Nat.le_of_eq rfl) (by decide) (by decide) (by decide) (by decide) (n := 202) rfl ?_
              rintro T h199 _ ⟨K199, b199, d199, u199, rfl, gb199, gd199, nbd199, A199, F199, V199, l199, asc199, mem199⟩ X
              have ne_ad164_b199 : ad164 ≠ b199 := neOf F_12.lt gb199
              have ne_b186_b199 : b186 ≠ b199 := neOf F_14.lt gb199
              have ne_d186_b199 : d186 ≠ b199 := neOf F_16.lt gb199
              have ne_ad192_b199 : ad192 ≠ b199 := neOf F_17.lt gb199
              have ne_ad164_d199 : ad164 ≠ d199 := neOf F_12.lt gd199
              have ne_b186_d199 : b186 ≠ d199 := neOf F_14.lt gd199
              have ne_d186_d199 : d186 ≠ d199 := neOf F_16.lt gd199
              have ne_ad192_d199 : ad192 ≠ d199 := neOf F_17.lt gd199
              have F_18 := F_12.keep K199
              have F_19 := F_13.keep K199 nin0
              have F_20 := F_14.keep K199
              have F_21 := F_15.keep K199 nin0
              have F_22 := F_16.keep K199 nin0
              have F_23 := F_17.keep K199
              have F_24 := V198.keep K199 nin0
              refine gAstore X w at_202 rfl #[.val (.int a), .val (.int b), .val (.int c_), .val (.int d), .val (.int xx), .val (.int p6), .val (.int (4 : Int32)), .val (.int pk), .val (.ref ad164), .val (.ref b186), .val (.ref b199), .unset, .unset] rfl (n := 204) rfl ?_
              have k257 : ∀ e_ : Int32, (e_ = 0 ∨ e_ = 1) → (e_ = 1 ↔ (xx = a ∨ xx = b ∨ xx = c_ ∨ xx = d)) → Gl p e below s n0 (fun r h => r = some (.int 1)) 24 128 (T.setTop (mkF m 257 #[.val (.int a), .val (.int b), .val (.int c_), .val (.int d), .val (.int xx), .val (.int p6), .val (.int (4 : Int32)), .val (.int pk), .val (.ref ad164), .val (.ref b186), .val (.ref b199), .unset, .unset] [.int e_])) := by
                intro e_ oe ie
                have hc1 : own_com u186 u199 ↔ (xx = a ∨ xx = b ∨ xx = c_ ∨ xx = d) := ⟨fun ⟨y, h1, h2⟩ => by have h3 := (mem199 y).mp h2; rw [h3] at h1; exact (mem186 xx).mp h1, fun h => ⟨xx, (mem186 xx).mpr h, (mem199 xx).mpr rfl⟩⟩
                have hc0 : own_com u186 u186 := ⟨a, (mem186 a).mpr (by simp), (mem186 a).mpr (by simp)⟩
                refine gIstore X w at_257 #[.val (.int a), .val (.int b), .val (.int c_), .val (.int d), .val (.int xx), .val (.int p6), .val (.int (4 : Int32)), .val (.int pk), .val (.ref ad164), .val (.ref b186), .val (.ref b199), .val (.int e_), .unset] rfl (n := 259) rfl ?_
                refine gAload X w at_259 rfl rfl (n := 261) rfl ?_
                refine gIload X w at_261 rfl (n := 263) rfl ?_
                refine gIloadN X w at_263 rfl (n := 264) rfl ?_
                refine gIloadN X w at_264 rfl (n := 265) rfl ?_
                refine gIloadN X w at_265 rfl (n := 266) rfl ?_
                refine gIloadN X w at_266 rfl (n := 267) rfl ?_
                refine gCallSv X w [(.ref ad164), (.int (4 : Int32)), (.int a), (.int b), (.int c_), (.int d)] [] (own_unt_4 l Z a0 hw ad164 a b c_ d h199 n0 (Sd.le X) F_19) (own_wd hw 43 rfl) (own_wd hw 44 rfl) (own_wd hw 45 rfl) (own_wd hw 46 rfl) (by decide) own_pd7 rfl rfl at_267 rfl (W := 0) (Nat.le_of_eq rfl) (by decide) (by decide) (by decide) (by decide) (n := 270) rfl ?_
                rintro T _ _ ⟨rfl, rfl⟩ X
                refine gIstore X w at_270 #[.val (.int a), .val (.int b), .val (.int c_), .val (.int d), .val (.int xx), .val (.int p6), .val (.int (4 : Int32)), .val (.int pk), .val (.ref ad164), .val (.ref b186), .val (.ref b199), .val (.int e_), .val (.int (1 : Int32))] rfl (n := 272) rfl ?_
                refine gAload X w at_272 rfl rfl (n := 274) rfl ?_
                refine gAload X w at_274 rfl rfl (n := 276) rfl ?_
                refine gCallVv X w [(.ref b199)] [] F_20 (own_meets l Z a0 hw b186 b199 d186 d199 u186 u199 h199 n0 (Sd.le X) F_21 F199 F_22 V199 (by omega) (by omega) asc186 asc199) (own_wd hw 47 rfl) (own_wd hw 48 rfl) (notFace_of_selects (args := #[]) (mvT w.2.2.1 (own_wd hw 50 rfl))) (own_wd hw 50 rfl) (own_wd hw 49 rfl) (own_wd hw 3 rfl) (own_wd hw 51 rfl) (by decide) own_pd8 rfl rfl at_276 rfl (W := 0) (Nat.le_of_eq rfl) (by decide) (by decide) (by decide) (by decide) (n := 279) rfl ?_
                rintro T _ _ ⟨rfl, z276, rfl, o276, i276⟩ X
                refine gIload X w at_279 rfl (n := 281) rfl ?_
                refine gIcmp_ne X w at_281 (n := 325) (n' := 284) (by decide) rfl rfl ?_ ?_
                · rintro ⟨c281, c281'⟩
                  exact absurd (own_b01 o276 oe (i276.trans (hc1.trans ie.symm))) c281
                · rintro ⟨c281, c281'⟩
                  refine gAload X w at_284 rfl rfl (n := 286) rfl ?_
                  refine gAload X w at_286 rfl rfl (n := 288) rfl ?_
                  refine gCallVv X w [(.ref b186)] [] A199 (own_meets l Z a0 hw b199 b186 d199 d186 u199 u186 h199 n0 (Sd.le X) F199 F_21 V199 F_22 (by omega) (by omega) asc199 asc186) (own_wd hw 47 rfl) (own_wd hw 48 rfl) (notFace_of_selects (args := #[]) (mvT w.2.2.1 (own_wd hw 50 rfl))) (own_wd hw 50 rfl) (own_wd hw 49 rfl) (own_wd hw 3 rfl) (own_wd hw 51 rfl) (by decide) own_pd8 rfl rfl at_288 rfl (W := 0) (Nat.le_of_eq rfl) (by decide) (by decide) (by decide) (by decide) (n := 291) rfl ?_
                  rintro T _ _ ⟨rfl, z288, rfl, o288, i288⟩ X
                  refine gIload X w at_291 rfl (n := 293) rfl ?_
                  refine gIcmp_ne X w at_293 (n := 325) (n' := 296) (by decide) rfl rfl ?_ ?_
                  · rintro ⟨c293, c293'⟩
                    exact absurd (own_b01 o288 oe (i288.trans (own_com_symm.trans (hc1.trans ie.symm)))) c293
                  · rintro ⟨c293, c293'⟩
                    refine gAload X w at_296 rfl rfl (n := 298) rfl ?_
                    refine gAload X w at_298 rfl rfl (n := 300) rfl ?_
                    refine gCallVv X w [(.ref b186)] [] F_20 (own_meets l Z a0 hw b186 b186 d186 d186 u186 u186 h199 n0 (Sd.le X) F_21 F_21 F_22 F_22 (by omega) (by omega) asc186 asc186) (own_wd hw 47 rfl) (own_wd hw 48 rfl) (notFace_of_selects (args := #[]) (mvT w.2.2.1 (own_wd hw 50 rfl))) (own_wd hw 50 rfl) (own_wd hw 49 rfl) (own_wd hw 3 rfl) (own_wd hw 51 rfl) (by decide) own_pd8 rfl rfl at_300 rfl (W := 0) (Nat.le_of_eq rfl) (by decide) (by decide) (by decide) (by decide) (n := 303) rfl ?_
                    rintro T _ _ ⟨rfl, z300, rfl, o300, i300⟩ X
                    refine gIload X w at_303 rfl (n := 305) rfl ?_
                    refine gIf_le X w at_305 (n := 312) (n' := 308) (by decide) rfl rfl ?_ ?_
                    · intro c305
                      exact absurd c305 (by decide)
                    · intro c305
                      refine gIconst X w at_308 (z := (1 : Int32)) rfl (n := 309) rfl ?_
                      refine gGoto X w at_309 (by decide) (n := 313) rfl ?_
                      refine gIcmp_ne X w at_313 (n := 325) (n' := 316) (by decide) rfl rfl ?_ ?_
                      · rintro ⟨c313, c313'⟩
                        exact absurd (i300.mpr hc0) c313
                      · rintro ⟨c313, c313'⟩
                        refine gIload X w at_316 rfl (n := 318) rfl ?_
                        refine gIf_eq X w at_318 (n := 325) (n' := 321) (by decide) rfl rfl ?_ ?_
                        · rintro ⟨c318, c318'⟩
                          exact absurd c318 (by decide)
                        · rintro ⟨c318, c318'⟩
                          refine gIconst X w at_321 (z := (1 : Int32)) rfl (n := 322) rfl ?_
                          refine gGoto X w at_322 (by decide) (n := 326) rfl ?_
                          exact gRetZ X w rfl (Or.inr rfl) at_326 (by decide) (by decide) (rfl)
              refine gIload X w at_204 rfl (n := 206) rfl ?_
              refine gIconst X w at_206 (z := (1 : Int32)) rfl (n := 207) rfl ?_
              refine gIcmp_lt X w at_207 (n := 216) (n' := 210) (by decide) rfl rfl ?_ ?_
              · intro c207
                exact absurd c207 (by decide)
              · intro c207
                refine gIload X w at_210 rfl (n := 212) rfl ?_
                refine gIloadN X w at_212 rfl (n := 213) rfl ?_
                refine gIcmp_eq X w at_213 (n := 252) (n' := 216) (by decide) rfl rfl ?_ ?_
                · rintro ⟨c213, c213'⟩
                  refine gIconst X w at_252 (z := (1 : Int32)) rfl (n := 253) rfl ?_
                  refine gGoto X w at_253 (by decide) (n := 257) rfl ?_
                  exact k257 _ (by decide) ⟨fun _ => by simp_all, fun _ => rfl⟩
                · rintro ⟨c213, c213'⟩
                  refine gIload X w at_216 rfl (n := 218) rfl ?_
                  refine gIconst X w at_218 (z := (2 : Int32)) rfl (n := 219) rfl ?_
                  refine gIcmp_lt X w at_219 (n := 228) (n' := 222) (by decide) rfl rfl ?_ ?_
                  · intro c219
                    exact absurd c219 (by decide)
                  · intro c219
                    refine gIload X w at_222 rfl (n := 224) rfl ?_
                    refine gIloadN X w at_224 rfl (n := 225) rfl ?_
                    refine gIcmp_eq X w at_225 (n := 252) (n' := 228) (by decide) rfl rfl ?_ ?_
                    · rintro ⟨c225, c225'⟩
                      refine gIconst X w at_252 (z := (1 : Int32)) rfl (n := 253) rfl ?_
                      refine gGoto X w at_253 (by decide) (n := 257) rfl ?_
                      exact k257 _ (by decide) ⟨fun _ => by simp_all, fun _ => rfl⟩
                    · rintro ⟨c225, c225'⟩
                      refine gIload X w at_228 rfl (n := 230) rfl ?_
                      refine gIconst X w at_230 (z := (3 : Int32)) rfl (n := 231) rfl ?_
                      refine gIcmp_lt X w at_231 (n := 240) (n' := 234) (by decide) rfl rfl ?_ ?_
                      · intro c231
                        exact absurd c231 (by decide)
                      · intro c231
                        refine gIload X w at_234 rfl (n := 236) rfl ?_
                        refine gIloadN X w at_236 rfl (n := 237) rfl ?_
                        refine gIcmp_eq X w at_237 (n := 252) (n' := 240) (by decide) rfl rfl ?_ ?_
                        · rintro ⟨c237, c237'⟩
                          refine gIconst X w at_252 (z := (1 : Int32)) rfl (n := 253) rfl ?_
                          refine gGoto X w at_253 (by decide) (n := 257) rfl ?_
                          exact k257 _ (by decide) ⟨fun _ => by simp_all, fun _ => rfl⟩
                        · rintro ⟨c237, c237'⟩
                          refine gIload X w at_240 rfl (n := 242) rfl ?_
                          refine gIconst X w at_242 (z := (4 : Int32)) rfl (n := 243) rfl ?_
                          refine gIcmp_lt X w at_243 (n := 256) (n' := 246) (by decide) rfl rfl ?_ ?_
                          · intro c243
                            exact absurd c243 (by decide)
                          · intro c243
                            refine gIload X w at_246 rfl (n := 248) rfl ?_
                            refine gIloadN X w at_248 rfl (n := 249) rfl ?_
                            refine gIcmp_ne X w at_249 (n := 256) (n' := 252) (by decide) rfl rfl ?_ ?_
                            · rintro ⟨c249, c249'⟩
                              refine gIconst X w at_256 (z := (0 : Int32)) rfl (n := 257) rfl ?_
                              exact k257 _ (by decide) ⟨fun q => absurd q (by decide), fun q => by exfalso; simp_all⟩
                            · rintro ⟨c249, c249'⟩
                              refine gIconst X w at_252 (z := (1 : Int32)) rfl (n := 253) rfl ?_
                              refine gGoto X w at_253 (by decide) (n := 257) rfl ?_
                              exact k257 _ (by decide) ⟨fun _ => by simp_all, fun _ => rfl⟩
            · rintro ⟨c140, c140'⟩
              exact absurd c140 (by decide)
          · rintro ⟨c118, c118'⟩
            exact absurd c118 (by decide)
        · rintro ⟨c100, c100'⟩
          exact absurd c100 (by decide)
      · rintro ⟨c86, c86'⟩
        exact absurd c86 (by decide)
  refine gIload X w at_0 rfl (n := 2) rfl ?_
  refine gBipush X w at_2 (z := (7 : Int32)) (by decide) (n := 4) rfl ?_
  obtain ⟨x4, q4⟩ : ∃ zz_ : Int32, p6 &&& (7 : Int32) = zz_ := ⟨_, rfl⟩
  refine gIand X w at_4 q4 (n := 5) rfl ?_
  refine gIconst X w at_5 (z := (5 : Int32)) rfl (n := 6) rfl ?_
  obtain ⟨x6, q6⟩ : ∃ zz_ : Int32, x4 % (5 : Int32) = zz_ := ⟨_, rfl⟩
  refine gIrem X w at_6 (by decide) q6 (n := 7) rfl ?_
  refine gIstore X w at_7 #[.val (.int p1), .val (.int p2), .val (.int p3), .val (.int p4), .val (.int p5), .val (.int p6), .val (.int x6), .unset, .unset, .unset, .unset, .unset, .unset] rfl (n := 9) rfl ?_
  refine gIload X w at_9 rfl (n := 11) rfl ?_
  refine gIconst X w at_11 (z := (3 : Int32)) rfl (n := 12) rfl ?_
  obtain ⟨x12, q12⟩ : ∃ zz_ : Int32, Jvm.Free.XT.ushr p6 (3 : Int32) = zz_ := ⟨_, rfl⟩
  refine gIushr X w at_12 q12 (n := 13) rfl ?_
  refine gIconst X w at_13 (z := (1 : Int32)) rfl (n := 14) rfl ?_
  obtain ⟨x14, q14⟩ : ∃ zz_ : Int32, x12 &&& (1 : Int32) = zz_ := ⟨_, rfl⟩
  refine gIand X w at_14 q14 (n := 15) rfl ?_
  refine gIf_eq X w at_15 (n := 20) (n' := 18) (by decide) rfl rfl ?_ ?_
  · rintro ⟨c15, c15'⟩
    refine gIload X w at_20 rfl (n := 22) rfl ?_
    refine gIconst X w at_22 (z := (4 : Int32)) rfl (n := 23) rfl ?_
    obtain ⟨x23, q23⟩ : ∃ zz_ : Int32, Jvm.Free.XT.ushr p6 (4 : Int32) = zz_ := ⟨_, rfl⟩
    refine gIushr X w at_23 q23 (n := 24) rfl ?_
    refine gIconst X w at_24 (z := (1 : Int32)) rfl (n := 25) rfl ?_
    obtain ⟨x25, q25⟩ : ∃ zz_ : Int32, x23 &&& (1 : Int32) = zz_ := ⟨_, rfl⟩
    refine gIand X w at_25 q25 (n := 26) rfl ?_
    refine gIf_eq X w at_26 (n := 31) (n' := 29) (by decide) rfl rfl ?_ ?_
    · rintro ⟨c26, c26'⟩
      refine gIload X w at_31 rfl (n := 33) rfl ?_
      refine gIconst X w at_33 (z := (5 : Int32)) rfl (n := 34) rfl ?_
      obtain ⟨x34, q34⟩ : ∃ zz_ : Int32, Jvm.Free.XT.ushr p6 (5 : Int32) = zz_ := ⟨_, rfl⟩
      refine gIushr X w at_34 q34 (n := 35) rfl ?_
      refine gIconst X w at_35 (z := (1 : Int32)) rfl (n := 36) rfl ?_
      obtain ⟨x36, q36⟩ : ∃ zz_ : Int32, x34 &&& (1 : Int32) = zz_ := ⟨_, rfl⟩
      refine gIand X w at_36 q36 (n := 37) rfl ?_
      refine gIf_eq X w at_37 (n := 42) (n' := 40) (by decide) rfl rfl ?_ ?_
      · rintro ⟨c37, c37'⟩
        refine gIload X w at_42 rfl (n := 44) rfl ?_
        refine gBipush X w at_44 (z := (6 : Int32)) (by decide) (n := 46) rfl ?_
        obtain ⟨x46, q46⟩ : ∃ zz_ : Int32, Jvm.Free.XT.ushr p6 (6 : Int32) = zz_ := ⟨_, rfl⟩
        refine gIushr X w at_46 q46 (n := 47) rfl ?_
        refine gIconst X w at_47 (z := (3 : Int32)) rfl (n := 48) rfl ?_
        obtain ⟨x48, q48⟩ : ∃ zz_ : Int32, x46 &&& (3 : Int32) = zz_ := ⟨_, rfl⟩
        refine gIand X w at_48 q48 (n := 49) rfl ?_
        refine gIstore X w at_49 #[.val (.int p1), .val (.int p2), .val (.int p3), .val (.int p4), .val (.int p5), .val (.int p6), .val (.int x6), .val (.int x48), .unset, .unset, .unset, .unset, .unset] rfl (n := 51) rfl ?_
        refine gIload X w at_51 rfl (n := 53) rfl ?_
        refine gIconst X w at_53 (z := (1 : Int32)) rfl (n := 54) rfl ?_
        refine gIcmp_ne X w at_54 (n := 63) (n' := 57) (by decide) rfl rfl ?_ ?_
        · rintro ⟨c54, c54'⟩
          refine gIload X w at_63 rfl (n := 65) rfl ?_
          refine gIconst X w at_65 (z := (2 : Int32)) rfl (n := 66) rfl ?_
          refine gIcmp_ne X w at_66 (n := 75) (n' := 69) (by decide) rfl rfl ?_ ?_
          · rintro ⟨c66, c66'⟩
            refine gIload X w at_75 rfl (n := 77) rfl ?_
            refine gIconst X w at_77 (z := (3 : Int32)) rfl (n := 78) rfl ?_
            refine gIcmp_ne X w at_78 (n := 84) (n' := 81) (by decide) rfl rfl ?_ ?_
            · rintro ⟨c78, c78'⟩
              exact k84 _ _ _ _ _ _ _ (by rw [← q6, ← q4]; exact own_mod5 _)
            · rintro ⟨c78, c78'⟩
              refine gIloadN X w at_81 rfl (n := 82) rfl ?_
              refine gIstore X w at_82 #[.val (.int p1), .val (.int p2), .val (.int p3), .val (.int p4), .val (.int p4), .val (.int p6), .val (.int x6), .val (.int x48), .unset, .unset, .unset, .unset, .unset] rfl (n := 84) rfl ?_
              exact k84 _ _ _ _ _ _ _ (by rw [← q6, ← q4]; exact own_mod5 _)
          · rintro ⟨c66, c66'⟩
            refine gIloadN X w at_69 rfl (n := 70) rfl ?_
            refine gIstore X w at_70 #[.val (.int p1), .val (.int p2), .val (.int p3), .val (.int p4), .val (.int p3), .val (.int p6), .val (.int x6), .val (.int x48), .unset, .unset, .unset, .unset, .unset] rfl (n := 72) rfl ?_
            refine gGoto X w at_72 (by decide) (n := 84) rfl ?_
            exact k84 _ _ _ _ _ _ _ (by rw [← q6, ← q4]; exact own_mod5 _)
        · rintro ⟨c54, c54'⟩
          refine gIloadN X w at_57 rfl (n := 58) rfl ?_
          refine gIstore X w at_58 #[.val (.int p1), .val (.int p2), .val (.int p3), .val (.int p4), .val (.int p1), .val (.int p6), .val (.int x6), .val (.int x48), .unset, .unset, .unset, .unset, .unset] rfl (n := 60) rfl ?_
          refine gGoto X w at_60 (by decide) (n := 84) rfl ?_
          exact k84 _ _ _ _ _ _ _ (by rw [← q6, ← q4]; exact own_mod5 _)
      · rintro ⟨c37, c37'⟩
        refine gIloadN X w at_40 rfl (n := 41) rfl ?_
        refine gIstoreN X w at_41 #[.val (.int p1), .val (.int p2), .val (.int p3), .val (.int p1), .val (.int p5), .val (.int p6), .val (.int x6), .unset, .unset, .unset, .unset, .unset, .unset] rfl (n := 42) rfl ?_
        refine gIload X w at_42 rfl (n := 44) rfl ?_
        refine gBipush X w at_44 (z := (6 : Int32)) (by decide) (n := 46) rfl ?_
        obtain ⟨x46, q46⟩ : ∃ zz_ : Int32, Jvm.Free.XT.ushr p6 (6 : Int32) = zz_ := ⟨_, rfl⟩
        refine gIushr X w at_46 q46 (n := 47) rfl ?_
        refine gIconst X w at_47 (z := (3 : Int32)) rfl (n := 48) rfl ?_
        obtain ⟨x48, q48⟩ : ∃ zz_ : Int32, x46 &&& (3 : Int32) = zz_ := ⟨_, rfl⟩
        refine gIand X w at_48 q48 (n := 49) rfl ?_
        refine gIstore X w at_49 #[.val (.int p1), .val (.int p2), .val (.int p3), .val (.int p1), .val (.int p5), .val (.int p6), .val (.int x6), .val (.int x48), .unset, .unset, .unset, .unset, .unset] rfl (n := 51) rfl ?_
        refine gIload X w at_51 rfl (n := 53) rfl ?_
        refine gIconst X w at_53 (z := (1 : Int32)) rfl (n := 54) rfl ?_
        refine gIcmp_ne X w at_54 (n := 63) (n' := 57) (by decide) rfl rfl ?_ ?_
        · rintro ⟨c54, c54'⟩
          refine gIload X w at_63 rfl (n := 65) rfl ?_
          refine gIconst X w at_65 (z := (2 : Int32)) rfl (n := 66) rfl ?_
          refine gIcmp_ne X w at_66 (n := 75) (n' := 69) (by decide) rfl rfl ?_ ?_
          · rintro ⟨c66, c66'⟩
            refine gIload X w at_75 rfl (n := 77) rfl ?_
            refine gIconst X w at_77 (z := (3 : Int32)) rfl (n := 78) rfl ?_
            refine gIcmp_ne X w at_78 (n := 84) (n' := 81) (by decide) rfl rfl ?_ ?_
            · rintro ⟨c78, c78'⟩
              exact k84 _ _ _ _ _ _ _ (by rw [← q6, ← q4]; exact own_mod5 _)
            · rintro ⟨c78, c78'⟩
              refine gIloadN X w at_81 rfl (n := 82) rfl ?_
              refine gIstore X w at_82 #[.val (.int p1), .val (.int p2), .val (.int p3), .val (.int p1), .val (.int p1), .val (.int p6), .val (.int x6), .val (.int x48), .unset, .unset, .unset, .unset, .unset] rfl (n := 84) rfl ?_
              exact k84 _ _ _ _ _ _ _ (by rw [← q6, ← q4]; exact own_mod5 _)
          · rintro ⟨c66, c66'⟩
            refine gIloadN X w at_69 rfl (n := 70) rfl ?_
            refine gIstore X w at_70 #[.val (.int p1), .val (.int p2), .val (.int p3), .val (.int p1), .val (.int p3), .val (.int p6), .val (.int x6), .val (.int x48), .unset, .unset, .unset, .unset, .unset] rfl (n := 72) rfl ?_
            refine gGoto X w at_72 (by decide) (n := 84) rfl ?_
            exact k84 _ _ _ _ _ _ _ (by rw [← q6, ← q4]; exact own_mod5 _)
        · rintro ⟨c54, c54'⟩
          refine gIloadN X w at_57 rfl (n := 58) rfl ?_
          refine gIstore X w at_58 #[.val (.int p1), .val (.int p2), .val (.int p3), .val (.int p1), .val (.int p1), .val (.int p6), .val (.int x6), .val (.int x48), .unset, .unset, .unset, .unset, .unset] rfl (n := 60) rfl ?_
          refine gGoto X w at_60 (by decide) (n := 84) rfl ?_
          exact k84 _ _ _ _ _ _ _ (by rw [← q6, ← q4]; exact own_mod5 _)
    · rintro ⟨c26, c26'⟩
      refine gIloadN X w at_29 rfl (n := 30) rfl ?_
      refine gIstoreN X w at_30 #[.val (.int p1), .val (.int p2), .val (.int p2), .val (.int p4), .val (.int p5), .val (.int p6), .val (.int x6), .unset, .unset, .unset, .unset, .unset, .unset] rfl (n := 31) rfl ?_
      refine gIload X w at_31 rfl (n := 33) rfl ?_
      refine gIconst X w at_33 (z := (5 : Int32)) rfl (n := 34) rfl ?_
      obtain ⟨x34, q34⟩ : ∃ zz_ : Int32, Jvm.Free.XT.ushr p6 (5 : Int32) = zz_ := ⟨_, rfl⟩
      refine gIushr X w at_34 q34 (n := 35) rfl ?_
      refine gIconst X w at_35 (z := (1 : Int32)) rfl (n := 36) rfl ?_
      obtain ⟨x36, q36⟩ : ∃ zz_ : Int32, x34 &&& (1 : Int32) = zz_ := ⟨_, rfl⟩
      refine gIand X w at_36 q36 (n := 37) rfl ?_
      refine gIf_eq X w at_37 (n := 42) (n' := 40) (by decide) rfl rfl ?_ ?_
      · rintro ⟨c37, c37'⟩
        refine gIload X w at_42 rfl (n := 44) rfl ?_
        refine gBipush X w at_44 (z := (6 : Int32)) (by decide) (n := 46) rfl ?_
        obtain ⟨x46, q46⟩ : ∃ zz_ : Int32, Jvm.Free.XT.ushr p6 (6 : Int32) = zz_ := ⟨_, rfl⟩
        refine gIushr X w at_46 q46 (n := 47) rfl ?_
        refine gIconst X w at_47 (z := (3 : Int32)) rfl (n := 48) rfl ?_
        obtain ⟨x48, q48⟩ : ∃ zz_ : Int32, x46 &&& (3 : Int32) = zz_ := ⟨_, rfl⟩
        refine gIand X w at_48 q48 (n := 49) rfl ?_
        refine gIstore X w at_49 #[.val (.int p1), .val (.int p2), .val (.int p2), .val (.int p4), .val (.int p5), .val (.int p6), .val (.int x6), .val (.int x48), .unset, .unset, .unset, .unset, .unset] rfl (n := 51) rfl ?_
        refine gIload X w at_51 rfl (n := 53) rfl ?_
        refine gIconst X w at_53 (z := (1 : Int32)) rfl (n := 54) rfl ?_
        refine gIcmp_ne X w at_54 (n := 63) (n' := 57) (by decide) rfl rfl ?_ ?_
        · rintro ⟨c54, c54'⟩
          refine gIload X w at_63 rfl (n := 65) rfl ?_
          refine gIconst X w at_65 (z := (2 : Int32)) rfl (n := 66) rfl ?_
          refine gIcmp_ne X w at_66 (n := 75) (n' := 69) (by decide) rfl rfl ?_ ?_
          · rintro ⟨c66, c66'⟩
            refine gIload X w at_75 rfl (n := 77) rfl ?_
            refine gIconst X w at_77 (z := (3 : Int32)) rfl (n := 78) rfl ?_
            refine gIcmp_ne X w at_78 (n := 84) (n' := 81) (by decide) rfl rfl ?_ ?_
            · rintro ⟨c78, c78'⟩
              exact k84 _ _ _ _ _ _ _ (by rw [← q6, ← q4]; exact own_mod5 _)
            · rintro ⟨c78, c78'⟩
              refine gIloadN X w at_81 rfl (n := 82) rfl ?_
              refine gIstore X w at_82 #[.val (.int p1), .val (.int p2), .val (.int p2), .val (.int p4), .val (.int p4), .val (.int p6), .val (.int x6), .val (.int x48), .unset, .unset, .unset, .unset, .unset] rfl (n := 84) rfl ?_
              exact k84 _ _ _ _ _ _ _ (by rw [← q6, ← q4]; exact own_mod5 _)
          · rintro ⟨c66, c66'⟩
            refine gIloadN X w at_69 rfl (n := 70) rfl ?_
            refine gIstore X w at_70 #[.val (.int p1), .val (.int p2), .val (.int p2), .val (.int p4), .val (.int p2), .val (.int p6), .val (.int x6), .val (.int x48), .unset, .unset, .unset, .unset, .unset] rfl (n := 72) rfl ?_
            refine gGoto X w at_72 (by decide) (n := 84) rfl ?_
            exact k84 _ _ _ _ _ _ _ (by rw [← q6, ← q4]; exact own_mod5 _)
        · rintro ⟨c54, c54'⟩
          refine gIloadN X w at_57 rfl (n := 58) rfl ?_
          refine gIstore X w at_58 #[.val (.int p1), .val (.int p2), .val (.int p2), .val (.int p4), .val (.int p1), .val (.int p6), .val (.int x6), .val (.int x48), .unset, .unset, .unset, .unset, .unset] rfl (n := 60) rfl ?_
          refine gGoto X w at_60 (by decide) (n := 84) rfl ?_
          exact k84 _ _ _ _ _ _ _ (by rw [← q6, ← q4]; exact own_mod5 _)
      · rintro ⟨c37, c37'⟩
        refine gIloadN X w at_40 rfl (n := 41) rfl ?_
        refine gIstoreN X w at_41 #[.val (.int p1), .val (.int p2), .val (.int p2), .val (.int p1), .val (.int p5), .val (.int p6), .val (.int x6), .unset, .unset, .unset, .unset, .unset, .unset] rfl (n := 42) rfl ?_
        refine gIload X w at_42 rfl (n := 44) rfl ?_
        refine gBipush X w at_44 (z := (6 : Int32)) (by decide) (n := 46) rfl ?_
        obtain ⟨x46, q46⟩ : ∃ zz_ : Int32, Jvm.Free.XT.ushr p6 (6 : Int32) = zz_ := ⟨_, rfl⟩
        refine gIushr X w at_46 q46 (n := 47) rfl ?_
        refine gIconst X w at_47 (z := (3 : Int32)) rfl (n := 48) rfl ?_
        obtain ⟨x48, q48⟩ : ∃ zz_ : Int32, x46 &&& (3 : Int32) = zz_ := ⟨_, rfl⟩
        refine gIand X w at_48 q48 (n := 49) rfl ?_
        refine gIstore X w at_49 #[.val (.int p1), .val (.int p2), .val (.int p2), .val (.int p1), .val (.int p5), .val (.int p6), .val (.int x6), .val (.int x48), .unset, .unset, .unset, .unset, .unset] rfl (n := 51) rfl ?_
        refine gIload X w at_51 rfl (n := 53) rfl ?_
        refine gIconst X w at_53 (z := (1 : Int32)) rfl (n := 54) rfl ?_
        refine gIcmp_ne X w at_54 (n := 63) (n' := 57) (by decide) rfl rfl ?_ ?_
        · rintro ⟨c54, c54'⟩
          refine gIload X w at_63 rfl (n := 65) rfl ?_
          refine gIconst X w at_65 (z := (2 : Int32)) rfl (n := 66) rfl ?_
          refine gIcmp_ne X w at_66 (n := 75) (n' := 69) (by decide) rfl rfl ?_ ?_
          · rintro ⟨c66, c66'⟩
            refine gIload X w at_75 rfl (n := 77) rfl ?_
            refine gIconst X w at_77 (z := (3 : Int32)) rfl (n := 78) rfl ?_
            refine gIcmp_ne X w at_78 (n := 84) (n' := 81) (by decide) rfl rfl ?_ ?_
            · rintro ⟨c78, c78'⟩
              exact k84 _ _ _ _ _ _ _ (by rw [← q6, ← q4]; exact own_mod5 _)
            · rintro ⟨c78, c78'⟩
              refine gIloadN X w at_81 rfl (n := 82) rfl ?_
              refine gIstore X w at_82 #[.val (.int p1), .val (.int p2), .val (.int p2), .val (.int p1), .val (.int p1), .val (.int p6), .val (.int x6), .val (.int x48), .unset, .unset, .unset, .unset, .unset] rfl (n := 84) rfl ?_
              exact k84 _ _ _ _ _ _ _ (by rw [← q6, ← q4]; exact own_mod5 _)
          · rintro ⟨c66, c66'⟩
            refine gIloadN X w at_69 rfl (n := 70) rfl ?_
            refine gIstore X w at_70 #[.val (.int p1), .val (.int p2), .val (.int p2), .val (.int p1), .val (.int p2), .val (.int p6), .val (.int x6), .val (.int x48), .unset, .unset, .unset, .unset, .unset] rfl (n := 72) rfl ?_
            refine gGoto X w at_72 (by decide) (n := 84) rfl ?_
            exact k84 _ _ _ _ _ _ _ (by rw [← q6, ← q4]; exact own_mod5 _)
        · rintro ⟨c54, c54'⟩
          refine gIloadN X w at_57 rfl (n := 58) rfl ?_
          refine gIstore X w at_58 #[.val (.int p1), .val (.int p2), .val (.int p2), .val (.int p1), .val (.int p1), .val (.int p6), .val (.int x6), .val (.int x48), .unset, .unset, .unset, .unset, .unset] rfl (n := 60) rfl ?_
          refine gGoto X w at_60 (by decide) (n := 84) rfl ?_
          exact k84 _ _ _ _ _ _ _ (by rw [← q6, ← q4]; exact own_mod5 _)
  · rintro ⟨c15, c15'⟩
    refine gIloadN X w at_18 rfl (n := 19) rfl ?_
    refine gIstoreN X w at_19 #[.val (.int p1), .val (.int p1), .val (.int p3), .val (.int p4), .val (.int p5), .val (.int p6), .val (.int x6), .unset, .unset, .unset, .unset, .unset, .unset] rfl (n := 20) rfl ?_
    refine gIload X w at_20 rfl (n := 22) rfl ?_
    refine gIconst X w at_22 (z := (4 : Int32)) rfl (n := 23) rfl ?_
    obtain ⟨x23, q23⟩ : ∃ zz_ : Int32, Jvm.Free.XT.ushr p6 (4 : Int32) = zz_ := ⟨_, rfl⟩
    refine gIushr X w at_23 q23 (n := 24) rfl ?_
    refine gIconst X w at_24 (z := (1 : Int32)) rfl (n := 25) rfl ?_
    obtain ⟨x25, q25⟩ : ∃ zz_ : Int32, x23 &&& (1 : Int32) = zz_ := ⟨_, rfl⟩
    refine gIand X w at_25 q25 (n := 26) rfl ?_
    refine gIf_eq X w at_26 (n := 31) (n' := 29) (by decide) rfl rfl ?_ ?_
    · rintro ⟨c26, c26'⟩
      refine gIload X w at_31 rfl (n := 33) rfl ?_
      refine gIconst X w at_33 (z := (5 : Int32)) rfl (n := 34) rfl ?_
      obtain ⟨x34, q34⟩ : ∃ zz_ : Int32, Jvm.Free.XT.ushr p6 (5 : Int32) = zz_ := ⟨_, rfl⟩
      refine gIushr X w at_34 q34 (n := 35) rfl ?_
      refine gIconst X w at_35 (z := (1 : Int32)) rfl (n := 36) rfl ?_
      obtain ⟨x36, q36⟩ : ∃ zz_ : Int32, x34 &&& (1 : Int32) = zz_ := ⟨_, rfl⟩
      refine gIand X w at_36 q36 (n := 37) rfl ?_
      refine gIf_eq X w at_37 (n := 42) (n' := 40) (by decide) rfl rfl ?_ ?_
      · rintro ⟨c37, c37'⟩
        refine gIload X w at_42 rfl (n := 44) rfl ?_
        refine gBipush X w at_44 (z := (6 : Int32)) (by decide) (n := 46) rfl ?_
        obtain ⟨x46, q46⟩ : ∃ zz_ : Int32, Jvm.Free.XT.ushr p6 (6 : Int32) = zz_ := ⟨_, rfl⟩
        refine gIushr X w at_46 q46 (n := 47) rfl ?_
        refine gIconst X w at_47 (z := (3 : Int32)) rfl (n := 48) rfl ?_
        obtain ⟨x48, q48⟩ : ∃ zz_ : Int32, x46 &&& (3 : Int32) = zz_ := ⟨_, rfl⟩
        refine gIand X w at_48 q48 (n := 49) rfl ?_
        refine gIstore X w at_49 #[.val (.int p1), .val (.int p1), .val (.int p3), .val (.int p4), .val (.int p5), .val (.int p6), .val (.int x6), .val (.int x48), .unset, .unset, .unset, .unset, .unset] rfl (n := 51) rfl ?_
        refine gIload X w at_51 rfl (n := 53) rfl ?_
        refine gIconst X w at_53 (z := (1 : Int32)) rfl (n := 54) rfl ?_
        refine gIcmp_ne X w at_54 (n := 63) (n' := 57) (by decide) rfl rfl ?_ ?_
        · rintro ⟨c54, c54'⟩
          refine gIload X w at_63 rfl (n := 65) rfl ?_
          refine gIconst X w at_65 (z := (2 : Int32)) rfl (n := 66) rfl ?_
          refine gIcmp_ne X w at_66 (n := 75) (n' := 69) (by decide) rfl rfl ?_ ?_
          · rintro ⟨c66, c66'⟩
            refine gIload X w at_75 rfl (n := 77) rfl ?_
            refine gIconst X w at_77 (z := (3 : Int32)) rfl (n := 78) rfl ?_
            refine gIcmp_ne X w at_78 (n := 84) (n' := 81) (by decide) rfl rfl ?_ ?_
            · rintro ⟨c78, c78'⟩
              exact k84 _ _ _ _ _ _ _ (by rw [← q6, ← q4]; exact own_mod5 _)
            · rintro ⟨c78, c78'⟩
              refine gIloadN X w at_81 rfl (n := 82) rfl ?_
              refine gIstore X w at_82 #[.val (.int p1), .val (.int p1), .val (.int p3), .val (.int p4), .val (.int p4), .val (.int p6), .val (.int x6), .val (.int x48), .unset, .unset, .unset, .unset, .unset] rfl (n := 84) rfl ?_
              exact k84 _ _ _ _ _ _ _ (by rw [← q6, ← q4]; exact own_mod5 _)
          · rintro ⟨c66, c66'⟩
            refine gIloadN X w at_69 rfl (n := 70) rfl ?_
            refine gIstore X w at_70 #[.val (.int p1), .val (.int p1), .val (.int p3), .val (.int p4), .val (.int p3), .val (.int p6), .val (.int x6), .val (.int x48), .unset, .unset, .unset, .unset, .unset] rfl (n := 72) rfl ?_
            refine gGoto X w at_72 (by decide) (n := 84) rfl ?_
            exact k84 _ _ _ _ _ _ _ (by rw [← q6, ← q4]; exact own_mod5 _)
        · rintro ⟨c54, c54'⟩
          refine gIloadN X w at_57 rfl (n := 58) rfl ?_
          refine gIstore X w at_58 #[.val (.int p1), .val (.int p1), .val (.int p3), .val (.int p4), .val (.int p1), .val (.int p6), .val (.int x6), .val (.int x48), .unset, .unset, .unset, .unset, .unset] rfl (n := 60) rfl ?_
          refine gGoto X w at_60 (by decide) (n := 84) rfl ?_
          exact k84 _ _ _ _ _ _ _ (by rw [← q6, ← q4]; exact own_mod5 _)
      · rintro ⟨c37, c37'⟩
        refine gIloadN X w at_40 rfl (n := 41) rfl ?_
        refine gIstoreN X w at_41 #[.val (.int p1), .val (.int p1), .val (.int p3), .val (.int p1), .val (.int p5), .val (.int p6), .val (.int x6), .unset, .unset, .unset, .unset, .unset, .unset] rfl (n := 42) rfl ?_
        refine gIload X w at_42 rfl (n := 44) rfl ?_
        refine gBipush X w at_44 (z := (6 : Int32)) (by decide) (n := 46) rfl ?_
        obtain ⟨x46, q46⟩ : ∃ zz_ : Int32, Jvm.Free.XT.ushr p6 (6 : Int32) = zz_ := ⟨_, rfl⟩
        refine gIushr X w at_46 q46 (n := 47) rfl ?_
        refine gIconst X w at_47 (z := (3 : Int32)) rfl (n := 48) rfl ?_
        obtain ⟨x48, q48⟩ : ∃ zz_ : Int32, x46 &&& (3 : Int32) = zz_ := ⟨_, rfl⟩
        refine gIand X w at_48 q48 (n := 49) rfl ?_
        refine gIstore X w at_49 #[.val (.int p1), .val (.int p1), .val (.int p3), .val (.int p1), .val (.int p5), .val (.int p6), .val (.int x6), .val (.int x48), .unset, .unset, .unset, .unset, .unset] rfl (n := 51) rfl ?_
        refine gIload X w at_51 rfl (n := 53) rfl ?_
        refine gIconst X w at_53 (z := (1 : Int32)) rfl (n := 54) rfl ?_
        refine gIcmp_ne X w at_54 (n := 63) (n' := 57) (by decide) rfl rfl ?_ ?_
        · rintro ⟨c54, c54'⟩
          refine gIload X w at_63 rfl (n := 65) rfl ?_
          refine gIconst X w at_65 (z := (2 : Int32)) rfl (n := 66) rfl ?_
          refine gIcmp_ne X w at_66 (n := 75) (n' := 69) (by decide) rfl rfl ?_ ?_
          · rintro ⟨c66, c66'⟩
            refine gIload X w at_75 rfl (n := 77) rfl ?_
            refine gIconst X w at_77 (z := (3 : Int32)) rfl (n := 78) rfl ?_
            refine gIcmp_ne X w at_78 (n := 84) (n' := 81) (by decide) rfl rfl ?_ ?_
            · rintro ⟨c78, c78'⟩
              exact k84 _ _ _ _ _ _ _ (by rw [← q6, ← q4]; exact own_mod5 _)
            · rintro ⟨c78, c78'⟩
              refine gIloadN X w at_81 rfl (n := 82) rfl ?_
              refine gIstore X w at_82 #[.val (.int p1), .val (.int p1), .val (.int p3), .val (.int p1), .val (.int p1), .val (.int p6), .val (.int x6), .val (.int x48), .unset, .unset, .unset, .unset, .unset] rfl (n := 84) rfl ?_
              exact k84 _ _ _ _ _ _ _ (by rw [← q6, ← q4]; exact own_mod5 _)
          · rintro ⟨c66, c66'⟩
            refine gIloadN X w at_69 rfl (n := 70) rfl ?_
            refine gIstore X w at_70 #[.val (.int p1), .val (.int p1), .val (.int p3), .val (.int p1), .val (.int p3), .val (.int p6), .val (.int x6), .val (.int x48), .unset, .unset, .unset, .unset, .unset] rfl (n := 72) rfl ?_
            refine gGoto X w at_72 (by decide) (n := 84) rfl ?_
            exact k84 _ _ _ _ _ _ _ (by rw [← q6, ← q4]; exact own_mod5 _)
        · rintro ⟨c54, c54'⟩
          refine gIloadN X w at_57 rfl (n := 58) rfl ?_
          refine gIstore X w at_58 #[.val (.int p1), .val (.int p1), .val (.int p3), .val (.int p1), .val (.int p1), .val (.int p6), .val (.int x6), .val (.int x48), .unset, .unset, .unset, .unset, .unset] rfl (n := 60) rfl ?_
          refine gGoto X w at_60 (by decide) (n := 84) rfl ?_
          exact k84 _ _ _ _ _ _ _ (by rw [← q6, ← q4]; exact own_mod5 _)
    · rintro ⟨c26, c26'⟩
      refine gIloadN X w at_29 rfl (n := 30) rfl ?_
      refine gIstoreN X w at_30 #[.val (.int p1), .val (.int p1), .val (.int p1), .val (.int p4), .val (.int p5), .val (.int p6), .val (.int x6), .unset, .unset, .unset, .unset, .unset, .unset] rfl (n := 31) rfl ?_
      refine gIload X w at_31 rfl (n := 33) rfl ?_
      refine gIconst X w at_33 (z := (5 : Int32)) rfl (n := 34) rfl ?_
      obtain ⟨x34, q34⟩ : ∃ zz_ : Int32, Jvm.Free.XT.ushr p6 (5 : Int32) = zz_ := ⟨_, rfl⟩
      refine gIushr X w at_34 q34 (n := 35) rfl ?_
      refine gIconst X w at_35 (z := (1 : Int32)) rfl (n := 36) rfl ?_
      obtain ⟨x36, q36⟩ : ∃ zz_ : Int32, x34 &&& (1 : Int32) = zz_ := ⟨_, rfl⟩
      refine gIand X w at_36 q36 (n := 37) rfl ?_
      refine gIf_eq X w at_37 (n := 42) (n' := 40) (by decide) rfl rfl ?_ ?_
      · rintro ⟨c37, c37'⟩
        refine gIload X w at_42 rfl (n := 44) rfl ?_
        refine gBipush X w at_44 (z := (6 : Int32)) (by decide) (n := 46) rfl ?_
        obtain ⟨x46, q46⟩ : ∃ zz_ : Int32, Jvm.Free.XT.ushr p6 (6 : Int32) = zz_ := ⟨_, rfl⟩
        refine gIushr X w at_46 q46 (n := 47) rfl ?_
        refine gIconst X w at_47 (z := (3 : Int32)) rfl (n := 48) rfl ?_
        obtain ⟨x48, q48⟩ : ∃ zz_ : Int32, x46 &&& (3 : Int32) = zz_ := ⟨_, rfl⟩
        refine gIand X w at_48 q48 (n := 49) rfl ?_
        refine gIstore X w at_49 #[.val (.int p1), .val (.int p1), .val (.int p1), .val (.int p4), .val (.int p5), .val (.int p6), .val (.int x6), .val (.int x48), .unset, .unset, .unset, .unset, .unset] rfl (n := 51) rfl ?_
        refine gIload X w at_51 rfl (n := 53) rfl ?_
        refine gIconst X w at_53 (z := (1 : Int32)) rfl (n := 54) rfl ?_
        refine gIcmp_ne X w at_54 (n := 63) (n' := 57) (by decide) rfl rfl ?_ ?_
        · rintro ⟨c54, c54'⟩
          refine gIload X w at_63 rfl (n := 65) rfl ?_
          refine gIconst X w at_65 (z := (2 : Int32)) rfl (n := 66) rfl ?_
          refine gIcmp_ne X w at_66 (n := 75) (n' := 69) (by decide) rfl rfl ?_ ?_
          · rintro ⟨c66, c66'⟩
            refine gIload X w at_75 rfl (n := 77) rfl ?_
            refine gIconst X w at_77 (z := (3 : Int32)) rfl (n := 78) rfl ?_
            refine gIcmp_ne X w at_78 (n := 84) (n' := 81) (by decide) rfl rfl ?_ ?_
            · rintro ⟨c78, c78'⟩
              exact k84 _ _ _ _ _ _ _ (by rw [← q6, ← q4]; exact own_mod5 _)
            · rintro ⟨c78, c78'⟩
              refine gIloadN X w at_81 rfl (n := 82) rfl ?_
              refine gIstore X w at_82 #[.val (.int p1), .val (.int p1), .val (.int p1), .val (.int p4), .val (.int p4), .val (.int p6), .val (.int x6), .val (.int x48), .unset, .unset, .unset, .unset, .unset] rfl (n := 84) rfl ?_
              exact k84 _ _ _ _ _ _ _ (by rw [← q6, ← q4]; exact own_mod5 _)
          · rintro ⟨c66, c66'⟩
            refine gIloadN X w at_69 rfl (n := 70) rfl ?_
            refine gIstore X w at_70 #[.val (.int p1), .val (.int p1), .val (.int p1), .val (.int p4), .val (.int p1), .val (.int p6), .val (.int x6), .val (.int x48), .unset, .unset, .unset, .unset, .unset] rfl (n := 72) rfl ?_
            refine gGoto X w at_72 (by decide) (n := 84) rfl ?_
            exact k84 _ _ _ _ _ _ _ (by rw [← q6, ← q4]; exact own_mod5 _)
        · rintro ⟨c54, c54'⟩
          refine gIloadN X w at_57 rfl (n := 58) rfl ?_
          refine gIstore X w at_58 #[.val (.int p1), .val (.int p1), .val (.int p1), .val (.int p4), .val (.int p1), .val (.int p6), .val (.int x6), .val (.int x48), .unset, .unset, .unset, .unset, .unset] rfl (n := 60) rfl ?_
          refine gGoto X w at_60 (by decide) (n := 84) rfl ?_
          exact k84 _ _ _ _ _ _ _ (by rw [← q6, ← q4]; exact own_mod5 _)
      · rintro ⟨c37, c37'⟩
        refine gIloadN X w at_40 rfl (n := 41) rfl ?_
        refine gIstoreN X w at_41 #[.val (.int p1), .val (.int p1), .val (.int p1), .val (.int p1), .val (.int p5), .val (.int p6), .val (.int x6), .unset, .unset, .unset, .unset, .unset, .unset] rfl (n := 42) rfl ?_
        refine gIload X w at_42 rfl (n := 44) rfl ?_
        refine gBipush X w at_44 (z := (6 : Int32)) (by decide) (n := 46) rfl ?_
        obtain ⟨x46, q46⟩ : ∃ zz_ : Int32, Jvm.Free.XT.ushr p6 (6 : Int32) = zz_ := ⟨_, rfl⟩
        refine gIushr X w at_46 q46 (n := 47) rfl ?_
        refine gIconst X w at_47 (z := (3 : Int32)) rfl (n := 48) rfl ?_
        obtain ⟨x48, q48⟩ : ∃ zz_ : Int32, x46 &&& (3 : Int32) = zz_ := ⟨_, rfl⟩
        refine gIand X w at_48 q48 (n := 49) rfl ?_
        refine gIstore X w at_49 #[.val (.int p1), .val (.int p1), .val (.int p1), .val (.int p1), .val (.int p5), .val (.int p6), .val (.int x6), .val (.int x48), .unset, .unset, .unset, .unset, .unset] rfl (n := 51) rfl ?_
        refine gIload X w at_51 rfl (n := 53) rfl ?_
        refine gIconst X w at_53 (z := (1 : Int32)) rfl (n := 54) rfl ?_
        refine gIcmp_ne X w at_54 (n := 63) (n' := 57) (by decide) rfl rfl ?_ ?_
        · rintro ⟨c54, c54'⟩
          refine gIload X w at_63 rfl (n := 65) rfl ?_
          refine gIconst X w at_65 (z := (2 : Int32)) rfl (n := 66) rfl ?_
          refine gIcmp_ne X w at_66 (n := 75) (n' := 69) (by decide) rfl rfl ?_ ?_
          · rintro ⟨c66, c66'⟩
            refine gIload X w at_75 rfl (n := 77) rfl ?_
            refine gIconst X w at_77 (z := (3 : Int32)) rfl (n := 78) rfl ?_
            refine gIcmp_ne X w at_78 (n := 84) (n' := 81) (by decide) rfl rfl ?_ ?_
            · rintro ⟨c78, c78'⟩
              exact k84 _ _ _ _ _ _ _ (by rw [← q6, ← q4]; exact own_mod5 _)
            · rintro ⟨c78, c78'⟩
              refine gIloadN X w at_81 rfl (n := 82) rfl ?_
              refine gIstore X w at_82 #[.val (.int p1), .val (.int p1), .val (.int p1), .val (.int p1), .val (.int p1), .val (.int p6), .val (.int x6), .val (.int x48), .unset, .unset, .unset, .unset, .unset] rfl (n := 84) rfl ?_
              exact k84 _ _ _ _ _ _ _ (by rw [← q6, ← q4]; exact own_mod5 _)
          · rintro ⟨c66, c66'⟩
            refine gIloadN X w at_69 rfl (n := 70) rfl ?_
            refine gIstore X w at_70 #[.val (.int p1), .val (.int p1), .val (.int p1), .val (.int p1), .val (.int p1), .val (.int p6), .val (.int x6), .val (.int x48), .unset, .unset, .unset, .unset, .unset] rfl (n := 72) rfl ?_
            refine gGoto X w at_72 (by decide) (n := 84) rfl ?_
            exact k84 _ _ _ _ _ _ _ (by rw [← q6, ← q4]; exact own_mod5 _)
        · rintro ⟨c54, c54'⟩
          refine gIloadN X w at_57 rfl (n := 58) rfl ?_
          refine gIstore X w at_58 #[.val (.int p1), .val (.int p1), .val (.int p1), .val (.int p1), .val (.int p1), .val (.int p6), .val (.int x6), .val (.int x48), .unset, .unset, .unset, .unset, .unset] rfl (n := 60) rfl ?_
          refine gGoto X w at_60 (by decide) (n := 84) rfl ?_
          exact k84 _ _ _ _ _ _ _ (by rw [← q6, ← q4]; exact own_mod5 _)
set_option maxRecDepth 65536 in
set_option maxHeartbeats 40000000 in
theorem comes_1 {Post : Tables → Env → Array Value → State → Outcome → State → Prop} (hpost : ∀ tb e args s v u, (limb_1_1.after args s (.returned v) u = true ∧ limb_1_2.after args s (.returned v) u = true ∧ True) → FrameEnd s (.returned v) u (Jvm.fieldLocs frame_1_writes args s ++ Jvm.arrayLocs frame_1_arrays args s ++ Jvm.staticLocs frame_1_statics s) 24 128 → Post tb e args s (.returned v) u) :
    ArmFor flags0 classFile x code maxLocals ret World_1 tables_1 room_1 Calls_1 rest_1 Pre_1 Post := by
  intro l hfl _ _ p e ha hc hk s m args below hf hA hF happ hP
  obtain ⟨hcalls, hrest, hpre⟩ := hP
  obtain ⟨-, -, -, hnamed, -, -, -, hat⟩ := (Spec.applies_iff hf).mp happ
  obtain ⟨hg, hn⟩ := and_e (Cond.before_iff.mp (show (Jvm.Cond.and given_1 narrow_1).before args s = true from hpre))
  obtain ⟨hcnt, g0⟩ := and_e hg
  obtain ⟨w0, w1, w2, w3, w4, w5, rfl⟩ : ∃ w0 w1 w2 w3 w4 w5 : Value, args = #[w0, w1, w2, w3, w4, w5] := by
    have hs : args.size = 6 := by simpa [Cond.value, given_1] using hcnt
    obtain ⟨L⟩ := args
    match L, hs with
    | [w0, w1, w2, w3, w4, w5], _ => exact ⟨w0, w1, w2, w3, w4, w5, rfl⟩
  have hw := fun d (hd : d ∈ tables_1) => atoms_spec (ws := Jvm.Cond.code x code maxLocals ret :: tables_1) hat d (List.mem_cons_of_mem _ hd)
  have hfit : Fit s := fun {y c} hc i hi => by
    obtain ⟨ha, rfl⟩ := Array.getElem?_eq_some_iff.mp hc
    have q := List.all_eq_true.mp ((Array.all_eq_true_iff_forall_mem.mp hF) _ (Array.getElem_mem ha)) i (List.mem_range.mpr hi)
    simpa [Array.getElem?_eq_getElem hi] using q
  obtain ⟨k0, g1⟩ := and_e g0
  obtain ⟨k1, g2⟩ := and_e g1
  obtain ⟨k2, g3⟩ := and_e g2
  obtain ⟨k3, g4⟩ := and_e g3
  obtain ⟨k4, g5⟩ := and_e g4
  obtain ⟨i0, e0⟩ := is_v k0
  obtain rfl : w0 = (.int i0) := Option.some.inj e0
  obtain ⟨i1, e1⟩ := is_v k1
  obtain rfl : w1 = (.int i1) := Option.some.inj e1
  obtain ⟨i2, e2⟩ := is_v k2
  obtain rfl : w2 = (.int i2) := Option.some.inj e2
  obtain ⟨i3, e3⟩ := is_v k3
  obtain rfl : w3 = (.int i3) := Option.some.inj e3
  obtain ⟨i4, e4⟩ := is_v k4
  obtain rfl : w4 = (.int i4) := Option.some.inj e4
  obtain ⟨i5, e5⟩ := is_v g5
  obtain rfl : w5 = (.int i5) := Option.some.inj e5
  obtain ⟨n, o, h1, h2, h3, _, L, rfl, ⟨rfl, N⟩, hq⟩ := own_law l s _ hw i0 i1 i2 i3 i4 i5 s.heap s.heap.size (Nat.le_refl _)  p e ha hc hk s m _ below hf ((Spec.applies_iff_loose hf).mp happ).1 ⟨rfl, State.Warmed39.refl s, rfl⟩ trivial
  refine ⟨n, _, h1, h2, h3, hpost _ _ _ _ _ _ ⟨Cond.after_iff.mpr rfl, Cond.after_iff.mpr (eq_i res_at (Term.int_eval (1)) rfl), trivial⟩ ⟨hq.1, hq.2.1, (hq.2.2.sift fun y hy => Or.inr (N y hy)).mono (by decide) (by decide)⟩⟩
theorem main_1_1 : Claimed_1_1 := comes_1 fun _ _ _ _ _ _ h hF => ⟨h.1, hF⟩
theorem main_1_2 : Claimed_1_2 := comes_1 fun _ _ _ _ _ _ h hF => ⟨h.2.1, hF⟩
end Jvm.Pilot.@@N@@
namespace Jvm.Pilot.@@N@@
open Jvm Jvm.ClassFile Sem Op Lib Jvm.Free Jvm.Stand Jvm.Pilot.@@N@@.Jvm.D
/-! MADE BY PROGRAM (witnessworld.py) out of the Statement's table words and the real class files: 13 classes; the members and pool entries that the words name. The judged class is class 1, her method 2. -/
namespace start1
open Jvm.ClassFile
def u (s : String) : CpInfo := .utf8 (stringToUtf16 s)
/-- a pool by its gaps: so many unusable entries, then the entry; so many at the end -/
def gap : Nat → List CpInfo → List CpInfo
  | 0, r => r
  | n + 1, r => .unusable :: gap n r
def poolList (es : List (Nat × CpInfo)) (last : Nat) : List CpInfo := es.foldr (fun e r => gap e.1 (e.2 :: r)) (gap last [])
def pool (es : List (Nat × CpInfo)) (last : Nat) : Array CpInfo := ⟨poolList es last⟩
def fileOf (pool : Array CpInfo) (this : Nat) (attrs : Array Attribute := #[]) (ms : Array MethodInfo := #[]) (fl : Nat := 33) (sup : Nat := 0) (ifs : Array Nat := #[]) (fds : Array FieldInfo := #[]) : ClassFile where
  minorVersion := 0
  majorVersion := 65
  constantPool := pool
  accessFlags := fl
  thisClass := this
  superClass := sup
  interfaces := ifs
  fields := fds
  methods := ms
  attributes := attrs
def plain (name : String) (sup : Option ClassId) : Class where
  name := name
  kind := .ordinary
  loader := none
  accessFlags := 33
  super := sup
  interfaces := #[]
  cf := none
  fields := #[]
  methods := #[]
  instanceTypes := #[]
  staticTypes := #[]
  resolved := #[]
  callSites := []
  init := .initialized
  statics := none
  mirror := none

def pool0 : Array CpInfo := pool [(5, u "<init>"), (0, u "()V"), (1, .class_ 10), (1, u "java/lang/Object"), (85, u "clone"), (0, u "()Ljava/lang/Object;")] 26

def k0c0 : Code := { maxStack := 0, maxLocals := 1, code := object_method_1_code, exceptionTable := #[], attributes := #[] }
def k0m0 : Method := { name := "<init>", desc := "()V", sig := { parameters := [], returnType := none }, accessFlags := 1, code := some k0c0 }
def k0m1 : Method := { name := "clone", desc := "()Ljava/lang/Object;", sig := { parameters := [], returnType := some (.object "java/lang/Object") }, accessFlags := 260, code := none }
/-- java/lang/Object -/
def k0 : Class := { plain "java/lang/Object" none with
  accessFlags := 33
  interfaces := #[]
  cf := some (fileOf pool0 8 #[] #[{ accessFlags := 1, nameIndex := 5, descriptorIndex := 6, attributes := #[] }, { accessFlags := 260, nameIndex := 96, descriptorIndex := 97, attributes := #[] }] 33 0 #[] #[])
  fields := #[]
  methods := #[k0m0, k0m1]
  instanceTypes := #[]
  staticTypes := #[]
  resolved := Array.replicate 124 none
  statics := none }

def pool1 : Array CpInfo := pool [(2, .class_ 4), (1, u "java/lang/Object"), (0, u "<init>"), (0, u "()V"), (0, .methodref 8 9), (0, .class_ 10), (0, .nameAndType 11 12), (0, u "com/example/reja/reja/IdSet"), (0, u "of"), (0, u "([I)Lcom/example/reja/reja/IdSet;"), (0, .methodref 14 15), (0, .class_ 16), (0, .nameAndType 17 18), (0, u "com/example/reja/reja/IdSetOfPinLaw"), (0, u "untouched"), (0, u "([IIIIII)Z"), (0, .methodref 8 20), (0, .nameAndType 21 22), (0, u "meets"), (0, u "(Lcom/example/reja/reja/IdSet;)Z"), (3, u "law"), (0, u "(IIIIII)Z")] 4

def k1m0 : Method := { name := "<init>", desc := "()V", sig := { parameters := [], returnType := none }, accessFlags := 1, code := none }
def k1c1 : Code := { maxStack := 2, maxLocals := 6, code := method_2_code, exceptionTable := #[], attributes := #[] }
def k1m1 : Method := { name := "untouched", desc := "([IIIIII)Z", sig := { parameters := [(.array .int), .int, .int, .int, .int, .int], returnType := some .boolean }, accessFlags := 10, code := some k1c1 }
def k1c2 : Code := { maxStack := 6, maxLocals := 13, code := code, exceptionTable := #[], attributes := #[] }
def k1m2 : Method := { name := "law", desc := "(IIIIII)Z", sig := { parameters := [.int, .int, .int, .int, .int, .int], returnType := some .boolean }, accessFlags := 9, code := some k1c2 }
/-- com/example/reja/reja/IdSetOfPinLaw -/
def k1 : Class := { plain "com/example/reja/reja/IdSetOfPinLaw" (some 0) with
  accessFlags := 49
  interfaces := #[]
  cf := some (fileOf pool1 14 #[] #[{ accessFlags := 1, nameIndex := 5, descriptorIndex := 6, attributes := #[] }, { accessFlags := 10, nameIndex := 17, descriptorIndex := 18, attributes := #[] }, { accessFlags := 9, nameIndex := 26, descriptorIndex := 27, attributes := #[] }] 49 2 #[] #[])
  fields := #[]
  methods := #[k1m0, k1m1, k1m2]
  instanceTypes := #[]
  staticTypes := #[]
  resolved := Array.replicate 32 none
  statics := none }

def pool2 : Array CpInfo := pool [(1, .methodref 2 3), (0, .class_ 4), (0, .nameAndType 5 6), (0, u "java/lang/Object"), (0, u "<init>"), (0, u "()V"), (0, .fieldref 8 9), (0, .class_ 10), (0, .nameAndType 11 12), (0, u "com/example/reja/reja/IdSet"), (0, u "ids"), (0, u "[I"), (0, .methodref 14 15), (0, .class_ 12), (0, .nameAndType 16 17), (0, u "clone"), (0, u "()Ljava/lang/Object;"), (0, .methodref 19 20), (0, .class_ 21), (0, .nameAndType 22 23), (0, u "java/util/Arrays"), (0, u "sort"), (0, u "([I)V"), (0, .methodref 19 25), (0, .nameAndType 26 27), (0, u "copyOf"), (0, u "([II)[I"), (0, .methodref 8 29), (0, .nameAndType 5 23), (43, u "of"), (0, u "([I)Lcom/example/reja/reja/IdSet;"), (7, u "meets"), (0, u "(Lcom/example/reja/reja/IdSet;)Z")] 24

def k2c0 : Code := { maxStack := 2, maxLocals := 2, code := prog_3_method_1_code, exceptionTable := #[], attributes := #[] }
def k2m0 : Method := { name := "<init>", desc := "([I)V", sig := { parameters := [(.array .int)], returnType := none }, accessFlags := 2, code := some k2c0 }
def k2c1 : Code := { maxStack := 4, maxLocals := 7, code := prog_3_method_2_code, exceptionTable := #[], attributes := #[] }
def k2m1 : Method := { name := "of", desc := "([I)Lcom/example/reja/reja/IdSet;", sig := { parameters := [(.array .int)], returnType := some (.object "com/example/reja/reja/IdSet") }, accessFlags := 136, code := some k2c1 }
def k2c2 : Code := { maxStack := 3, maxLocals := 5, code := prog_3_method_4_code, exceptionTable := #[], attributes := #[] }
def k2m2 : Method := { name := "meets", desc := "(Lcom/example/reja/reja/IdSet;)Z", sig := { parameters := [(.object "com/example/reja/reja/IdSet")], returnType := some .boolean }, accessFlags := 0, code := some k2c2 }
/-- com/example/reja/reja/IdSet -/
def k2 : Class := { plain "com/example/reja/reja/IdSet" (some 0) with
  accessFlags := 48
  interfaces := #[]
  cf := some (fileOf pool2 8 #[] #[{ accessFlags := 2, nameIndex := 5, descriptorIndex := 23, attributes := #[] }, { accessFlags := 136, nameIndex := 73, descriptorIndex := 74, attributes := #[] }, { accessFlags := 0, nameIndex := 82, descriptorIndex := 83, attributes := #[] }] 48 2 #[] #[{ accessFlags := 18, nameIndex := 11, descriptorIndex := 12, attributes := #[] }])
  fields := #[{ name := "ids", type := (.array .int), accessFlags := 18, slot := 0, constantValue := 0 }]
  methods := #[k2m0, k2m1, k2m2]
  instanceTypes := #[(.array .int)]
  staticTypes := #[]
  resolved := Array.replicate 108 none
  statics := none }

def pool3 : Array CpInfo := pool [(1, .class_ 2), (0, u "java/lang/Cloneable"), (0, .class_ 4), (0, u "java/lang/Object")] 2

/-- java/lang/Cloneable -/
def k3 : Class := { plain "java/lang/Cloneable" (some 0) with
  accessFlags := 1537
  interfaces := #[]
  cf := some (fileOf pool3 1 #[] #[] 1537 3 #[] #[])
  fields := #[]
  methods := #[]
  instanceTypes := #[]
  staticTypes := #[]
  resolved := Array.replicate 7 none
  statics := none }

def pool4 : Array CpInfo := pool [(2, .class_ 4), (1, u "java/lang/Object"), (0, u "<init>"), (0, u "()V"), (0, .methodref 8 9), (0, .class_ 10), (0, .nameAndType 11 12), (0, u "java/util/DualPivotQuicksort"), (0, u "sort"), (0, u "([IIII)V"), (1, .class_ 16), (1, u "java/util/Arrays"), (57, .class_ 76), (1, u "java/util/Arrays$NaturalOrder"), (32, u "()Ljava/lang/Object;"), (3, .class_ 115), (1, u "java/util/Arrays$LegacyMergeSort"), (1, u "Z"), (10, .nameAndType 129 109), (0, u "clone"), (20, .methodref 151 152), (0, .class_ 153), (0, .nameAndType 154 155), (0, u "java/lang/System"), (0, u "arraycopy"), (0, u "(Ljava/lang/Object;ILjava/lang/Object;II)V"), (146, u "copyOf"), (1, .methodref 305 306), (0, .class_ 307), (0, .nameAndType 308 309), (0, u "java/lang/Math"), (0, u "min"), (0, u "(II)I"), (6, .methodref 317 128), (0, .class_ 318), (0, u "[I"), (56, .class_ 376), (0, u "java/util/Arrays$ArrayList"), (68, u "$assertionsDisabled"), (269, u "MIN_ARRAY_SORT_GRAN"), (0, u "I"), (2, u "INSERTIONSORT_THRESHOLD"), (6, u "([I)V"), (144, u "([II)[I"), (103, .class_ 976), (0, u "java/util/Arrays$ArrayItr")] 52

def k4m0 : Method := { name := "<init>", desc := "()V", sig := { parameters := [], returnType := none }, accessFlags := 2, code := none }
def k4c1 : Code := { maxStack := 4, maxLocals := 1, code := jdk_65_method_2_code, exceptionTable := #[], attributes := #[] }
def k4m1 : Method := { name := "sort", desc := "([I)V", sig := { parameters := [(.array .int)], returnType := none }, accessFlags := 9, code := some k4c1 }
def k4c2 : Code := { maxStack := 6, maxLocals := 3, code := jdk_65_method_123_code, exceptionTable := #[], attributes := #[] }
def k4m2 : Method := { name := "copyOf", desc := "([II)[I", sig := { parameters := [(.array .int), .int], returnType := some (.array .int) }, accessFlags := 9, code := some k4c2 }
/-- java/util/Arrays -/
def k4 : Class := { plain "java/util/Arrays" (some 0) with
  accessFlags := 49
  interfaces := #[]
  cf := some (fileOf pool4 14 #[.nestMembers #[975, 375, 113, 74]] #[{ accessFlags := 2, nameIndex := 5, descriptorIndex := 6, attributes := #[] }, { accessFlags := 9, nameIndex := 11, descriptorIndex := 726, attributes := #[] }, { accessFlags := 9, nameIndex := 302, descriptorIndex := 871, attributes := #[] }] 49 2 #[] #[{ accessFlags := 26, nameIndex := 715, descriptorIndex := 716, attributes := #[] }, { accessFlags := 26, nameIndex := 719, descriptorIndex := 716, attributes := #[] }, { accessFlags := 4120, nameIndex := 445, descriptorIndex := 117, attributes := #[] }])
  fields := #[{ name := "MIN_ARRAY_SORT_GRAN", type := .int, accessFlags := 26, slot := 0, constantValue := 0 }, { name := "INSERTIONSORT_THRESHOLD", type := .int, accessFlags := 26, slot := 1, constantValue := 0 }, { name := "$assertionsDisabled", type := .boolean, accessFlags := 4120, slot := 2, constantValue := 0 }]
  methods := #[k4m0, k4m1, k4m2]
  instanceTypes := #[]
  staticTypes := #[.int, .int, .boolean]
  resolved := Array.replicate 1029 none
  statics := none }

def pool5 : Array CpInfo := pool [(1, .class_ 2), (0, u "java/util/DualPivotQuicksort"), (5, .class_ 10), (1, u "java/lang/Object"), (0, u "<init>"), (0, u "()V"), (4, .class_ 18), (0, u "java/util/DualPivotQuicksort$Sorter"), (7, .methodref 1 27), (0, .nameAndType 28 29), (0, u "sort"), (0, u "(Ljava/util/DualPivotQuicksort$Sorter;[IIII)V"), (3, u "([IIII)V"), (0, .methodref 1 35), (0, .nameAndType 36 37), (0, u "insertionSort"), (0, u "([III)V"), (30, u "I"), (4, .class_ 74), (0, u "java/util/DualPivotQuicksort$RunMerger"), (10, .class_ 86), (0, u "java/util/DualPivotQuicksort$Merger"), (127, u "MAX_MIXED_INSERTION_SORT_SIZE"), (2, u "MAX_INSERTION_SORT_SIZE"), (1, u "MIN_PARALLEL_SORT_SIZE"), (1, u "MIN_TRY_MERGE_SIZE"), (0, u "MIN_FIRST_RUN_SIZE"), (1, u "MIN_FIRST_RUNS_FACTOR"), (1, u "MAX_RUN_CAPACITY"), (1, u "MIN_RUN_COUNT"), (1, u "MIN_PARALLEL_MERGE_PARTS_SIZE"), (0, u "MIN_BYTE_COUNTING_SORT_SIZE"), (1, u "MIN_SHORT_OR_CHAR_COUNTING_SORT_SIZE"), (1, u "DELTA"), (1, u "MAX_RECURSION_DEPTH"), (1, u "NUM_BYTE_VALUES"), (1, u "MAX_BYTE_INDEX"), (0, u "NUM_CHAR_VALUES"), (0, u "NUM_SHORT_VALUES"), (0, u "MAX_SHORT_INDEX")] 86

def k5m0 : Method := { name := "<init>", desc := "()V", sig := { parameters := [], returnType := none }, accessFlags := 2, code := none }
def k5c1 : Code := { maxStack := 9, maxLocals := 7, code := jdk_2529_method_3_code, exceptionTable := #[], attributes := #[] }
def k5m1 : Method := { name := "sort", desc := "([IIII)V", sig := { parameters := [(.array .int), .int, .int, .int], returnType := none }, accessFlags := 8, code := some k5c1 }
def k5c2 : Code := { maxStack := 6, maxLocals := 21, code := jdk_2529_method_4_code, exceptionTable := #[], attributes := #[] }
def k5m2 : Method := { name := "sort", desc := "(Ljava/util/DualPivotQuicksort$Sorter;[IIII)V", sig := { parameters := [(.object "java/util/DualPivotQuicksort$Sorter"), (.array .int), .int, .int, .int], returnType := none }, accessFlags := 8, code := some k5c2 }
def k5c3 : Code := { maxStack := 4, maxLocals := 6, code := jdk_2529_method_6_code, exceptionTable := #[], attributes := #[] }
def k5m3 : Method := { name := "insertionSort", desc := "([III)V", sig := { parameters := [(.array .int), .int, .int], returnType := none }, accessFlags := 10, code := some k5c3 }
/-- java/util/DualPivotQuicksort -/
def k5 : Class := { plain "java/util/DualPivotQuicksort" (some 0) with
  accessFlags := 48
  interfaces := #[]
  cf := some (fileOf pool5 1 #[.nestMembers #[73, 85, 17]] #[{ accessFlags := 2, nameIndex := 11, descriptorIndex := 12, attributes := #[] }, { accessFlags := 8, nameIndex := 28, descriptorIndex := 33, attributes := #[] }, { accessFlags := 8, nameIndex := 28, descriptorIndex := 29, attributes := #[] }, { accessFlags := 10, nameIndex := 36, descriptorIndex := 37, attributes := #[] }] 48 8 #[] #[{ accessFlags := 26, nameIndex := 214, descriptorIndex := 68, attributes := #[] }, { accessFlags := 26, nameIndex := 217, descriptorIndex := 68, attributes := #[] }, { accessFlags := 26, nameIndex := 219, descriptorIndex := 68, attributes := #[] }, { accessFlags := 26, nameIndex := 221, descriptorIndex := 68, attributes := #[] }, { accessFlags := 26, nameIndex := 222, descriptorIndex := 68, attributes := #[] }, { accessFlags := 26, nameIndex := 224, descriptorIndex := 68, attributes := #[] }, { accessFlags := 26, nameIndex := 226, descriptorIndex := 68, attributes := #[] }, { accessFlags := 26, nameIndex := 228, descriptorIndex := 68, attributes := #[] }, { accessFlags := 26, nameIndex := 230, descriptorIndex := 68, attributes := #[] }, { accessFlags := 26, nameIndex := 231, descriptorIndex := 68, attributes := #[] }, { accessFlags := 26, nameIndex := 233, descriptorIndex := 68, attributes := #[] }, { accessFlags := 26, nameIndex := 235, descriptorIndex := 68, attributes := #[] }, { accessFlags := 26, nameIndex := 237, descriptorIndex := 68, attributes := #[] }, { accessFlags := 26, nameIndex := 239, descriptorIndex := 68, attributes := #[] }, { accessFlags := 26, nameIndex := 241, descriptorIndex := 68, attributes := #[] }, { accessFlags := 26, nameIndex := 242, descriptorIndex := 68, attributes := #[] }, { accessFlags := 26, nameIndex := 243, descriptorIndex := 68, attributes := #[] }, { accessFlags := 26, nameIndex := 244, descriptorIndex := 68, attributes := #[] }])
  fields := #[{ name := "MAX_MIXED_INSERTION_SORT_SIZE", type := .int, accessFlags := 26, slot := 0, constantValue := 0 }, { name := "MAX_INSERTION_SORT_SIZE", type := .int, accessFlags := 26, slot := 1, constantValue := 0 }, { name := "MIN_PARALLEL_SORT_SIZE", type := .int, accessFlags := 26, slot := 2, constantValue := 0 }, { name := "MIN_TRY_MERGE_SIZE", type := .int, accessFlags := 26, slot := 3, constantValue := 0 }, { name := "MIN_FIRST_RUN_SIZE", type := .int, accessFlags := 26, slot := 4, constantValue := 0 }, { name := "MIN_FIRST_RUNS_FACTOR", type := .int, accessFlags := 26, slot := 5, constantValue := 0 }, { name := "MAX_RUN_CAPACITY", type := .int, accessFlags := 26, slot := 6, constantValue := 0 }, { name := "MIN_RUN_COUNT", type := .int, accessFlags := 26, slot := 7, constantValue := 0 }, { name := "MIN_PARALLEL_MERGE_PARTS_SIZE", type := .int, accessFlags := 26, slot := 8, constantValue := 0 }, { name := "MIN_BYTE_COUNTING_SORT_SIZE", type := .int, accessFlags := 26, slot := 9, constantValue := 0 }, { name := "MIN_SHORT_OR_CHAR_COUNTING_SORT_SIZE", type := .int, accessFlags := 26, slot := 10, constantValue := 0 }, { name := "DELTA", type := .int, accessFlags := 26, slot := 11, constantValue := 0 }, { name := "MAX_RECURSION_DEPTH", type := .int, accessFlags := 26, slot := 12, constantValue := 0 }, { name := "NUM_BYTE_VALUES", type := .int, accessFlags := 26, slot := 13, constantValue := 0 }, { name := "MAX_BYTE_INDEX", type := .int, accessFlags := 26, slot := 14, constantValue := 0 }, { name := "NUM_CHAR_VALUES", type := .int, accessFlags := 26, slot := 15, constantValue := 0 }, { name := "NUM_SHORT_VALUES", type := .int, accessFlags := 26, slot := 16, constantValue := 0 }, { name := "MAX_SHORT_INDEX", type := .int, accessFlags := 26, slot := 17, constantValue := 0 }]
  methods := #[k5m0, k5m1, k5m2, k5m3]
  instanceTypes := #[]
  staticTypes := #[.int, .int, .int, .int, .int, .int, .int, .int, .int, .int, .int, .int, .int, .int, .int, .int, .int, .int]
  resolved := Array.replicate 331 none
  statics := none }

def pool6 : Array CpInfo := pool [(1, .class_ 2), (0, u "java/lang/Math"), (1, .class_ 6), (1, u "java/lang/Object"), (0, u "<init>"), (0, u "()V"), (89, .class_ 100), (1, u "java/lang/Math$RandomNumberGeneratorHolder"), (71, u "negativeZeroFloatBits"), (0, u "J"), (2, u "negativeZeroDoubleBits"), (24, u "min"), (43, u "$assertionsDisabled"), (0, u "Z"), (88, u "(II)I"), (2, u "twoToTheDoubleScaleDown"), (0, u "D"), (4, u "twoToTheDoubleScaleUp"), (9, u "E"), (3, u "PI"), (2, u "TAU"), (2, u "DEGREES_TO_RADIANS"), (0, u "RADIANS_TO_DEGREES")] 94

def k6m0 : Method := { name := "<init>", desc := "()V", sig := { parameters := [], returnType := none }, accessFlags := 2, code := none }
def k6c1 : Code := { maxStack := 2, maxLocals := 2, code := jdk_29_method_69_code, exceptionTable := #[], attributes := #[] }
def k6m1 : Method := { name := "min", desc := "(II)I", sig := { parameters := [.int, .int], returnType := some .int }, accessFlags := 9, code := some k6c1 }
/-- java/lang/Math -/
def k6 : Class := { plain "java/lang/Math" (some 0) with
  accessFlags := 49
  interfaces := #[]
  cf := some (fileOf pool6 1 #[.nestMembers #[98]] #[{ accessFlags := 2, nameIndex := 7, descriptorIndex := 8, attributes := #[] }, { accessFlags := 9, nameIndex := 201, descriptorIndex := 335, attributes := #[] }] 49 4 #[] #[{ accessFlags := 25, nameIndex := 354, descriptorIndex := 339, attributes := #[] }, { accessFlags := 25, nameIndex := 358, descriptorIndex := 339, attributes := #[] }, { accessFlags := 25, nameIndex := 361, descriptorIndex := 339, attributes := #[] }, { accessFlags := 26, nameIndex := 364, descriptorIndex := 339, attributes := #[] }, { accessFlags := 26, nameIndex := 365, descriptorIndex := 339, attributes := #[] }, { accessFlags := 26, nameIndex := 172, descriptorIndex := 173, attributes := #[] }, { accessFlags := 26, nameIndex := 176, descriptorIndex := 173, attributes := #[] }, { accessFlags := 8, nameIndex := 344, descriptorIndex := 339, attributes := #[] }, { accessFlags := 8, nameIndex := 338, descriptorIndex := 339, attributes := #[] }, { accessFlags := 4120, nameIndex := 245, descriptorIndex := 246, attributes := #[] }])
  fields := #[{ name := "E", type := .double, accessFlags := 25, slot := 0, constantValue := 0 }, { name := "PI", type := .double, accessFlags := 25, slot := 1, constantValue := 0 }, { name := "TAU", type := .double, accessFlags := 25, slot := 2, constantValue := 0 }, { name := "DEGREES_TO_RADIANS", type := .double, accessFlags := 26, slot := 3, constantValue := 0 }, { name := "RADIANS_TO_DEGREES", type := .double, accessFlags := 26, slot := 4, constantValue := 0 }, { name := "negativeZeroFloatBits", type := .long, accessFlags := 26, slot := 5, constantValue := 0 }, { name := "negativeZeroDoubleBits", type := .long, accessFlags := 26, slot := 6, constantValue := 0 }, { name := "twoToTheDoubleScaleUp", type := .double, accessFlags := 8, slot := 7, constantValue := 0 }, { name := "twoToTheDoubleScaleDown", type := .double, accessFlags := 8, slot := 8, constantValue := 0 }, { name := "$assertionsDisabled", type := .boolean, accessFlags := 4120, slot := 9, constantValue := 0 }]
  methods := #[k6m0, k6m1]
  instanceTypes := #[]
  staticTypes := #[.double, .double, .double, .double, .double, .long, .long, .double, .double, .boolean]
  resolved := Array.replicate 460 none
  statics := none }

def pool7 : Array CpInfo := pool [(2, .class_ 4), (1, u "java/lang/Object"), (0, u "<init>"), (0, u "()V"), (1, .class_ 10), (1, u "java/lang/System"), (0, u "allowSecurityManager"), (0, u "I"), (16, u "cons"), (0, u "Ljava/io/Console;"), (77, .class_ 110), (1, u "java/lang/System$CallersHolder"), (43, u "initialErrStream"), (0, u "Ljava/io/PrintStream;"), (19, u "security"), (0, u "Ljava/lang/SecurityManager;"), (31, .class_ 209), (0, u "java/lang/System$1"), (7, u "props"), (0, u "Ljava/util/Properties;"), (2, u "lineSeparator"), (0, u "Ljava/lang/String;"), (96, .class_ 321), (1, u "java/lang/System$LoggerFinder"), (5, .class_ 328), (0, u "java/lang/System$Logger"), (67, u "err"), (2, u "out"), (91, u "notSupportedJnuEncoding"), (15, u "in"), (17, u "initialIn"), (0, u "Ljava/io/InputStream;"), (35, u "bootLayer"), (0, u "Ljava/lang/ModuleLayer;"), (99, .class_ 664), (0, u "java/lang/System$2"), (9, u "NEVER"), (2, u "MAYBE"), (49, u "arraycopy"), (0, u "(Ljava/lang/Object;ILjava/lang/Object;II)V"), (72, .class_ 802), (0, u "java/lang/System$Logger$Level")] 31

def k7m0 : Method := { name := "<init>", desc := "()V", sig := { parameters := [], returnType := none }, accessFlags := 2, code := none }
def k7m1 : Method := { name := "arraycopy", desc := "(Ljava/lang/Object;ILjava/lang/Object;II)V", sig := { parameters := [(.object "java/lang/Object"), .int, (.object "java/lang/Object"), .int, .int], returnType := none }, accessFlags := 265, code := none }
/-- java/lang/System -/
def k7 : Class := { plain "java/lang/System" (some 0) with
  accessFlags := 49
  interfaces := #[]
  cf := some (fileOf pool7 8 #[.nestMembers #[319, 327, 801, 108, 663, 208]] #[{ accessFlags := 2, nameIndex := 5, descriptorIndex := 6, attributes := #[] }, { accessFlags := 265, nameIndex := 727, descriptorIndex := 728, attributes := #[] }] 49 2 #[] #[{ accessFlags := 25, nameIndex := 507, descriptorIndex := 526, attributes := #[] }, { accessFlags := 25, nameIndex := 399, descriptorIndex := 155, attributes := #[] }, { accessFlags := 25, nameIndex := 396, descriptorIndex := 155, attributes := #[] }, { accessFlags := 10, nameIndex := 525, descriptorIndex := 526, attributes := #[] }, { accessFlags := 26, nameIndex := 674, descriptorIndex := 12, attributes := #[] }, { accessFlags := 26, nameIndex := 677, descriptorIndex := 12, attributes := #[] }, { accessFlags := 10, nameIndex := 11, descriptorIndex := 12, attributes := #[] }, { accessFlags := 74, nameIndex := 175, descriptorIndex := 176, attributes := #[] }, { accessFlags := 10, nameIndex := 491, descriptorIndex := 222, attributes := #[] }, { accessFlags := 74, nameIndex := 29, descriptorIndex := 30, attributes := #[] }, { accessFlags := 74, nameIndex := 154, descriptorIndex := 155, attributes := #[] }, { accessFlags := 10, nameIndex := 217, descriptorIndex := 218, attributes := #[] }, { accessFlags := 10, nameIndex := 221, descriptorIndex := 222, attributes := #[] }, { accessFlags := 8, nameIndex := 562, descriptorIndex := 563, attributes := #[] }])
  fields := #[{ name := "in", type := (.object "java/io/InputStream"), accessFlags := 25, slot := 0, constantValue := 0 }, { name := "out", type := (.object "java/io/PrintStream"), accessFlags := 25, slot := 1, constantValue := 0 }, { name := "err", type := (.object "java/io/PrintStream"), accessFlags := 25, slot := 2, constantValue := 0 }, { name := "initialIn", type := (.object "java/io/InputStream"), accessFlags := 10, slot := 3, constantValue := 0 }, { name := "NEVER", type := .int, accessFlags := 26, slot := 4, constantValue := 0 }, { name := "MAYBE", type := .int, accessFlags := 26, slot := 5, constantValue := 0 }, { name := "allowSecurityManager", type := .int, accessFlags := 10, slot := 6, constantValue := 0 }, { name := "security", type := (.object "java/lang/SecurityManager"), accessFlags := 74, slot := 7, constantValue := 0 }, { name := "notSupportedJnuEncoding", type := (.object "java/lang/String"), accessFlags := 10, slot := 8, constantValue := 0 }, { name := "cons", type := (.object "java/io/Console"), accessFlags := 74, slot := 9, constantValue := 0 }, { name := "initialErrStream", type := (.object "java/io/PrintStream"), accessFlags := 74, slot := 10, constantValue := 0 }, { name := "props", type := (.object "java/util/Properties"), accessFlags := 10, slot := 11, constantValue := 0 }, { name := "lineSeparator", type := (.object "java/lang/String"), accessFlags := 10, slot := 12, constantValue := 0 }, { name := "bootLayer", type := (.object "java/lang/ModuleLayer"), accessFlags := 8, slot := 13, constantValue := 0 }]
  methods := #[k7m0, k7m1]
  instanceTypes := #[]
  staticTypes := #[(.object "java/io/InputStream"), (.object "java/io/PrintStream"), (.object "java/io/PrintStream"), (.object "java/io/InputStream"), .int, .int, .int, (.object "java/lang/SecurityManager"), (.object "java/lang/String"), (.object "java/io/Console"), (.object "java/io/PrintStream"), (.object "java/util/Properties"), (.object "java/lang/String"), (.object "java/lang/ModuleLayer")]
  resolved := Array.replicate 834 none
  statics := none }

def pool8 : Array CpInfo := pool [(1, u "java/io/Serializable"), (0, .class_ 1), (0, u "java/lang/Object"), (0, .class_ 3)] 3

/-- java/io/Serializable -/
def k8 : Class := { plain "java/io/Serializable" (some 0) with
  accessFlags := 1537
  interfaces := #[]
  cf := some (fileOf pool8 2 #[] #[] 1537 4 #[] #[])
  fields := #[]
  methods := #[]
  instanceTypes := #[]
  staticTypes := #[]
  resolved := Array.replicate 8 none
  statics := none }

/-- the primitive byte -/
def k9 : Class := { plain "byte" none with kind := .primitive 'B', accessFlags := 0x411 }
/-- [B -/
def k10 : Class := { plain "[B" (some 0) with kind := .array 9 .byte, interfaces := #[3, 8], accessFlags := 1041 }

/-- the primitive int -/
def k11 : Class := { plain "int" none with kind := .primitive 'I', accessFlags := 0x411 }
/-- [I -/
def k12 : Class := { plain "[I" (some 0) with kind := .array 11 .int, interfaces := #[3, 8], accessFlags := 1041 }

def heap : Heap := #[]
def classes : Array Class := #[k0, k1, k2, k3, k4, k5, k6, k7, k8, k9, k10, k11, k12]
def interned : List (Array UInt16 × Addr) := []
def slotsUsed : Nat := 0
def theMethod : MethodId := ⟨1, 2⟩
def args0 : Array Value := #[.int 5, .int 300, .int 7, .int 9, .int 11, .int 13]
def aboutOver (below : List Frame) : State where
  vm := { classes := classes, interned := interned.toArray }
  heap := heap
  slotsUsed := slotsUsed
  threads := #[{ frames := .invoking theMethod args0 :: below }]
def below0 : List Frame := [.native { method := ⟨0, 0⟩, args := #[] }]
def about1 : State := aboutOver below0
def p0 : Program := .bare "" "" ""
def e0 : Env := launch0.env 0 0 0
theorem w_frames : about1.frames = Frame.invoking theMethod args0 :: below0 := rfl
set_option maxRecDepth 65536 in
theorem w_args : argsFit about1.vm theMethod args0 = true := by decide +kernel
set_option maxRecDepth 65536 in
theorem w_heap : heapFits about1 = true := by decide +kernel
set_option maxRecDepth 65536 in
theorem w_runnable : about1.curStatus? = some .runnable := by decide +kernel
set_option maxRecDepth 65536 in
theorem w_alone : about1.alone = true := by decide +kernel
set_option maxRecDepth 65536 in
theorem w_named : about1.methodNamed? x = some theMethod := by decide +kernel
set_option maxRecDepth 65536 in
theorem w_hears : about1.hears theMethod below0 = true := by decide +kernel
set_option maxRecDepth 65536 in
theorem w_ripe : about1.ripe theMethod args0 below0 = true := by decide +kernel
theorem w_running : about1.status = .running := rfl
set_option maxRecDepth 65536 in
theorem w_room : about1.hasRoom e0.platform room_1 = true :=
  launch0.hasRoom_least _ room_1 (by decide +kernel) (by decide +kernel) (by decide +kernel) (by decide +kernel) (by decide +kernel) (by decide +kernel)
theorem allAtoms_all (ts : List Jvm.Cond) (a : Array Jvm.Value) (st : Jvm.State) : (allAtoms ts).before a st = ts.all (fun c => c.before a st) := by
  induction ts with
  | nil => rfl
  | cons c t ih =>
    show (Jvm.Cond.and c (allAtoms t)).before a st = _
    rw [Jvm.Cond.before_and, ih, List.all_cons]
def words1 : List Jvm.Cond := Jvm.Cond.code x code maxLocals ret :: tables_1
/-- a 'code' word, met by the world's own term for the bytes: nothing is compared byte by byte -/
theorem code_word {y : MethodName} {bytes : ByteArray} {mx : Nat} {rt : Option FieldType} {a : Array Value} {s : State} {m : MethodId} {meth : Method} {c : Code} (h1 : s.methodNamed? y = some m) (h2 : s.vm.method? m = some meth) (h3 : meth.code = some c) (h4 : c.code = bytes)
    (h5 : (c.maxLocals == mx && c.exceptionTable.isEmpty && decide (c.maxStack ≤ mostOperands) && decide (meth.sig.returnType = rt) && !meth.locks && decide (parseMethodDescriptor y.desc = some meth.sig)) = true) : (Jvm.Cond.code y bytes mx rt).before a s = true := by
  simp only [Bool.and_eq_true, beq_iff_eq, Bool.not_eq_true', decide_eq_true_eq] at h5
  obtain ⟨⟨⟨⟨⟨g1, g2⟩, g3⟩, g4⟩, g5⟩, g6⟩ := h5
  simp [Cond.before, Cond.holds, Cond.value, h1, h2, h3, h4, g1, g2, g3, g4, g5, g6]
def isCode : Jvm.Cond → Bool
  | .code _ _ _ _ => true
  | _ => false
theorem all_split {L : List Jvm.Cond} {P : Jvm.Cond → Bool} (h1 : L.all (fun c => isCode c || P c) = true) (h2 : ∀ c ∈ L.filter isCode, P c = true) : L.all P = true := by
  refine List.all_eq_true.mpr fun c hc => ?_
  have h := List.all_eq_true.mp h1 c hc
  rcases Bool.eq_false_or_eq_true (isCode c) with hi | hi
  · exact h2 c (List.mem_filter.mpr ⟨hc, hi⟩)
  · simpa [hi] using h
set_option maxRecDepth 65536 in
theorem w_c0 : (Jvm.Cond.code x code maxLocals ret).before args0 about1 = true := code_word (m := ⟨1, 2⟩) (meth := k1m2) (c := k1c2) (by decide +kernel) rfl rfl rfl (by decide +kernel)
set_option maxRecDepth 65536 in
theorem w_c1 : (Jvm.Cond.code ({ cls := "com/example/reja/reja/IdSet", name := "of", desc := "([I)Lcom/example/reja/reja/IdSet;" } : Jvm.MethodName) prog_3_method_2_code (7 : Nat) (Option.some (Jvm.ClassFile.FieldType.object "com/example/reja/reja/IdSet"))).before args0 about1 = true := code_word (m := ⟨2, 1⟩) (meth := k2m1) (c := k2c1) (by decide +kernel) rfl rfl rfl (by decide +kernel)
set_option maxRecDepth 65536 in
theorem w_c2 : (Jvm.Cond.code ({ cls := "java/util/Arrays", name := "sort", desc := "([I)V" } : Jvm.MethodName) jdk_65_method_2_code (1 : Nat) (Option.none : Option Jvm.ClassFile.FieldType)).before args0 about1 = true := code_word (m := ⟨4, 1⟩) (meth := k4m1) (c := k4c1) (by decide +kernel) rfl rfl rfl (by decide +kernel)
set_option maxRecDepth 65536 in
theorem w_c3 : (Jvm.Cond.code ({ cls := "java/util/DualPivotQuicksort", name := "sort", desc := "([IIII)V" } : Jvm.MethodName) jdk_2529_method_3_code (7 : Nat) (Option.none : Option Jvm.ClassFile.FieldType)).before args0 about1 = true := code_word (m := ⟨5, 1⟩) (meth := k5m1) (c := k5c1) (by decide +kernel) rfl rfl rfl (by decide +kernel)
set_option maxRecDepth 65536 in
theorem w_c4 : (Jvm.Cond.code ({ cls := "java/util/DualPivotQuicksort", name := "sort", desc := "(Ljava/util/DualPivotQuicksort$Sorter;[IIII)V" } : Jvm.MethodName) jdk_2529_method_4_code (21 : Nat) (Option.none : Option Jvm.ClassFile.FieldType)).before args0 about1 = true := code_word (m := ⟨5, 2⟩) (meth := k5m2) (c := k5c2) (by decide +kernel) rfl rfl rfl (by decide +kernel)
set_option maxRecDepth 65536 in
theorem w_c5 : (Jvm.Cond.code ({ cls := "java/util/DualPivotQuicksort", name := "insertionSort", desc := "([III)V" } : Jvm.MethodName) jdk_2529_method_6_code (6 : Nat) (Option.none : Option Jvm.ClassFile.FieldType)).before args0 about1 = true := code_word (m := ⟨5, 3⟩) (meth := k5m3) (c := k5c3) (by decide +kernel) rfl rfl rfl (by decide +kernel)
set_option maxRecDepth 65536 in
theorem w_c6 : (Jvm.Cond.code ({ cls := "java/util/Arrays", name := "copyOf", desc := "([II)[I" } : Jvm.MethodName) jdk_65_method_123_code (3 : Nat) (Option.some (Jvm.ClassFile.FieldType.array Jvm.ClassFile.FieldType.int))).before args0 about1 = true := code_word (m := ⟨4, 2⟩) (meth := k4m2) (c := k4c2) (by decide +kernel) rfl rfl rfl (by decide +kernel)
set_option maxRecDepth 65536 in
theorem w_c7 : (Jvm.Cond.code ({ cls := "com/example/reja/reja/IdSet", name := "<init>", desc := "([I)V" } : Jvm.MethodName) prog_3_method_1_code (2 : Nat) (Option.none : Option Jvm.ClassFile.FieldType)).before args0 about1 = true := code_word (m := ⟨2, 0⟩) (meth := k2m0) (c := k2c0) (by decide +kernel) rfl rfl rfl (by decide +kernel)
set_option maxRecDepth 65536 in
theorem w_c8 : (Jvm.Cond.code ({ cls := "java/lang/Object", name := "<init>", desc := "()V" } : Jvm.MethodName) object_method_1_code (1 : Nat) (Option.none : Option Jvm.ClassFile.FieldType)).before args0 about1 = true := code_word (m := ⟨0, 0⟩) (meth := k0m0) (c := k0c0) (by decide +kernel) rfl rfl rfl (by decide +kernel)
set_option maxRecDepth 65536 in
theorem w_c9 : (Jvm.Cond.code ({ cls := "com/example/reja/reja/IdSetOfPinLaw", name := "untouched", desc := "([IIIIII)Z" } : Jvm.MethodName) method_2_code (6 : Nat) (Option.some Jvm.ClassFile.FieldType.boolean)).before args0 about1 = true := code_word (m := ⟨1, 1⟩) (meth := k1m1) (c := k1c1) (by decide +kernel) rfl rfl rfl (by decide +kernel)
set_option maxRecDepth 65536 in
theorem w_c10 : (Jvm.Cond.code ({ cls := "com/example/reja/reja/IdSet", name := "meets", desc := "(Lcom/example/reja/reja/IdSet;)Z" } : Jvm.MethodName) prog_3_method_4_code (5 : Nat) (Option.some Jvm.ClassFile.FieldType.boolean)).before args0 about1 = true := code_word (m := ⟨2, 2⟩) (meth := k2m2) (c := k2c2) (by decide +kernel) rfl rfl rfl (by decide +kernel)
set_option maxRecDepth 65536 in
theorem w_c11 : (Jvm.Cond.code ({ cls := "java/lang/Math", name := "min", desc := "(II)I" } : Jvm.MethodName) jdk_29_method_69_code (2 : Nat) (Option.some Jvm.ClassFile.FieldType.int)).before args0 about1 = true := code_word (m := ⟨6, 1⟩) (meth := k6m1) (c := k6c1) (by decide +kernel) rfl rfl rfl (by decide +kernel)
def codes1 : List Jvm.Cond := [Jvm.Cond.code x code maxLocals ret, Jvm.Cond.code ({ cls := "com/example/reja/reja/IdSet", name := "of", desc := "([I)Lcom/example/reja/reja/IdSet;" } : Jvm.MethodName) prog_3_method_2_code (7 : Nat) (Option.some (Jvm.ClassFile.FieldType.object "com/example/reja/reja/IdSet")), Jvm.Cond.code ({ cls := "java/util/Arrays", name := "sort", desc := "([I)V" } : Jvm.MethodName) jdk_65_method_2_code (1 : Nat) (Option.none : Option Jvm.ClassFile.FieldType), Jvm.Cond.code ({ cls := "java/util/DualPivotQuicksort", name := "sort", desc := "([IIII)V" } : Jvm.MethodName) jdk_2529_method_3_code (7 : Nat) (Option.none : Option Jvm.ClassFile.FieldType), Jvm.Cond.code ({ cls := "java/util/DualPivotQuicksort", name := "sort", desc := "(Ljava/util/DualPivotQuicksort$Sorter;[IIII)V" } : Jvm.MethodName) jdk_2529_method_4_code (21 : Nat) (Option.none : Option Jvm.ClassFile.FieldType), Jvm.Cond.code ({ cls := "java/util/DualPivotQuicksort", name := "insertionSort", desc := "([III)V" } : Jvm.MethodName) jdk_2529_method_6_code (6 : Nat) (Option.none : Option Jvm.ClassFile.FieldType), Jvm.Cond.code ({ cls := "java/util/Arrays", name := "copyOf", desc := "([II)[I" } : Jvm.MethodName) jdk_65_method_123_code (3 : Nat) (Option.some (Jvm.ClassFile.FieldType.array Jvm.ClassFile.FieldType.int)), Jvm.Cond.code ({ cls := "com/example/reja/reja/IdSet", name := "<init>", desc := "([I)V" } : Jvm.MethodName) prog_3_method_1_code (2 : Nat) (Option.none : Option Jvm.ClassFile.FieldType), Jvm.Cond.code ({ cls := "java/lang/Object", name := "<init>", desc := "()V" } : Jvm.MethodName) object_method_1_code (1 : Nat) (Option.none : Option Jvm.ClassFile.FieldType), Jvm.Cond.code ({ cls := "com/example/reja/reja/IdSetOfPinLaw", name := "untouched", desc := "([IIIIII)Z" } : Jvm.MethodName) method_2_code (6 : Nat) (Option.some Jvm.ClassFile.FieldType.boolean), Jvm.Cond.code ({ cls := "com/example/reja/reja/IdSet", name := "meets", desc := "(Lcom/example/reja/reja/IdSet;)Z" } : Jvm.MethodName) prog_3_method_4_code (5 : Nat) (Option.some Jvm.ClassFile.FieldType.boolean), Jvm.Cond.code ({ cls := "java/lang/Math", name := "min", desc := "(II)I" } : Jvm.MethodName) jdk_29_method_69_code (2 : Nat) (Option.some Jvm.ClassFile.FieldType.int)]
set_option maxRecDepth 65536 in
theorem codes_eq : words1.filter isCode = codes1 := rfl
theorem w_codes : ∀ c ∈ words1.filter isCode, c.before args0 about1 = true := by
  rw [codes_eq]
  intro c hc
  simp only [codes1, List.mem_cons, List.not_mem_nil, or_false] at hc
  rcases hc with rfl | rfl | rfl | rfl | rfl | rfl | rfl | rfl | rfl | rfl | rfl | rfl
  · exact w_c0
  · exact w_c1
  · exact w_c2
  · exact w_c3
  · exact w_c4
  · exact w_c5
  · exact w_c6
  · exact w_c7
  · exact w_c8
  · exact w_c9
  · exact w_c10
  · exact w_c11
set_option maxRecDepth 65536 in
theorem w_t1 : (words1.take 24).all (fun c => isCode c || c.before args0 about1) = true := by decide +kernel
set_option maxRecDepth 65536 in
theorem w_t2 : ((words1.drop 24).take 24).all (fun c => isCode c || c.before args0 about1) = true := by decide +kernel
set_option maxRecDepth 65536 in
theorem w_t3 : ((words1.drop 24).drop 24).all (fun c => isCode c || c.before args0 about1) = true := by decide +kernel
theorem w_tables : (allAtoms (Jvm.Cond.code x code maxLocals ret :: tables_1)).before args0 about1 = true := by
  rw [allAtoms_all]
  show words1.all (fun c => c.before args0 about1) = true
  refine all_split ?_ w_codes
  rw [← List.take_append_drop 24 words1, List.all_append, w_t1, ← List.take_append_drop 24 (words1.drop 24), List.all_append, w_t2, w_t3]
  rfl
set_option maxRecDepth 65536 in
theorem w_case : (Jvm.Cond.and given_1 narrow_1).before args0 about1 = true := by decide +kernel
theorem w_applies : (headSpec (Jvm.Cond.code x code maxLocals ret :: tables_1) room_1).applies x e0.platform about1 = true :=
  (Spec.applies_iff w_frames).mpr ⟨w_running, w_runnable, w_alone, w_named, w_hears, w_ripe, w_room, w_tables⟩
theorem atStart : AtStart classFile x code maxLocals ret World_1 tables_1 room_1 Calls_1 rest_1 Pre_1 launch0 p0 e0 about1 theMethod args0 below0 :=
  ⟨lists_1, trivial, launch0.admits_env _ _ _, launch0.least_env, fairChoices_fair.cas, fairChoices_fair.clock, w_frames, w_args, w_heap, w_applies, trivial, trivial, w_case⟩
end start1
theorem witness_1 : WitnessClaimed_1 := ⟨start1.p0, start1.e0, start1.about1, start1.theMethod, start1.args0, start1.below0, start1.atStart⟩
end Jvm.Pilot.@@N@@
