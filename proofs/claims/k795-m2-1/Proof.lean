import JvmDerived
import JvmDerived.Pilot.@@N@@Statement
import JvmDerived.Pilot.@@N@@Code
set_option linter.unusedVariables false
set_option linter.unusedSimpArgs false
namespace Jvm.OwnWalk
open Sem ClassFile Op Lib Jvm.Stand Jvm.Free Jvm.LawKit Jvm.RoadKit
/-- where a run stands: the library's Stand, its written places new, its heap -/
def Sd (p : Program) (l : Launch) (e : Env) (R : Room) (s : State) (m : MethodId) (args : Array Value) (below : List Frame) (meth : Method) (c : Code) (n0 : Nat) (T : State) (h : Heap) (cells slots : Nat) : Prop :=
  ∃ locs, Stand p l e R s m args below meth c T locs cells slots ∧ Fr n0 locs ∧ T.heap = h ∧ n0 ≤ s.heap.size
/-- what stays through a walk -/
def Cx (Z : State) (own nm : String) (bytes : ByteArray) (maxL : Nat) (ret : Option FieldType) (p : Program) (s : State) (m : MethodId) (meth : Method) (c : Code) : Prop :=
  p.tables.exec = Jvm.exec ∧ c.code = bytes ∧ Z.Warmed39 s.vm ∧ s.vm.findClass own = some m.cls ∧ meth.name = nm ∧ c.maxLocals = maxL ∧ meth.sig.returnType = ret ∧ meth.locks = false
/-- from A the body returns, and P holds of what it returns and of the heap -/
def Gl (p : Program) (e : Env) (below : List Frame) (s : State) (n0 : Nat) (P : Option Value → Heap → Prop) (C S : Nat) (A : State) : Prop :=
  ∃ t o, Steps p.tables e below A t ∧ t.status = .running ∧ Ended t below o ∧ ∃ v L, o = .returned v ∧ (P v t.heap ∧ Fr n0 L) ∧ FrameEnd s o t L C S
/-- a method's contract -/
def Con (l : Launch) (Z : State) (y : MethodName) (bytes : ByteArray) (maxL : Nat) (ret : Option FieldType) (ws : List Jvm.Cond) (rm : Room) (C S : Nat) (as' : Array Value) (h0 : Heap) (n0 : Nat) (P : Option Value → Heap → Prop) : Prop :=
  MetFree l y (head1 (Jvm.Cond.code y bytes maxL ret :: ws) rm) (fun a U => a = as' ∧ Z.Warmed39 U.vm ∧ U.heap = h0) (fun _ _ _ _ _ => True) (fun _ U o U' => ∃ v L, o = .returned v ∧ (P v U'.heap ∧ Fr n0 L) ∧ FrameEnd U o U' L C S)
theorem Con.met {l : Launch} {Z : State} {y : MethodName} {bytes : ByteArray} {maxL : Nat} {ret : Option FieldType} {ws : List Jvm.Cond} {rm : Room} {C S : Nat} {as' : Array Value} {h0 : Heap} {n0 : Nat} {P : Option Value → Heap → Prop} (h : Con l Z y bytes maxL ret ws rm C S as' h0 n0 P) :
  MetFree l y (head1 (Jvm.Cond.code y bytes maxL ret :: ws) rm) (fun a U => a = as' ∧ Z.Warmed39 U.vm ∧ U.heap = h0) (fun _ _ _ _ _ => True) (fun _ U o U' => ∃ v L, o = .returned v ∧ (P v U'.heap ∧ Fr n0 L) ∧ FrameEnd U o U' L C S) := h
theorem Con.of {l : Launch} {Z : State} {y : MethodName} {bytes : ByteArray} {maxL : Nat} {ret : Option FieldType} {ws : List Jvm.Cond} {rm : Room} {C S : Nat} {as' : Array Value} {h0 : Heap} {n0 : Nat} {P : Option Value → Heap → Prop} (hpl : plainFor y = true) (hn : n0 ≤ h0.size)
    (hb : ∀ p e s m below meth c T, Cx Z y.cls y.name bytes maxL ret p s m meth c → Sd p l e rm s m as' below meth c n0 T h0 0 0 → Gl p e below s n0 P C S (T.setTop (entryFrame m as' maxL))) : Con l Z y bytes maxL ret ws rm C S as' h0 n0 P := by
  refine MetFree.of_bodySF hpl hisR ?_
  intro p e s m args below meth c s₁ Bd hml0 hP hK
  obtain ⟨rfl, hZ, hh⟩ := hP
  have hlk : meth.locks = false := Bd.notSynchronized
  exact hb p e s m below meth c s₁ ⟨Bd.exec, Bd.bytes, hZ, findClass_of_methodNamed Bd.named, (name_of_methodNamed Bd.named Bd.method).1, hml0, Bd.returns, hlk⟩ ⟨[], Stand.of_body Bd, Fr.nil n0, by rw [← hh, Bd.state]; rfl, by rw [hh]; exact hn⟩
/-- the contract of a method that returns a value; of one that returns nothing -/
abbrev ConV (l : Launch) (Z : State) (y : MethodName) (bytes : ByteArray) (maxL : Nat) (ret : Option FieldType) (rm : Room) (as' : Array Value) (h0 : Heap) (n0 : Nat) (Q : Value → Heap → Prop) : Prop := Con l Z y bytes maxL ret [] rm rm.cells rm.slots as' h0 n0 (fun r h => ∃ v, r = some v ∧ Q v h)
abbrev ConN (l : Launch) (Z : State) (y : MethodName) (bytes : ByteArray) (maxL : Nat) (rm : Room) (as' : Array Value) (h0 : Heap) (n0 : Nat) (Q : Heap → Prop) : Prop := Con l Z y bytes maxL none [] rm rm.cells rm.slots as' h0 n0 (fun r h => r = none ∧ Q h)
section Walk
variable {p : Program} {l : Launch} {e : Env} {R : Room} {s : State} {m : MethodId} {args : Array Value} {below : List Frame} {meth : Method} {c : Code} {T A B : State} {h : Heap} {cells slots n0 C S : Nat} {P : Option Value → Heap → Prop}
variable {Z : State} {a0 : Array Value} {own nm : String} {bytes : ByteArray} {maxL : Nat} {ret : Option FieldType}
variable {pc n : Nat} {ls : Array Slot} {st : List Value}
theorem Gl.of (hst : ∀ t, Steps p.tables e below B t → Steps p.tables e below A t) (k : Gl p e below s n0 P C S B) : Gl p e below s n0 P C S A := by
  obtain ⟨t, o, h1, r⟩ := k; exact ⟨t, o, hst t h1, r⟩
theorem Sd.le (X : Sd p l e R s m args below meth c n0 T h cells slots) : n0 ≤ h.size := by
  obtain ⟨_, X, -, eh, hn⟩ := X
  have q : s.heap.size ≤ T.heap.size := X.same.2.1
  rw [← eh]; omega
theorem Gl.enter {as' : Array Value} (ef : entryFrame m as' maxL = mkF m 0 ls []) (k : Gl p e below s n0 P C S (T.setTop (mkF m 0 ls []))) : Gl p e below s n0 P C S (T.setTop (entryFrame m as' maxL)) := by rw [ef]; exact k
theorem gIload (X : Sd p l e R s m args below meth c n0 T h cells slots) (w : Cx Z own nm bytes maxL ret p s m meth c) {k : Nat} {v : Int32} (hd : decode bytes pc = .ok (.iload k, 2)) (hl : ls[k]? = some (.val (.int v))) (hn : pc + 2 = n) (K : Gl p e below s n0 P C S (T.setTop (mkF m n ls (.int v :: st)))) : Gl p e below s n0 P C S (T.setTop (mkF m pc ls st)) := by
  obtain ⟨_, X, -⟩ := X; obtain ⟨hx, hby, hZ, hown, -⟩ := w; subst hn
  exact Gl.of (fun t k => XS.iload X.here hx rfl (hb hby hd) hl k) K
theorem gIloadN (X : Sd p l e R s m args below meth c n0 T h cells slots) (w : Cx Z own nm bytes maxL ret p s m meth c) {k : Fin 4} {v : Int32} (hd : decode bytes pc = .ok (.iload_n k, 1)) (hl : ls[k.val]? = some (.val (.int v))) (hn : pc + 1 = n) (K : Gl p e below s n0 P C S (T.setTop (mkF m n ls (.int v :: st)))) : Gl p e below s n0 P C S (T.setTop (mkF m pc ls st)) := by
  obtain ⟨_, X, -⟩ := X; obtain ⟨hx, hby, hZ, hown, -⟩ := w; subst hn
  exact Gl.of (fun t k => XS.iloadN X.here hx rfl (hb hby hd) hl k) K
theorem gJload (X : Sd p l e R s m args below meth c n0 T h cells slots) (w : Cx Z own nm bytes maxL ret p s m meth c) {k : Nat} {v : Int64} (hd : decode bytes pc = .ok (.lload k, 2)) (hl : ls[k]? = some (.val (.long v))) (hn : pc + 2 = n) (K : Gl p e below s n0 P C S (T.setTop (mkF m n ls (.long v :: st)))) : Gl p e below s n0 P C S (T.setTop (mkF m pc ls st)) := by
  obtain ⟨_, X, -⟩ := X; obtain ⟨hx, hby, hZ, hown, -⟩ := w; subst hn
  exact Gl.of (fun t k => XT.lload X.here hx rfl (hb hby hd) hl k) K
theorem gJloadN (X : Sd p l e R s m args below meth c n0 T h cells slots) (w : Cx Z own nm bytes maxL ret p s m meth c) {k : Fin 4} {v : Int64} (hd : decode bytes pc = .ok (.lload_n k, 1)) (hl : ls[k.val]? = some (.val (.long v))) (hn : pc + 1 = n) (K : Gl p e below s n0 P C S (T.setTop (mkF m n ls (.long v :: st)))) : Gl p e below s n0 P C S (T.setTop (mkF m pc ls st)) := by
  obtain ⟨_, X, -⟩ := X; obtain ⟨hx, hby, hZ, hown, -⟩ := w; subst hn
  exact Gl.of (fun t k => XT.lloadN X.here hx rfl (hb hby hd) hl k) K
theorem gAload (X : Sd p l e R s m args below meth c n0 T h cells slots) (w : Cx Z own nm bytes maxL ret p s m meth c) {k : Nat} {v : Value} (hd : decode bytes pc = .ok (.aload k, 2)) (hl : ls[k]? = some (.val v)) (hv : v.isRef = true) (hn : pc + 2 = n) (K : Gl p e below s n0 P C S (T.setTop (mkF m n ls (v :: st)))) : Gl p e below s n0 P C S (T.setTop (mkF m pc ls st)) := by
  obtain ⟨_, X, -⟩ := X; obtain ⟨hx, hby, hZ, hown, -⟩ := w; subst hn
  exact Gl.of (fun t k => XS.aload X.here hx rfl (hb hby hd) hl hv k) K
theorem gAloadN (X : Sd p l e R s m args below meth c n0 T h cells slots) (w : Cx Z own nm bytes maxL ret p s m meth c) {k : Fin 4} {v : Value} (hd : decode bytes pc = .ok (.aload_n k, 1)) (hl : ls[k.val]? = some (.val v)) (hv : v.isRef = true) (hn : pc + 1 = n) (K : Gl p e below s n0 P C S (T.setTop (mkF m n ls (v :: st)))) : Gl p e below s n0 P C S (T.setTop (mkF m pc ls st)) := by
  obtain ⟨_, X, -⟩ := X; obtain ⟨hx, hby, hZ, hown, -⟩ := w; subst hn
  exact Gl.of (fun t k => XS.aloadN X.here hx rfl (hb hby hd) hl hv k) K
theorem gDload (X : Sd p l e R s m args below meth c n0 T h cells slots) (w : Cx Z own nm bytes maxL ret p s m meth c) {k : Nat} {v : UInt64} (hd : decode bytes pc = .ok (.dload k, 2)) (hl : ls[k]? = some (.val (.double v))) (hn : pc + 2 = n) (K : Gl p e below s n0 P C S (T.setTop (mkF m n ls (.double v :: st)))) : Gl p e below s n0 P C S (T.setTop (mkF m pc ls st)) := by
  obtain ⟨_, X, -⟩ := X; obtain ⟨hx, hby, hZ, hown, -⟩ := w; subst hn
  exact Gl.of (fun t k => XS.dload X.here hx rfl (hb hby hd) hl k) K
theorem gDloadN (X : Sd p l e R s m args below meth c n0 T h cells slots) (w : Cx Z own nm bytes maxL ret p s m meth c) {k : Fin 4} {v : UInt64} (hd : decode bytes pc = .ok (.dload_n k, 1)) (hl : ls[k.val]? = some (.val (.double v))) (hn : pc + 1 = n) (K : Gl p e below s n0 P C S (T.setTop (mkF m n ls (.double v :: st)))) : Gl p e below s n0 P C S (T.setTop (mkF m pc ls st)) := by
  obtain ⟨_, X, -⟩ := X; obtain ⟨hx, hby, hZ, hown, -⟩ := w; subst hn
  exact Gl.of (fun t k => XS.dloadN X.here hx rfl (hb hby hd) hl k) K
theorem gDstore (X : Sd p l e R s m args below meth c n0 T h cells slots) (w : Cx Z own nm bytes maxL ret p s m meth c) {k : Nat} {x : UInt64} (hd : decode bytes pc = .ok (.dstore k, 2)) (l' : Array Slot) (hl : storeLocals ls k (.double x) = some l') (hn : pc + 2 = n) (K : Gl p e below s n0 P C S (T.setTop (mkF m n l' st))) : Gl p e below s n0 P C S (T.setTop (mkF m pc ls (.double x :: st))) := by
  obtain ⟨_, X, -⟩ := X; obtain ⟨hx, hby, hZ, hown, -⟩ := w; subst hn
  exact Gl.of (fun t k => XS.dstore X.here hx rfl (hb hby hd) rfl hl k) K
theorem gDstoreN (X : Sd p l e R s m args below meth c n0 T h cells slots) (w : Cx Z own nm bytes maxL ret p s m meth c) {k : Fin 4} {x : UInt64} (hd : decode bytes pc = .ok (.dstore_n k, 1)) (l' : Array Slot) (hl : storeLocals ls k.val (.double x) = some l') (hn : pc + 1 = n) (K : Gl p e below s n0 P C S (T.setTop (mkF m n l' st))) : Gl p e below s n0 P C S (T.setTop (mkF m pc ls (.double x :: st))) := by
  obtain ⟨_, X, -⟩ := X; obtain ⟨hx, hby, hZ, hown, -⟩ := w; subst hn
  exact Gl.of (fun t k => XS.dstoreN X.here hx rfl (hb hby hd) rfl hl k) K
theorem gI2d (X : Sd p l e R s m args below meth c n0 T h cells slots) (w : Cx Z own nm bytes maxL ret p s m meth c) {x : Int32} {z : UInt64} (hd : decode bytes pc = .ok (.i2d, 1)) (hz : FP.i2d x = z) (hn : pc + 1 = n) (K : Gl p e below s n0 P C S (T.setTop (mkF m n ls (.double z :: st)))) : Gl p e below s n0 P C S (T.setTop (mkF m pc ls (.int x :: st))) := by
  obtain ⟨_, X, -⟩ := X; obtain ⟨hx, hby, hZ, hown, -⟩ := w; subst hn
  exact Gl.of (fun t k => XS.i2dS X.here hx rfl (hb hby hd) rfl hz k) K
theorem gL2d (X : Sd p l e R s m args below meth c n0 T h cells slots) (w : Cx Z own nm bytes maxL ret p s m meth c) {x : Int64} {z : UInt64} (hd : decode bytes pc = .ok (.l2d, 1)) (hz : FP.l2d x = z) (hn : pc + 1 = n) (K : Gl p e below s n0 P C S (T.setTop (mkF m n ls (.double z :: st)))) : Gl p e below s n0 P C S (T.setTop (mkF m pc ls (.long x :: st))) := by
  obtain ⟨_, X, -⟩ := X; obtain ⟨hx, hby, hZ, hown, -⟩ := w; subst hn
  exact Gl.of (fun t k => XS.l2dS X.here hx rfl (hb hby hd) rfl hz k) K
theorem gDneg (X : Sd p l e R s m args below meth c n0 T h cells slots) (w : Cx Z own nm bytes maxL ret p s m meth c) {x z : UInt64} (hd : decode bytes pc = .ok (.dneg, 1)) (hz : FP.dneg x = z) (hn : pc + 1 = n) (K : Gl p e below s n0 P C S (T.setTop (mkF m n ls (.double z :: st)))) : Gl p e below s n0 P C S (T.setTop (mkF m pc ls (.double x :: st))) := by
  obtain ⟨_, X, -⟩ := X; obtain ⟨hx, hby, hZ, hown, -⟩ := w; subst hn
  exact Gl.of (fun t k => XS.dnegS X.here hx rfl (hb hby hd) rfl hz k) K
theorem gDcmp (X : Sd p l e R s m args below meth c n0 T h cells slots) (w : Cx Z own nm bytes maxL ret p s m meth c) {x y : UInt64} {o : CmpOp} {z : Int32} (hd : decode bytes pc = .ok (.dcmp o, 1)) (hz : cmpValue (FP.dcmp x y) o = z) (hn : pc + 1 = n) (K : Gl p e below s n0 P C S (T.setTop (mkF m n ls (.int z :: st)))) : Gl p e below s n0 P C S (T.setTop (mkF m pc ls (.double y :: .double x :: st))) := by
  obtain ⟨_, X, -⟩ := X; obtain ⟨hx, hby, hZ, hown, -⟩ := w; subst hn
  exact Gl.of (fun t k => XS.dcmpS X.here hx rfl (hb hby hd) rfl hz k) K
theorem gDadd (X : Sd p l e R s m args below meth c n0 T h cells slots) (w : Cx Z own nm bytes maxL ret p s m meth c) {x y z : UInt64} (hd : decode bytes pc = .ok (.dadd, 1)) (hnn : Jvm.Free.Fl.NoNaN64 (FP.dadd x y)) (hz : FP.dadd x y = z) (hn : pc + 1 = n) (K : Gl p e below s n0 P C S (T.setTop (mkF m n ls (.double z :: st)))) : Gl p e below s n0 P C S (T.setTop (mkF m pc ls (.double y :: .double x :: st))) := by
  obtain ⟨_, X, -⟩ := X; obtain ⟨hx, hby, hZ, hown, -⟩ := w; subst hn
  exact Gl.of (fun t k => XS.daddS X.here hx rfl (hb hby hd) rfl hnn hz k) K
theorem gDsub (X : Sd p l e R s m args below meth c n0 T h cells slots) (w : Cx Z own nm bytes maxL ret p s m meth c) {x y z : UInt64} (hd : decode bytes pc = .ok (.dsub, 1)) (hnn : Jvm.Free.Fl.NoNaN64 (FP.dsub x y)) (hz : FP.dsub x y = z) (hn : pc + 1 = n) (K : Gl p e below s n0 P C S (T.setTop (mkF m n ls (.double z :: st)))) : Gl p e below s n0 P C S (T.setTop (mkF m pc ls (.double y :: .double x :: st))) := by
  obtain ⟨_, X, -⟩ := X; obtain ⟨hx, hby, hZ, hown, -⟩ := w; subst hn
  exact Gl.of (fun t k => XS.dsubS X.here hx rfl (hb hby hd) rfl hnn hz k) K
theorem gDmul (X : Sd p l e R s m args below meth c n0 T h cells slots) (w : Cx Z own nm bytes maxL ret p s m meth c) {x y z : UInt64} (hd : decode bytes pc = .ok (.dmul, 1)) (hnn : Jvm.Free.Fl.NoNaN64 (FP.dmul x y)) (hz : FP.dmul x y = z) (hn : pc + 1 = n) (K : Gl p e below s n0 P C S (T.setTop (mkF m n ls (.double z :: st)))) : Gl p e below s n0 P C S (T.setTop (mkF m pc ls (.double y :: .double x :: st))) := by
  obtain ⟨_, X, -⟩ := X; obtain ⟨hx, hby, hZ, hown, -⟩ := w; subst hn
  exact Gl.of (fun t k => XS.dmulS X.here hx rfl (hb hby hd) rfl hnn hz k) K
theorem gDdiv (X : Sd p l e R s m args below meth c n0 T h cells slots) (w : Cx Z own nm bytes maxL ret p s m meth c) {x y z : UInt64} (hd : decode bytes pc = .ok (.ddiv, 1)) (hnn : Jvm.Free.Fl.NoNaN64 (FP.ddiv x y)) (hz : FP.ddiv x y = z) (hn : pc + 1 = n) (K : Gl p e below s n0 P C S (T.setTop (mkF m n ls (.double z :: st)))) : Gl p e below s n0 P C S (T.setTop (mkF m pc ls (.double y :: .double x :: st))) := by
  obtain ⟨_, X, -⟩ := X; obtain ⟨hx, hby, hZ, hown, -⟩ := w; subst hn
  exact Gl.of (fun t k => XS.ddivS X.here hx rfl (hb hby hd) rfl hnn hz k) K
theorem gDconst0 (X : Sd p l e R s m args below meth c n0 T h cells slots) (w : Cx Z own nm bytes maxL ret p s m meth c) {z : UInt64} (hd : decode bytes pc = .ok (.dconst 0, 1)) (hz : FP.dconst0 = z) (hn : pc + 1 = n) (K : Gl p e below s n0 P C S (T.setTop (mkF m n ls (.double z :: st)))) : Gl p e below s n0 P C S (T.setTop (mkF m pc ls st)) := by
  obtain ⟨_, X, -⟩ := X; obtain ⟨hx, hby, hZ, hown, -⟩ := w; subst hn
  exact Gl.of (fun t k => XS.dconst0 X.here hx rfl (hb hby hd) hz k) K
theorem gDconst1 (X : Sd p l e R s m args below meth c n0 T h cells slots) (w : Cx Z own nm bytes maxL ret p s m meth c) {z : UInt64} (hd : decode bytes pc = .ok (.dconst 1, 1)) (hz : FP.dconst1 = z) (hn : pc + 1 = n) (K : Gl p e below s n0 P C S (T.setTop (mkF m n ls (.double z :: st)))) : Gl p e below s n0 P C S (T.setTop (mkF m pc ls st)) := by
  obtain ⟨_, X, -⟩ := X; obtain ⟨hx, hby, hZ, hown, -⟩ := w; subst hn
  exact Gl.of (fun t k => XS.dconst1 X.here hx rfl (hb hby hd) hz k) K
theorem gLdc2D (X : Sd p l e R s m args below meth c n0 T h cells slots) (w : Cx Z own nm bytes maxL ret p s m meth c) {i : Nat} {z : UInt64} (wc : (Jvm.Cond.constantDouble own i z).before a0 Z = true) (hd : decode bytes pc = .ok (.ldc2_w i, 3)) (hn : pc + 3 = n) (K : Gl p e below s n0 P C S (T.setTop (mkF m n ls (.double z :: st)))) : Gl p e below s n0 P C S (T.setTop (mkF m pc ls st)) := by
  obtain ⟨_, X, -⟩ := X; obtain ⟨hx, hby, hZ, hown, -⟩ := w; subst hn
  exact Gl.of (fun t k => X.ldc2DoubleC hx hown (mvT hZ wc (by simp [Cond.onTables, Cond.keepsFace, Cond.keeps, Cond.steady])) (g := mkF m pc ls st) rfl (hb hby hd) t k) K
theorem gIconst (X : Sd p l e R s m args below meth c n0 T h cells slots) (w : Cx Z own nm bytes maxL ret p s m meth c) {i : Int} {z : Int32} (hd : decode bytes pc = .ok (.iconst i, 1)) (hz : Int32.ofInt i = z) (hn : pc + 1 = n) (K : Gl p e below s n0 P C S (T.setTop (mkF m n ls (.int z :: st)))) : Gl p e below s n0 P C S (T.setTop (mkF m pc ls st)) := by
  obtain ⟨_, X, -⟩ := X; obtain ⟨hx, hby, hZ, hown, -⟩ := w; subst hn hz
  exact Gl.of (fun t k => XS.iconst X.here hx rfl (hb hby hd) k) K
theorem gBipush (X : Sd p l e R s m args below meth c n0 T h cells slots) (w : Cx Z own nm bytes maxL ret p s m meth c) {i : Int} {z : Int32} (hd : decode bytes pc = .ok (.bipush i, 2)) (hz : (Int8.ofInt i).toInt32 = z) (hn : pc + 2 = n) (K : Gl p e below s n0 P C S (T.setTop (mkF m n ls (.int z :: st)))) : Gl p e below s n0 P C S (T.setTop (mkF m pc ls st)) := by
  obtain ⟨_, X, -⟩ := X; obtain ⟨hx, hby, hZ, hown, -⟩ := w; subst hn hz
  exact Gl.of (fun t k => XS.bipush X.here hx rfl (hb hby hd) k) K
theorem gSipush (X : Sd p l e R s m args below meth c n0 T h cells slots) (w : Cx Z own nm bytes maxL ret p s m meth c) {i : Int} {z : Int32} (hd : decode bytes pc = .ok (.sipush i, 3)) (hz : (Int16.ofInt i).toInt32 = z) (hn : pc + 3 = n) (K : Gl p e below s n0 P C S (T.setTop (mkF m n ls (.int z :: st)))) : Gl p e below s n0 P C S (T.setTop (mkF m pc ls st)) := by
  obtain ⟨_, X, -⟩ := X; obtain ⟨hx, hby, hZ, hown, -⟩ := w; subst hn hz
  exact Gl.of (fun t k => XS.sipush X.here hx rfl (hb hby hd) k) K
theorem gLconst (X : Sd p l e R s m args below meth c n0 T h cells slots) (w : Cx Z own nm bytes maxL ret p s m meth c) {i : Fin 2} {z : Int64} (hd : decode bytes pc = .ok (.lconst i, 1)) (hz : Int64.ofNat i = z) (hn : pc + 1 = n) (K : Gl p e below s n0 P C S (T.setTop (mkF m n ls (.long z :: st)))) : Gl p e below s n0 P C S (T.setTop (mkF m pc ls st)) := by
  obtain ⟨_, X, -⟩ := X; obtain ⟨hx, hby, hZ, hown, -⟩ := w; subst hn hz
  exact Gl.of (fun t k => XT.lconst X.here hx rfl (hb hby hd) k) K
theorem gNull (X : Sd p l e R s m args below meth c n0 T h cells slots) (w : Cx Z own nm bytes maxL ret p s m meth c)  (hd : decode bytes pc = .ok (.aconst_null, 1)) (hn : pc + 1 = n) (K : Gl p e below s n0 P C S (T.setTop (mkF m n ls (.null :: st)))) : Gl p e below s n0 P C S (T.setTop (mkF m pc ls st)) := by
  obtain ⟨_, X, -⟩ := X; obtain ⟨hx, hby, hZ, hown, -⟩ := w; subst hn
  exact Gl.of (fun t k => XS.aconstNull X.here hx rfl (hb hby hd) k) K
theorem gLdc (X : Sd p l e R s m args below meth c n0 T h cells slots) (w : Cx Z own nm bytes maxL ret p s m meth c) {i : Nat} {z : Int32} (wc : (Jvm.Cond.constant own i z).before a0 Z = true) (hd : decode bytes pc = .ok (.ldc i, 2)) (hn : pc + 2 = n) (K : Gl p e below s n0 P C S (T.setTop (mkF m n ls (.int z :: st)))) : Gl p e below s n0 P C S (T.setTop (mkF m pc ls st)) := by
  obtain ⟨_, X, -⟩ := X; obtain ⟨hx, hby, hZ, hown, -⟩ := w; subst hn
  exact Gl.of (fun t k => X.ldcI hx hown (mvT hZ wc) rfl (hb hby hd) k) K
theorem gLdc2 (X : Sd p l e R s m args below meth c n0 T h cells slots) (w : Cx Z own nm bytes maxL ret p s m meth c) {i : Nat} {z : Int64} (wc : (Jvm.Cond.constantLong own i z).before a0 Z = true) (hd : decode bytes pc = .ok (.ldc2_w i, 3)) (hn : pc + 3 = n) (K : Gl p e below s n0 P C S (T.setTop (mkF m n ls (.long z :: st)))) : Gl p e below s n0 P C S (T.setTop (mkF m pc ls st)) := by
  obtain ⟨_, X, -⟩ := X; obtain ⟨hx, hby, hZ, hown, -⟩ := w; subst hn
  exact Gl.of (fun t k => X.ldc2J hx hown (mvT hZ wc) rfl (hb hby hd) k) K
theorem gIadd (X : Sd p l e R s m args below meth c n0 T h cells slots) (w : Cx Z own nm bytes maxL ret p s m meth c) {x y z : Int32} (hd : decode bytes pc = .ok (.iadd, 1)) (hz : x + y = z) (hn : pc + 1 = n) (K : Gl p e below s n0 P C S (T.setTop (mkF m n ls (.int z :: st)))) : Gl p e below s n0 P C S (T.setTop (mkF m pc ls (.int y :: .int x :: st))) := by
  obtain ⟨_, X, -⟩ := X; obtain ⟨hx, hby, hZ, hown, -⟩ := w; subst hn hz
  exact Gl.of (fun t k => XS.iadd X.here hx rfl (hb hby hd) rfl k) K
theorem gIsub (X : Sd p l e R s m args below meth c n0 T h cells slots) (w : Cx Z own nm bytes maxL ret p s m meth c) {x y z : Int32} (hd : decode bytes pc = .ok (.isub, 1)) (hz : x - y = z) (hn : pc + 1 = n) (K : Gl p e below s n0 P C S (T.setTop (mkF m n ls (.int z :: st)))) : Gl p e below s n0 P C S (T.setTop (mkF m pc ls (.int y :: .int x :: st))) := by
  obtain ⟨_, X, -⟩ := X; obtain ⟨hx, hby, hZ, hown, -⟩ := w; subst hn hz
  exact Gl.of (fun t k => XS.isub X.here hx rfl (hb hby hd) rfl k) K
theorem gImul (X : Sd p l e R s m args below meth c n0 T h cells slots) (w : Cx Z own nm bytes maxL ret p s m meth c) {x y z : Int32} (hd : decode bytes pc = .ok (.imul, 1)) (hz : x * y = z) (hn : pc + 1 = n) (K : Gl p e below s n0 P C S (T.setTop (mkF m n ls (.int z :: st)))) : Gl p e below s n0 P C S (T.setTop (mkF m pc ls (.int y :: .int x :: st))) := by
  obtain ⟨_, X, -⟩ := X; obtain ⟨hx, hby, hZ, hown, -⟩ := w; subst hn hz
  exact Gl.of (fun t k => XS.imul X.here hx rfl (hb hby hd) rfl k) K
theorem gIand (X : Sd p l e R s m args below meth c n0 T h cells slots) (w : Cx Z own nm bytes maxL ret p s m meth c) {x y z : Int32} (hd : decode bytes pc = .ok (.iand, 1)) (hz : x &&& y = z) (hn : pc + 1 = n) (K : Gl p e below s n0 P C S (T.setTop (mkF m n ls (.int z :: st)))) : Gl p e below s n0 P C S (T.setTop (mkF m pc ls (.int y :: .int x :: st))) := by
  obtain ⟨_, X, -⟩ := X; obtain ⟨hx, hby, hZ, hown, -⟩ := w; subst hn hz
  exact Gl.of (fun t k => XS.iand X.here hx rfl (hb hby hd) rfl k) K
theorem gIor (X : Sd p l e R s m args below meth c n0 T h cells slots) (w : Cx Z own nm bytes maxL ret p s m meth c) {x y z : Int32} (hd : decode bytes pc = .ok (.ior, 1)) (hz : x ||| y = z) (hn : pc + 1 = n) (K : Gl p e below s n0 P C S (T.setTop (mkF m n ls (.int z :: st)))) : Gl p e below s n0 P C S (T.setTop (mkF m pc ls (.int y :: .int x :: st))) := by
  obtain ⟨_, X, -⟩ := X; obtain ⟨hx, hby, hZ, hown, -⟩ := w; subst hn hz
  exact Gl.of (fun t k => XT.ior X.here hx rfl (hb hby hd) rfl k) K
theorem gIxor (X : Sd p l e R s m args below meth c n0 T h cells slots) (w : Cx Z own nm bytes maxL ret p s m meth c) {x y z : Int32} (hd : decode bytes pc = .ok (.ixor, 1)) (hz : x ^^^ y = z) (hn : pc + 1 = n) (K : Gl p e below s n0 P C S (T.setTop (mkF m n ls (.int z :: st)))) : Gl p e below s n0 P C S (T.setTop (mkF m pc ls (.int y :: .int x :: st))) := by
  obtain ⟨_, X, -⟩ := X; obtain ⟨hx, hby, hZ, hown, -⟩ := w; subst hn hz
  exact Gl.of (fun t k => XT.ixor X.here hx rfl (hb hby hd) rfl k) K
theorem gIshl (X : Sd p l e R s m args below meth c n0 T h cells slots) (w : Cx Z own nm bytes maxL ret p s m meth c) {x y z : Int32} (hd : decode bytes pc = .ok (.ishl, 1)) (hz : x <<< (y &&& 31) = z) (hn : pc + 1 = n) (K : Gl p e below s n0 P C S (T.setTop (mkF m n ls (.int z :: st)))) : Gl p e below s n0 P C S (T.setTop (mkF m pc ls (.int y :: .int x :: st))) := by
  obtain ⟨_, X, -⟩ := X; obtain ⟨hx, hby, hZ, hown, -⟩ := w; subst hn hz
  exact Gl.of (fun t k => XT.ishl X.here hx rfl (hb hby hd) rfl k) K
theorem gIshr (X : Sd p l e R s m args below meth c n0 T h cells slots) (w : Cx Z own nm bytes maxL ret p s m meth c) {x y z : Int32} (hd : decode bytes pc = .ok (.ishr, 1)) (hz : x >>> (y &&& 31) = z) (hn : pc + 1 = n) (K : Gl p e below s n0 P C S (T.setTop (mkF m n ls (.int z :: st)))) : Gl p e below s n0 P C S (T.setTop (mkF m pc ls (.int y :: .int x :: st))) := by
  obtain ⟨_, X, -⟩ := X; obtain ⟨hx, hby, hZ, hown, -⟩ := w; subst hn hz
  exact Gl.of (fun t k => XT.ishr X.here hx rfl (hb hby hd) rfl k) K
theorem gIushr (X : Sd p l e R s m args below meth c n0 T h cells slots) (w : Cx Z own nm bytes maxL ret p s m meth c) {x y z : Int32} (hd : decode bytes pc = .ok (.iushr, 1)) (hz : XT.ushr x y = z) (hn : pc + 1 = n) (K : Gl p e below s n0 P C S (T.setTop (mkF m n ls (.int z :: st)))) : Gl p e below s n0 P C S (T.setTop (mkF m pc ls (.int y :: .int x :: st))) := by
  obtain ⟨_, X, -⟩ := X; obtain ⟨hx, hby, hZ, hown, -⟩ := w; subst hn hz
  exact Gl.of (fun t k => XT.iushr X.here hx rfl (hb hby hd) rfl k) K
theorem gIdiv (X : Sd p l e R s m args below meth c n0 T h cells slots) (w : Cx Z own nm bytes maxL ret p s m meth c) {x y z : Int32} (hd : decode bytes pc = .ok (.idiv, 1)) (hy : y ≠ 0) (hz : x / y = z) (hn : pc + 1 = n) (K : Gl p e below s n0 P C S (T.setTop (mkF m n ls (.int z :: st)))) : Gl p e below s n0 P C S (T.setTop (mkF m pc ls (.int y :: .int x :: st))) := by
  obtain ⟨_, X, -⟩ := X; obtain ⟨hx, hby, hZ, hown, -⟩ := w; subst hn hz
  exact Gl.of (fun t k => XS.idiv X.here hx rfl (hb hby hd) rfl hy k) K
theorem gIrem (X : Sd p l e R s m args below meth c n0 T h cells slots) (w : Cx Z own nm bytes maxL ret p s m meth c) {x y z : Int32} (hd : decode bytes pc = .ok (.irem, 1)) (hy : y ≠ 0) (hz : x % y = z) (hn : pc + 1 = n) (K : Gl p e below s n0 P C S (T.setTop (mkF m n ls (.int z :: st)))) : Gl p e below s n0 P C S (T.setTop (mkF m pc ls (.int y :: .int x :: st))) := by
  obtain ⟨_, X, -⟩ := X; obtain ⟨hx, hby, hZ, hown, -⟩ := w; subst hn hz
  exact Gl.of (fun t k => iremM X hx rfl (hb hby hd) rfl hy k) K
theorem gIneg (X : Sd p l e R s m args below meth c n0 T h cells slots) (w : Cx Z own nm bytes maxL ret p s m meth c) {x z : Int32} (hd : decode bytes pc = .ok (.ineg, 1)) (hz : -x = z) (hn : pc + 1 = n) (K : Gl p e below s n0 P C S (T.setTop (mkF m n ls (.int z :: st)))) : Gl p e below s n0 P C S (T.setTop (mkF m pc ls (.int x :: st))) := by
  obtain ⟨_, X, -⟩ := X; obtain ⟨hx, hby, hZ, hown, -⟩ := w; subst hn hz
  exact Gl.of (fun t k => XS.ineg X.here hx rfl (hb hby hd) rfl k) K
theorem gLadd (X : Sd p l e R s m args below meth c n0 T h cells slots) (w : Cx Z own nm bytes maxL ret p s m meth c) {x y z : Int64} (hd : decode bytes pc = .ok (.ladd, 1)) (hz : x + y = z) (hn : pc + 1 = n) (K : Gl p e below s n0 P C S (T.setTop (mkF m n ls (.long z :: st)))) : Gl p e below s n0 P C S (T.setTop (mkF m pc ls (.long y :: .long x :: st))) := by
  obtain ⟨_, X, -⟩ := X; obtain ⟨hx, hby, hZ, hown, -⟩ := w; subst hn hz
  exact Gl.of (fun t k => XT.ladd X.here hx rfl (hb hby hd) rfl k) K
theorem gLsub (X : Sd p l e R s m args below meth c n0 T h cells slots) (w : Cx Z own nm bytes maxL ret p s m meth c) {x y z : Int64} (hd : decode bytes pc = .ok (.lsub, 1)) (hz : x - y = z) (hn : pc + 1 = n) (K : Gl p e below s n0 P C S (T.setTop (mkF m n ls (.long z :: st)))) : Gl p e below s n0 P C S (T.setTop (mkF m pc ls (.long y :: .long x :: st))) := by
  obtain ⟨_, X, -⟩ := X; obtain ⟨hx, hby, hZ, hown, -⟩ := w; subst hn hz
  exact Gl.of (fun t k => XT.lsub X.here hx rfl (hb hby hd) rfl k) K
theorem gLmul (X : Sd p l e R s m args below meth c n0 T h cells slots) (w : Cx Z own nm bytes maxL ret p s m meth c) {x y z : Int64} (hd : decode bytes pc = .ok (.lmul, 1)) (hz : x * y = z) (hn : pc + 1 = n) (K : Gl p e below s n0 P C S (T.setTop (mkF m n ls (.long z :: st)))) : Gl p e below s n0 P C S (T.setTop (mkF m pc ls (.long y :: .long x :: st))) := by
  obtain ⟨_, X, -⟩ := X; obtain ⟨hx, hby, hZ, hown, -⟩ := w; subst hn hz
  exact Gl.of (fun t k => XT.lmul X.here hx rfl (hb hby hd) rfl k) K
theorem gLand (X : Sd p l e R s m args below meth c n0 T h cells slots) (w : Cx Z own nm bytes maxL ret p s m meth c) {x y z : Int64} (hd : decode bytes pc = .ok (.land, 1)) (hz : x &&& y = z) (hn : pc + 1 = n) (K : Gl p e below s n0 P C S (T.setTop (mkF m n ls (.long z :: st)))) : Gl p e below s n0 P C S (T.setTop (mkF m pc ls (.long y :: .long x :: st))) := by
  obtain ⟨_, X, -⟩ := X; obtain ⟨hx, hby, hZ, hown, -⟩ := w; subst hn hz
  exact Gl.of (fun t k => XT.land X.here hx rfl (hb hby hd) rfl k) K
theorem gLor (X : Sd p l e R s m args below meth c n0 T h cells slots) (w : Cx Z own nm bytes maxL ret p s m meth c) {x y z : Int64} (hd : decode bytes pc = .ok (.lor, 1)) (hz : x ||| y = z) (hn : pc + 1 = n) (K : Gl p e below s n0 P C S (T.setTop (mkF m n ls (.long z :: st)))) : Gl p e below s n0 P C S (T.setTop (mkF m pc ls (.long y :: .long x :: st))) := by
  obtain ⟨_, X, -⟩ := X; obtain ⟨hx, hby, hZ, hown, -⟩ := w; subst hn hz
  exact Gl.of (fun t k => XT.lor X.here hx rfl (hb hby hd) rfl k) K
theorem gLxor (X : Sd p l e R s m args below meth c n0 T h cells slots) (w : Cx Z own nm bytes maxL ret p s m meth c) {x y z : Int64} (hd : decode bytes pc = .ok (.lxor, 1)) (hz : x ^^^ y = z) (hn : pc + 1 = n) (K : Gl p e below s n0 P C S (T.setTop (mkF m n ls (.long z :: st)))) : Gl p e below s n0 P C S (T.setTop (mkF m pc ls (.long y :: .long x :: st))) := by
  obtain ⟨_, X, -⟩ := X; obtain ⟨hx, hby, hZ, hown, -⟩ := w; subst hn hz
  exact Gl.of (fun t k => XT.lxor X.here hx rfl (hb hby hd) rfl k) K
theorem gLshl (X : Sd p l e R s m args below meth c n0 T h cells slots) (w : Cx Z own nm bytes maxL ret p s m meth c) {x z : Int64} {y : Int32} (hd : decode bytes pc = .ok (.lshl, 1)) (hz : x <<< (y.toInt64 &&& 63) = z) (hn : pc + 1 = n) (K : Gl p e below s n0 P C S (T.setTop (mkF m n ls (.long z :: st)))) : Gl p e below s n0 P C S (T.setTop (mkF m pc ls (.int y :: .long x :: st))) := by
  obtain ⟨_, X, -⟩ := X; obtain ⟨hx, hby, hZ, hown, -⟩ := w; subst hn hz
  exact Gl.of (fun t k => XT.lshl X.here hx rfl (hb hby hd) rfl k) K
theorem gLshr (X : Sd p l e R s m args below meth c n0 T h cells slots) (w : Cx Z own nm bytes maxL ret p s m meth c) {x z : Int64} {y : Int32} (hd : decode bytes pc = .ok (.lshr, 1)) (hz : x >>> (y.toInt64 &&& 63) = z) (hn : pc + 1 = n) (K : Gl p e below s n0 P C S (T.setTop (mkF m n ls (.long z :: st)))) : Gl p e below s n0 P C S (T.setTop (mkF m pc ls (.int y :: .long x :: st))) := by
  obtain ⟨_, X, -⟩ := X; obtain ⟨hx, hby, hZ, hown, -⟩ := w; subst hn hz
  exact Gl.of (fun t k => XT.lshr X.here hx rfl (hb hby hd) rfl k) K
theorem gLushr (X : Sd p l e R s m args below meth c n0 T h cells slots) (w : Cx Z own nm bytes maxL ret p s m meth c) {x z : Int64} {y : Int32} (hd : decode bytes pc = .ok (.lushr, 1)) (hz : XT.ushrL x y = z) (hn : pc + 1 = n) (K : Gl p e below s n0 P C S (T.setTop (mkF m n ls (.long z :: st)))) : Gl p e below s n0 P C S (T.setTop (mkF m pc ls (.int y :: .long x :: st))) := by
  obtain ⟨_, X, -⟩ := X; obtain ⟨hx, hby, hZ, hown, -⟩ := w; subst hn hz
  exact Gl.of (fun t k => XT.lushr X.here hx rfl (hb hby hd) rfl k) K
theorem gLneg (X : Sd p l e R s m args below meth c n0 T h cells slots) (w : Cx Z own nm bytes maxL ret p s m meth c) {x z : Int64} (hd : decode bytes pc = .ok (.lneg, 1)) (hz : -x = z) (hn : pc + 1 = n) (K : Gl p e below s n0 P C S (T.setTop (mkF m n ls (.long z :: st)))) : Gl p e below s n0 P C S (T.setTop (mkF m pc ls (.long x :: st))) := by
  obtain ⟨_, X, -⟩ := X; obtain ⟨hx, hby, hZ, hown, -⟩ := w; subst hn hz
  exact Gl.of (fun t k => XT.lneg X.here hx rfl (hb hby hd) rfl k) K
theorem gLdiv (X : Sd p l e R s m args below meth c n0 T h cells slots) (w : Cx Z own nm bytes maxL ret p s m meth c) {x y z : Int64} (hd : decode bytes pc = .ok (.ldiv, 1)) (hy : y ≠ 0) (hz : x / y = z) (hn : pc + 1 = n) (K : Gl p e below s n0 P C S (T.setTop (mkF m n ls (.long z :: st)))) : Gl p e below s n0 P C S (T.setTop (mkF m pc ls (.long y :: .long x :: st))) := by
  obtain ⟨_, X, -⟩ := X; obtain ⟨hx, hby, hZ, hown, -⟩ := w; subst hn hz
  exact Gl.of (fun t k => XT.ldiv X.here hx rfl (hb hby hd) rfl hy k) K
theorem gLrem (X : Sd p l e R s m args below meth c n0 T h cells slots) (w : Cx Z own nm bytes maxL ret p s m meth c) {x y z : Int64} (hd : decode bytes pc = .ok (.lrem, 1)) (hy : y ≠ 0) (hz : x % y = z) (hn : pc + 1 = n) (K : Gl p e below s n0 P C S (T.setTop (mkF m n ls (.long z :: st)))) : Gl p e below s n0 P C S (T.setTop (mkF m pc ls (.long y :: .long x :: st))) := by
  obtain ⟨_, X, -⟩ := X; obtain ⟨hx, hby, hZ, hown, -⟩ := w; subst hn; rw [← lrem_mod] at hz; subst hz
  exact Gl.of (fun t k => XT.lrem X.here hx rfl (hb hby hd) rfl hy k) K
theorem gLcmp (X : Sd p l e R s m args below meth c n0 T h cells slots) (w : Cx Z own nm bytes maxL ret p s m meth c) {x y : Int64} {z : Int32} (hd : decode bytes pc = .ok (.lcmp, 1)) (hz : XT.cmpL x y = z) (hn : pc + 1 = n) (K : Gl p e below s n0 P C S (T.setTop (mkF m n ls (.int z :: st)))) : Gl p e below s n0 P C S (T.setTop (mkF m pc ls (.long y :: .long x :: st))) := by
  obtain ⟨_, X, -⟩ := X; obtain ⟨hx, hby, hZ, hown, -⟩ := w; subst hn hz
  exact Gl.of (fun t k => XT.lcmp X.here hx rfl (hb hby hd) rfl k) K
theorem gI2l (X : Sd p l e R s m args below meth c n0 T h cells slots) (w : Cx Z own nm bytes maxL ret p s m meth c) {x : Int32} {z : Int64} (hd : decode bytes pc = .ok (.i2l, 1)) (hz : x.toInt64 = z) (hn : pc + 1 = n) (K : Gl p e below s n0 P C S (T.setTop (mkF m n ls (.long z :: st)))) : Gl p e below s n0 P C S (T.setTop (mkF m pc ls (.int x :: st))) := by
  obtain ⟨_, X, -⟩ := X; obtain ⟨hx, hby, hZ, hown, -⟩ := w; subst hn hz
  exact Gl.of (fun t k => XT.i2l X.here hx rfl (hb hby hd) rfl k) K
theorem gL2i (X : Sd p l e R s m args below meth c n0 T h cells slots) (w : Cx Z own nm bytes maxL ret p s m meth c) {x : Int64} {z : Int32} (hd : decode bytes pc = .ok (.l2i, 1)) (hz : x.toInt32 = z) (hn : pc + 1 = n) (K : Gl p e below s n0 P C S (T.setTop (mkF m n ls (.int z :: st)))) : Gl p e below s n0 P C S (T.setTop (mkF m pc ls (.long x :: st))) := by
  obtain ⟨_, X, -⟩ := X; obtain ⟨hx, hby, hZ, hown, -⟩ := w; subst hn hz
  exact Gl.of (fun t k => XT.l2i X.here hx rfl (hb hby hd) rfl k) K
theorem gI2b (X : Sd p l e R s m args below meth c n0 T h cells slots) (w : Cx Z own nm bytes maxL ret p s m meth c) {x : Int32} {z : Int32} (hd : decode bytes pc = .ok (.i2b, 1)) (hz : x.toInt8.toInt32 = z) (hn : pc + 1 = n) (K : Gl p e below s n0 P C S (T.setTop (mkF m n ls (.int z :: st)))) : Gl p e below s n0 P C S (T.setTop (mkF m pc ls (.int x :: st))) := by
  obtain ⟨_, X, -⟩ := X; obtain ⟨hx, hby, hZ, hown, -⟩ := w; subst hn hz
  exact Gl.of (fun t k => XT.i2b X.here hx rfl (hb hby hd) rfl k) K
theorem gI2c (X : Sd p l e R s m args below meth c n0 T h cells slots) (w : Cx Z own nm bytes maxL ret p s m meth c) {x : Int32} {z : Int32} (hd : decode bytes pc = .ok (.i2c, 1)) (hz : x.toUInt32.toUInt16.toUInt32.toInt32 = z) (hn : pc + 1 = n) (K : Gl p e below s n0 P C S (T.setTop (mkF m n ls (.int z :: st)))) : Gl p e below s n0 P C S (T.setTop (mkF m pc ls (.int x :: st))) := by
  obtain ⟨_, X, -⟩ := X; obtain ⟨hx, hby, hZ, hown, -⟩ := w; subst hn hz
  exact Gl.of (fun t k => XT.i2c X.here hx rfl (hb hby hd) rfl k) K
theorem gI2s (X : Sd p l e R s m args below meth c n0 T h cells slots) (w : Cx Z own nm bytes maxL ret p s m meth c) {x : Int32} {z : Int32} (hd : decode bytes pc = .ok (.i2s, 1)) (hz : x.toInt16.toInt32 = z) (hn : pc + 1 = n) (K : Gl p e below s n0 P C S (T.setTop (mkF m n ls (.int z :: st)))) : Gl p e below s n0 P C S (T.setTop (mkF m pc ls (.int x :: st))) := by
  obtain ⟨_, X, -⟩ := X; obtain ⟨hx, hby, hZ, hown, -⟩ := w; subst hn hz
  exact Gl.of (fun t k => XT.i2s X.here hx rfl (hb hby hd) rfl k) K
theorem gIstore (X : Sd p l e R s m args below meth c n0 T h cells slots) (w : Cx Z own nm bytes maxL ret p s m meth c) {k : Nat} {x : Int32} (hd : decode bytes pc = .ok (.istore k, 2)) (l' : Array Slot) (hl : storeLocals ls k (.int x) = some l') (hn : pc + 2 = n) (K : Gl p e below s n0 P C S (T.setTop (mkF m n l' st))) : Gl p e below s n0 P C S (T.setTop (mkF m pc ls (.int x :: st))) := by
  obtain ⟨_, X, -⟩ := X; obtain ⟨hx, hby, hZ, hown, -⟩ := w; subst hn
  exact Gl.of (fun t k => XS.istore X.here hx rfl (hb hby hd) rfl hl k) K
theorem gIstoreN (X : Sd p l e R s m args below meth c n0 T h cells slots) (w : Cx Z own nm bytes maxL ret p s m meth c) {k : Fin 4} {x : Int32} (hd : decode bytes pc = .ok (.istore_n k, 1)) (l' : Array Slot) (hl : storeLocals ls k.val (.int x) = some l') (hn : pc + 1 = n) (K : Gl p e below s n0 P C S (T.setTop (mkF m n l' st))) : Gl p e below s n0 P C S (T.setTop (mkF m pc ls (.int x :: st))) := by
  obtain ⟨_, X, -⟩ := X; obtain ⟨hx, hby, hZ, hown, -⟩ := w; subst hn
  exact Gl.of (fun t k => XS.istoreN X.here hx rfl (hb hby hd) rfl hl k) K
theorem gJstore (X : Sd p l e R s m args below meth c n0 T h cells slots) (w : Cx Z own nm bytes maxL ret p s m meth c) {k : Nat} {x : Int64} (hd : decode bytes pc = .ok (.lstore k, 2)) (l' : Array Slot) (hl : storeLocals ls k (.long x) = some l') (hn : pc + 2 = n) (K : Gl p e below s n0 P C S (T.setTop (mkF m n l' st))) : Gl p e below s n0 P C S (T.setTop (mkF m pc ls (.long x :: st))) := by
  obtain ⟨_, X, -⟩ := X; obtain ⟨hx, hby, hZ, hown, -⟩ := w; subst hn
  exact Gl.of (fun t k => XT.lstore X.here hx rfl (hb hby hd) rfl hl k) K
theorem gJstoreN (X : Sd p l e R s m args below meth c n0 T h cells slots) (w : Cx Z own nm bytes maxL ret p s m meth c) {k : Fin 4} {x : Int64} (hd : decode bytes pc = .ok (.lstore_n k, 1)) (l' : Array Slot) (hl : storeLocals ls k.val (.long x) = some l') (hn : pc + 1 = n) (K : Gl p e below s n0 P C S (T.setTop (mkF m n l' st))) : Gl p e below s n0 P C S (T.setTop (mkF m pc ls (.long x :: st))) := by
  obtain ⟨_, X, -⟩ := X; obtain ⟨hx, hby, hZ, hown, -⟩ := w; subst hn
  exact Gl.of (fun t k => XT.lstoreN X.here hx rfl (hb hby hd) rfl hl k) K
theorem gAstore (X : Sd p l e R s m args below meth c n0 T h cells slots) (w : Cx Z own nm bytes maxL ret p s m meth c) {k : Nat} {x : Value} (hd : decode bytes pc = .ok (.astore k, 2)) (hv : x.isRef = true) (l' : Array Slot) (hl : storeLocals ls k x = some l') (hn : pc + 2 = n) (K : Gl p e below s n0 P C S (T.setTop (mkF m n l' st))) : Gl p e below s n0 P C S (T.setTop (mkF m pc ls (x :: st))) := by
  obtain ⟨_, X, -⟩ := X; obtain ⟨hx, hby, hZ, hown, -⟩ := w; subst hn
  exact Gl.of (fun t k => XS.astore X.here hx rfl (hb hby hd) rfl hv hl k) K
theorem gAstoreN (X : Sd p l e R s m args below meth c n0 T h cells slots) (w : Cx Z own nm bytes maxL ret p s m meth c) {k : Fin 4} {x : Value} (hd : decode bytes pc = .ok (.astore_n k, 1)) (hv : x.isRef = true) (l' : Array Slot) (hl : storeLocals ls k.val x = some l') (hn : pc + 1 = n) (K : Gl p e below s n0 P C S (T.setTop (mkF m n l' st))) : Gl p e below s n0 P C S (T.setTop (mkF m pc ls (x :: st))) := by
  obtain ⟨_, X, -⟩ := X; obtain ⟨hx, hby, hZ, hown, -⟩ := w; subst hn
  exact Gl.of (fun t k => XS.astoreN X.here hx rfl (hb hby hd) rfl hv hl k) K
theorem gIinc (X : Sd p l e R s m args below meth c n0 T h cells slots) (w : Cx Z own nm bytes maxL ret p s m meth c) {k : Nat} {i : Int} {x z : Int32} (hd : decode bytes pc = .ok (.iinc k i, 3)) (hl0 : ls[k]? = some (.val (.int x))) (hz : x + Int32.ofInt i = z) (l' : Array Slot) (hl : storeLocals ls k (.int z) = some l') (hn : pc + 3 = n) (K : Gl p e below s n0 P C S (T.setTop (mkF m n l' st))) : Gl p e below s n0 P C S (T.setTop (mkF m pc ls st)) := by
  obtain ⟨_, X, -⟩ := X; obtain ⟨hx, hby, hZ, hown, -⟩ := w; subst hn hz
  exact Gl.of (fun t k => XS.iinc X.here hx rfl (hb hby hd) hl0 hl k) K
theorem gDup (X : Sd p l e R s m args below meth c n0 T h cells slots) (w : Cx Z own nm bytes maxL ret p s m meth c) {x : Value} (hd : decode bytes pc = .ok (.dup, 1)) (hc : x.category = 1) (hn : pc + 1 = n) (K : Gl p e below s n0 P C S (T.setTop (mkF m n ls (x :: x :: st)))) : Gl p e below s n0 P C S (T.setTop (mkF m pc ls (x :: st))) := by
  obtain ⟨_, X, -⟩ := X; obtain ⟨hx, hby, hZ, hown, -⟩ := w; subst hn
  exact Gl.of (fun t k => XS.dup X.here hx rfl (hb hby hd) rfl hc k) K
theorem gPop (X : Sd p l e R s m args below meth c n0 T h cells slots) (w : Cx Z own nm bytes maxL ret p s m meth c) {x : Value} (hd : decode bytes pc = .ok (.pop, 1)) (hc : x.category = 1) (hn : pc + 1 = n) (K : Gl p e below s n0 P C S (T.setTop (mkF m n ls st))) : Gl p e below s n0 P C S (T.setTop (mkF m pc ls (x :: st))) := by
  obtain ⟨_, X, -⟩ := X; obtain ⟨hx, hby, hZ, hown, -⟩ := w; subst hn
  exact Gl.of (fun t k => XT.pop X.here hx rfl (hb hby hd) rfl hc k) K
theorem gDupX1 (X : Sd p l e R s m args below meth c n0 T h cells slots) (w : Cx Z own nm bytes maxL ret p s m meth c) {x y : Value} (hd : decode bytes pc = .ok (.dup_x1, 1)) (hc : x.category = 1) (hc' : y.category = 1) (hn : pc + 1 = n) (K : Gl p e below s n0 P C S (T.setTop (mkF m n ls (x :: y :: x :: st)))) : Gl p e below s n0 P C S (T.setTop (mkF m pc ls (x :: y :: st))) := by
  obtain ⟨_, X, -⟩ := X; obtain ⟨hx, hby, hZ, hown, -⟩ := w; subst hn
  exact Gl.of (fun t k => XT.dupX1 X.here hx rfl (hb hby hd) rfl hc hc' k) K
theorem gDup2 (X : Sd p l e R s m args below meth c n0 T h cells slots) (w : Cx Z own nm bytes maxL ret p s m meth c) {x y : Value} (hd : decode bytes pc = .ok (.dup2, 1)) (hc : x.category = 1) (hc' : y.category = 1) (hn : pc + 1 = n) (K : Gl p e below s n0 P C S (T.setTop (mkF m n ls (x :: y :: x :: y :: st)))) : Gl p e below s n0 P C S (T.setTop (mkF m pc ls (x :: y :: st))) := by
  obtain ⟨_, X, -⟩ := X; obtain ⟨hx, hby, hZ, hown, -⟩ := w; subst hn
  exact Gl.of (fun t k => XT.dup2 X.here hx rfl (hb hby hd) rfl hc hc' k) K
theorem gDup2L (X : Sd p l e R s m args below meth c n0 T h cells slots) (w : Cx Z own nm bytes maxL ret p s m meth c) {x : Int64} (hd : decode bytes pc = .ok (.dup2, 1)) (hn : pc + 1 = n) (K : Gl p e below s n0 P C S (T.setTop (mkF m n ls (.long x :: .long x :: st)))) : Gl p e below s n0 P C S (T.setTop (mkF m pc ls (.long x :: st))) := by
  obtain ⟨_, X, -⟩ := X; obtain ⟨hx, hby, hZ, hown, -⟩ := w; subst hn
  exact Gl.of (fun t k => XT.dup2L X.here hx rfl (hb hby hd) rfl k) K
theorem gGoto (X : Sd p l e R s m args below meth c n0 T h cells slots) (w : Cx Z own nm bytes maxL ret p s m meth c) {o : Int} (hd : decode bytes pc = .ok (.goto o, 3)) (ho : 0 ≤ (pc : Int) + o) (hp : ((pc : Int) + o).toNat = n) (K : Gl p e below s n0 P C S (T.setTop (mkF m n ls st))) : Gl p e below s n0 P C S (T.setTop (mkF m pc ls st)) := by
  obtain ⟨_, X, -⟩ := X; obtain ⟨hx, hby, hZ, hown, -⟩ := w; 
  exact Gl.of (fun t k => XS.goto X.here hx rfl rfl (hb hby hd) ho hp k) K
theorem gIf_eq (X : Sd p l e R s m args below meth c n0 T h cells slots) (w : Cx Z own nm bytes maxL ret p s m meth c) {x : Int32} {o : Int} (hd : decode bytes pc = .ok (.ifCond .eq o, 3)) (ho : 0 ≤ (pc : Int) + o) {n' : Nat} (hp : ((pc : Int) + o).toNat = n) (hn : pc + 3 = n') (K1 : x = (0 : Int32) ∧ x.toInt = 0 → Gl p e below s n0 P C S (T.setTop (mkF m n ls st))) (K2 : ¬ x = (0 : Int32) ∧ ¬ x.toInt = 0 → Gl p e below s n0 P C S (T.setTop (mkF m n' ls st))) : Gl p e below s n0 P C S (T.setTop (mkF m pc ls (.int x :: st))) := by
  obtain ⟨_, X, -⟩ := X; obtain ⟨hx, hby, -⟩ := w; subst hn
  by_cases q : x = (0 : Int32)
  · exact Gl.of (fun t k => XS.ifYes X.here hx rfl rfl (hb hby hd) rfl (XT.i0_eq_t q) ho hp k) (K1 ⟨q, by rw [q]; rfl⟩)
  · exact Gl.of (fun t k => XS.ifNo X.here hx rfl (hb hby hd) rfl (XT.i0_eq_f q) k) (K2 ⟨q, fun q' => q (Int32.toInt_inj.mp q')⟩)
theorem gIcmp_eq (X : Sd p l e R s m args below meth c n0 T h cells slots) (w : Cx Z own nm bytes maxL ret p s m meth c) {x y : Int32} {o : Int} (hd : decode bytes pc = .ok (.if_icmp .eq o, 3)) (ho : 0 ≤ (pc : Int) + o) {n' : Nat} (hp : ((pc : Int) + o).toNat = n) (hn : pc + 3 = n') (K1 : x = y ∧ x.toInt = y.toInt → Gl p e below s n0 P C S (T.setTop (mkF m n ls st))) (K2 : ¬ x = y ∧ ¬ x.toInt = y.toInt → Gl p e below s n0 P C S (T.setTop (mkF m n' ls st))) : Gl p e below s n0 P C S (T.setTop (mkF m pc ls (.int y :: .int x :: st))) := by
  obtain ⟨_, X, -⟩ := X; obtain ⟨hx, hby, -⟩ := w; subst hn
  by_cases q : x = y
  · exact Gl.of (fun t k => XS.icmpYes X.here hx rfl rfl (hb hby hd) rfl (XT.ii_eq_t q) ho hp k) (K1 ⟨q, by rw [q]⟩)
  · exact Gl.of (fun t k => XS.icmpNo X.here hx rfl (hb hby hd) rfl (XT.ii_eq_f q) k) (K2 ⟨q, fun q' => q (Int32.toInt_inj.mp q')⟩)
theorem gIfL_eq (X : Sd p l e R s m args below meth c n0 T h cells slots) (w : Cx Z own nm bytes maxL ret p s m meth c) {x y : Int64} {o : Int} (hd : decode bytes pc = .ok (.ifCond .eq o, 3)) (ho : 0 ≤ (pc : Int) + o) {n' : Nat} (hp : ((pc : Int) + o).toNat = n) (hn : pc + 3 = n') (K1 : x = y ∧ x.toInt = y.toInt → Gl p e below s n0 P C S (T.setTop (mkF m n ls st))) (K2 : ¬ x = y ∧ ¬ x.toInt = y.toInt → Gl p e below s n0 P C S (T.setTop (mkF m n' ls st))) : Gl p e below s n0 P C S (T.setTop (mkF m pc ls (.int (XT.cmpL x y) :: st))) := by
  obtain ⟨_, X, -⟩ := X; obtain ⟨hx, hby, -⟩ := w; subst hn
  by_cases q : x = y
  · exact Gl.of (fun t k => XS.ifYes X.here hx rfl rfl (hb hby hd) rfl (XT.ll_eq_t q) ho hp k) (K1 ⟨q, by rw [q]⟩)
  · exact Gl.of (fun t k => XS.ifNo X.here hx rfl (hb hby hd) rfl (XT.ll_eq_f q) k) (K2 ⟨q, fun q' => q (Int64.toInt_inj.mp q')⟩)
theorem gIf_ne (X : Sd p l e R s m args below meth c n0 T h cells slots) (w : Cx Z own nm bytes maxL ret p s m meth c) {x : Int32} {o : Int} (hd : decode bytes pc = .ok (.ifCond .ne o, 3)) (ho : 0 ≤ (pc : Int) + o) {n' : Nat} (hp : ((pc : Int) + o).toNat = n) (hn : pc + 3 = n') (K1 : ¬ x = (0 : Int32) ∧ ¬ x.toInt = 0 → Gl p e below s n0 P C S (T.setTop (mkF m n ls st))) (K2 : x = (0 : Int32) ∧ x.toInt = 0 → Gl p e below s n0 P C S (T.setTop (mkF m n' ls st))) : Gl p e below s n0 P C S (T.setTop (mkF m pc ls (.int x :: st))) := by
  obtain ⟨_, X, -⟩ := X; obtain ⟨hx, hby, -⟩ := w; subst hn
  by_cases q : x = (0 : Int32)
  · exact Gl.of (fun t k => XS.ifNo X.here hx rfl (hb hby hd) rfl (XT.i0_ne_f q) k) (K2 ⟨q, by rw [q]; rfl⟩)
  · exact Gl.of (fun t k => XS.ifYes X.here hx rfl rfl (hb hby hd) rfl (XT.i0_ne_t q) ho hp k) (K1 ⟨q, fun q' => q (Int32.toInt_inj.mp q')⟩)
theorem gIcmp_ne (X : Sd p l e R s m args below meth c n0 T h cells slots) (w : Cx Z own nm bytes maxL ret p s m meth c) {x y : Int32} {o : Int} (hd : decode bytes pc = .ok (.if_icmp .ne o, 3)) (ho : 0 ≤ (pc : Int) + o) {n' : Nat} (hp : ((pc : Int) + o).toNat = n) (hn : pc + 3 = n') (K1 : ¬ x = y ∧ ¬ x.toInt = y.toInt → Gl p e below s n0 P C S (T.setTop (mkF m n ls st))) (K2 : x = y ∧ x.toInt = y.toInt → Gl p e below s n0 P C S (T.setTop (mkF m n' ls st))) : Gl p e below s n0 P C S (T.setTop (mkF m pc ls (.int y :: .int x :: st))) := by
  obtain ⟨_, X, -⟩ := X; obtain ⟨hx, hby, -⟩ := w; subst hn
  by_cases q : x = y
  · exact Gl.of (fun t k => XS.icmpNo X.here hx rfl (hb hby hd) rfl (XT.ii_ne_f q) k) (K2 ⟨q, by rw [q]⟩)
  · exact Gl.of (fun t k => XS.icmpYes X.here hx rfl rfl (hb hby hd) rfl (XT.ii_ne_t q) ho hp k) (K1 ⟨q, fun q' => q (Int32.toInt_inj.mp q')⟩)
theorem gIfL_ne (X : Sd p l e R s m args below meth c n0 T h cells slots) (w : Cx Z own nm bytes maxL ret p s m meth c) {x y : Int64} {o : Int} (hd : decode bytes pc = .ok (.ifCond .ne o, 3)) (ho : 0 ≤ (pc : Int) + o) {n' : Nat} (hp : ((pc : Int) + o).toNat = n) (hn : pc + 3 = n') (K1 : ¬ x = y ∧ ¬ x.toInt = y.toInt → Gl p e below s n0 P C S (T.setTop (mkF m n ls st))) (K2 : x = y ∧ x.toInt = y.toInt → Gl p e below s n0 P C S (T.setTop (mkF m n' ls st))) : Gl p e below s n0 P C S (T.setTop (mkF m pc ls (.int (XT.cmpL x y) :: st))) := by
  obtain ⟨_, X, -⟩ := X; obtain ⟨hx, hby, -⟩ := w; subst hn
  by_cases q : x = y
  · exact Gl.of (fun t k => XS.ifNo X.here hx rfl (hb hby hd) rfl (XT.ll_ne_f q) k) (K2 ⟨q, by rw [q]⟩)
  · exact Gl.of (fun t k => XS.ifYes X.here hx rfl rfl (hb hby hd) rfl (XT.ll_ne_t q) ho hp k) (K1 ⟨q, fun q' => q (Int64.toInt_inj.mp q')⟩)
theorem gIf_lt (X : Sd p l e R s m args below meth c n0 T h cells slots) (w : Cx Z own nm bytes maxL ret p s m meth c) {x : Int32} {o : Int} (hd : decode bytes pc = .ok (.ifCond .lt o, 3)) (ho : 0 ≤ (pc : Int) + o) {n' : Nat} (hp : ((pc : Int) + o).toNat = n) (hn : pc + 3 = n') (K1 : x.toInt < 0 → Gl p e below s n0 P C S (T.setTop (mkF m n ls st))) (K2 : 0 ≤ x.toInt → Gl p e below s n0 P C S (T.setTop (mkF m n' ls st))) : Gl p e below s n0 P C S (T.setTop (mkF m pc ls (.int x :: st))) := by
  obtain ⟨_, X, -⟩ := X; obtain ⟨hx, hby, -⟩ := w; subst hn
  by_cases q : x < (0 : Int32)
  · exact Gl.of (fun t k => XS.ifYes X.here hx rfl rfl (hb hby hd) rfl (XT.i0_lt_t q) ho hp k) (K1 (Int32.lt_iff_toInt_lt.mp q))
  · exact Gl.of (fun t k => XS.ifNo X.here hx rfl (hb hby hd) rfl (XT.i0_lt_f q) k) (K2 (Int.not_lt.mp fun q' => q (Int32.lt_iff_toInt_lt.mpr q')))
theorem gIcmp_lt (X : Sd p l e R s m args below meth c n0 T h cells slots) (w : Cx Z own nm bytes maxL ret p s m meth c) {x y : Int32} {o : Int} (hd : decode bytes pc = .ok (.if_icmp .lt o, 3)) (ho : 0 ≤ (pc : Int) + o) {n' : Nat} (hp : ((pc : Int) + o).toNat = n) (hn : pc + 3 = n') (K1 : x.toInt < y.toInt → Gl p e below s n0 P C S (T.setTop (mkF m n ls st))) (K2 : y.toInt ≤ x.toInt → Gl p e below s n0 P C S (T.setTop (mkF m n' ls st))) : Gl p e below s n0 P C S (T.setTop (mkF m pc ls (.int y :: .int x :: st))) := by
  obtain ⟨_, X, -⟩ := X; obtain ⟨hx, hby, -⟩ := w; subst hn
  by_cases q : x < y
  · exact Gl.of (fun t k => XS.icmpYes X.here hx rfl rfl (hb hby hd) rfl (XT.ii_lt_t q) ho hp k) (K1 (Int32.lt_iff_toInt_lt.mp q))
  · exact Gl.of (fun t k => XS.icmpNo X.here hx rfl (hb hby hd) rfl (XT.ii_lt_f q) k) (K2 (Int.not_lt.mp fun q' => q (Int32.lt_iff_toInt_lt.mpr q')))
theorem gIfL_lt (X : Sd p l e R s m args below meth c n0 T h cells slots) (w : Cx Z own nm bytes maxL ret p s m meth c) {x y : Int64} {o : Int} (hd : decode bytes pc = .ok (.ifCond .lt o, 3)) (ho : 0 ≤ (pc : Int) + o) {n' : Nat} (hp : ((pc : Int) + o).toNat = n) (hn : pc + 3 = n') (K1 : x.toInt < y.toInt → Gl p e below s n0 P C S (T.setTop (mkF m n ls st))) (K2 : y.toInt ≤ x.toInt → Gl p e below s n0 P C S (T.setTop (mkF m n' ls st))) : Gl p e below s n0 P C S (T.setTop (mkF m pc ls (.int (XT.cmpL x y) :: st))) := by
  obtain ⟨_, X, -⟩ := X; obtain ⟨hx, hby, -⟩ := w; subst hn
  by_cases q : x < y
  · exact Gl.of (fun t k => XS.ifYes X.here hx rfl rfl (hb hby hd) rfl (XT.ll_lt_t q) ho hp k) (K1 (Int64.lt_iff_toInt_lt.mp q))
  · exact Gl.of (fun t k => XS.ifNo X.here hx rfl (hb hby hd) rfl (XT.ll_lt_f q) k) (K2 (Int.not_lt.mp fun q' => q (Int64.lt_iff_toInt_lt.mpr q')))
theorem gIf_ge (X : Sd p l e R s m args below meth c n0 T h cells slots) (w : Cx Z own nm bytes maxL ret p s m meth c) {x : Int32} {o : Int} (hd : decode bytes pc = .ok (.ifCond .ge o, 3)) (ho : 0 ≤ (pc : Int) + o) {n' : Nat} (hp : ((pc : Int) + o).toNat = n) (hn : pc + 3 = n') (K1 : 0 ≤ x.toInt → Gl p e below s n0 P C S (T.setTop (mkF m n ls st))) (K2 : x.toInt < 0 → Gl p e below s n0 P C S (T.setTop (mkF m n' ls st))) : Gl p e below s n0 P C S (T.setTop (mkF m pc ls (.int x :: st))) := by
  obtain ⟨_, X, -⟩ := X; obtain ⟨hx, hby, -⟩ := w; subst hn
  by_cases q : x < (0 : Int32)
  · exact Gl.of (fun t k => XS.ifNo X.here hx rfl (hb hby hd) rfl (XT.i0_ge_f q) k) (K2 (Int32.lt_iff_toInt_lt.mp q))
  · exact Gl.of (fun t k => XS.ifYes X.here hx rfl rfl (hb hby hd) rfl (XT.i0_ge_t q) ho hp k) (K1 (Int.not_lt.mp fun q' => q (Int32.lt_iff_toInt_lt.mpr q')))
theorem gIcmp_ge (X : Sd p l e R s m args below meth c n0 T h cells slots) (w : Cx Z own nm bytes maxL ret p s m meth c) {x y : Int32} {o : Int} (hd : decode bytes pc = .ok (.if_icmp .ge o, 3)) (ho : 0 ≤ (pc : Int) + o) {n' : Nat} (hp : ((pc : Int) + o).toNat = n) (hn : pc + 3 = n') (K1 : y.toInt ≤ x.toInt → Gl p e below s n0 P C S (T.setTop (mkF m n ls st))) (K2 : x.toInt < y.toInt → Gl p e below s n0 P C S (T.setTop (mkF m n' ls st))) : Gl p e below s n0 P C S (T.setTop (mkF m pc ls (.int y :: .int x :: st))) := by
  obtain ⟨_, X, -⟩ := X; obtain ⟨hx, hby, -⟩ := w; subst hn
  by_cases q : x < y
  · exact Gl.of (fun t k => XS.icmpNo X.here hx rfl (hb hby hd) rfl (XT.ii_ge_f q) k) (K2 (Int32.lt_iff_toInt_lt.mp q))
  · exact Gl.of (fun t k => XS.icmpYes X.here hx rfl rfl (hb hby hd) rfl (XT.ii_ge_t q) ho hp k) (K1 (Int.not_lt.mp fun q' => q (Int32.lt_iff_toInt_lt.mpr q')))
theorem gIfL_ge (X : Sd p l e R s m args below meth c n0 T h cells slots) (w : Cx Z own nm bytes maxL ret p s m meth c) {x y : Int64} {o : Int} (hd : decode bytes pc = .ok (.ifCond .ge o, 3)) (ho : 0 ≤ (pc : Int) + o) {n' : Nat} (hp : ((pc : Int) + o).toNat = n) (hn : pc + 3 = n') (K1 : y.toInt ≤ x.toInt → Gl p e below s n0 P C S (T.setTop (mkF m n ls st))) (K2 : x.toInt < y.toInt → Gl p e below s n0 P C S (T.setTop (mkF m n' ls st))) : Gl p e below s n0 P C S (T.setTop (mkF m pc ls (.int (XT.cmpL x y) :: st))) := by
  obtain ⟨_, X, -⟩ := X; obtain ⟨hx, hby, -⟩ := w; subst hn
  by_cases q : x < y
  · exact Gl.of (fun t k => XS.ifNo X.here hx rfl (hb hby hd) rfl (XT.ll_ge_f q) k) (K2 (Int64.lt_iff_toInt_lt.mp q))
  · exact Gl.of (fun t k => XS.ifYes X.here hx rfl rfl (hb hby hd) rfl (XT.ll_ge_t q) ho hp k) (K1 (Int.not_lt.mp fun q' => q (Int64.lt_iff_toInt_lt.mpr q')))
theorem gIf_gt (X : Sd p l e R s m args below meth c n0 T h cells slots) (w : Cx Z own nm bytes maxL ret p s m meth c) {x : Int32} {o : Int} (hd : decode bytes pc = .ok (.ifCond .gt o, 3)) (ho : 0 ≤ (pc : Int) + o) {n' : Nat} (hp : ((pc : Int) + o).toNat = n) (hn : pc + 3 = n') (K1 : 0 < x.toInt → Gl p e below s n0 P C S (T.setTop (mkF m n ls st))) (K2 : x.toInt ≤ 0 → Gl p e below s n0 P C S (T.setTop (mkF m n' ls st))) : Gl p e below s n0 P C S (T.setTop (mkF m pc ls (.int x :: st))) := by
  obtain ⟨_, X, -⟩ := X; obtain ⟨hx, hby, -⟩ := w; subst hn
  by_cases q : (0 : Int32) < x
  · exact Gl.of (fun t k => XS.ifYes X.here hx rfl rfl (hb hby hd) rfl (XT.i0_gt_t q) ho hp k) (K1 (Int32.lt_iff_toInt_lt.mp q))
  · exact Gl.of (fun t k => XS.ifNo X.here hx rfl (hb hby hd) rfl (XT.i0_gt_f q) k) (K2 (Int.not_lt.mp fun q' => q (Int32.lt_iff_toInt_lt.mpr q')))
theorem gIcmp_gt (X : Sd p l e R s m args below meth c n0 T h cells slots) (w : Cx Z own nm bytes maxL ret p s m meth c) {x y : Int32} {o : Int} (hd : decode bytes pc = .ok (.if_icmp .gt o, 3)) (ho : 0 ≤ (pc : Int) + o) {n' : Nat} (hp : ((pc : Int) + o).toNat = n) (hn : pc + 3 = n') (K1 : y.toInt < x.toInt → Gl p e below s n0 P C S (T.setTop (mkF m n ls st))) (K2 : x.toInt ≤ y.toInt → Gl p e below s n0 P C S (T.setTop (mkF m n' ls st))) : Gl p e below s n0 P C S (T.setTop (mkF m pc ls (.int y :: .int x :: st))) := by
  obtain ⟨_, X, -⟩ := X; obtain ⟨hx, hby, -⟩ := w; subst hn
  by_cases q : y < x
  · exact Gl.of (fun t k => XS.icmpYes X.here hx rfl rfl (hb hby hd) rfl (XT.ii_gt_t q) ho hp k) (K1 (Int32.lt_iff_toInt_lt.mp q))
  · exact Gl.of (fun t k => XS.icmpNo X.here hx rfl (hb hby hd) rfl (XT.ii_gt_f q) k) (K2 (Int.not_lt.mp fun q' => q (Int32.lt_iff_toInt_lt.mpr q')))
theorem gIfL_gt (X : Sd p l e R s m args below meth c n0 T h cells slots) (w : Cx Z own nm bytes maxL ret p s m meth c) {x y : Int64} {o : Int} (hd : decode bytes pc = .ok (.ifCond .gt o, 3)) (ho : 0 ≤ (pc : Int) + o) {n' : Nat} (hp : ((pc : Int) + o).toNat = n) (hn : pc + 3 = n') (K1 : y.toInt < x.toInt → Gl p e below s n0 P C S (T.setTop (mkF m n ls st))) (K2 : x.toInt ≤ y.toInt → Gl p e below s n0 P C S (T.setTop (mkF m n' ls st))) : Gl p e below s n0 P C S (T.setTop (mkF m pc ls (.int (XT.cmpL x y) :: st))) := by
  obtain ⟨_, X, -⟩ := X; obtain ⟨hx, hby, -⟩ := w; subst hn
  by_cases q : y < x
  · exact Gl.of (fun t k => XS.ifYes X.here hx rfl rfl (hb hby hd) rfl (XT.ll_gt_t q) ho hp k) (K1 (Int64.lt_iff_toInt_lt.mp q))
  · exact Gl.of (fun t k => XS.ifNo X.here hx rfl (hb hby hd) rfl (XT.ll_gt_f q) k) (K2 (Int.not_lt.mp fun q' => q (Int64.lt_iff_toInt_lt.mpr q')))
theorem gIf_le (X : Sd p l e R s m args below meth c n0 T h cells slots) (w : Cx Z own nm bytes maxL ret p s m meth c) {x : Int32} {o : Int} (hd : decode bytes pc = .ok (.ifCond .le o, 3)) (ho : 0 ≤ (pc : Int) + o) {n' : Nat} (hp : ((pc : Int) + o).toNat = n) (hn : pc + 3 = n') (K1 : x.toInt ≤ 0 → Gl p e below s n0 P C S (T.setTop (mkF m n ls st))) (K2 : 0 < x.toInt → Gl p e below s n0 P C S (T.setTop (mkF m n' ls st))) : Gl p e below s n0 P C S (T.setTop (mkF m pc ls (.int x :: st))) := by
  obtain ⟨_, X, -⟩ := X; obtain ⟨hx, hby, -⟩ := w; subst hn
  by_cases q : (0 : Int32) < x
  · exact Gl.of (fun t k => XS.ifNo X.here hx rfl (hb hby hd) rfl (XT.i0_le_f q) k) (K2 (Int32.lt_iff_toInt_lt.mp q))
  · exact Gl.of (fun t k => XS.ifYes X.here hx rfl rfl (hb hby hd) rfl (XT.i0_le_t q) ho hp k) (K1 (Int.not_lt.mp fun q' => q (Int32.lt_iff_toInt_lt.mpr q')))
theorem gIcmp_le (X : Sd p l e R s m args below meth c n0 T h cells slots) (w : Cx Z own nm bytes maxL ret p s m meth c) {x y : Int32} {o : Int} (hd : decode bytes pc = .ok (.if_icmp .le o, 3)) (ho : 0 ≤ (pc : Int) + o) {n' : Nat} (hp : ((pc : Int) + o).toNat = n) (hn : pc + 3 = n') (K1 : x.toInt ≤ y.toInt → Gl p e below s n0 P C S (T.setTop (mkF m n ls st))) (K2 : y.toInt < x.toInt → Gl p e below s n0 P C S (T.setTop (mkF m n' ls st))) : Gl p e below s n0 P C S (T.setTop (mkF m pc ls (.int y :: .int x :: st))) := by
  obtain ⟨_, X, -⟩ := X; obtain ⟨hx, hby, -⟩ := w; subst hn
  by_cases q : y < x
  · exact Gl.of (fun t k => XS.icmpNo X.here hx rfl (hb hby hd) rfl (XT.ii_le_f q) k) (K2 (Int32.lt_iff_toInt_lt.mp q))
  · exact Gl.of (fun t k => XS.icmpYes X.here hx rfl rfl (hb hby hd) rfl (XT.ii_le_t q) ho hp k) (K1 (Int.not_lt.mp fun q' => q (Int32.lt_iff_toInt_lt.mpr q')))
theorem gIfL_le (X : Sd p l e R s m args below meth c n0 T h cells slots) (w : Cx Z own nm bytes maxL ret p s m meth c) {x y : Int64} {o : Int} (hd : decode bytes pc = .ok (.ifCond .le o, 3)) (ho : 0 ≤ (pc : Int) + o) {n' : Nat} (hp : ((pc : Int) + o).toNat = n) (hn : pc + 3 = n') (K1 : x.toInt ≤ y.toInt → Gl p e below s n0 P C S (T.setTop (mkF m n ls st))) (K2 : y.toInt < x.toInt → Gl p e below s n0 P C S (T.setTop (mkF m n' ls st))) : Gl p e below s n0 P C S (T.setTop (mkF m pc ls (.int (XT.cmpL x y) :: st))) := by
  obtain ⟨_, X, -⟩ := X; obtain ⟨hx, hby, -⟩ := w; subst hn
  by_cases q : y < x
  · exact Gl.of (fun t k => XS.ifNo X.here hx rfl (hb hby hd) rfl (XT.ll_le_f q) k) (K2 (Int64.lt_iff_toInt_lt.mp q))
  · exact Gl.of (fun t k => XS.ifYes X.here hx rfl rfl (hb hby hd) rfl (XT.ll_le_t q) ho hp k) (K1 (Int.not_lt.mp fun q' => q (Int64.lt_iff_toInt_lt.mpr q')))
theorem gAcmp_eq (X : Sd p l e R s m args below meth c n0 T h cells slots) (w : Cx Z own nm bytes maxL ret p s m meth c) {x y : Value} {o : Int} (hd : decode bytes pc = .ok (.if_acmp .eq o, 3)) (hx' : x.isRef = true) (hy' : y.isRef = true) (ho : 0 ≤ (pc : Int) + o) {n' : Nat} (hp : ((pc : Int) + o).toNat = n) (hn : pc + 3 = n') (K1 : x = y → Gl p e below s n0 P C S (T.setTop (mkF m n ls st))) (K2 : ¬ x = y → Gl p e below s n0 P C S (T.setTop (mkF m n' ls st))) : Gl p e below s n0 P C S (T.setTop (mkF m pc ls (y :: x :: st))) := by
  obtain ⟨_, X, -⟩ := X; obtain ⟨hx, hby, -⟩ := w; subst hn
  by_cases q : x = y
  · exact Gl.of (fun t k => XT.acmpYes X.here hx rfl rfl (hb hby hd) rfl hx' hy' (XT.aa_eq_t q) ho hp k) (K1 q)
  · exact Gl.of (fun t k => XT.acmpNo X.here hx rfl (hb hby hd) rfl hx' hy' (XT.aa_eq_f q) k) (K2 q)
theorem gAcmp_ne (X : Sd p l e R s m args below meth c n0 T h cells slots) (w : Cx Z own nm bytes maxL ret p s m meth c) {x y : Value} {o : Int} (hd : decode bytes pc = .ok (.if_acmp .ne o, 3)) (hx' : x.isRef = true) (hy' : y.isRef = true) (ho : 0 ≤ (pc : Int) + o) {n' : Nat} (hp : ((pc : Int) + o).toNat = n) (hn : pc + 3 = n') (K1 : ¬ x = y → Gl p e below s n0 P C S (T.setTop (mkF m n ls st))) (K2 : x = y → Gl p e below s n0 P C S (T.setTop (mkF m n' ls st))) : Gl p e below s n0 P C S (T.setTop (mkF m pc ls (y :: x :: st))) := by
  obtain ⟨_, X, -⟩ := X; obtain ⟨hx, hby, -⟩ := w; subst hn
  by_cases q : x = y
  · exact Gl.of (fun t k => XT.acmpNo X.here hx rfl (hb hby hd) rfl hx' hy' (XT.aa_ne_f q) k) (K2 q)
  · exact Gl.of (fun t k => XT.acmpYes X.here hx rfl rfl (hb hby hd) rfl hx' hy' (XT.aa_ne_t q) ho hp k) (K1 q)
theorem gIfnullY (X : Sd p l e R s m args below meth c n0 T h cells slots) (w : Cx Z own nm bytes maxL ret p s m meth c) {o : Int} (hd : decode bytes pc = .ok (.ifnull o, 3)) (ho : 0 ≤ (pc : Int) + o) (hp : ((pc : Int) + o).toNat = n) (K : Gl p e below s n0 P C S (T.setTop (mkF m n ls st))) : Gl p e below s n0 P C S (T.setTop (mkF m pc ls (.null :: st))) := by
  obtain ⟨_, X, -⟩ := X; obtain ⟨hx, hby, hZ, hown, -⟩ := w; 
  exact Gl.of (fun t k => XS.ifnullYes X.here hx rfl rfl (hb hby hd) rfl ho hp k) K
theorem gIfnullN (X : Sd p l e R s m args below meth c n0 T h cells slots) (w : Cx Z own nm bytes maxL ret p s m meth c) {o : Int} {b : Addr} (hd : decode bytes pc = .ok (.ifnull o, 3)) (hn : pc + 3 = n) (K : Gl p e below s n0 P C S (T.setTop (mkF m n ls st))) : Gl p e below s n0 P C S (T.setTop (mkF m pc ls (.ref b :: st))) := by
  obtain ⟨_, X, -⟩ := X; obtain ⟨hx, hby, hZ, hown, -⟩ := w; subst hn
  exact Gl.of (fun t k => XS.ifnullNo X.here hx rfl (hb hby hd) rfl k) K
theorem gIfnonnullY (X : Sd p l e R s m args below meth c n0 T h cells slots) (w : Cx Z own nm bytes maxL ret p s m meth c) {o : Int} {b : Addr} (hd : decode bytes pc = .ok (.ifnonnull o, 3)) (ho : 0 ≤ (pc : Int) + o) (hp : ((pc : Int) + o).toNat = n) (K : Gl p e below s n0 P C S (T.setTop (mkF m n ls st))) : Gl p e below s n0 P C S (T.setTop (mkF m pc ls (.ref b :: st))) := by
  obtain ⟨_, X, -⟩ := X; obtain ⟨hx, hby, hZ, hown, -⟩ := w; 
  exact Gl.of (fun t k => XT.ifnonnullYes X.here hx rfl rfl (hb hby hd) rfl ho hp k) K
theorem gIfnonnullN (X : Sd p l e R s m args below meth c n0 T h cells slots) (w : Cx Z own nm bytes maxL ret p s m meth c) {o : Int} (hd : decode bytes pc = .ok (.ifnonnull o, 3)) (hn : pc + 3 = n) (K : Gl p e below s n0 P C S (T.setTop (mkF m n ls st))) : Gl p e below s n0 P C S (T.setTop (mkF m pc ls (.null :: st))) := by
  obtain ⟨_, X, -⟩ := X; obtain ⟨hx, hby, hZ, hown, -⟩ := w; subst hn
  exact Gl.of (fun t k => XT.ifnonnullNo X.here hx rfl (hb hby hd) rfl k) K
theorem gRet (X : Sd p l e R s m args below meth c n0 T h cells slots) (w : Cx Z own nm bytes maxL ret p s m meth c) {v : Value} {t : FieldType} {i : Instr} (hret : ret = some t) (hn : narrow t v = v) (hi : (i = .ireturn ∧ (t = .int ∨ t = .boolean ∨ t = .byte ∨ t = .char ∨ t = .short) ∧ ∃ z, v = .int z) ∨ (i = .lreturn ∧ t = .long ∧ ∃ z, v = .long z) ∨ (i = .dreturn ∧ t = .double ∧ ∃ z, v = .double z) ∨ (i = .freturn ∧ t = .float ∧ ∃ z, v = .float z) ∨ (i = .areturn ∧ t.isReference = true ∧ v.isRef = true))
    (hd : decode bytes pc = .ok (i, 1)) (hc : cells ≤ C) (hs : slots ≤ S) (hP : P (some v) h) : Gl p e below s n0 P C S (T.setTop (mkF m pc ls (v :: st))) := by
  obtain ⟨locs, X, N, eh, -⟩ := X; obtain ⟨hx, hby, hZ, hown, -, -, hr', hlk⟩ := w
  obtain ⟨fs, hr, hrun, hended, hW, hsame⟩ := X.leave (v := some v) (fun q => by rw [hr', hret] at q; cases q) hlk
  refine ⟨_, _, retOut X hx (hr'.trans hret) hn hi (hb hby hd) hr, hrun, hended, _, _, rfl, ⟨?_, N⟩, ⟨_, rfl⟩, hW, hsame.mono hc hs⟩
  show P (some v) T.heap
  rw [eh]; exact hP
theorem gRetI (X : Sd p l e R s m args below meth c n0 T h cells slots) (w : Cx Z own nm bytes maxL ret p s m meth c) {z : Int32} (hret : ret = some .int) (hd : decode bytes pc = .ok (.ireturn, 1)) (hc : cells ≤ C) (hs : slots ≤ S) (hP : P (some (.int z)) h) : Gl p e below s n0 P C S (T.setTop (mkF m pc ls (.int z :: st))) := gRet X w hret rfl (Or.inl ⟨rfl, Or.inl rfl, z, rfl⟩) hd hc hs hP
theorem gRetZ (X : Sd p l e R s m args below meth c n0 T h cells slots) (w : Cx Z own nm bytes maxL ret p s m meth c) {z : Int32} (hret : ret = some .boolean) (hz : z = 0 ∨ z = 1) (hd : decode bytes pc = .ok (.ireturn, 1)) (hc : cells ≤ C) (hs : slots ≤ S) (hP : P (some (.int z)) h) : Gl p e below s n0 P C S (T.setTop (mkF m pc ls (.int z :: st))) := gRet X w hret (by rcases hz with rfl | rfl <;> rfl) (Or.inl ⟨rfl, Or.inr (Or.inl rfl), z, rfl⟩) hd hc hs hP
theorem gRetJ (X : Sd p l e R s m args below meth c n0 T h cells slots) (w : Cx Z own nm bytes maxL ret p s m meth c) {z : Int64} (hret : ret = some .long) (hd : decode bytes pc = .ok (.lreturn, 1)) (hc : cells ≤ C) (hs : slots ≤ S) (hP : P (some (.long z)) h) : Gl p e below s n0 P C S (T.setTop (mkF m pc ls (.long z :: st))) := gRet X w hret rfl (Or.inr (Or.inl ⟨rfl, rfl, z, rfl⟩)) hd hc hs hP
theorem gRetD (X : Sd p l e R s m args below meth c n0 T h cells slots) (w : Cx Z own nm bytes maxL ret p s m meth c) {z : UInt64} (hret : ret = some .double) (hd : decode bytes pc = .ok (.dreturn, 1)) (hc : cells ≤ C) (hs : slots ≤ S) (hP : P (some (.double z)) h) : Gl p e below s n0 P C S (T.setTop (mkF m pc ls (.double z :: st))) := gRet X w hret rfl (Or.inr (Or.inr (Or.inl ⟨rfl, rfl, z, rfl⟩))) hd hc hs hP
theorem gRetA (X : Sd p l e R s m args below meth c n0 T h cells slots) (w : Cx Z own nm bytes maxL ret p s m meth c) {v : Value} {t : FieldType} (hret : ret = some t) (ht : t.isReference = true) (hv : v.isRef = true) (hd : decode bytes pc = .ok (.areturn, 1)) (hc : cells ≤ C) (hs : slots ≤ S) (hP : P (some v) h) : Gl p e below s n0 P C S (T.setTop (mkF m pc ls (v :: st))) := gRet X w hret (by rcases ref_cases hv with rfl | ⟨a, rfl⟩ <;> cases t <;> first | rfl | cases ht) (Or.inr (Or.inr (Or.inr (Or.inr ⟨rfl, ht, hv⟩)))) hd hc hs hP
theorem gRetV (X : Sd p l e R s m args below meth c n0 T h cells slots) (w : Cx Z own nm bytes maxL ret p s m meth c) (hret : ret = none) (hd : decode bytes pc = .ok (.return_, 1)) (hc : cells ≤ C) (hs : slots ≤ S) (hP : P none h) : Gl p e below s n0 P C S (T.setTop (mkF m pc ls [])) := by
  obtain ⟨locs, X, N, eh, -⟩ := X; obtain ⟨hx, hby, hZ, hown, -, -, hr', hlk⟩ := w
  obtain ⟨fs, hr, hrun, hended, hW, hsame⟩ := X.leave (v := none) (fun q => rfl) hlk
  refine ⟨_, _, X.returnOut hx (hr'.trans hret) (hb hby hd) hr, hrun, hended, _, _, rfl, ⟨?_, N⟩, ⟨_, rfl⟩, hW, hsame.mono hc hs⟩
  show P none T.heap
  rw [eh]; exact hP
theorem gCallS (X : Sd p l e R s m args below meth c n0 T h cells slots) (w : Cx Z own nm bytes maxL ret p s m meth c) {y : MethodName} {yb : ByteArray} {yl : Nat} {yr : Option FieldType} {rm : Room} {Q : Option Value → Heap → Prop} {idx W : Nat} (aL rest : List Value) {ps : List FieldType} {r : Option FieldType}
    (hM : Con l Z y yb yl yr [] rm rm.cells rm.slots aL.toArray h n0 Q) (w1 : (Jvm.Cond.methodLink own idx y).before a0 Z = true) (w2 : (Jvm.Cond.static y).before a0 Z = true) (w3 : (Jvm.Cond.initialized y.cls).before a0 Z = true) (w4 : (Jvm.Cond.code y yb yl yr).before a0 Z = true) (hy : y.cls ≠ "java/lang/invoke/MethodHandle" ∧ y.cls ≠ "java/lang/invoke/VarHandle")
    (hpd : parseMethodDescriptor y.desc = some ⟨ps, r⟩) (hlen : aL.length = ps.length) (hstk : st = aL.reverse ++ rest) (hd : decode bytes pc = .ok (.invokestatic idx, 3)) (hsz : ls.size = maxL) (hW : (rest.map fun v => v.category).sum ≤ W)
    (hf : rm.frames + 1 ≤ R.frames) (hl : W + (yl + 11) + rm.locals ≤ R.locals) (hcc : cells + rm.cells ≤ R.cells) (hss : slots + rm.slots ≤ R.slots) (hn : pc + 3 = n)
    (K : ∀ T' h' v, Q v h' → Sd p l e R s m args below meth c n0 T' h' (cells + rm.cells) (slots + rm.slots) → Gl p e below s n0 P C S (T'.setTop (mkF m n ls (v.toList ++ rest)))) : Gl p e below s n0 P C S (T.setTop (mkF m pc ls st)) := by
  obtain ⟨locs, X, N, eh, hn0⟩ := X; obtain ⟨hx, hby, hZ, hown, -, hml, -⟩ := w; subst hn
  obtain ⟨v, vm, ⟨T', L, k, sl⟩, -, X', ⟨Lc, ⟨hQ, NL⟩, l1, y1, z1⟩, st'⟩ := Jvm.LawKit.callS X hx (y := y) hown (mvT hZ w1) (mvT hZ w2) (mvT hZ w3) (mvT hZ w4) hy (backOf (W := W) (Q := fun v h L => Q v h ∧ Fr n0 L) (Con.met hM) hZ w4 w3 hf hl) (g := mkF m pc ls st) rfl (by rw [hml]; exact hsz) (argsL := aL) (rest := rest) (lenOf hpd hlen) hstk (by show 2 * 0 + _ ≤ _; rw [Nat.mul_zero, Nat.zero_add]; exact hW) (hb hby hd) (fun _ _ => ⟨rfl, eh, hcc, hss⟩)
  dsimp only [Pt.U, Pt.locs, Pt.cells, Pt.slots] at X' l1 y1 z1 st' hQ
  subst l1 y1 z1
  exact Gl.of st' (K T' T'.heap v hQ ⟨_, X', Fr.app N NL, rfl, hn0⟩)
theorem gCallV (X : Sd p l e R s m args below meth c n0 T h cells slots) (w : Cx Z own nm bytes maxL ret p s m meth c) {y z : MethodName} {yb : ByteArray} {yl : Nat} {yr : Option FieldType} {rm : Room} {Q : Option Value → Heap → Prop} {idx W : Nat} {b : Addr} {C0 : String} (aL rest : List Value) {ps : List FieldType} {r : Option FieldType} (E : Exa Z h b C0)
    (hM : Con l Z z yb yl yr [] rm rm.cells rm.slots (.ref b :: aL).toArray h n0 Q) (w1 : (Jvm.Cond.methodLink own idx y).before a0 Z = true) (w2 : (Jvm.Cond.declares y).before a0 Z = true) (hnf : NotFace s y) (w5 : (Jvm.Cond.selects C0 y z).before a0 Z = true) (w6 : (Jvm.Cond.instanceMethod z).before a0 Z = true) (w3 : (Jvm.Cond.initialized z.cls).before a0 Z = true) (w4 : (Jvm.Cond.code z yb yl yr).before a0 Z = true) (hy : y.cls ≠ "java/lang/invoke/MethodHandle" ∧ y.cls ≠ "java/lang/invoke/VarHandle")
    (hpd : parseMethodDescriptor y.desc = some ⟨ps, r⟩) (hlen : aL.length = ps.length) (hstk : st = aL.reverse ++ .ref b :: rest) (hd : decode bytes pc = .ok (.invokevirtual idx, 3)) (hsz : ls.size = maxL) (hW : (rest.map fun v => v.category).sum ≤ W)
    (hf : rm.frames + 1 ≤ R.frames) (hl : W + (yl + 11) + rm.locals ≤ R.locals) (hcc : cells + rm.cells ≤ R.cells) (hss : slots + rm.slots ≤ R.slots) (hn : pc + 3 = n)
    (K : ∀ T' h' v, Q v h' → Sd p l e R s m args below meth c n0 T' h' (cells + rm.cells) (slots + rm.slots) → Gl p e below s n0 P C S (T'.setTop (mkF m n ls (v.toList ++ rest)))) : Gl p e below s n0 P C S (T.setTop (mkF m pc ls st)) := by
  obtain ⟨locs, X, N, eh, hn0⟩ := X; obtain ⟨hx, hby, hZ, hown, -, hml, -⟩ := w; subst hn
  obtain ⟨cq, kq, qa, qb, qc⟩ := isOf hZ eh E
  obtain ⟨v, vm, ⟨T', L, k, sl⟩, -, X', ⟨Lc, ⟨hQ, NL⟩, l1, y1, z1⟩, st'⟩ := X.virtualBack hx (y := y) (z := z) hown (mvT hZ w1) (mvT hZ w2) hnf (mvT hZ w5) (mvT hZ w6) hy (backOf (W := W) (Q := fun v h L => Q v h ∧ Fr n0 L) (Con.met hM) hZ w4 w3 hf hl) qa qc (g := mkF m pc ls st) rfl (by rw [hml]; exact hsz) (Steps.refl _) (argsL := aL) (rest := rest) (lenOf hpd hlen) hstk (by show 2 * 0 + _ ≤ _; rw [Nat.mul_zero, Nat.zero_add]; exact hW) (hb hby hd) (fun _ _ => ⟨rfl, eh, hcc, hss⟩)
  dsimp only [Pt.U, Pt.locs, Pt.cells, Pt.slots] at X' l1 y1 z1 st' hQ
  subst l1 y1 z1
  exact Gl.of (fun t k => st'.trans k) (K T' T'.heap v hQ ⟨_, X', Fr.app N NL, rfl, hn0⟩)
theorem gCallI (X : Sd p l e R s m args below meth c n0 T h cells slots) (w : Cx Z own nm bytes maxL ret p s m meth c) {y : MethodName} {yb : ByteArray} {yl : Nat} {rm : Room} {Q : Option Value → Heap → Prop} {idx W : Nat} {b : Addr} (aL rest : List Value) {ps : List FieldType} {r : Option FieldType} (hy1 : y.name = "<init>")
    (hM : Con l Z y yb yl none [] rm rm.cells rm.slots (.ref b :: aL).toArray h n0 Q) (w1 : (Jvm.Cond.methodLink own idx y).before a0 Z = true) (w2 : (Jvm.Cond.instanceMethod y).before a0 Z = true) (w3 : (Jvm.Cond.initialized y.cls).before a0 Z = true) (w4 : (Jvm.Cond.code y yb yl none).before a0 Z = true) (hy : y.cls ≠ "java/lang/invoke/MethodHandle" ∧ y.cls ≠ "java/lang/invoke/VarHandle")
    (hpd : parseMethodDescriptor y.desc = some ⟨ps, r⟩) (hlen : aL.length = ps.length) (hstk : st = aL.reverse ++ .ref b :: rest) (hd : decode bytes pc = .ok (.invokespecial idx, 3)) (hsz : ls.size = maxL) (hW : (rest.map fun v => v.category).sum ≤ W)
    (hf : rm.frames + 1 ≤ R.frames) (hl : W + (yl + 11) + rm.locals ≤ R.locals) (hcc : cells + rm.cells ≤ R.cells) (hss : slots + rm.slots ≤ R.slots) (hn : pc + 3 = n)
    (K : ∀ T' h' v, Q v h' → Sd p l e R s m args below meth c n0 T' h' (cells + rm.cells) (slots + rm.slots) → Gl p e below s n0 P C S (T'.setTop (mkF m n ls (v.toList ++ rest)))) : Gl p e below s n0 P C S (T.setTop (mkF m pc ls st)) := by
  obtain ⟨locs, X, N, eh, hn0⟩ := X; obtain ⟨hx, hby, hZ, hown, -, hml, -⟩ := w; subst hn
  obtain ⟨v, vm, ⟨T', L, k, sl⟩, -, X', ⟨Lc, ⟨hQ, NL⟩, l1, y1, z1⟩, st'⟩ := X.specialBack hx (y := y) hy1 hown (mvT hZ w1) (mvT hZ w2) (mvT hZ w4) hy (backOf (W := W) (Q := fun v h L => Q v h ∧ Fr n0 L) (Con.met hM) hZ w4 w3 hf hl) (g := mkF m pc ls st) rfl (by rw [hml]; exact hsz) (Steps.refl _) (a := b) (argsL := aL) (rest := rest) (lenOf hpd hlen) hstk (by show 2 * 0 + _ ≤ _; rw [Nat.mul_zero, Nat.zero_add]; exact hW) (hb hby hd) (fun _ _ => ⟨rfl, eh, hcc, hss⟩)
  dsimp only [Pt.U, Pt.locs, Pt.cells, Pt.slots] at X' l1 y1 z1 st' hQ
  subst l1 y1 z1
  exact Gl.of (fun t k => st'.trans k) (K T' T'.heap v hQ ⟨_, X', Fr.app N NL, rfl, hn0⟩)
theorem gCallSv (X : Sd p l e R s m args below meth c n0 T h cells slots) (w : Cx Z own nm bytes maxL ret p s m meth c) {y : MethodName} {yb : ByteArray} {yl : Nat} {yr : Option FieldType} {rm : Room} {Q : Value → Heap → Prop} {idx W : Nat} (aL rest : List Value) {ps : List FieldType} {r : Option FieldType}
    (hM : ConV l Z y yb yl yr rm aL.toArray h n0 Q) (w1 : (Jvm.Cond.methodLink own idx y).before a0 Z = true) (w2 : (Jvm.Cond.static y).before a0 Z = true) (w3 : (Jvm.Cond.initialized y.cls).before a0 Z = true) (w4 : (Jvm.Cond.code y yb yl yr).before a0 Z = true) (hy : y.cls ≠ "java/lang/invoke/MethodHandle" ∧ y.cls ≠ "java/lang/invoke/VarHandle")
    (hpd : parseMethodDescriptor y.desc = some ⟨ps, r⟩) (hlen : aL.length = ps.length) (hstk : st = aL.reverse ++ rest) (hd : decode bytes pc = .ok (.invokestatic idx, 3)) (hsz : ls.size = maxL) (hW : (rest.map fun v => v.category).sum ≤ W)
    (hf : rm.frames + 1 ≤ R.frames) (hl : W + (yl + 11) + rm.locals ≤ R.locals) (hcc : cells + rm.cells ≤ R.cells) (hss : slots + rm.slots ≤ R.slots) (hn : pc + 3 = n)
    (K : ∀ T' h' v, Q v h' → Sd p l e R s m args below meth c n0 T' h' (cells + rm.cells) (slots + rm.slots) → Gl p e below s n0 P C S (T'.setTop (mkF m n ls (v :: rest)))) : Gl p e below s n0 P C S (T.setTop (mkF m pc ls st)) :=
  gCallS X w aL rest hM w1 w2 w3 w4 hy hpd hlen hstk hd hsz hW hf hl hcc hss hn (fun T' h' v q X => by obtain ⟨v', rfl, q⟩ := q; exact K T' h' v' q X)
theorem gCallSn (X : Sd p l e R s m args below meth c n0 T h cells slots) (w : Cx Z own nm bytes maxL ret p s m meth c) {y : MethodName} {yb : ByteArray} {yl : Nat} {rm : Room} {Q : Heap → Prop} {idx W : Nat} (aL rest : List Value) {ps : List FieldType} {r : Option FieldType}
    (hM : ConN l Z y yb yl rm aL.toArray h n0 Q) (w1 : (Jvm.Cond.methodLink own idx y).before a0 Z = true) (w2 : (Jvm.Cond.static y).before a0 Z = true) (w3 : (Jvm.Cond.initialized y.cls).before a0 Z = true) (w4 : (Jvm.Cond.code y yb yl none).before a0 Z = true) (hy : y.cls ≠ "java/lang/invoke/MethodHandle" ∧ y.cls ≠ "java/lang/invoke/VarHandle")
    (hpd : parseMethodDescriptor y.desc = some ⟨ps, r⟩) (hlen : aL.length = ps.length) (hstk : st = aL.reverse ++ rest) (hd : decode bytes pc = .ok (.invokestatic idx, 3)) (hsz : ls.size = maxL) (hW : (rest.map fun v => v.category).sum ≤ W)
    (hf : rm.frames + 1 ≤ R.frames) (hl : W + (yl + 11) + rm.locals ≤ R.locals) (hcc : cells + rm.cells ≤ R.cells) (hss : slots + rm.slots ≤ R.slots) (hn : pc + 3 = n)
    (K : ∀ T' h', Q h' → Sd p l e R s m args below meth c n0 T' h' (cells + rm.cells) (slots + rm.slots) → Gl p e below s n0 P C S (T'.setTop (mkF m n ls rest))) : Gl p e below s n0 P C S (T.setTop (mkF m pc ls st)) :=
  gCallS X w aL rest hM w1 w2 w3 w4 hy hpd hlen hstk hd hsz hW hf hl hcc hss hn (fun T' h' v q X => by obtain ⟨rfl, q⟩ := q; exact K T' h' q X)
theorem gCallVv (X : Sd p l e R s m args below meth c n0 T h cells slots) (w : Cx Z own nm bytes maxL ret p s m meth c) {y z : MethodName} {yb : ByteArray} {yl : Nat} {yr : Option FieldType} {rm : Room} {Q : Value → Heap → Prop} {idx W : Nat} {b : Addr} {C0 : String} (aL rest : List Value) {ps : List FieldType} {r : Option FieldType} (E : Exa Z h b C0)
    (hM : ConV l Z z yb yl yr rm (.ref b :: aL).toArray h n0 Q) (w1 : (Jvm.Cond.methodLink own idx y).before a0 Z = true) (w2 : (Jvm.Cond.declares y).before a0 Z = true) (hnf : NotFace s y) (w5 : (Jvm.Cond.selects C0 y z).before a0 Z = true) (w6 : (Jvm.Cond.instanceMethod z).before a0 Z = true) (w3 : (Jvm.Cond.initialized z.cls).before a0 Z = true) (w4 : (Jvm.Cond.code z yb yl yr).before a0 Z = true) (hy : y.cls ≠ "java/lang/invoke/MethodHandle" ∧ y.cls ≠ "java/lang/invoke/VarHandle")
    (hpd : parseMethodDescriptor y.desc = some ⟨ps, r⟩) (hlen : aL.length = ps.length) (hstk : st = aL.reverse ++ .ref b :: rest) (hd : decode bytes pc = .ok (.invokevirtual idx, 3)) (hsz : ls.size = maxL) (hW : (rest.map fun v => v.category).sum ≤ W)
    (hf : rm.frames + 1 ≤ R.frames) (hl : W + (yl + 11) + rm.locals ≤ R.locals) (hcc : cells + rm.cells ≤ R.cells) (hss : slots + rm.slots ≤ R.slots) (hn : pc + 3 = n)
    (K : ∀ T' h' v, Q v h' → Sd p l e R s m args below meth c n0 T' h' (cells + rm.cells) (slots + rm.slots) → Gl p e below s n0 P C S (T'.setTop (mkF m n ls (v :: rest)))) : Gl p e below s n0 P C S (T.setTop (mkF m pc ls st)) :=
  gCallV X w aL rest E hM w1 w2 hnf w5 w6 w3 w4 hy hpd hlen hstk hd hsz hW hf hl hcc hss hn (fun T' h' v q X => by obtain ⟨v', rfl, q⟩ := q; exact K T' h' v' q X)
theorem gCallIn (X : Sd p l e R s m args below meth c n0 T h cells slots) (w : Cx Z own nm bytes maxL ret p s m meth c) {y : MethodName} {yb : ByteArray} {yl : Nat} {rm : Room} {Q : Heap → Prop} {idx W : Nat} {b : Addr} (aL rest : List Value) {ps : List FieldType} {r : Option FieldType} (hy1 : y.name = "<init>")
    (hM : ConN l Z y yb yl rm (.ref b :: aL).toArray h n0 Q) (w1 : (Jvm.Cond.methodLink own idx y).before a0 Z = true) (w2 : (Jvm.Cond.instanceMethod y).before a0 Z = true) (w3 : (Jvm.Cond.initialized y.cls).before a0 Z = true) (w4 : (Jvm.Cond.code y yb yl none).before a0 Z = true) (hy : y.cls ≠ "java/lang/invoke/MethodHandle" ∧ y.cls ≠ "java/lang/invoke/VarHandle")
    (hpd : parseMethodDescriptor y.desc = some ⟨ps, r⟩) (hlen : aL.length = ps.length) (hstk : st = aL.reverse ++ .ref b :: rest) (hd : decode bytes pc = .ok (.invokespecial idx, 3)) (hsz : ls.size = maxL) (hW : (rest.map fun v => v.category).sum ≤ W)
    (hf : rm.frames + 1 ≤ R.frames) (hl : W + (yl + 11) + rm.locals ≤ R.locals) (hcc : cells + rm.cells ≤ R.cells) (hss : slots + rm.slots ≤ R.slots) (hn : pc + 3 = n)
    (K : ∀ T' h', Q h' → Sd p l e R s m args below meth c n0 T' h' (cells + rm.cells) (slots + rm.slots) → Gl p e below s n0 P C S (T'.setTop (mkF m n ls rest))) : Gl p e below s n0 P C S (T.setTop (mkF m pc ls st)) :=
  gCallI X w aL rest hy1 hM w1 w2 w3 w4 hy hpd hlen hstk hd hsz hW hf hl hcc hss hn (fun T' h' v q X => by obtain ⟨rfl, q⟩ := q; exact K T' h' q X)
theorem gInitO (X : Sd p l e R s m args below meth c n0 T h cells slots) (w : Cx Z own nm bytes maxL ret p s m meth c) {idx W : Nat} {a : Addr} (w1 : (Jvm.Cond.methodLink own idx Lib.objectInit).before a0 Z = true) (w2 : (Jvm.Cond.instanceMethod Lib.objectInit).before a0 Z = true) (w3 : (Jvm.Cond.code Lib.objectInit ⟨#[0xb1]⟩ 1 none).before a0 Z = true) (hd : decode bytes pc = .ok (.invokespecial idx, 3)) (hsz : ls.size = maxL) (hf : 1 ≤ R.frames) (hW : (st.map fun v => v.category).sum ≤ W) (hl : W + 12 ≤ R.locals) (hn : pc + 3 = n)
    (K : ∀ T', Sd p l e R s m args below meth c n0 T' h cells slots → Gl p e below s n0 P C S (T'.setTop (mkF m n ls st))) : Gl p e below s n0 P C S (T.setTop (mkF m pc ls (.ref a :: st))) := by
  obtain ⟨locs, X, N, eh, hn0⟩ := X; obtain ⟨hx, hby, hZ, hown, -, hml, -⟩ := w; subst hn
  obtain ⟨T', X', e', st'⟩ := initO X hx hZ hown w1 w2 w3 eh (g := mkF m pc ls (.ref a :: st)) rfl (by rw [hml]; exact hsz) rfl (hb hby hd) hf (W := W) (by show 2 * 0 + _ ≤ _; rw [Nat.mul_zero, Nat.zero_add]; exact hW) hl
  exact Gl.of st' (K T' ⟨_, X', N, e', hn0⟩)
theorem gNew (X : Sd p l e R s m args below meth c n0 T h cells slots) (w : Cx Z own nm bytes maxL ret p s m meth c) {C0 : String} {idx k : Nat} (w1 : (Jvm.Cond.classLink own idx C0).before a0 Z = true) (w2 : (Jvm.Cond.instantiable C0 k).before a0 Z = true) (w3 : (Jvm.Cond.initialized C0).before a0 Z = true) (hd : decode bytes pc = .ok (.new idx, 3)) (hc : cells + 1 ≤ R.cells) (hl : slots + k ≤ R.slots) (hn : pc + 3 = n)
    (K : ∀ T' h' a, a = h.size → n0 ≤ a → Sd p l e R s m args below meth c n0 T' h' (cells + 1) (slots + k) → Ext h h' → Exa Z h' a C0 → (∀ {O nm d : String} {ty : FieldType}, Laid Z a0 C0 O nm d → parseFieldDescriptor d = some ty → Fld Z h' a O nm d (defaultValue ty)) → Gl p e below s n0 P C S (T'.setTop (mkF m n ls (.ref a :: st)))) : Gl p e below s n0 P C S (T.setTop (mkF m pc ls st)) := by
  obtain ⟨locs, X, N, eh, hn0⟩ := X; obtain ⟨hx, hby, hZ, hown, -, hml, -⟩ := w; subst hn
  obtain ⟨T', h', X', e', E', A', D', -, st'⟩ := newO X hx hZ hown w1 w2 w3 eh (g := mkF m pc ls st) rfl (hb hby hd) hc hl
  exact Gl.of st' (K T' h' h.size rfl (Sd.le ⟨_, X, N, eh, hn0⟩) ⟨_, X', N, e', hn0⟩ E' A' D')
theorem gGetF (X : Sd p l e R s m args below meth c n0 T h cells slots) (w : Cx Z own nm bytes maxL ret p s m meth c) {R0 O fn d : String} {idx : Nat} {a : Addr} {v : Value} (w1 : (Jvm.Cond.fieldLink own idx R0 fn d).before a0 Z = true) (via : Via Z R0 O fn d) (F : Fld Z h a O fn d v) (hd : decode bytes pc = .ok (.getfield idx, 3)) (hn : pc + 3 = n)
    (K : ∀ T', Sd p l e R s m args below meth c n0 T' h cells slots → Gl p e below s n0 P C S (T'.setTop (mkF m n ls (v :: st)))) : Gl p e below s n0 P C S (T.setTop (mkF m pc ls (.ref a :: st))) := by
  obtain ⟨locs, X, N, eh, hn0⟩ := X; obtain ⟨hx, hby, hZ, hown, -, hml, -⟩ := w; subst hn
  obtain ⟨T', X', e', st'⟩ := getF X hx hZ hown (host := "") (Or.inl w1) via eh F (g := mkF m pc ls (.ref a :: st)) rfl rfl (hb hby hd)
  exact Gl.of st' (K T' ⟨_, X', N, e', hn0⟩)
theorem gGetS (X : Sd p l e R s m args below meth c n0 T h cells slots) (w : Cx Z own nm bytes maxL ret p s m meth c) {R0 O fn d : String} {idx : Nat} {v : Value} (w1 : (Jvm.Cond.fieldLink own idx R0 fn d).before a0 Z = true) (via : Via Z R0 O fn d) (F : Sta Z h O fn d v) (hd : decode bytes pc = .ok (.getstatic idx, 3)) (hn : pc + 3 = n)
    (K : ∀ T', Sd p l e R s m args below meth c n0 T' h cells slots → Gl p e below s n0 P C S (T'.setTop (mkF m n ls (v :: st)))) : Gl p e below s n0 P C S (T.setTop (mkF m pc ls st)) := by
  obtain ⟨locs, X, N, eh, hn0⟩ := X; obtain ⟨hx, hby, hZ, hown, -, hml, -⟩ := w; subst hn
  obtain ⟨T', X', e', st'⟩ := getS X hx hZ hown (host := "") w1 via eh F (g := mkF m pc ls st) rfl (hb hby hd)
  exact Gl.of st' (K T' ⟨_, X', N, e', hn0⟩)
theorem gPutF (X : Sd p l e R s m args below meth c n0 T h cells slots) (w : Cx Z own nm bytes maxL ret p s m meth c) {R0 O fn d C0 : String} {idx k : Nat} {ty : FieldType} {a : Addr} {v old : Value} (w1 : (Jvm.Cond.fieldLink own idx R0 fn d).before a0 Z = true) (via : Via Z R0 O fn d) (F : Fld Z h a O fn d old) (E : Exa Z h a C0) (hL : (Jvm.Cond.lays C0 O fn d).before a0 Z = true ∨ ((Jvm.Cond.laysFinal C0 O fn d).before a0 Z = true ∧ own = O ∧ nm = "<init>")) (w2 : (Jvm.Cond.instantiable C0 k).before a0 Z = true) (ha : n0 ≤ a)
    (hty : parseFieldDescriptor d = some ty) (hnar : narrow ty v = v) (hfit : fits ty v = true) (hd : decode bytes pc = .ok (.putfield idx, 3)) (hn : pc + 3 = n)
    (K : ∀ T' h', Sd p l e R s m args below meth c n0 T' h' cells slots → Wr h h' a (Jvm.RoadKit.slotOf Z O fn d) v → Gl p e below s n0 P C S (T'.setTop (mkF m n ls st))) : Gl p e below s n0 P C S (T.setTop (mkF m pc ls (v :: .ref a :: st))) := by
  obtain ⟨locs, X, N, eh, hn0⟩ := X; obtain ⟨hx, hby, hZ, hown, hnm, hml, -⟩ := w; subst hn
  obtain ⟨T', h', X', e', W', st'⟩ := putF X hx hZ hown (host := "") (Or.inl w1) via eh F E (hL.imp id fun q => ⟨q.1, q.2.1, hnm.trans q.2.2⟩) w2 hty hnar hfit (g := mkF m pc ls (v :: .ref a :: st)) rfl rfl (hb hby hd)
  exact Gl.of st' (K T' h' ⟨_, X', Fr.snoc X' N ha, e', hn0⟩ W')
/-- an array with its values -/
def Av (Z : State) (h : Heap) (a : Addr) (ty : FieldType) (vs : List Value) : Prop := ∃ c : Cell, Arr Z h a c ty ∧ c.slots = vs.toArray
theorem Av.lt {a : Addr} {ty : FieldType} {vs : List Value} (F : Av Z h a ty vs) : a < h.size := by obtain ⟨c, A, -⟩ := F; exact A.lt
theorem Av.ext {h' : Heap} {a : Addr} {ty : FieldType} {vs : List Value} (F : Av Z h a ty vs) (E : Ext h h') : Av Z h' a ty vs := by obtain ⟨c, A, q⟩ := F; exact ⟨c, A.ext E, q⟩
theorem Av.other {h' : Heap} {a b : Addr} {sl : Nat} {v : Value} {ty : FieldType} {vs : List Value} (F : Av Z h b ty vs) (W : Wr h h' a sl v) (ne : b ≠ a) : Av Z h' b ty vs := by obtain ⟨c, A, q⟩ := F; exact ⟨c, A.other W ne, q⟩
theorem Av.keep {h' : Heap} {a : Addr} {ty : FieldType} {vs : List Value} {ws : List Addr} (F : Av Z h a ty vs) (K : Keep h h' ws) (ne : a ∉ ws) : Av Z h' a ty vs := by obtain ⟨c, A, q⟩ := F; exact ⟨c, ⟨K.2.1 a c A.1 ne, A.2⟩, q⟩
theorem Av.set {h' : Heap} {a : Addr} {sl : Nat} {v : Value} {ty : FieldType} {vs : List Value} (F : Av Z h a ty vs) (W : Wr h h' a sl v) : Av Z h' a ty (vs.set sl v) := by
  obtain ⟨c, A, q⟩ := F
  exact ⟨_, A.same W, by show c.slots.setIfInBounds sl v = _; rw [q]; simp⟩
theorem neOf {x a : Addr} {h : Heap} (h1 : x < h.size) (h2 : h.size ≤ a) : x ≠ a := fun e => absurd (Nat.lt_of_lt_of_le h1 h2) (by rw [e]; exact Nat.lt_irrefl _)
theorem staKeep {h' : Heap} {O fn d : String} {v : Value} {ws : List Addr} (F : Sta Z h O fn d v) (K : Keep h h' ws) (hp : ∀ x ∈ ws, ∀ c : Cell, h[x]? = some c → c.vm.isStatics = false) : Sta Z h' O fn d v := by
  obtain ⟨cf, i, k, f, st, cell, h1, h2, h3, h4, h5, h6, h7⟩ := F
  exact ⟨cf, i, k, f, st, cell, h1, h2, h3, h4, K.2.1 _ _ h5 (fun q => by rw [hp _ q _ h5] at h6; cases h6), h6, h7⟩
theorem idxIn {j : Int32} {vs : List Value} {c : Cell} (q : c.slots = vs.toArray) (hj : 0 ≤ j.toInt) (hv : j.toInt < vs.length) : ¬ (j < 0 ∨ c.slots.size ≤ j.toNatClampNeg) := by
  have e := XT.negI32 j
  have hc : j.toNatClampNeg = j.toInt.toNat := rfl
  rintro (g | g)
  · have := e.mp g; omega
  · rw [q] at g; simp only [List.size_toArray] at g; omega
theorem gNewP (X : Sd p l e R s m args below meth c n0 T h cells slots) (w : Cx Z own nm bytes maxL ret p s m meth c) {aty : ArrayType} {k : Int32} {cap : Nat} (w1 : (Jvm.Cond.arrayClass (newarray.typeOf aty)).before a0 Z = true) (hd : decode bytes pc = .ok (.newarray aty, 2)) (hk : 0 ≤ k.toInt) (hcap : k.toInt ≤ cap) (hb' : cap * 8 ≤ 536870912) (hc : cells + 1 ≤ R.cells) (hl : slots + cap ≤ R.slots) {vs : List Value} {ty : FieldType} (hvs : List.replicate k.toInt.toNat (defaultValue (newarray.typeOf aty)) = vs) (hty : newarray.typeOf aty = ty) {ad : String} (had : "[" ++ (newarray.typeOf aty).toString = ad) (hn : pc + 2 = n)
    (K : ∀ T' h' a, a = h.size → n0 ≤ a → Sd p l e R s m args below meth c n0 T' h' (cells + 1) (slots + cap) → Ext h h' → Av Z h' a ty vs → Exa Z h' a ad → Gl p e below s n0 P C S (T'.setTop (mkF m n ls (.ref a :: st)))) : Gl p e below s n0 P C S (T.setTop (mkF m pc ls (.int k :: st))) := by
  obtain ⟨locs, X, N, eh, hn0⟩ := X; obtain ⟨hx, hby, hZ, hown, -, hml, -⟩ := w; subst hn hvs hty
  have e := XT.negI32 k
  have hkc : k.toNatClampNeg = k.toInt.toNat := rfl
  obtain ⟨T', h', cA, X', e', E', A', Ex', st'⟩ := newPE X hx hZ w1 eh (g := mkF m pc ls (.int k :: st)) rfl (hb hby hd) rfl (fun g => by have := e.mp g; omega) (cap := cap) (by omega) hb' hc hl had
  exact Gl.of st' (K T' h' h.size rfl (Sd.le ⟨_, X, N, eh, hn0⟩) ⟨_, X', N, e', hn0⟩ E' ⟨_, A', by show Array.replicate _ _ = _; rw [hkc]; simp⟩ Ex')
theorem gClone (X : Sd p l e R s m args below meth c n0 T h cells slots) (w : Cx Z own nm bytes maxL ret p s m meth c) {idx W cap : Nat} {a : Addr} {ad : String} {ty : FieldType} {vs : List Value} (F : Av Z h a ty vs) (E : Exa Z h a ad) (hfit : ∀ v ∈ vs, fits ty v = true) (w1 : (Jvm.Cond.methodLink own idx ⟨ad, "clone", "()Ljava/lang/Object;"⟩).before a0 Z = true) (w2 : (Jvm.Cond.sameMethod ad "java/lang/Object" "clone" "()Ljava/lang/Object;").before a0 Z = true) (w3 : (Jvm.Cond.native ⟨"java/lang/Object", "clone", "()Ljava/lang/Object;"⟩).before a0 Z = true) (w4 : (Jvm.Cond.instanceMethod ⟨"java/lang/Object", "clone", "()Ljava/lang/Object;"⟩).before a0 Z = true) (w5 : (Jvm.Cond.selects ad ⟨ad, "clone", "()Ljava/lang/Object;"⟩ ⟨"java/lang/Object", "clone", "()Ljava/lang/Object;"⟩).before a0 Z = true) (w6 : (Jvm.Cond.castable ad "java/lang/Cloneable").before a0 Z = true)
    (hd : decode bytes pc = .ok (.invokevirtual idx, 3)) (hsz : ls.size = maxL) (hf : 1 ≤ R.frames) (hW : (st.map fun v => v.category).sum ≤ W) (hl : W + 14 ≤ R.locals) (hcap : vs.length ≤ cap) (hc : cells + 1 ≤ R.cells) (hss : slots + cap ≤ R.slots) (hn : pc + 3 = n)
    (K : ∀ T' h' b, b = h.size → n0 ≤ b → Sd p l e R s m args below meth c n0 T' h' (cells + 1) (slots + cap) → Ext h h' → Av Z h' b ty vs → Exa Z h' b ad → Gl p e below s n0 P C S (T'.setTop (mkF m n ls (.ref b :: st)))) : Gl p e below s n0 P C S (T.setTop (mkF m pc ls (.ref a :: st))) := by
  obtain ⟨locs, X, N, eh, hn0⟩ := X; obtain ⟨hx, hby, hZ, hown, -, hml, -⟩ := w; subst hn
  obtain ⟨cl, A, q⟩ := F
  have FC : FitC Z cl := fitC_of A fun i hi v hv => hfit v (by rw [q] at hv; simp only [List.getElem?_toArray] at hv; exact List.mem_of_getElem? hv)
  obtain ⟨T', h', X', e', E', A', Ex', st'⟩ := cloneA X hx hZ hown w1 w2 w3 w4 w5 w6 eh A E FC (g := mkF m pc ls (.ref a :: st)) rfl (by rw [hml]; exact hsz) rfl (hb hby hd) hf (W := W) (cap := cap) (by show 2 * 0 + _ ≤ _; rw [Nat.mul_zero, Nat.zero_add]; exact hW) hl (by rw [q]; simpa using hcap) hc hss
  exact Gl.of st' (K T' h' h.size rfl (Sd.le ⟨_, X, N, eh, hn0⟩) ⟨_, X', N, e', hn0⟩ E' ⟨_, A', q⟩ Ex')
theorem gCast (X : Sd p l e R s m args below meth c n0 T h cells slots) (w : Cx Z own nm bytes maxL ret p s m meth c) {K0 : String} {idx : Nat} {a : Addr} (w1 : (Jvm.Cond.classLink own idx K0).before a0 Z = true) (F : Ins Z h a K0 true) (hd : decode bytes pc = .ok (.checkcast idx, 3)) (hn : pc + 3 = n)
    (K : ∀ T', Sd p l e R s m args below meth c n0 T' h cells slots → Gl p e below s n0 P C S (T'.setTop (mkF m n ls (.ref a :: st)))) : Gl p e below s n0 P C S (T.setTop (mkF m pc ls (.ref a :: st))) := by
  obtain ⟨locs, X, N, eh, hn0⟩ := X; obtain ⟨hx, hby, hZ, hown, -, hml, -⟩ := w; subst hn
  obtain ⟨T', X', e', st'⟩ := castY X hx hZ hown w1 eh F (g := mkF m pc ls (.ref a :: st)) rfl rfl (hb hby hd)
  exact Gl.of st' (K T' ⟨_, X', N, e', hn0⟩)
theorem gInstY (X : Sd p l e R s m args below meth c n0 T h cells slots) (w : Cx Z own nm bytes maxL ret p s m meth c) {K0 : String} {idx : Nat} {a : Addr} (w1 : (Jvm.Cond.classLink own idx K0).before a0 Z = true) (F : Ins Z h a K0 true) (hd : decode bytes pc = .ok (.instanceof idx, 3)) (hn : pc + 3 = n)
    (K : ∀ T', Sd p l e R s m args below meth c n0 T' h cells slots → Gl p e below s n0 P C S (T'.setTop (mkF m n ls (.int 1 :: st)))) : Gl p e below s n0 P C S (T.setTop (mkF m pc ls (.ref a :: st))) := by
  obtain ⟨locs, X, N, eh, hn0⟩ := X; obtain ⟨hx, hby, hZ, hown, -, hml, -⟩ := w; subst hn
  obtain ⟨T', X', e', st'⟩ := instY X hx hZ hown w1 eh F (g := mkF m pc ls (.ref a :: st)) rfl rfl (hb hby hd)
  exact Gl.of st' (K T' ⟨_, X', N, e', hn0⟩)
theorem gIastore (X : Sd p l e R s m args below meth c n0 T h cells slots) (w : Cx Z own nm bytes maxL ret p s m meth c) {a : Addr} {j : Int32} {x : Int32} {z : Value} {vs : List Value} (F : Av Z h a .int vs) (hj : 0 ≤ j.toInt) (hjv : j.toInt < vs.length) (ha : n0 ≤ a) (hz : Value.int x = z) {vs' : List Value} (hvs : vs.set j.toInt.toNat z = vs') (hd : decode bytes pc = .ok (.iastore, 1)) (hn : pc + 1 = n)
    (K : ∀ T' h', Sd p l e R s m args below meth c n0 T' h' cells slots → Wr h h' a j.toInt.toNat z → Av Z h' a .int vs' → Gl p e below s n0 P C S (T'.setTop (mkF m n ls st))) : Gl p e below s n0 P C S (T.setTop (mkF m pc ls (.int x :: .int j :: .ref a :: st))) := by
  obtain ⟨locs, X, N, eh, hn0⟩ := X; obtain ⟨hx, hby, hZ, hown, hnm, hml, -⟩ := w; subst hn hz hvs
  obtain ⟨cl, A, q⟩ := F
  obtain ⟨T', h', X', e', W', st'⟩ := stI X hx hZ eh A (j := j) (idxIn q hj hjv) (g := mkF m pc ls (.int x :: .int j :: .ref a :: st)) rfl rfl (hb hby hd)
  exact Gl.of st' (K T' h' ⟨_, X', Fr.snoc X' N ha, e', hn0⟩ W' (Av.set ⟨cl, A, q⟩ W'))
theorem gLastore (X : Sd p l e R s m args below meth c n0 T h cells slots) (w : Cx Z own nm bytes maxL ret p s m meth c) {a : Addr} {j : Int32} {x : Int64} {z : Value} {vs : List Value} (F : Av Z h a .long vs) (hj : 0 ≤ j.toInt) (hjv : j.toInt < vs.length) (ha : n0 ≤ a) (hz : Value.long x = z) {vs' : List Value} (hvs : vs.set j.toInt.toNat z = vs') (hd : decode bytes pc = .ok (.lastore, 1)) (hn : pc + 1 = n)
    (K : ∀ T' h', Sd p l e R s m args below meth c n0 T' h' cells slots → Wr h h' a j.toInt.toNat z → Av Z h' a .long vs' → Gl p e below s n0 P C S (T'.setTop (mkF m n ls st))) : Gl p e below s n0 P C S (T.setTop (mkF m pc ls (.long x :: .int j :: .ref a :: st))) := by
  obtain ⟨locs, X, N, eh, hn0⟩ := X; obtain ⟨hx, hby, hZ, hown, hnm, hml, -⟩ := w; subst hn hz hvs
  obtain ⟨cl, A, q⟩ := F
  obtain ⟨T', h', X', e', W', st'⟩ := stJ X hx hZ eh A (j := j) (idxIn q hj hjv) (g := mkF m pc ls (.long x :: .int j :: .ref a :: st)) rfl rfl (hb hby hd)
  exact Gl.of st' (K T' h' ⟨_, X', Fr.snoc X' N ha, e', hn0⟩ W' (Av.set ⟨cl, A, q⟩ W'))
theorem gCastore (X : Sd p l e R s m args below meth c n0 T h cells slots) (w : Cx Z own nm bytes maxL ret p s m meth c) {a : Addr} {j : Int32} {x : Int32} {z : Value} {vs : List Value} (F : Av Z h a .char vs) (hj : 0 ≤ j.toInt) (hjv : j.toInt < vs.length) (ha : n0 ≤ a) (hz : Value.int (nar .char x) = z) {vs' : List Value} (hvs : vs.set j.toInt.toNat z = vs') (hd : decode bytes pc = .ok (.castore, 1)) (hn : pc + 1 = n)
    (K : ∀ T' h', Sd p l e R s m args below meth c n0 T' h' cells slots → Wr h h' a j.toInt.toNat z → Av Z h' a .char vs' → Gl p e below s n0 P C S (T'.setTop (mkF m n ls st))) : Gl p e below s n0 P C S (T.setTop (mkF m pc ls (.int x :: .int j :: .ref a :: st))) := by
  obtain ⟨locs, X, N, eh, hn0⟩ := X; obtain ⟨hx, hby, hZ, hown, hnm, hml, -⟩ := w; subst hn hz hvs
  obtain ⟨cl, A, q⟩ := F
  obtain ⟨T', h', X', e', W', st'⟩ := stC X hx hZ eh A (j := j) (idxIn q hj hjv) (g := mkF m pc ls (.int x :: .int j :: .ref a :: st)) rfl rfl (hb hby hd)
  exact Gl.of st' (K T' h' ⟨_, X', Fr.snoc X' N ha, e', hn0⟩ W' (Av.set ⟨cl, A, q⟩ W'))
theorem gBastore (X : Sd p l e R s m args below meth c n0 T h cells slots) (w : Cx Z own nm bytes maxL ret p s m meth c) {a : Addr} {j : Int32} {x : Int32} {z : Value} {vs : List Value} (F : Av Z h a .byte vs) (hj : 0 ≤ j.toInt) (hjv : j.toInt < vs.length) (ha : n0 ≤ a) (hz : Value.int (nar .byte x) = z) {vs' : List Value} (hvs : vs.set j.toInt.toNat z = vs') (hd : decode bytes pc = .ok (.bastore, 1)) (hn : pc + 1 = n)
    (K : ∀ T' h', Sd p l e R s m args below meth c n0 T' h' cells slots → Wr h h' a j.toInt.toNat z → Av Z h' a .byte vs' → Gl p e below s n0 P C S (T'.setTop (mkF m n ls st))) : Gl p e below s n0 P C S (T.setTop (mkF m pc ls (.int x :: .int j :: .ref a :: st))) := by
  obtain ⟨locs, X, N, eh, hn0⟩ := X; obtain ⟨hx, hby, hZ, hown, hnm, hml, -⟩ := w; subst hn hz hvs
  obtain ⟨cl, A, q⟩ := F
  obtain ⟨T', h', X', e', W', st'⟩ := stB X hx hZ eh A (j := j) (idxIn q hj hjv) (g := mkF m pc ls (.int x :: .int j :: .ref a :: st)) rfl rfl (hb hby hd)
  exact Gl.of st' (K T' h' ⟨_, X', Fr.snoc X' N ha, e', hn0⟩ W' (Av.set ⟨cl, A, q⟩ W'))
theorem gIaload (X : Sd p l e R s m args below meth c n0 T h cells slots) (w : Cx Z own nm bytes maxL ret p s m meth c) {a : Addr} {j : Int32} {v : Value} {vs : List Value} (F : Av Z h a .int vs) (hj : 0 ≤ j.toInt) (hv : vs[j.toInt.toNat]? = some v) (hd : decode bytes pc = .ok (.iaload, 1)) (hn : pc + 1 = n) (K : Gl p e below s n0 P C S (T.setTop (mkF m n ls (v :: st)))) : Gl p e below s n0 P C S (T.setTop (mkF m pc ls (.int j :: .ref a :: st))) := by
  obtain ⟨locs, X, N, eh, hn0⟩ := X; obtain ⟨hx, hby, hZ, hown, hnm, hml, -⟩ := w; subst hn
  obtain ⟨cl, A, q⟩ := F
  have hlt : j.toInt.toNat < vs.length := (List.getElem?_eq_some_iff.mp hv).1
  exact Gl.of (fun t k => X.iaload hx (j := j) (v := v) (by rw [eh]; exact A.1) (State.isArrayOf_alike hZ.alike A.2.1) A.2.2 (idxIn q hj (by omega)) (by rw [q]; show vs.toArray[j.toInt.toNat]? = _; simpa using hv) (g := mkF m pc ls (.int j :: .ref a :: st)) rfl rfl (hb hby hd) _ k) K
theorem gCaload (X : Sd p l e R s m args below meth c n0 T h cells slots) (w : Cx Z own nm bytes maxL ret p s m meth c) {a : Addr} {j : Int32} {v : Value} {vs : List Value} (F : Av Z h a .char vs) (hj : 0 ≤ j.toInt) (hv : vs[j.toInt.toNat]? = some v) (hd : decode bytes pc = .ok (.caload, 1)) (hn : pc + 1 = n) (K : Gl p e below s n0 P C S (T.setTop (mkF m n ls (v :: st)))) : Gl p e below s n0 P C S (T.setTop (mkF m pc ls (.int j :: .ref a :: st))) := by
  obtain ⟨locs, X, N, eh, hn0⟩ := X; obtain ⟨hx, hby, hZ, hown, hnm, hml, -⟩ := w; subst hn
  obtain ⟨cl, A, q⟩ := F
  have hlt : j.toInt.toNat < vs.length := (List.getElem?_eq_some_iff.mp hv).1
  exact Gl.of (fun t k => X.caload hx (j := j) (v := v) (by rw [eh]; exact A.1) (State.isArrayOf_alike hZ.alike A.2.1) A.2.2 (idxIn q hj (by omega)) (by rw [q]; show vs.toArray[j.toInt.toNat]? = _; simpa using hv) (g := mkF m pc ls (.int j :: .ref a :: st)) rfl rfl (hb hby hd) _ k) K
theorem gBaload (X : Sd p l e R s m args below meth c n0 T h cells slots) (w : Cx Z own nm bytes maxL ret p s m meth c) {a : Addr} {j : Int32} {v : Value} {vs : List Value} (F : Av Z h a .byte vs) (hj : 0 ≤ j.toInt) (hv : vs[j.toInt.toNat]? = some v) (hd : decode bytes pc = .ok (.baload, 1)) (hn : pc + 1 = n) (K : Gl p e below s n0 P C S (T.setTop (mkF m n ls (v :: st)))) : Gl p e below s n0 P C S (T.setTop (mkF m pc ls (.int j :: .ref a :: st))) := by
  obtain ⟨locs, X, N, eh, hn0⟩ := X; obtain ⟨hx, hby, hZ, hown, hnm, hml, -⟩ := w; subst hn
  obtain ⟨cl, A, q⟩ := F
  have hlt : j.toInt.toNat < vs.length := (List.getElem?_eq_some_iff.mp hv).1
  exact Gl.of (fun t k => X.baloadBytes hx (j := j) (v := v) (by rw [eh]; exact A.1) (State.isArrayOf_alike hZ.alike A.2.1) A.2.2 (idxIn q hj (by omega)) (by rw [q]; show vs.toArray[j.toInt.toNat]? = _; simpa using hv) (g := mkF m pc ls (.int j :: .ref a :: st)) rfl rfl (hb hby hd) _ k) K
theorem gLaload (X : Sd p l e R s m args below meth c n0 T h cells slots) (w : Cx Z own nm bytes maxL ret p s m meth c) {a : Addr} {j : Int32} {v : Value} {vs : List Value} (F : Av Z h a .long vs) (hj : 0 ≤ j.toInt) (hv : vs[j.toInt.toNat]? = some v) (hd : decode bytes pc = .ok (.laload, 1)) (hn : pc + 1 = n) (K : Gl p e below s n0 P C S (T.setTop (mkF m n ls (v :: st)))) : Gl p e below s n0 P C S (T.setTop (mkF m pc ls (.int j :: .ref a :: st))) := by
  obtain ⟨locs, X, N, eh, hn0⟩ := X; obtain ⟨hx, hby, hZ, hown, hnm, hml, -⟩ := w; subst hn
  obtain ⟨cl, A, q⟩ := F
  have hlt : j.toInt.toNat < vs.length := (List.getElem?_eq_some_iff.mp hv).1
  exact Gl.of (fun t k => X.laload hx (j := j) (v := v) (by rw [eh]; exact A.1) (State.isArrayOf_alike hZ.alike A.2.1) A.2.2 (idxIn q hj (by omega)) (by rw [q]; show vs.toArray[j.toInt.toNat]? = _; simpa using hv) (g := mkF m pc ls (.int j :: .ref a :: st)) rfl rfl (hb hby hd) _ k) K
theorem Av.arv {a : Addr} {ty : FieldType} {vs : List Value} (dv : Value) (F : Av Z h a ty vs) (hf : ∀ v ∈ vs, fits ty v = true) (hl : vs.length < 2 ^ 31) : ∃ k, Arv Z h a k ty vs.length.toInt32 vs dv := by
  obtain ⟨c, A, q⟩ := F
  have hz : vs.length.toInt32.toInt = vs.length := len_toInt hl
  have hc : vs.length.toInt32.toNatClampNeg = vs.length := by show vs.length.toInt32.toInt.toNat = _; rw [hz]; rfl
  have hs : c.slots.size = vs.length := by rw [q]; simp
  refine ⟨c.cls, c, A, rfl, by rw [hc, hs], fun g => by have := (XT.negI32 _).mp g; omega, fun i hi => ?_, fun i hi => ?_⟩
  · rw [hs] at hi; rw [q]; simp [hi]
  · rw [hs] at hi; rw [List.getD_eq_getElem?_getD, List.getElem?_eq_getElem hi]; exact hf _ (List.getElem_mem hi)
theorem avOf {a : Addr} {k : ClassId} {ty : FieldType} {z : Int32} {vs : List Value} {dv : Value} (F : Arv Z h a k ty z vs dv) (hl : z.toNatClampNeg = vs.length) : Av Z h a ty vs := by
  obtain ⟨c, A, -, S, -, H, -⟩ := F
  refine ⟨c, A, Array.ext_getElem? fun i => ?_⟩
  by_cases hi : i < c.slots.size
  · rw [H i hi]; rw [S, hl] at hi; simp [hi]
  · rw [Array.getElem?_eq_none (by omega)]; rw [S, hl] at hi; simp; omega
theorem gAcopy (X : Sd p l e R s m args below meth c n0 T h cells slots) (w : Cx Z own nm bytes maxL ret p s m meth c) {idx W : Nat} {a b : Addr} {ty : FieldType} {va vb vs' : List Value} {sp dp nn : Int32} (dv : Value) (A : Av Z h a ty va) (B : Av Z h b ty vb) (hty : refKind ty = false) (fa : ∀ v ∈ va, fits ty v = true) (fb : ∀ v ∈ vb, fits ty v = true) (la : va.length < 2 ^ 31) (lb : vb.length < 2 ^ 31)
    (w1 : (Jvm.Cond.methodLink own idx Jvm.Stand.acN).before a0 Z = true) (w2 : (Jvm.Cond.native Jvm.Stand.acN).before a0 Z = true) (w3 : (Jvm.Cond.static Jvm.Stand.acN).before a0 Z = true) (w4 : (Jvm.Cond.initialized "java/lang/System").before a0 Z = true)
    (h1 : 0 ≤ sp.toInt) (h2 : 0 ≤ dp.toInt) (h3 : 0 ≤ nn.toInt) (h4 : sp.toInt + nn.toInt ≤ va.length) (h5 : dp.toInt + nn.toInt ≤ vb.length) (hvs : vb.take dp.toInt.toNat ++ ((List.range nn.toInt.toNat).map fun i => va.getD (sp.toInt.toNat + i) dv) ++ vb.drop (dp.toInt.toNat + nn.toInt.toNat) = vs') (ge : n0 ≤ b)
    (hd : decode bytes pc = .ok (.invokestatic idx, 3)) (hsz : ls.size = maxL) (hf : 1 ≤ R.frames) (hW : (st.map fun v => v.category).sum ≤ W) (hl : W + (nativeFrameWords "java/lang/System" "arraycopy" 5 + 11) ≤ R.locals) (hn : pc + 3 = n)
    (K : ∀ T' h', Sd p l e R s m args below meth c n0 T' h' cells slots → Keep h h' [b] → Av Z h' b ty vs' → Gl p e below s n0 P C S (T'.setTop (mkF m n ls st))) : Gl p e below s n0 P C S (T.setTop (mkF m pc ls (.int nn :: .int dp :: .ref b :: .int sp :: .ref a :: st))) := by
  obtain ⟨locs, X, N, eh, hn0⟩ := X; obtain ⟨hx, hby, hZ, hown, -, hml, -⟩ := w; subst hn hvs
  obtain ⟨ka, A⟩ := A.arv dv fa la
  obtain ⟨kb, B⟩ := B.arv dv fb lb
  have za : va.length.toInt32.toNatClampNeg = va.length := by show va.length.toInt32.toInt.toNat = _; rw [len_toInt la]; rfl
  have zb : vb.length.toInt32.toNatClampNeg = vb.length := by show vb.length.toInt32.toInt.toNat = _; rw [len_toInt lb]; rfl
  have n1 : ¬ sp < 0 := fun g => by have := (XT.negI32 _).mp g; omega
  have n2 : ¬ dp < 0 := fun g => by have := (XT.negI32 _).mp g; omega
  have n3 : ¬ nn < 0 := fun g => by have := (XT.negI32 _).mp g; omega
  have e1 : sp.toNatClampNeg = sp.toInt.toNat := rfl
  have e2 : dp.toNatClampNeg = dp.toInt.toNat := rfl
  have e3 : nn.toNatClampNeg = nn.toInt.toNat := rfl
  obtain ⟨T', h', L, X', e', N', K', B', st'⟩ := cpA X hx hZ hown w1 w2 w3 w4 eh A B (Or.inl ⟨rfl, hty⟩) n1 n2 n3 (by rw [za, e1, e3]; omega) (by rw [zb, e2, e3]; omega) rfl (by rw [e2, e3]; omega) N ge (g := mkF m pc ls (.int nn :: .int dp :: .ref b :: .int sp :: .ref a :: st)) rfl (by rw [hml]; exact hsz) rfl (hb hby hd) hf (W := W) (by show 2 * 0 + _ ≤ _; rw [Nat.mul_zero, Nat.zero_add]; exact hW) hl
  exact Gl.of st' (K T' h' ⟨L, X', N', e', hn0⟩ K' (avOf B' (by rw [zb, List.length_append, List.length_append, List.length_take, List.length_map, List.length_range, List.length_drop]; omega)))
theorem gAlen (X : Sd p l e R s m args below meth c n0 T h cells slots) (w : Cx Z own nm bytes maxL ret p s m meth c) {a : Addr} {ty : FieldType} {vs : List Value} {z : Int32} (F : Av Z h a ty vs) (hz : vs.length.toInt32 = z) (hd : decode bytes pc = .ok (.arraylength, 1)) (hn : pc + 1 = n) (K : Gl p e below s n0 P C S (T.setTop (mkF m n ls (.int z :: st)))) : Gl p e below s n0 P C S (T.setTop (mkF m pc ls (.ref a :: st))) := by
  obtain ⟨locs, X, N, eh, hn0⟩ := X; obtain ⟨hx, hby, hZ, hown, hnm, hml, -⟩ := w; subst hn hz
  obtain ⟨cl, A, q⟩ := F
  have hs : cl.slots.size = vs.length := by rw [q]; simp
  rw [← hs] at K
  exact Gl.of (fun t k => X.arraylength hx (by rw [eh]; exact A.1) (State.isArrayOf_alike hZ.alike A.2.1) (g := mkF m pc ls (.ref a :: st)) rfl rfl (hb hby hd) _ k) K
theorem eqR {args : Array Value} {s : State} {t u : Term} {b : Addr} (hu : u.eval args s none [] s = some (.ref b)) (h : (Jvm.Cond.eq t u).value args s none s [] = some true) : t.eval args s none [] s = some (.ref b) := by
  obtain ⟨x, y, hx, hy, k1, k2⟩ := cmp_v (Or.inl h)
  cases hu.symm.trans hy
  obtain ⟨-, q⟩ := (k2 : (Value.ref b).isRef = true ∧ x.isRef = true)
  have e := gotT (eq_R hx hy q rfl) h
  rw [hx, e]
theorem eqI {args : Array Value} {s : State} {t u : Term} {z : Int32} (hu : u.eval args s none [] s = some (.int z)) (h : (Jvm.Cond.eq t u).value args s none s [] = some true) : t.eval args s none [] s = some (.int z) := by
  obtain ⟨x, y, hx, hy, k1, k2⟩ := cmp_v (Or.inl h)
  cases hu.symm.trans hy
  obtain ⟨x', rfl⟩ := (k2 : ∃ z', x = .int z')
  have e : some (decide (x' = z)) = some true := by rw [← h]; simp [Cond.value, hx, hy]
  have e' : x' = z := by simpa using e
  rw [hx, e']
theorem mask31 (x : Int32) : (x &&& 2147483647).toInt = x.toInt % 2147483648 := c_mask x 2147483647 31 (by decide) (by decide)
theorem irem_pos {x y : Int32} (hx : 0 ≤ x.toInt) : (x % y).toInt = x.toInt % y.toInt := (c_irem x y _ rfl).1 hx
theorem lrem_pos {x y : Int64} (hx : 0 ≤ x.toInt) : (x % y).toInt = x.toInt % y.toInt := by rw [← lrem_mod]; exact (c_lrem x y _ rfl).1 hx
theorem ne0I {x : Int32} (h : x.toInt ≠ 0) : x ≠ 0 := fun e => h (by rw [e]; rfl)
theorem ne0L {x : Int64} (h : x.toInt ≠ 0) : x ≠ 0 := fun e => h (by rw [e]; rfl)
theorem iadd_toInt {x y : Int32} (h1 : -2147483648 ≤ x.toInt + y.toInt) (h2 : x.toInt + y.toInt < 2147483648) : (x + y).toInt = x.toInt + y.toInt := XT.add32 ⟨by omega, by omega⟩
theorem isub_toInt {x y : Int32} (h1 : -2147483648 ≤ x.toInt - y.toInt) (h2 : x.toInt - y.toInt < 2147483648) : (x - y).toInt = x.toInt - y.toInt := XT.sub32 ⟨by omega, by omega⟩
theorem ladd_toInt {x y : Int64} (h1 : -9223372036854775808 ≤ x.toInt + y.toInt) (h2 : x.toInt + y.toInt < 9223372036854775808) : (x + y).toInt = x.toInt + y.toInt := XT.add64 ⟨by omega, by omega⟩
theorem lsub_toInt {x y : Int64} (h1 : -9223372036854775808 ≤ x.toInt - y.toInt) (h2 : x.toInt - y.toInt < 9223372036854775808) : (x - y).toInt = x.toInt - y.toInt := XT.sub64 ⟨by omega, by omega⟩
theorem l2i_toInt {x : Int64} (h1 : -2147483648 ≤ x.toInt) (h2 : x.toInt < 2147483648) : x.toInt32.toInt = x.toInt := XT.narrowInt ⟨by omega, by omega⟩
end Walk
end Jvm.OwnWalk
namespace Jvm.Pilot.@@N@@
open Jvm Jvm.ClassFile Sem Op Lib Jvm.Free Jvm.Stand Jvm.LawKit Jvm.RoadKit Bundle Jvm.OwnWalk Jvm.Pilot.@@N@@.Jvm.D
theorem own_wd {a0 : Array Value} {Z : State} (hw : ∀ d ∈ tables_1, d.before a0 Z = true) (i : Nat) {d : Jvm.Cond} (q : tables_1[i]? = some d) : d.before a0 Z = true := hw _ (List.mem_of_getElem? q)
theorem own_and3 (x : Int32) : x &&& 3 = 0 ∨ x &&& 3 = 1 ∨ x &&& 3 = 2 ∨ x &&& 3 = 3 := by
  have h := c_mask x 3 2 (by decide) (by decide)
  have h4 : (x &&& 3).toInt = x.toInt % 4 := h
  have k : (x &&& 3).toInt = 0 ∨ (x &&& 3).toInt = 1 ∨ (x &&& 3).toInt = 2 ∨ (x &&& 3).toInt = 3 := by omega
  rcases k with k | k | k | k
  · exact Or.inl (Int32.toInt_inj.mp k)
  · exact Or.inr (Or.inl (Int32.toInt_inj.mp k))
  · exact Or.inr (Or.inr (Or.inl (Int32.toInt_inj.mp k)))
  · exact Or.inr (Or.inr (Or.inr (Int32.toInt_inj.mp k)))
theorem d1_0 : decode method_2_code 0 = .ok (.iload_n 0, 1) := by decide +kernel
theorem d1_1 : decode method_2_code 1 = .ok (.ifCond .ne 7, 3) := by decide +kernel
theorem d1_4 : decode method_2_code 4 = .ok (.getstatic 7, 3) := by decide +kernel
theorem d1_7 : decode method_2_code 7 = .ok (.areturn, 1) := by decide +kernel
theorem d1_8 : decode method_2_code 8 = .ok (.iload_n 0, 1) := by decide +kernel
theorem d1_9 : decode method_2_code 9 = .ok (.iconst 1, 1) := by decide +kernel
theorem d1_10 : decode method_2_code 10 = .ok (.if_icmp .ne 7, 3) := by decide +kernel
theorem d1_13 : decode method_2_code 13 = .ok (.getstatic 13, 3) := by decide +kernel
theorem d1_16 : decode method_2_code 16 = .ok (.areturn, 1) := by decide +kernel
theorem d1_17 : decode method_2_code 17 = .ok (.iload_n 0, 1) := by decide +kernel
theorem d1_18 : decode method_2_code 18 = .ok (.iconst 2, 1) := by decide +kernel
theorem d1_19 : decode method_2_code 19 = .ok (.if_icmp .ne 7, 3) := by decide +kernel
theorem d1_22 : decode method_2_code 22 = .ok (.getstatic 16, 3) := by decide +kernel
theorem d1_25 : decode method_2_code 25 = .ok (.areturn, 1) := by decide +kernel
theorem d1_26 : decode method_2_code 26 = .ok (.getstatic 19, 3) := by decide +kernel
theorem d1_29 : decode method_2_code 29 = .ok (.areturn, 1) := by decide +kernel
theorem d2_0 : decode method_3_code 0 = .ok (.iload_n 0, 1) := by decide +kernel
theorem d2_1 : decode method_3_code 1 = .ok (.ifCond .ne 5, 3) := by decide +kernel
theorem d2_4 : decode method_3_code 4 = .ok (.iconst 4, 1) := by decide +kernel
theorem d2_5 : decode method_3_code 5 = .ok (.ireturn, 1) := by decide +kernel
theorem d2_6 : decode method_3_code 6 = .ok (.iload_n 0, 1) := by decide +kernel
theorem d2_7 : decode method_3_code 7 = .ok (.iconst 1, 1) := by decide +kernel
theorem d2_8 : decode method_3_code 8 = .ok (.if_icmp .ne 5, 3) := by decide +kernel
theorem d2_11 : decode method_3_code 11 = .ok (.iconst 1, 1) := by decide +kernel
theorem d2_12 : decode method_3_code 12 = .ok (.ireturn, 1) := by decide +kernel
theorem d2_13 : decode method_3_code 13 = .ok (.iload_n 0, 1) := by decide +kernel
theorem d2_14 : decode method_3_code 14 = .ok (.iconst 2, 1) := by decide +kernel
theorem d2_15 : decode method_3_code 15 = .ok (.if_icmp .ne 5, 3) := by decide +kernel
theorem d2_18 : decode method_3_code 18 = .ok (.iconst 2, 1) := by decide +kernel
theorem d2_19 : decode method_3_code 19 = .ok (.ireturn, 1) := by decide +kernel
theorem d2_20 : decode method_3_code 20 = .ok (.iconst 3, 1) := by decide +kernel
theorem d2_21 : decode method_3_code 21 = .ok (.ireturn, 1) := by decide +kernel
theorem d3_0 : decode method_4_code 0 = .ok (.iload_n 0, 1) := by decide +kernel
theorem d3_1 : decode method_4_code 1 = .ok (.iload_n 1, 1) := by decide +kernel
theorem d3_2 : decode method_4_code 2 = .ok (.ior, 1) := by decide +kernel
theorem d3_3 : decode method_4_code 3 = .ok (.istore_n 2, 1) := by decide +kernel
theorem d3_4 : decode method_4_code 4 = .ok (.iload_n 2, 1) := by decide +kernel
theorem d3_5 : decode method_4_code 5 = .ok (.iconst 4, 1) := by decide +kernel
theorem d3_6 : decode method_4_code 6 = .ok (.if_icmp .ne 7, 3) := by decide +kernel
theorem d3_9 : decode method_4_code 9 = .ok (.getstatic 7, 3) := by decide +kernel
theorem d3_12 : decode method_4_code 12 = .ok (.areturn, 1) := by decide +kernel
theorem d3_13 : decode method_4_code 13 = .ok (.iload_n 2, 1) := by decide +kernel
theorem d3_14 : decode method_4_code 14 = .ok (.iconst 4, 1) := by decide +kernel
theorem d3_15 : decode method_4_code 15 = .ok (.iand, 1) := by decide +kernel
theorem d3_16 : decode method_4_code 16 = .ok (.ifCond .eq 5, 3) := by decide +kernel
theorem d3_19 : decode method_4_code 19 = .ok (.aconst_null, 1) := by decide +kernel
theorem d3_20 : decode method_4_code 20 = .ok (.areturn, 1) := by decide +kernel
theorem d3_21 : decode method_4_code 21 = .ok (.iload_n 2, 1) := by decide +kernel
theorem d3_22 : decode method_4_code 22 = .ok (.iconst 1, 1) := by decide +kernel
theorem d3_23 : decode method_4_code 23 = .ok (.if_icmp .ne 7, 3) := by decide +kernel
theorem d3_26 : decode method_4_code 26 = .ok (.getstatic 13, 3) := by decide +kernel
theorem d3_29 : decode method_4_code 29 = .ok (.areturn, 1) := by decide +kernel
theorem d3_30 : decode method_4_code 30 = .ok (.iload_n 2, 1) := by decide +kernel
theorem d3_31 : decode method_4_code 31 = .ok (.iconst 2, 1) := by decide +kernel
theorem d3_32 : decode method_4_code 32 = .ok (.if_icmp .ne 7, 3) := by decide +kernel
theorem d3_35 : decode method_4_code 35 = .ok (.getstatic 16, 3) := by decide +kernel
theorem d3_38 : decode method_4_code 38 = .ok (.areturn, 1) := by decide +kernel
theorem d3_39 : decode method_4_code 39 = .ok (.getstatic 19, 3) := by decide +kernel
theorem d3_42 : decode method_4_code 42 = .ok (.areturn, 1) := by decide +kernel
theorem d4_0 : decode prog_80_method_4_code 0 = .ok (.aload_n 0, 1) := by decide +kernel
theorem d4_1 : decode prog_80_method_4_code 1 = .ok (.aload_n 1, 1) := by decide +kernel
theorem d4_2 : decode prog_80_method_4_code 2 = .ok (.if_acmp .ne 8, 3) := by decide +kernel
theorem d4_5 : decode prog_80_method_4_code 5 = .ok (.aload_n 0, 1) := by decide +kernel
theorem d4_6 : decode prog_80_method_4_code 6 = .ok (.astore_n 2, 1) := by decide +kernel
theorem d4_7 : decode prog_80_method_4_code 7 = .ok (.goto 26, 3) := by decide +kernel
theorem d4_10 : decode prog_80_method_4_code 10 = .ok (.aload_n 0, 1) := by decide +kernel
theorem d4_11 : decode prog_80_method_4_code 11 = .ok (.getstatic 3, 3) := by decide +kernel
theorem d4_14 : decode prog_80_method_4_code 14 = .ok (.if_acmp .eq 10, 3) := by decide +kernel
theorem d4_17 : decode prog_80_method_4_code 17 = .ok (.aload_n 1, 1) := by decide +kernel
theorem d4_18 : decode prog_80_method_4_code 18 = .ok (.getstatic 3, 3) := by decide +kernel
theorem d4_21 : decode prog_80_method_4_code 21 = .ok (.if_acmp .ne 8, 3) := by decide +kernel
theorem d4_24 : decode prog_80_method_4_code 24 = .ok (.aconst_null, 1) := by decide +kernel
theorem d4_25 : decode prog_80_method_4_code 25 = .ok (.astore_n 2, 1) := by decide +kernel
theorem d4_26 : decode prog_80_method_4_code 26 = .ok (.goto 7, 3) := by decide +kernel
theorem d4_29 : decode prog_80_method_4_code 29 = .ok (.getstatic 13, 3) := by decide +kernel
theorem d4_32 : decode prog_80_method_4_code 32 = .ok (.astore_n 2, 1) := by decide +kernel
theorem d4_33 : decode prog_80_method_4_code 33 = .ok (.aload_n 2, 1) := by decide +kernel
theorem d4_34 : decode prog_80_method_4_code 34 = .ok (.areturn, 1) := by decide +kernel
theorem own_pd0 : parseMethodDescriptor "(I)Lcom/example/fates3/fates3/model/Kind;" = some ⟨[.int], some (.object "com/example/fates3/fates3/model/Kind")⟩ := by decide +kernel
theorem own_pd1 : parseMethodDescriptor "(I)I" = some ⟨[.int], some .int⟩ := by decide +kernel
theorem own_pd2 : parseMethodDescriptor "(II)Lcom/example/fates3/fates3/model/Kind;" = some ⟨[.int, .int], some (.object "com/example/fates3/fates3/model/Kind")⟩ := by decide +kernel
theorem own_pd3 : parseMethodDescriptor "(Lcom/example/fates3/fates3/model/Kind;)Lcom/example/fates3/fates3/model/Kind;" = some ⟨[(.object "com/example/fates3/fates3/model/Kind")], some (.object "com/example/fates3/fates3/model/Kind")⟩ := by decide +kernel
def own_env (Z : State) (h : Heap) (sBOOLEAN sINTEGER_OR_SYMBOLIC sSYMBOLIC sINTEGER : Addr) : Prop := Sta Z h "com/example/fates3/fates3/model/Kind" "BOOLEAN" "Lcom/example/fates3/fates3/model/Kind;" (.ref sBOOLEAN) ∧ Exa Z h sBOOLEAN "com/example/fates3/fates3/model/Kind" ∧ Sta Z h "com/example/fates3/fates3/model/Kind" "INTEGER_OR_SYMBOLIC" "Lcom/example/fates3/fates3/model/Kind;" (.ref sINTEGER_OR_SYMBOLIC) ∧ Exa Z h sINTEGER_OR_SYMBOLIC "com/example/fates3/fates3/model/Kind" ∧ Sta Z h "com/example/fates3/fates3/model/Kind" "SYMBOLIC" "Lcom/example/fates3/fates3/model/Kind;" (.ref sSYMBOLIC) ∧ Exa Z h sSYMBOLIC "com/example/fates3/fates3/model/Kind" ∧ Sta Z h "com/example/fates3/fates3/model/Kind" "INTEGER" "Lcom/example/fates3/fates3/model/Kind;" (.ref sINTEGER) ∧ Exa Z h sINTEGER "com/example/fates3/fates3/model/Kind" ∧ Fld Z h sBOOLEAN "java/lang/Enum" "ordinal" "I" (.int (0 : Int32)) ∧ Fld Z h sINTEGER_OR_SYMBOLIC "java/lang/Enum" "ordinal" "I" (.int (3 : Int32)) ∧ Fld Z h sSYMBOLIC "java/lang/Enum" "ordinal" "I" (.int (2 : Int32)) ∧ Fld Z h sINTEGER "java/lang/Enum" "ordinal" "I" (.int (1 : Int32))
set_option maxRecDepth 65536 in
set_option maxHeartbeats 40000000 in
theorem own_kind_0 (l : Launch) (Z : State) (a0 : Array Value) (hw : ∀ d ∈ tables_1, d.before a0 Z = true) (sBOOLEAN sINTEGER_OR_SYMBOLIC sSYMBOLIC sINTEGER : Addr) (h0 : Heap) (n0 : Nat) (hn : n0 ≤ h0.size) (G : own_env Z h0 sBOOLEAN sINTEGER_OR_SYMBOLIC sSYMBOLIC sINTEGER) :
    ConV l Z (⟨"com/example/fates3/fates3/model/KindJoinPinLaw", "kindOf", "(I)Lcom/example/fates3/fates3/model/Kind;"⟩ : MethodName) method_2_code 1 (some (.object "com/example/fates3/fates3/model/Kind")) ({ frames := 0, cells := 0, slots := 0, locals := 0 } : Room) #[(.int (0 : Int32))] h0 n0 (fun v h => h0 = h ∧ v = .ref sBOOLEAN) := by
  refine Con.of (plainFor_of_name (by first | (simp [plainName, overriddenIn]; done) | decide +kernel)) hn ?_
  intro p e s m below meth c T w X
  refine Gl.enter (ls := #[.val (.int (0 : Int32))]) (by first | rfl | (simp [entryFrame, mkF, argsToLocals, Value.category]; done)) ?_
  obtain ⟨S_sBOOLEAN, E_sBOOLEAN, S_sINTEGER_OR_SYMBOLIC, E_sINTEGER_OR_SYMBOLIC, S_sSYMBOLIC, E_sSYMBOLIC, S_sINTEGER, E_sINTEGER, L_sBOOLEAN_ordinal, L_sINTEGER_OR_SYMBOLIC_ordinal, L_sSYMBOLIC_ordinal, L_sINTEGER_ordinal⟩ := id G
  have ne_sBOOLEAN_sINTEGER_OR_SYMBOLIC : sBOOLEAN ≠ sINTEGER_OR_SYMBOLIC := L_sBOOLEAN_ordinal.ne L_sINTEGER_OR_SYMBOLIC_ordinal (by decide)
  have ne_sBOOLEAN_sSYMBOLIC : sBOOLEAN ≠ sSYMBOLIC := L_sBOOLEAN_ordinal.ne L_sSYMBOLIC_ordinal (by decide)
  have ne_sBOOLEAN_sINTEGER : sBOOLEAN ≠ sINTEGER := L_sBOOLEAN_ordinal.ne L_sINTEGER_ordinal (by decide)
  have ne_sINTEGER_OR_SYMBOLIC_sSYMBOLIC : sINTEGER_OR_SYMBOLIC ≠ sSYMBOLIC := L_sINTEGER_OR_SYMBOLIC_ordinal.ne L_sSYMBOLIC_ordinal (by decide)
  have ne_sINTEGER_OR_SYMBOLIC_sINTEGER : sINTEGER_OR_SYMBOLIC ≠ sINTEGER := L_sINTEGER_OR_SYMBOLIC_ordinal.ne L_sINTEGER_ordinal (by decide)
  have ne_sSYMBOLIC_sINTEGER : sSYMBOLIC ≠ sINTEGER := L_sSYMBOLIC_ordinal.ne L_sINTEGER_ordinal (by decide)
  refine gIloadN X w d1_0 rfl (n := 1) rfl ?_
  refine gIf_ne X w d1_1 (n := 8) (n' := 4) (by decide) rfl rfl ?_ ?_
  · rintro ⟨c1, c1'⟩
    exact absurd c1 (by decide)
  · rintro ⟨c1, c1'⟩
    refine gGetS X w (own_wd hw 4 rfl) Via.refl S_sBOOLEAN d1_4 (n := 7) rfl ?_
    intro T X
    exact gRetA X w rfl rfl rfl d1_7 (by decide) (by decide) (⟨_, rfl, rfl, rfl⟩)
set_option maxRecDepth 65536 in
set_option maxHeartbeats 40000000 in
theorem own_bits_0 (l : Launch) (Z : State) (a0 : Array Value) (hw : ∀ d ∈ tables_1, d.before a0 Z = true) (sBOOLEAN sINTEGER_OR_SYMBOLIC sSYMBOLIC sINTEGER : Addr) (h0 : Heap) (n0 : Nat) (hn : n0 ≤ h0.size) (G : own_env Z h0 sBOOLEAN sINTEGER_OR_SYMBOLIC sSYMBOLIC sINTEGER) :
    ConV l Z (⟨"com/example/fates3/fates3/model/KindJoinPinLaw", "bitsOf", "(I)I"⟩ : MethodName) method_3_code 1 (some .int) ({ frames := 0, cells := 0, slots := 0, locals := 0 } : Room) #[(.int (0 : Int32))] h0 n0 (fun v h => h0 = h ∧ v = .int 4) := by
  refine Con.of (plainFor_of_name (by first | (simp [plainName, overriddenIn]; done) | decide +kernel)) hn ?_
  intro p e s m below meth c T w X
  refine Gl.enter (ls := #[.val (.int (0 : Int32))]) (by first | rfl | (simp [entryFrame, mkF, argsToLocals, Value.category]; done)) ?_
  obtain ⟨S_sBOOLEAN, E_sBOOLEAN, S_sINTEGER_OR_SYMBOLIC, E_sINTEGER_OR_SYMBOLIC, S_sSYMBOLIC, E_sSYMBOLIC, S_sINTEGER, E_sINTEGER, L_sBOOLEAN_ordinal, L_sINTEGER_OR_SYMBOLIC_ordinal, L_sSYMBOLIC_ordinal, L_sINTEGER_ordinal⟩ := id G
  have ne_sBOOLEAN_sINTEGER_OR_SYMBOLIC : sBOOLEAN ≠ sINTEGER_OR_SYMBOLIC := L_sBOOLEAN_ordinal.ne L_sINTEGER_OR_SYMBOLIC_ordinal (by decide)
  have ne_sBOOLEAN_sSYMBOLIC : sBOOLEAN ≠ sSYMBOLIC := L_sBOOLEAN_ordinal.ne L_sSYMBOLIC_ordinal (by decide)
  have ne_sBOOLEAN_sINTEGER : sBOOLEAN ≠ sINTEGER := L_sBOOLEAN_ordinal.ne L_sINTEGER_ordinal (by decide)
  have ne_sINTEGER_OR_SYMBOLIC_sSYMBOLIC : sINTEGER_OR_SYMBOLIC ≠ sSYMBOLIC := L_sINTEGER_OR_SYMBOLIC_ordinal.ne L_sSYMBOLIC_ordinal (by decide)
  have ne_sINTEGER_OR_SYMBOLIC_sINTEGER : sINTEGER_OR_SYMBOLIC ≠ sINTEGER := L_sINTEGER_OR_SYMBOLIC_ordinal.ne L_sINTEGER_ordinal (by decide)
  have ne_sSYMBOLIC_sINTEGER : sSYMBOLIC ≠ sINTEGER := L_sSYMBOLIC_ordinal.ne L_sINTEGER_ordinal (by decide)
  refine gIloadN X w d2_0 rfl (n := 1) rfl ?_
  refine gIf_ne X w d2_1 (n := 6) (n' := 4) (by decide) rfl rfl ?_ ?_
  · rintro ⟨c1, c1'⟩
    exact absurd c1 (by decide)
  · rintro ⟨c1, c1'⟩
    refine gIconst X w d2_4 (z := (4 : Int32)) rfl (n := 5) rfl ?_
    exact gRetI X w rfl d2_5 (by decide) (by decide) (⟨_, rfl, rfl, rfl⟩)
set_option maxRecDepth 65536 in
set_option maxHeartbeats 40000000 in
theorem own_kind_1 (l : Launch) (Z : State) (a0 : Array Value) (hw : ∀ d ∈ tables_1, d.before a0 Z = true) (sBOOLEAN sINTEGER_OR_SYMBOLIC sSYMBOLIC sINTEGER : Addr) (h0 : Heap) (n0 : Nat) (hn : n0 ≤ h0.size) (G : own_env Z h0 sBOOLEAN sINTEGER_OR_SYMBOLIC sSYMBOLIC sINTEGER) :
    ConV l Z (⟨"com/example/fates3/fates3/model/KindJoinPinLaw", "kindOf", "(I)Lcom/example/fates3/fates3/model/Kind;"⟩ : MethodName) method_2_code 1 (some (.object "com/example/fates3/fates3/model/Kind")) ({ frames := 0, cells := 0, slots := 0, locals := 0 } : Room) #[(.int (1 : Int32))] h0 n0 (fun v h => h0 = h ∧ v = .ref sINTEGER) := by
  refine Con.of (plainFor_of_name (by first | (simp [plainName, overriddenIn]; done) | decide +kernel)) hn ?_
  intro p e s m below meth c T w X
  refine Gl.enter (ls := #[.val (.int (1 : Int32))]) (by first | rfl | (simp [entryFrame, mkF, argsToLocals, Value.category]; done)) ?_
  obtain ⟨S_sBOOLEAN, E_sBOOLEAN, S_sINTEGER_OR_SYMBOLIC, E_sINTEGER_OR_SYMBOLIC, S_sSYMBOLIC, E_sSYMBOLIC, S_sINTEGER, E_sINTEGER, L_sBOOLEAN_ordinal, L_sINTEGER_OR_SYMBOLIC_ordinal, L_sSYMBOLIC_ordinal, L_sINTEGER_ordinal⟩ := id G
  have ne_sBOOLEAN_sINTEGER_OR_SYMBOLIC : sBOOLEAN ≠ sINTEGER_OR_SYMBOLIC := L_sBOOLEAN_ordinal.ne L_sINTEGER_OR_SYMBOLIC_ordinal (by decide)
  have ne_sBOOLEAN_sSYMBOLIC : sBOOLEAN ≠ sSYMBOLIC := L_sBOOLEAN_ordinal.ne L_sSYMBOLIC_ordinal (by decide)
  have ne_sBOOLEAN_sINTEGER : sBOOLEAN ≠ sINTEGER := L_sBOOLEAN_ordinal.ne L_sINTEGER_ordinal (by decide)
  have ne_sINTEGER_OR_SYMBOLIC_sSYMBOLIC : sINTEGER_OR_SYMBOLIC ≠ sSYMBOLIC := L_sINTEGER_OR_SYMBOLIC_ordinal.ne L_sSYMBOLIC_ordinal (by decide)
  have ne_sINTEGER_OR_SYMBOLIC_sINTEGER : sINTEGER_OR_SYMBOLIC ≠ sINTEGER := L_sINTEGER_OR_SYMBOLIC_ordinal.ne L_sINTEGER_ordinal (by decide)
  have ne_sSYMBOLIC_sINTEGER : sSYMBOLIC ≠ sINTEGER := L_sSYMBOLIC_ordinal.ne L_sINTEGER_ordinal (by decide)
  refine gIloadN X w d1_0 rfl (n := 1) rfl ?_
  refine gIf_ne X w d1_1 (n := 8) (n' := 4) (by decide) rfl rfl ?_ ?_
  · rintro ⟨c1, c1'⟩
    refine gIloadN X w d1_8 rfl (n := 9) rfl ?_
    refine gIconst X w d1_9 (z := (1 : Int32)) rfl (n := 10) rfl ?_
    refine gIcmp_ne X w d1_10 (n := 17) (n' := 13) (by decide) rfl rfl ?_ ?_
    · rintro ⟨c10, c10'⟩
      exact absurd c10 (by decide)
    · rintro ⟨c10, c10'⟩
      refine gGetS X w (own_wd hw 23 rfl) Via.refl S_sINTEGER d1_13 (n := 16) rfl ?_
      intro T X
      exact gRetA X w rfl rfl rfl d1_16 (by decide) (by decide) (⟨_, rfl, rfl, rfl⟩)
  · rintro ⟨c1, c1'⟩
    exact absurd c1 (by decide)
set_option maxRecDepth 65536 in
set_option maxHeartbeats 40000000 in
theorem own_bits_1 (l : Launch) (Z : State) (a0 : Array Value) (hw : ∀ d ∈ tables_1, d.before a0 Z = true) (sBOOLEAN sINTEGER_OR_SYMBOLIC sSYMBOLIC sINTEGER : Addr) (h0 : Heap) (n0 : Nat) (hn : n0 ≤ h0.size) (G : own_env Z h0 sBOOLEAN sINTEGER_OR_SYMBOLIC sSYMBOLIC sINTEGER) :
    ConV l Z (⟨"com/example/fates3/fates3/model/KindJoinPinLaw", "bitsOf", "(I)I"⟩ : MethodName) method_3_code 1 (some .int) ({ frames := 0, cells := 0, slots := 0, locals := 0 } : Room) #[(.int (1 : Int32))] h0 n0 (fun v h => h0 = h ∧ v = .int 1) := by
  refine Con.of (plainFor_of_name (by first | (simp [plainName, overriddenIn]; done) | decide +kernel)) hn ?_
  intro p e s m below meth c T w X
  refine Gl.enter (ls := #[.val (.int (1 : Int32))]) (by first | rfl | (simp [entryFrame, mkF, argsToLocals, Value.category]; done)) ?_
  obtain ⟨S_sBOOLEAN, E_sBOOLEAN, S_sINTEGER_OR_SYMBOLIC, E_sINTEGER_OR_SYMBOLIC, S_sSYMBOLIC, E_sSYMBOLIC, S_sINTEGER, E_sINTEGER, L_sBOOLEAN_ordinal, L_sINTEGER_OR_SYMBOLIC_ordinal, L_sSYMBOLIC_ordinal, L_sINTEGER_ordinal⟩ := id G
  have ne_sBOOLEAN_sINTEGER_OR_SYMBOLIC : sBOOLEAN ≠ sINTEGER_OR_SYMBOLIC := L_sBOOLEAN_ordinal.ne L_sINTEGER_OR_SYMBOLIC_ordinal (by decide)
  have ne_sBOOLEAN_sSYMBOLIC : sBOOLEAN ≠ sSYMBOLIC := L_sBOOLEAN_ordinal.ne L_sSYMBOLIC_ordinal (by decide)
  have ne_sBOOLEAN_sINTEGER : sBOOLEAN ≠ sINTEGER := L_sBOOLEAN_ordinal.ne L_sINTEGER_ordinal (by decide)
  have ne_sINTEGER_OR_SYMBOLIC_sSYMBOLIC : sINTEGER_OR_SYMBOLIC ≠ sSYMBOLIC := L_sINTEGER_OR_SYMBOLIC_ordinal.ne L_sSYMBOLIC_ordinal (by decide)
  have ne_sINTEGER_OR_SYMBOLIC_sINTEGER : sINTEGER_OR_SYMBOLIC ≠ sINTEGER := L_sINTEGER_OR_SYMBOLIC_ordinal.ne L_sINTEGER_ordinal (by decide)
  have ne_sSYMBOLIC_sINTEGER : sSYMBOLIC ≠ sINTEGER := L_sSYMBOLIC_ordinal.ne L_sINTEGER_ordinal (by decide)
  refine gIloadN X w d2_0 rfl (n := 1) rfl ?_
  refine gIf_ne X w d2_1 (n := 6) (n' := 4) (by decide) rfl rfl ?_ ?_
  · rintro ⟨c1, c1'⟩
    refine gIloadN X w d2_6 rfl (n := 7) rfl ?_
    refine gIconst X w d2_7 (z := (1 : Int32)) rfl (n := 8) rfl ?_
    refine gIcmp_ne X w d2_8 (n := 13) (n' := 11) (by decide) rfl rfl ?_ ?_
    · rintro ⟨c8, c8'⟩
      exact absurd c8 (by decide)
    · rintro ⟨c8, c8'⟩
      refine gIconst X w d2_11 (z := (1 : Int32)) rfl (n := 12) rfl ?_
      exact gRetI X w rfl d2_12 (by decide) (by decide) (⟨_, rfl, rfl, rfl⟩)
  · rintro ⟨c1, c1'⟩
    exact absurd c1 (by decide)
set_option maxRecDepth 65536 in
set_option maxHeartbeats 40000000 in
theorem own_kind_2 (l : Launch) (Z : State) (a0 : Array Value) (hw : ∀ d ∈ tables_1, d.before a0 Z = true) (sBOOLEAN sINTEGER_OR_SYMBOLIC sSYMBOLIC sINTEGER : Addr) (h0 : Heap) (n0 : Nat) (hn : n0 ≤ h0.size) (G : own_env Z h0 sBOOLEAN sINTEGER_OR_SYMBOLIC sSYMBOLIC sINTEGER) :
    ConV l Z (⟨"com/example/fates3/fates3/model/KindJoinPinLaw", "kindOf", "(I)Lcom/example/fates3/fates3/model/Kind;"⟩ : MethodName) method_2_code 1 (some (.object "com/example/fates3/fates3/model/Kind")) ({ frames := 0, cells := 0, slots := 0, locals := 0 } : Room) #[(.int (2 : Int32))] h0 n0 (fun v h => h0 = h ∧ v = .ref sSYMBOLIC) := by
  refine Con.of (plainFor_of_name (by first | (simp [plainName, overriddenIn]; done) | decide +kernel)) hn ?_
  intro p e s m below meth c T w X
  refine Gl.enter (ls := #[.val (.int (2 : Int32))]) (by first | rfl | (simp [entryFrame, mkF, argsToLocals, Value.category]; done)) ?_
  obtain ⟨S_sBOOLEAN, E_sBOOLEAN, S_sINTEGER_OR_SYMBOLIC, E_sINTEGER_OR_SYMBOLIC, S_sSYMBOLIC, E_sSYMBOLIC, S_sINTEGER, E_sINTEGER, L_sBOOLEAN_ordinal, L_sINTEGER_OR_SYMBOLIC_ordinal, L_sSYMBOLIC_ordinal, L_sINTEGER_ordinal⟩ := id G
  have ne_sBOOLEAN_sINTEGER_OR_SYMBOLIC : sBOOLEAN ≠ sINTEGER_OR_SYMBOLIC := L_sBOOLEAN_ordinal.ne L_sINTEGER_OR_SYMBOLIC_ordinal (by decide)
  have ne_sBOOLEAN_sSYMBOLIC : sBOOLEAN ≠ sSYMBOLIC := L_sBOOLEAN_ordinal.ne L_sSYMBOLIC_ordinal (by decide)
  have ne_sBOOLEAN_sINTEGER : sBOOLEAN ≠ sINTEGER := L_sBOOLEAN_ordinal.ne L_sINTEGER_ordinal (by decide)
  have ne_sINTEGER_OR_SYMBOLIC_sSYMBOLIC : sINTEGER_OR_SYMBOLIC ≠ sSYMBOLIC := L_sINTEGER_OR_SYMBOLIC_ordinal.ne L_sSYMBOLIC_ordinal (by decide)
  have ne_sINTEGER_OR_SYMBOLIC_sINTEGER : sINTEGER_OR_SYMBOLIC ≠ sINTEGER := L_sINTEGER_OR_SYMBOLIC_ordinal.ne L_sINTEGER_ordinal (by decide)
  have ne_sSYMBOLIC_sINTEGER : sSYMBOLIC ≠ sINTEGER := L_sSYMBOLIC_ordinal.ne L_sINTEGER_ordinal (by decide)
  refine gIloadN X w d1_0 rfl (n := 1) rfl ?_
  refine gIf_ne X w d1_1 (n := 8) (n' := 4) (by decide) rfl rfl ?_ ?_
  · rintro ⟨c1, c1'⟩
    refine gIloadN X w d1_8 rfl (n := 9) rfl ?_
    refine gIconst X w d1_9 (z := (1 : Int32)) rfl (n := 10) rfl ?_
    refine gIcmp_ne X w d1_10 (n := 17) (n' := 13) (by decide) rfl rfl ?_ ?_
    · rintro ⟨c10, c10'⟩
      refine gIloadN X w d1_17 rfl (n := 18) rfl ?_
      refine gIconst X w d1_18 (z := (2 : Int32)) rfl (n := 19) rfl ?_
      refine gIcmp_ne X w d1_19 (n := 26) (n' := 22) (by decide) rfl rfl ?_ ?_
      · rintro ⟨c19, c19'⟩
        exact absurd c19 (by decide)
      · rintro ⟨c19, c19'⟩
        refine gGetS X w (own_wd hw 21 rfl) Via.refl S_sSYMBOLIC d1_22 (n := 25) rfl ?_
        intro T X
        exact gRetA X w rfl rfl rfl d1_25 (by decide) (by decide) (⟨_, rfl, rfl, rfl⟩)
    · rintro ⟨c10, c10'⟩
      exact absurd c10 (by decide)
  · rintro ⟨c1, c1'⟩
    exact absurd c1 (by decide)
set_option maxRecDepth 65536 in
set_option maxHeartbeats 40000000 in
theorem own_bits_2 (l : Launch) (Z : State) (a0 : Array Value) (hw : ∀ d ∈ tables_1, d.before a0 Z = true) (sBOOLEAN sINTEGER_OR_SYMBOLIC sSYMBOLIC sINTEGER : Addr) (h0 : Heap) (n0 : Nat) (hn : n0 ≤ h0.size) (G : own_env Z h0 sBOOLEAN sINTEGER_OR_SYMBOLIC sSYMBOLIC sINTEGER) :
    ConV l Z (⟨"com/example/fates3/fates3/model/KindJoinPinLaw", "bitsOf", "(I)I"⟩ : MethodName) method_3_code 1 (some .int) ({ frames := 0, cells := 0, slots := 0, locals := 0 } : Room) #[(.int (2 : Int32))] h0 n0 (fun v h => h0 = h ∧ v = .int 2) := by
  refine Con.of (plainFor_of_name (by first | (simp [plainName, overriddenIn]; done) | decide +kernel)) hn ?_
  intro p e s m below meth c T w X
  refine Gl.enter (ls := #[.val (.int (2 : Int32))]) (by first | rfl | (simp [entryFrame, mkF, argsToLocals, Value.category]; done)) ?_
  obtain ⟨S_sBOOLEAN, E_sBOOLEAN, S_sINTEGER_OR_SYMBOLIC, E_sINTEGER_OR_SYMBOLIC, S_sSYMBOLIC, E_sSYMBOLIC, S_sINTEGER, E_sINTEGER, L_sBOOLEAN_ordinal, L_sINTEGER_OR_SYMBOLIC_ordinal, L_sSYMBOLIC_ordinal, L_sINTEGER_ordinal⟩ := id G
  have ne_sBOOLEAN_sINTEGER_OR_SYMBOLIC : sBOOLEAN ≠ sINTEGER_OR_SYMBOLIC := L_sBOOLEAN_ordinal.ne L_sINTEGER_OR_SYMBOLIC_ordinal (by decide)
  have ne_sBOOLEAN_sSYMBOLIC : sBOOLEAN ≠ sSYMBOLIC := L_sBOOLEAN_ordinal.ne L_sSYMBOLIC_ordinal (by decide)
  have ne_sBOOLEAN_sINTEGER : sBOOLEAN ≠ sINTEGER := L_sBOOLEAN_ordinal.ne L_sINTEGER_ordinal (by decide)
  have ne_sINTEGER_OR_SYMBOLIC_sSYMBOLIC : sINTEGER_OR_SYMBOLIC ≠ sSYMBOLIC := L_sINTEGER_OR_SYMBOLIC_ordinal.ne L_sSYMBOLIC_ordinal (by decide)
  have ne_sINTEGER_OR_SYMBOLIC_sINTEGER : sINTEGER_OR_SYMBOLIC ≠ sINTEGER := L_sINTEGER_OR_SYMBOLIC_ordinal.ne L_sINTEGER_ordinal (by decide)
  have ne_sSYMBOLIC_sINTEGER : sSYMBOLIC ≠ sINTEGER := L_sSYMBOLIC_ordinal.ne L_sINTEGER_ordinal (by decide)
  refine gIloadN X w d2_0 rfl (n := 1) rfl ?_
  refine gIf_ne X w d2_1 (n := 6) (n' := 4) (by decide) rfl rfl ?_ ?_
  · rintro ⟨c1, c1'⟩
    refine gIloadN X w d2_6 rfl (n := 7) rfl ?_
    refine gIconst X w d2_7 (z := (1 : Int32)) rfl (n := 8) rfl ?_
    refine gIcmp_ne X w d2_8 (n := 13) (n' := 11) (by decide) rfl rfl ?_ ?_
    · rintro ⟨c8, c8'⟩
      refine gIloadN X w d2_13 rfl (n := 14) rfl ?_
      refine gIconst X w d2_14 (z := (2 : Int32)) rfl (n := 15) rfl ?_
      refine gIcmp_ne X w d2_15 (n := 20) (n' := 18) (by decide) rfl rfl ?_ ?_
      · rintro ⟨c15, c15'⟩
        exact absurd c15 (by decide)
      · rintro ⟨c15, c15'⟩
        refine gIconst X w d2_18 (z := (2 : Int32)) rfl (n := 19) rfl ?_
        exact gRetI X w rfl d2_19 (by decide) (by decide) (⟨_, rfl, rfl, rfl⟩)
    · rintro ⟨c8, c8'⟩
      exact absurd c8 (by decide)
  · rintro ⟨c1, c1'⟩
    exact absurd c1 (by decide)
set_option maxRecDepth 65536 in
set_option maxHeartbeats 40000000 in
theorem own_kind_3 (l : Launch) (Z : State) (a0 : Array Value) (hw : ∀ d ∈ tables_1, d.before a0 Z = true) (sBOOLEAN sINTEGER_OR_SYMBOLIC sSYMBOLIC sINTEGER : Addr) (h0 : Heap) (n0 : Nat) (hn : n0 ≤ h0.size) (G : own_env Z h0 sBOOLEAN sINTEGER_OR_SYMBOLIC sSYMBOLIC sINTEGER) :
    ConV l Z (⟨"com/example/fates3/fates3/model/KindJoinPinLaw", "kindOf", "(I)Lcom/example/fates3/fates3/model/Kind;"⟩ : MethodName) method_2_code 1 (some (.object "com/example/fates3/fates3/model/Kind")) ({ frames := 0, cells := 0, slots := 0, locals := 0 } : Room) #[(.int (3 : Int32))] h0 n0 (fun v h => h0 = h ∧ v = .ref sINTEGER_OR_SYMBOLIC) := by
  refine Con.of (plainFor_of_name (by first | (simp [plainName, overriddenIn]; done) | decide +kernel)) hn ?_
  intro p e s m below meth c T w X
  refine Gl.enter (ls := #[.val (.int (3 : Int32))]) (by first | rfl | (simp [entryFrame, mkF, argsToLocals, Value.category]; done)) ?_
  obtain ⟨S_sBOOLEAN, E_sBOOLEAN, S_sINTEGER_OR_SYMBOLIC, E_sINTEGER_OR_SYMBOLIC, S_sSYMBOLIC, E_sSYMBOLIC, S_sINTEGER, E_sINTEGER, L_sBOOLEAN_ordinal, L_sINTEGER_OR_SYMBOLIC_ordinal, L_sSYMBOLIC_ordinal, L_sINTEGER_ordinal⟩ := id G
  have ne_sBOOLEAN_sINTEGER_OR_SYMBOLIC : sBOOLEAN ≠ sINTEGER_OR_SYMBOLIC := L_sBOOLEAN_ordinal.ne L_sINTEGER_OR_SYMBOLIC_ordinal (by decide)
  have ne_sBOOLEAN_sSYMBOLIC : sBOOLEAN ≠ sSYMBOLIC := L_sBOOLEAN_ordinal.ne L_sSYMBOLIC_ordinal (by decide)
  have ne_sBOOLEAN_sINTEGER : sBOOLEAN ≠ sINTEGER := L_sBOOLEAN_ordinal.ne L_sINTEGER_ordinal (by decide)
  have ne_sINTEGER_OR_SYMBOLIC_sSYMBOLIC : sINTEGER_OR_SYMBOLIC ≠ sSYMBOLIC := L_sINTEGER_OR_SYMBOLIC_ordinal.ne L_sSYMBOLIC_ordinal (by decide)
  have ne_sINTEGER_OR_SYMBOLIC_sINTEGER : sINTEGER_OR_SYMBOLIC ≠ sINTEGER := L_sINTEGER_OR_SYMBOLIC_ordinal.ne L_sINTEGER_ordinal (by decide)
  have ne_sSYMBOLIC_sINTEGER : sSYMBOLIC ≠ sINTEGER := L_sSYMBOLIC_ordinal.ne L_sINTEGER_ordinal (by decide)
  refine gIloadN X w d1_0 rfl (n := 1) rfl ?_
  refine gIf_ne X w d1_1 (n := 8) (n' := 4) (by decide) rfl rfl ?_ ?_
  · rintro ⟨c1, c1'⟩
    refine gIloadN X w d1_8 rfl (n := 9) rfl ?_
    refine gIconst X w d1_9 (z := (1 : Int32)) rfl (n := 10) rfl ?_
    refine gIcmp_ne X w d1_10 (n := 17) (n' := 13) (by decide) rfl rfl ?_ ?_
    · rintro ⟨c10, c10'⟩
      refine gIloadN X w d1_17 rfl (n := 18) rfl ?_
      refine gIconst X w d1_18 (z := (2 : Int32)) rfl (n := 19) rfl ?_
      refine gIcmp_ne X w d1_19 (n := 26) (n' := 22) (by decide) rfl rfl ?_ ?_
      · rintro ⟨c19, c19'⟩
        refine gGetS X w (own_wd hw 7 rfl) Via.refl S_sINTEGER_OR_SYMBOLIC d1_26 (n := 29) rfl ?_
        intro T X
        exact gRetA X w rfl rfl rfl d1_29 (by decide) (by decide) (⟨_, rfl, rfl, rfl⟩)
      · rintro ⟨c19, c19'⟩
        exact absurd c19 (by decide)
    · rintro ⟨c10, c10'⟩
      exact absurd c10 (by decide)
  · rintro ⟨c1, c1'⟩
    exact absurd c1 (by decide)
set_option maxRecDepth 65536 in
set_option maxHeartbeats 40000000 in
theorem own_bits_3 (l : Launch) (Z : State) (a0 : Array Value) (hw : ∀ d ∈ tables_1, d.before a0 Z = true) (sBOOLEAN sINTEGER_OR_SYMBOLIC sSYMBOLIC sINTEGER : Addr) (h0 : Heap) (n0 : Nat) (hn : n0 ≤ h0.size) (G : own_env Z h0 sBOOLEAN sINTEGER_OR_SYMBOLIC sSYMBOLIC sINTEGER) :
    ConV l Z (⟨"com/example/fates3/fates3/model/KindJoinPinLaw", "bitsOf", "(I)I"⟩ : MethodName) method_3_code 1 (some .int) ({ frames := 0, cells := 0, slots := 0, locals := 0 } : Room) #[(.int (3 : Int32))] h0 n0 (fun v h => h0 = h ∧ v = .int 3) := by
  refine Con.of (plainFor_of_name (by first | (simp [plainName, overriddenIn]; done) | decide +kernel)) hn ?_
  intro p e s m below meth c T w X
  refine Gl.enter (ls := #[.val (.int (3 : Int32))]) (by first | rfl | (simp [entryFrame, mkF, argsToLocals, Value.category]; done)) ?_
  obtain ⟨S_sBOOLEAN, E_sBOOLEAN, S_sINTEGER_OR_SYMBOLIC, E_sINTEGER_OR_SYMBOLIC, S_sSYMBOLIC, E_sSYMBOLIC, S_sINTEGER, E_sINTEGER, L_sBOOLEAN_ordinal, L_sINTEGER_OR_SYMBOLIC_ordinal, L_sSYMBOLIC_ordinal, L_sINTEGER_ordinal⟩ := id G
  have ne_sBOOLEAN_sINTEGER_OR_SYMBOLIC : sBOOLEAN ≠ sINTEGER_OR_SYMBOLIC := L_sBOOLEAN_ordinal.ne L_sINTEGER_OR_SYMBOLIC_ordinal (by decide)
  have ne_sBOOLEAN_sSYMBOLIC : sBOOLEAN ≠ sSYMBOLIC := L_sBOOLEAN_ordinal.ne L_sSYMBOLIC_ordinal (by decide)
  have ne_sBOOLEAN_sINTEGER : sBOOLEAN ≠ sINTEGER := L_sBOOLEAN_ordinal.ne L_sINTEGER_ordinal (by decide)
  have ne_sINTEGER_OR_SYMBOLIC_sSYMBOLIC : sINTEGER_OR_SYMBOLIC ≠ sSYMBOLIC := L_sINTEGER_OR_SYMBOLIC_ordinal.ne L_sSYMBOLIC_ordinal (by decide)
  have ne_sINTEGER_OR_SYMBOLIC_sINTEGER : sINTEGER_OR_SYMBOLIC ≠ sINTEGER := L_sINTEGER_OR_SYMBOLIC_ordinal.ne L_sINTEGER_ordinal (by decide)
  have ne_sSYMBOLIC_sINTEGER : sSYMBOLIC ≠ sINTEGER := L_sSYMBOLIC_ordinal.ne L_sINTEGER_ordinal (by decide)
  refine gIloadN X w d2_0 rfl (n := 1) rfl ?_
  refine gIf_ne X w d2_1 (n := 6) (n' := 4) (by decide) rfl rfl ?_ ?_
  · rintro ⟨c1, c1'⟩
    refine gIloadN X w d2_6 rfl (n := 7) rfl ?_
    refine gIconst X w d2_7 (z := (1 : Int32)) rfl (n := 8) rfl ?_
    refine gIcmp_ne X w d2_8 (n := 13) (n' := 11) (by decide) rfl rfl ?_ ?_
    · rintro ⟨c8, c8'⟩
      refine gIloadN X w d2_13 rfl (n := 14) rfl ?_
      refine gIconst X w d2_14 (z := (2 : Int32)) rfl (n := 15) rfl ?_
      refine gIcmp_ne X w d2_15 (n := 20) (n' := 18) (by decide) rfl rfl ?_ ?_
      · rintro ⟨c15, c15'⟩
        refine gIconst X w d2_20 (z := (3 : Int32)) rfl (n := 21) rfl ?_
        exact gRetI X w rfl d2_21 (by decide) (by decide) (⟨_, rfl, rfl, rfl⟩)
      · rintro ⟨c15, c15'⟩
        exact absurd c15 (by decide)
    · rintro ⟨c8, c8'⟩
      exact absurd c8 (by decide)
  · rintro ⟨c1, c1'⟩
    exact absurd c1 (by decide)
set_option maxRecDepth 65536 in
set_option maxHeartbeats 40000000 in
theorem own_exp_44 (l : Launch) (Z : State) (a0 : Array Value) (hw : ∀ d ∈ tables_1, d.before a0 Z = true) (sBOOLEAN sINTEGER_OR_SYMBOLIC sSYMBOLIC sINTEGER : Addr) (h0 : Heap) (n0 : Nat) (hn : n0 ≤ h0.size) (G : own_env Z h0 sBOOLEAN sINTEGER_OR_SYMBOLIC sSYMBOLIC sINTEGER) :
    ConV l Z (⟨"com/example/fates3/fates3/model/KindJoinPinLaw", "expected", "(II)Lcom/example/fates3/fates3/model/Kind;"⟩ : MethodName) method_4_code 3 (some (.object "com/example/fates3/fates3/model/Kind")) ({ frames := 0, cells := 0, slots := 0, locals := 0 } : Room) #[(.int (4 : Int32)), (.int (4 : Int32))] h0 n0 (fun v h => h0 = h ∧ v = .ref sBOOLEAN) := by
  refine Con.of (plainFor_of_name (by first | (simp [plainName, overriddenIn]; done) | decide +kernel)) hn ?_
  intro p e s m below meth c T w X
  refine Gl.enter (ls := #[.val (.int (4 : Int32)), .val (.int (4 : Int32)), .unset]) (by first | rfl | (simp [entryFrame, mkF, argsToLocals, Value.category]; done)) ?_
  obtain ⟨S_sBOOLEAN, E_sBOOLEAN, S_sINTEGER_OR_SYMBOLIC, E_sINTEGER_OR_SYMBOLIC, S_sSYMBOLIC, E_sSYMBOLIC, S_sINTEGER, E_sINTEGER, L_sBOOLEAN_ordinal, L_sINTEGER_OR_SYMBOLIC_ordinal, L_sSYMBOLIC_ordinal, L_sINTEGER_ordinal⟩ := id G
  have ne_sBOOLEAN_sINTEGER_OR_SYMBOLIC : sBOOLEAN ≠ sINTEGER_OR_SYMBOLIC := L_sBOOLEAN_ordinal.ne L_sINTEGER_OR_SYMBOLIC_ordinal (by decide)
  have ne_sBOOLEAN_sSYMBOLIC : sBOOLEAN ≠ sSYMBOLIC := L_sBOOLEAN_ordinal.ne L_sSYMBOLIC_ordinal (by decide)
  have ne_sBOOLEAN_sINTEGER : sBOOLEAN ≠ sINTEGER := L_sBOOLEAN_ordinal.ne L_sINTEGER_ordinal (by decide)
  have ne_sINTEGER_OR_SYMBOLIC_sSYMBOLIC : sINTEGER_OR_SYMBOLIC ≠ sSYMBOLIC := L_sINTEGER_OR_SYMBOLIC_ordinal.ne L_sSYMBOLIC_ordinal (by decide)
  have ne_sINTEGER_OR_SYMBOLIC_sINTEGER : sINTEGER_OR_SYMBOLIC ≠ sINTEGER := L_sINTEGER_OR_SYMBOLIC_ordinal.ne L_sINTEGER_ordinal (by decide)
  have ne_sSYMBOLIC_sINTEGER : sSYMBOLIC ≠ sINTEGER := L_sSYMBOLIC_ordinal.ne L_sINTEGER_ordinal (by decide)
  refine gIloadN X w d3_0 rfl (n := 1) rfl ?_
  refine gIloadN X w d3_1 rfl (n := 2) rfl ?_
  refine gIor X w d3_2 (z := (4 : Int32)) (by decide) (n := 3) rfl ?_
  refine gIstoreN X w d3_3 #[.val (.int (4 : Int32)), .val (.int (4 : Int32)), .val (.int (4 : Int32))] rfl (n := 4) rfl ?_
  refine gIloadN X w d3_4 rfl (n := 5) rfl ?_
  refine gIconst X w d3_5 (z := (4 : Int32)) rfl (n := 6) rfl ?_
  refine gIcmp_ne X w d3_6 (n := 13) (n' := 9) (by decide) rfl rfl ?_ ?_
  · rintro ⟨c6, c6'⟩
    exact absurd c6 (by decide)
  · rintro ⟨c6, c6'⟩
    refine gGetS X w (own_wd hw 4 rfl) Via.refl S_sBOOLEAN d3_9 (n := 12) rfl ?_
    intro T X
    exact gRetA X w rfl rfl rfl d3_12 (by decide) (by decide) (⟨_, rfl, rfl, rfl⟩)
set_option maxRecDepth 65536 in
set_option maxHeartbeats 40000000 in
theorem own_exp_41 (l : Launch) (Z : State) (a0 : Array Value) (hw : ∀ d ∈ tables_1, d.before a0 Z = true) (sBOOLEAN sINTEGER_OR_SYMBOLIC sSYMBOLIC sINTEGER : Addr) (h0 : Heap) (n0 : Nat) (hn : n0 ≤ h0.size) (G : own_env Z h0 sBOOLEAN sINTEGER_OR_SYMBOLIC sSYMBOLIC sINTEGER) :
    ConV l Z (⟨"com/example/fates3/fates3/model/KindJoinPinLaw", "expected", "(II)Lcom/example/fates3/fates3/model/Kind;"⟩ : MethodName) method_4_code 3 (some (.object "com/example/fates3/fates3/model/Kind")) ({ frames := 0, cells := 0, slots := 0, locals := 0 } : Room) #[(.int (4 : Int32)), (.int (1 : Int32))] h0 n0 (fun v h => h0 = h ∧ v = .null) := by
  refine Con.of (plainFor_of_name (by first | (simp [plainName, overriddenIn]; done) | decide +kernel)) hn ?_
  intro p e s m below meth c T w X
  refine Gl.enter (ls := #[.val (.int (4 : Int32)), .val (.int (1 : Int32)), .unset]) (by first | rfl | (simp [entryFrame, mkF, argsToLocals, Value.category]; done)) ?_
  obtain ⟨S_sBOOLEAN, E_sBOOLEAN, S_sINTEGER_OR_SYMBOLIC, E_sINTEGER_OR_SYMBOLIC, S_sSYMBOLIC, E_sSYMBOLIC, S_sINTEGER, E_sINTEGER, L_sBOOLEAN_ordinal, L_sINTEGER_OR_SYMBOLIC_ordinal, L_sSYMBOLIC_ordinal, L_sINTEGER_ordinal⟩ := id G
  have ne_sBOOLEAN_sINTEGER_OR_SYMBOLIC : sBOOLEAN ≠ sINTEGER_OR_SYMBOLIC := L_sBOOLEAN_ordinal.ne L_sINTEGER_OR_SYMBOLIC_ordinal (by decide)
  have ne_sBOOLEAN_sSYMBOLIC : sBOOLEAN ≠ sSYMBOLIC := L_sBOOLEAN_ordinal.ne L_sSYMBOLIC_ordinal (by decide)
  have ne_sBOOLEAN_sINTEGER : sBOOLEAN ≠ sINTEGER := L_sBOOLEAN_ordinal.ne L_sINTEGER_ordinal (by decide)
  have ne_sINTEGER_OR_SYMBOLIC_sSYMBOLIC : sINTEGER_OR_SYMBOLIC ≠ sSYMBOLIC := L_sINTEGER_OR_SYMBOLIC_ordinal.ne L_sSYMBOLIC_ordinal (by decide)
  have ne_sINTEGER_OR_SYMBOLIC_sINTEGER : sINTEGER_OR_SYMBOLIC ≠ sINTEGER := L_sINTEGER_OR_SYMBOLIC_ordinal.ne L_sINTEGER_ordinal (by decide)
  have ne_sSYMBOLIC_sINTEGER : sSYMBOLIC ≠ sINTEGER := L_sSYMBOLIC_ordinal.ne L_sINTEGER_ordinal (by decide)
  refine gIloadN X w d3_0 rfl (n := 1) rfl ?_
  refine gIloadN X w d3_1 rfl (n := 2) rfl ?_
  refine gIor X w d3_2 (z := (5 : Int32)) (by decide) (n := 3) rfl ?_
  refine gIstoreN X w d3_3 #[.val (.int (4 : Int32)), .val (.int (1 : Int32)), .val (.int (5 : Int32))] rfl (n := 4) rfl ?_
  refine gIloadN X w d3_4 rfl (n := 5) rfl ?_
  refine gIconst X w d3_5 (z := (4 : Int32)) rfl (n := 6) rfl ?_
  refine gIcmp_ne X w d3_6 (n := 13) (n' := 9) (by decide) rfl rfl ?_ ?_
  · rintro ⟨c6, c6'⟩
    refine gIloadN X w d3_13 rfl (n := 14) rfl ?_
    refine gIconst X w d3_14 (z := (4 : Int32)) rfl (n := 15) rfl ?_
    refine gIand X w d3_15 (z := (4 : Int32)) (by decide) (n := 16) rfl ?_
    refine gIf_eq X w d3_16 (n := 21) (n' := 19) (by decide) rfl rfl ?_ ?_
    · rintro ⟨c16, c16'⟩
      exact absurd c16 (by decide)
    · rintro ⟨c16, c16'⟩
      refine gNull X w d3_19 (n := 20) rfl ?_
      exact gRetA X w rfl rfl rfl d3_20 (by decide) (by decide) (⟨_, rfl, rfl, rfl⟩)
  · rintro ⟨c6, c6'⟩
    exact absurd c6 (by decide)
set_option maxRecDepth 65536 in
set_option maxHeartbeats 40000000 in
theorem own_exp_42 (l : Launch) (Z : State) (a0 : Array Value) (hw : ∀ d ∈ tables_1, d.before a0 Z = true) (sBOOLEAN sINTEGER_OR_SYMBOLIC sSYMBOLIC sINTEGER : Addr) (h0 : Heap) (n0 : Nat) (hn : n0 ≤ h0.size) (G : own_env Z h0 sBOOLEAN sINTEGER_OR_SYMBOLIC sSYMBOLIC sINTEGER) :
    ConV l Z (⟨"com/example/fates3/fates3/model/KindJoinPinLaw", "expected", "(II)Lcom/example/fates3/fates3/model/Kind;"⟩ : MethodName) method_4_code 3 (some (.object "com/example/fates3/fates3/model/Kind")) ({ frames := 0, cells := 0, slots := 0, locals := 0 } : Room) #[(.int (4 : Int32)), (.int (2 : Int32))] h0 n0 (fun v h => h0 = h ∧ v = .null) := by
  refine Con.of (plainFor_of_name (by first | (simp [plainName, overriddenIn]; done) | decide +kernel)) hn ?_
  intro p e s m below meth c T w X
  refine Gl.enter (ls := #[.val (.int (4 : Int32)), .val (.int (2 : Int32)), .unset]) (by first | rfl | (simp [entryFrame, mkF, argsToLocals, Value.category]; done)) ?_
  obtain ⟨S_sBOOLEAN, E_sBOOLEAN, S_sINTEGER_OR_SYMBOLIC, E_sINTEGER_OR_SYMBOLIC, S_sSYMBOLIC, E_sSYMBOLIC, S_sINTEGER, E_sINTEGER, L_sBOOLEAN_ordinal, L_sINTEGER_OR_SYMBOLIC_ordinal, L_sSYMBOLIC_ordinal, L_sINTEGER_ordinal⟩ := id G
  have ne_sBOOLEAN_sINTEGER_OR_SYMBOLIC : sBOOLEAN ≠ sINTEGER_OR_SYMBOLIC := L_sBOOLEAN_ordinal.ne L_sINTEGER_OR_SYMBOLIC_ordinal (by decide)
  have ne_sBOOLEAN_sSYMBOLIC : sBOOLEAN ≠ sSYMBOLIC := L_sBOOLEAN_ordinal.ne L_sSYMBOLIC_ordinal (by decide)
  have ne_sBOOLEAN_sINTEGER : sBOOLEAN ≠ sINTEGER := L_sBOOLEAN_ordinal.ne L_sINTEGER_ordinal (by decide)
  have ne_sINTEGER_OR_SYMBOLIC_sSYMBOLIC : sINTEGER_OR_SYMBOLIC ≠ sSYMBOLIC := L_sINTEGER_OR_SYMBOLIC_ordinal.ne L_sSYMBOLIC_ordinal (by decide)
  have ne_sINTEGER_OR_SYMBOLIC_sINTEGER : sINTEGER_OR_SYMBOLIC ≠ sINTEGER := L_sINTEGER_OR_SYMBOLIC_ordinal.ne L_sINTEGER_ordinal (by decide)
  have ne_sSYMBOLIC_sINTEGER : sSYMBOLIC ≠ sINTEGER := L_sSYMBOLIC_ordinal.ne L_sINTEGER_ordinal (by decide)
  refine gIloadN X w d3_0 rfl (n := 1) rfl ?_
  refine gIloadN X w d3_1 rfl (n := 2) rfl ?_
  refine gIor X w d3_2 (z := (6 : Int32)) (by decide) (n := 3) rfl ?_
  refine gIstoreN X w d3_3 #[.val (.int (4 : Int32)), .val (.int (2 : Int32)), .val (.int (6 : Int32))] rfl (n := 4) rfl ?_
  refine gIloadN X w d3_4 rfl (n := 5) rfl ?_
  refine gIconst X w d3_5 (z := (4 : Int32)) rfl (n := 6) rfl ?_
  refine gIcmp_ne X w d3_6 (n := 13) (n' := 9) (by decide) rfl rfl ?_ ?_
  · rintro ⟨c6, c6'⟩
    refine gIloadN X w d3_13 rfl (n := 14) rfl ?_
    refine gIconst X w d3_14 (z := (4 : Int32)) rfl (n := 15) rfl ?_
    refine gIand X w d3_15 (z := (4 : Int32)) (by decide) (n := 16) rfl ?_
    refine gIf_eq X w d3_16 (n := 21) (n' := 19) (by decide) rfl rfl ?_ ?_
    · rintro ⟨c16, c16'⟩
      exact absurd c16 (by decide)
    · rintro ⟨c16, c16'⟩
      refine gNull X w d3_19 (n := 20) rfl ?_
      exact gRetA X w rfl rfl rfl d3_20 (by decide) (by decide) (⟨_, rfl, rfl, rfl⟩)
  · rintro ⟨c6, c6'⟩
    exact absurd c6 (by decide)
set_option maxRecDepth 65536 in
set_option maxHeartbeats 40000000 in
theorem own_exp_43 (l : Launch) (Z : State) (a0 : Array Value) (hw : ∀ d ∈ tables_1, d.before a0 Z = true) (sBOOLEAN sINTEGER_OR_SYMBOLIC sSYMBOLIC sINTEGER : Addr) (h0 : Heap) (n0 : Nat) (hn : n0 ≤ h0.size) (G : own_env Z h0 sBOOLEAN sINTEGER_OR_SYMBOLIC sSYMBOLIC sINTEGER) :
    ConV l Z (⟨"com/example/fates3/fates3/model/KindJoinPinLaw", "expected", "(II)Lcom/example/fates3/fates3/model/Kind;"⟩ : MethodName) method_4_code 3 (some (.object "com/example/fates3/fates3/model/Kind")) ({ frames := 0, cells := 0, slots := 0, locals := 0 } : Room) #[(.int (4 : Int32)), (.int (3 : Int32))] h0 n0 (fun v h => h0 = h ∧ v = .null) := by
  refine Con.of (plainFor_of_name (by first | (simp [plainName, overriddenIn]; done) | decide +kernel)) hn ?_
  intro p e s m below meth c T w X
  refine Gl.enter (ls := #[.val (.int (4 : Int32)), .val (.int (3 : Int32)), .unset]) (by first | rfl | (simp [entryFrame, mkF, argsToLocals, Value.category]; done)) ?_
  obtain ⟨S_sBOOLEAN, E_sBOOLEAN, S_sINTEGER_OR_SYMBOLIC, E_sINTEGER_OR_SYMBOLIC, S_sSYMBOLIC, E_sSYMBOLIC, S_sINTEGER, E_sINTEGER, L_sBOOLEAN_ordinal, L_sINTEGER_OR_SYMBOLIC_ordinal, L_sSYMBOLIC_ordinal, L_sINTEGER_ordinal⟩ := id G
  have ne_sBOOLEAN_sINTEGER_OR_SYMBOLIC : sBOOLEAN ≠ sINTEGER_OR_SYMBOLIC := L_sBOOLEAN_ordinal.ne L_sINTEGER_OR_SYMBOLIC_ordinal (by decide)
  have ne_sBOOLEAN_sSYMBOLIC : sBOOLEAN ≠ sSYMBOLIC := L_sBOOLEAN_ordinal.ne L_sSYMBOLIC_ordinal (by decide)
  have ne_sBOOLEAN_sINTEGER : sBOOLEAN ≠ sINTEGER := L_sBOOLEAN_ordinal.ne L_sINTEGER_ordinal (by decide)
  have ne_sINTEGER_OR_SYMBOLIC_sSYMBOLIC : sINTEGER_OR_SYMBOLIC ≠ sSYMBOLIC := L_sINTEGER_OR_SYMBOLIC_ordinal.ne L_sSYMBOLIC_ordinal (by decide)
  have ne_sINTEGER_OR_SYMBOLIC_sINTEGER : sINTEGER_OR_SYMBOLIC ≠ sINTEGER := L_sINTEGER_OR_SYMBOLIC_ordinal.ne L_sINTEGER_ordinal (by decide)
  have ne_sSYMBOLIC_sINTEGER : sSYMBOLIC ≠ sINTEGER := L_sSYMBOLIC_ordinal.ne L_sINTEGER_ordinal (by decide)
  refine gIloadN X w d3_0 rfl (n := 1) rfl ?_
  refine gIloadN X w d3_1 rfl (n := 2) rfl ?_
  refine gIor X w d3_2 (z := (7 : Int32)) (by decide) (n := 3) rfl ?_
  refine gIstoreN X w d3_3 #[.val (.int (4 : Int32)), .val (.int (3 : Int32)), .val (.int (7 : Int32))] rfl (n := 4) rfl ?_
  refine gIloadN X w d3_4 rfl (n := 5) rfl ?_
  refine gIconst X w d3_5 (z := (4 : Int32)) rfl (n := 6) rfl ?_
  refine gIcmp_ne X w d3_6 (n := 13) (n' := 9) (by decide) rfl rfl ?_ ?_
  · rintro ⟨c6, c6'⟩
    refine gIloadN X w d3_13 rfl (n := 14) rfl ?_
    refine gIconst X w d3_14 (z := (4 : Int32)) rfl (n := 15) rfl ?_
    refine gIand X w d3_15 (z := (4 : Int32)) (by decide) (n := 16) rfl ?_
    refine gIf_eq X w d3_16 (n := 21) (n' := 19) (by decide) rfl rfl ?_ ?_
    · rintro ⟨c16, c16'⟩
      exact absurd c16 (by decide)
    · rintro ⟨c16, c16'⟩
      refine gNull X w d3_19 (n := 20) rfl ?_
      exact gRetA X w rfl rfl rfl d3_20 (by decide) (by decide) (⟨_, rfl, rfl, rfl⟩)
  · rintro ⟨c6, c6'⟩
    exact absurd c6 (by decide)
set_option maxRecDepth 65536 in
set_option maxHeartbeats 40000000 in
theorem own_exp_14 (l : Launch) (Z : State) (a0 : Array Value) (hw : ∀ d ∈ tables_1, d.before a0 Z = true) (sBOOLEAN sINTEGER_OR_SYMBOLIC sSYMBOLIC sINTEGER : Addr) (h0 : Heap) (n0 : Nat) (hn : n0 ≤ h0.size) (G : own_env Z h0 sBOOLEAN sINTEGER_OR_SYMBOLIC sSYMBOLIC sINTEGER) :
    ConV l Z (⟨"com/example/fates3/fates3/model/KindJoinPinLaw", "expected", "(II)Lcom/example/fates3/fates3/model/Kind;"⟩ : MethodName) method_4_code 3 (some (.object "com/example/fates3/fates3/model/Kind")) ({ frames := 0, cells := 0, slots := 0, locals := 0 } : Room) #[(.int (1 : Int32)), (.int (4 : Int32))] h0 n0 (fun v h => h0 = h ∧ v = .null) := by
  refine Con.of (plainFor_of_name (by first | (simp [plainName, overriddenIn]; done) | decide +kernel)) hn ?_
  intro p e s m below meth c T w X
  refine Gl.enter (ls := #[.val (.int (1 : Int32)), .val (.int (4 : Int32)), .unset]) (by first | rfl | (simp [entryFrame, mkF, argsToLocals, Value.category]; done)) ?_
  obtain ⟨S_sBOOLEAN, E_sBOOLEAN, S_sINTEGER_OR_SYMBOLIC, E_sINTEGER_OR_SYMBOLIC, S_sSYMBOLIC, E_sSYMBOLIC, S_sINTEGER, E_sINTEGER, L_sBOOLEAN_ordinal, L_sINTEGER_OR_SYMBOLIC_ordinal, L_sSYMBOLIC_ordinal, L_sINTEGER_ordinal⟩ := id G
  have ne_sBOOLEAN_sINTEGER_OR_SYMBOLIC : sBOOLEAN ≠ sINTEGER_OR_SYMBOLIC := L_sBOOLEAN_ordinal.ne L_sINTEGER_OR_SYMBOLIC_ordinal (by decide)
  have ne_sBOOLEAN_sSYMBOLIC : sBOOLEAN ≠ sSYMBOLIC := L_sBOOLEAN_ordinal.ne L_sSYMBOLIC_ordinal (by decide)
  have ne_sBOOLEAN_sINTEGER : sBOOLEAN ≠ sINTEGER := L_sBOOLEAN_ordinal.ne L_sINTEGER_ordinal (by decide)
  have ne_sINTEGER_OR_SYMBOLIC_sSYMBOLIC : sINTEGER_OR_SYMBOLIC ≠ sSYMBOLIC := L_sINTEGER_OR_SYMBOLIC_ordinal.ne L_sSYMBOLIC_ordinal (by decide)
  have ne_sINTEGER_OR_SYMBOLIC_sINTEGER : sINTEGER_OR_SYMBOLIC ≠ sINTEGER := L_sINTEGER_OR_SYMBOLIC_ordinal.ne L_sINTEGER_ordinal (by decide)
  have ne_sSYMBOLIC_sINTEGER : sSYMBOLIC ≠ sINTEGER := L_sSYMBOLIC_ordinal.ne L_sINTEGER_ordinal (by decide)
  refine gIloadN X w d3_0 rfl (n := 1) rfl ?_
  refine gIloadN X w d3_1 rfl (n := 2) rfl ?_
  refine gIor X w d3_2 (z := (5 : Int32)) (by decide) (n := 3) rfl ?_
  refine gIstoreN X w d3_3 #[.val (.int (1 : Int32)), .val (.int (4 : Int32)), .val (.int (5 : Int32))] rfl (n := 4) rfl ?_
  refine gIloadN X w d3_4 rfl (n := 5) rfl ?_
  refine gIconst X w d3_5 (z := (4 : Int32)) rfl (n := 6) rfl ?_
  refine gIcmp_ne X w d3_6 (n := 13) (n' := 9) (by decide) rfl rfl ?_ ?_
  · rintro ⟨c6, c6'⟩
    refine gIloadN X w d3_13 rfl (n := 14) rfl ?_
    refine gIconst X w d3_14 (z := (4 : Int32)) rfl (n := 15) rfl ?_
    refine gIand X w d3_15 (z := (4 : Int32)) (by decide) (n := 16) rfl ?_
    refine gIf_eq X w d3_16 (n := 21) (n' := 19) (by decide) rfl rfl ?_ ?_
    · rintro ⟨c16, c16'⟩
      exact absurd c16 (by decide)
    · rintro ⟨c16, c16'⟩
      refine gNull X w d3_19 (n := 20) rfl ?_
      exact gRetA X w rfl rfl rfl d3_20 (by decide) (by decide) (⟨_, rfl, rfl, rfl⟩)
  · rintro ⟨c6, c6'⟩
    exact absurd c6 (by decide)
set_option maxRecDepth 65536 in
set_option maxHeartbeats 40000000 in
theorem own_exp_11 (l : Launch) (Z : State) (a0 : Array Value) (hw : ∀ d ∈ tables_1, d.before a0 Z = true) (sBOOLEAN sINTEGER_OR_SYMBOLIC sSYMBOLIC sINTEGER : Addr) (h0 : Heap) (n0 : Nat) (hn : n0 ≤ h0.size) (G : own_env Z h0 sBOOLEAN sINTEGER_OR_SYMBOLIC sSYMBOLIC sINTEGER) :
    ConV l Z (⟨"com/example/fates3/fates3/model/KindJoinPinLaw", "expected", "(II)Lcom/example/fates3/fates3/model/Kind;"⟩ : MethodName) method_4_code 3 (some (.object "com/example/fates3/fates3/model/Kind")) ({ frames := 0, cells := 0, slots := 0, locals := 0 } : Room) #[(.int (1 : Int32)), (.int (1 : Int32))] h0 n0 (fun v h => h0 = h ∧ v = .ref sINTEGER) := by
  refine Con.of (plainFor_of_name (by first | (simp [plainName, overriddenIn]; done) | decide +kernel)) hn ?_
  intro p e s m below meth c T w X
  refine Gl.enter (ls := #[.val (.int (1 : Int32)), .val (.int (1 : Int32)), .unset]) (by first | rfl | (simp [entryFrame, mkF, argsToLocals, Value.category]; done)) ?_
  obtain ⟨S_sBOOLEAN, E_sBOOLEAN, S_sINTEGER_OR_SYMBOLIC, E_sINTEGER_OR_SYMBOLIC, S_sSYMBOLIC, E_sSYMBOLIC, S_sINTEGER, E_sINTEGER, L_sBOOLEAN_ordinal, L_sINTEGER_OR_SYMBOLIC_ordinal, L_sSYMBOLIC_ordinal, L_sINTEGER_ordinal⟩ := id G
  have ne_sBOOLEAN_sINTEGER_OR_SYMBOLIC : sBOOLEAN ≠ sINTEGER_OR_SYMBOLIC := L_sBOOLEAN_ordinal.ne L_sINTEGER_OR_SYMBOLIC_ordinal (by decide)
  have ne_sBOOLEAN_sSYMBOLIC : sBOOLEAN ≠ sSYMBOLIC := L_sBOOLEAN_ordinal.ne L_sSYMBOLIC_ordinal (by decide)
  have ne_sBOOLEAN_sINTEGER : sBOOLEAN ≠ sINTEGER := L_sBOOLEAN_ordinal.ne L_sINTEGER_ordinal (by decide)
  have ne_sINTEGER_OR_SYMBOLIC_sSYMBOLIC : sINTEGER_OR_SYMBOLIC ≠ sSYMBOLIC := L_sINTEGER_OR_SYMBOLIC_ordinal.ne L_sSYMBOLIC_ordinal (by decide)
  have ne_sINTEGER_OR_SYMBOLIC_sINTEGER : sINTEGER_OR_SYMBOLIC ≠ sINTEGER := L_sINTEGER_OR_SYMBOLIC_ordinal.ne L_sINTEGER_ordinal (by decide)
  have ne_sSYMBOLIC_sINTEGER : sSYMBOLIC ≠ sINTEGER := L_sSYMBOLIC_ordinal.ne L_sINTEGER_ordinal (by decide)
  refine gIloadN X w d3_0 rfl (n := 1) rfl ?_
  refine gIloadN X w d3_1 rfl (n := 2) rfl ?_
  refine gIor X w d3_2 (z := (1 : Int32)) (by decide) (n := 3) rfl ?_
  refine gIstoreN X w d3_3 #[.val (.int (1 : Int32)), .val (.int (1 : Int32)), .val (.int (1 : Int32))] rfl (n := 4) rfl ?_
  refine gIloadN X w d3_4 rfl (n := 5) rfl ?_
  refine gIconst X w d3_5 (z := (4 : Int32)) rfl (n := 6) rfl ?_
  refine gIcmp_ne X w d3_6 (n := 13) (n' := 9) (by decide) rfl rfl ?_ ?_
  · rintro ⟨c6, c6'⟩
    refine gIloadN X w d3_13 rfl (n := 14) rfl ?_
    refine gIconst X w d3_14 (z := (4 : Int32)) rfl (n := 15) rfl ?_
    refine gIand X w d3_15 (z := (0 : Int32)) (by decide) (n := 16) rfl ?_
    refine gIf_eq X w d3_16 (n := 21) (n' := 19) (by decide) rfl rfl ?_ ?_
    · rintro ⟨c16, c16'⟩
      refine gIloadN X w d3_21 rfl (n := 22) rfl ?_
      refine gIconst X w d3_22 (z := (1 : Int32)) rfl (n := 23) rfl ?_
      refine gIcmp_ne X w d3_23 (n := 30) (n' := 26) (by decide) rfl rfl ?_ ?_
      · rintro ⟨c23, c23'⟩
        exact absurd c23 (by decide)
      · rintro ⟨c23, c23'⟩
        refine gGetS X w (own_wd hw 23 rfl) Via.refl S_sINTEGER d3_26 (n := 29) rfl ?_
        intro T X
        exact gRetA X w rfl rfl rfl d3_29 (by decide) (by decide) (⟨_, rfl, rfl, rfl⟩)
    · rintro ⟨c16, c16'⟩
      exact absurd c16 (by decide)
  · rintro ⟨c6, c6'⟩
    exact absurd c6 (by decide)
set_option maxRecDepth 65536 in
set_option maxHeartbeats 40000000 in
theorem own_exp_12 (l : Launch) (Z : State) (a0 : Array Value) (hw : ∀ d ∈ tables_1, d.before a0 Z = true) (sBOOLEAN sINTEGER_OR_SYMBOLIC sSYMBOLIC sINTEGER : Addr) (h0 : Heap) (n0 : Nat) (hn : n0 ≤ h0.size) (G : own_env Z h0 sBOOLEAN sINTEGER_OR_SYMBOLIC sSYMBOLIC sINTEGER) :
    ConV l Z (⟨"com/example/fates3/fates3/model/KindJoinPinLaw", "expected", "(II)Lcom/example/fates3/fates3/model/Kind;"⟩ : MethodName) method_4_code 3 (some (.object "com/example/fates3/fates3/model/Kind")) ({ frames := 0, cells := 0, slots := 0, locals := 0 } : Room) #[(.int (1 : Int32)), (.int (2 : Int32))] h0 n0 (fun v h => h0 = h ∧ v = .ref sINTEGER_OR_SYMBOLIC) := by
  refine Con.of (plainFor_of_name (by first | (simp [plainName, overriddenIn]; done) | decide +kernel)) hn ?_
  intro p e s m below meth c T w X
  refine Gl.enter (ls := #[.val (.int (1 : Int32)), .val (.int (2 : Int32)), .unset]) (by first | rfl | (simp [entryFrame, mkF, argsToLocals, Value.category]; done)) ?_
  obtain ⟨S_sBOOLEAN, E_sBOOLEAN, S_sINTEGER_OR_SYMBOLIC, E_sINTEGER_OR_SYMBOLIC, S_sSYMBOLIC, E_sSYMBOLIC, S_sINTEGER, E_sINTEGER, L_sBOOLEAN_ordinal, L_sINTEGER_OR_SYMBOLIC_ordinal, L_sSYMBOLIC_ordinal, L_sINTEGER_ordinal⟩ := id G
  have ne_sBOOLEAN_sINTEGER_OR_SYMBOLIC : sBOOLEAN ≠ sINTEGER_OR_SYMBOLIC := L_sBOOLEAN_ordinal.ne L_sINTEGER_OR_SYMBOLIC_ordinal (by decide)
  have ne_sBOOLEAN_sSYMBOLIC : sBOOLEAN ≠ sSYMBOLIC := L_sBOOLEAN_ordinal.ne L_sSYMBOLIC_ordinal (by decide)
  have ne_sBOOLEAN_sINTEGER : sBOOLEAN ≠ sINTEGER := L_sBOOLEAN_ordinal.ne L_sINTEGER_ordinal (by decide)
  have ne_sINTEGER_OR_SYMBOLIC_sSYMBOLIC : sINTEGER_OR_SYMBOLIC ≠ sSYMBOLIC := L_sINTEGER_OR_SYMBOLIC_ordinal.ne L_sSYMBOLIC_ordinal (by decide)
  have ne_sINTEGER_OR_SYMBOLIC_sINTEGER : sINTEGER_OR_SYMBOLIC ≠ sINTEGER := L_sINTEGER_OR_SYMBOLIC_ordinal.ne L_sINTEGER_ordinal (by decide)
  have ne_sSYMBOLIC_sINTEGER : sSYMBOLIC ≠ sINTEGER := L_sSYMBOLIC_ordinal.ne L_sINTEGER_ordinal (by decide)
  refine gIloadN X w d3_0 rfl (n := 1) rfl ?_
  refine gIloadN X w d3_1 rfl (n := 2) rfl ?_
  refine gIor X w d3_2 (z := (3 : Int32)) (by decide) (n := 3) rfl ?_
  refine gIstoreN X w d3_3 #[.val (.int (1 : Int32)), .val (.int (2 : Int32)), .val (.int (3 : Int32))] rfl (n := 4) rfl ?_
  refine gIloadN X w d3_4 rfl (n := 5) rfl ?_
  refine gIconst X w d3_5 (z := (4 : Int32)) rfl (n := 6) rfl ?_
  refine gIcmp_ne X w d3_6 (n := 13) (n' := 9) (by decide) rfl rfl ?_ ?_
  · rintro ⟨c6, c6'⟩
    refine gIloadN X w d3_13 rfl (n := 14) rfl ?_
    refine gIconst X w d3_14 (z := (4 : Int32)) rfl (n := 15) rfl ?_
    refine gIand X w d3_15 (z := (0 : Int32)) (by decide) (n := 16) rfl ?_
    refine gIf_eq X w d3_16 (n := 21) (n' := 19) (by decide) rfl rfl ?_ ?_
    · rintro ⟨c16, c16'⟩
      refine gIloadN X w d3_21 rfl (n := 22) rfl ?_
      refine gIconst X w d3_22 (z := (1 : Int32)) rfl (n := 23) rfl ?_
      refine gIcmp_ne X w d3_23 (n := 30) (n' := 26) (by decide) rfl rfl ?_ ?_
      · rintro ⟨c23, c23'⟩
        refine gIloadN X w d3_30 rfl (n := 31) rfl ?_
        refine gIconst X w d3_31 (z := (2 : Int32)) rfl (n := 32) rfl ?_
        refine gIcmp_ne X w d3_32 (n := 39) (n' := 35) (by decide) rfl rfl ?_ ?_
        · rintro ⟨c32, c32'⟩
          refine gGetS X w (own_wd hw 7 rfl) Via.refl S_sINTEGER_OR_SYMBOLIC d3_39 (n := 42) rfl ?_
          intro T X
          exact gRetA X w rfl rfl rfl d3_42 (by decide) (by decide) (⟨_, rfl, rfl, rfl⟩)
        · rintro ⟨c32, c32'⟩
          exact absurd c32 (by decide)
      · rintro ⟨c23, c23'⟩
        exact absurd c23 (by decide)
    · rintro ⟨c16, c16'⟩
      exact absurd c16 (by decide)
  · rintro ⟨c6, c6'⟩
    exact absurd c6 (by decide)
set_option maxRecDepth 65536 in
set_option maxHeartbeats 40000000 in
theorem own_exp_13 (l : Launch) (Z : State) (a0 : Array Value) (hw : ∀ d ∈ tables_1, d.before a0 Z = true) (sBOOLEAN sINTEGER_OR_SYMBOLIC sSYMBOLIC sINTEGER : Addr) (h0 : Heap) (n0 : Nat) (hn : n0 ≤ h0.size) (G : own_env Z h0 sBOOLEAN sINTEGER_OR_SYMBOLIC sSYMBOLIC sINTEGER) :
    ConV l Z (⟨"com/example/fates3/fates3/model/KindJoinPinLaw", "expected", "(II)Lcom/example/fates3/fates3/model/Kind;"⟩ : MethodName) method_4_code 3 (some (.object "com/example/fates3/fates3/model/Kind")) ({ frames := 0, cells := 0, slots := 0, locals := 0 } : Room) #[(.int (1 : Int32)), (.int (3 : Int32))] h0 n0 (fun v h => h0 = h ∧ v = .ref sINTEGER_OR_SYMBOLIC) := by
  refine Con.of (plainFor_of_name (by first | (simp [plainName, overriddenIn]; done) | decide +kernel)) hn ?_
  intro p e s m below meth c T w X
  refine Gl.enter (ls := #[.val (.int (1 : Int32)), .val (.int (3 : Int32)), .unset]) (by first | rfl | (simp [entryFrame, mkF, argsToLocals, Value.category]; done)) ?_
  obtain ⟨S_sBOOLEAN, E_sBOOLEAN, S_sINTEGER_OR_SYMBOLIC, E_sINTEGER_OR_SYMBOLIC, S_sSYMBOLIC, E_sSYMBOLIC, S_sINTEGER, E_sINTEGER, L_sBOOLEAN_ordinal, L_sINTEGER_OR_SYMBOLIC_ordinal, L_sSYMBOLIC_ordinal, L_sINTEGER_ordinal⟩ := id G
  have ne_sBOOLEAN_sINTEGER_OR_SYMBOLIC : sBOOLEAN ≠ sINTEGER_OR_SYMBOLIC := L_sBOOLEAN_ordinal.ne L_sINTEGER_OR_SYMBOLIC_ordinal (by decide)
  have ne_sBOOLEAN_sSYMBOLIC : sBOOLEAN ≠ sSYMBOLIC := L_sBOOLEAN_ordinal.ne L_sSYMBOLIC_ordinal (by decide)
  have ne_sBOOLEAN_sINTEGER : sBOOLEAN ≠ sINTEGER := L_sBOOLEAN_ordinal.ne L_sINTEGER_ordinal (by decide)
  have ne_sINTEGER_OR_SYMBOLIC_sSYMBOLIC : sINTEGER_OR_SYMBOLIC ≠ sSYMBOLIC := L_sINTEGER_OR_SYMBOLIC_ordinal.ne L_sSYMBOLIC_ordinal (by decide)
  have ne_sINTEGER_OR_SYMBOLIC_sINTEGER : sINTEGER_OR_SYMBOLIC ≠ sINTEGER := L_sINTEGER_OR_SYMBOLIC_ordinal.ne L_sINTEGER_ordinal (by decide)
  have ne_sSYMBOLIC_sINTEGER : sSYMBOLIC ≠ sINTEGER := L_sSYMBOLIC_ordinal.ne L_sINTEGER_ordinal (by decide)
  refine gIloadN X w d3_0 rfl (n := 1) rfl ?_
  refine gIloadN X w d3_1 rfl (n := 2) rfl ?_
  refine gIor X w d3_2 (z := (3 : Int32)) (by decide) (n := 3) rfl ?_
  refine gIstoreN X w d3_3 #[.val (.int (1 : Int32)), .val (.int (3 : Int32)), .val (.int (3 : Int32))] rfl (n := 4) rfl ?_
  refine gIloadN X w d3_4 rfl (n := 5) rfl ?_
  refine gIconst X w d3_5 (z := (4 : Int32)) rfl (n := 6) rfl ?_
  refine gIcmp_ne X w d3_6 (n := 13) (n' := 9) (by decide) rfl rfl ?_ ?_
  · rintro ⟨c6, c6'⟩
    refine gIloadN X w d3_13 rfl (n := 14) rfl ?_
    refine gIconst X w d3_14 (z := (4 : Int32)) rfl (n := 15) rfl ?_
    refine gIand X w d3_15 (z := (0 : Int32)) (by decide) (n := 16) rfl ?_
    refine gIf_eq X w d3_16 (n := 21) (n' := 19) (by decide) rfl rfl ?_ ?_
    · rintro ⟨c16, c16'⟩
      refine gIloadN X w d3_21 rfl (n := 22) rfl ?_
      refine gIconst X w d3_22 (z := (1 : Int32)) rfl (n := 23) rfl ?_
      refine gIcmp_ne X w d3_23 (n := 30) (n' := 26) (by decide) rfl rfl ?_ ?_
      · rintro ⟨c23, c23'⟩
        refine gIloadN X w d3_30 rfl (n := 31) rfl ?_
        refine gIconst X w d3_31 (z := (2 : Int32)) rfl (n := 32) rfl ?_
        refine gIcmp_ne X w d3_32 (n := 39) (n' := 35) (by decide) rfl rfl ?_ ?_
        · rintro ⟨c32, c32'⟩
          refine gGetS X w (own_wd hw 7 rfl) Via.refl S_sINTEGER_OR_SYMBOLIC d3_39 (n := 42) rfl ?_
          intro T X
          exact gRetA X w rfl rfl rfl d3_42 (by decide) (by decide) (⟨_, rfl, rfl, rfl⟩)
        · rintro ⟨c32, c32'⟩
          exact absurd c32 (by decide)
      · rintro ⟨c23, c23'⟩
        exact absurd c23 (by decide)
    · rintro ⟨c16, c16'⟩
      exact absurd c16 (by decide)
  · rintro ⟨c6, c6'⟩
    exact absurd c6 (by decide)
set_option maxRecDepth 65536 in
set_option maxHeartbeats 40000000 in
theorem own_exp_24 (l : Launch) (Z : State) (a0 : Array Value) (hw : ∀ d ∈ tables_1, d.before a0 Z = true) (sBOOLEAN sINTEGER_OR_SYMBOLIC sSYMBOLIC sINTEGER : Addr) (h0 : Heap) (n0 : Nat) (hn : n0 ≤ h0.size) (G : own_env Z h0 sBOOLEAN sINTEGER_OR_SYMBOLIC sSYMBOLIC sINTEGER) :
    ConV l Z (⟨"com/example/fates3/fates3/model/KindJoinPinLaw", "expected", "(II)Lcom/example/fates3/fates3/model/Kind;"⟩ : MethodName) method_4_code 3 (some (.object "com/example/fates3/fates3/model/Kind")) ({ frames := 0, cells := 0, slots := 0, locals := 0 } : Room) #[(.int (2 : Int32)), (.int (4 : Int32))] h0 n0 (fun v h => h0 = h ∧ v = .null) := by
  refine Con.of (plainFor_of_name (by first | (simp [plainName, overriddenIn]; done) | decide +kernel)) hn ?_
  intro p e s m below meth c T w X
  refine Gl.enter (ls := #[.val (.int (2 : Int32)), .val (.int (4 : Int32)), .unset]) (by first | rfl | (simp [entryFrame, mkF, argsToLocals, Value.category]; done)) ?_
  obtain ⟨S_sBOOLEAN, E_sBOOLEAN, S_sINTEGER_OR_SYMBOLIC, E_sINTEGER_OR_SYMBOLIC, S_sSYMBOLIC, E_sSYMBOLIC, S_sINTEGER, E_sINTEGER, L_sBOOLEAN_ordinal, L_sINTEGER_OR_SYMBOLIC_ordinal, L_sSYMBOLIC_ordinal, L_sINTEGER_ordinal⟩ := id G
  have ne_sBOOLEAN_sINTEGER_OR_SYMBOLIC : sBOOLEAN ≠ sINTEGER_OR_SYMBOLIC := L_sBOOLEAN_ordinal.ne L_sINTEGER_OR_SYMBOLIC_ordinal (by decide)
  have ne_sBOOLEAN_sSYMBOLIC : sBOOLEAN ≠ sSYMBOLIC := L_sBOOLEAN_ordinal.ne L_sSYMBOLIC_ordinal (by decide)
  have ne_sBOOLEAN_sINTEGER : sBOOLEAN ≠ sINTEGER := L_sBOOLEAN_ordinal.ne L_sINTEGER_ordinal (by decide)
  have ne_sINTEGER_OR_SYMBOLIC_sSYMBOLIC : sINTEGER_OR_SYMBOLIC ≠ sSYMBOLIC := L_sINTEGER_OR_SYMBOLIC_ordinal.ne L_sSYMBOLIC_ordinal (by decide)
  have ne_sINTEGER_OR_SYMBOLIC_sINTEGER : sINTEGER_OR_SYMBOLIC ≠ sINTEGER := L_sINTEGER_OR_SYMBOLIC_ordinal.ne L_sINTEGER_ordinal (by decide)
  have ne_sSYMBOLIC_sINTEGER : sSYMBOLIC ≠ sINTEGER := L_sSYMBOLIC_ordinal.ne L_sINTEGER_ordinal (by decide)
  refine gIloadN X w d3_0 rfl (n := 1) rfl ?_
  refine gIloadN X w d3_1 rfl (n := 2) rfl ?_
  refine gIor X w d3_2 (z := (6 : Int32)) (by decide) (n := 3) rfl ?_
  refine gIstoreN X w d3_3 #[.val (.int (2 : Int32)), .val (.int (4 : Int32)), .val (.int (6 : Int32))] rfl (n := 4) rfl ?_
  refine gIloadN X w d3_4 rfl (n := 5) rfl ?_
  refine gIconst X w d3_5 (z := (4 : Int32)) rfl (n := 6) rfl ?_
  refine gIcmp_ne X w d3_6 (n := 13) (n' := 9) (by decide) rfl rfl ?_ ?_
  · rintro ⟨c6, c6'⟩
    refine gIloadN X w d3_13 rfl (n := 14) rfl ?_
    refine gIconst X w d3_14 (z := (4 : Int32)) rfl (n := 15) rfl ?_
    refine gIand X w d3_15 (z := (4 : Int32)) (by decide) (n := 16) rfl ?_
    refine gIf_eq X w d3_16 (n := 21) (n' := 19) (by decide) rfl rfl ?_ ?_
    · rintro ⟨c16, c16'⟩
      exact absurd c16 (by decide)
    · rintro ⟨c16, c16'⟩
      refine gNull X w d3_19 (n := 20) rfl ?_
      exact gRetA X w rfl rfl rfl d3_20 (by decide) (by decide) (⟨_, rfl, rfl, rfl⟩)
  · rintro ⟨c6, c6'⟩
    exact absurd c6 (by decide)
set_option maxRecDepth 65536 in
set_option maxHeartbeats 40000000 in
theorem own_exp_21 (l : Launch) (Z : State) (a0 : Array Value) (hw : ∀ d ∈ tables_1, d.before a0 Z = true) (sBOOLEAN sINTEGER_OR_SYMBOLIC sSYMBOLIC sINTEGER : Addr) (h0 : Heap) (n0 : Nat) (hn : n0 ≤ h0.size) (G : own_env Z h0 sBOOLEAN sINTEGER_OR_SYMBOLIC sSYMBOLIC sINTEGER) :
    ConV l Z (⟨"com/example/fates3/fates3/model/KindJoinPinLaw", "expected", "(II)Lcom/example/fates3/fates3/model/Kind;"⟩ : MethodName) method_4_code 3 (some (.object "com/example/fates3/fates3/model/Kind")) ({ frames := 0, cells := 0, slots := 0, locals := 0 } : Room) #[(.int (2 : Int32)), (.int (1 : Int32))] h0 n0 (fun v h => h0 = h ∧ v = .ref sINTEGER_OR_SYMBOLIC) := by
  refine Con.of (plainFor_of_name (by first | (simp [plainName, overriddenIn]; done) | decide +kernel)) hn ?_
  intro p e s m below meth c T w X
  refine Gl.enter (ls := #[.val (.int (2 : Int32)), .val (.int (1 : Int32)), .unset]) (by first | rfl | (simp [entryFrame, mkF, argsToLocals, Value.category]; done)) ?_
  obtain ⟨S_sBOOLEAN, E_sBOOLEAN, S_sINTEGER_OR_SYMBOLIC, E_sINTEGER_OR_SYMBOLIC, S_sSYMBOLIC, E_sSYMBOLIC, S_sINTEGER, E_sINTEGER, L_sBOOLEAN_ordinal, L_sINTEGER_OR_SYMBOLIC_ordinal, L_sSYMBOLIC_ordinal, L_sINTEGER_ordinal⟩ := id G
  have ne_sBOOLEAN_sINTEGER_OR_SYMBOLIC : sBOOLEAN ≠ sINTEGER_OR_SYMBOLIC := L_sBOOLEAN_ordinal.ne L_sINTEGER_OR_SYMBOLIC_ordinal (by decide)
  have ne_sBOOLEAN_sSYMBOLIC : sBOOLEAN ≠ sSYMBOLIC := L_sBOOLEAN_ordinal.ne L_sSYMBOLIC_ordinal (by decide)
  have ne_sBOOLEAN_sINTEGER : sBOOLEAN ≠ sINTEGER := L_sBOOLEAN_ordinal.ne L_sINTEGER_ordinal (by decide)
  have ne_sINTEGER_OR_SYMBOLIC_sSYMBOLIC : sINTEGER_OR_SYMBOLIC ≠ sSYMBOLIC := L_sINTEGER_OR_SYMBOLIC_ordinal.ne L_sSYMBOLIC_ordinal (by decide)
  have ne_sINTEGER_OR_SYMBOLIC_sINTEGER : sINTEGER_OR_SYMBOLIC ≠ sINTEGER := L_sINTEGER_OR_SYMBOLIC_ordinal.ne L_sINTEGER_ordinal (by decide)
  have ne_sSYMBOLIC_sINTEGER : sSYMBOLIC ≠ sINTEGER := L_sSYMBOLIC_ordinal.ne L_sINTEGER_ordinal (by decide)
  refine gIloadN X w d3_0 rfl (n := 1) rfl ?_
  refine gIloadN X w d3_1 rfl (n := 2) rfl ?_
  refine gIor X w d3_2 (z := (3 : Int32)) (by decide) (n := 3) rfl ?_
  refine gIstoreN X w d3_3 #[.val (.int (2 : Int32)), .val (.int (1 : Int32)), .val (.int (3 : Int32))] rfl (n := 4) rfl ?_
  refine gIloadN X w d3_4 rfl (n := 5) rfl ?_
  refine gIconst X w d3_5 (z := (4 : Int32)) rfl (n := 6) rfl ?_
  refine gIcmp_ne X w d3_6 (n := 13) (n' := 9) (by decide) rfl rfl ?_ ?_
  · rintro ⟨c6, c6'⟩
    refine gIloadN X w d3_13 rfl (n := 14) rfl ?_
    refine gIconst X w d3_14 (z := (4 : Int32)) rfl (n := 15) rfl ?_
    refine gIand X w d3_15 (z := (0 : Int32)) (by decide) (n := 16) rfl ?_
    refine gIf_eq X w d3_16 (n := 21) (n' := 19) (by decide) rfl rfl ?_ ?_
    · rintro ⟨c16, c16'⟩
      refine gIloadN X w d3_21 rfl (n := 22) rfl ?_
      refine gIconst X w d3_22 (z := (1 : Int32)) rfl (n := 23) rfl ?_
      refine gIcmp_ne X w d3_23 (n := 30) (n' := 26) (by decide) rfl rfl ?_ ?_
      · rintro ⟨c23, c23'⟩
        refine gIloadN X w d3_30 rfl (n := 31) rfl ?_
        refine gIconst X w d3_31 (z := (2 : Int32)) rfl (n := 32) rfl ?_
        refine gIcmp_ne X w d3_32 (n := 39) (n' := 35) (by decide) rfl rfl ?_ ?_
        · rintro ⟨c32, c32'⟩
          refine gGetS X w (own_wd hw 7 rfl) Via.refl S_sINTEGER_OR_SYMBOLIC d3_39 (n := 42) rfl ?_
          intro T X
          exact gRetA X w rfl rfl rfl d3_42 (by decide) (by decide) (⟨_, rfl, rfl, rfl⟩)
        · rintro ⟨c32, c32'⟩
          exact absurd c32 (by decide)
      · rintro ⟨c23, c23'⟩
        exact absurd c23 (by decide)
    · rintro ⟨c16, c16'⟩
      exact absurd c16 (by decide)
  · rintro ⟨c6, c6'⟩
    exact absurd c6 (by decide)
set_option maxRecDepth 65536 in
set_option maxHeartbeats 40000000 in
theorem own_exp_22 (l : Launch) (Z : State) (a0 : Array Value) (hw : ∀ d ∈ tables_1, d.before a0 Z = true) (sBOOLEAN sINTEGER_OR_SYMBOLIC sSYMBOLIC sINTEGER : Addr) (h0 : Heap) (n0 : Nat) (hn : n0 ≤ h0.size) (G : own_env Z h0 sBOOLEAN sINTEGER_OR_SYMBOLIC sSYMBOLIC sINTEGER) :
    ConV l Z (⟨"com/example/fates3/fates3/model/KindJoinPinLaw", "expected", "(II)Lcom/example/fates3/fates3/model/Kind;"⟩ : MethodName) method_4_code 3 (some (.object "com/example/fates3/fates3/model/Kind")) ({ frames := 0, cells := 0, slots := 0, locals := 0 } : Room) #[(.int (2 : Int32)), (.int (2 : Int32))] h0 n0 (fun v h => h0 = h ∧ v = .ref sSYMBOLIC) := by
  refine Con.of (plainFor_of_name (by first | (simp [plainName, overriddenIn]; done) | decide +kernel)) hn ?_
  intro p e s m below meth c T w X
  refine Gl.enter (ls := #[.val (.int (2 : Int32)), .val (.int (2 : Int32)), .unset]) (by first | rfl | (simp [entryFrame, mkF, argsToLocals, Value.category]; done)) ?_
  obtain ⟨S_sBOOLEAN, E_sBOOLEAN, S_sINTEGER_OR_SYMBOLIC, E_sINTEGER_OR_SYMBOLIC, S_sSYMBOLIC, E_sSYMBOLIC, S_sINTEGER, E_sINTEGER, L_sBOOLEAN_ordinal, L_sINTEGER_OR_SYMBOLIC_ordinal, L_sSYMBOLIC_ordinal, L_sINTEGER_ordinal⟩ := id G
  have ne_sBOOLEAN_sINTEGER_OR_SYMBOLIC : sBOOLEAN ≠ sINTEGER_OR_SYMBOLIC := L_sBOOLEAN_ordinal.ne L_sINTEGER_OR_SYMBOLIC_ordinal (by decide)
  have ne_sBOOLEAN_sSYMBOLIC : sBOOLEAN ≠ sSYMBOLIC := L_sBOOLEAN_ordinal.ne L_sSYMBOLIC_ordinal (by decide)
  have ne_sBOOLEAN_sINTEGER : sBOOLEAN ≠ sINTEGER := L_sBOOLEAN_ordinal.ne L_sINTEGER_ordinal (by decide)
  have ne_sINTEGER_OR_SYMBOLIC_sSYMBOLIC : sINTEGER_OR_SYMBOLIC ≠ sSYMBOLIC := L_sINTEGER_OR_SYMBOLIC_ordinal.ne L_sSYMBOLIC_ordinal (by decide)
  have ne_sINTEGER_OR_SYMBOLIC_sINTEGER : sINTEGER_OR_SYMBOLIC ≠ sINTEGER := L_sINTEGER_OR_SYMBOLIC_ordinal.ne L_sINTEGER_ordinal (by decide)
  have ne_sSYMBOLIC_sINTEGER : sSYMBOLIC ≠ sINTEGER := L_sSYMBOLIC_ordinal.ne L_sINTEGER_ordinal (by decide)
  refine gIloadN X w d3_0 rfl (n := 1) rfl ?_
  refine gIloadN X w d3_1 rfl (n := 2) rfl ?_
  refine gIor X w d3_2 (z := (2 : Int32)) (by decide) (n := 3) rfl ?_
  refine gIstoreN X w d3_3 #[.val (.int (2 : Int32)), .val (.int (2 : Int32)), .val (.int (2 : Int32))] rfl (n := 4) rfl ?_
  refine gIloadN X w d3_4 rfl (n := 5) rfl ?_
  refine gIconst X w d3_5 (z := (4 : Int32)) rfl (n := 6) rfl ?_
  refine gIcmp_ne X w d3_6 (n := 13) (n' := 9) (by decide) rfl rfl ?_ ?_
  · rintro ⟨c6, c6'⟩
    refine gIloadN X w d3_13 rfl (n := 14) rfl ?_
    refine gIconst X w d3_14 (z := (4 : Int32)) rfl (n := 15) rfl ?_
    refine gIand X w d3_15 (z := (0 : Int32)) (by decide) (n := 16) rfl ?_
    refine gIf_eq X w d3_16 (n := 21) (n' := 19) (by decide) rfl rfl ?_ ?_
    · rintro ⟨c16, c16'⟩
      refine gIloadN X w d3_21 rfl (n := 22) rfl ?_
      refine gIconst X w d3_22 (z := (1 : Int32)) rfl (n := 23) rfl ?_
      refine gIcmp_ne X w d3_23 (n := 30) (n' := 26) (by decide) rfl rfl ?_ ?_
      · rintro ⟨c23, c23'⟩
        refine gIloadN X w d3_30 rfl (n := 31) rfl ?_
        refine gIconst X w d3_31 (z := (2 : Int32)) rfl (n := 32) rfl ?_
        refine gIcmp_ne X w d3_32 (n := 39) (n' := 35) (by decide) rfl rfl ?_ ?_
        · rintro ⟨c32, c32'⟩
          exact absurd c32 (by decide)
        · rintro ⟨c32, c32'⟩
          refine gGetS X w (own_wd hw 21 rfl) Via.refl S_sSYMBOLIC d3_35 (n := 38) rfl ?_
          intro T X
          exact gRetA X w rfl rfl rfl d3_38 (by decide) (by decide) (⟨_, rfl, rfl, rfl⟩)
      · rintro ⟨c23, c23'⟩
        exact absurd c23 (by decide)
    · rintro ⟨c16, c16'⟩
      exact absurd c16 (by decide)
  · rintro ⟨c6, c6'⟩
    exact absurd c6 (by decide)
set_option maxRecDepth 65536 in
set_option maxHeartbeats 40000000 in
theorem own_exp_23 (l : Launch) (Z : State) (a0 : Array Value) (hw : ∀ d ∈ tables_1, d.before a0 Z = true) (sBOOLEAN sINTEGER_OR_SYMBOLIC sSYMBOLIC sINTEGER : Addr) (h0 : Heap) (n0 : Nat) (hn : n0 ≤ h0.size) (G : own_env Z h0 sBOOLEAN sINTEGER_OR_SYMBOLIC sSYMBOLIC sINTEGER) :
    ConV l Z (⟨"com/example/fates3/fates3/model/KindJoinPinLaw", "expected", "(II)Lcom/example/fates3/fates3/model/Kind;"⟩ : MethodName) method_4_code 3 (some (.object "com/example/fates3/fates3/model/Kind")) ({ frames := 0, cells := 0, slots := 0, locals := 0 } : Room) #[(.int (2 : Int32)), (.int (3 : Int32))] h0 n0 (fun v h => h0 = h ∧ v = .ref sINTEGER_OR_SYMBOLIC) := by
  refine Con.of (plainFor_of_name (by first | (simp [plainName, overriddenIn]; done) | decide +kernel)) hn ?_
  intro p e s m below meth c T w X
  refine Gl.enter (ls := #[.val (.int (2 : Int32)), .val (.int (3 : Int32)), .unset]) (by first | rfl | (simp [entryFrame, mkF, argsToLocals, Value.category]; done)) ?_
  obtain ⟨S_sBOOLEAN, E_sBOOLEAN, S_sINTEGER_OR_SYMBOLIC, E_sINTEGER_OR_SYMBOLIC, S_sSYMBOLIC, E_sSYMBOLIC, S_sINTEGER, E_sINTEGER, L_sBOOLEAN_ordinal, L_sINTEGER_OR_SYMBOLIC_ordinal, L_sSYMBOLIC_ordinal, L_sINTEGER_ordinal⟩ := id G
  have ne_sBOOLEAN_sINTEGER_OR_SYMBOLIC : sBOOLEAN ≠ sINTEGER_OR_SYMBOLIC := L_sBOOLEAN_ordinal.ne L_sINTEGER_OR_SYMBOLIC_ordinal (by decide)
  have ne_sBOOLEAN_sSYMBOLIC : sBOOLEAN ≠ sSYMBOLIC := L_sBOOLEAN_ordinal.ne L_sSYMBOLIC_ordinal (by decide)
  have ne_sBOOLEAN_sINTEGER : sBOOLEAN ≠ sINTEGER := L_sBOOLEAN_ordinal.ne L_sINTEGER_ordinal (by decide)
  have ne_sINTEGER_OR_SYMBOLIC_sSYMBOLIC : sINTEGER_OR_SYMBOLIC ≠ sSYMBOLIC := L_sINTEGER_OR_SYMBOLIC_ordinal.ne L_sSYMBOLIC_ordinal (by decide)
  have ne_sINTEGER_OR_SYMBOLIC_sINTEGER : sINTEGER_OR_SYMBOLIC ≠ sINTEGER := L_sINTEGER_OR_SYMBOLIC_ordinal.ne L_sINTEGER_ordinal (by decide)
  have ne_sSYMBOLIC_sINTEGER : sSYMBOLIC ≠ sINTEGER := L_sSYMBOLIC_ordinal.ne L_sINTEGER_ordinal (by decide)
  refine gIloadN X w d3_0 rfl (n := 1) rfl ?_
  refine gIloadN X w d3_1 rfl (n := 2) rfl ?_
  refine gIor X w d3_2 (z := (3 : Int32)) (by decide) (n := 3) rfl ?_
  refine gIstoreN X w d3_3 #[.val (.int (2 : Int32)), .val (.int (3 : Int32)), .val (.int (3 : Int32))] rfl (n := 4) rfl ?_
  refine gIloadN X w d3_4 rfl (n := 5) rfl ?_
  refine gIconst X w d3_5 (z := (4 : Int32)) rfl (n := 6) rfl ?_
  refine gIcmp_ne X w d3_6 (n := 13) (n' := 9) (by decide) rfl rfl ?_ ?_
  · rintro ⟨c6, c6'⟩
    refine gIloadN X w d3_13 rfl (n := 14) rfl ?_
    refine gIconst X w d3_14 (z := (4 : Int32)) rfl (n := 15) rfl ?_
    refine gIand X w d3_15 (z := (0 : Int32)) (by decide) (n := 16) rfl ?_
    refine gIf_eq X w d3_16 (n := 21) (n' := 19) (by decide) rfl rfl ?_ ?_
    · rintro ⟨c16, c16'⟩
      refine gIloadN X w d3_21 rfl (n := 22) rfl ?_
      refine gIconst X w d3_22 (z := (1 : Int32)) rfl (n := 23) rfl ?_
      refine gIcmp_ne X w d3_23 (n := 30) (n' := 26) (by decide) rfl rfl ?_ ?_
      · rintro ⟨c23, c23'⟩
        refine gIloadN X w d3_30 rfl (n := 31) rfl ?_
        refine gIconst X w d3_31 (z := (2 : Int32)) rfl (n := 32) rfl ?_
        refine gIcmp_ne X w d3_32 (n := 39) (n' := 35) (by decide) rfl rfl ?_ ?_
        · rintro ⟨c32, c32'⟩
          refine gGetS X w (own_wd hw 7 rfl) Via.refl S_sINTEGER_OR_SYMBOLIC d3_39 (n := 42) rfl ?_
          intro T X
          exact gRetA X w rfl rfl rfl d3_42 (by decide) (by decide) (⟨_, rfl, rfl, rfl⟩)
        · rintro ⟨c32, c32'⟩
          exact absurd c32 (by decide)
      · rintro ⟨c23, c23'⟩
        exact absurd c23 (by decide)
    · rintro ⟨c16, c16'⟩
      exact absurd c16 (by decide)
  · rintro ⟨c6, c6'⟩
    exact absurd c6 (by decide)
set_option maxRecDepth 65536 in
set_option maxHeartbeats 40000000 in
theorem own_exp_34 (l : Launch) (Z : State) (a0 : Array Value) (hw : ∀ d ∈ tables_1, d.before a0 Z = true) (sBOOLEAN sINTEGER_OR_SYMBOLIC sSYMBOLIC sINTEGER : Addr) (h0 : Heap) (n0 : Nat) (hn : n0 ≤ h0.size) (G : own_env Z h0 sBOOLEAN sINTEGER_OR_SYMBOLIC sSYMBOLIC sINTEGER) :
    ConV l Z (⟨"com/example/fates3/fates3/model/KindJoinPinLaw", "expected", "(II)Lcom/example/fates3/fates3/model/Kind;"⟩ : MethodName) method_4_code 3 (some (.object "com/example/fates3/fates3/model/Kind")) ({ frames := 0, cells := 0, slots := 0, locals := 0 } : Room) #[(.int (3 : Int32)), (.int (4 : Int32))] h0 n0 (fun v h => h0 = h ∧ v = .null) := by
  refine Con.of (plainFor_of_name (by first | (simp [plainName, overriddenIn]; done) | decide +kernel)) hn ?_
  intro p e s m below meth c T w X
  refine Gl.enter (ls := #[.val (.int (3 : Int32)), .val (.int (4 : Int32)), .unset]) (by first | rfl | (simp [entryFrame, mkF, argsToLocals, Value.category]; done)) ?_
  obtain ⟨S_sBOOLEAN, E_sBOOLEAN, S_sINTEGER_OR_SYMBOLIC, E_sINTEGER_OR_SYMBOLIC, S_sSYMBOLIC, E_sSYMBOLIC, S_sINTEGER, E_sINTEGER, L_sBOOLEAN_ordinal, L_sINTEGER_OR_SYMBOLIC_ordinal, L_sSYMBOLIC_ordinal, L_sINTEGER_ordinal⟩ := id G
  have ne_sBOOLEAN_sINTEGER_OR_SYMBOLIC : sBOOLEAN ≠ sINTEGER_OR_SYMBOLIC := L_sBOOLEAN_ordinal.ne L_sINTEGER_OR_SYMBOLIC_ordinal (by decide)
  have ne_sBOOLEAN_sSYMBOLIC : sBOOLEAN ≠ sSYMBOLIC := L_sBOOLEAN_ordinal.ne L_sSYMBOLIC_ordinal (by decide)
  have ne_sBOOLEAN_sINTEGER : sBOOLEAN ≠ sINTEGER := L_sBOOLEAN_ordinal.ne L_sINTEGER_ordinal (by decide)
  have ne_sINTEGER_OR_SYMBOLIC_sSYMBOLIC : sINTEGER_OR_SYMBOLIC ≠ sSYMBOLIC := L_sINTEGER_OR_SYMBOLIC_ordinal.ne L_sSYMBOLIC_ordinal (by decide)
  have ne_sINTEGER_OR_SYMBOLIC_sINTEGER : sINTEGER_OR_SYMBOLIC ≠ sINTEGER := L_sINTEGER_OR_SYMBOLIC_ordinal.ne L_sINTEGER_ordinal (by decide)
  have ne_sSYMBOLIC_sINTEGER : sSYMBOLIC ≠ sINTEGER := L_sSYMBOLIC_ordinal.ne L_sINTEGER_ordinal (by decide)
  refine gIloadN X w d3_0 rfl (n := 1) rfl ?_
  refine gIloadN X w d3_1 rfl (n := 2) rfl ?_
  refine gIor X w d3_2 (z := (7 : Int32)) (by decide) (n := 3) rfl ?_
  refine gIstoreN X w d3_3 #[.val (.int (3 : Int32)), .val (.int (4 : Int32)), .val (.int (7 : Int32))] rfl (n := 4) rfl ?_
  refine gIloadN X w d3_4 rfl (n := 5) rfl ?_
  refine gIconst X w d3_5 (z := (4 : Int32)) rfl (n := 6) rfl ?_
  refine gIcmp_ne X w d3_6 (n := 13) (n' := 9) (by decide) rfl rfl ?_ ?_
  · rintro ⟨c6, c6'⟩
    refine gIloadN X w d3_13 rfl (n := 14) rfl ?_
    refine gIconst X w d3_14 (z := (4 : Int32)) rfl (n := 15) rfl ?_
    refine gIand X w d3_15 (z := (4 : Int32)) (by decide) (n := 16) rfl ?_
    refine gIf_eq X w d3_16 (n := 21) (n' := 19) (by decide) rfl rfl ?_ ?_
    · rintro ⟨c16, c16'⟩
      exact absurd c16 (by decide)
    · rintro ⟨c16, c16'⟩
      refine gNull X w d3_19 (n := 20) rfl ?_
      exact gRetA X w rfl rfl rfl d3_20 (by decide) (by decide) (⟨_, rfl, rfl, rfl⟩)
  · rintro ⟨c6, c6'⟩
    exact absurd c6 (by decide)
set_option maxRecDepth 65536 in
set_option maxHeartbeats 40000000 in
theorem own_exp_31 (l : Launch) (Z : State) (a0 : Array Value) (hw : ∀ d ∈ tables_1, d.before a0 Z = true) (sBOOLEAN sINTEGER_OR_SYMBOLIC sSYMBOLIC sINTEGER : Addr) (h0 : Heap) (n0 : Nat) (hn : n0 ≤ h0.size) (G : own_env Z h0 sBOOLEAN sINTEGER_OR_SYMBOLIC sSYMBOLIC sINTEGER) :
    ConV l Z (⟨"com/example/fates3/fates3/model/KindJoinPinLaw", "expected", "(II)Lcom/example/fates3/fates3/model/Kind;"⟩ : MethodName) method_4_code 3 (some (.object "com/example/fates3/fates3/model/Kind")) ({ frames := 0, cells := 0, slots := 0, locals := 0 } : Room) #[(.int (3 : Int32)), (.int (1 : Int32))] h0 n0 (fun v h => h0 = h ∧ v = .ref sINTEGER_OR_SYMBOLIC) := by
  refine Con.of (plainFor_of_name (by first | (simp [plainName, overriddenIn]; done) | decide +kernel)) hn ?_
  intro p e s m below meth c T w X
  refine Gl.enter (ls := #[.val (.int (3 : Int32)), .val (.int (1 : Int32)), .unset]) (by first | rfl | (simp [entryFrame, mkF, argsToLocals, Value.category]; done)) ?_
  obtain ⟨S_sBOOLEAN, E_sBOOLEAN, S_sINTEGER_OR_SYMBOLIC, E_sINTEGER_OR_SYMBOLIC, S_sSYMBOLIC, E_sSYMBOLIC, S_sINTEGER, E_sINTEGER, L_sBOOLEAN_ordinal, L_sINTEGER_OR_SYMBOLIC_ordinal, L_sSYMBOLIC_ordinal, L_sINTEGER_ordinal⟩ := id G
  have ne_sBOOLEAN_sINTEGER_OR_SYMBOLIC : sBOOLEAN ≠ sINTEGER_OR_SYMBOLIC := L_sBOOLEAN_ordinal.ne L_sINTEGER_OR_SYMBOLIC_ordinal (by decide)
  have ne_sBOOLEAN_sSYMBOLIC : sBOOLEAN ≠ sSYMBOLIC := L_sBOOLEAN_ordinal.ne L_sSYMBOLIC_ordinal (by decide)
  have ne_sBOOLEAN_sINTEGER : sBOOLEAN ≠ sINTEGER := L_sBOOLEAN_ordinal.ne L_sINTEGER_ordinal (by decide)
  have ne_sINTEGER_OR_SYMBOLIC_sSYMBOLIC : sINTEGER_OR_SYMBOLIC ≠ sSYMBOLIC := L_sINTEGER_OR_SYMBOLIC_ordinal.ne L_sSYMBOLIC_ordinal (by decide)
  have ne_sINTEGER_OR_SYMBOLIC_sINTEGER : sINTEGER_OR_SYMBOLIC ≠ sINTEGER := L_sINTEGER_OR_SYMBOLIC_ordinal.ne L_sINTEGER_ordinal (by decide)
  have ne_sSYMBOLIC_sINTEGER : sSYMBOLIC ≠ sINTEGER := L_sSYMBOLIC_ordinal.ne L_sINTEGER_ordinal (by decide)
  refine gIloadN X w d3_0 rfl (n := 1) rfl ?_
  refine gIloadN X w d3_1 rfl (n := 2) rfl ?_
  refine gIor X w d3_2 (z := (3 : Int32)) (by decide) (n := 3) rfl ?_
  refine gIstoreN X w d3_3 #[.val (.int (3 : Int32)), .val (.int (1 : Int32)), .val (.int (3 : Int32))] rfl (n := 4) rfl ?_
  refine gIloadN X w d3_4 rfl (n := 5) rfl ?_
  refine gIconst X w d3_5 (z := (4 : Int32)) rfl (n := 6) rfl ?_
  refine gIcmp_ne X w d3_6 (n := 13) (n' := 9) (by decide) rfl rfl ?_ ?_
  · rintro ⟨c6, c6'⟩
    refine gIloadN X w d3_13 rfl (n := 14) rfl ?_
    refine gIconst X w d3_14 (z := (4 : Int32)) rfl (n := 15) rfl ?_
    refine gIand X w d3_15 (z := (0 : Int32)) (by decide) (n := 16) rfl ?_
    refine gIf_eq X w d3_16 (n := 21) (n' := 19) (by decide) rfl rfl ?_ ?_
    · rintro ⟨c16, c16'⟩
      refine gIloadN X w d3_21 rfl (n := 22) rfl ?_
      refine gIconst X w d3_22 (z := (1 : Int32)) rfl (n := 23) rfl ?_
      refine gIcmp_ne X w d3_23 (n := 30) (n' := 26) (by decide) rfl rfl ?_ ?_
      · rintro ⟨c23, c23'⟩
        refine gIloadN X w d3_30 rfl (n := 31) rfl ?_
        refine gIconst X w d3_31 (z := (2 : Int32)) rfl (n := 32) rfl ?_
        refine gIcmp_ne X w d3_32 (n := 39) (n' := 35) (by decide) rfl rfl ?_ ?_
        · rintro ⟨c32, c32'⟩
          refine gGetS X w (own_wd hw 7 rfl) Via.refl S_sINTEGER_OR_SYMBOLIC d3_39 (n := 42) rfl ?_
          intro T X
          exact gRetA X w rfl rfl rfl d3_42 (by decide) (by decide) (⟨_, rfl, rfl, rfl⟩)
        · rintro ⟨c32, c32'⟩
          exact absurd c32 (by decide)
      · rintro ⟨c23, c23'⟩
        exact absurd c23 (by decide)
    · rintro ⟨c16, c16'⟩
      exact absurd c16 (by decide)
  · rintro ⟨c6, c6'⟩
    exact absurd c6 (by decide)
set_option maxRecDepth 65536 in
set_option maxHeartbeats 40000000 in
theorem own_exp_32 (l : Launch) (Z : State) (a0 : Array Value) (hw : ∀ d ∈ tables_1, d.before a0 Z = true) (sBOOLEAN sINTEGER_OR_SYMBOLIC sSYMBOLIC sINTEGER : Addr) (h0 : Heap) (n0 : Nat) (hn : n0 ≤ h0.size) (G : own_env Z h0 sBOOLEAN sINTEGER_OR_SYMBOLIC sSYMBOLIC sINTEGER) :
    ConV l Z (⟨"com/example/fates3/fates3/model/KindJoinPinLaw", "expected", "(II)Lcom/example/fates3/fates3/model/Kind;"⟩ : MethodName) method_4_code 3 (some (.object "com/example/fates3/fates3/model/Kind")) ({ frames := 0, cells := 0, slots := 0, locals := 0 } : Room) #[(.int (3 : Int32)), (.int (2 : Int32))] h0 n0 (fun v h => h0 = h ∧ v = .ref sINTEGER_OR_SYMBOLIC) := by
  refine Con.of (plainFor_of_name (by first | (simp [plainName, overriddenIn]; done) | decide +kernel)) hn ?_
  intro p e s m below meth c T w X
  refine Gl.enter (ls := #[.val (.int (3 : Int32)), .val (.int (2 : Int32)), .unset]) (by first | rfl | (simp [entryFrame, mkF, argsToLocals, Value.category]; done)) ?_
  obtain ⟨S_sBOOLEAN, E_sBOOLEAN, S_sINTEGER_OR_SYMBOLIC, E_sINTEGER_OR_SYMBOLIC, S_sSYMBOLIC, E_sSYMBOLIC, S_sINTEGER, E_sINTEGER, L_sBOOLEAN_ordinal, L_sINTEGER_OR_SYMBOLIC_ordinal, L_sSYMBOLIC_ordinal, L_sINTEGER_ordinal⟩ := id G
  have ne_sBOOLEAN_sINTEGER_OR_SYMBOLIC : sBOOLEAN ≠ sINTEGER_OR_SYMBOLIC := L_sBOOLEAN_ordinal.ne L_sINTEGER_OR_SYMBOLIC_ordinal (by decide)
  have ne_sBOOLEAN_sSYMBOLIC : sBOOLEAN ≠ sSYMBOLIC := L_sBOOLEAN_ordinal.ne L_sSYMBOLIC_ordinal (by decide)
  have ne_sBOOLEAN_sINTEGER : sBOOLEAN ≠ sINTEGER := L_sBOOLEAN_ordinal.ne L_sINTEGER_ordinal (by decide)
  have ne_sINTEGER_OR_SYMBOLIC_sSYMBOLIC : sINTEGER_OR_SYMBOLIC ≠ sSYMBOLIC := L_sINTEGER_OR_SYMBOLIC_ordinal.ne L_sSYMBOLIC_ordinal (by decide)
  have ne_sINTEGER_OR_SYMBOLIC_sINTEGER : sINTEGER_OR_SYMBOLIC ≠ sINTEGER := L_sINTEGER_OR_SYMBOLIC_ordinal.ne L_sINTEGER_ordinal (by decide)
  have ne_sSYMBOLIC_sINTEGER : sSYMBOLIC ≠ sINTEGER := L_sSYMBOLIC_ordinal.ne L_sINTEGER_ordinal (by decide)
  refine gIloadN X w d3_0 rfl (n := 1) rfl ?_
  refine gIloadN X w d3_1 rfl (n := 2) rfl ?_
  refine gIor X w d3_2 (z := (3 : Int32)) (by decide) (n := 3) rfl ?_
  refine gIstoreN X w d3_3 #[.val (.int (3 : Int32)), .val (.int (2 : Int32)), .val (.int (3 : Int32))] rfl (n := 4) rfl ?_
  refine gIloadN X w d3_4 rfl (n := 5) rfl ?_
  refine gIconst X w d3_5 (z := (4 : Int32)) rfl (n := 6) rfl ?_
  refine gIcmp_ne X w d3_6 (n := 13) (n' := 9) (by decide) rfl rfl ?_ ?_
  · rintro ⟨c6, c6'⟩
    refine gIloadN X w d3_13 rfl (n := 14) rfl ?_
    refine gIconst X w d3_14 (z := (4 : Int32)) rfl (n := 15) rfl ?_
    refine gIand X w d3_15 (z := (0 : Int32)) (by decide) (n := 16) rfl ?_
    refine gIf_eq X w d3_16 (n := 21) (n' := 19) (by decide) rfl rfl ?_ ?_
    · rintro ⟨c16, c16'⟩
      refine gIloadN X w d3_21 rfl (n := 22) rfl ?_
      refine gIconst X w d3_22 (z := (1 : Int32)) rfl (n := 23) rfl ?_
      refine gIcmp_ne X w d3_23 (n := 30) (n' := 26) (by decide) rfl rfl ?_ ?_
      · rintro ⟨c23, c23'⟩
        refine gIloadN X w d3_30 rfl (n := 31) rfl ?_
        refine gIconst X w d3_31 (z := (2 : Int32)) rfl (n := 32) rfl ?_
        refine gIcmp_ne X w d3_32 (n := 39) (n' := 35) (by decide) rfl rfl ?_ ?_
        · rintro ⟨c32, c32'⟩
          refine gGetS X w (own_wd hw 7 rfl) Via.refl S_sINTEGER_OR_SYMBOLIC d3_39 (n := 42) rfl ?_
          intro T X
          exact gRetA X w rfl rfl rfl d3_42 (by decide) (by decide) (⟨_, rfl, rfl, rfl⟩)
        · rintro ⟨c32, c32'⟩
          exact absurd c32 (by decide)
      · rintro ⟨c23, c23'⟩
        exact absurd c23 (by decide)
    · rintro ⟨c16, c16'⟩
      exact absurd c16 (by decide)
  · rintro ⟨c6, c6'⟩
    exact absurd c6 (by decide)
set_option maxRecDepth 65536 in
set_option maxHeartbeats 40000000 in
theorem own_exp_33 (l : Launch) (Z : State) (a0 : Array Value) (hw : ∀ d ∈ tables_1, d.before a0 Z = true) (sBOOLEAN sINTEGER_OR_SYMBOLIC sSYMBOLIC sINTEGER : Addr) (h0 : Heap) (n0 : Nat) (hn : n0 ≤ h0.size) (G : own_env Z h0 sBOOLEAN sINTEGER_OR_SYMBOLIC sSYMBOLIC sINTEGER) :
    ConV l Z (⟨"com/example/fates3/fates3/model/KindJoinPinLaw", "expected", "(II)Lcom/example/fates3/fates3/model/Kind;"⟩ : MethodName) method_4_code 3 (some (.object "com/example/fates3/fates3/model/Kind")) ({ frames := 0, cells := 0, slots := 0, locals := 0 } : Room) #[(.int (3 : Int32)), (.int (3 : Int32))] h0 n0 (fun v h => h0 = h ∧ v = .ref sINTEGER_OR_SYMBOLIC) := by
  refine Con.of (plainFor_of_name (by first | (simp [plainName, overriddenIn]; done) | decide +kernel)) hn ?_
  intro p e s m below meth c T w X
  refine Gl.enter (ls := #[.val (.int (3 : Int32)), .val (.int (3 : Int32)), .unset]) (by first | rfl | (simp [entryFrame, mkF, argsToLocals, Value.category]; done)) ?_
  obtain ⟨S_sBOOLEAN, E_sBOOLEAN, S_sINTEGER_OR_SYMBOLIC, E_sINTEGER_OR_SYMBOLIC, S_sSYMBOLIC, E_sSYMBOLIC, S_sINTEGER, E_sINTEGER, L_sBOOLEAN_ordinal, L_sINTEGER_OR_SYMBOLIC_ordinal, L_sSYMBOLIC_ordinal, L_sINTEGER_ordinal⟩ := id G
  have ne_sBOOLEAN_sINTEGER_OR_SYMBOLIC : sBOOLEAN ≠ sINTEGER_OR_SYMBOLIC := L_sBOOLEAN_ordinal.ne L_sINTEGER_OR_SYMBOLIC_ordinal (by decide)
  have ne_sBOOLEAN_sSYMBOLIC : sBOOLEAN ≠ sSYMBOLIC := L_sBOOLEAN_ordinal.ne L_sSYMBOLIC_ordinal (by decide)
  have ne_sBOOLEAN_sINTEGER : sBOOLEAN ≠ sINTEGER := L_sBOOLEAN_ordinal.ne L_sINTEGER_ordinal (by decide)
  have ne_sINTEGER_OR_SYMBOLIC_sSYMBOLIC : sINTEGER_OR_SYMBOLIC ≠ sSYMBOLIC := L_sINTEGER_OR_SYMBOLIC_ordinal.ne L_sSYMBOLIC_ordinal (by decide)
  have ne_sINTEGER_OR_SYMBOLIC_sINTEGER : sINTEGER_OR_SYMBOLIC ≠ sINTEGER := L_sINTEGER_OR_SYMBOLIC_ordinal.ne L_sINTEGER_ordinal (by decide)
  have ne_sSYMBOLIC_sINTEGER : sSYMBOLIC ≠ sINTEGER := L_sSYMBOLIC_ordinal.ne L_sINTEGER_ordinal (by decide)
  refine gIloadN X w d3_0 rfl (n := 1) rfl ?_
  refine gIloadN X w d3_1 rfl (n := 2) rfl ?_
  refine gIor X w d3_2 (z := (3 : Int32)) (by decide) (n := 3) rfl ?_
  refine gIstoreN X w d3_3 #[.val (.int (3 : Int32)), .val (.int (3 : Int32)), .val (.int (3 : Int32))] rfl (n := 4) rfl ?_
  refine gIloadN X w d3_4 rfl (n := 5) rfl ?_
  refine gIconst X w d3_5 (z := (4 : Int32)) rfl (n := 6) rfl ?_
  refine gIcmp_ne X w d3_6 (n := 13) (n' := 9) (by decide) rfl rfl ?_ ?_
  · rintro ⟨c6, c6'⟩
    refine gIloadN X w d3_13 rfl (n := 14) rfl ?_
    refine gIconst X w d3_14 (z := (4 : Int32)) rfl (n := 15) rfl ?_
    refine gIand X w d3_15 (z := (0 : Int32)) (by decide) (n := 16) rfl ?_
    refine gIf_eq X w d3_16 (n := 21) (n' := 19) (by decide) rfl rfl ?_ ?_
    · rintro ⟨c16, c16'⟩
      refine gIloadN X w d3_21 rfl (n := 22) rfl ?_
      refine gIconst X w d3_22 (z := (1 : Int32)) rfl (n := 23) rfl ?_
      refine gIcmp_ne X w d3_23 (n := 30) (n' := 26) (by decide) rfl rfl ?_ ?_
      · rintro ⟨c23, c23'⟩
        refine gIloadN X w d3_30 rfl (n := 31) rfl ?_
        refine gIconst X w d3_31 (z := (2 : Int32)) rfl (n := 32) rfl ?_
        refine gIcmp_ne X w d3_32 (n := 39) (n' := 35) (by decide) rfl rfl ?_ ?_
        · rintro ⟨c32, c32'⟩
          refine gGetS X w (own_wd hw 7 rfl) Via.refl S_sINTEGER_OR_SYMBOLIC d3_39 (n := 42) rfl ?_
          intro T X
          exact gRetA X w rfl rfl rfl d3_42 (by decide) (by decide) (⟨_, rfl, rfl, rfl⟩)
        · rintro ⟨c32, c32'⟩
          exact absurd c32 (by decide)
      · rintro ⟨c23, c23'⟩
        exact absurd c23 (by decide)
    · rintro ⟨c16, c16'⟩
      exact absurd c16 (by decide)
  · rintro ⟨c6, c6'⟩
    exact absurd c6 (by decide)
set_option maxRecDepth 65536 in
set_option maxHeartbeats 40000000 in
theorem own_join_00 (l : Launch) (Z : State) (a0 : Array Value) (hw : ∀ d ∈ tables_1, d.before a0 Z = true) (sBOOLEAN sINTEGER_OR_SYMBOLIC sSYMBOLIC sINTEGER : Addr) (h0 : Heap) (n0 : Nat) (hn : n0 ≤ h0.size) (G : own_env Z h0 sBOOLEAN sINTEGER_OR_SYMBOLIC sSYMBOLIC sINTEGER) :
    ConV l Z (⟨"com/example/fates3/fates3/model/Kind", "join", "(Lcom/example/fates3/fates3/model/Kind;)Lcom/example/fates3/fates3/model/Kind;"⟩ : MethodName) prog_80_method_4_code 3 (some (.object "com/example/fates3/fates3/model/Kind")) ({ frames := 0, cells := 0, slots := 0, locals := 0 } : Room) #[(.ref sBOOLEAN), (.ref sBOOLEAN)] h0 n0 (fun v h => h0 = h ∧ v = .ref sBOOLEAN) := by
  refine Con.of (plainFor_of_name (by first | (simp [plainName, overriddenIn]; done) | decide +kernel)) hn ?_
  intro p e s m below meth c T w X
  refine Gl.enter (ls := #[.val (.ref sBOOLEAN), .val (.ref sBOOLEAN), .unset]) (by first | rfl | (simp [entryFrame, mkF, argsToLocals, Value.category]; done)) ?_
  obtain ⟨S_sBOOLEAN, E_sBOOLEAN, S_sINTEGER_OR_SYMBOLIC, E_sINTEGER_OR_SYMBOLIC, S_sSYMBOLIC, E_sSYMBOLIC, S_sINTEGER, E_sINTEGER, L_sBOOLEAN_ordinal, L_sINTEGER_OR_SYMBOLIC_ordinal, L_sSYMBOLIC_ordinal, L_sINTEGER_ordinal⟩ := id G
  have ne_sBOOLEAN_sINTEGER_OR_SYMBOLIC : sBOOLEAN ≠ sINTEGER_OR_SYMBOLIC := L_sBOOLEAN_ordinal.ne L_sINTEGER_OR_SYMBOLIC_ordinal (by decide)
  have ne_sBOOLEAN_sSYMBOLIC : sBOOLEAN ≠ sSYMBOLIC := L_sBOOLEAN_ordinal.ne L_sSYMBOLIC_ordinal (by decide)
  have ne_sBOOLEAN_sINTEGER : sBOOLEAN ≠ sINTEGER := L_sBOOLEAN_ordinal.ne L_sINTEGER_ordinal (by decide)
  have ne_sINTEGER_OR_SYMBOLIC_sSYMBOLIC : sINTEGER_OR_SYMBOLIC ≠ sSYMBOLIC := L_sINTEGER_OR_SYMBOLIC_ordinal.ne L_sSYMBOLIC_ordinal (by decide)
  have ne_sINTEGER_OR_SYMBOLIC_sINTEGER : sINTEGER_OR_SYMBOLIC ≠ sINTEGER := L_sINTEGER_OR_SYMBOLIC_ordinal.ne L_sINTEGER_ordinal (by decide)
  have ne_sSYMBOLIC_sINTEGER : sSYMBOLIC ≠ sINTEGER := L_sSYMBOLIC_ordinal.ne L_sINTEGER_ordinal (by decide)
  refine gAloadN X w d4_0 rfl rfl (n := 1) rfl ?_
  refine gAloadN X w d4_1 rfl rfl (n := 2) rfl ?_
  refine gAcmp_ne X w d4_2 rfl rfl (n := 10) (n' := 5) (by decide) rfl rfl ?_ ?_
  · intro c2
    exact absurd rfl c2
  · intro c2
    refine gAloadN X w d4_5 rfl rfl (n := 6) rfl ?_
    refine gAstoreN X w d4_6 rfl #[.val (.ref sBOOLEAN), .val (.ref sBOOLEAN), .val (.ref sBOOLEAN)] rfl (n := 7) rfl ?_
    refine gGoto X w d4_7 (by decide) (n := 33) rfl ?_
    refine gAloadN X w d4_33 rfl rfl (n := 34) rfl ?_
    exact gRetA X w rfl rfl rfl d4_34 (by decide) (by decide) (⟨_, rfl, rfl, rfl⟩)
set_option maxRecDepth 65536 in
set_option maxHeartbeats 40000000 in
theorem own_join_01 (l : Launch) (Z : State) (a0 : Array Value) (hw : ∀ d ∈ tables_1, d.before a0 Z = true) (sBOOLEAN sINTEGER_OR_SYMBOLIC sSYMBOLIC sINTEGER : Addr) (h0 : Heap) (n0 : Nat) (hn : n0 ≤ h0.size) (G : own_env Z h0 sBOOLEAN sINTEGER_OR_SYMBOLIC sSYMBOLIC sINTEGER) :
    ConV l Z (⟨"com/example/fates3/fates3/model/Kind", "join", "(Lcom/example/fates3/fates3/model/Kind;)Lcom/example/fates3/fates3/model/Kind;"⟩ : MethodName) prog_80_method_4_code 3 (some (.object "com/example/fates3/fates3/model/Kind")) ({ frames := 0, cells := 0, slots := 0, locals := 0 } : Room) #[(.ref sBOOLEAN), (.ref sINTEGER)] h0 n0 (fun v h => h0 = h ∧ v = .null) := by
  refine Con.of (plainFor_of_name (by first | (simp [plainName, overriddenIn]; done) | decide +kernel)) hn ?_
  intro p e s m below meth c T w X
  refine Gl.enter (ls := #[.val (.ref sBOOLEAN), .val (.ref sINTEGER), .unset]) (by first | rfl | (simp [entryFrame, mkF, argsToLocals, Value.category]; done)) ?_
  obtain ⟨S_sBOOLEAN, E_sBOOLEAN, S_sINTEGER_OR_SYMBOLIC, E_sINTEGER_OR_SYMBOLIC, S_sSYMBOLIC, E_sSYMBOLIC, S_sINTEGER, E_sINTEGER, L_sBOOLEAN_ordinal, L_sINTEGER_OR_SYMBOLIC_ordinal, L_sSYMBOLIC_ordinal, L_sINTEGER_ordinal⟩ := id G
  have ne_sBOOLEAN_sINTEGER_OR_SYMBOLIC : sBOOLEAN ≠ sINTEGER_OR_SYMBOLIC := L_sBOOLEAN_ordinal.ne L_sINTEGER_OR_SYMBOLIC_ordinal (by decide)
  have ne_sBOOLEAN_sSYMBOLIC : sBOOLEAN ≠ sSYMBOLIC := L_sBOOLEAN_ordinal.ne L_sSYMBOLIC_ordinal (by decide)
  have ne_sBOOLEAN_sINTEGER : sBOOLEAN ≠ sINTEGER := L_sBOOLEAN_ordinal.ne L_sINTEGER_ordinal (by decide)
  have ne_sINTEGER_OR_SYMBOLIC_sSYMBOLIC : sINTEGER_OR_SYMBOLIC ≠ sSYMBOLIC := L_sINTEGER_OR_SYMBOLIC_ordinal.ne L_sSYMBOLIC_ordinal (by decide)
  have ne_sINTEGER_OR_SYMBOLIC_sINTEGER : sINTEGER_OR_SYMBOLIC ≠ sINTEGER := L_sINTEGER_OR_SYMBOLIC_ordinal.ne L_sINTEGER_ordinal (by decide)
  have ne_sSYMBOLIC_sINTEGER : sSYMBOLIC ≠ sINTEGER := L_sSYMBOLIC_ordinal.ne L_sINTEGER_ordinal (by decide)
  refine gAloadN X w d4_0 rfl rfl (n := 1) rfl ?_
  refine gAloadN X w d4_1 rfl rfl (n := 2) rfl ?_
  refine gAcmp_ne X w d4_2 rfl rfl (n := 10) (n' := 5) (by decide) rfl rfl ?_ ?_
  · intro c2
    refine gAloadN X w d4_10 rfl rfl (n := 11) rfl ?_
    refine gGetS X w (own_wd hw 20 rfl) Via.refl S_sBOOLEAN d4_11 (n := 14) rfl ?_
    intro T X
    refine gAcmp_eq X w d4_14 rfl rfl (n := 24) (n' := 17) (by decide) rfl rfl ?_ ?_
    · intro c14
      refine gNull X w d4_24 (n := 25) rfl ?_
      refine gAstoreN X w d4_25 rfl #[.val (.ref sBOOLEAN), .val (.ref sINTEGER), .val .null] rfl (n := 26) rfl ?_
      refine gGoto X w d4_26 (by decide) (n := 33) rfl ?_
      refine gAloadN X w d4_33 rfl rfl (n := 34) rfl ?_
      exact gRetA X w rfl rfl rfl d4_34 (by decide) (by decide) (⟨_, rfl, rfl, rfl⟩)
    · intro c14
      exact absurd rfl c14
  · intro c2
    exact absurd (Value.ref.inj c2) ne_sBOOLEAN_sINTEGER
set_option maxRecDepth 65536 in
set_option maxHeartbeats 40000000 in
theorem own_join_02 (l : Launch) (Z : State) (a0 : Array Value) (hw : ∀ d ∈ tables_1, d.before a0 Z = true) (sBOOLEAN sINTEGER_OR_SYMBOLIC sSYMBOLIC sINTEGER : Addr) (h0 : Heap) (n0 : Nat) (hn : n0 ≤ h0.size) (G : own_env Z h0 sBOOLEAN sINTEGER_OR_SYMBOLIC sSYMBOLIC sINTEGER) :
    ConV l Z (⟨"com/example/fates3/fates3/model/Kind", "join", "(Lcom/example/fates3/fates3/model/Kind;)Lcom/example/fates3/fates3/model/Kind;"⟩ : MethodName) prog_80_method_4_code 3 (some (.object "com/example/fates3/fates3/model/Kind")) ({ frames := 0, cells := 0, slots := 0, locals := 0 } : Room) #[(.ref sBOOLEAN), (.ref sSYMBOLIC)] h0 n0 (fun v h => h0 = h ∧ v = .null) := by
  refine Con.of (plainFor_of_name (by first | (simp [plainName, overriddenIn]; done) | decide +kernel)) hn ?_
  intro p e s m below meth c T w X
  refine Gl.enter (ls := #[.val (.ref sBOOLEAN), .val (.ref sSYMBOLIC), .unset]) (by first | rfl | (simp [entryFrame, mkF, argsToLocals, Value.category]; done)) ?_
  obtain ⟨S_sBOOLEAN, E_sBOOLEAN, S_sINTEGER_OR_SYMBOLIC, E_sINTEGER_OR_SYMBOLIC, S_sSYMBOLIC, E_sSYMBOLIC, S_sINTEGER, E_sINTEGER, L_sBOOLEAN_ordinal, L_sINTEGER_OR_SYMBOLIC_ordinal, L_sSYMBOLIC_ordinal, L_sINTEGER_ordinal⟩ := id G
  have ne_sBOOLEAN_sINTEGER_OR_SYMBOLIC : sBOOLEAN ≠ sINTEGER_OR_SYMBOLIC := L_sBOOLEAN_ordinal.ne L_sINTEGER_OR_SYMBOLIC_ordinal (by decide)
  have ne_sBOOLEAN_sSYMBOLIC : sBOOLEAN ≠ sSYMBOLIC := L_sBOOLEAN_ordinal.ne L_sSYMBOLIC_ordinal (by decide)
  have ne_sBOOLEAN_sINTEGER : sBOOLEAN ≠ sINTEGER := L_sBOOLEAN_ordinal.ne L_sINTEGER_ordinal (by decide)
  have ne_sINTEGER_OR_SYMBOLIC_sSYMBOLIC : sINTEGER_OR_SYMBOLIC ≠ sSYMBOLIC := L_sINTEGER_OR_SYMBOLIC_ordinal.ne L_sSYMBOLIC_ordinal (by decide)
  have ne_sINTEGER_OR_SYMBOLIC_sINTEGER : sINTEGER_OR_SYMBOLIC ≠ sINTEGER := L_sINTEGER_OR_SYMBOLIC_ordinal.ne L_sINTEGER_ordinal (by decide)
  have ne_sSYMBOLIC_sINTEGER : sSYMBOLIC ≠ sINTEGER := L_sSYMBOLIC_ordinal.ne L_sINTEGER_ordinal (by decide)
  refine gAloadN X w d4_0 rfl rfl (n := 1) rfl ?_
  refine gAloadN X w d4_1 rfl rfl (n := 2) rfl ?_
  refine gAcmp_ne X w d4_2 rfl rfl (n := 10) (n' := 5) (by decide) rfl rfl ?_ ?_
  · intro c2
    refine gAloadN X w d4_10 rfl rfl (n := 11) rfl ?_
    refine gGetS X w (own_wd hw 20 rfl) Via.refl S_sBOOLEAN d4_11 (n := 14) rfl ?_
    intro T X
    refine gAcmp_eq X w d4_14 rfl rfl (n := 24) (n' := 17) (by decide) rfl rfl ?_ ?_
    · intro c14
      refine gNull X w d4_24 (n := 25) rfl ?_
      refine gAstoreN X w d4_25 rfl #[.val (.ref sBOOLEAN), .val (.ref sSYMBOLIC), .val .null] rfl (n := 26) rfl ?_
      refine gGoto X w d4_26 (by decide) (n := 33) rfl ?_
      refine gAloadN X w d4_33 rfl rfl (n := 34) rfl ?_
      exact gRetA X w rfl rfl rfl d4_34 (by decide) (by decide) (⟨_, rfl, rfl, rfl⟩)
    · intro c14
      exact absurd rfl c14
  · intro c2
    exact absurd (Value.ref.inj c2) ne_sBOOLEAN_sSYMBOLIC
set_option maxRecDepth 65536 in
set_option maxHeartbeats 40000000 in
theorem own_join_03 (l : Launch) (Z : State) (a0 : Array Value) (hw : ∀ d ∈ tables_1, d.before a0 Z = true) (sBOOLEAN sINTEGER_OR_SYMBOLIC sSYMBOLIC sINTEGER : Addr) (h0 : Heap) (n0 : Nat) (hn : n0 ≤ h0.size) (G : own_env Z h0 sBOOLEAN sINTEGER_OR_SYMBOLIC sSYMBOLIC sINTEGER) :
    ConV l Z (⟨"com/example/fates3/fates3/model/Kind", "join", "(Lcom/example/fates3/fates3/model/Kind;)Lcom/example/fates3/fates3/model/Kind;"⟩ : MethodName) prog_80_method_4_code 3 (some (.object "com/example/fates3/fates3/model/Kind")) ({ frames := 0, cells := 0, slots := 0, locals := 0 } : Room) #[(.ref sBOOLEAN), (.ref sINTEGER_OR_SYMBOLIC)] h0 n0 (fun v h => h0 = h ∧ v = .null) := by
  refine Con.of (plainFor_of_name (by first | (simp [plainName, overriddenIn]; done) | decide +kernel)) hn ?_
  intro p e s m below meth c T w X
  refine Gl.enter (ls := #[.val (.ref sBOOLEAN), .val (.ref sINTEGER_OR_SYMBOLIC), .unset]) (by first | rfl | (simp [entryFrame, mkF, argsToLocals, Value.category]; done)) ?_
  obtain ⟨S_sBOOLEAN, E_sBOOLEAN, S_sINTEGER_OR_SYMBOLIC, E_sINTEGER_OR_SYMBOLIC, S_sSYMBOLIC, E_sSYMBOLIC, S_sINTEGER, E_sINTEGER, L_sBOOLEAN_ordinal, L_sINTEGER_OR_SYMBOLIC_ordinal, L_sSYMBOLIC_ordinal, L_sINTEGER_ordinal⟩ := id G
  have ne_sBOOLEAN_sINTEGER_OR_SYMBOLIC : sBOOLEAN ≠ sINTEGER_OR_SYMBOLIC := L_sBOOLEAN_ordinal.ne L_sINTEGER_OR_SYMBOLIC_ordinal (by decide)
  have ne_sBOOLEAN_sSYMBOLIC : sBOOLEAN ≠ sSYMBOLIC := L_sBOOLEAN_ordinal.ne L_sSYMBOLIC_ordinal (by decide)
  have ne_sBOOLEAN_sINTEGER : sBOOLEAN ≠ sINTEGER := L_sBOOLEAN_ordinal.ne L_sINTEGER_ordinal (by decide)
  have ne_sINTEGER_OR_SYMBOLIC_sSYMBOLIC : sINTEGER_OR_SYMBOLIC ≠ sSYMBOLIC := L_sINTEGER_OR_SYMBOLIC_ordinal.ne L_sSYMBOLIC_ordinal (by decide)
  have ne_sINTEGER_OR_SYMBOLIC_sINTEGER : sINTEGER_OR_SYMBOLIC ≠ sINTEGER := L_sINTEGER_OR_SYMBOLIC_ordinal.ne L_sINTEGER_ordinal (by decide)
  have ne_sSYMBOLIC_sINTEGER : sSYMBOLIC ≠ sINTEGER := L_sSYMBOLIC_ordinal.ne L_sINTEGER_ordinal (by decide)
  refine gAloadN X w d4_0 rfl rfl (n := 1) rfl ?_
  refine gAloadN X w d4_1 rfl rfl (n := 2) rfl ?_
  refine gAcmp_ne X w d4_2 rfl rfl (n := 10) (n' := 5) (by decide) rfl rfl ?_ ?_
  · intro c2
    refine gAloadN X w d4_10 rfl rfl (n := 11) rfl ?_
    refine gGetS X w (own_wd hw 20 rfl) Via.refl S_sBOOLEAN d4_11 (n := 14) rfl ?_
    intro T X
    refine gAcmp_eq X w d4_14 rfl rfl (n := 24) (n' := 17) (by decide) rfl rfl ?_ ?_
    · intro c14
      refine gNull X w d4_24 (n := 25) rfl ?_
      refine gAstoreN X w d4_25 rfl #[.val (.ref sBOOLEAN), .val (.ref sINTEGER_OR_SYMBOLIC), .val .null] rfl (n := 26) rfl ?_
      refine gGoto X w d4_26 (by decide) (n := 33) rfl ?_
      refine gAloadN X w d4_33 rfl rfl (n := 34) rfl ?_
      exact gRetA X w rfl rfl rfl d4_34 (by decide) (by decide) (⟨_, rfl, rfl, rfl⟩)
    · intro c14
      exact absurd rfl c14
  · intro c2
    exact absurd (Value.ref.inj c2) ne_sBOOLEAN_sINTEGER_OR_SYMBOLIC
set_option maxRecDepth 65536 in
set_option maxHeartbeats 40000000 in
theorem own_join_10 (l : Launch) (Z : State) (a0 : Array Value) (hw : ∀ d ∈ tables_1, d.before a0 Z = true) (sBOOLEAN sINTEGER_OR_SYMBOLIC sSYMBOLIC sINTEGER : Addr) (h0 : Heap) (n0 : Nat) (hn : n0 ≤ h0.size) (G : own_env Z h0 sBOOLEAN sINTEGER_OR_SYMBOLIC sSYMBOLIC sINTEGER) :
    ConV l Z (⟨"com/example/fates3/fates3/model/Kind", "join", "(Lcom/example/fates3/fates3/model/Kind;)Lcom/example/fates3/fates3/model/Kind;"⟩ : MethodName) prog_80_method_4_code 3 (some (.object "com/example/fates3/fates3/model/Kind")) ({ frames := 0, cells := 0, slots := 0, locals := 0 } : Room) #[(.ref sINTEGER), (.ref sBOOLEAN)] h0 n0 (fun v h => h0 = h ∧ v = .null) := by
  refine Con.of (plainFor_of_name (by first | (simp [plainName, overriddenIn]; done) | decide +kernel)) hn ?_
  intro p e s m below meth c T w X
  refine Gl.enter (ls := #[.val (.ref sINTEGER), .val (.ref sBOOLEAN), .unset]) (by first | rfl | (simp [entryFrame, mkF, argsToLocals, Value.category]; done)) ?_
  obtain ⟨S_sBOOLEAN, E_sBOOLEAN, S_sINTEGER_OR_SYMBOLIC, E_sINTEGER_OR_SYMBOLIC, S_sSYMBOLIC, E_sSYMBOLIC, S_sINTEGER, E_sINTEGER, L_sBOOLEAN_ordinal, L_sINTEGER_OR_SYMBOLIC_ordinal, L_sSYMBOLIC_ordinal, L_sINTEGER_ordinal⟩ := id G
  have ne_sBOOLEAN_sINTEGER_OR_SYMBOLIC : sBOOLEAN ≠ sINTEGER_OR_SYMBOLIC := L_sBOOLEAN_ordinal.ne L_sINTEGER_OR_SYMBOLIC_ordinal (by decide)
  have ne_sBOOLEAN_sSYMBOLIC : sBOOLEAN ≠ sSYMBOLIC := L_sBOOLEAN_ordinal.ne L_sSYMBOLIC_ordinal (by decide)
  have ne_sBOOLEAN_sINTEGER : sBOOLEAN ≠ sINTEGER := L_sBOOLEAN_ordinal.ne L_sINTEGER_ordinal (by decide)
  have ne_sINTEGER_OR_SYMBOLIC_sSYMBOLIC : sINTEGER_OR_SYMBOLIC ≠ sSYMBOLIC := L_sINTEGER_OR_SYMBOLIC_ordinal.ne L_sSYMBOLIC_ordinal (by decide)
  have ne_sINTEGER_OR_SYMBOLIC_sINTEGER : sINTEGER_OR_SYMBOLIC ≠ sINTEGER := L_sINTEGER_OR_SYMBOLIC_ordinal.ne L_sINTEGER_ordinal (by decide)
  have ne_sSYMBOLIC_sINTEGER : sSYMBOLIC ≠ sINTEGER := L_sSYMBOLIC_ordinal.ne L_sINTEGER_ordinal (by decide)
  refine gAloadN X w d4_0 rfl rfl (n := 1) rfl ?_
  refine gAloadN X w d4_1 rfl rfl (n := 2) rfl ?_
  refine gAcmp_ne X w d4_2 rfl rfl (n := 10) (n' := 5) (by decide) rfl rfl ?_ ?_
  · intro c2
    refine gAloadN X w d4_10 rfl rfl (n := 11) rfl ?_
    refine gGetS X w (own_wd hw 20 rfl) Via.refl S_sBOOLEAN d4_11 (n := 14) rfl ?_
    intro T X
    refine gAcmp_eq X w d4_14 rfl rfl (n := 24) (n' := 17) (by decide) rfl rfl ?_ ?_
    · intro c14
      exact absurd (Value.ref.inj c14) (Ne.symm ne_sBOOLEAN_sINTEGER)
    · intro c14
      refine gAloadN X w d4_17 rfl rfl (n := 18) rfl ?_
      refine gGetS X w (own_wd hw 20 rfl) Via.refl S_sBOOLEAN d4_18 (n := 21) rfl ?_
      intro T X
      refine gAcmp_ne X w d4_21 rfl rfl (n := 29) (n' := 24) (by decide) rfl rfl ?_ ?_
      · intro c21
        exact absurd rfl c21
      · intro c21
        refine gNull X w d4_24 (n := 25) rfl ?_
        refine gAstoreN X w d4_25 rfl #[.val (.ref sINTEGER), .val (.ref sBOOLEAN), .val .null] rfl (n := 26) rfl ?_
        refine gGoto X w d4_26 (by decide) (n := 33) rfl ?_
        refine gAloadN X w d4_33 rfl rfl (n := 34) rfl ?_
        exact gRetA X w rfl rfl rfl d4_34 (by decide) (by decide) (⟨_, rfl, rfl, rfl⟩)
  · intro c2
    exact absurd (Value.ref.inj c2) (Ne.symm ne_sBOOLEAN_sINTEGER)
set_option maxRecDepth 65536 in
set_option maxHeartbeats 40000000 in
theorem own_join_11 (l : Launch) (Z : State) (a0 : Array Value) (hw : ∀ d ∈ tables_1, d.before a0 Z = true) (sBOOLEAN sINTEGER_OR_SYMBOLIC sSYMBOLIC sINTEGER : Addr) (h0 : Heap) (n0 : Nat) (hn : n0 ≤ h0.size) (G : own_env Z h0 sBOOLEAN sINTEGER_OR_SYMBOLIC sSYMBOLIC sINTEGER) :
    ConV l Z (⟨"com/example/fates3/fates3/model/Kind", "join", "(Lcom/example/fates3/fates3/model/Kind;)Lcom/example/fates3/fates3/model/Kind;"⟩ : MethodName) prog_80_method_4_code 3 (some (.object "com/example/fates3/fates3/model/Kind")) ({ frames := 0, cells := 0, slots := 0, locals := 0 } : Room) #[(.ref sINTEGER), (.ref sINTEGER)] h0 n0 (fun v h => h0 = h ∧ v = .ref sINTEGER) := by
  refine Con.of (plainFor_of_name (by first | (simp [plainName, overriddenIn]; done) | decide +kernel)) hn ?_
  intro p e s m below meth c T w X
  refine Gl.enter (ls := #[.val (.ref sINTEGER), .val (.ref sINTEGER), .unset]) (by first | rfl | (simp [entryFrame, mkF, argsToLocals, Value.category]; done)) ?_
  obtain ⟨S_sBOOLEAN, E_sBOOLEAN, S_sINTEGER_OR_SYMBOLIC, E_sINTEGER_OR_SYMBOLIC, S_sSYMBOLIC, E_sSYMBOLIC, S_sINTEGER, E_sINTEGER, L_sBOOLEAN_ordinal, L_sINTEGER_OR_SYMBOLIC_ordinal, L_sSYMBOLIC_ordinal, L_sINTEGER_ordinal⟩ := id G
  have ne_sBOOLEAN_sINTEGER_OR_SYMBOLIC : sBOOLEAN ≠ sINTEGER_OR_SYMBOLIC := L_sBOOLEAN_ordinal.ne L_sINTEGER_OR_SYMBOLIC_ordinal (by decide)
  have ne_sBOOLEAN_sSYMBOLIC : sBOOLEAN ≠ sSYMBOLIC := L_sBOOLEAN_ordinal.ne L_sSYMBOLIC_ordinal (by decide)
  have ne_sBOOLEAN_sINTEGER : sBOOLEAN ≠ sINTEGER := L_sBOOLEAN_ordinal.ne L_sINTEGER_ordinal (by decide)
  have ne_sINTEGER_OR_SYMBOLIC_sSYMBOLIC : sINTEGER_OR_SYMBOLIC ≠ sSYMBOLIC := L_sINTEGER_OR_SYMBOLIC_ordinal.ne L_sSYMBOLIC_ordinal (by decide)
  have ne_sINTEGER_OR_SYMBOLIC_sINTEGER : sINTEGER_OR_SYMBOLIC ≠ sINTEGER := L_sINTEGER_OR_SYMBOLIC_ordinal.ne L_sINTEGER_ordinal (by decide)
  have ne_sSYMBOLIC_sINTEGER : sSYMBOLIC ≠ sINTEGER := L_sSYMBOLIC_ordinal.ne L_sINTEGER_ordinal (by decide)
  refine gAloadN X w d4_0 rfl rfl (n := 1) rfl ?_
  refine gAloadN X w d4_1 rfl rfl (n := 2) rfl ?_
  refine gAcmp_ne X w d4_2 rfl rfl (n := 10) (n' := 5) (by decide) rfl rfl ?_ ?_
  · intro c2
    exact absurd rfl c2
  · intro c2
    refine gAloadN X w d4_5 rfl rfl (n := 6) rfl ?_
    refine gAstoreN X w d4_6 rfl #[.val (.ref sINTEGER), .val (.ref sINTEGER), .val (.ref sINTEGER)] rfl (n := 7) rfl ?_
    refine gGoto X w d4_7 (by decide) (n := 33) rfl ?_
    refine gAloadN X w d4_33 rfl rfl (n := 34) rfl ?_
    exact gRetA X w rfl rfl rfl d4_34 (by decide) (by decide) (⟨_, rfl, rfl, rfl⟩)
set_option maxRecDepth 65536 in
set_option maxHeartbeats 40000000 in
theorem own_join_12 (l : Launch) (Z : State) (a0 : Array Value) (hw : ∀ d ∈ tables_1, d.before a0 Z = true) (sBOOLEAN sINTEGER_OR_SYMBOLIC sSYMBOLIC sINTEGER : Addr) (h0 : Heap) (n0 : Nat) (hn : n0 ≤ h0.size) (G : own_env Z h0 sBOOLEAN sINTEGER_OR_SYMBOLIC sSYMBOLIC sINTEGER) :
    ConV l Z (⟨"com/example/fates3/fates3/model/Kind", "join", "(Lcom/example/fates3/fates3/model/Kind;)Lcom/example/fates3/fates3/model/Kind;"⟩ : MethodName) prog_80_method_4_code 3 (some (.object "com/example/fates3/fates3/model/Kind")) ({ frames := 0, cells := 0, slots := 0, locals := 0 } : Room) #[(.ref sINTEGER), (.ref sSYMBOLIC)] h0 n0 (fun v h => h0 = h ∧ v = .ref sINTEGER_OR_SYMBOLIC) := by
  refine Con.of (plainFor_of_name (by first | (simp [plainName, overriddenIn]; done) | decide +kernel)) hn ?_
  intro p e s m below meth c T w X
  refine Gl.enter (ls := #[.val (.ref sINTEGER), .val (.ref sSYMBOLIC), .unset]) (by first | rfl | (simp [entryFrame, mkF, argsToLocals, Value.category]; done)) ?_
  obtain ⟨S_sBOOLEAN, E_sBOOLEAN, S_sINTEGER_OR_SYMBOLIC, E_sINTEGER_OR_SYMBOLIC, S_sSYMBOLIC, E_sSYMBOLIC, S_sINTEGER, E_sINTEGER, L_sBOOLEAN_ordinal, L_sINTEGER_OR_SYMBOLIC_ordinal, L_sSYMBOLIC_ordinal, L_sINTEGER_ordinal⟩ := id G
  have ne_sBOOLEAN_sINTEGER_OR_SYMBOLIC : sBOOLEAN ≠ sINTEGER_OR_SYMBOLIC := L_sBOOLEAN_ordinal.ne L_sINTEGER_OR_SYMBOLIC_ordinal (by decide)
  have ne_sBOOLEAN_sSYMBOLIC : sBOOLEAN ≠ sSYMBOLIC := L_sBOOLEAN_ordinal.ne L_sSYMBOLIC_ordinal (by decide)
  have ne_sBOOLEAN_sINTEGER : sBOOLEAN ≠ sINTEGER := L_sBOOLEAN_ordinal.ne L_sINTEGER_ordinal (by decide)
  have ne_sINTEGER_OR_SYMBOLIC_sSYMBOLIC : sINTEGER_OR_SYMBOLIC ≠ sSYMBOLIC := L_sINTEGER_OR_SYMBOLIC_ordinal.ne L_sSYMBOLIC_ordinal (by decide)
  have ne_sINTEGER_OR_SYMBOLIC_sINTEGER : sINTEGER_OR_SYMBOLIC ≠ sINTEGER := L_sINTEGER_OR_SYMBOLIC_ordinal.ne L_sINTEGER_ordinal (by decide)
  have ne_sSYMBOLIC_sINTEGER : sSYMBOLIC ≠ sINTEGER := L_sSYMBOLIC_ordinal.ne L_sINTEGER_ordinal (by decide)
  refine gAloadN X w d4_0 rfl rfl (n := 1) rfl ?_
  refine gAloadN X w d4_1 rfl rfl (n := 2) rfl ?_
  refine gAcmp_ne X w d4_2 rfl rfl (n := 10) (n' := 5) (by decide) rfl rfl ?_ ?_
  · intro c2
    refine gAloadN X w d4_10 rfl rfl (n := 11) rfl ?_
    refine gGetS X w (own_wd hw 20 rfl) Via.refl S_sBOOLEAN d4_11 (n := 14) rfl ?_
    intro T X
    refine gAcmp_eq X w d4_14 rfl rfl (n := 24) (n' := 17) (by decide) rfl rfl ?_ ?_
    · intro c14
      exact absurd (Value.ref.inj c14) (Ne.symm ne_sBOOLEAN_sINTEGER)
    · intro c14
      refine gAloadN X w d4_17 rfl rfl (n := 18) rfl ?_
      refine gGetS X w (own_wd hw 20 rfl) Via.refl S_sBOOLEAN d4_18 (n := 21) rfl ?_
      intro T X
      refine gAcmp_ne X w d4_21 rfl rfl (n := 29) (n' := 24) (by decide) rfl rfl ?_ ?_
      · intro c21
        refine gGetS X w (own_wd hw 25 rfl) Via.refl S_sINTEGER_OR_SYMBOLIC d4_29 (n := 32) rfl ?_
        intro T X
        refine gAstoreN X w d4_32 rfl #[.val (.ref sINTEGER), .val (.ref sSYMBOLIC), .val (.ref sINTEGER_OR_SYMBOLIC)] rfl (n := 33) rfl ?_
        refine gAloadN X w d4_33 rfl rfl (n := 34) rfl ?_
        exact gRetA X w rfl rfl rfl d4_34 (by decide) (by decide) (⟨_, rfl, rfl, rfl⟩)
      · intro c21
        exact absurd (Value.ref.inj c21) (Ne.symm ne_sBOOLEAN_sSYMBOLIC)
  · intro c2
    exact absurd (Value.ref.inj c2) (Ne.symm ne_sSYMBOLIC_sINTEGER)
set_option maxRecDepth 65536 in
set_option maxHeartbeats 40000000 in
theorem own_join_13 (l : Launch) (Z : State) (a0 : Array Value) (hw : ∀ d ∈ tables_1, d.before a0 Z = true) (sBOOLEAN sINTEGER_OR_SYMBOLIC sSYMBOLIC sINTEGER : Addr) (h0 : Heap) (n0 : Nat) (hn : n0 ≤ h0.size) (G : own_env Z h0 sBOOLEAN sINTEGER_OR_SYMBOLIC sSYMBOLIC sINTEGER) :
    ConV l Z (⟨"com/example/fates3/fates3/model/Kind", "join", "(Lcom/example/fates3/fates3/model/Kind;)Lcom/example/fates3/fates3/model/Kind;"⟩ : MethodName) prog_80_method_4_code 3 (some (.object "com/example/fates3/fates3/model/Kind")) ({ frames := 0, cells := 0, slots := 0, locals := 0 } : Room) #[(.ref sINTEGER), (.ref sINTEGER_OR_SYMBOLIC)] h0 n0 (fun v h => h0 = h ∧ v = .ref sINTEGER_OR_SYMBOLIC) := by
  refine Con.of (plainFor_of_name (by first | (simp [plainName, overriddenIn]; done) | decide +kernel)) hn ?_
  intro p e s m below meth c T w X
  refine Gl.enter (ls := #[.val (.ref sINTEGER), .val (.ref sINTEGER_OR_SYMBOLIC), .unset]) (by first | rfl | (simp [entryFrame, mkF, argsToLocals, Value.category]; done)) ?_
  obtain ⟨S_sBOOLEAN, E_sBOOLEAN, S_sINTEGER_OR_SYMBOLIC, E_sINTEGER_OR_SYMBOLIC, S_sSYMBOLIC, E_sSYMBOLIC, S_sINTEGER, E_sINTEGER, L_sBOOLEAN_ordinal, L_sINTEGER_OR_SYMBOLIC_ordinal, L_sSYMBOLIC_ordinal, L_sINTEGER_ordinal⟩ := id G
  have ne_sBOOLEAN_sINTEGER_OR_SYMBOLIC : sBOOLEAN ≠ sINTEGER_OR_SYMBOLIC := L_sBOOLEAN_ordinal.ne L_sINTEGER_OR_SYMBOLIC_ordinal (by decide)
  have ne_sBOOLEAN_sSYMBOLIC : sBOOLEAN ≠ sSYMBOLIC := L_sBOOLEAN_ordinal.ne L_sSYMBOLIC_ordinal (by decide)
  have ne_sBOOLEAN_sINTEGER : sBOOLEAN ≠ sINTEGER := L_sBOOLEAN_ordinal.ne L_sINTEGER_ordinal (by decide)
  have ne_sINTEGER_OR_SYMBOLIC_sSYMBOLIC : sINTEGER_OR_SYMBOLIC ≠ sSYMBOLIC := L_sINTEGER_OR_SYMBOLIC_ordinal.ne L_sSYMBOLIC_ordinal (by decide)
  have ne_sINTEGER_OR_SYMBOLIC_sINTEGER : sINTEGER_OR_SYMBOLIC ≠ sINTEGER := L_sINTEGER_OR_SYMBOLIC_ordinal.ne L_sINTEGER_ordinal (by decide)
  have ne_sSYMBOLIC_sINTEGER : sSYMBOLIC ≠ sINTEGER := L_sSYMBOLIC_ordinal.ne L_sINTEGER_ordinal (by decide)
  refine gAloadN X w d4_0 rfl rfl (n := 1) rfl ?_
  refine gAloadN X w d4_1 rfl rfl (n := 2) rfl ?_
  refine gAcmp_ne X w d4_2 rfl rfl (n := 10) (n' := 5) (by decide) rfl rfl ?_ ?_
  · intro c2
    refine gAloadN X w d4_10 rfl rfl (n := 11) rfl ?_
    refine gGetS X w (own_wd hw 20 rfl) Via.refl S_sBOOLEAN d4_11 (n := 14) rfl ?_
    intro T X
    refine gAcmp_eq X w d4_14 rfl rfl (n := 24) (n' := 17) (by decide) rfl rfl ?_ ?_
    · intro c14
      exact absurd (Value.ref.inj c14) (Ne.symm ne_sBOOLEAN_sINTEGER)
    · intro c14
      refine gAloadN X w d4_17 rfl rfl (n := 18) rfl ?_
      refine gGetS X w (own_wd hw 20 rfl) Via.refl S_sBOOLEAN d4_18 (n := 21) rfl ?_
      intro T X
      refine gAcmp_ne X w d4_21 rfl rfl (n := 29) (n' := 24) (by decide) rfl rfl ?_ ?_
      · intro c21
        refine gGetS X w (own_wd hw 25 rfl) Via.refl S_sINTEGER_OR_SYMBOLIC d4_29 (n := 32) rfl ?_
        intro T X
        refine gAstoreN X w d4_32 rfl #[.val (.ref sINTEGER), .val (.ref sINTEGER_OR_SYMBOLIC), .val (.ref sINTEGER_OR_SYMBOLIC)] rfl (n := 33) rfl ?_
        refine gAloadN X w d4_33 rfl rfl (n := 34) rfl ?_
        exact gRetA X w rfl rfl rfl d4_34 (by decide) (by decide) (⟨_, rfl, rfl, rfl⟩)
      · intro c21
        exact absurd (Value.ref.inj c21) (Ne.symm ne_sBOOLEAN_sINTEGER_OR_SYMBOLIC)
  · intro c2
    exact absurd (Value.ref.inj c2) (Ne.symm ne_sINTEGER_OR_SYMBOLIC_sINTEGER)
set_option maxRecDepth 65536 in
set_option maxHeartbeats 40000000 in
theorem own_join_20 (l : Launch) (Z : State) (a0 : Array Value) (hw : ∀ d ∈ tables_1, d.before a0 Z = true) (sBOOLEAN sINTEGER_OR_SYMBOLIC sSYMBOLIC sINTEGER : Addr) (h0 : Heap) (n0 : Nat) (hn : n0 ≤ h0.size) (G : own_env Z h0 sBOOLEAN sINTEGER_OR_SYMBOLIC sSYMBOLIC sINTEGER) :
    ConV l Z (⟨"com/example/fates3/fates3/model/Kind", "join", "(Lcom/example/fates3/fates3/model/Kind;)Lcom/example/fates3/fates3/model/Kind;"⟩ : MethodName) prog_80_method_4_code 3 (some (.object "com/example/fates3/fates3/model/Kind")) ({ frames := 0, cells := 0, slots := 0, locals := 0 } : Room) #[(.ref sSYMBOLIC), (.ref sBOOLEAN)] h0 n0 (fun v h => h0 = h ∧ v = .null) := by
  refine Con.of (plainFor_of_name (by first | (simp [plainName, overriddenIn]; done) | decide +kernel)) hn ?_
  intro p e s m below meth c T w X
  refine Gl.enter (ls := #[.val (.ref sSYMBOLIC), .val (.ref sBOOLEAN), .unset]) (by first | rfl | (simp [entryFrame, mkF, argsToLocals, Value.category]; done)) ?_
  obtain ⟨S_sBOOLEAN, E_sBOOLEAN, S_sINTEGER_OR_SYMBOLIC, E_sINTEGER_OR_SYMBOLIC, S_sSYMBOLIC, E_sSYMBOLIC, S_sINTEGER, E_sINTEGER, L_sBOOLEAN_ordinal, L_sINTEGER_OR_SYMBOLIC_ordinal, L_sSYMBOLIC_ordinal, L_sINTEGER_ordinal⟩ := id G
  have ne_sBOOLEAN_sINTEGER_OR_SYMBOLIC : sBOOLEAN ≠ sINTEGER_OR_SYMBOLIC := L_sBOOLEAN_ordinal.ne L_sINTEGER_OR_SYMBOLIC_ordinal (by decide)
  have ne_sBOOLEAN_sSYMBOLIC : sBOOLEAN ≠ sSYMBOLIC := L_sBOOLEAN_ordinal.ne L_sSYMBOLIC_ordinal (by decide)
  have ne_sBOOLEAN_sINTEGER : sBOOLEAN ≠ sINTEGER := L_sBOOLEAN_ordinal.ne L_sINTEGER_ordinal (by decide)
  have ne_sINTEGER_OR_SYMBOLIC_sSYMBOLIC : sINTEGER_OR_SYMBOLIC ≠ sSYMBOLIC := L_sINTEGER_OR_SYMBOLIC_ordinal.ne L_sSYMBOLIC_ordinal (by decide)
  have ne_sINTEGER_OR_SYMBOLIC_sINTEGER : sINTEGER_OR_SYMBOLIC ≠ sINTEGER := L_sINTEGER_OR_SYMBOLIC_ordinal.ne L_sINTEGER_ordinal (by decide)
  have ne_sSYMBOLIC_sINTEGER : sSYMBOLIC ≠ sINTEGER := L_sSYMBOLIC_ordinal.ne L_sINTEGER_ordinal (by decide)
  refine gAloadN X w d4_0 rfl rfl (n := 1) rfl ?_
  refine gAloadN X w d4_1 rfl rfl (n := 2) rfl ?_
  refine gAcmp_ne X w d4_2 rfl rfl (n := 10) (n' := 5) (by decide) rfl rfl ?_ ?_
  · intro c2
    refine gAloadN X w d4_10 rfl rfl (n := 11) rfl ?_
    refine gGetS X w (own_wd hw 20 rfl) Via.refl S_sBOOLEAN d4_11 (n := 14) rfl ?_
    intro T X
    refine gAcmp_eq X w d4_14 rfl rfl (n := 24) (n' := 17) (by decide) rfl rfl ?_ ?_
    · intro c14
      exact absurd (Value.ref.inj c14) (Ne.symm ne_sBOOLEAN_sSYMBOLIC)
    · intro c14
      refine gAloadN X w d4_17 rfl rfl (n := 18) rfl ?_
      refine gGetS X w (own_wd hw 20 rfl) Via.refl S_sBOOLEAN d4_18 (n := 21) rfl ?_
      intro T X
      refine gAcmp_ne X w d4_21 rfl rfl (n := 29) (n' := 24) (by decide) rfl rfl ?_ ?_
      · intro c21
        exact absurd rfl c21
      · intro c21
        refine gNull X w d4_24 (n := 25) rfl ?_
        refine gAstoreN X w d4_25 rfl #[.val (.ref sSYMBOLIC), .val (.ref sBOOLEAN), .val .null] rfl (n := 26) rfl ?_
        refine gGoto X w d4_26 (by decide) (n := 33) rfl ?_
        refine gAloadN X w d4_33 rfl rfl (n := 34) rfl ?_
        exact gRetA X w rfl rfl rfl d4_34 (by decide) (by decide) (⟨_, rfl, rfl, rfl⟩)
  · intro c2
    exact absurd (Value.ref.inj c2) (Ne.symm ne_sBOOLEAN_sSYMBOLIC)
set_option maxRecDepth 65536 in
set_option maxHeartbeats 40000000 in
theorem own_join_21 (l : Launch) (Z : State) (a0 : Array Value) (hw : ∀ d ∈ tables_1, d.before a0 Z = true) (sBOOLEAN sINTEGER_OR_SYMBOLIC sSYMBOLIC sINTEGER : Addr) (h0 : Heap) (n0 : Nat) (hn : n0 ≤ h0.size) (G : own_env Z h0 sBOOLEAN sINTEGER_OR_SYMBOLIC sSYMBOLIC sINTEGER) :
    ConV l Z (⟨"com/example/fates3/fates3/model/Kind", "join", "(Lcom/example/fates3/fates3/model/Kind;)Lcom/example/fates3/fates3/model/Kind;"⟩ : MethodName) prog_80_method_4_code 3 (some (.object "com/example/fates3/fates3/model/Kind")) ({ frames := 0, cells := 0, slots := 0, locals := 0 } : Room) #[(.ref sSYMBOLIC), (.ref sINTEGER)] h0 n0 (fun v h => h0 = h ∧ v = .ref sINTEGER_OR_SYMBOLIC) := by
  refine Con.of (plainFor_of_name (by first | (simp [plainName, overriddenIn]; done) | decide +kernel)) hn ?_
  intro p e s m below meth c T w X
  refine Gl.enter (ls := #[.val (.ref sSYMBOLIC), .val (.ref sINTEGER), .unset]) (by first | rfl | (simp [entryFrame, mkF, argsToLocals, Value.category]; done)) ?_
  obtain ⟨S_sBOOLEAN, E_sBOOLEAN, S_sINTEGER_OR_SYMBOLIC, E_sINTEGER_OR_SYMBOLIC, S_sSYMBOLIC, E_sSYMBOLIC, S_sINTEGER, E_sINTEGER, L_sBOOLEAN_ordinal, L_sINTEGER_OR_SYMBOLIC_ordinal, L_sSYMBOLIC_ordinal, L_sINTEGER_ordinal⟩ := id G
  have ne_sBOOLEAN_sINTEGER_OR_SYMBOLIC : sBOOLEAN ≠ sINTEGER_OR_SYMBOLIC := L_sBOOLEAN_ordinal.ne L_sINTEGER_OR_SYMBOLIC_ordinal (by decide)
  have ne_sBOOLEAN_sSYMBOLIC : sBOOLEAN ≠ sSYMBOLIC := L_sBOOLEAN_ordinal.ne L_sSYMBOLIC_ordinal (by decide)
  have ne_sBOOLEAN_sINTEGER : sBOOLEAN ≠ sINTEGER := L_sBOOLEAN_ordinal.ne L_sINTEGER_ordinal (by decide)
  have ne_sINTEGER_OR_SYMBOLIC_sSYMBOLIC : sINTEGER_OR_SYMBOLIC ≠ sSYMBOLIC := L_sINTEGER_OR_SYMBOLIC_ordinal.ne L_sSYMBOLIC_ordinal (by decide)
  have ne_sINTEGER_OR_SYMBOLIC_sINTEGER : sINTEGER_OR_SYMBOLIC ≠ sINTEGER := L_sINTEGER_OR_SYMBOLIC_ordinal.ne L_sINTEGER_ordinal (by decide)
  have ne_sSYMBOLIC_sINTEGER : sSYMBOLIC ≠ sINTEGER := L_sSYMBOLIC_ordinal.ne L_sINTEGER_ordinal (by decide)
  refine gAloadN X w d4_0 rfl rfl (n := 1) rfl ?_
  refine gAloadN X w d4_1 rfl rfl (n := 2) rfl ?_
  refine gAcmp_ne X w d4_2 rfl rfl (n := 10) (n' := 5) (by decide) rfl rfl ?_ ?_
  · intro c2
    refine gAloadN X w d4_10 rfl rfl (n := 11) rfl ?_
    refine gGetS X w (own_wd hw 20 rfl) Via.refl S_sBOOLEAN d4_11 (n := 14) rfl ?_
    intro T X
    refine gAcmp_eq X w d4_14 rfl rfl (n := 24) (n' := 17) (by decide) rfl rfl ?_ ?_
    · intro c14
      exact absurd (Value.ref.inj c14) (Ne.symm ne_sBOOLEAN_sSYMBOLIC)
    · intro c14
      refine gAloadN X w d4_17 rfl rfl (n := 18) rfl ?_
      refine gGetS X w (own_wd hw 20 rfl) Via.refl S_sBOOLEAN d4_18 (n := 21) rfl ?_
      intro T X
      refine gAcmp_ne X w d4_21 rfl rfl (n := 29) (n' := 24) (by decide) rfl rfl ?_ ?_
      · intro c21
        refine gGetS X w (own_wd hw 25 rfl) Via.refl S_sINTEGER_OR_SYMBOLIC d4_29 (n := 32) rfl ?_
        intro T X
        refine gAstoreN X w d4_32 rfl #[.val (.ref sSYMBOLIC), .val (.ref sINTEGER), .val (.ref sINTEGER_OR_SYMBOLIC)] rfl (n := 33) rfl ?_
        refine gAloadN X w d4_33 rfl rfl (n := 34) rfl ?_
        exact gRetA X w rfl rfl rfl d4_34 (by decide) (by decide) (⟨_, rfl, rfl, rfl⟩)
      · intro c21
        exact absurd (Value.ref.inj c21) (Ne.symm ne_sBOOLEAN_sINTEGER)
  · intro c2
    exact absurd (Value.ref.inj c2) ne_sSYMBOLIC_sINTEGER
set_option maxRecDepth 65536 in
set_option maxHeartbeats 40000000 in
theorem own_join_22 (l : Launch) (Z : State) (a0 : Array Value) (hw : ∀ d ∈ tables_1, d.before a0 Z = true) (sBOOLEAN sINTEGER_OR_SYMBOLIC sSYMBOLIC sINTEGER : Addr) (h0 : Heap) (n0 : Nat) (hn : n0 ≤ h0.size) (G : own_env Z h0 sBOOLEAN sINTEGER_OR_SYMBOLIC sSYMBOLIC sINTEGER) :
    ConV l Z (⟨"com/example/fates3/fates3/model/Kind", "join", "(Lcom/example/fates3/fates3/model/Kind;)Lcom/example/fates3/fates3/model/Kind;"⟩ : MethodName) prog_80_method_4_code 3 (some (.object "com/example/fates3/fates3/model/Kind")) ({ frames := 0, cells := 0, slots := 0, locals := 0 } : Room) #[(.ref sSYMBOLIC), (.ref sSYMBOLIC)] h0 n0 (fun v h => h0 = h ∧ v = .ref sSYMBOLIC) := by
  refine Con.of (plainFor_of_name (by first | (simp [plainName, overriddenIn]; done) | decide +kernel)) hn ?_
  intro p e s m below meth c T w X
  refine Gl.enter (ls := #[.val (.ref sSYMBOLIC), .val (.ref sSYMBOLIC), .unset]) (by first | rfl | (simp [entryFrame, mkF, argsToLocals, Value.category]; done)) ?_
  obtain ⟨S_sBOOLEAN, E_sBOOLEAN, S_sINTEGER_OR_SYMBOLIC, E_sINTEGER_OR_SYMBOLIC, S_sSYMBOLIC, E_sSYMBOLIC, S_sINTEGER, E_sINTEGER, L_sBOOLEAN_ordinal, L_sINTEGER_OR_SYMBOLIC_ordinal, L_sSYMBOLIC_ordinal, L_sINTEGER_ordinal⟩ := id G
  have ne_sBOOLEAN_sINTEGER_OR_SYMBOLIC : sBOOLEAN ≠ sINTEGER_OR_SYMBOLIC := L_sBOOLEAN_ordinal.ne L_sINTEGER_OR_SYMBOLIC_ordinal (by decide)
  have ne_sBOOLEAN_sSYMBOLIC : sBOOLEAN ≠ sSYMBOLIC := L_sBOOLEAN_ordinal.ne L_sSYMBOLIC_ordinal (by decide)
  have ne_sBOOLEAN_sINTEGER : sBOOLEAN ≠ sINTEGER := L_sBOOLEAN_ordinal.ne L_sINTEGER_ordinal (by decide)
  have ne_sINTEGER_OR_SYMBOLIC_sSYMBOLIC : sINTEGER_OR_SYMBOLIC ≠ sSYMBOLIC := L_sINTEGER_OR_SYMBOLIC_ordinal.ne L_sSYMBOLIC_ordinal (by decide)
  have ne_sINTEGER_OR_SYMBOLIC_sINTEGER : sINTEGER_OR_SYMBOLIC ≠ sINTEGER := L_sINTEGER_OR_SYMBOLIC_ordinal.ne L_sINTEGER_ordinal (by decide)
  have ne_sSYMBOLIC_sINTEGER : sSYMBOLIC ≠ sINTEGER := L_sSYMBOLIC_ordinal.ne L_sINTEGER_ordinal (by decide)
  refine gAloadN X w d4_0 rfl rfl (n := 1) rfl ?_
  refine gAloadN X w d4_1 rfl rfl (n := 2) rfl ?_
  refine gAcmp_ne X w d4_2 rfl rfl (n := 10) (n' := 5) (by decide) rfl rfl ?_ ?_
  · intro c2
    exact absurd rfl c2
  · intro c2
    refine gAloadN X w d4_5 rfl rfl (n := 6) rfl ?_
    refine gAstoreN X w d4_6 rfl #[.val (.ref sSYMBOLIC), .val (.ref sSYMBOLIC), .val (.ref sSYMBOLIC)] rfl (n := 7) rfl ?_
    refine gGoto X w d4_7 (by decide) (n := 33) rfl ?_
    refine gAloadN X w d4_33 rfl rfl (n := 34) rfl ?_
    exact gRetA X w rfl rfl rfl d4_34 (by decide) (by decide) (⟨_, rfl, rfl, rfl⟩)
set_option maxRecDepth 65536 in
set_option maxHeartbeats 40000000 in
theorem own_join_23 (l : Launch) (Z : State) (a0 : Array Value) (hw : ∀ d ∈ tables_1, d.before a0 Z = true) (sBOOLEAN sINTEGER_OR_SYMBOLIC sSYMBOLIC sINTEGER : Addr) (h0 : Heap) (n0 : Nat) (hn : n0 ≤ h0.size) (G : own_env Z h0 sBOOLEAN sINTEGER_OR_SYMBOLIC sSYMBOLIC sINTEGER) :
    ConV l Z (⟨"com/example/fates3/fates3/model/Kind", "join", "(Lcom/example/fates3/fates3/model/Kind;)Lcom/example/fates3/fates3/model/Kind;"⟩ : MethodName) prog_80_method_4_code 3 (some (.object "com/example/fates3/fates3/model/Kind")) ({ frames := 0, cells := 0, slots := 0, locals := 0 } : Room) #[(.ref sSYMBOLIC), (.ref sINTEGER_OR_SYMBOLIC)] h0 n0 (fun v h => h0 = h ∧ v = .ref sINTEGER_OR_SYMBOLIC) := by
  refine Con.of (plainFor_of_name (by first | (simp [plainName, overriddenIn]; done) | decide +kernel)) hn ?_
  intro p e s m below meth c T w X
  refine Gl.enter (ls := #[.val (.ref sSYMBOLIC), .val (.ref sINTEGER_OR_SYMBOLIC), .unset]) (by first | rfl | (simp [entryFrame, mkF, argsToLocals, Value.category]; done)) ?_
  obtain ⟨S_sBOOLEAN, E_sBOOLEAN, S_sINTEGER_OR_SYMBOLIC, E_sINTEGER_OR_SYMBOLIC, S_sSYMBOLIC, E_sSYMBOLIC, S_sINTEGER, E_sINTEGER, L_sBOOLEAN_ordinal, L_sINTEGER_OR_SYMBOLIC_ordinal, L_sSYMBOLIC_ordinal, L_sINTEGER_ordinal⟩ := id G
  have ne_sBOOLEAN_sINTEGER_OR_SYMBOLIC : sBOOLEAN ≠ sINTEGER_OR_SYMBOLIC := L_sBOOLEAN_ordinal.ne L_sINTEGER_OR_SYMBOLIC_ordinal (by decide)
  have ne_sBOOLEAN_sSYMBOLIC : sBOOLEAN ≠ sSYMBOLIC := L_sBOOLEAN_ordinal.ne L_sSYMBOLIC_ordinal (by decide)
  have ne_sBOOLEAN_sINTEGER : sBOOLEAN ≠ sINTEGER := L_sBOOLEAN_ordinal.ne L_sINTEGER_ordinal (by decide)
  have ne_sINTEGER_OR_SYMBOLIC_sSYMBOLIC : sINTEGER_OR_SYMBOLIC ≠ sSYMBOLIC := L_sINTEGER_OR_SYMBOLIC_ordinal.ne L_sSYMBOLIC_ordinal (by decide)
  have ne_sINTEGER_OR_SYMBOLIC_sINTEGER : sINTEGER_OR_SYMBOLIC ≠ sINTEGER := L_sINTEGER_OR_SYMBOLIC_ordinal.ne L_sINTEGER_ordinal (by decide)
  have ne_sSYMBOLIC_sINTEGER : sSYMBOLIC ≠ sINTEGER := L_sSYMBOLIC_ordinal.ne L_sINTEGER_ordinal (by decide)
  refine gAloadN X w d4_0 rfl rfl (n := 1) rfl ?_
  refine gAloadN X w d4_1 rfl rfl (n := 2) rfl ?_
  refine gAcmp_ne X w d4_2 rfl rfl (n := 10) (n' := 5) (by decide) rfl rfl ?_ ?_
  · intro c2
    refine gAloadN X w d4_10 rfl rfl (n := 11) rfl ?_
    refine gGetS X w (own_wd hw 20 rfl) Via.refl S_sBOOLEAN d4_11 (n := 14) rfl ?_
    intro T X
    refine gAcmp_eq X w d4_14 rfl rfl (n := 24) (n' := 17) (by decide) rfl rfl ?_ ?_
    · intro c14
      exact absurd (Value.ref.inj c14) (Ne.symm ne_sBOOLEAN_sSYMBOLIC)
    · intro c14
      refine gAloadN X w d4_17 rfl rfl (n := 18) rfl ?_
      refine gGetS X w (own_wd hw 20 rfl) Via.refl S_sBOOLEAN d4_18 (n := 21) rfl ?_
      intro T X
      refine gAcmp_ne X w d4_21 rfl rfl (n := 29) (n' := 24) (by decide) rfl rfl ?_ ?_
      · intro c21
        refine gGetS X w (own_wd hw 25 rfl) Via.refl S_sINTEGER_OR_SYMBOLIC d4_29 (n := 32) rfl ?_
        intro T X
        refine gAstoreN X w d4_32 rfl #[.val (.ref sSYMBOLIC), .val (.ref sINTEGER_OR_SYMBOLIC), .val (.ref sINTEGER_OR_SYMBOLIC)] rfl (n := 33) rfl ?_
        refine gAloadN X w d4_33 rfl rfl (n := 34) rfl ?_
        exact gRetA X w rfl rfl rfl d4_34 (by decide) (by decide) (⟨_, rfl, rfl, rfl⟩)
      · intro c21
        exact absurd (Value.ref.inj c21) (Ne.symm ne_sBOOLEAN_sINTEGER_OR_SYMBOLIC)
  · intro c2
    exact absurd (Value.ref.inj c2) (Ne.symm ne_sINTEGER_OR_SYMBOLIC_sSYMBOLIC)
set_option maxRecDepth 65536 in
set_option maxHeartbeats 40000000 in
theorem own_join_30 (l : Launch) (Z : State) (a0 : Array Value) (hw : ∀ d ∈ tables_1, d.before a0 Z = true) (sBOOLEAN sINTEGER_OR_SYMBOLIC sSYMBOLIC sINTEGER : Addr) (h0 : Heap) (n0 : Nat) (hn : n0 ≤ h0.size) (G : own_env Z h0 sBOOLEAN sINTEGER_OR_SYMBOLIC sSYMBOLIC sINTEGER) :
    ConV l Z (⟨"com/example/fates3/fates3/model/Kind", "join", "(Lcom/example/fates3/fates3/model/Kind;)Lcom/example/fates3/fates3/model/Kind;"⟩ : MethodName) prog_80_method_4_code 3 (some (.object "com/example/fates3/fates3/model/Kind")) ({ frames := 0, cells := 0, slots := 0, locals := 0 } : Room) #[(.ref sINTEGER_OR_SYMBOLIC), (.ref sBOOLEAN)] h0 n0 (fun v h => h0 = h ∧ v = .null) := by
  refine Con.of (plainFor_of_name (by first | (simp [plainName, overriddenIn]; done) | decide +kernel)) hn ?_
  intro p e s m below meth c T w X
  refine Gl.enter (ls := #[.val (.ref sINTEGER_OR_SYMBOLIC), .val (.ref sBOOLEAN), .unset]) (by first | rfl | (simp [entryFrame, mkF, argsToLocals, Value.category]; done)) ?_
  obtain ⟨S_sBOOLEAN, E_sBOOLEAN, S_sINTEGER_OR_SYMBOLIC, E_sINTEGER_OR_SYMBOLIC, S_sSYMBOLIC, E_sSYMBOLIC, S_sINTEGER, E_sINTEGER, L_sBOOLEAN_ordinal, L_sINTEGER_OR_SYMBOLIC_ordinal, L_sSYMBOLIC_ordinal, L_sINTEGER_ordinal⟩ := id G
  have ne_sBOOLEAN_sINTEGER_OR_SYMBOLIC : sBOOLEAN ≠ sINTEGER_OR_SYMBOLIC := L_sBOOLEAN_ordinal.ne L_sINTEGER_OR_SYMBOLIC_ordinal (by decide)
  have ne_sBOOLEAN_sSYMBOLIC : sBOOLEAN ≠ sSYMBOLIC := L_sBOOLEAN_ordinal.ne L_sSYMBOLIC_ordinal (by decide)
  have ne_sBOOLEAN_sINTEGER : sBOOLEAN ≠ sINTEGER := L_sBOOLEAN_ordinal.ne L_sINTEGER_ordinal (by decide)
  have ne_sINTEGER_OR_SYMBOLIC_sSYMBOLIC : sINTEGER_OR_SYMBOLIC ≠ sSYMBOLIC := L_sINTEGER_OR_SYMBOLIC_ordinal.ne L_sSYMBOLIC_ordinal (by decide)
  have ne_sINTEGER_OR_SYMBOLIC_sINTEGER : sINTEGER_OR_SYMBOLIC ≠ sINTEGER := L_sINTEGER_OR_SYMBOLIC_ordinal.ne L_sINTEGER_ordinal (by decide)
  have ne_sSYMBOLIC_sINTEGER : sSYMBOLIC ≠ sINTEGER := L_sSYMBOLIC_ordinal.ne L_sINTEGER_ordinal (by decide)
  refine gAloadN X w d4_0 rfl rfl (n := 1) rfl ?_
  refine gAloadN X w d4_1 rfl rfl (n := 2) rfl ?_
  refine gAcmp_ne X w d4_2 rfl rfl (n := 10) (n' := 5) (by decide) rfl rfl ?_ ?_
  · intro c2
    refine gAloadN X w d4_10 rfl rfl (n := 11) rfl ?_
    refine gGetS X w (own_wd hw 20 rfl) Via.refl S_sBOOLEAN d4_11 (n := 14) rfl ?_
    intro T X
    refine gAcmp_eq X w d4_14 rfl rfl (n := 24) (n' := 17) (by decide) rfl rfl ?_ ?_
    · intro c14
      exact absurd (Value.ref.inj c14) (Ne.symm ne_sBOOLEAN_sINTEGER_OR_SYMBOLIC)
    · intro c14
      refine gAloadN X w d4_17 rfl rfl (n := 18) rfl ?_
      refine gGetS X w (own_wd hw 20 rfl) Via.refl S_sBOOLEAN d4_18 (n := 21) rfl ?_
      intro T X
      refine gAcmp_ne X w d4_21 rfl rfl (n := 29) (n' := 24) (by decide) rfl rfl ?_ ?_
      · intro c21
        exact absurd rfl c21
      · intro c21
        refine gNull X w d4_24 (n := 25) rfl ?_
        refine gAstoreN X w d4_25 rfl #[.val (.ref sINTEGER_OR_SYMBOLIC), .val (.ref sBOOLEAN), .val .null] rfl (n := 26) rfl ?_
        refine gGoto X w d4_26 (by decide) (n := 33) rfl ?_
        refine gAloadN X w d4_33 rfl rfl (n := 34) rfl ?_
        exact gRetA X w rfl rfl rfl d4_34 (by decide) (by decide) (⟨_, rfl, rfl, rfl⟩)
  · intro c2
    exact absurd (Value.ref.inj c2) (Ne.symm ne_sBOOLEAN_sINTEGER_OR_SYMBOLIC)
set_option maxRecDepth 65536 in
set_option maxHeartbeats 40000000 in
theorem own_join_31 (l : Launch) (Z : State) (a0 : Array Value) (hw : ∀ d ∈ tables_1, d.before a0 Z = true) (sBOOLEAN sINTEGER_OR_SYMBOLIC sSYMBOLIC sINTEGER : Addr) (h0 : Heap) (n0 : Nat) (hn : n0 ≤ h0.size) (G : own_env Z h0 sBOOLEAN sINTEGER_OR_SYMBOLIC sSYMBOLIC sINTEGER) :
    ConV l Z (⟨"com/example/fates3/fates3/model/Kind", "join", "(Lcom/example/fates3/fates3/model/Kind;)Lcom/example/fates3/fates3/model/Kind;"⟩ : MethodName) prog_80_method_4_code 3 (some (.object "com/example/fates3/fates3/model/Kind")) ({ frames := 0, cells := 0, slots := 0, locals := 0 } : Room) #[(.ref sINTEGER_OR_SYMBOLIC), (.ref sINTEGER)] h0 n0 (fun v h => h0 = h ∧ v = .ref sINTEGER_OR_SYMBOLIC) := by
  refine Con.of (plainFor_of_name (by first | (simp [plainName, overriddenIn]; done) | decide +kernel)) hn ?_
  intro p e s m below meth c T w X
  refine Gl.enter (ls := #[.val (.ref sINTEGER_OR_SYMBOLIC), .val (.ref sINTEGER), .unset]) (by first | rfl | (simp [entryFrame, mkF, argsToLocals, Value.category]; done)) ?_
  obtain ⟨S_sBOOLEAN, E_sBOOLEAN, S_sINTEGER_OR_SYMBOLIC, E_sINTEGER_OR_SYMBOLIC, S_sSYMBOLIC, E_sSYMBOLIC, S_sINTEGER, E_sINTEGER, L_sBOOLEAN_ordinal, L_sINTEGER_OR_SYMBOLIC_ordinal, L_sSYMBOLIC_ordinal, L_sINTEGER_ordinal⟩ := id G
  have ne_sBOOLEAN_sINTEGER_OR_SYMBOLIC : sBOOLEAN ≠ sINTEGER_OR_SYMBOLIC := L_sBOOLEAN_ordinal.ne L_sINTEGER_OR_SYMBOLIC_ordinal (by decide)
  have ne_sBOOLEAN_sSYMBOLIC : sBOOLEAN ≠ sSYMBOLIC := L_sBOOLEAN_ordinal.ne L_sSYMBOLIC_ordinal (by decide)
  have ne_sBOOLEAN_sINTEGER : sBOOLEAN ≠ sINTEGER := L_sBOOLEAN_ordinal.ne L_sINTEGER_ordinal (by decide)
  have ne_sINTEGER_OR_SYMBOLIC_sSYMBOLIC : sINTEGER_OR_SYMBOLIC ≠ sSYMBOLIC := L_sINTEGER_OR_SYMBOLIC_ordinal.ne L_sSYMBOLIC_ordinal (by decide)
  have ne_sINTEGER_OR_SYMBOLIC_sINTEGER : sINTEGER_OR_SYMBOLIC ≠ sINTEGER := L_sINTEGER_OR_SYMBOLIC_ordinal.ne L_sINTEGER_ordinal (by decide)
  have ne_sSYMBOLIC_sINTEGER : sSYMBOLIC ≠ sINTEGER := L_sSYMBOLIC_ordinal.ne L_sINTEGER_ordinal (by decide)
  refine gAloadN X w d4_0 rfl rfl (n := 1) rfl ?_
  refine gAloadN X w d4_1 rfl rfl (n := 2) rfl ?_
  refine gAcmp_ne X w d4_2 rfl rfl (n := 10) (n' := 5) (by decide) rfl rfl ?_ ?_
  · intro c2
    refine gAloadN X w d4_10 rfl rfl (n := 11) rfl ?_
    refine gGetS X w (own_wd hw 20 rfl) Via.refl S_sBOOLEAN d4_11 (n := 14) rfl ?_
    intro T X
    refine gAcmp_eq X w d4_14 rfl rfl (n := 24) (n' := 17) (by decide) rfl rfl ?_ ?_
    · intro c14
      exact absurd (Value.ref.inj c14) (Ne.symm ne_sBOOLEAN_sINTEGER_OR_SYMBOLIC)
    · intro c14
      refine gAloadN X w d4_17 rfl rfl (n := 18) rfl ?_
      refine gGetS X w (own_wd hw 20 rfl) Via.refl S_sBOOLEAN d4_18 (n := 21) rfl ?_
      intro T X
      refine gAcmp_ne X w d4_21 rfl rfl (n := 29) (n' := 24) (by decide) rfl rfl ?_ ?_
      · intro c21
        refine gGetS X w (own_wd hw 25 rfl) Via.refl S_sINTEGER_OR_SYMBOLIC d4_29 (n := 32) rfl ?_
        intro T X
        refine gAstoreN X w d4_32 rfl #[.val (.ref sINTEGER_OR_SYMBOLIC), .val (.ref sINTEGER), .val (.ref sINTEGER_OR_SYMBOLIC)] rfl (n := 33) rfl ?_
        refine gAloadN X w d4_33 rfl rfl (n := 34) rfl ?_
        exact gRetA X w rfl rfl rfl d4_34 (by decide) (by decide) (⟨_, rfl, rfl, rfl⟩)
      · intro c21
        exact absurd (Value.ref.inj c21) (Ne.symm ne_sBOOLEAN_sINTEGER)
  · intro c2
    exact absurd (Value.ref.inj c2) ne_sINTEGER_OR_SYMBOLIC_sINTEGER
set_option maxRecDepth 65536 in
set_option maxHeartbeats 40000000 in
theorem own_join_32 (l : Launch) (Z : State) (a0 : Array Value) (hw : ∀ d ∈ tables_1, d.before a0 Z = true) (sBOOLEAN sINTEGER_OR_SYMBOLIC sSYMBOLIC sINTEGER : Addr) (h0 : Heap) (n0 : Nat) (hn : n0 ≤ h0.size) (G : own_env Z h0 sBOOLEAN sINTEGER_OR_SYMBOLIC sSYMBOLIC sINTEGER) :
    ConV l Z (⟨"com/example/fates3/fates3/model/Kind", "join", "(Lcom/example/fates3/fates3/model/Kind;)Lcom/example/fates3/fates3/model/Kind;"⟩ : MethodName) prog_80_method_4_code 3 (some (.object "com/example/fates3/fates3/model/Kind")) ({ frames := 0, cells := 0, slots := 0, locals := 0 } : Room) #[(.ref sINTEGER_OR_SYMBOLIC), (.ref sSYMBOLIC)] h0 n0 (fun v h => h0 = h ∧ v = .ref sINTEGER_OR_SYMBOLIC) := by
  refine Con.of (plainFor_of_name (by first | (simp [plainName, overriddenIn]; done) | decide +kernel)) hn ?_
  intro p e s m below meth c T w X
  refine Gl.enter (ls := #[.val (.ref sINTEGER_OR_SYMBOLIC), .val (.ref sSYMBOLIC), .unset]) (by first | rfl | (simp [entryFrame, mkF, argsToLocals, Value.category]; done)) ?_
  obtain ⟨S_sBOOLEAN, E_sBOOLEAN, S_sINTEGER_OR_SYMBOLIC, E_sINTEGER_OR_SYMBOLIC, S_sSYMBOLIC, E_sSYMBOLIC, S_sINTEGER, E_sINTEGER, L_sBOOLEAN_ordinal, L_sINTEGER_OR_SYMBOLIC_ordinal, L_sSYMBOLIC_ordinal, L_sINTEGER_ordinal⟩ := id G
  have ne_sBOOLEAN_sINTEGER_OR_SYMBOLIC : sBOOLEAN ≠ sINTEGER_OR_SYMBOLIC := L_sBOOLEAN_ordinal.ne L_sINTEGER_OR_SYMBOLIC_ordinal (by decide)
  have ne_sBOOLEAN_sSYMBOLIC : sBOOLEAN ≠ sSYMBOLIC := L_sBOOLEAN_ordinal.ne L_sSYMBOLIC_ordinal (by decide)
  have ne_sBOOLEAN_sINTEGER : sBOOLEAN ≠ sINTEGER := L_sBOOLEAN_ordinal.ne L_sINTEGER_ordinal (by decide)
  have ne_sINTEGER_OR_SYMBOLIC_sSYMBOLIC : sINTEGER_OR_SYMBOLIC ≠ sSYMBOLIC := L_sINTEGER_OR_SYMBOLIC_ordinal.ne L_sSYMBOLIC_ordinal (by decide)
  have ne_sINTEGER_OR_SYMBOLIC_sINTEGER : sINTEGER_OR_SYMBOLIC ≠ sINTEGER := L_sINTEGER_OR_SYMBOLIC_ordinal.ne L_sINTEGER_ordinal (by decide)
  have ne_sSYMBOLIC_sINTEGER : sSYMBOLIC ≠ sINTEGER := L_sSYMBOLIC_ordinal.ne L_sINTEGER_ordinal (by decide)
  refine gAloadN X w d4_0 rfl rfl (n := 1) rfl ?_
  refine gAloadN X w d4_1 rfl rfl (n := 2) rfl ?_
  refine gAcmp_ne X w d4_2 rfl rfl (n := 10) (n' := 5) (by decide) rfl rfl ?_ ?_
  · intro c2
    refine gAloadN X w d4_10 rfl rfl (n := 11) rfl ?_
    refine gGetS X w (own_wd hw 20 rfl) Via.refl S_sBOOLEAN d4_11 (n := 14) rfl ?_
    intro T X
    refine gAcmp_eq X w d4_14 rfl rfl (n := 24) (n' := 17) (by decide) rfl rfl ?_ ?_
    · intro c14
      exact absurd (Value.ref.inj c14) (Ne.symm ne_sBOOLEAN_sINTEGER_OR_SYMBOLIC)
    · intro c14
      refine gAloadN X w d4_17 rfl rfl (n := 18) rfl ?_
      refine gGetS X w (own_wd hw 20 rfl) Via.refl S_sBOOLEAN d4_18 (n := 21) rfl ?_
      intro T X
      refine gAcmp_ne X w d4_21 rfl rfl (n := 29) (n' := 24) (by decide) rfl rfl ?_ ?_
      · intro c21
        refine gGetS X w (own_wd hw 25 rfl) Via.refl S_sINTEGER_OR_SYMBOLIC d4_29 (n := 32) rfl ?_
        intro T X
        refine gAstoreN X w d4_32 rfl #[.val (.ref sINTEGER_OR_SYMBOLIC), .val (.ref sSYMBOLIC), .val (.ref sINTEGER_OR_SYMBOLIC)] rfl (n := 33) rfl ?_
        refine gAloadN X w d4_33 rfl rfl (n := 34) rfl ?_
        exact gRetA X w rfl rfl rfl d4_34 (by decide) (by decide) (⟨_, rfl, rfl, rfl⟩)
      · intro c21
        exact absurd (Value.ref.inj c21) (Ne.symm ne_sBOOLEAN_sSYMBOLIC)
  · intro c2
    exact absurd (Value.ref.inj c2) ne_sINTEGER_OR_SYMBOLIC_sSYMBOLIC
set_option maxRecDepth 65536 in
set_option maxHeartbeats 40000000 in
theorem own_join_33 (l : Launch) (Z : State) (a0 : Array Value) (hw : ∀ d ∈ tables_1, d.before a0 Z = true) (sBOOLEAN sINTEGER_OR_SYMBOLIC sSYMBOLIC sINTEGER : Addr) (h0 : Heap) (n0 : Nat) (hn : n0 ≤ h0.size) (G : own_env Z h0 sBOOLEAN sINTEGER_OR_SYMBOLIC sSYMBOLIC sINTEGER) :
    ConV l Z (⟨"com/example/fates3/fates3/model/Kind", "join", "(Lcom/example/fates3/fates3/model/Kind;)Lcom/example/fates3/fates3/model/Kind;"⟩ : MethodName) prog_80_method_4_code 3 (some (.object "com/example/fates3/fates3/model/Kind")) ({ frames := 0, cells := 0, slots := 0, locals := 0 } : Room) #[(.ref sINTEGER_OR_SYMBOLIC), (.ref sINTEGER_OR_SYMBOLIC)] h0 n0 (fun v h => h0 = h ∧ v = .ref sINTEGER_OR_SYMBOLIC) := by
  refine Con.of (plainFor_of_name (by first | (simp [plainName, overriddenIn]; done) | decide +kernel)) hn ?_
  intro p e s m below meth c T w X
  refine Gl.enter (ls := #[.val (.ref sINTEGER_OR_SYMBOLIC), .val (.ref sINTEGER_OR_SYMBOLIC), .unset]) (by first | rfl | (simp [entryFrame, mkF, argsToLocals, Value.category]; done)) ?_
  obtain ⟨S_sBOOLEAN, E_sBOOLEAN, S_sINTEGER_OR_SYMBOLIC, E_sINTEGER_OR_SYMBOLIC, S_sSYMBOLIC, E_sSYMBOLIC, S_sINTEGER, E_sINTEGER, L_sBOOLEAN_ordinal, L_sINTEGER_OR_SYMBOLIC_ordinal, L_sSYMBOLIC_ordinal, L_sINTEGER_ordinal⟩ := id G
  have ne_sBOOLEAN_sINTEGER_OR_SYMBOLIC : sBOOLEAN ≠ sINTEGER_OR_SYMBOLIC := L_sBOOLEAN_ordinal.ne L_sINTEGER_OR_SYMBOLIC_ordinal (by decide)
  have ne_sBOOLEAN_sSYMBOLIC : sBOOLEAN ≠ sSYMBOLIC := L_sBOOLEAN_ordinal.ne L_sSYMBOLIC_ordinal (by decide)
  have ne_sBOOLEAN_sINTEGER : sBOOLEAN ≠ sINTEGER := L_sBOOLEAN_ordinal.ne L_sINTEGER_ordinal (by decide)
  have ne_sINTEGER_OR_SYMBOLIC_sSYMBOLIC : sINTEGER_OR_SYMBOLIC ≠ sSYMBOLIC := L_sINTEGER_OR_SYMBOLIC_ordinal.ne L_sSYMBOLIC_ordinal (by decide)
  have ne_sINTEGER_OR_SYMBOLIC_sINTEGER : sINTEGER_OR_SYMBOLIC ≠ sINTEGER := L_sINTEGER_OR_SYMBOLIC_ordinal.ne L_sINTEGER_ordinal (by decide)
  have ne_sSYMBOLIC_sINTEGER : sSYMBOLIC ≠ sINTEGER := L_sSYMBOLIC_ordinal.ne L_sINTEGER_ordinal (by decide)
  refine gAloadN X w d4_0 rfl rfl (n := 1) rfl ?_
  refine gAloadN X w d4_1 rfl rfl (n := 2) rfl ?_
  refine gAcmp_ne X w d4_2 rfl rfl (n := 10) (n' := 5) (by decide) rfl rfl ?_ ?_
  · intro c2
    exact absurd rfl c2
  · intro c2
    refine gAloadN X w d4_5 rfl rfl (n := 6) rfl ?_
    refine gAstoreN X w d4_6 rfl #[.val (.ref sINTEGER_OR_SYMBOLIC), .val (.ref sINTEGER_OR_SYMBOLIC), .val (.ref sINTEGER_OR_SYMBOLIC)] rfl (n := 7) rfl ?_
    refine gGoto X w d4_7 (by decide) (n := 33) rfl ?_
    refine gAloadN X w d4_33 rfl rfl (n := 34) rfl ?_
    exact gRetA X w rfl rfl rfl d4_34 (by decide) (by decide) (⟨_, rfl, rfl, rfl⟩)
set_option maxRecDepth 65536 in
set_option maxHeartbeats 40000000 in
theorem own_law (l : Launch) (Z : State) (a0 : Array Value) (hw : ∀ d ∈ tables_1, d.before a0 Z = true) (p1 p2 : Int32) (sBOOLEAN sINTEGER_OR_SYMBOLIC sSYMBOLIC sINTEGER : Addr) (h0 : Heap) (n0 : Nat) (hn : n0 ≤ h0.size) (G : own_env Z h0 sBOOLEAN sINTEGER_OR_SYMBOLIC sSYMBOLIC sINTEGER) :
    Con l Z x code maxLocals ret tables_1 room_1 0 0 #[(.int p1), (.int p2)] h0 n0 (fun r h => r = some (.int 1)) := by
  refine Con.of (plainFor_of_name (by first | (simp [plainName, overriddenIn]; done) | decide +kernel)) hn ?_
  intro p e s m below meth c T w X
  refine Gl.enter (ls := #[.val (.int p1), .val (.int p2), .unset, .unset, .unset, .unset, .unset, .unset]) (by first | rfl | (simp [entryFrame, mkF, argsToLocals, Value.category, maxLocals]; done)) ?_
  have b0 := own_and3 p1
  have b1 := own_and3 p2
  rcases b0 with q2 | q2 | q2 | q2
  · rcases b1 with q6 | q6 | q6 | q6
    · skip
      obtain ⟨S_sBOOLEAN, E_sBOOLEAN, S_sINTEGER_OR_SYMBOLIC, E_sINTEGER_OR_SYMBOLIC, S_sSYMBOLIC, E_sSYMBOLIC, S_sINTEGER, E_sINTEGER, L_sBOOLEAN_ordinal, L_sINTEGER_OR_SYMBOLIC_ordinal, L_sSYMBOLIC_ordinal, L_sINTEGER_ordinal⟩ := id G
      have ne_sBOOLEAN_sINTEGER_OR_SYMBOLIC : sBOOLEAN ≠ sINTEGER_OR_SYMBOLIC := L_sBOOLEAN_ordinal.ne L_sINTEGER_OR_SYMBOLIC_ordinal (by decide)
      have ne_sBOOLEAN_sSYMBOLIC : sBOOLEAN ≠ sSYMBOLIC := L_sBOOLEAN_ordinal.ne L_sSYMBOLIC_ordinal (by decide)
      have ne_sBOOLEAN_sINTEGER : sBOOLEAN ≠ sINTEGER := L_sBOOLEAN_ordinal.ne L_sINTEGER_ordinal (by decide)
      have ne_sINTEGER_OR_SYMBOLIC_sSYMBOLIC : sINTEGER_OR_SYMBOLIC ≠ sSYMBOLIC := L_sINTEGER_OR_SYMBOLIC_ordinal.ne L_sSYMBOLIC_ordinal (by decide)
      have ne_sINTEGER_OR_SYMBOLIC_sINTEGER : sINTEGER_OR_SYMBOLIC ≠ sINTEGER := L_sINTEGER_OR_SYMBOLIC_ordinal.ne L_sINTEGER_ordinal (by decide)
      have ne_sSYMBOLIC_sINTEGER : sSYMBOLIC ≠ sINTEGER := L_sSYMBOLIC_ordinal.ne L_sINTEGER_ordinal (by decide)
      refine gIloadN X w at_0 rfl (n := 1) rfl ?_
      refine gIconst X w at_1 (z := (3 : Int32)) rfl (n := 2) rfl ?_
      refine gIand X w at_2 q2 (n := 3) rfl ?_
      refine gIstoreN X w at_3 #[.val (.int p1), .val (.int p2), .val (.int (0 : Int32)), .unset, .unset, .unset, .unset, .unset] rfl (n := 4) rfl ?_
      refine gIloadN X w at_4 rfl (n := 5) rfl ?_
      refine gIconst X w at_5 (z := (3 : Int32)) rfl (n := 6) rfl ?_
      refine gIand X w at_6 q6 (n := 7) rfl ?_
      refine gIstoreN X w at_7 #[.val (.int p1), .val (.int p2), .val (.int (0 : Int32)), .val (.int (0 : Int32)), .unset, .unset, .unset, .unset] rfl (n := 8) rfl ?_
      refine gIloadN X w at_8 rfl (n := 9) rfl ?_
      refine gCallSv X w [(.int (0 : Int32))] [] (own_kind_0 l Z a0 hw sBOOLEAN sINTEGER_OR_SYMBOLIC sSYMBOLIC sINTEGER h0 n0 hn G) (own_wd hw 0 rfl) (own_wd hw 1 rfl) (own_wd hw 2 rfl) (own_wd hw 3 rfl) (by decide) own_pd0 rfl rfl at_9 rfl (W := 0) (Nat.le_of_eq rfl) (by decide) (by decide) (by decide) (by decide) (n := 12) rfl ?_
      rintro T _ _ ⟨rfl, rfl⟩ X
      refine gAstore X w at_12 rfl #[.val (.int p1), .val (.int p2), .val (.int (0 : Int32)), .val (.int (0 : Int32)), .val (.ref sBOOLEAN), .unset, .unset, .unset] rfl (n := 14) rfl ?_
      refine gIloadN X w at_14 rfl (n := 15) rfl ?_
      refine gCallSv X w [(.int (0 : Int32))] [] (own_kind_0 l Z a0 hw sBOOLEAN sINTEGER_OR_SYMBOLIC sSYMBOLIC sINTEGER h0 n0 hn G) (own_wd hw 0 rfl) (own_wd hw 1 rfl) (own_wd hw 2 rfl) (own_wd hw 3 rfl) (by decide) own_pd0 rfl rfl at_15 rfl (W := 0) (Nat.le_of_eq rfl) (by decide) (by decide) (by decide) (by decide) (n := 18) rfl ?_
      rintro T _ _ ⟨rfl, rfl⟩ X
      refine gAstore X w at_18 rfl #[.val (.int p1), .val (.int p2), .val (.int (0 : Int32)), .val (.int (0 : Int32)), .val (.ref sBOOLEAN), .val (.ref sBOOLEAN), .unset, .unset] rfl (n := 20) rfl ?_
      refine gIloadN X w at_20 rfl (n := 21) rfl ?_
      refine gCallSv X w [(.int (0 : Int32))] [] (own_bits_0 l Z a0 hw sBOOLEAN sINTEGER_OR_SYMBOLIC sSYMBOLIC sINTEGER h0 n0 hn G) (own_wd hw 9 rfl) (own_wd hw 10 rfl) (own_wd hw 2 rfl) (own_wd hw 11 rfl) (by decide) own_pd1 rfl rfl at_21 rfl (W := 0) (Nat.le_of_eq rfl) (by decide) (by decide) (by decide) (by decide) (n := 24) rfl ?_
      rintro T _ _ ⟨rfl, rfl⟩ X
      refine gIloadN X w at_24 rfl (n := 25) rfl ?_
      refine gCallSv X w [(.int (0 : Int32))] [(.int (4 : Int32))] (own_bits_0 l Z a0 hw sBOOLEAN sINTEGER_OR_SYMBOLIC sSYMBOLIC sINTEGER h0 n0 hn G) (own_wd hw 9 rfl) (own_wd hw 10 rfl) (own_wd hw 2 rfl) (own_wd hw 11 rfl) (by decide) own_pd1 rfl rfl at_25 rfl (W := 1) (Nat.le_of_eq rfl) (by decide) (by decide) (by decide) (by decide) (n := 28) rfl ?_
      rintro T _ _ ⟨rfl, rfl⟩ X
      refine gCallSv X w [(.int (4 : Int32)), (.int (4 : Int32))] [] (own_exp_44 l Z a0 hw sBOOLEAN sINTEGER_OR_SYMBOLIC sSYMBOLIC sINTEGER h0 n0 hn G) (own_wd hw 12 rfl) (own_wd hw 13 rfl) (own_wd hw 2 rfl) (own_wd hw 14 rfl) (by decide) own_pd2 rfl rfl at_28 rfl (W := 0) (Nat.le_of_eq rfl) (by decide) (by decide) (by decide) (by decide) (n := 31) rfl ?_
      rintro T _ _ ⟨rfl, rfl⟩ X
      refine gAstore X w at_31 rfl #[.val (.int p1), .val (.int p2), .val (.int (0 : Int32)), .val (.int (0 : Int32)), .val (.ref sBOOLEAN), .val (.ref sBOOLEAN), .val (.ref sBOOLEAN), .unset] rfl (n := 33) rfl ?_
      refine gAload X w at_33 rfl rfl (n := 35) rfl ?_
      refine gAload X w at_35 rfl rfl (n := 37) rfl ?_
      refine gCallVv X w [(.ref sBOOLEAN)] [] E_sBOOLEAN (own_join_00 l Z a0 hw sBOOLEAN sINTEGER_OR_SYMBOLIC sSYMBOLIC sINTEGER h0 n0 hn G) (own_wd hw 15 rfl) (own_wd hw 16 rfl) (notFace_of_selects (args := #[]) (mvT w.2.2.1 (own_wd hw 18 rfl))) (own_wd hw 18 rfl) (own_wd hw 17 rfl) (own_wd hw 5 rfl) (own_wd hw 19 rfl) (by decide) own_pd3 rfl rfl at_37 rfl (W := 0) (Nat.le_of_eq rfl) (by decide) (by decide) (by decide) (by decide) (n := 40) rfl ?_
      rintro T _ _ ⟨rfl, rfl⟩ X
      refine gAstore X w at_40 rfl #[.val (.int p1), .val (.int p2), .val (.int (0 : Int32)), .val (.int (0 : Int32)), .val (.ref sBOOLEAN), .val (.ref sBOOLEAN), .val (.ref sBOOLEAN), .val (.ref sBOOLEAN)] rfl (n := 42) rfl ?_
      refine gAload X w at_42 rfl rfl (n := 44) rfl ?_
      refine gAload X w at_44 rfl rfl (n := 46) rfl ?_
      refine gAcmp_ne X w at_46 rfl rfl (n := 53) (n' := 49) (by decide) rfl rfl ?_ ?_
      · intro c46
        exact absurd rfl c46
      · intro c46
        refine gIconst X w at_49 (z := (1 : Int32)) rfl (n := 50) rfl ?_
        refine gGoto X w at_50 (by decide) (n := 54) rfl ?_
        exact gRetZ X w rfl (Or.inr rfl) at_54 (by decide) (by decide) (rfl)
    · skip
      obtain ⟨S_sBOOLEAN, E_sBOOLEAN, S_sINTEGER_OR_SYMBOLIC, E_sINTEGER_OR_SYMBOLIC, S_sSYMBOLIC, E_sSYMBOLIC, S_sINTEGER, E_sINTEGER, L_sBOOLEAN_ordinal, L_sINTEGER_OR_SYMBOLIC_ordinal, L_sSYMBOLIC_ordinal, L_sINTEGER_ordinal⟩ := id G
      have ne_sBOOLEAN_sINTEGER_OR_SYMBOLIC : sBOOLEAN ≠ sINTEGER_OR_SYMBOLIC := L_sBOOLEAN_ordinal.ne L_sINTEGER_OR_SYMBOLIC_ordinal (by decide)
      have ne_sBOOLEAN_sSYMBOLIC : sBOOLEAN ≠ sSYMBOLIC := L_sBOOLEAN_ordinal.ne L_sSYMBOLIC_ordinal (by decide)
      have ne_sBOOLEAN_sINTEGER : sBOOLEAN ≠ sINTEGER := L_sBOOLEAN_ordinal.ne L_sINTEGER_ordinal (by decide)
      have ne_sINTEGER_OR_SYMBOLIC_sSYMBOLIC : sINTEGER_OR_SYMBOLIC ≠ sSYMBOLIC := L_sINTEGER_OR_SYMBOLIC_ordinal.ne L_sSYMBOLIC_ordinal (by decide)
      have ne_sINTEGER_OR_SYMBOLIC_sINTEGER : sINTEGER_OR_SYMBOLIC ≠ sINTEGER := L_sINTEGER_OR_SYMBOLIC_ordinal.ne L_sINTEGER_ordinal (by decide)
      have ne_sSYMBOLIC_sINTEGER : sSYMBOLIC ≠ sINTEGER := L_sSYMBOLIC_ordinal.ne L_sINTEGER_ordinal (by decide)
      refine gIloadN X w at_0 rfl (n := 1) rfl ?_
      refine gIconst X w at_1 (z := (3 : Int32)) rfl (n := 2) rfl ?_
      refine gIand X w at_2 q2 (n := 3) rfl ?_
      refine gIstoreN X w at_3 #[.val (.int p1), .val (.int p2), .val (.int (0 : Int32)), .unset, .unset, .unset, .unset, .unset] rfl (n := 4) rfl ?_
      refine gIloadN X w at_4 rfl (n := 5) rfl ?_
      refine gIconst X w at_5 (z := (3 : Int32)) rfl (n := 6) rfl ?_
      refine gIand X w at_6 q6 (n := 7) rfl ?_
      refine gIstoreN X w at_7 #[.val (.int p1), .val (.int p2), .val (.int (0 : Int32)), .val (.int (1 : Int32)), .unset, .unset, .unset, .unset] rfl (n := 8) rfl ?_
      refine gIloadN X w at_8 rfl (n := 9) rfl ?_
      refine gCallSv X w [(.int (0 : Int32))] [] (own_kind_0 l Z a0 hw sBOOLEAN sINTEGER_OR_SYMBOLIC sSYMBOLIC sINTEGER h0 n0 hn G) (own_wd hw 0 rfl) (own_wd hw 1 rfl) (own_wd hw 2 rfl) (own_wd hw 3 rfl) (by decide) own_pd0 rfl rfl at_9 rfl (W := 0) (Nat.le_of_eq rfl) (by decide) (by decide) (by decide) (by decide) (n := 12) rfl ?_
      rintro T _ _ ⟨rfl, rfl⟩ X
      refine gAstore X w at_12 rfl #[.val (.int p1), .val (.int p2), .val (.int (0 : Int32)), .val (.int (1 : Int32)), .val (.ref sBOOLEAN), .unset, .unset, .unset] rfl (n := 14) rfl ?_
      refine gIloadN X w at_14 rfl (n := 15) rfl ?_
      refine gCallSv X w [(.int (1 : Int32))] [] (own_kind_1 l Z a0 hw sBOOLEAN sINTEGER_OR_SYMBOLIC sSYMBOLIC sINTEGER h0 n0 hn G) (own_wd hw 0 rfl) (own_wd hw 1 rfl) (own_wd hw 2 rfl) (own_wd hw 3 rfl) (by decide) own_pd0 rfl rfl at_15 rfl (W := 0) (Nat.le_of_eq rfl) (by decide) (by decide) (by decide) (by decide) (n := 18) rfl ?_
      rintro T _ _ ⟨rfl, rfl⟩ X
      refine gAstore X w at_18 rfl #[.val (.int p1), .val (.int p2), .val (.int (0 : Int32)), .val (.int (1 : Int32)), .val (.ref sBOOLEAN), .val (.ref sINTEGER), .unset, .unset] rfl (n := 20) rfl ?_
      refine gIloadN X w at_20 rfl (n := 21) rfl ?_
      refine gCallSv X w [(.int (0 : Int32))] [] (own_bits_0 l Z a0 hw sBOOLEAN sINTEGER_OR_SYMBOLIC sSYMBOLIC sINTEGER h0 n0 hn G) (own_wd hw 9 rfl) (own_wd hw 10 rfl) (own_wd hw 2 rfl) (own_wd hw 11 rfl) (by decide) own_pd1 rfl rfl at_21 rfl (W := 0) (Nat.le_of_eq rfl) (by decide) (by decide) (by decide) (by decide) (n := 24) rfl ?_
      rintro T _ _ ⟨rfl, rfl⟩ X
      refine gIloadN X w at_24 rfl (n := 25) rfl ?_
      refine gCallSv X w [(.int (1 : Int32))] [(.int (4 : Int32))] (own_bits_1 l Z a0 hw sBOOLEAN sINTEGER_OR_SYMBOLIC sSYMBOLIC sINTEGER h0 n0 hn G) (own_wd hw 9 rfl) (own_wd hw 10 rfl) (own_wd hw 2 rfl) (own_wd hw 11 rfl) (by decide) own_pd1 rfl rfl at_25 rfl (W := 1) (Nat.le_of_eq rfl) (by decide) (by decide) (by decide) (by decide) (n := 28) rfl ?_
      rintro T _ _ ⟨rfl, rfl⟩ X
      refine gCallSv X w [(.int (4 : Int32)), (.int (1 : Int32))] [] (own_exp_41 l Z a0 hw sBOOLEAN sINTEGER_OR_SYMBOLIC sSYMBOLIC sINTEGER h0 n0 hn G) (own_wd hw 12 rfl) (own_wd hw 13 rfl) (own_wd hw 2 rfl) (own_wd hw 14 rfl) (by decide) own_pd2 rfl rfl at_28 rfl (W := 0) (Nat.le_of_eq rfl) (by decide) (by decide) (by decide) (by decide) (n := 31) rfl ?_
      rintro T _ _ ⟨rfl, rfl⟩ X
      refine gAstore X w at_31 rfl #[.val (.int p1), .val (.int p2), .val (.int (0 : Int32)), .val (.int (1 : Int32)), .val (.ref sBOOLEAN), .val (.ref sINTEGER), .val .null, .unset] rfl (n := 33) rfl ?_
      refine gAload X w at_33 rfl rfl (n := 35) rfl ?_
      refine gAload X w at_35 rfl rfl (n := 37) rfl ?_
      refine gCallVv X w [(.ref sINTEGER)] [] E_sBOOLEAN (own_join_01 l Z a0 hw sBOOLEAN sINTEGER_OR_SYMBOLIC sSYMBOLIC sINTEGER h0 n0 hn G) (own_wd hw 15 rfl) (own_wd hw 16 rfl) (notFace_of_selects (args := #[]) (mvT w.2.2.1 (own_wd hw 18 rfl))) (own_wd hw 18 rfl) (own_wd hw 17 rfl) (own_wd hw 5 rfl) (own_wd hw 19 rfl) (by decide) own_pd3 rfl rfl at_37 rfl (W := 0) (Nat.le_of_eq rfl) (by decide) (by decide) (by decide) (by decide) (n := 40) rfl ?_
      rintro T _ _ ⟨rfl, rfl⟩ X
      refine gAstore X w at_40 rfl #[.val (.int p1), .val (.int p2), .val (.int (0 : Int32)), .val (.int (1 : Int32)), .val (.ref sBOOLEAN), .val (.ref sINTEGER), .val .null, .val .null] rfl (n := 42) rfl ?_
      refine gAload X w at_42 rfl rfl (n := 44) rfl ?_
      refine gAload X w at_44 rfl rfl (n := 46) rfl ?_
      refine gAcmp_ne X w at_46 rfl rfl (n := 53) (n' := 49) (by decide) rfl rfl ?_ ?_
      · intro c46
        exact absurd rfl c46
      · intro c46
        refine gIconst X w at_49 (z := (1 : Int32)) rfl (n := 50) rfl ?_
        refine gGoto X w at_50 (by decide) (n := 54) rfl ?_
        exact gRetZ X w rfl (Or.inr rfl) at_54 (by decide) (by decide) (rfl)
    · skip
      obtain ⟨S_sBOOLEAN, E_sBOOLEAN, S_sINTEGER_OR_SYMBOLIC, E_sINTEGER_OR_SYMBOLIC, S_sSYMBOLIC, E_sSYMBOLIC, S_sINTEGER, E_sINTEGER, L_sBOOLEAN_ordinal, L_sINTEGER_OR_SYMBOLIC_ordinal, L_sSYMBOLIC_ordinal, L_sINTEGER_ordinal⟩ := id G
      have ne_sBOOLEAN_sINTEGER_OR_SYMBOLIC : sBOOLEAN ≠ sINTEGER_OR_SYMBOLIC := L_sBOOLEAN_ordinal.ne L_sINTEGER_OR_SYMBOLIC_ordinal (by decide)
      have ne_sBOOLEAN_sSYMBOLIC : sBOOLEAN ≠ sSYMBOLIC := L_sBOOLEAN_ordinal.ne L_sSYMBOLIC_ordinal (by decide)
      have ne_sBOOLEAN_sINTEGER : sBOOLEAN ≠ sINTEGER := L_sBOOLEAN_ordinal.ne L_sINTEGER_ordinal (by decide)
      have ne_sINTEGER_OR_SYMBOLIC_sSYMBOLIC : sINTEGER_OR_SYMBOLIC ≠ sSYMBOLIC := L_sINTEGER_OR_SYMBOLIC_ordinal.ne L_sSYMBOLIC_ordinal (by decide)
      have ne_sINTEGER_OR_SYMBOLIC_sINTEGER : sINTEGER_OR_SYMBOLIC ≠ sINTEGER := L_sINTEGER_OR_SYMBOLIC_ordinal.ne L_sINTEGER_ordinal (by decide)
      have ne_sSYMBOLIC_sINTEGER : sSYMBOLIC ≠ sINTEGER := L_sSYMBOLIC_ordinal.ne L_sINTEGER_ordinal (by decide)
      refine gIloadN X w at_0 rfl (n := 1) rfl ?_
      refine gIconst X w at_1 (z := (3 : Int32)) rfl (n := 2) rfl ?_
      refine gIand X w at_2 q2 (n := 3) rfl ?_
      refine gIstoreN X w at_3 #[.val (.int p1), .val (.int p2), .val (.int (0 : Int32)), .unset, .unset, .unset, .unset, .unset] rfl (n := 4) rfl ?_
      refine gIloadN X w at_4 rfl (n := 5) rfl ?_
      refine gIconst X w at_5 (z := (3 : Int32)) rfl (n := 6) rfl ?_
      refine gIand X w at_6 q6 (n := 7) rfl ?_
      refine gIstoreN X w at_7 #[.val (.int p1), .val (.int p2), .val (.int (0 : Int32)), .val (.int (2 : Int32)), .unset, .unset, .unset, .unset] rfl (n := 8) rfl ?_
      refine gIloadN X w at_8 rfl (n := 9) rfl ?_
      refine gCallSv X w [(.int (0 : Int32))] [] (own_kind_0 l Z a0 hw sBOOLEAN sINTEGER_OR_SYMBOLIC sSYMBOLIC sINTEGER h0 n0 hn G) (own_wd hw 0 rfl) (own_wd hw 1 rfl) (own_wd hw 2 rfl) (own_wd hw 3 rfl) (by decide) own_pd0 rfl rfl at_9 rfl (W := 0) (Nat.le_of_eq rfl) (by decide) (by decide) (by decide) (by decide) (n := 12) rfl ?_
      rintro T _ _ ⟨rfl, rfl⟩ X
      refine gAstore X w at_12 rfl #[.val (.int p1), .val (.int p2), .val (.int (0 : Int32)), .val (.int (2 : Int32)), .val (.ref sBOOLEAN), .unset, .unset, .unset] rfl (n := 14) rfl ?_
      refine gIloadN X w at_14 rfl (n := 15) rfl ?_
      refine gCallSv X w [(.int (2 : Int32))] [] (own_kind_2 l Z a0 hw sBOOLEAN sINTEGER_OR_SYMBOLIC sSYMBOLIC sINTEGER h0 n0 hn G) (own_wd hw 0 rfl) (own_wd hw 1 rfl) (own_wd hw 2 rfl) (own_wd hw 3 rfl) (by decide) own_pd0 rfl rfl at_15 rfl (W := 0) (Nat.le_of_eq rfl) (by decide) (by decide) (by decide) (by decide) (n := 18) rfl ?_
      rintro T _ _ ⟨rfl, rfl⟩ X
      refine gAstore X w at_18 rfl #[.val (.int p1), .val (.int p2), .val (.int (0 : Int32)), .val (.int (2 : Int32)), .val (.ref sBOOLEAN), .val (.ref sSYMBOLIC), .unset, .unset] rfl (n := 20) rfl ?_
      refine gIloadN X w at_20 rfl (n := 21) rfl ?_
      refine gCallSv X w [(.int (0 : Int32))] [] (own_bits_0 l Z a0 hw sBOOLEAN sINTEGER_OR_SYMBOLIC sSYMBOLIC sINTEGER h0 n0 hn G) (own_wd hw 9 rfl) (own_wd hw 10 rfl) (own_wd hw 2 rfl) (own_wd hw 11 rfl) (by decide) own_pd1 rfl rfl at_21 rfl (W := 0) (Nat.le_of_eq rfl) (by decide) (by decide) (by decide) (by decide) (n := 24) rfl ?_
      rintro T _ _ ⟨rfl, rfl⟩ X
      refine gIloadN X w at_24 rfl (n := 25) rfl ?_
      refine gCallSv X w [(.int (2 : Int32))] [(.int (4 : Int32))] (own_bits_2 l Z a0 hw sBOOLEAN sINTEGER_OR_SYMBOLIC sSYMBOLIC sINTEGER h0 n0 hn G) (own_wd hw 9 rfl) (own_wd hw 10 rfl) (own_wd hw 2 rfl) (own_wd hw 11 rfl) (by decide) own_pd1 rfl rfl at_25 rfl (W := 1) (Nat.le_of_eq rfl) (by decide) (by decide) (by decide) (by decide) (n := 28) rfl ?_
      rintro T _ _ ⟨rfl, rfl⟩ X
      refine gCallSv X w [(.int (4 : Int32)), (.int (2 : Int32))] [] (own_exp_42 l Z a0 hw sBOOLEAN sINTEGER_OR_SYMBOLIC sSYMBOLIC sINTEGER h0 n0 hn G) (own_wd hw 12 rfl) (own_wd hw 13 rfl) (own_wd hw 2 rfl) (own_wd hw 14 rfl) (by decide) own_pd2 rfl rfl at_28 rfl (W := 0) (Nat.le_of_eq rfl) (by decide) (by decide) (by decide) (by decide) (n := 31) rfl ?_
      rintro T _ _ ⟨rfl, rfl⟩ X
      refine gAstore X w at_31 rfl #[.val (.int p1), .val (.int p2), .val (.int (0 : Int32)), .val (.int (2 : Int32)), .val (.ref sBOOLEAN), .val (.ref sSYMBOLIC), .val .null, .unset] rfl (n := 33) rfl ?_
      refine gAload X w at_33 rfl rfl (n := 35) rfl ?_
      refine gAload X w at_35 rfl rfl (n := 37) rfl ?_
      refine gCallVv X w [(.ref sSYMBOLIC)] [] E_sBOOLEAN (own_join_02 l Z a0 hw sBOOLEAN sINTEGER_OR_SYMBOLIC sSYMBOLIC sINTEGER h0 n0 hn G) (own_wd hw 15 rfl) (own_wd hw 16 rfl) (notFace_of_selects (args := #[]) (mvT w.2.2.1 (own_wd hw 18 rfl))) (own_wd hw 18 rfl) (own_wd hw 17 rfl) (own_wd hw 5 rfl) (own_wd hw 19 rfl) (by decide) own_pd3 rfl rfl at_37 rfl (W := 0) (Nat.le_of_eq rfl) (by decide) (by decide) (by decide) (by decide) (n := 40) rfl ?_
      rintro T _ _ ⟨rfl, rfl⟩ X
      refine gAstore X w at_40 rfl #[.val (.int p1), .val (.int p2), .val (.int (0 : Int32)), .val (.int (2 : Int32)), .val (.ref sBOOLEAN), .val (.ref sSYMBOLIC), .val .null, .val .null] rfl (n := 42) rfl ?_
      refine gAload X w at_42 rfl rfl (n := 44) rfl ?_
      refine gAload X w at_44 rfl rfl (n := 46) rfl ?_
      refine gAcmp_ne X w at_46 rfl rfl (n := 53) (n' := 49) (by decide) rfl rfl ?_ ?_
      · intro c46
        exact absurd rfl c46
      · intro c46
        refine gIconst X w at_49 (z := (1 : Int32)) rfl (n := 50) rfl ?_
        refine gGoto X w at_50 (by decide) (n := 54) rfl ?_
        exact gRetZ X w rfl (Or.inr rfl) at_54 (by decide) (by decide) (rfl)
    · skip
      obtain ⟨S_sBOOLEAN, E_sBOOLEAN, S_sINTEGER_OR_SYMBOLIC, E_sINTEGER_OR_SYMBOLIC, S_sSYMBOLIC, E_sSYMBOLIC, S_sINTEGER, E_sINTEGER, L_sBOOLEAN_ordinal, L_sINTEGER_OR_SYMBOLIC_ordinal, L_sSYMBOLIC_ordinal, L_sINTEGER_ordinal⟩ := id G
      have ne_sBOOLEAN_sINTEGER_OR_SYMBOLIC : sBOOLEAN ≠ sINTEGER_OR_SYMBOLIC := L_sBOOLEAN_ordinal.ne L_sINTEGER_OR_SYMBOLIC_ordinal (by decide)
      have ne_sBOOLEAN_sSYMBOLIC : sBOOLEAN ≠ sSYMBOLIC := L_sBOOLEAN_ordinal.ne L_sSYMBOLIC_ordinal (by decide)
      have ne_sBOOLEAN_sINTEGER : sBOOLEAN ≠ sINTEGER := L_sBOOLEAN_ordinal.ne L_sINTEGER_ordinal (by decide)
      have ne_sINTEGER_OR_SYMBOLIC_sSYMBOLIC : sINTEGER_OR_SYMBOLIC ≠ sSYMBOLIC := L_sINTEGER_OR_SYMBOLIC_ordinal.ne L_sSYMBOLIC_ordinal (by decide)
      have ne_sINTEGER_OR_SYMBOLIC_sINTEGER : sINTEGER_OR_SYMBOLIC ≠ sINTEGER := L_sINTEGER_OR_SYMBOLIC_ordinal.ne L_sINTEGER_ordinal (by decide)
      have ne_sSYMBOLIC_sINTEGER : sSYMBOLIC ≠ sINTEGER := L_sSYMBOLIC_ordinal.ne L_sINTEGER_ordinal (by decide)
      refine gIloadN X w at_0 rfl (n := 1) rfl ?_
      refine gIconst X w at_1 (z := (3 : Int32)) rfl (n := 2) rfl ?_
      refine gIand X w at_2 q2 (n := 3) rfl ?_
      refine gIstoreN X w at_3 #[.val (.int p1), .val (.int p2), .val (.int (0 : Int32)), .unset, .unset, .unset, .unset, .unset] rfl (n := 4) rfl ?_
      refine gIloadN X w at_4 rfl (n := 5) rfl ?_
      refine gIconst X w at_5 (z := (3 : Int32)) rfl (n := 6) rfl ?_
      refine gIand X w at_6 q6 (n := 7) rfl ?_
      refine gIstoreN X w at_7 #[.val (.int p1), .val (.int p2), .val (.int (0 : Int32)), .val (.int (3 : Int32)), .unset, .unset, .unset, .unset] rfl (n := 8) rfl ?_
      refine gIloadN X w at_8 rfl (n := 9) rfl ?_
      refine gCallSv X w [(.int (0 : Int32))] [] (own_kind_0 l Z a0 hw sBOOLEAN sINTEGER_OR_SYMBOLIC sSYMBOLIC sINTEGER h0 n0 hn G) (own_wd hw 0 rfl) (own_wd hw 1 rfl) (own_wd hw 2 rfl) (own_wd hw 3 rfl) (by decide) own_pd0 rfl rfl at_9 rfl (W := 0) (Nat.le_of_eq rfl) (by decide) (by decide) (by decide) (by decide) (n := 12) rfl ?_
      rintro T _ _ ⟨rfl, rfl⟩ X
      refine gAstore X w at_12 rfl #[.val (.int p1), .val (.int p2), .val (.int (0 : Int32)), .val (.int (3 : Int32)), .val (.ref sBOOLEAN), .unset, .unset, .unset] rfl (n := 14) rfl ?_
      refine gIloadN X w at_14 rfl (n := 15) rfl ?_
      refine gCallSv X w [(.int (3 : Int32))] [] (own_kind_3 l Z a0 hw sBOOLEAN sINTEGER_OR_SYMBOLIC sSYMBOLIC sINTEGER h0 n0 hn G) (own_wd hw 0 rfl) (own_wd hw 1 rfl) (own_wd hw 2 rfl) (own_wd hw 3 rfl) (by decide) own_pd0 rfl rfl at_15 rfl (W := 0) (Nat.le_of_eq rfl) (by decide) (by decide) (by decide) (by decide) (n := 18) rfl ?_
      rintro T _ _ ⟨rfl, rfl⟩ X
      refine gAstore X w at_18 rfl #[.val (.int p1), .val (.int p2), .val (.int (0 : Int32)), .val (.int (3 : Int32)), .val (.ref sBOOLEAN), .val (.ref sINTEGER_OR_SYMBOLIC), .unset, .unset] rfl (n := 20) rfl ?_
      refine gIloadN X w at_20 rfl (n := 21) rfl ?_
      refine gCallSv X w [(.int (0 : Int32))] [] (own_bits_0 l Z a0 hw sBOOLEAN sINTEGER_OR_SYMBOLIC sSYMBOLIC sINTEGER h0 n0 hn G) (own_wd hw 9 rfl) (own_wd hw 10 rfl) (own_wd hw 2 rfl) (own_wd hw 11 rfl) (by decide) own_pd1 rfl rfl at_21 rfl (W := 0) (Nat.le_of_eq rfl) (by decide) (by decide) (by decide) (by decide) (n := 24) rfl ?_
      rintro T _ _ ⟨rfl, rfl⟩ X
      refine gIloadN X w at_24 rfl (n := 25) rfl ?_
      refine gCallSv X w [(.int (3 : Int32))] [(.int (4 : Int32))] (own_bits_3 l Z a0 hw sBOOLEAN sINTEGER_OR_SYMBOLIC sSYMBOLIC sINTEGER h0 n0 hn G) (own_wd hw 9 rfl) (own_wd hw 10 rfl) (own_wd hw 2 rfl) (own_wd hw 11 rfl) (by decide) own_pd1 rfl rfl at_25 rfl (W := 1) (Nat.le_of_eq rfl) (by decide) (by decide) (by decide) (by decide) (n := 28) rfl ?_
      rintro T _ _ ⟨rfl, rfl⟩ X
      refine gCallSv X w [(.int (4 : Int32)), (.int (3 : Int32))] [] (own_exp_43 l Z a0 hw sBOOLEAN sINTEGER_OR_SYMBOLIC sSYMBOLIC sINTEGER h0 n0 hn G) (own_wd hw 12 rfl) (own_wd hw 13 rfl) (own_wd hw 2 rfl) (own_wd hw 14 rfl) (by decide) own_pd2 rfl rfl at_28 rfl (W := 0) (Nat.le_of_eq rfl) (by decide) (by decide) (by decide) (by decide) (n := 31) rfl ?_
      rintro T _ _ ⟨rfl, rfl⟩ X
      refine gAstore X w at_31 rfl #[.val (.int p1), .val (.int p2), .val (.int (0 : Int32)), .val (.int (3 : Int32)), .val (.ref sBOOLEAN), .val (.ref sINTEGER_OR_SYMBOLIC), .val .null, .unset] rfl (n := 33) rfl ?_
      refine gAload X w at_33 rfl rfl (n := 35) rfl ?_
      refine gAload X w at_35 rfl rfl (n := 37) rfl ?_
      refine gCallVv X w [(.ref sINTEGER_OR_SYMBOLIC)] [] E_sBOOLEAN (own_join_03 l Z a0 hw sBOOLEAN sINTEGER_OR_SYMBOLIC sSYMBOLIC sINTEGER h0 n0 hn G) (own_wd hw 15 rfl) (own_wd hw 16 rfl) (notFace_of_selects (args := #[]) (mvT w.2.2.1 (own_wd hw 18 rfl))) (own_wd hw 18 rfl) (own_wd hw 17 rfl) (own_wd hw 5 rfl) (own_wd hw 19 rfl) (by decide) own_pd3 rfl rfl at_37 rfl (W := 0) (Nat.le_of_eq rfl) (by decide) (by decide) (by decide) (by decide) (n := 40) rfl ?_
      rintro T _ _ ⟨rfl, rfl⟩ X
      refine gAstore X w at_40 rfl #[.val (.int p1), .val (.int p2), .val (.int (0 : Int32)), .val (.int (3 : Int32)), .val (.ref sBOOLEAN), .val (.ref sINTEGER_OR_SYMBOLIC), .val .null, .val .null] rfl (n := 42) rfl ?_
      refine gAload X w at_42 rfl rfl (n := 44) rfl ?_
      refine gAload X w at_44 rfl rfl (n := 46) rfl ?_
      refine gAcmp_ne X w at_46 rfl rfl (n := 53) (n' := 49) (by decide) rfl rfl ?_ ?_
      · intro c46
        exact absurd rfl c46
      · intro c46
        refine gIconst X w at_49 (z := (1 : Int32)) rfl (n := 50) rfl ?_
        refine gGoto X w at_50 (by decide) (n := 54) rfl ?_
        exact gRetZ X w rfl (Or.inr rfl) at_54 (by decide) (by decide) (rfl)
  · rcases b1 with q6 | q6 | q6 | q6
    · skip
      obtain ⟨S_sBOOLEAN, E_sBOOLEAN, S_sINTEGER_OR_SYMBOLIC, E_sINTEGER_OR_SYMBOLIC, S_sSYMBOLIC, E_sSYMBOLIC, S_sINTEGER, E_sINTEGER, L_sBOOLEAN_ordinal, L_sINTEGER_OR_SYMBOLIC_ordinal, L_sSYMBOLIC_ordinal, L_sINTEGER_ordinal⟩ := id G
      have ne_sBOOLEAN_sINTEGER_OR_SYMBOLIC : sBOOLEAN ≠ sINTEGER_OR_SYMBOLIC := L_sBOOLEAN_ordinal.ne L_sINTEGER_OR_SYMBOLIC_ordinal (by decide)
      have ne_sBOOLEAN_sSYMBOLIC : sBOOLEAN ≠ sSYMBOLIC := L_sBOOLEAN_ordinal.ne L_sSYMBOLIC_ordinal (by decide)
      have ne_sBOOLEAN_sINTEGER : sBOOLEAN ≠ sINTEGER := L_sBOOLEAN_ordinal.ne L_sINTEGER_ordinal (by decide)
      have ne_sINTEGER_OR_SYMBOLIC_sSYMBOLIC : sINTEGER_OR_SYMBOLIC ≠ sSYMBOLIC := L_sINTEGER_OR_SYMBOLIC_ordinal.ne L_sSYMBOLIC_ordinal (by decide)
      have ne_sINTEGER_OR_SYMBOLIC_sINTEGER : sINTEGER_OR_SYMBOLIC ≠ sINTEGER := L_sINTEGER_OR_SYMBOLIC_ordinal.ne L_sINTEGER_ordinal (by decide)
      have ne_sSYMBOLIC_sINTEGER : sSYMBOLIC ≠ sINTEGER := L_sSYMBOLIC_ordinal.ne L_sINTEGER_ordinal (by decide)
      refine gIloadN X w at_0 rfl (n := 1) rfl ?_
      refine gIconst X w at_1 (z := (3 : Int32)) rfl (n := 2) rfl ?_
      refine gIand X w at_2 q2 (n := 3) rfl ?_
      refine gIstoreN X w at_3 #[.val (.int p1), .val (.int p2), .val (.int (1 : Int32)), .unset, .unset, .unset, .unset, .unset] rfl (n := 4) rfl ?_
      refine gIloadN X w at_4 rfl (n := 5) rfl ?_
      refine gIconst X w at_5 (z := (3 : Int32)) rfl (n := 6) rfl ?_
      refine gIand X w at_6 q6 (n := 7) rfl ?_
      refine gIstoreN X w at_7 #[.val (.int p1), .val (.int p2), .val (.int (1 : Int32)), .val (.int (0 : Int32)), .unset, .unset, .unset, .unset] rfl (n := 8) rfl ?_
      refine gIloadN X w at_8 rfl (n := 9) rfl ?_
      refine gCallSv X w [(.int (1 : Int32))] [] (own_kind_1 l Z a0 hw sBOOLEAN sINTEGER_OR_SYMBOLIC sSYMBOLIC sINTEGER h0 n0 hn G) (own_wd hw 0 rfl) (own_wd hw 1 rfl) (own_wd hw 2 rfl) (own_wd hw 3 rfl) (by decide) own_pd0 rfl rfl at_9 rfl (W := 0) (Nat.le_of_eq rfl) (by decide) (by decide) (by decide) (by decide) (n := 12) rfl ?_
      rintro T _ _ ⟨rfl, rfl⟩ X
      refine gAstore X w at_12 rfl #[.val (.int p1), .val (.int p2), .val (.int (1 : Int32)), .val (.int (0 : Int32)), .val (.ref sINTEGER), .unset, .unset, .unset] rfl (n := 14) rfl ?_
      refine gIloadN X w at_14 rfl (n := 15) rfl ?_
      refine gCallSv X w [(.int (0 : Int32))] [] (own_kind_0 l Z a0 hw sBOOLEAN sINTEGER_OR_SYMBOLIC sSYMBOLIC sINTEGER h0 n0 hn G) (own_wd hw 0 rfl) (own_wd hw 1 rfl) (own_wd hw 2 rfl) (own_wd hw 3 rfl) (by decide) own_pd0 rfl rfl at_15 rfl (W := 0) (Nat.le_of_eq rfl) (by decide) (by decide) (by decide) (by decide) (n := 18) rfl ?_
      rintro T _ _ ⟨rfl, rfl⟩ X
      refine gAstore X w at_18 rfl #[.val (.int p1), .val (.int p2), .val (.int (1 : Int32)), .val (.int (0 : Int32)), .val (.ref sINTEGER), .val (.ref sBOOLEAN), .unset, .unset] rfl (n := 20) rfl ?_
      refine gIloadN X w at_20 rfl (n := 21) rfl ?_
      refine gCallSv X w [(.int (1 : Int32))] [] (own_bits_1 l Z a0 hw sBOOLEAN sINTEGER_OR_SYMBOLIC sSYMBOLIC sINTEGER h0 n0 hn G) (own_wd hw 9 rfl) (own_wd hw 10 rfl) (own_wd hw 2 rfl) (own_wd hw 11 rfl) (by decide) own_pd1 rfl rfl at_21 rfl (W := 0) (Nat.le_of_eq rfl) (by decide) (by decide) (by decide) (by decide) (n := 24) rfl ?_
      rintro T _ _ ⟨rfl, rfl⟩ X
      refine gIloadN X w at_24 rfl (n := 25) rfl ?_
      refine gCallSv X w [(.int (0 : Int32))] [(.int (1 : Int32))] (own_bits_0 l Z a0 hw sBOOLEAN sINTEGER_OR_SYMBOLIC sSYMBOLIC sINTEGER h0 n0 hn G) (own_wd hw 9 rfl) (own_wd hw 10 rfl) (own_wd hw 2 rfl) (own_wd hw 11 rfl) (by decide) own_pd1 rfl rfl at_25 rfl (W := 1) (Nat.le_of_eq rfl) (by decide) (by decide) (by decide) (by decide) (n := 28) rfl ?_
      rintro T _ _ ⟨rfl, rfl⟩ X
      refine gCallSv X w [(.int (1 : Int32)), (.int (4 : Int32))] [] (own_exp_14 l Z a0 hw sBOOLEAN sINTEGER_OR_SYMBOLIC sSYMBOLIC sINTEGER h0 n0 hn G) (own_wd hw 12 rfl) (own_wd hw 13 rfl) (own_wd hw 2 rfl) (own_wd hw 14 rfl) (by decide) own_pd2 rfl rfl at_28 rfl (W := 0) (Nat.le_of_eq rfl) (by decide) (by decide) (by decide) (by decide) (n := 31) rfl ?_
      rintro T _ _ ⟨rfl, rfl⟩ X
      refine gAstore X w at_31 rfl #[.val (.int p1), .val (.int p2), .val (.int (1 : Int32)), .val (.int (0 : Int32)), .val (.ref sINTEGER), .val (.ref sBOOLEAN), .val .null, .unset] rfl (n := 33) rfl ?_
      refine gAload X w at_33 rfl rfl (n := 35) rfl ?_
      refine gAload X w at_35 rfl rfl (n := 37) rfl ?_
      refine gCallVv X w [(.ref sBOOLEAN)] [] E_sINTEGER (own_join_10 l Z a0 hw sBOOLEAN sINTEGER_OR_SYMBOLIC sSYMBOLIC sINTEGER h0 n0 hn G) (own_wd hw 15 rfl) (own_wd hw 16 rfl) (notFace_of_selects (args := #[]) (mvT w.2.2.1 (own_wd hw 18 rfl))) (own_wd hw 18 rfl) (own_wd hw 17 rfl) (own_wd hw 5 rfl) (own_wd hw 19 rfl) (by decide) own_pd3 rfl rfl at_37 rfl (W := 0) (Nat.le_of_eq rfl) (by decide) (by decide) (by decide) (by decide) (n := 40) rfl ?_
      rintro T _ _ ⟨rfl, rfl⟩ X
      refine gAstore X w at_40 rfl #[.val (.int p1), .val (.int p2), .val (.int (1 : Int32)), .val (.int (0 : Int32)), .val (.ref sINTEGER), .val (.ref sBOOLEAN), .val .null, .val .null] rfl (n := 42) rfl ?_
      refine gAload X w at_42 rfl rfl (n := 44) rfl ?_
      refine gAload X w at_44 rfl rfl (n := 46) rfl ?_
      refine gAcmp_ne X w at_46 rfl rfl (n := 53) (n' := 49) (by decide) rfl rfl ?_ ?_
      · intro c46
        exact absurd rfl c46
      · intro c46
        refine gIconst X w at_49 (z := (1 : Int32)) rfl (n := 50) rfl ?_
        refine gGoto X w at_50 (by decide) (n := 54) rfl ?_
        exact gRetZ X w rfl (Or.inr rfl) at_54 (by decide) (by decide) (rfl)
    · skip
      obtain ⟨S_sBOOLEAN, E_sBOOLEAN, S_sINTEGER_OR_SYMBOLIC, E_sINTEGER_OR_SYMBOLIC, S_sSYMBOLIC, E_sSYMBOLIC, S_sINTEGER, E_sINTEGER, L_sBOOLEAN_ordinal, L_sINTEGER_OR_SYMBOLIC_ordinal, L_sSYMBOLIC_ordinal, L_sINTEGER_ordinal⟩ := id G
      have ne_sBOOLEAN_sINTEGER_OR_SYMBOLIC : sBOOLEAN ≠ sINTEGER_OR_SYMBOLIC := L_sBOOLEAN_ordinal.ne L_sINTEGER_OR_SYMBOLIC_ordinal (by decide)
      have ne_sBOOLEAN_sSYMBOLIC : sBOOLEAN ≠ sSYMBOLIC := L_sBOOLEAN_ordinal.ne L_sSYMBOLIC_ordinal (by decide)
      have ne_sBOOLEAN_sINTEGER : sBOOLEAN ≠ sINTEGER := L_sBOOLEAN_ordinal.ne L_sINTEGER_ordinal (by decide)
      have ne_sINTEGER_OR_SYMBOLIC_sSYMBOLIC : sINTEGER_OR_SYMBOLIC ≠ sSYMBOLIC := L_sINTEGER_OR_SYMBOLIC_ordinal.ne L_sSYMBOLIC_ordinal (by decide)
      have ne_sINTEGER_OR_SYMBOLIC_sINTEGER : sINTEGER_OR_SYMBOLIC ≠ sINTEGER := L_sINTEGER_OR_SYMBOLIC_ordinal.ne L_sINTEGER_ordinal (by decide)
      have ne_sSYMBOLIC_sINTEGER : sSYMBOLIC ≠ sINTEGER := L_sSYMBOLIC_ordinal.ne L_sINTEGER_ordinal (by decide)
      refine gIloadN X w at_0 rfl (n := 1) rfl ?_
      refine gIconst X w at_1 (z := (3 : Int32)) rfl (n := 2) rfl ?_
      refine gIand X w at_2 q2 (n := 3) rfl ?_
      refine gIstoreN X w at_3 #[.val (.int p1), .val (.int p2), .val (.int (1 : Int32)), .unset, .unset, .unset, .unset, .unset] rfl (n := 4) rfl ?_
      refine gIloadN X w at_4 rfl (n := 5) rfl ?_
      refine gIconst X w at_5 (z := (3 : Int32)) rfl (n := 6) rfl ?_
      refine gIand X w at_6 q6 (n := 7) rfl ?_
      refine gIstoreN X w at_7 #[.val (.int p1), .val (.int p2), .val (.int (1 : Int32)), .val (.int (1 : Int32)), .unset, .unset, .unset, .unset] rfl (n := 8) rfl ?_
      refine gIloadN X w at_8 rfl (n := 9) rfl ?_
      refine gCallSv X w [(.int (1 : Int32))] [] (own_kind_1 l Z a0 hw sBOOLEAN sINTEGER_OR_SYMBOLIC sSYMBOLIC sINTEGER h0 n0 hn G) (own_wd hw 0 rfl) (own_wd hw 1 rfl) (own_wd hw 2 rfl) (own_wd hw 3 rfl) (by decide) own_pd0 rfl rfl at_9 rfl (W := 0) (Nat.le_of_eq rfl) (by decide) (by decide) (by decide) (by decide) (n := 12) rfl ?_
      rintro T _ _ ⟨rfl, rfl⟩ X
      refine gAstore X w at_12 rfl #[.val (.int p1), .val (.int p2), .val (.int (1 : Int32)), .val (.int (1 : Int32)), .val (.ref sINTEGER), .unset, .unset, .unset] rfl (n := 14) rfl ?_
      refine gIloadN X w at_14 rfl (n := 15) rfl ?_
      refine gCallSv X w [(.int (1 : Int32))] [] (own_kind_1 l Z a0 hw sBOOLEAN sINTEGER_OR_SYMBOLIC sSYMBOLIC sINTEGER h0 n0 hn G) (own_wd hw 0 rfl) (own_wd hw 1 rfl) (own_wd hw 2 rfl) (own_wd hw 3 rfl) (by decide) own_pd0 rfl rfl at_15 rfl (W := 0) (Nat.le_of_eq rfl) (by decide) (by decide) (by decide) (by decide) (n := 18) rfl ?_
      rintro T _ _ ⟨rfl, rfl⟩ X
      refine gAstore X w at_18 rfl #[.val (.int p1), .val (.int p2), .val (.int (1 : Int32)), .val (.int (1 : Int32)), .val (.ref sINTEGER), .val (.ref sINTEGER), .unset, .unset] rfl (n := 20) rfl ?_
      refine gIloadN X w at_20 rfl (n := 21) rfl ?_
      refine gCallSv X w [(.int (1 : Int32))] [] (own_bits_1 l Z a0 hw sBOOLEAN sINTEGER_OR_SYMBOLIC sSYMBOLIC sINTEGER h0 n0 hn G) (own_wd hw 9 rfl) (own_wd hw 10 rfl) (own_wd hw 2 rfl) (own_wd hw 11 rfl) (by decide) own_pd1 rfl rfl at_21 rfl (W := 0) (Nat.le_of_eq rfl) (by decide) (by decide) (by decide) (by decide) (n := 24) rfl ?_
      rintro T _ _ ⟨rfl, rfl⟩ X
      refine gIloadN X w at_24 rfl (n := 25) rfl ?_
      refine gCallSv X w [(.int (1 : Int32))] [(.int (1 : Int32))] (own_bits_1 l Z a0 hw sBOOLEAN sINTEGER_OR_SYMBOLIC sSYMBOLIC sINTEGER h0 n0 hn G) (own_wd hw 9 rfl) (own_wd hw 10 rfl) (own_wd hw 2 rfl) (own_wd hw 11 rfl) (by decide) own_pd1 rfl rfl at_25 rfl (W := 1) (Nat.le_of_eq rfl) (by decide) (by decide) (by decide) (by decide) (n := 28) rfl ?_
      rintro T _ _ ⟨rfl, rfl⟩ X
      refine gCallSv X w [(.int (1 : Int32)), (.int (1 : Int32))] [] (own_exp_11 l Z a0 hw sBOOLEAN sINTEGER_OR_SYMBOLIC sSYMBOLIC sINTEGER h0 n0 hn G) (own_wd hw 12 rfl) (own_wd hw 13 rfl) (own_wd hw 2 rfl) (own_wd hw 14 rfl) (by decide) own_pd2 rfl rfl at_28 rfl (W := 0) (Nat.le_of_eq rfl) (by decide) (by decide) (by decide) (by decide) (n := 31) rfl ?_
      rintro T _ _ ⟨rfl, rfl⟩ X
      refine gAstore X w at_31 rfl #[.val (.int p1), .val (.int p2), .val (.int (1 : Int32)), .val (.int (1 : Int32)), .val (.ref sINTEGER), .val (.ref sINTEGER), .val (.ref sINTEGER), .unset] rfl (n := 33) rfl ?_
      refine gAload X w at_33 rfl rfl (n := 35) rfl ?_
      refine gAload X w at_35 rfl rfl (n := 37) rfl ?_
      refine gCallVv X w [(.ref sINTEGER)] [] E_sINTEGER (own_join_11 l Z a0 hw sBOOLEAN sINTEGER_OR_SYMBOLIC sSYMBOLIC sINTEGER h0 n0 hn G) (own_wd hw 15 rfl) (own_wd hw 16 rfl) (notFace_of_selects (args := #[]) (mvT w.2.2.1 (own_wd hw 18 rfl))) (own_wd hw 18 rfl) (own_wd hw 17 rfl) (own_wd hw 5 rfl) (own_wd hw 19 rfl) (by decide) own_pd3 rfl rfl at_37 rfl (W := 0) (Nat.le_of_eq rfl) (by decide) (by decide) (by decide) (by decide) (n := 40) rfl ?_
      rintro T _ _ ⟨rfl, rfl⟩ X
      refine gAstore X w at_40 rfl #[.val (.int p1), .val (.int p2), .val (.int (1 : Int32)), .val (.int (1 : Int32)), .val (.ref sINTEGER), .val (.ref sINTEGER), .val (.ref sINTEGER), .val (.ref sINTEGER)] rfl (n := 42) rfl ?_
      refine gAload X w at_42 rfl rfl (n := 44) rfl ?_
      refine gAload X w at_44 rfl rfl (n := 46) rfl ?_
      refine gAcmp_ne X w at_46 rfl rfl (n := 53) (n' := 49) (by decide) rfl rfl ?_ ?_
      · intro c46
        exact absurd rfl c46
      · intro c46
        refine gIconst X w at_49 (z := (1 : Int32)) rfl (n := 50) rfl ?_
        refine gGoto X w at_50 (by decide) (n := 54) rfl ?_
        exact gRetZ X w rfl (Or.inr rfl) at_54 (by decide) (by decide) (rfl)
    · skip
      obtain ⟨S_sBOOLEAN, E_sBOOLEAN, S_sINTEGER_OR_SYMBOLIC, E_sINTEGER_OR_SYMBOLIC, S_sSYMBOLIC, E_sSYMBOLIC, S_sINTEGER, E_sINTEGER, L_sBOOLEAN_ordinal, L_sINTEGER_OR_SYMBOLIC_ordinal, L_sSYMBOLIC_ordinal, L_sINTEGER_ordinal⟩ := id G
      have ne_sBOOLEAN_sINTEGER_OR_SYMBOLIC : sBOOLEAN ≠ sINTEGER_OR_SYMBOLIC := L_sBOOLEAN_ordinal.ne L_sINTEGER_OR_SYMBOLIC_ordinal (by decide)
      have ne_sBOOLEAN_sSYMBOLIC : sBOOLEAN ≠ sSYMBOLIC := L_sBOOLEAN_ordinal.ne L_sSYMBOLIC_ordinal (by decide)
      have ne_sBOOLEAN_sINTEGER : sBOOLEAN ≠ sINTEGER := L_sBOOLEAN_ordinal.ne L_sINTEGER_ordinal (by decide)
      have ne_sINTEGER_OR_SYMBOLIC_sSYMBOLIC : sINTEGER_OR_SYMBOLIC ≠ sSYMBOLIC := L_sINTEGER_OR_SYMBOLIC_ordinal.ne L_sSYMBOLIC_ordinal (by decide)
      have ne_sINTEGER_OR_SYMBOLIC_sINTEGER : sINTEGER_OR_SYMBOLIC ≠ sINTEGER := L_sINTEGER_OR_SYMBOLIC_ordinal.ne L_sINTEGER_ordinal (by decide)
      have ne_sSYMBOLIC_sINTEGER : sSYMBOLIC ≠ sINTEGER := L_sSYMBOLIC_ordinal.ne L_sINTEGER_ordinal (by decide)
      refine gIloadN X w at_0 rfl (n := 1) rfl ?_
      refine gIconst X w at_1 (z := (3 : Int32)) rfl (n := 2) rfl ?_
      refine gIand X w at_2 q2 (n := 3) rfl ?_
      refine gIstoreN X w at_3 #[.val (.int p1), .val (.int p2), .val (.int (1 : Int32)), .unset, .unset, .unset, .unset, .unset] rfl (n := 4) rfl ?_
      refine gIloadN X w at_4 rfl (n := 5) rfl ?_
      refine gIconst X w at_5 (z := (3 : Int32)) rfl (n := 6) rfl ?_
      refine gIand X w at_6 q6 (n := 7) rfl ?_
      refine gIstoreN X w at_7 #[.val (.int p1), .val (.int p2), .val (.int (1 : Int32)), .val (.int (2 : Int32)), .unset, .unset, .unset, .unset] rfl (n := 8) rfl ?_
      refine gIloadN X w at_8 rfl (n := 9) rfl ?_
      refine gCallSv X w [(.int (1 : Int32))] [] (own_kind_1 l Z a0 hw sBOOLEAN sINTEGER_OR_SYMBOLIC sSYMBOLIC sINTEGER h0 n0 hn G) (own_wd hw 0 rfl) (own_wd hw 1 rfl) (own_wd hw 2 rfl) (own_wd hw 3 rfl) (by decide) own_pd0 rfl rfl at_9 rfl (W := 0) (Nat.le_of_eq rfl) (by decide) (by decide) (by decide) (by decide) (n := 12) rfl ?_
      rintro T _ _ ⟨rfl, rfl⟩ X
      refine gAstore X w at_12 rfl #[.val (.int p1), .val (.int p2), .val (.int (1 : Int32)), .val (.int (2 : Int32)), .val (.ref sINTEGER), .unset, .unset, .unset] rfl (n := 14) rfl ?_
      refine gIloadN X w at_14 rfl (n := 15) rfl ?_
      refine gCallSv X w [(.int (2 : Int32))] [] (own_kind_2 l Z a0 hw sBOOLEAN sINTEGER_OR_SYMBOLIC sSYMBOLIC sINTEGER h0 n0 hn G) (own_wd hw 0 rfl) (own_wd hw 1 rfl) (own_wd hw 2 rfl) (own_wd hw 3 rfl) (by decide) own_pd0 rfl rfl at_15 rfl (W := 0) (Nat.le_of_eq rfl) (by decide) (by decide) (by decide) (by decide) (n := 18) rfl ?_
      rintro T _ _ ⟨rfl, rfl⟩ X
      refine gAstore X w at_18 rfl #[.val (.int p1), .val (.int p2), .val (.int (1 : Int32)), .val (.int (2 : Int32)), .val (.ref sINTEGER), .val (.ref sSYMBOLIC), .unset, .unset] rfl (n := 20) rfl ?_
      refine gIloadN X w at_20 rfl (n := 21) rfl ?_
      refine gCallSv X w [(.int (1 : Int32))] [] (own_bits_1 l Z a0 hw sBOOLEAN sINTEGER_OR_SYMBOLIC sSYMBOLIC sINTEGER h0 n0 hn G) (own_wd hw 9 rfl) (own_wd hw 10 rfl) (own_wd hw 2 rfl) (own_wd hw 11 rfl) (by decide) own_pd1 rfl rfl at_21 rfl (W := 0) (Nat.le_of_eq rfl) (by decide) (by decide) (by decide) (by decide) (n := 24) rfl ?_
      rintro T _ _ ⟨rfl, rfl⟩ X
      refine gIloadN X w at_24 rfl (n := 25) rfl ?_
      refine gCallSv X w [(.int (2 : Int32))] [(.int (1 : Int32))] (own_bits_2 l Z a0 hw sBOOLEAN sINTEGER_OR_SYMBOLIC sSYMBOLIC sINTEGER h0 n0 hn G) (own_wd hw 9 rfl) (own_wd hw 10 rfl) (own_wd hw 2 rfl) (own_wd hw 11 rfl) (by decide) own_pd1 rfl rfl at_25 rfl (W := 1) (Nat.le_of_eq rfl) (by decide) (by decide) (by decide) (by decide) (n := 28) rfl ?_
      rintro T _ _ ⟨rfl, rfl⟩ X
      refine gCallSv X w [(.int (1 : Int32)), (.int (2 : Int32))] [] (own_exp_12 l Z a0 hw sBOOLEAN sINTEGER_OR_SYMBOLIC sSYMBOLIC sINTEGER h0 n0 hn G) (own_wd hw 12 rfl) (own_wd hw 13 rfl) (own_wd hw 2 rfl) (own_wd hw 14 rfl) (by decide) own_pd2 rfl rfl at_28 rfl (W := 0) (Nat.le_of_eq rfl) (by decide) (by decide) (by decide) (by decide) (n := 31) rfl ?_
      rintro T _ _ ⟨rfl, rfl⟩ X
      refine gAstore X w at_31 rfl #[.val (.int p1), .val (.int p2), .val (.int (1 : Int32)), .val (.int (2 : Int32)), .val (.ref sINTEGER), .val (.ref sSYMBOLIC), .val (.ref sINTEGER_OR_SYMBOLIC), .unset] rfl (n := 33) rfl ?_
      refine gAload X w at_33 rfl rfl (n := 35) rfl ?_
      refine gAload X w at_35 rfl rfl (n := 37) rfl ?_
      refine gCallVv X w [(.ref sSYMBOLIC)] [] E_sINTEGER (own_join_12 l Z a0 hw sBOOLEAN sINTEGER_OR_SYMBOLIC sSYMBOLIC sINTEGER h0 n0 hn G) (own_wd hw 15 rfl) (own_wd hw 16 rfl) (notFace_of_selects (args := #[]) (mvT w.2.2.1 (own_wd hw 18 rfl))) (own_wd hw 18 rfl) (own_wd hw 17 rfl) (own_wd hw 5 rfl) (own_wd hw 19 rfl) (by decide) own_pd3 rfl rfl at_37 rfl (W := 0) (Nat.le_of_eq rfl) (by decide) (by decide) (by decide) (by decide) (n := 40) rfl ?_
      rintro T _ _ ⟨rfl, rfl⟩ X
      refine gAstore X w at_40 rfl #[.val (.int p1), .val (.int p2), .val (.int (1 : Int32)), .val (.int (2 : Int32)), .val (.ref sINTEGER), .val (.ref sSYMBOLIC), .val (.ref sINTEGER_OR_SYMBOLIC), .val (.ref sINTEGER_OR_SYMBOLIC)] rfl (n := 42) rfl ?_
      refine gAload X w at_42 rfl rfl (n := 44) rfl ?_
      refine gAload X w at_44 rfl rfl (n := 46) rfl ?_
      refine gAcmp_ne X w at_46 rfl rfl (n := 53) (n' := 49) (by decide) rfl rfl ?_ ?_
      · intro c46
        exact absurd rfl c46
      · intro c46
        refine gIconst X w at_49 (z := (1 : Int32)) rfl (n := 50) rfl ?_
        refine gGoto X w at_50 (by decide) (n := 54) rfl ?_
        exact gRetZ X w rfl (Or.inr rfl) at_54 (by decide) (by decide) (rfl)
    · skip
      obtain ⟨S_sBOOLEAN, E_sBOOLEAN, S_sINTEGER_OR_SYMBOLIC, E_sINTEGER_OR_SYMBOLIC, S_sSYMBOLIC, E_sSYMBOLIC, S_sINTEGER, E_sINTEGER, L_sBOOLEAN_ordinal, L_sINTEGER_OR_SYMBOLIC_ordinal, L_sSYMBOLIC_ordinal, L_sINTEGER_ordinal⟩ := id G
      have ne_sBOOLEAN_sINTEGER_OR_SYMBOLIC : sBOOLEAN ≠ sINTEGER_OR_SYMBOLIC := L_sBOOLEAN_ordinal.ne L_sINTEGER_OR_SYMBOLIC_ordinal (by decide)
      have ne_sBOOLEAN_sSYMBOLIC : sBOOLEAN ≠ sSYMBOLIC := L_sBOOLEAN_ordinal.ne L_sSYMBOLIC_ordinal (by decide)
      have ne_sBOOLEAN_sINTEGER : sBOOLEAN ≠ sINTEGER := L_sBOOLEAN_ordinal.ne L_sINTEGER_ordinal (by decide)
      have ne_sINTEGER_OR_SYMBOLIC_sSYMBOLIC : sINTEGER_OR_SYMBOLIC ≠ sSYMBOLIC := L_sINTEGER_OR_SYMBOLIC_ordinal.ne L_sSYMBOLIC_ordinal (by decide)
      have ne_sINTEGER_OR_SYMBOLIC_sINTEGER : sINTEGER_OR_SYMBOLIC ≠ sINTEGER := L_sINTEGER_OR_SYMBOLIC_ordinal.ne L_sINTEGER_ordinal (by decide)
      have ne_sSYMBOLIC_sINTEGER : sSYMBOLIC ≠ sINTEGER := L_sSYMBOLIC_ordinal.ne L_sINTEGER_ordinal (by decide)
      refine gIloadN X w at_0 rfl (n := 1) rfl ?_
      refine gIconst X w at_1 (z := (3 : Int32)) rfl (n := 2) rfl ?_
      refine gIand X w at_2 q2 (n := 3) rfl ?_
      refine gIstoreN X w at_3 #[.val (.int p1), .val (.int p2), .val (.int (1 : Int32)), .unset, .unset, .unset, .unset, .unset] rfl (n := 4) rfl ?_
      refine gIloadN X w at_4 rfl (n := 5) rfl ?_
      refine gIconst X w at_5 (z := (3 : Int32)) rfl (n := 6) rfl ?_
      refine gIand X w at_6 q6 (n := 7) rfl ?_
      refine gIstoreN X w at_7 #[.val (.int p1), .val (.int p2), .val (.int (1 : Int32)), .val (.int (3 : Int32)), .unset, .unset, .unset, .unset] rfl (n := 8) rfl ?_
      refine gIloadN X w at_8 rfl (n := 9) rfl ?_
      refine gCallSv X w [(.int (1 : Int32))] [] (own_kind_1 l Z a0 hw sBOOLEAN sINTEGER_OR_SYMBOLIC sSYMBOLIC sINTEGER h0 n0 hn G) (own_wd hw 0 rfl) (own_wd hw 1 rfl) (own_wd hw 2 rfl) (own_wd hw 3 rfl) (by decide) own_pd0 rfl rfl at_9 rfl (W := 0) (Nat.le_of_eq rfl) (by decide) (by decide) (by decide) (by decide) (n := 12) rfl ?_
      rintro T _ _ ⟨rfl, rfl⟩ X
      refine gAstore X w at_12 rfl #[.val (.int p1), .val (.int p2), .val (.int (1 : Int32)), .val (.int (3 : Int32)), .val (.ref sINTEGER), .unset, .unset, .unset] rfl (n := 14) rfl ?_
      refine gIloadN X w at_14 rfl (n := 15) rfl ?_
      refine gCallSv X w [(.int (3 : Int32))] [] (own_kind_3 l Z a0 hw sBOOLEAN sINTEGER_OR_SYMBOLIC sSYMBOLIC sINTEGER h0 n0 hn G) (own_wd hw 0 rfl) (own_wd hw 1 rfl) (own_wd hw 2 rfl) (own_wd hw 3 rfl) (by decide) own_pd0 rfl rfl at_15 rfl (W := 0) (Nat.le_of_eq rfl) (by decide) (by decide) (by decide) (by decide) (n := 18) rfl ?_
      rintro T _ _ ⟨rfl, rfl⟩ X
      refine gAstore X w at_18 rfl #[.val (.int p1), .val (.int p2), .val (.int (1 : Int32)), .val (.int (3 : Int32)), .val (.ref sINTEGER), .val (.ref sINTEGER_OR_SYMBOLIC), .unset, .unset] rfl (n := 20) rfl ?_
      refine gIloadN X w at_20 rfl (n := 21) rfl ?_
      refine gCallSv X w [(.int (1 : Int32))] [] (own_bits_1 l Z a0 hw sBOOLEAN sINTEGER_OR_SYMBOLIC sSYMBOLIC sINTEGER h0 n0 hn G) (own_wd hw 9 rfl) (own_wd hw 10 rfl) (own_wd hw 2 rfl) (own_wd hw 11 rfl) (by decide) own_pd1 rfl rfl at_21 rfl (W := 0) (Nat.le_of_eq rfl) (by decide) (by decide) (by decide) (by decide) (n := 24) rfl ?_
      rintro T _ _ ⟨rfl, rfl⟩ X
      refine gIloadN X w at_24 rfl (n := 25) rfl ?_
      refine gCallSv X w [(.int (3 : Int32))] [(.int (1 : Int32))] (own_bits_3 l Z a0 hw sBOOLEAN sINTEGER_OR_SYMBOLIC sSYMBOLIC sINTEGER h0 n0 hn G) (own_wd hw 9 rfl) (own_wd hw 10 rfl) (own_wd hw 2 rfl) (own_wd hw 11 rfl) (by decide) own_pd1 rfl rfl at_25 rfl (W := 1) (Nat.le_of_eq rfl) (by decide) (by decide) (by decide) (by decide) (n := 28) rfl ?_
      rintro T _ _ ⟨rfl, rfl⟩ X
      refine gCallSv X w [(.int (1 : Int32)), (.int (3 : Int32))] [] (own_exp_13 l Z a0 hw sBOOLEAN sINTEGER_OR_SYMBOLIC sSYMBOLIC sINTEGER h0 n0 hn G) (own_wd hw 12 rfl) (own_wd hw 13 rfl) (own_wd hw 2 rfl) (own_wd hw 14 rfl) (by decide) own_pd2 rfl rfl at_28 rfl (W := 0) (Nat.le_of_eq rfl) (by decide) (by decide) (by decide) (by decide) (n := 31) rfl ?_
      rintro T _ _ ⟨rfl, rfl⟩ X
      refine gAstore X w at_31 rfl #[.val (.int p1), .val (.int p2), .val (.int (1 : Int32)), .val (.int (3 : Int32)), .val (.ref sINTEGER), .val (.ref sINTEGER_OR_SYMBOLIC), .val (.ref sINTEGER_OR_SYMBOLIC), .unset] rfl (n := 33) rfl ?_
      refine gAload X w at_33 rfl rfl (n := 35) rfl ?_
      refine gAload X w at_35 rfl rfl (n := 37) rfl ?_
      refine gCallVv X w [(.ref sINTEGER_OR_SYMBOLIC)] [] E_sINTEGER (own_join_13 l Z a0 hw sBOOLEAN sINTEGER_OR_SYMBOLIC sSYMBOLIC sINTEGER h0 n0 hn G) (own_wd hw 15 rfl) (own_wd hw 16 rfl) (notFace_of_selects (args := #[]) (mvT w.2.2.1 (own_wd hw 18 rfl))) (own_wd hw 18 rfl) (own_wd hw 17 rfl) (own_wd hw 5 rfl) (own_wd hw 19 rfl) (by decide) own_pd3 rfl rfl at_37 rfl (W := 0) (Nat.le_of_eq rfl) (by decide) (by decide) (by decide) (by decide) (n := 40) rfl ?_
      rintro T _ _ ⟨rfl, rfl⟩ X
      refine gAstore X w at_40 rfl #[.val (.int p1), .val (.int p2), .val (.int (1 : Int32)), .val (.int (3 : Int32)), .val (.ref sINTEGER), .val (.ref sINTEGER_OR_SYMBOLIC), .val (.ref sINTEGER_OR_SYMBOLIC), .val (.ref sINTEGER_OR_SYMBOLIC)] rfl (n := 42) rfl ?_
      refine gAload X w at_42 rfl rfl (n := 44) rfl ?_
      refine gAload X w at_44 rfl rfl (n := 46) rfl ?_
      refine gAcmp_ne X w at_46 rfl rfl (n := 53) (n' := 49) (by decide) rfl rfl ?_ ?_
      · intro c46
        exact absurd rfl c46
      · intro c46
        refine gIconst X w at_49 (z := (1 : Int32)) rfl (n := 50) rfl ?_
        refine gGoto X w at_50 (by decide) (n := 54) rfl ?_
        exact gRetZ X w rfl (Or.inr rfl) at_54 (by decide) (by decide) (rfl)
  · rcases b1 with q6 | q6 | q6 | q6
    · skip
      obtain ⟨S_sBOOLEAN, E_sBOOLEAN, S_sINTEGER_OR_SYMBOLIC, E_sINTEGER_OR_SYMBOLIC, S_sSYMBOLIC, E_sSYMBOLIC, S_sINTEGER, E_sINTEGER, L_sBOOLEAN_ordinal, L_sINTEGER_OR_SYMBOLIC_ordinal, L_sSYMBOLIC_ordinal, L_sINTEGER_ordinal⟩ := id G
      have ne_sBOOLEAN_sINTEGER_OR_SYMBOLIC : sBOOLEAN ≠ sINTEGER_OR_SYMBOLIC := L_sBOOLEAN_ordinal.ne L_sINTEGER_OR_SYMBOLIC_ordinal (by decide)
      have ne_sBOOLEAN_sSYMBOLIC : sBOOLEAN ≠ sSYMBOLIC := L_sBOOLEAN_ordinal.ne L_sSYMBOLIC_ordinal (by decide)
      have ne_sBOOLEAN_sINTEGER : sBOOLEAN ≠ sINTEGER := L_sBOOLEAN_ordinal.ne L_sINTEGER_ordinal (by decide)
      have ne_sINTEGER_OR_SYMBOLIC_sSYMBOLIC : sINTEGER_OR_SYMBOLIC ≠ sSYMBOLIC := L_sINTEGER_OR_SYMBOLIC_ordinal.ne L_sSYMBOLIC_ordinal (by decide)
      have ne_sINTEGER_OR_SYMBOLIC_sINTEGER : sINTEGER_OR_SYMBOLIC ≠ sINTEGER := L_sINTEGER_OR_SYMBOLIC_ordinal.ne L_sINTEGER_ordinal (by decide)
      have ne_sSYMBOLIC_sINTEGER : sSYMBOLIC ≠ sINTEGER := L_sSYMBOLIC_ordinal.ne L_sINTEGER_ordinal (by decide)
      refine gIloadN X w at_0 rfl (n := 1) rfl ?_
      refine gIconst X w at_1 (z := (3 : Int32)) rfl (n := 2) rfl ?_
      refine gIand X w at_2 q2 (n := 3) rfl ?_
      refine gIstoreN X w at_3 #[.val (.int p1), .val (.int p2), .val (.int (2 : Int32)), .unset, .unset, .unset, .unset, .unset] rfl (n := 4) rfl ?_
      refine gIloadN X w at_4 rfl (n := 5) rfl ?_
      refine gIconst X w at_5 (z := (3 : Int32)) rfl (n := 6) rfl ?_
      refine gIand X w at_6 q6 (n := 7) rfl ?_
      refine gIstoreN X w at_7 #[.val (.int p1), .val (.int p2), .val (.int (2 : Int32)), .val (.int (0 : Int32)), .unset, .unset, .unset, .unset] rfl (n := 8) rfl ?_
      refine gIloadN X w at_8 rfl (n := 9) rfl ?_
      refine gCallSv X w [(.int (2 : Int32))] [] (own_kind_2 l Z a0 hw sBOOLEAN sINTEGER_OR_SYMBOLIC sSYMBOLIC sINTEGER h0 n0 hn G) (own_wd hw 0 rfl) (own_wd hw 1 rfl) (own_wd hw 2 rfl) (own_wd hw 3 rfl) (by decide) own_pd0 rfl rfl at_9 rfl (W := 0) (Nat.le_of_eq rfl) (by decide) (by decide) (by decide) (by decide) (n := 12) rfl ?_
      rintro T _ _ ⟨rfl, rfl⟩ X
      refine gAstore X w at_12 rfl #[.val (.int p1), .val (.int p2), .val (.int (2 : Int32)), .val (.int (0 : Int32)), .val (.ref sSYMBOLIC), .unset, .unset, .unset] rfl (n := 14) rfl ?_
      refine gIloadN X w at_14 rfl (n := 15) rfl ?_
      refine gCallSv X w [(.int (0 : Int32))] [] (own_kind_0 l Z a0 hw sBOOLEAN sINTEGER_OR_SYMBOLIC sSYMBOLIC sINTEGER h0 n0 hn G) (own_wd hw 0 rfl) (own_wd hw 1 rfl) (own_wd hw 2 rfl) (own_wd hw 3 rfl) (by decide) own_pd0 rfl rfl at_15 rfl (W := 0) (Nat.le_of_eq rfl) (by decide) (by decide) (by decide) (by decide) (n := 18) rfl ?_
      rintro T _ _ ⟨rfl, rfl⟩ X
      refine gAstore X w at_18 rfl #[.val (.int p1), .val (.int p2), .val (.int (2 : Int32)), .val (.int (0 : Int32)), .val (.ref sSYMBOLIC), .val (.ref sBOOLEAN), .unset, .unset] rfl (n := 20) rfl ?_
      refine gIloadN X w at_20 rfl (n := 21) rfl ?_
      refine gCallSv X w [(.int (2 : Int32))] [] (own_bits_2 l Z a0 hw sBOOLEAN sINTEGER_OR_SYMBOLIC sSYMBOLIC sINTEGER h0 n0 hn G) (own_wd hw 9 rfl) (own_wd hw 10 rfl) (own_wd hw 2 rfl) (own_wd hw 11 rfl) (by decide) own_pd1 rfl rfl at_21 rfl (W := 0) (Nat.le_of_eq rfl) (by decide) (by decide) (by decide) (by decide) (n := 24) rfl ?_
      rintro T _ _ ⟨rfl, rfl⟩ X
      refine gIloadN X w at_24 rfl (n := 25) rfl ?_
      refine gCallSv X w [(.int (0 : Int32))] [(.int (2 : Int32))] (own_bits_0 l Z a0 hw sBOOLEAN sINTEGER_OR_SYMBOLIC sSYMBOLIC sINTEGER h0 n0 hn G) (own_wd hw 9 rfl) (own_wd hw 10 rfl) (own_wd hw 2 rfl) (own_wd hw 11 rfl) (by decide) own_pd1 rfl rfl at_25 rfl (W := 1) (Nat.le_of_eq rfl) (by decide) (by decide) (by decide) (by decide) (n := 28) rfl ?_
      rintro T _ _ ⟨rfl, rfl⟩ X
      refine gCallSv X w [(.int (2 : Int32)), (.int (4 : Int32))] [] (own_exp_24 l Z a0 hw sBOOLEAN sINTEGER_OR_SYMBOLIC sSYMBOLIC sINTEGER h0 n0 hn G) (own_wd hw 12 rfl) (own_wd hw 13 rfl) (own_wd hw 2 rfl) (own_wd hw 14 rfl) (by decide) own_pd2 rfl rfl at_28 rfl (W := 0) (Nat.le_of_eq rfl) (by decide) (by decide) (by decide) (by decide) (n := 31) rfl ?_
      rintro T _ _ ⟨rfl, rfl⟩ X
      refine gAstore X w at_31 rfl #[.val (.int p1), .val (.int p2), .val (.int (2 : Int32)), .val (.int (0 : Int32)), .val (.ref sSYMBOLIC), .val (.ref sBOOLEAN), .val .null, .unset] rfl (n := 33) rfl ?_
      refine gAload X w at_33 rfl rfl (n := 35) rfl ?_
      refine gAload X w at_35 rfl rfl (n := 37) rfl ?_
      refine gCallVv X w [(.ref sBOOLEAN)] [] E_sSYMBOLIC (own_join_20 l Z a0 hw sBOOLEAN sINTEGER_OR_SYMBOLIC sSYMBOLIC sINTEGER h0 n0 hn G) (own_wd hw 15 rfl) (own_wd hw 16 rfl) (notFace_of_selects (args := #[]) (mvT w.2.2.1 (own_wd hw 18 rfl))) (own_wd hw 18 rfl) (own_wd hw 17 rfl) (own_wd hw 5 rfl) (own_wd hw 19 rfl) (by decide) own_pd3 rfl rfl at_37 rfl (W := 0) (Nat.le_of_eq rfl) (by decide) (by decide) (by decide) (by decide) (n := 40) rfl ?_
      rintro T _ _ ⟨rfl, rfl⟩ X
      refine gAstore X w at_40 rfl #[.val (.int p1), .val (.int p2), .val (.int (2 : Int32)), .val (.int (0 : Int32)), .val (.ref sSYMBOLIC), .val (.ref sBOOLEAN), .val .null, .val .null] rfl (n := 42) rfl ?_
      refine gAload X w at_42 rfl rfl (n := 44) rfl ?_
      refine gAload X w at_44 rfl rfl (n := 46) rfl ?_
      refine gAcmp_ne X w at_46 rfl rfl (n := 53) (n' := 49) (by decide) rfl rfl ?_ ?_
      · intro c46
        exact absurd rfl c46
      · intro c46
        refine gIconst X w at_49 (z := (1 : Int32)) rfl (n := 50) rfl ?_
        refine gGoto X w at_50 (by decide) (n := 54) rfl ?_
        exact gRetZ X w rfl (Or.inr rfl) at_54 (by decide) (by decide) (rfl)
    · skip
      obtain ⟨S_sBOOLEAN, E_sBOOLEAN, S_sINTEGER_OR_SYMBOLIC, E_sINTEGER_OR_SYMBOLIC, S_sSYMBOLIC, E_sSYMBOLIC, S_sINTEGER, E_sINTEGER, L_sBOOLEAN_ordinal, L_sINTEGER_OR_SYMBOLIC_ordinal, L_sSYMBOLIC_ordinal, L_sINTEGER_ordinal⟩ := id G
      have ne_sBOOLEAN_sINTEGER_OR_SYMBOLIC : sBOOLEAN ≠ sINTEGER_OR_SYMBOLIC := L_sBOOLEAN_ordinal.ne L_sINTEGER_OR_SYMBOLIC_ordinal (by decide)
      have ne_sBOOLEAN_sSYMBOLIC : sBOOLEAN ≠ sSYMBOLIC := L_sBOOLEAN_ordinal.ne L_sSYMBOLIC_ordinal (by decide)
      have ne_sBOOLEAN_sINTEGER : sBOOLEAN ≠ sINTEGER := L_sBOOLEAN_ordinal.ne L_sINTEGER_ordinal (by decide)
      have ne_sINTEGER_OR_SYMBOLIC_sSYMBOLIC : sINTEGER_OR_SYMBOLIC ≠ sSYMBOLIC := L_sINTEGER_OR_SYMBOLIC_ordinal.ne L_sSYMBOLIC_ordinal (by decide)
      have ne_sINTEGER_OR_SYMBOLIC_sINTEGER : sINTEGER_OR_SYMBOLIC ≠ sINTEGER := L_sINTEGER_OR_SYMBOLIC_ordinal.ne L_sINTEGER_ordinal (by decide)
      have ne_sSYMBOLIC_sINTEGER : sSYMBOLIC ≠ sINTEGER := L_sSYMBOLIC_ordinal.ne L_sINTEGER_ordinal (by decide)
      refine gIloadN X w at_0 rfl (n := 1) rfl ?_
      refine gIconst X w at_1 (z := (3 : Int32)) rfl (n := 2) rfl ?_
      refine gIand X w at_2 q2 (n := 3) rfl ?_
      refine gIstoreN X w at_3 #[.val (.int p1), .val (.int p2), .val (.int (2 : Int32)), .unset, .unset, .unset, .unset, .unset] rfl (n := 4) rfl ?_
      refine gIloadN X w at_4 rfl (n := 5) rfl ?_
      refine gIconst X w at_5 (z := (3 : Int32)) rfl (n := 6) rfl ?_
      refine gIand X w at_6 q6 (n := 7) rfl ?_
      refine gIstoreN X w at_7 #[.val (.int p1), .val (.int p2), .val (.int (2 : Int32)), .val (.int (1 : Int32)), .unset, .unset, .unset, .unset] rfl (n := 8) rfl ?_
      refine gIloadN X w at_8 rfl (n := 9) rfl ?_
      refine gCallSv X w [(.int (2 : Int32))] [] (own_kind_2 l Z a0 hw sBOOLEAN sINTEGER_OR_SYMBOLIC sSYMBOLIC sINTEGER h0 n0 hn G) (own_wd hw 0 rfl) (own_wd hw 1 rfl) (own_wd hw 2 rfl) (own_wd hw 3 rfl) (by decide) own_pd0 rfl rfl at_9 rfl (W := 0) (Nat.le_of_eq rfl) (by decide) (by decide) (by decide) (by decide) (n := 12) rfl ?_
      rintro T _ _ ⟨rfl, rfl⟩ X
      refine gAstore X w at_12 rfl #[.val (.int p1), .val (.int p2), .val (.int (2 : Int32)), .val (.int (1 : Int32)), .val (.ref sSYMBOLIC), .unset, .unset, .unset] rfl (n := 14) rfl ?_
      refine gIloadN X w at_14 rfl (n := 15) rfl ?_
      refine gCallSv X w [(.int (1 : Int32))] [] (own_kind_1 l Z a0 hw sBOOLEAN sINTEGER_OR_SYMBOLIC sSYMBOLIC sINTEGER h0 n0 hn G) (own_wd hw 0 rfl) (own_wd hw 1 rfl) (own_wd hw 2 rfl) (own_wd hw 3 rfl) (by decide) own_pd0 rfl rfl at_15 rfl (W := 0) (Nat.le_of_eq rfl) (by decide) (by decide) (by decide) (by decide) (n := 18) rfl ?_
      rintro T _ _ ⟨rfl, rfl⟩ X
      refine gAstore X w at_18 rfl #[.val (.int p1), .val (.int p2), .val (.int (2 : Int32)), .val (.int (1 : Int32)), .val (.ref sSYMBOLIC), .val (.ref sINTEGER), .unset, .unset] rfl (n := 20) rfl ?_
      refine gIloadN X w at_20 rfl (n := 21) rfl ?_
      refine gCallSv X w [(.int (2 : Int32))] [] (own_bits_2 l Z a0 hw sBOOLEAN sINTEGER_OR_SYMBOLIC sSYMBOLIC sINTEGER h0 n0 hn G) (own_wd hw 9 rfl) (own_wd hw 10 rfl) (own_wd hw 2 rfl) (own_wd hw 11 rfl) (by decide) own_pd1 rfl rfl at_21 rfl (W := 0) (Nat.le_of_eq rfl) (by decide) (by decide) (by decide) (by decide) (n := 24) rfl ?_
      rintro T _ _ ⟨rfl, rfl⟩ X
      refine gIloadN X w at_24 rfl (n := 25) rfl ?_
      refine gCallSv X w [(.int (1 : Int32))] [(.int (2 : Int32))] (own_bits_1 l Z a0 hw sBOOLEAN sINTEGER_OR_SYMBOLIC sSYMBOLIC sINTEGER h0 n0 hn G) (own_wd hw 9 rfl) (own_wd hw 10 rfl) (own_wd hw 2 rfl) (own_wd hw 11 rfl) (by decide) own_pd1 rfl rfl at_25 rfl (W := 1) (Nat.le_of_eq rfl) (by decide) (by decide) (by decide) (by decide) (n := 28) rfl ?_
      rintro T _ _ ⟨rfl, rfl⟩ X
      refine gCallSv X w [(.int (2 : Int32)), (.int (1 : Int32))] [] (own_exp_21 l Z a0 hw sBOOLEAN sINTEGER_OR_SYMBOLIC sSYMBOLIC sINTEGER h0 n0 hn G) (own_wd hw 12 rfl) (own_wd hw 13 rfl) (own_wd hw 2 rfl) (own_wd hw 14 rfl) (by decide) own_pd2 rfl rfl at_28 rfl (W := 0) (Nat.le_of_eq rfl) (by decide) (by decide) (by decide) (by decide) (n := 31) rfl ?_
      rintro T _ _ ⟨rfl, rfl⟩ X
      refine gAstore X w at_31 rfl #[.val (.int p1), .val (.int p2), .val (.int (2 : Int32)), .val (.int (1 : Int32)), .val (.ref sSYMBOLIC), .val (.ref sINTEGER), .val (.ref sINTEGER_OR_SYMBOLIC), .unset] rfl (n := 33) rfl ?_
      refine gAload X w at_33 rfl rfl (n := 35) rfl ?_
      refine gAload X w at_35 rfl rfl (n := 37) rfl ?_
      refine gCallVv X w [(.ref sINTEGER)] [] E_sSYMBOLIC (own_join_21 l Z a0 hw sBOOLEAN sINTEGER_OR_SYMBOLIC sSYMBOLIC sINTEGER h0 n0 hn G) (own_wd hw 15 rfl) (own_wd hw 16 rfl) (notFace_of_selects (args := #[]) (mvT w.2.2.1 (own_wd hw 18 rfl))) (own_wd hw 18 rfl) (own_wd hw 17 rfl) (own_wd hw 5 rfl) (own_wd hw 19 rfl) (by decide) own_pd3 rfl rfl at_37 rfl (W := 0) (Nat.le_of_eq rfl) (by decide) (by decide) (by decide) (by decide) (n := 40) rfl ?_
      rintro T _ _ ⟨rfl, rfl⟩ X
      refine gAstore X w at_40 rfl #[.val (.int p1), .val (.int p2), .val (.int (2 : Int32)), .val (.int (1 : Int32)), .val (.ref sSYMBOLIC), .val (.ref sINTEGER), .val (.ref sINTEGER_OR_SYMBOLIC), .val (.ref sINTEGER_OR_SYMBOLIC)] rfl (n := 42) rfl ?_
      refine gAload X w at_42 rfl rfl (n := 44) rfl ?_
      refine gAload X w at_44 rfl rfl (n := 46) rfl ?_
      refine gAcmp_ne X w at_46 rfl rfl (n := 53) (n' := 49) (by decide) rfl rfl ?_ ?_
      · intro c46
        exact absurd rfl c46
      · intro c46
        refine gIconst X w at_49 (z := (1 : Int32)) rfl (n := 50) rfl ?_
        refine gGoto X w at_50 (by decide) (n := 54) rfl ?_
        exact gRetZ X w rfl (Or.inr rfl) at_54 (by decide) (by decide) (rfl)
    · skip
      obtain ⟨S_sBOOLEAN, E_sBOOLEAN, S_sINTEGER_OR_SYMBOLIC, E_sINTEGER_OR_SYMBOLIC, S_sSYMBOLIC, E_sSYMBOLIC, S_sINTEGER, E_sINTEGER, L_sBOOLEAN_ordinal, L_sINTEGER_OR_SYMBOLIC_ordinal, L_sSYMBOLIC_ordinal, L_sINTEGER_ordinal⟩ := id G
      have ne_sBOOLEAN_sINTEGER_OR_SYMBOLIC : sBOOLEAN ≠ sINTEGER_OR_SYMBOLIC := L_sBOOLEAN_ordinal.ne L_sINTEGER_OR_SYMBOLIC_ordinal (by decide)
      have ne_sBOOLEAN_sSYMBOLIC : sBOOLEAN ≠ sSYMBOLIC := L_sBOOLEAN_ordinal.ne L_sSYMBOLIC_ordinal (by decide)
      have ne_sBOOLEAN_sINTEGER : sBOOLEAN ≠ sINTEGER := L_sBOOLEAN_ordinal.ne L_sINTEGER_ordinal (by decide)
      have ne_sINTEGER_OR_SYMBOLIC_sSYMBOLIC : sINTEGER_OR_SYMBOLIC ≠ sSYMBOLIC := L_sINTEGER_OR_SYMBOLIC_ordinal.ne L_sSYMBOLIC_ordinal (by decide)
      have ne_sINTEGER_OR_SYMBOLIC_sINTEGER : sINTEGER_OR_SYMBOLIC ≠ sINTEGER := L_sINTEGER_OR_SYMBOLIC_ordinal.ne L_sINTEGER_ordinal (by decide)
      have ne_sSYMBOLIC_sINTEGER : sSYMBOLIC ≠ sINTEGER := L_sSYMBOLIC_ordinal.ne L_sINTEGER_ordinal (by decide)
      refine gIloadN X w at_0 rfl (n := 1) rfl ?_
      refine gIconst X w at_1 (z := (3 : Int32)) rfl (n := 2) rfl ?_
      refine gIand X w at_2 q2 (n := 3) rfl ?_
      refine gIstoreN X w at_3 #[.val (.int p1), .val (.int p2), .val (.int (2 : Int32)), .unset, .unset, .unset, .unset, .unset] rfl (n := 4) rfl ?_
      refine gIloadN X w at_4 rfl (n := 5) rfl ?_
      refine gIconst X w at_5 (z := (3 : Int32)) rfl (n := 6) rfl ?_
      refine gIand X w at_6 q6 (n := 7) rfl ?_
      refine gIstoreN X w at_7 #[.val (.int p1), .val (.int p2), .val (.int (2 : Int32)), .val (.int (2 : Int32)), .unset, .unset, .unset, .unset] rfl (n := 8) rfl ?_
      refine gIloadN X w at_8 rfl (n := 9) rfl ?_
      refine gCallSv X w [(.int (2 : Int32))] [] (own_kind_2 l Z a0 hw sBOOLEAN sINTEGER_OR_SYMBOLIC sSYMBOLIC sINTEGER h0 n0 hn G) (own_wd hw 0 rfl) (own_wd hw 1 rfl) (own_wd hw 2 rfl) (own_wd hw 3 rfl) (by decide) own_pd0 rfl rfl at_9 rfl (W := 0) (Nat.le_of_eq rfl) (by decide) (by decide) (by decide) (by decide) (n := 12) rfl ?_
      rintro T _ _ ⟨rfl, rfl⟩ X
      refine gAstore X w at_12 rfl #[.val (.int p1), .val (.int p2), .val (.int (2 : Int32)), .val (.int (2 : Int32)), .val (.ref sSYMBOLIC), .unset, .unset, .unset] rfl (n := 14) rfl ?_
      refine gIloadN X w at_14 rfl (n := 15) rfl ?_
      refine gCallSv X w [(.int (2 : Int32))] [] (own_kind_2 l Z a0 hw sBOOLEAN sINTEGER_OR_SYMBOLIC sSYMBOLIC sINTEGER h0 n0 hn G) (own_wd hw 0 rfl) (own_wd hw 1 rfl) (own_wd hw 2 rfl) (own_wd hw 3 rfl) (by decide) own_pd0 rfl rfl at_15 rfl (W := 0) (Nat.le_of_eq rfl) (by decide) (by decide) (by decide) (by decide) (n := 18) rfl ?_
      rintro T _ _ ⟨rfl, rfl⟩ X
      refine gAstore X w at_18 rfl #[.val (.int p1), .val (.int p2), .val (.int (2 : Int32)), .val (.int (2 : Int32)), .val (.ref sSYMBOLIC), .val (.ref sSYMBOLIC), .unset, .unset] rfl (n := 20) rfl ?_
      refine gIloadN X w at_20 rfl (n := 21) rfl ?_
      refine gCallSv X w [(.int (2 : Int32))] [] (own_bits_2 l Z a0 hw sBOOLEAN sINTEGER_OR_SYMBOLIC sSYMBOLIC sINTEGER h0 n0 hn G) (own_wd hw 9 rfl) (own_wd hw 10 rfl) (own_wd hw 2 rfl) (own_wd hw 11 rfl) (by decide) own_pd1 rfl rfl at_21 rfl (W := 0) (Nat.le_of_eq rfl) (by decide) (by decide) (by decide) (by decide) (n := 24) rfl ?_
      rintro T _ _ ⟨rfl, rfl⟩ X
      refine gIloadN X w at_24 rfl (n := 25) rfl ?_
      refine gCallSv X w [(.int (2 : Int32))] [(.int (2 : Int32))] (own_bits_2 l Z a0 hw sBOOLEAN sINTEGER_OR_SYMBOLIC sSYMBOLIC sINTEGER h0 n0 hn G) (own_wd hw 9 rfl) (own_wd hw 10 rfl) (own_wd hw 2 rfl) (own_wd hw 11 rfl) (by decide) own_pd1 rfl rfl at_25 rfl (W := 1) (Nat.le_of_eq rfl) (by decide) (by decide) (by decide) (by decide) (n := 28) rfl ?_
      rintro T _ _ ⟨rfl, rfl⟩ X
      refine gCallSv X w [(.int (2 : Int32)), (.int (2 : Int32))] [] (own_exp_22 l Z a0 hw sBOOLEAN sINTEGER_OR_SYMBOLIC sSYMBOLIC sINTEGER h0 n0 hn G) (own_wd hw 12 rfl) (own_wd hw 13 rfl) (own_wd hw 2 rfl) (own_wd hw 14 rfl) (by decide) own_pd2 rfl rfl at_28 rfl (W := 0) (Nat.le_of_eq rfl) (by decide) (by decide) (by decide) (by decide) (n := 31) rfl ?_
      rintro T _ _ ⟨rfl, rfl⟩ X
      refine gAstore X w at_31 rfl #[.val (.int p1), .val (.int p2), .val (.int (2 : Int32)), .val (.int (2 : Int32)), .val (.ref sSYMBOLIC), .val (.ref sSYMBOLIC), .val (.ref sSYMBOLIC), .unset] rfl (n := 33) rfl ?_
      refine gAload X w at_33 rfl rfl (n := 35) rfl ?_
      refine gAload X w at_35 rfl rfl (n := 37) rfl ?_
      refine gCallVv X w [(.ref sSYMBOLIC)] [] E_sSYMBOLIC (own_join_22 l Z a0 hw sBOOLEAN sINTEGER_OR_SYMBOLIC sSYMBOLIC sINTEGER h0 n0 hn G) (own_wd hw 15 rfl) (own_wd hw 16 rfl) (notFace_of_selects (args := #[]) (mvT w.2.2.1 (own_wd hw 18 rfl))) (own_wd hw 18 rfl) (own_wd hw 17 rfl) (own_wd hw 5 rfl) (own_wd hw 19 rfl) (by decide) own_pd3 rfl rfl at_37 rfl (W := 0) (Nat.le_of_eq rfl) (by decide) (by decide) (by decide) (by decide) (n := 40) rfl ?_
      rintro T _ _ ⟨rfl, rfl⟩ X
      refine gAstore X w at_40 rfl #[.val (.int p1), .val (.int p2), .val (.int (2 : Int32)), .val (.int (2 : Int32)), .val (.ref sSYMBOLIC), .val (.ref sSYMBOLIC), .val (.ref sSYMBOLIC), .val (.ref sSYMBOLIC)] rfl (n := 42) rfl ?_
      refine gAload X w at_42 rfl rfl (n := 44) rfl ?_
      refine gAload X w at_44 rfl rfl (n := 46) rfl ?_
      refine gAcmp_ne X w at_46 rfl rfl (n := 53) (n' := 49) (by decide) rfl rfl ?_ ?_
      · intro c46
        exact absurd rfl c46
      · intro c46
        refine gIconst X w at_49 (z := (1 : Int32)) rfl (n := 50) rfl ?_
        refine gGoto X w at_50 (by decide) (n := 54) rfl ?_
        exact gRetZ X w rfl (Or.inr rfl) at_54 (by decide) (by decide) (rfl)
    · skip
      obtain ⟨S_sBOOLEAN, E_sBOOLEAN, S_sINTEGER_OR_SYMBOLIC, E_sINTEGER_OR_SYMBOLIC, S_sSYMBOLIC, E_sSYMBOLIC, S_sINTEGER, E_sINTEGER, L_sBOOLEAN_ordinal, L_sINTEGER_OR_SYMBOLIC_ordinal, L_sSYMBOLIC_ordinal, L_sINTEGER_ordinal⟩ := id G
      have ne_sBOOLEAN_sINTEGER_OR_SYMBOLIC : sBOOLEAN ≠ sINTEGER_OR_SYMBOLIC := L_sBOOLEAN_ordinal.ne L_sINTEGER_OR_SYMBOLIC_ordinal (by decide)
      have ne_sBOOLEAN_sSYMBOLIC : sBOOLEAN ≠ sSYMBOLIC := L_sBOOLEAN_ordinal.ne L_sSYMBOLIC_ordinal (by decide)
      have ne_sBOOLEAN_sINTEGER : sBOOLEAN ≠ sINTEGER := L_sBOOLEAN_ordinal.ne L_sINTEGER_ordinal (by decide)
      have ne_sINTEGER_OR_SYMBOLIC_sSYMBOLIC : sINTEGER_OR_SYMBOLIC ≠ sSYMBOLIC := L_sINTEGER_OR_SYMBOLIC_ordinal.ne L_sSYMBOLIC_ordinal (by decide)
      have ne_sINTEGER_OR_SYMBOLIC_sINTEGER : sINTEGER_OR_SYMBOLIC ≠ sINTEGER := L_sINTEGER_OR_SYMBOLIC_ordinal.ne L_sINTEGER_ordinal (by decide)
      have ne_sSYMBOLIC_sINTEGER : sSYMBOLIC ≠ sINTEGER := L_sSYMBOLIC_ordinal.ne L_sINTEGER_ordinal (by decide)
      refine gIloadN X w at_0 rfl (n := 1) rfl ?_
      refine gIconst X w at_1 (z := (3 : Int32)) rfl (n := 2) rfl ?_
      refine gIand X w at_2 q2 (n := 3) rfl ?_
      refine gIstoreN X w at_3 #[.val (.int p1), .val (.int p2), .val (.int (2 : Int32)), .unset, .unset, .unset, .unset, .unset] rfl (n := 4) rfl ?_
      refine gIloadN X w at_4 rfl (n := 5) rfl ?_
      refine gIconst X w at_5 (z := (3 : Int32)) rfl (n := 6) rfl ?_
      refine gIand X w at_6 q6 (n := 7) rfl ?_
      refine gIstoreN X w at_7 #[.val (.int p1), .val (.int p2), .val (.int (2 : Int32)), .val (.int (3 : Int32)), .unset, .unset, .unset, .unset] rfl (n := 8) rfl ?_
      refine gIloadN X w at_8 rfl (n := 9) rfl ?_
      refine gCallSv X w [(.int (2 : Int32))] [] (own_kind_2 l Z a0 hw sBOOLEAN sINTEGER_OR_SYMBOLIC sSYMBOLIC sINTEGER h0 n0 hn G) (own_wd hw 0 rfl) (own_wd hw 1 rfl) (own_wd hw 2 rfl) (own_wd hw 3 rfl) (by decide) own_pd0 rfl rfl at_9 rfl (W := 0) (Nat.le_of_eq rfl) (by decide) (by decide) (by decide) (by decide) (n := 12) rfl ?_
      rintro T _ _ ⟨rfl, rfl⟩ X
      refine gAstore X w at_12 rfl #[.val (.int p1), .val (.int p2), .val (.int (2 : Int32)), .val (.int (3 : Int32)), .val (.ref sSYMBOLIC), .unset, .unset, .unset] rfl (n := 14) rfl ?_
      refine gIloadN X w at_14 rfl (n := 15) rfl ?_
      refine gCallSv X w [(.int (3 : Int32))] [] (own_kind_3 l Z a0 hw sBOOLEAN sINTEGER_OR_SYMBOLIC sSYMBOLIC sINTEGER h0 n0 hn G) (own_wd hw 0 rfl) (own_wd hw 1 rfl) (own_wd hw 2 rfl) (own_wd hw 3 rfl) (by decide) own_pd0 rfl rfl at_15 rfl (W := 0) (Nat.le_of_eq rfl) (by decide) (by decide) (by decide) (by decide) (n := 18) rfl ?_
      rintro T _ _ ⟨rfl, rfl⟩ X
      refine gAstore X w at_18 rfl #[.val (.int p1), .val (.int p2), .val (.int (2 : Int32)), .val (.int (3 : Int32)), .val (.ref sSYMBOLIC), .val (.ref sINTEGER_OR_SYMBOLIC), .unset, .unset] rfl (n := 20) rfl ?_
      refine gIloadN X w at_20 rfl (n := 21) rfl ?_
      refine gCallSv X w [(.int (2 : Int32))] [] (own_bits_2 l Z a0 hw sBOOLEAN sINTEGER_OR_SYMBOLIC sSYMBOLIC sINTEGER h0 n0 hn G) (own_wd hw 9 rfl) (own_wd hw 10 rfl) (own_wd hw 2 rfl) (own_wd hw 11 rfl) (by decide) own_pd1 rfl rfl at_21 rfl (W := 0) (Nat.le_of_eq rfl) (by decide) (by decide) (by decide) (by decide) (n := 24) rfl ?_
      rintro T _ _ ⟨rfl, rfl⟩ X
      refine gIloadN X w at_24 rfl (n := 25) rfl ?_
      refine gCallSv X w [(.int (3 : Int32))] [(.int (2 : Int32))] (own_bits_3 l Z a0 hw sBOOLEAN sINTEGER_OR_SYMBOLIC sSYMBOLIC sINTEGER h0 n0 hn G) (own_wd hw 9 rfl) (own_wd hw 10 rfl) (own_wd hw 2 rfl) (own_wd hw 11 rfl) (by decide) own_pd1 rfl rfl at_25 rfl (W := 1) (Nat.le_of_eq rfl) (by decide) (by decide) (by decide) (by decide) (n := 28) rfl ?_
      rintro T _ _ ⟨rfl, rfl⟩ X
      refine gCallSv X w [(.int (2 : Int32)), (.int (3 : Int32))] [] (own_exp_23 l Z a0 hw sBOOLEAN sINTEGER_OR_SYMBOLIC sSYMBOLIC sINTEGER h0 n0 hn G) (own_wd hw 12 rfl) (own_wd hw 13 rfl) (own_wd hw 2 rfl) (own_wd hw 14 rfl) (by decide) own_pd2 rfl rfl at_28 rfl (W := 0) (Nat.le_of_eq rfl) (by decide) (by decide) (by decide) (by decide) (n := 31) rfl ?_
      rintro T _ _ ⟨rfl, rfl⟩ X
      refine gAstore X w at_31 rfl #[.val (.int p1), .val (.int p2), .val (.int (2 : Int32)), .val (.int (3 : Int32)), .val (.ref sSYMBOLIC), .val (.ref sINTEGER_OR_SYMBOLIC), .val (.ref sINTEGER_OR_SYMBOLIC), .unset] rfl (n := 33) rfl ?_
      refine gAload X w at_33 rfl rfl (n := 35) rfl ?_
      refine gAload X w at_35 rfl rfl (n := 37) rfl ?_
      refine gCallVv X w [(.ref sINTEGER_OR_SYMBOLIC)] [] E_sSYMBOLIC (own_join_23 l Z a0 hw sBOOLEAN sINTEGER_OR_SYMBOLIC sSYMBOLIC sINTEGER h0 n0 hn G) (own_wd hw 15 rfl) (own_wd hw 16 rfl) (notFace_of_selects (args := #[]) (mvT w.2.2.1 (own_wd hw 18 rfl))) (own_wd hw 18 rfl) (own_wd hw 17 rfl) (own_wd hw 5 rfl) (own_wd hw 19 rfl) (by decide) own_pd3 rfl rfl at_37 rfl (W := 0) (Nat.le_of_eq rfl) (by decide) (by decide) (by decide) (by decide) (n := 40) rfl ?_
      rintro T _ _ ⟨rfl, rfl⟩ X
      refine gAstore X w at_40 rfl #[.val (.int p1), .val (.int p2), .val (.int (2 : Int32)), .val (.int (3 : Int32)), .val (.ref sSYMBOLIC), .val (.ref sINTEGER_OR_SYMBOLIC), .val (.ref sINTEGER_OR_SYMBOLIC), .val (.ref sINTEGER_OR_SYMBOLIC)] rfl (n := 42) rfl ?_
      refine gAload X w at_42 rfl rfl (n := 44) rfl ?_
      refine gAload X w at_44 rfl rfl (n := 46) rfl ?_
      refine gAcmp_ne X w at_46 rfl rfl (n := 53) (n' := 49) (by decide) rfl rfl ?_ ?_
      · intro c46
        exact absurd rfl c46
      · intro c46
        refine gIconst X w at_49 (z := (1 : Int32)) rfl (n := 50) rfl ?_
        refine gGoto X w at_50 (by decide) (n := 54) rfl ?_
        exact gRetZ X w rfl (Or.inr rfl) at_54 (by decide) (by decide) (rfl)
  · rcases b1 with q6 | q6 | q6 | q6
    · skip
      obtain ⟨S_sBOOLEAN, E_sBOOLEAN, S_sINTEGER_OR_SYMBOLIC, E_sINTEGER_OR_SYMBOLIC, S_sSYMBOLIC, E_sSYMBOLIC, S_sINTEGER, E_sINTEGER, L_sBOOLEAN_ordinal, L_sINTEGER_OR_SYMBOLIC_ordinal, L_sSYMBOLIC_ordinal, L_sINTEGER_ordinal⟩ := id G
      have ne_sBOOLEAN_sINTEGER_OR_SYMBOLIC : sBOOLEAN ≠ sINTEGER_OR_SYMBOLIC := L_sBOOLEAN_ordinal.ne L_sINTEGER_OR_SYMBOLIC_ordinal (by decide)
      have ne_sBOOLEAN_sSYMBOLIC : sBOOLEAN ≠ sSYMBOLIC := L_sBOOLEAN_ordinal.ne L_sSYMBOLIC_ordinal (by decide)
      have ne_sBOOLEAN_sINTEGER : sBOOLEAN ≠ sINTEGER := L_sBOOLEAN_ordinal.ne L_sINTEGER_ordinal (by decide)
      have ne_sINTEGER_OR_SYMBOLIC_sSYMBOLIC : sINTEGER_OR_SYMBOLIC ≠ sSYMBOLIC := L_sINTEGER_OR_SYMBOLIC_ordinal.ne L_sSYMBOLIC_ordinal (by decide)
      have ne_sINTEGER_OR_SYMBOLIC_sINTEGER : sINTEGER_OR_SYMBOLIC ≠ sINTEGER := L_sINTEGER_OR_SYMBOLIC_ordinal.ne L_sINTEGER_ordinal (by decide)
      have ne_sSYMBOLIC_sINTEGER : sSYMBOLIC ≠ sINTEGER := L_sSYMBOLIC_ordinal.ne L_sINTEGER_ordinal (by decide)
      refine gIloadN X w at_0 rfl (n := 1) rfl ?_
      refine gIconst X w at_1 (z := (3 : Int32)) rfl (n := 2) rfl ?_
      refine gIand X w at_2 q2 (n := 3) rfl ?_
      refine gIstoreN X w at_3 #[.val (.int p1), .val (.int p2), .val (.int (3 : Int32)), .unset, .unset, .unset, .unset, .unset] rfl (n := 4) rfl ?_
      refine gIloadN X w at_4 rfl (n := 5) rfl ?_
      refine gIconst X w at_5 (z := (3 : Int32)) rfl (n := 6) rfl ?_
      refine gIand X w at_6 q6 (n := 7) rfl ?_
      refine gIstoreN X w at_7 #[.val (.int p1), .val (.int p2), .val (.int (3 : Int32)), .val (.int (0 : Int32)), .unset, .unset, .unset, .unset] rfl (n := 8) rfl ?_
      refine gIloadN X w at_8 rfl (n := 9) rfl ?_
      refine gCallSv X w [(.int (3 : Int32))] [] (own_kind_3 l Z a0 hw sBOOLEAN sINTEGER_OR_SYMBOLIC sSYMBOLIC sINTEGER h0 n0 hn G) (own_wd hw 0 rfl) (own_wd hw 1 rfl) (own_wd hw 2 rfl) (own_wd hw 3 rfl) (by decide) own_pd0 rfl rfl at_9 rfl (W := 0) (Nat.le_of_eq rfl) (by decide) (by decide) (by decide) (by decide) (n := 12) rfl ?_
      rintro T _ _ ⟨rfl, rfl⟩ X
      refine gAstore X w at_12 rfl #[.val (.int p1), .val (.int p2), .val (.int (3 : Int32)), .val (.int (0 : Int32)), .val (.ref sINTEGER_OR_SYMBOLIC), .unset, .unset, .unset] rfl (n := 14) rfl ?_
      refine gIloadN X w at_14 rfl (n := 15) rfl ?_
      refine gCallSv X w [(.int (0 : Int32))] [] (own_kind_0 l Z a0 hw sBOOLEAN sINTEGER_OR_SYMBOLIC sSYMBOLIC sINTEGER h0 n0 hn G) (own_wd hw 0 rfl) (own_wd hw 1 rfl) (own_wd hw 2 rfl) (own_wd hw 3 rfl) (by decide) own_pd0 rfl rfl at_15 rfl (W := 0) (Nat.le_of_eq rfl) (by decide) (by decide) (by decide) (by decide) (n := 18) rfl ?_
      rintro T _ _ ⟨rfl, rfl⟩ X
      refine gAstore X w at_18 rfl #[.val (.int p1), .val (.int p2), .val (.int (3 : Int32)), .val (.int (0 : Int32)), .val (.ref sINTEGER_OR_SYMBOLIC), .val (.ref sBOOLEAN), .unset, .unset] rfl (n := 20) rfl ?_
      refine gIloadN X w at_20 rfl (n := 21) rfl ?_
      refine gCallSv X w [(.int (3 : Int32))] [] (own_bits_3 l Z a0 hw sBOOLEAN sINTEGER_OR_SYMBOLIC sSYMBOLIC sINTEGER h0 n0 hn G) (own_wd hw 9 rfl) (own_wd hw 10 rfl) (own_wd hw 2 rfl) (own_wd hw 11 rfl) (by decide) own_pd1 rfl rfl at_21 rfl (W := 0) (Nat.le_of_eq rfl) (by decide) (by decide) (by decide) (by decide) (n := 24) rfl ?_
      rintro T _ _ ⟨rfl, rfl⟩ X
      refine gIloadN X w at_24 rfl (n := 25) rfl ?_
      refine gCallSv X w [(.int (0 : Int32))] [(.int (3 : Int32))] (own_bits_0 l Z a0 hw sBOOLEAN sINTEGER_OR_SYMBOLIC sSYMBOLIC sINTEGER h0 n0 hn G) (own_wd hw 9 rfl) (own_wd hw 10 rfl) (own_wd hw 2 rfl) (own_wd hw 11 rfl) (by decide) own_pd1 rfl rfl at_25 rfl (W := 1) (Nat.le_of_eq rfl) (by decide) (by decide) (by decide) (by decide) (n := 28) rfl ?_
      rintro T _ _ ⟨rfl, rfl⟩ X
      refine gCallSv X w [(.int (3 : Int32)), (.int (4 : Int32))] [] (own_exp_34 l Z a0 hw sBOOLEAN sINTEGER_OR_SYMBOLIC sSYMBOLIC sINTEGER h0 n0 hn G) (own_wd hw 12 rfl) (own_wd hw 13 rfl) (own_wd hw 2 rfl) (own_wd hw 14 rfl) (by decide) own_pd2 rfl rfl at_28 rfl (W := 0) (Nat.le_of_eq rfl) (by decide) (by decide) (by decide) (by decide) (n := 31) rfl ?_
      rintro T _ _ ⟨rfl, rfl⟩ X
      refine gAstore X w at_31 rfl #[.val (.int p1), .val (.int p2), .val (.int (3 : Int32)), .val (.int (0 : Int32)), .val (.ref sINTEGER_OR_SYMBOLIC), .val (.ref sBOOLEAN), .val .null, .unset] rfl (n := 33) rfl ?_
      refine gAload X w at_33 rfl rfl (n := 35) rfl ?_
      refine gAload X w at_35 rfl rfl (n := 37) rfl ?_
      refine gCallVv X w [(.ref sBOOLEAN)] [] E_sINTEGER_OR_SYMBOLIC (own_join_30 l Z a0 hw sBOOLEAN sINTEGER_OR_SYMBOLIC sSYMBOLIC sINTEGER h0 n0 hn G) (own_wd hw 15 rfl) (own_wd hw 16 rfl) (notFace_of_selects (args := #[]) (mvT w.2.2.1 (own_wd hw 18 rfl))) (own_wd hw 18 rfl) (own_wd hw 17 rfl) (own_wd hw 5 rfl) (own_wd hw 19 rfl) (by decide) own_pd3 rfl rfl at_37 rfl (W := 0) (Nat.le_of_eq rfl) (by decide) (by decide) (by decide) (by decide) (n := 40) rfl ?_
      rintro T _ _ ⟨rfl, rfl⟩ X
      refine gAstore X w at_40 rfl #[.val (.int p1), .val (.int p2), .val (.int (3 : Int32)), .val (.int (0 : Int32)), .val (.ref sINTEGER_OR_SYMBOLIC), .val (.ref sBOOLEAN), .val .null, .val .null] rfl (n := 42) rfl ?_
      refine gAload X w at_42 rfl rfl (n := 44) rfl ?_
      refine gAload X w at_44 rfl rfl (n := 46) rfl ?_
      refine gAcmp_ne X w at_46 rfl rfl (n := 53) (n' := 49) (by decide) rfl rfl ?_ ?_
      · intro c46
        exact absurd rfl c46
      · intro c46
        refine gIconst X w at_49 (z := (1 : Int32)) rfl (n := 50) rfl ?_
        refine gGoto X w at_50 (by decide) (n := 54) rfl ?_
        exact gRetZ X w rfl (Or.inr rfl) at_54 (by decide) (by decide) (rfl)
    · skip
      obtain ⟨S_sBOOLEAN, E_sBOOLEAN, S_sINTEGER_OR_SYMBOLIC, E_sINTEGER_OR_SYMBOLIC, S_sSYMBOLIC, E_sSYMBOLIC, S_sINTEGER, E_sINTEGER, L_sBOOLEAN_ordinal, L_sINTEGER_OR_SYMBOLIC_ordinal, L_sSYMBOLIC_ordinal, L_sINTEGER_ordinal⟩ := id G
      have ne_sBOOLEAN_sINTEGER_OR_SYMBOLIC : sBOOLEAN ≠ sINTEGER_OR_SYMBOLIC := L_sBOOLEAN_ordinal.ne L_sINTEGER_OR_SYMBOLIC_ordinal (by decide)
      have ne_sBOOLEAN_sSYMBOLIC : sBOOLEAN ≠ sSYMBOLIC := L_sBOOLEAN_ordinal.ne L_sSYMBOLIC_ordinal (by decide)
      have ne_sBOOLEAN_sINTEGER : sBOOLEAN ≠ sINTEGER := L_sBOOLEAN_ordinal.ne L_sINTEGER_ordinal (by decide)
      have ne_sINTEGER_OR_SYMBOLIC_sSYMBOLIC : sINTEGER_OR_SYMBOLIC ≠ sSYMBOLIC := L_sINTEGER_OR_SYMBOLIC_ordinal.ne L_sSYMBOLIC_ordinal (by decide)
      have ne_sINTEGER_OR_SYMBOLIC_sINTEGER : sINTEGER_OR_SYMBOLIC ≠ sINTEGER := L_sINTEGER_OR_SYMBOLIC_ordinal.ne L_sINTEGER_ordinal (by decide)
      have ne_sSYMBOLIC_sINTEGER : sSYMBOLIC ≠ sINTEGER := L_sSYMBOLIC_ordinal.ne L_sINTEGER_ordinal (by decide)
      refine gIloadN X w at_0 rfl (n := 1) rfl ?_
      refine gIconst X w at_1 (z := (3 : Int32)) rfl (n := 2) rfl ?_
      refine gIand X w at_2 q2 (n := 3) rfl ?_
      refine gIstoreN X w at_3 #[.val (.int p1), .val (.int p2), .val (.int (3 : Int32)), .unset, .unset, .unset, .unset, .unset] rfl (n := 4) rfl ?_
      refine gIloadN X w at_4 rfl (n := 5) rfl ?_
      refine gIconst X w at_5 (z := (3 : Int32)) rfl (n := 6) rfl ?_
      refine gIand X w at_6 q6 (n := 7) rfl ?_
      refine gIstoreN X w at_7 #[.val (.int p1), .val (.int p2), .val (.int (3 : Int32)), .val (.int (1 : Int32)), .unset, .unset, .unset, .unset] rfl (n := 8) rfl ?_
      refine gIloadN X w at_8 rfl (n := 9) rfl ?_
      refine gCallSv X w [(.int (3 : Int32))] [] (own_kind_3 l Z a0 hw sBOOLEAN sINTEGER_OR_SYMBOLIC sSYMBOLIC sINTEGER h0 n0 hn G) (own_wd hw 0 rfl) (own_wd hw 1 rfl) (own_wd hw 2 rfl) (own_wd hw 3 rfl) (by decide) own_pd0 rfl rfl at_9 rfl (W := 0) (Nat.le_of_eq rfl) (by decide) (by decide) (by decide) (by decide) (n := 12) rfl ?_
      rintro T _ _ ⟨rfl, rfl⟩ X
      refine gAstore X w at_12 rfl #[.val (.int p1), .val (.int p2), .val (.int (3 : Int32)), .val (.int (1 : Int32)), .val (.ref sINTEGER_OR_SYMBOLIC), .unset, .unset, .unset] rfl (n := 14) rfl ?_
      refine gIloadN X w at_14 rfl (n := 15) rfl ?_
      refine gCallSv X w [(.int (1 : Int32))] [] (own_kind_1 l Z a0 hw sBOOLEAN sINTEGER_OR_SYMBOLIC sSYMBOLIC sINTEGER h0 n0 hn G) (own_wd hw 0 rfl) (own_wd hw 1 rfl) (own_wd hw 2 rfl) (own_wd hw 3 rfl) (by decide) own_pd0 rfl rfl at_15 rfl (W := 0) (Nat.le_of_eq rfl) (by decide) (by decide) (by decide) (by decide) (n := 18) rfl ?_
      rintro T _ _ ⟨rfl, rfl⟩ X
      refine gAstore X w at_18 rfl #[.val (.int p1), .val (.int p2), .val (.int (3 : Int32)), .val (.int (1 : Int32)), .val (.ref sINTEGER_OR_SYMBOLIC), .val (.ref sINTEGER), .unset, .unset] rfl (n := 20) rfl ?_
      refine gIloadN X w at_20 rfl (n := 21) rfl ?_
      refine gCallSv X w [(.int (3 : Int32))] [] (own_bits_3 l Z a0 hw sBOOLEAN sINTEGER_OR_SYMBOLIC sSYMBOLIC sINTEGER h0 n0 hn G) (own_wd hw 9 rfl) (own_wd hw 10 rfl) (own_wd hw 2 rfl) (own_wd hw 11 rfl) (by decide) own_pd1 rfl rfl at_21 rfl (W := 0) (Nat.le_of_eq rfl) (by decide) (by decide) (by decide) (by decide) (n := 24) rfl ?_
      rintro T _ _ ⟨rfl, rfl⟩ X
      refine gIloadN X w at_24 rfl (n := 25) rfl ?_
      refine gCallSv X w [(.int (1 : Int32))] [(.int (3 : Int32))] (own_bits_1 l Z a0 hw sBOOLEAN sINTEGER_OR_SYMBOLIC sSYMBOLIC sINTEGER h0 n0 hn G) (own_wd hw 9 rfl) (own_wd hw 10 rfl) (own_wd hw 2 rfl) (own_wd hw 11 rfl) (by decide) own_pd1 rfl rfl at_25 rfl (W := 1) (Nat.le_of_eq rfl) (by decide) (by decide) (by decide) (by decide) (n := 28) rfl ?_
      rintro T _ _ ⟨rfl, rfl⟩ X
      refine gCallSv X w [(.int (3 : Int32)), (.int (1 : Int32))] [] (own_exp_31 l Z a0 hw sBOOLEAN sINTEGER_OR_SYMBOLIC sSYMBOLIC sINTEGER h0 n0 hn G) (own_wd hw 12 rfl) (own_wd hw 13 rfl) (own_wd hw 2 rfl) (own_wd hw 14 rfl) (by decide) own_pd2 rfl rfl at_28 rfl (W := 0) (Nat.le_of_eq rfl) (by decide) (by decide) (by decide) (by decide) (n := 31) rfl ?_
      rintro T _ _ ⟨rfl, rfl⟩ X
      refine gAstore X w at_31 rfl #[.val (.int p1), .val (.int p2), .val (.int (3 : Int32)), .val (.int (1 : Int32)), .val (.ref sINTEGER_OR_SYMBOLIC), .val (.ref sINTEGER), .val (.ref sINTEGER_OR_SYMBOLIC), .unset] rfl (n := 33) rfl ?_
      refine gAload X w at_33 rfl rfl (n := 35) rfl ?_
      refine gAload X w at_35 rfl rfl (n := 37) rfl ?_
      refine gCallVv X w [(.ref sINTEGER)] [] E_sINTEGER_OR_SYMBOLIC (own_join_31 l Z a0 hw sBOOLEAN sINTEGER_OR_SYMBOLIC sSYMBOLIC sINTEGER h0 n0 hn G) (own_wd hw 15 rfl) (own_wd hw 16 rfl) (notFace_of_selects (args := #[]) (mvT w.2.2.1 (own_wd hw 18 rfl))) (own_wd hw 18 rfl) (own_wd hw 17 rfl) (own_wd hw 5 rfl) (own_wd hw 19 rfl) (by decide) own_pd3 rfl rfl at_37 rfl (W := 0) (Nat.le_of_eq rfl) (by decide) (by decide) (by decide) (by decide) (n := 40) rfl ?_
      rintro T _ _ ⟨rfl, rfl⟩ X
      refine gAstore X w at_40 rfl #[.val (.int p1), .val (.int p2), .val (.int (3 : Int32)), .val (.int (1 : Int32)), .val (.ref sINTEGER_OR_SYMBOLIC), .val (.ref sINTEGER), .val (.ref sINTEGER_OR_SYMBOLIC), .val (.ref sINTEGER_OR_SYMBOLIC)] rfl (n := 42) rfl ?_
      refine gAload X w at_42 rfl rfl (n := 44) rfl ?_
      refine gAload X w at_44 rfl rfl (n := 46) rfl ?_
      refine gAcmp_ne X w at_46 rfl rfl (n := 53) (n' := 49) (by decide) rfl rfl ?_ ?_
      · intro c46
        exact absurd rfl c46
      · intro c46
        refine gIconst X w at_49 (z := (1 : Int32)) rfl (n := 50) rfl ?_
        refine gGoto X w at_50 (by decide) (n := 54) rfl ?_
        exact gRetZ X w rfl (Or.inr rfl) at_54 (by decide) (by decide) (rfl)
    · skip
      obtain ⟨S_sBOOLEAN, E_sBOOLEAN, S_sINTEGER_OR_SYMBOLIC, E_sINTEGER_OR_SYMBOLIC, S_sSYMBOLIC, E_sSYMBOLIC, S_sINTEGER, E_sINTEGER, L_sBOOLEAN_ordinal, L_sINTEGER_OR_SYMBOLIC_ordinal, L_sSYMBOLIC_ordinal, L_sINTEGER_ordinal⟩ := id G
      have ne_sBOOLEAN_sINTEGER_OR_SYMBOLIC : sBOOLEAN ≠ sINTEGER_OR_SYMBOLIC := L_sBOOLEAN_ordinal.ne L_sINTEGER_OR_SYMBOLIC_ordinal (by decide)
      have ne_sBOOLEAN_sSYMBOLIC : sBOOLEAN ≠ sSYMBOLIC := L_sBOOLEAN_ordinal.ne L_sSYMBOLIC_ordinal (by decide)
      have ne_sBOOLEAN_sINTEGER : sBOOLEAN ≠ sINTEGER := L_sBOOLEAN_ordinal.ne L_sINTEGER_ordinal (by decide)
      have ne_sINTEGER_OR_SYMBOLIC_sSYMBOLIC : sINTEGER_OR_SYMBOLIC ≠ sSYMBOLIC := L_sINTEGER_OR_SYMBOLIC_ordinal.ne L_sSYMBOLIC_ordinal (by decide)
      have ne_sINTEGER_OR_SYMBOLIC_sINTEGER : sINTEGER_OR_SYMBOLIC ≠ sINTEGER := L_sINTEGER_OR_SYMBOLIC_ordinal.ne L_sINTEGER_ordinal (by decide)
      have ne_sSYMBOLIC_sINTEGER : sSYMBOLIC ≠ sINTEGER := L_sSYMBOLIC_ordinal.ne L_sINTEGER_ordinal (by decide)
      refine gIloadN X w at_0 rfl (n := 1) rfl ?_
      refine gIconst X w at_1 (z := (3 : Int32)) rfl (n := 2) rfl ?_
      refine gIand X w at_2 q2 (n := 3) rfl ?_
      refine gIstoreN X w at_3 #[.val (.int p1), .val (.int p2), .val (.int (3 : Int32)), .unset, .unset, .unset, .unset, .unset] rfl (n := 4) rfl ?_
      refine gIloadN X w at_4 rfl (n := 5) rfl ?_
      refine gIconst X w at_5 (z := (3 : Int32)) rfl (n := 6) rfl ?_
      refine gIand X w at_6 q6 (n := 7) rfl ?_
      refine gIstoreN X w at_7 #[.val (.int p1), .val (.int p2), .val (.int (3 : Int32)), .val (.int (2 : Int32)), .unset, .unset, .unset, .unset] rfl (n := 8) rfl ?_
      refine gIloadN X w at_8 rfl (n := 9) rfl ?_
      refine gCallSv X w [(.int (3 : Int32))] [] (own_kind_3 l Z a0 hw sBOOLEAN sINTEGER_OR_SYMBOLIC sSYMBOLIC sINTEGER h0 n0 hn G) (own_wd hw 0 rfl) (own_wd hw 1 rfl) (own_wd hw 2 rfl) (own_wd hw 3 rfl) (by decide) own_pd0 rfl rfl at_9 rfl (W := 0) (Nat.le_of_eq rfl) (by decide) (by decide) (by decide) (by decide) (n := 12) rfl ?_
      rintro T _ _ ⟨rfl, rfl⟩ X
      refine gAstore X w at_12 rfl #[.val (.int p1), .val (.int p2), .val (.int (3 : Int32)), .val (.int (2 : Int32)), .val (.ref sINTEGER_OR_SYMBOLIC), .unset, .unset, .unset] rfl (n := 14) rfl ?_
      refine gIloadN X w at_14 rfl (n := 15) rfl ?_
      refine gCallSv X w [(.int (2 : Int32))] [] (own_kind_2 l Z a0 hw sBOOLEAN sINTEGER_OR_SYMBOLIC sSYMBOLIC sINTEGER h0 n0 hn G) (own_wd hw 0 rfl) (own_wd hw 1 rfl) (own_wd hw 2 rfl) (own_wd hw 3 rfl) (by decide) own_pd0 rfl rfl at_15 rfl (W := 0) (Nat.le_of_eq rfl) (by decide) (by decide) (by decide) (by decide) (n := 18) rfl ?_
      rintro T _ _ ⟨rfl, rfl⟩ X
      refine gAstore X w at_18 rfl #[.val (.int p1), .val (.int p2), .val (.int (3 : Int32)), .val (.int (2 : Int32)), .val (.ref sINTEGER_OR_SYMBOLIC), .val (.ref sSYMBOLIC), .unset, .unset] rfl (n := 20) rfl ?_
      refine gIloadN X w at_20 rfl (n := 21) rfl ?_
      refine gCallSv X w [(.int (3 : Int32))] [] (own_bits_3 l Z a0 hw sBOOLEAN sINTEGER_OR_SYMBOLIC sSYMBOLIC sINTEGER h0 n0 hn G) (own_wd hw 9 rfl) (own_wd hw 10 rfl) (own_wd hw 2 rfl) (own_wd hw 11 rfl) (by decide) own_pd1 rfl rfl at_21 rfl (W := 0) (Nat.le_of_eq rfl) (by decide) (by decide) (by decide) (by decide) (n := 24) rfl ?_
      rintro T _ _ ⟨rfl, rfl⟩ X
      refine gIloadN X w at_24 rfl (n := 25) rfl ?_
      refine gCallSv X w [(.int (2 : Int32))] [(.int (3 : Int32))] (own_bits_2 l Z a0 hw sBOOLEAN sINTEGER_OR_SYMBOLIC sSYMBOLIC sINTEGER h0 n0 hn G) (own_wd hw 9 rfl) (own_wd hw 10 rfl) (own_wd hw 2 rfl) (own_wd hw 11 rfl) (by decide) own_pd1 rfl rfl at_25 rfl (W := 1) (Nat.le_of_eq rfl) (by decide) (by decide) (by decide) (by decide) (n := 28) rfl ?_
      rintro T _ _ ⟨rfl, rfl⟩ X
      refine gCallSv X w [(.int (3 : Int32)), (.int (2 : Int32))] [] (own_exp_32 l Z a0 hw sBOOLEAN sINTEGER_OR_SYMBOLIC sSYMBOLIC sINTEGER h0 n0 hn G) (own_wd hw 12 rfl) (own_wd hw 13 rfl) (own_wd hw 2 rfl) (own_wd hw 14 rfl) (by decide) own_pd2 rfl rfl at_28 rfl (W := 0) (Nat.le_of_eq rfl) (by decide) (by decide) (by decide) (by decide) (n := 31) rfl ?_
      rintro T _ _ ⟨rfl, rfl⟩ X
      refine gAstore X w at_31 rfl #[.val (.int p1), .val (.int p2), .val (.int (3 : Int32)), .val (.int (2 : Int32)), .val (.ref sINTEGER_OR_SYMBOLIC), .val (.ref sSYMBOLIC), .val (.ref sINTEGER_OR_SYMBOLIC), .unset] rfl (n := 33) rfl ?_
      refine gAload X w at_33 rfl rfl (n := 35) rfl ?_
      refine gAload X w at_35 rfl rfl (n := 37) rfl ?_
      refine gCallVv X w [(.ref sSYMBOLIC)] [] E_sINTEGER_OR_SYMBOLIC (own_join_32 l Z a0 hw sBOOLEAN sINTEGER_OR_SYMBOLIC sSYMBOLIC sINTEGER h0 n0 hn G) (own_wd hw 15 rfl) (own_wd hw 16 rfl) (notFace_of_selects (args := #[]) (mvT w.2.2.1 (own_wd hw 18 rfl))) (own_wd hw 18 rfl) (own_wd hw 17 rfl) (own_wd hw 5 rfl) (own_wd hw 19 rfl) (by decide) own_pd3 rfl rfl at_37 rfl (W := 0) (Nat.le_of_eq rfl) (by decide) (by decide) (by decide) (by decide) (n := 40) rfl ?_
      rintro T _ _ ⟨rfl, rfl⟩ X
      refine gAstore X w at_40 rfl #[.val (.int p1), .val (.int p2), .val (.int (3 : Int32)), .val (.int (2 : Int32)), .val (.ref sINTEGER_OR_SYMBOLIC), .val (.ref sSYMBOLIC), .val (.ref sINTEGER_OR_SYMBOLIC), .val (.ref sINTEGER_OR_SYMBOLIC)] rfl (n := 42) rfl ?_
      refine gAload X w at_42 rfl rfl (n := 44) rfl ?_
      refine gAload X w at_44 rfl rfl (n := 46) rfl ?_
      refine gAcmp_ne X w at_46 rfl rfl (n := 53) (n' := 49) (by decide) rfl rfl ?_ ?_
      · intro c46
        exact absurd rfl c46
      · intro c46
        refine gIconst X w at_49 (z := (1 : Int32)) rfl (n := 50) rfl ?_
        refine gGoto X w at_50 (by decide) (n := 54) rfl ?_
        exact gRetZ X w rfl (Or.inr rfl) at_54 (by decide) (by decide) (rfl)
    · skip
      obtain ⟨S_sBOOLEAN, E_sBOOLEAN, S_sINTEGER_OR_SYMBOLIC, E_sINTEGER_OR_SYMBOLIC, S_sSYMBOLIC, E_sSYMBOLIC, S_sINTEGER, E_sINTEGER, L_sBOOLEAN_ordinal, L_sINTEGER_OR_SYMBOLIC_ordinal, L_sSYMBOLIC_ordinal, L_sINTEGER_ordinal⟩ := id G
      have ne_sBOOLEAN_sINTEGER_OR_SYMBOLIC : sBOOLEAN ≠ sINTEGER_OR_SYMBOLIC := L_sBOOLEAN_ordinal.ne L_sINTEGER_OR_SYMBOLIC_ordinal (by decide)
      have ne_sBOOLEAN_sSYMBOLIC : sBOOLEAN ≠ sSYMBOLIC := L_sBOOLEAN_ordinal.ne L_sSYMBOLIC_ordinal (by decide)
      have ne_sBOOLEAN_sINTEGER : sBOOLEAN ≠ sINTEGER := L_sBOOLEAN_ordinal.ne L_sINTEGER_ordinal (by decide)
      have ne_sINTEGER_OR_SYMBOLIC_sSYMBOLIC : sINTEGER_OR_SYMBOLIC ≠ sSYMBOLIC := L_sINTEGER_OR_SYMBOLIC_ordinal.ne L_sSYMBOLIC_ordinal (by decide)
      have ne_sINTEGER_OR_SYMBOLIC_sINTEGER : sINTEGER_OR_SYMBOLIC ≠ sINTEGER := L_sINTEGER_OR_SYMBOLIC_ordinal.ne L_sINTEGER_ordinal (by decide)
      have ne_sSYMBOLIC_sINTEGER : sSYMBOLIC ≠ sINTEGER := L_sSYMBOLIC_ordinal.ne L_sINTEGER_ordinal (by decide)
      refine gIloadN X w at_0 rfl (n := 1) rfl ?_
      refine gIconst X w at_1 (z := (3 : Int32)) rfl (n := 2) rfl ?_
      refine gIand X w at_2 q2 (n := 3) rfl ?_
      refine gIstoreN X w at_3 #[.val (.int p1), .val (.int p2), .val (.int (3 : Int32)), .unset, .unset, .unset, .unset, .unset] rfl (n := 4) rfl ?_
      refine gIloadN X w at_4 rfl (n := 5) rfl ?_
      refine gIconst X w at_5 (z := (3 : Int32)) rfl (n := 6) rfl ?_
      refine gIand X w at_6 q6 (n := 7) rfl ?_
      refine gIstoreN X w at_7 #[.val (.int p1), .val (.int p2), .val (.int (3 : Int32)), .val (.int (3 : Int32)), .unset, .unset, .unset, .unset] rfl (n := 8) rfl ?_
      refine gIloadN X w at_8 rfl (n := 9) rfl ?_
      refine gCallSv X w [(.int (3 : Int32))] [] (own_kind_3 l Z a0 hw sBOOLEAN sINTEGER_OR_SYMBOLIC sSYMBOLIC sINTEGER h0 n0 hn G) (own_wd hw 0 rfl) (own_wd hw 1 rfl) (own_wd hw 2 rfl) (own_wd hw 3 rfl) (by decide) own_pd0 rfl rfl at_9 rfl (W := 0) (Nat.le_of_eq rfl) (by decide) (by decide) (by decide) (by decide) (n := 12) rfl ?_
      rintro T _ _ ⟨rfl, rfl⟩ X
      refine gAstore X w at_12 rfl #[.val (.int p1), .val (.int p2), .val (.int (3 : Int32)), .val (.int (3 : Int32)), .val (.ref sINTEGER_OR_SYMBOLIC), .unset, .unset, .unset] rfl (n := 14) rfl ?_
      refine gIloadN X w at_14 rfl (n := 15) rfl ?_
      refine gCallSv X w [(.int (3 : Int32))] [] (own_kind_3 l Z a0 hw sBOOLEAN sINTEGER_OR_SYMBOLIC sSYMBOLIC sINTEGER h0 n0 hn G) (own_wd hw 0 rfl) (own_wd hw 1 rfl) (own_wd hw 2 rfl) (own_wd hw 3 rfl) (by decide) own_pd0 rfl rfl at_15 rfl (W := 0) (Nat.le_of_eq rfl) (by decide) (by decide) (by decide) (by decide) (n := 18) rfl ?_
      rintro T _ _ ⟨rfl, rfl⟩ X
      refine gAstore X w at_18 rfl #[.val (.int p1), .val (.int p2), .val (.int (3 : Int32)), .val (.int (3 : Int32)), .val (.ref sINTEGER_OR_SYMBOLIC), .val (.ref sINTEGER_OR_SYMBOLIC), .unset, .unset] rfl (n := 20) rfl ?_
      refine gIloadN X w at_20 rfl (n := 21) rfl ?_
      refine gCallSv X w [(.int (3 : Int32))] [] (own_bits_3 l Z a0 hw sBOOLEAN sINTEGER_OR_SYMBOLIC sSYMBOLIC sINTEGER h0 n0 hn G) (own_wd hw 9 rfl) (own_wd hw 10 rfl) (own_wd hw 2 rfl) (own_wd hw 11 rfl) (by decide) own_pd1 rfl rfl at_21 rfl (W := 0) (Nat.le_of_eq rfl) (by decide) (by decide) (by decide) (by decide) (n := 24) rfl ?_
      rintro T _ _ ⟨rfl, rfl⟩ X
      refine gIloadN X w at_24 rfl (n := 25) rfl ?_
      refine gCallSv X w [(.int (3 : Int32))] [(.int (3 : Int32))] (own_bits_3 l Z a0 hw sBOOLEAN sINTEGER_OR_SYMBOLIC sSYMBOLIC sINTEGER h0 n0 hn G) (own_wd hw 9 rfl) (own_wd hw 10 rfl) (own_wd hw 2 rfl) (own_wd hw 11 rfl) (by decide) own_pd1 rfl rfl at_25 rfl (W := 1) (Nat.le_of_eq rfl) (by decide) (by decide) (by decide) (by decide) (n := 28) rfl ?_
      rintro T _ _ ⟨rfl, rfl⟩ X
      refine gCallSv X w [(.int (3 : Int32)), (.int (3 : Int32))] [] (own_exp_33 l Z a0 hw sBOOLEAN sINTEGER_OR_SYMBOLIC sSYMBOLIC sINTEGER h0 n0 hn G) (own_wd hw 12 rfl) (own_wd hw 13 rfl) (own_wd hw 2 rfl) (own_wd hw 14 rfl) (by decide) own_pd2 rfl rfl at_28 rfl (W := 0) (Nat.le_of_eq rfl) (by decide) (by decide) (by decide) (by decide) (n := 31) rfl ?_
      rintro T _ _ ⟨rfl, rfl⟩ X
      refine gAstore X w at_31 rfl #[.val (.int p1), .val (.int p2), .val (.int (3 : Int32)), .val (.int (3 : Int32)), .val (.ref sINTEGER_OR_SYMBOLIC), .val (.ref sINTEGER_OR_SYMBOLIC), .val (.ref sINTEGER_OR_SYMBOLIC), .unset] rfl (n := 33) rfl ?_
      refine gAload X w at_33 rfl rfl (n := 35) rfl ?_
      refine gAload X w at_35 rfl rfl (n := 37) rfl ?_
      refine gCallVv X w [(.ref sINTEGER_OR_SYMBOLIC)] [] E_sINTEGER_OR_SYMBOLIC (own_join_33 l Z a0 hw sBOOLEAN sINTEGER_OR_SYMBOLIC sSYMBOLIC sINTEGER h0 n0 hn G) (own_wd hw 15 rfl) (own_wd hw 16 rfl) (notFace_of_selects (args := #[]) (mvT w.2.2.1 (own_wd hw 18 rfl))) (own_wd hw 18 rfl) (own_wd hw 17 rfl) (own_wd hw 5 rfl) (own_wd hw 19 rfl) (by decide) own_pd3 rfl rfl at_37 rfl (W := 0) (Nat.le_of_eq rfl) (by decide) (by decide) (by decide) (by decide) (n := 40) rfl ?_
      rintro T _ _ ⟨rfl, rfl⟩ X
      refine gAstore X w at_40 rfl #[.val (.int p1), .val (.int p2), .val (.int (3 : Int32)), .val (.int (3 : Int32)), .val (.ref sINTEGER_OR_SYMBOLIC), .val (.ref sINTEGER_OR_SYMBOLIC), .val (.ref sINTEGER_OR_SYMBOLIC), .val (.ref sINTEGER_OR_SYMBOLIC)] rfl (n := 42) rfl ?_
      refine gAload X w at_42 rfl rfl (n := 44) rfl ?_
      refine gAload X w at_44 rfl rfl (n := 46) rfl ?_
      refine gAcmp_ne X w at_46 rfl rfl (n := 53) (n' := 49) (by decide) rfl rfl ?_ ?_
      · intro c46
        exact absurd rfl c46
      · intro c46
        refine gIconst X w at_49 (z := (1 : Int32)) rfl (n := 50) rfl ?_
        refine gGoto X w at_50 (by decide) (n := 54) rfl ?_
        exact gRetZ X w rfl (Or.inr rfl) at_54 (by decide) (by decide) (rfl)
set_option maxRecDepth 65536 in
set_option maxHeartbeats 40000000 in
theorem comes_1 {Post : Tables → Env → Array Value → State → Outcome → State → Prop} (hpost : ∀ tb e args s v u, (limb_1_1.after args s (.returned v) u = true ∧ limb_1_2.after args s (.returned v) u = true ∧ True) → FrameEnd s (.returned v) u (Jvm.fieldLocs frame_1_writes args s ++ Jvm.arrayLocs frame_1_arrays args s ++ Jvm.staticLocs frame_1_statics s) 0 0 → Post tb e args s (.returned v) u) :
    ArmFor flags0 classFile x code maxLocals ret World_1 tables_1 room_1 Calls_1 rest_1 Pre_1 Post := by
  intro l hfl _ _ p e ha hc hk s m args below hf hA hF happ hP
  obtain ⟨hcalls, hrest, hpre⟩ := hP
  obtain ⟨-, -, -, hnamed, -, -, -, hat⟩ := (Spec.applies_iff hf).mp happ
  obtain ⟨hg, hn⟩ := and_e (Cond.before_iff.mp (show (Jvm.Cond.and given_1 narrow_1).before args s = true from hpre))
  obtain ⟨hcnt, g0⟩ := and_e hg
  obtain ⟨w0, w1, rfl⟩ : ∃ w0 w1 : Value, args = #[w0, w1] := by
    have hs : args.size = 2 := by simpa [Cond.value, given_1] using hcnt
    obtain ⟨L⟩ := args
    match L, hs with
    | [w0, w1], _ => exact ⟨w0, w1, rfl⟩
  have hw := fun d (hd : d ∈ tables_1) => atoms_spec (ws := Jvm.Cond.code x code maxLocals ret :: tables_1) hat d (List.mem_cons_of_mem _ hd)
  have hfit : Fit s := fun {y c} hc i hi => by
    obtain ⟨ha, rfl⟩ := Array.getElem?_eq_some_iff.mp hc
    have q := List.all_eq_true.mp ((Array.all_eq_true_iff_forall_mem.mp hF) _ (Array.getElem_mem ha)) i (List.mem_range.mpr hi)
    simpa [Array.getElem?_eq_getElem hi] using q
  obtain ⟨k0, g1⟩ := and_e g0
  obtain ⟨i0, e0⟩ := is_v k0
  obtain rfl : w0 = (.int i0) := Option.some.inj e0
  obtain ⟨i1, e1⟩ := is_v g1
  obtain rfl : w1 = (.int i1) := Option.some.inj e1
  obtain ⟨c0, r0⟩ := and_e hn
  obtain ⟨c1, r1⟩ := and_e r0
  obtain ⟨c2, r2⟩ := and_e r1
  obtain ⟨c3, r3⟩ := and_e r2
  obtain ⟨c4, r4⟩ := and_e r3
  obtain ⟨c5, r5⟩ := and_e r4
  obtain ⟨c6, r6⟩ := and_e r5
  have c7 := r6
  obtain ⟨sBOOLEAN, v_sBOOLEAN⟩ := exa_v c0
  have E_sBOOLEAN := Exa.start v_sBOOLEAN c0
  have S_sBOOLEAN := Sta.start v_sBOOLEAN (Or.inr ⟨(own_wd hw 5 rfl), (own_wd hw 6 rfl)⟩)
  obtain ⟨sINTEGER_OR_SYMBOLIC, v_sINTEGER_OR_SYMBOLIC⟩ := exa_v c1
  have E_sINTEGER_OR_SYMBOLIC := Exa.start v_sINTEGER_OR_SYMBOLIC c1
  have S_sINTEGER_OR_SYMBOLIC := Sta.start v_sINTEGER_OR_SYMBOLIC (Or.inr ⟨(own_wd hw 5 rfl), (own_wd hw 8 rfl)⟩)
  obtain ⟨sSYMBOLIC, v_sSYMBOLIC⟩ := exa_v c4
  have E_sSYMBOLIC := Exa.start v_sSYMBOLIC c4
  have S_sSYMBOLIC := Sta.start v_sSYMBOLIC (Or.inr ⟨(own_wd hw 5 rfl), (own_wd hw 22 rfl)⟩)
  obtain ⟨sINTEGER, v_sINTEGER⟩ := exa_v c5
  have E_sINTEGER := Exa.start v_sINTEGER c5
  have S_sINTEGER := Sta.start v_sINTEGER (Or.inr ⟨(own_wd hw 5 rfl), (own_wd hw 24 rfl)⟩)
  have L_sBOOLEAN_ordinal := Fld.start ((fld_at v_sBOOLEAN).symm.trans (eqI rfl c2))
  have L_sINTEGER_OR_SYMBOLIC_ordinal := Fld.start ((fld_at v_sINTEGER_OR_SYMBOLIC).symm.trans (eqI rfl c3))
  have L_sSYMBOLIC_ordinal := Fld.start ((fld_at v_sSYMBOLIC).symm.trans (eqI rfl c6))
  have L_sINTEGER_ordinal := Fld.start ((fld_at v_sINTEGER).symm.trans (eqI rfl c7))
  have G : own_env s s.heap sBOOLEAN sINTEGER_OR_SYMBOLIC sSYMBOLIC sINTEGER := ⟨S_sBOOLEAN, E_sBOOLEAN, S_sINTEGER_OR_SYMBOLIC, E_sINTEGER_OR_SYMBOLIC, S_sSYMBOLIC, E_sSYMBOLIC, S_sINTEGER, E_sINTEGER, L_sBOOLEAN_ordinal, L_sINTEGER_OR_SYMBOLIC_ordinal, L_sSYMBOLIC_ordinal, L_sINTEGER_ordinal⟩
  obtain ⟨n, o, h1, h2, h3, _, L, rfl, ⟨rfl, N⟩, hq⟩ := own_law l s _ hw i0 i1 sBOOLEAN sINTEGER_OR_SYMBOLIC sSYMBOLIC sINTEGER s.heap s.heap.size (Nat.le_refl _) G p e ha hc hk s m _ below hf ((Spec.applies_iff_loose hf).mp happ).1 ⟨rfl, State.Warmed39.refl s, rfl⟩ trivial
  refine ⟨n, _, h1, h2, h3, hpost _ _ _ _ _ _ ⟨Cond.after_iff.mpr rfl, Cond.after_iff.mpr (eq_i res_at (Term.int_eval (1)) rfl), trivial⟩ ⟨hq.1, hq.2.1, (hq.2.2.sift fun y hy => Or.inr (N y hy)).mono (by decide) (by decide)⟩⟩
theorem main_1_1 : Claimed_1_1 := comes_1 fun _ _ _ _ _ _ h hF => ⟨h.1, hF⟩
theorem main_1_2 : Claimed_1_2 := comes_1 fun _ _ _ _ _ _ h hF => ⟨h.2.1, hF⟩
end Jvm.Pilot.@@N@@
namespace Jvm.Pilot.@@N@@
open Jvm Jvm.ClassFile Sem Op Lib Jvm.Free Jvm.Stand Jvm.Pilot.@@N@@.Jvm.D
/-! MADE BY PROGRAM (witnessworld.py) out of the Statement's table words and the real class files: 12 classes; the members and pool entries that the words name. The judged class is class 1, her method 4. -/
namespace start1
open Jvm.ClassFile
def u (s : String) : CpInfo := .utf8 (stringToUtf16 s)
/-- a pool by its gaps: so many unusable entries, then the entry; so many at the end -/
def gap : Nat → List CpInfo → List CpInfo
  | 0, r => r
  | n + 1, r => .unusable :: gap n r
def poolList (es : List (Nat × CpInfo)) (last : Nat) : List CpInfo := es.foldr (fun e r => gap e.1 (e.2 :: r)) (gap last [])
def pool (es : List (Nat × CpInfo)) (last : Nat) : Array CpInfo := ⟨poolList es last⟩
def fileOf (pool : Array CpInfo) (this : Nat) (attrs : Array Attribute := #[]) (ms : Array MethodInfo := #[]) (fl : Nat := 33) (sup : Nat := 0) (ifs : Array Nat := #[]) (fds : Array FieldInfo := #[]) : ClassFile where
  minorVersion := 0
  majorVersion := 65
  constantPool := pool
  accessFlags := fl
  thisClass := this
  superClass := sup
  interfaces := ifs
  fields := fds
  methods := ms
  attributes := attrs
def plain (name : String) (sup : Option ClassId) : Class where
  name := name
  kind := .ordinary
  loader := none
  accessFlags := 33
  super := sup
  interfaces := #[]
  cf := none
  fields := #[]
  methods := #[]
  instanceTypes := #[]
  staticTypes := #[]
  resolved := #[]
  callSites := []
  init := .initialized
  statics := none
  mirror := none

def pool0 : Array CpInfo := pool [(5, u "<init>"), (0, u "()V"), (1, .class_ 10), (1, u "java/lang/Object")] 113

def k0m0 : Method := { name := "<init>", desc := "()V", sig := { parameters := [], returnType := none }, accessFlags := 1, code := none }
/-- java/lang/Object -/
def k0 : Class := { plain "java/lang/Object" none with
  accessFlags := 33
  interfaces := #[]
  cf := some (fileOf pool0 8 #[] #[{ accessFlags := 1, nameIndex := 5, descriptorIndex := 6, attributes := #[] }] 33 0 #[] #[])
  fields := #[]
  methods := #[k0m0]
  instanceTypes := #[]
  staticTypes := #[]
  resolved := Array.replicate 124 none
  statics := none }

def pool1 : Array CpInfo := pool [(2, .class_ 4), (1, u "java/lang/Object"), (0, u "<init>"), (0, u "()V"), (0, .fieldref 8 9), (0, .class_ 10), (0, .nameAndType 11 12), (0, u "com/example/fates3/fates3/model/Kind"), (0, u "BOOLEAN"), (0, u "Lcom/example/fates3/fates3/model/Kind;"), (0, .fieldref 8 14), (0, .nameAndType 15 12), (0, u "INTEGER"), (0, .fieldref 8 17), (0, .nameAndType 18 12), (0, u "SYMBOLIC"), (0, .fieldref 8 20), (0, .nameAndType 21 12), (0, u "INTEGER_OR_SYMBOLIC"), (0, .methodref 23 24), (0, .class_ 25), (0, .nameAndType 26 27), (0, u "com/example/fates3/fates3/model/KindJoinPinLaw"), (0, u "kindOf"), (0, u "(I)Lcom/example/fates3/fates3/model/Kind;"), (0, .methodref 23 29), (0, .nameAndType 30 31), (0, u "bitsOf"), (0, u "(I)I"), (0, .methodref 23 33), (0, .nameAndType 34 35), (0, u "expected"), (0, u "(II)Lcom/example/fates3/fates3/model/Kind;"), (0, .methodref 8 37), (0, .nameAndType 38 39), (0, u "join"), (0, u "(Lcom/example/fates3/fates3/model/Kind;)Lcom/example/fates3/fates3/model/Kind;"), (3, u "law"), (0, u "(II)Z")] 2

def k1m0 : Method := { name := "<init>", desc := "()V", sig := { parameters := [], returnType := none }, accessFlags := 1, code := none }
def k1c1 : Code := { maxStack := 2, maxLocals := 1, code := method_2_code, exceptionTable := #[], attributes := #[] }
def k1m1 : Method := { name := "kindOf", desc := "(I)Lcom/example/fates3/fates3/model/Kind;", sig := { parameters := [.int], returnType := some (.object "com/example/fates3/fates3/model/Kind") }, accessFlags := 10, code := some k1c1 }
def k1c2 : Code := { maxStack := 2, maxLocals := 1, code := method_3_code, exceptionTable := #[], attributes := #[] }
def k1m2 : Method := { name := "bitsOf", desc := "(I)I", sig := { parameters := [.int], returnType := some .int }, accessFlags := 10, code := some k1c2 }
def k1c3 : Code := { maxStack := 2, maxLocals := 3, code := method_4_code, exceptionTable := #[], attributes := #[] }
def k1m3 : Method := { name := "expected", desc := "(II)Lcom/example/fates3/fates3/model/Kind;", sig := { parameters := [.int, .int], returnType := some (.object "com/example/fates3/fates3/model/Kind") }, accessFlags := 10, code := some k1c3 }
def k1c4 : Code := { maxStack := 2, maxLocals := 8, code := code, exceptionTable := #[], attributes := #[] }
def k1m4 : Method := { name := "law", desc := "(II)Z", sig := { parameters := [.int, .int], returnType := some .boolean }, accessFlags := 9, code := some k1c4 }
/-- com/example/fates3/fates3/model/KindJoinPinLaw -/
def k1 : Class := { plain "com/example/fates3/fates3/model/KindJoinPinLaw" (some 0) with
  accessFlags := 49
  interfaces := #[]
  cf := some (fileOf pool1 23 #[] #[{ accessFlags := 1, nameIndex := 5, descriptorIndex := 6, attributes := #[] }, { accessFlags := 10, nameIndex := 26, descriptorIndex := 27, attributes := #[] }, { accessFlags := 10, nameIndex := 30, descriptorIndex := 31, attributes := #[] }, { accessFlags := 10, nameIndex := 34, descriptorIndex := 35, attributes := #[] }, { accessFlags := 9, nameIndex := 43, descriptorIndex := 44, attributes := #[] }] 49 2 #[] #[])
  fields := #[]
  methods := #[k1m0, k1m1, k1m2, k1m3, k1m4]
  instanceTypes := #[]
  staticTypes := #[]
  resolved := Array.replicate 47 none
  statics := none }

def pool2 : Array CpInfo := pool [(1, .class_ 2), (0, u "java/lang/constant/Constable"), (0, .class_ 4), (0, u "java/lang/Object")] 6

/-- java/lang/constant/Constable -/
def k2 : Class := { plain "java/lang/constant/Constable" (some 0) with
  accessFlags := 1537
  interfaces := #[]
  cf := some (fileOf pool2 1 #[] #[] 1537 3 #[] #[])
  fields := #[]
  methods := #[]
  instanceTypes := #[]
  staticTypes := #[]
  resolved := Array.replicate 11 none
  statics := none }

def pool3 : Array CpInfo := pool [(1, .class_ 2), (0, u "java/lang/Comparable"), (0, .class_ 4), (0, u "java/lang/Object")] 7

/-- java/lang/Comparable -/
def k3 : Class := { plain "java/lang/Comparable" (some 0) with
  accessFlags := 1537
  interfaces := #[]
  cf := some (fileOf pool3 1 #[] #[] 1537 3 #[] #[])
  fields := #[]
  methods := #[]
  instanceTypes := #[]
  staticTypes := #[]
  resolved := Array.replicate 12 none
  statics := none }

def pool4 : Array CpInfo := pool [(1, .class_ 2), (0, u "java/io/Serializable"), (0, .class_ 4), (0, u "java/lang/Object")] 2

/-- java/io/Serializable -/
def k4 : Class := { plain "java/io/Serializable" (some 0) with
  accessFlags := 1537
  interfaces := #[]
  cf := some (fileOf pool4 1 #[] #[] 1537 3 #[] #[])
  fields := #[]
  methods := #[]
  instanceTypes := #[]
  staticTypes := #[]
  resolved := Array.replicate 7 none
  statics := none }

def pool5 : Array CpInfo := pool [(2, .class_ 4), (1, u "java/lang/Enum"), (0, u "name"), (0, u "Ljava/lang/String;"), (2, u "ordinal"), (0, u "I"), (1, .class_ 14), (1, u "java/lang/Object"), (4, u "hash"), (86, .class_ 108), (1, u "java/lang/Enum$EnumDesc"), (2, .class_ 112), (0, u "java/lang/constant/Constable"), (0, .class_ 114), (0, u "java/lang/Comparable"), (0, .class_ 116), (0, u "java/io/Serializable")] 87

/-- java/lang/Enum -/
def k5 : Class := { plain "java/lang/Enum" (some 0) with
  accessFlags := 1057
  interfaces := #[2, 3, 4]
  cf := some (fileOf pool5 2 #[.nestMembers #[106]] #[] 1057 12 #[111, 113, 115] #[{ accessFlags := 18, nameIndex := 5, descriptorIndex := 6, attributes := #[] }, { accessFlags := 18, nameIndex := 9, descriptorIndex := 10, attributes := #[] }, { accessFlags := 2, nameIndex := 19, descriptorIndex := 10, attributes := #[] }])
  fields := #[{ name := "name", type := (.object "java/lang/String"), accessFlags := 18, slot := 0, constantValue := 0 }, { name := "ordinal", type := .int, accessFlags := 18, slot := 1, constantValue := 0 }, { name := "hash", type := .int, accessFlags := 2, slot := 2, constantValue := 0 }]
  methods := #[]
  instanceTypes := #[(.object "java/lang/String"), .int, .int]
  staticTypes := #[]
  resolved := Array.replicate 204 none
  statics := none }

def pool6 : Array CpInfo := pool [(1, .class_ 2), (0, u "com/example/fates3/fates3/model/Kind"), (0, .fieldref 1 4), (0, .nameAndType 5 6), (0, u "BOOLEAN"), (0, u "Lcom/example/fates3/fates3/model/Kind;"), (2, u "INTEGER"), (2, u "SYMBOLIC"), (0, .fieldref 1 14), (0, .nameAndType 15 6), (0, u "INTEGER_OR_SYMBOLIC"), (2, u "$VALUES"), (0, u "[Lcom/example/fates3/fates3/model/Kind;"), (6, .class_ 28), (1, u "java/lang/Enum"), (8, u "description"), (0, u "Ljava/lang/String;"), (26, u "join"), (0, u "(Lcom/example/fates3/fates3/model/Kind;)Lcom/example/fates3/fates3/model/Kind;")] 8

def k6c0 : Code := { maxStack := 2, maxLocals := 3, code := prog_80_method_4_code, exceptionTable := #[], attributes := #[] }
def k6m0 : Method := { name := "join", desc := "(Lcom/example/fates3/fates3/model/Kind;)Lcom/example/fates3/fates3/model/Kind;", sig := { parameters := [(.object "com/example/fates3/fates3/model/Kind")], returnType := some (.object "com/example/fates3/fates3/model/Kind") }, accessFlags := 0, code := some k6c0 }
/-- com/example/fates3/fates3/model/Kind -/
def k6 : Class := { plain "com/example/fates3/fates3/model/Kind" (some 5) with
  accessFlags := 16433
  interfaces := #[]
  cf := some (fileOf pool6 1 #[] #[{ accessFlags := 0, nameIndex := 65, descriptorIndex := 66, attributes := #[] }] 16433 26 #[] #[{ accessFlags := 16409, nameIndex := 5, descriptorIndex := 6, attributes := #[] }, { accessFlags := 16409, nameIndex := 9, descriptorIndex := 6, attributes := #[] }, { accessFlags := 16409, nameIndex := 12, descriptorIndex := 6, attributes := #[] }, { accessFlags := 16409, nameIndex := 15, descriptorIndex := 6, attributes := #[] }, { accessFlags := 18, nameIndex := 37, descriptorIndex := 38, attributes := #[] }, { accessFlags := 4122, nameIndex := 18, descriptorIndex := 19, attributes := #[] }])
  fields := #[{ name := "BOOLEAN", type := (.object "com/example/fates3/fates3/model/Kind"), accessFlags := 16409, slot := 0, constantValue := 0 }, { name := "INTEGER", type := (.object "com/example/fates3/fates3/model/Kind"), accessFlags := 16409, slot := 1, constantValue := 0 }, { name := "SYMBOLIC", type := (.object "com/example/fates3/fates3/model/Kind"), accessFlags := 16409, slot := 2, constantValue := 0 }, { name := "INTEGER_OR_SYMBOLIC", type := (.object "com/example/fates3/fates3/model/Kind"), accessFlags := 16409, slot := 3, constantValue := 0 }, { name := "description", type := (.object "java/lang/String"), accessFlags := 18, slot := 3, constantValue := 0 }, { name := "$VALUES", type := (.array (.object "com/example/fates3/fates3/model/Kind")), accessFlags := 4122, slot := 4, constantValue := 0 }]
  methods := #[k6m0]
  instanceTypes := #[(.object "java/lang/String"), .int, .int, (.object "java/lang/String")]
  staticTypes := #[(.object "com/example/fates3/fates3/model/Kind"), (.object "com/example/fates3/fates3/model/Kind"), (.object "com/example/fates3/fates3/model/Kind"), (.object "com/example/fates3/fates3/model/Kind"), (.array (.object "com/example/fates3/fates3/model/Kind"))]
  resolved := Array.replicate 75 none
  statics := some 0 }

def pool7 : Array CpInfo := pool [(1, u "java/lang/Cloneable"), (0, .class_ 1), (0, u "java/lang/Object"), (0, .class_ 3)] 3

/-- java/lang/Cloneable -/
def k7 : Class := { plain "java/lang/Cloneable" (some 0) with
  accessFlags := 1537
  interfaces := #[]
  cf := some (fileOf pool7 2 #[] #[] 1537 4 #[] #[])
  fields := #[]
  methods := #[]
  instanceTypes := #[]
  staticTypes := #[]
  resolved := Array.replicate 8 none
  statics := none }

/-- the primitive byte -/
def k8 : Class := { plain "byte" none with kind := .primitive 'B', accessFlags := 0x411 }
/-- [B -/
def k9 : Class := { plain "[B" (some 0) with kind := .array 8 .byte, interfaces := #[7, 4], accessFlags := 1041 }

/-- the primitive int -/
def k10 : Class := { plain "int" none with kind := .primitive 'I', accessFlags := 0x411 }
/-- [I -/
def k11 : Class := { plain "[I" (some 0) with kind := .array 10 .int, interfaces := #[7, 4], accessFlags := 1041 }

def heap : Heap := #[{ cls := 6, slots := #[.ref 1, .ref 4, .ref 3, .ref 2, .null], vm := .statics 6 },
  { cls := 6, slots := #[.null, .int 0, .int 0, .null], vm := .none },
  { cls := 6, slots := #[.null, .int 3, .int 0, .null], vm := .none },
  { cls := 6, slots := #[.null, .int 2, .int 0, .null], vm := .none },
  { cls := 6, slots := #[.null, .int 1, .int 0, .null], vm := .none }]
def classes : Array Class := #[k0, k1, k2, k3, k4, k5, k6, k7, k8, k9, k10, k11]
def interned : List (Array UInt16 × Addr) := []
def slotsUsed : Nat := 21
def theMethod : MethodId := ⟨1, 4⟩
def args0 : Array Value := #[.int 5, .int 300]
def aboutOver (below : List Frame) : State where
  vm := { classes := classes, interned := interned.toArray }
  heap := heap
  slotsUsed := slotsUsed
  threads := #[{ frames := .invoking theMethod args0 :: below }]
def below0 : List Frame := [.native { method := ⟨0, 0⟩, args := #[] }]
def about1 : State := aboutOver below0
def p0 : Program := .bare "" "" ""
def e0 : Env := launch0.env 0 0 0
theorem w_frames : about1.frames = Frame.invoking theMethod args0 :: below0 := rfl
set_option maxRecDepth 65536 in
theorem w_args : argsFit about1.vm theMethod args0 = true := by decide +kernel
set_option maxRecDepth 65536 in
theorem w_heap : heapFits about1 = true := by decide +kernel
set_option maxRecDepth 65536 in
theorem w_runnable : about1.curStatus? = some .runnable := by decide +kernel
set_option maxRecDepth 65536 in
theorem w_alone : about1.alone = true := by decide +kernel
set_option maxRecDepth 65536 in
theorem w_named : about1.methodNamed? x = some theMethod := by decide +kernel
set_option maxRecDepth 65536 in
theorem w_hears : about1.hears theMethod below0 = true := by decide +kernel
set_option maxRecDepth 65536 in
theorem w_ripe : about1.ripe theMethod args0 below0 = true := by decide +kernel
theorem w_running : about1.status = .running := rfl
set_option maxRecDepth 65536 in
theorem w_room : about1.hasRoom e0.platform room_1 = true :=
  launch0.hasRoom_least _ room_1 (by decide +kernel) (by decide +kernel) (by decide +kernel) (by decide +kernel) (by decide +kernel) (by decide +kernel)
theorem allAtoms_all (ts : List Jvm.Cond) (a : Array Jvm.Value) (st : Jvm.State) : (allAtoms ts).before a st = ts.all (fun c => c.before a st) := by
  induction ts with
  | nil => rfl
  | cons c t ih =>
    show (Jvm.Cond.and c (allAtoms t)).before a st = _
    rw [Jvm.Cond.before_and, ih, List.all_cons]
def words1 : List Jvm.Cond := Jvm.Cond.code x code maxLocals ret :: tables_1
/-- a 'code' word, met by the world's own term for the bytes: nothing is compared byte by byte -/
theorem code_word {y : MethodName} {bytes : ByteArray} {mx : Nat} {rt : Option FieldType} {a : Array Value} {s : State} {m : MethodId} {meth : Method} {c : Code} (h1 : s.methodNamed? y = some m) (h2 : s.vm.method? m = some meth) (h3 : meth.code = some c) (h4 : c.code = bytes)
    (h5 : (c.maxLocals == mx && c.exceptionTable.isEmpty && decide (c.maxStack ≤ mostOperands) && decide (meth.sig.returnType = rt) && !meth.locks && decide (parseMethodDescriptor y.desc = some meth.sig)) = true) : (Jvm.Cond.code y bytes mx rt).before a s = true := by
  simp only [Bool.and_eq_true, beq_iff_eq, Bool.not_eq_true', decide_eq_true_eq] at h5
  obtain ⟨⟨⟨⟨⟨g1, g2⟩, g3⟩, g4⟩, g5⟩, g6⟩ := h5
  simp [Cond.before, Cond.holds, Cond.value, h1, h2, h3, h4, g1, g2, g3, g4, g5, g6]
def isCode : Jvm.Cond → Bool
  | .code _ _ _ _ => true
  | _ => false
theorem all_split {L : List Jvm.Cond} {P : Jvm.Cond → Bool} (h1 : L.all (fun c => isCode c || P c) = true) (h2 : ∀ c ∈ L.filter isCode, P c = true) : L.all P = true := by
  refine List.all_eq_true.mpr fun c hc => ?_
  have h := List.all_eq_true.mp h1 c hc
  rcases Bool.eq_false_or_eq_true (isCode c) with hi | hi
  · exact h2 c (List.mem_filter.mpr ⟨hc, hi⟩)
  · simpa [hi] using h
set_option maxRecDepth 65536 in
theorem w_c0 : (Jvm.Cond.code x code maxLocals ret).before args0 about1 = true := code_word (m := ⟨1, 4⟩) (meth := k1m4) (c := k1c4) (by decide +kernel) rfl rfl rfl (by decide +kernel)
set_option maxRecDepth 65536 in
theorem w_c1 : (Jvm.Cond.code ({ cls := "com/example/fates3/fates3/model/KindJoinPinLaw", name := "kindOf", desc := "(I)Lcom/example/fates3/fates3/model/Kind;" } : Jvm.MethodName) method_2_code (1 : Nat) (Option.some (Jvm.ClassFile.FieldType.object "com/example/fates3/fates3/model/Kind"))).before args0 about1 = true := code_word (m := ⟨1, 1⟩) (meth := k1m1) (c := k1c1) (by decide +kernel) rfl rfl rfl (by decide +kernel)
set_option maxRecDepth 65536 in
theorem w_c2 : (Jvm.Cond.code ({ cls := "com/example/fates3/fates3/model/KindJoinPinLaw", name := "bitsOf", desc := "(I)I" } : Jvm.MethodName) method_3_code (1 : Nat) (Option.some Jvm.ClassFile.FieldType.int)).before args0 about1 = true := code_word (m := ⟨1, 2⟩) (meth := k1m2) (c := k1c2) (by decide +kernel) rfl rfl rfl (by decide +kernel)
set_option maxRecDepth 65536 in
theorem w_c3 : (Jvm.Cond.code ({ cls := "com/example/fates3/fates3/model/KindJoinPinLaw", name := "expected", desc := "(II)Lcom/example/fates3/fates3/model/Kind;" } : Jvm.MethodName) method_4_code (3 : Nat) (Option.some (Jvm.ClassFile.FieldType.object "com/example/fates3/fates3/model/Kind"))).before args0 about1 = true := code_word (m := ⟨1, 3⟩) (meth := k1m3) (c := k1c3) (by decide +kernel) rfl rfl rfl (by decide +kernel)
set_option maxRecDepth 65536 in
theorem w_c4 : (Jvm.Cond.code ({ cls := "com/example/fates3/fates3/model/Kind", name := "join", desc := "(Lcom/example/fates3/fates3/model/Kind;)Lcom/example/fates3/fates3/model/Kind;" } : Jvm.MethodName) prog_80_method_4_code (3 : Nat) (Option.some (Jvm.ClassFile.FieldType.object "com/example/fates3/fates3/model/Kind"))).before args0 about1 = true := code_word (m := ⟨6, 0⟩) (meth := k6m0) (c := k6c0) (by decide +kernel) rfl rfl rfl (by decide +kernel)
def codes1 : List Jvm.Cond := [Jvm.Cond.code x code maxLocals ret, Jvm.Cond.code ({ cls := "com/example/fates3/fates3/model/KindJoinPinLaw", name := "kindOf", desc := "(I)Lcom/example/fates3/fates3/model/Kind;" } : Jvm.MethodName) method_2_code (1 : Nat) (Option.some (Jvm.ClassFile.FieldType.object "com/example/fates3/fates3/model/Kind")), Jvm.Cond.code ({ cls := "com/example/fates3/fates3/model/KindJoinPinLaw", name := "bitsOf", desc := "(I)I" } : Jvm.MethodName) method_3_code (1 : Nat) (Option.some Jvm.ClassFile.FieldType.int), Jvm.Cond.code ({ cls := "com/example/fates3/fates3/model/KindJoinPinLaw", name := "expected", desc := "(II)Lcom/example/fates3/fates3/model/Kind;" } : Jvm.MethodName) method_4_code (3 : Nat) (Option.some (Jvm.ClassFile.FieldType.object "com/example/fates3/fates3/model/Kind")), Jvm.Cond.code ({ cls := "com/example/fates3/fates3/model/Kind", name := "join", desc := "(Lcom/example/fates3/fates3/model/Kind;)Lcom/example/fates3/fates3/model/Kind;" } : Jvm.MethodName) prog_80_method_4_code (3 : Nat) (Option.some (Jvm.ClassFile.FieldType.object "com/example/fates3/fates3/model/Kind"))]
set_option maxRecDepth 65536 in
theorem codes_eq : words1.filter isCode = codes1 := rfl
theorem w_codes : ∀ c ∈ words1.filter isCode, c.before args0 about1 = true := by
  rw [codes_eq]
  intro c hc
  simp only [codes1, List.mem_cons, List.not_mem_nil, or_false] at hc
  rcases hc with rfl | rfl | rfl | rfl | rfl
  · exact w_c0
  · exact w_c1
  · exact w_c2
  · exact w_c3
  · exact w_c4
set_option maxRecDepth 65536 in
theorem w_t1 : (words1.take 24).all (fun c => isCode c || c.before args0 about1) = true := by decide +kernel
set_option maxRecDepth 65536 in
theorem w_t2 : (words1.drop 24).all (fun c => isCode c || c.before args0 about1) = true := by decide +kernel
theorem w_tables : (allAtoms (Jvm.Cond.code x code maxLocals ret :: tables_1)).before args0 about1 = true := by
  rw [allAtoms_all]
  show words1.all (fun c => c.before args0 about1) = true
  refine all_split ?_ w_codes
  rw [← List.take_append_drop 24 words1, List.all_append, w_t1, w_t2]
  rfl
set_option maxRecDepth 65536 in
theorem w_case : (Jvm.Cond.and given_1 narrow_1).before args0 about1 = true := by decide +kernel
theorem w_applies : (headSpec (Jvm.Cond.code x code maxLocals ret :: tables_1) room_1).applies x e0.platform about1 = true :=
  (Spec.applies_iff w_frames).mpr ⟨w_running, w_runnable, w_alone, w_named, w_hears, w_ripe, w_room, w_tables⟩
theorem atStart : AtStart classFile x code maxLocals ret World_1 tables_1 room_1 Calls_1 rest_1 Pre_1 launch0 p0 e0 about1 theMethod args0 below0 :=
  ⟨lists_1, trivial, launch0.admits_env _ _ _, launch0.least_env, fairChoices_fair.cas, fairChoices_fair.clock, w_frames, w_args, w_heap, w_applies, trivial, trivial, w_case⟩
end start1
theorem witness_1 : WitnessClaimed_1 := ⟨start1.p0, start1.e0, start1.about1, start1.theMethod, start1.args0, start1.below0, start1.atStart⟩
end Jvm.Pilot.@@N@@
