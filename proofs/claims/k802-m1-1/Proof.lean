import JvmDerived
import JvmDerived.Pilot.@@N@@Statement
import JvmDerived.Pilot.@@N@@Code
set_option linter.unusedVariables false
set_option linter.unusedSimpArgs false
namespace Jvm.OwnWalk
open Sem ClassFile Op Lib Jvm.Stand Jvm.Free Jvm.LawKit Jvm.RoadKit
/-- where a run stands: the library's Stand, its written places new, its heap -/
def Sd (p : Program) (l : Launch) (e : Env) (R : Room) (s : State) (m : MethodId) (args : Array Value) (below : List Frame) (meth : Method) (c : Code) (n0 : Nat) (T : State) (h : Heap) (cells slots : Nat) : Prop :=
  ∃ locs, Stand p l e R s m args below meth c T locs cells slots ∧ Fr n0 locs ∧ T.heap = h ∧ n0 ≤ s.heap.size
/-- what stays through a walk -/
def Cx (Z : State) (own nm : String) (bytes : ByteArray) (maxL : Nat) (ret : Option FieldType) (p : Program) (s : State) (m : MethodId) (meth : Method) (c : Code) : Prop :=
  p.tables.exec = Jvm.exec ∧ c.code = bytes ∧ Z.Warmed39 s.vm ∧ s.vm.findClass own = some m.cls ∧ meth.name = nm ∧ c.maxLocals = maxL ∧ meth.sig.returnType = ret ∧ meth.locks = false
/-- from A the body returns, and P holds of what it returns and of the heap -/
def Gl (p : Program) (e : Env) (below : List Frame) (s : State) (n0 : Nat) (P : Option Value → Heap → Prop) (C S : Nat) (A : State) : Prop :=
  ∃ t o, Steps p.tables e below A t ∧ t.status = .running ∧ Ended t below o ∧ ∃ v L, o = .returned v ∧ (P v t.heap ∧ Fr n0 L) ∧ FrameEnd s o t L C S
/-- a method's contract -/
def Con (l : Launch) (Z : State) (y : MethodName) (bytes : ByteArray) (maxL : Nat) (ret : Option FieldType) (ws : List Jvm.Cond) (rm : Room) (C S : Nat) (as' : Array Value) (h0 : Heap) (n0 : Nat) (P : Option Value → Heap → Prop) : Prop :=
  MetFree l y (head1 (Jvm.Cond.code y bytes maxL ret :: ws) rm) (fun a U => a = as' ∧ Z.Warmed39 U.vm ∧ U.heap = h0) (fun _ _ _ _ _ => True) (fun _ U o U' => ∃ v L, o = .returned v ∧ (P v U'.heap ∧ Fr n0 L) ∧ FrameEnd U o U' L C S)
theorem Con.met {l : Launch} {Z : State} {y : MethodName} {bytes : ByteArray} {maxL : Nat} {ret : Option FieldType} {ws : List Jvm.Cond} {rm : Room} {C S : Nat} {as' : Array Value} {h0 : Heap} {n0 : Nat} {P : Option Value → Heap → Prop} (h : Con l Z y bytes maxL ret ws rm C S as' h0 n0 P) :
  MetFree l y (head1 (Jvm.Cond.code y bytes maxL ret :: ws) rm) (fun a U => a = as' ∧ Z.Warmed39 U.vm ∧ U.heap = h0) (fun _ _ _ _ _ => True) (fun _ U o U' => ∃ v L, o = .returned v ∧ (P v U'.heap ∧ Fr n0 L) ∧ FrameEnd U o U' L C S) := h
theorem Con.of {l : Launch} {Z : State} {y : MethodName} {bytes : ByteArray} {maxL : Nat} {ret : Option FieldType} {ws : List Jvm.Cond} {rm : Room} {C S : Nat} {as' : Array Value} {h0 : Heap} {n0 : Nat} {P : Option Value → Heap → Prop} (hpl : plainFor y = true) (hn : n0 ≤ h0.size)
    (hb : ∀ p e s m below meth c T, Cx Z y.cls y.name bytes maxL ret p s m meth c → Sd p l e rm s m as' below meth c n0 T h0 0 0 → Gl p e below s n0 P C S (T.setTop (entryFrame m as' maxL))) : Con l Z y bytes maxL ret ws rm C S as' h0 n0 P := by
  refine MetFree.of_bodySF hpl hisR ?_
  intro p e s m args below meth c s₁ Bd hml0 hP hK
  obtain ⟨rfl, hZ, hh⟩ := hP
  have hlk : meth.locks = false := Bd.notSynchronized
  exact hb p e s m below meth c s₁ ⟨Bd.exec, Bd.bytes, hZ, findClass_of_methodNamed Bd.named, (name_of_methodNamed Bd.named Bd.method).1, hml0, Bd.returns, hlk⟩ ⟨[], Stand.of_body Bd, Fr.nil n0, by rw [← hh, Bd.state]; rfl, by rw [hh]; exact hn⟩
/-- the contract of a method that returns a value; of one that returns nothing -/
abbrev ConV (l : Launch) (Z : State) (y : MethodName) (bytes : ByteArray) (maxL : Nat) (ret : Option FieldType) (rm : Room) (as' : Array Value) (h0 : Heap) (n0 : Nat) (Q : Value → Heap → Prop) : Prop := Con l Z y bytes maxL ret [] rm rm.cells rm.slots as' h0 n0 (fun r h => ∃ v, r = some v ∧ Q v h)
abbrev ConN (l : Launch) (Z : State) (y : MethodName) (bytes : ByteArray) (maxL : Nat) (rm : Room) (as' : Array Value) (h0 : Heap) (n0 : Nat) (Q : Heap → Prop) : Prop := Con l Z y bytes maxL none [] rm rm.cells rm.slots as' h0 n0 (fun r h => r = none ∧ Q h)
section Walk
variable {p : Program} {l : Launch} {e : Env} {R : Room} {s : State} {m : MethodId} {args : Array Value} {below : List Frame} {meth : Method} {c : Code} {T A B : State} {h : Heap} {cells slots n0 C S : Nat} {P : Option Value → Heap → Prop}
variable {Z : State} {a0 : Array Value} {own nm : String} {bytes : ByteArray} {maxL : Nat} {ret : Option FieldType}
variable {pc n : Nat} {ls : Array Slot} {st : List Value}
theorem Gl.of (hst : ∀ t, Steps p.tables e below B t → Steps p.tables e below A t) (k : Gl p e below s n0 P C S B) : Gl p e below s n0 P C S A := by
  obtain ⟨t, o, h1, r⟩ := k; exact ⟨t, o, hst t h1, r⟩
theorem Sd.le (X : Sd p l e R s m args below meth c n0 T h cells slots) : n0 ≤ h.size := by
  obtain ⟨_, X, -, eh, hn⟩ := X
  have q : s.heap.size ≤ T.heap.size := X.same.2.1
  rw [← eh]; omega
theorem Gl.enter {as' : Array Value} (ef : entryFrame m as' maxL = mkF m 0 ls []) (k : Gl p e below s n0 P C S (T.setTop (mkF m 0 ls []))) : Gl p e below s n0 P C S (T.setTop (entryFrame m as' maxL)) := by rw [ef]; exact k
theorem gIload (X : Sd p l e R s m args below meth c n0 T h cells slots) (w : Cx Z own nm bytes maxL ret p s m meth c) {k : Nat} {v : Int32} (hd : decode bytes pc = .ok (.iload k, 2)) (hl : ls[k]? = some (.val (.int v))) (hn : pc + 2 = n) (K : Gl p e below s n0 P C S (T.setTop (mkF m n ls (.int v :: st)))) : Gl p e below s n0 P C S (T.setTop (mkF m pc ls st)) := by
  obtain ⟨_, X, -⟩ := X; obtain ⟨hx, hby, hZ, hown, -⟩ := w; subst hn
  exact Gl.of (fun t k => XS.iload X.here hx rfl (hb hby hd) hl k) K
theorem gIloadN (X : Sd p l e R s m args below meth c n0 T h cells slots) (w : Cx Z own nm bytes maxL ret p s m meth c) {k : Fin 4} {v : Int32} (hd : decode bytes pc = .ok (.iload_n k, 1)) (hl : ls[k.val]? = some (.val (.int v))) (hn : pc + 1 = n) (K : Gl p e below s n0 P C S (T.setTop (mkF m n ls (.int v :: st)))) : Gl p e below s n0 P C S (T.setTop (mkF m pc ls st)) := by
  obtain ⟨_, X, -⟩ := X; obtain ⟨hx, hby, hZ, hown, -⟩ := w; subst hn
  exact Gl.of (fun t k => XS.iloadN X.here hx rfl (hb hby hd) hl k) K
theorem gJload (X : Sd p l e R s m args below meth c n0 T h cells slots) (w : Cx Z own nm bytes maxL ret p s m meth c) {k : Nat} {v : Int64} (hd : decode bytes pc = .ok (.lload k, 2)) (hl : ls[k]? = some (.val (.long v))) (hn : pc + 2 = n) (K : Gl p e below s n0 P C S (T.setTop (mkF m n ls (.long v :: st)))) : Gl p e below s n0 P C S (T.setTop (mkF m pc ls st)) := by
  obtain ⟨_, X, -⟩ := X; obtain ⟨hx, hby, hZ, hown, -⟩ := w; subst hn
  exact Gl.of (fun t k => XT.lload X.here hx rfl (hb hby hd) hl k) K
theorem gJloadN (X : Sd p l e R s m args below meth c n0 T h cells slots) (w : Cx Z own nm bytes maxL ret p s m meth c) {k : Fin 4} {v : Int64} (hd : decode bytes pc = .ok (.lload_n k, 1)) (hl : ls[k.val]? = some (.val (.long v))) (hn : pc + 1 = n) (K : Gl p e below s n0 P C S (T.setTop (mkF m n ls (.long v :: st)))) : Gl p e below s n0 P C S (T.setTop (mkF m pc ls st)) := by
  obtain ⟨_, X, -⟩ := X; obtain ⟨hx, hby, hZ, hown, -⟩ := w; subst hn
  exact Gl.of (fun t k => XT.lloadN X.here hx rfl (hb hby hd) hl k) K
theorem gAload (X : Sd p l e R s m args below meth c n0 T h cells slots) (w : Cx Z own nm bytes maxL ret p s m meth c) {k : Nat} {v : Value} (hd : decode bytes pc = .ok (.aload k, 2)) (hl : ls[k]? = some (.val v)) (hv : v.isRef = true) (hn : pc + 2 = n) (K : Gl p e below s n0 P C S (T.setTop (mkF m n ls (v :: st)))) : Gl p e below s n0 P C S (T.setTop (mkF m pc ls st)) := by
  obtain ⟨_, X, -⟩ := X; obtain ⟨hx, hby, hZ, hown, -⟩ := w; subst hn
  exact Gl.of (fun t k => XS.aload X.here hx rfl (hb hby hd) hl hv k) K
theorem gAloadN (X : Sd p l e R s m args below meth c n0 T h cells slots) (w : Cx Z own nm bytes maxL ret p s m meth c) {k : Fin 4} {v : Value} (hd : decode bytes pc = .ok (.aload_n k, 1)) (hl : ls[k.val]? = some (.val v)) (hv : v.isRef = true) (hn : pc + 1 = n) (K : Gl p e below s n0 P C S (T.setTop (mkF m n ls (v :: st)))) : Gl p e below s n0 P C S (T.setTop (mkF m pc ls st)) := by
  obtain ⟨_, X, -⟩ := X; obtain ⟨hx, hby, hZ, hown, -⟩ := w; subst hn
  exact Gl.of (fun t k => XS.aloadN X.here hx rfl (hb hby hd) hl hv k) K
theorem gDload (X : Sd p l e R s m args below meth c n0 T h cells slots) (w : Cx Z own nm bytes maxL ret p s m meth c) {k : Nat} {v : UInt64} (hd : decode bytes pc = .ok (.dload k, 2)) (hl : ls[k]? = some (.val (.double v))) (hn : pc + 2 = n) (K : Gl p e below s n0 P C S (T.setTop (mkF m n ls (.double v :: st)))) : Gl p e below s n0 P C S (T.setTop (mkF m pc ls st)) := by
  obtain ⟨_, X, -⟩ := X; obtain ⟨hx, hby, hZ, hown, -⟩ := w; subst hn
  exact Gl.of (fun t k => XS.dload X.here hx rfl (hb hby hd) hl k) K
theorem gDloadN (X : Sd p l e R s m args below meth c n0 T h cells slots) (w : Cx Z own nm bytes maxL ret p s m meth c) {k : Fin 4} {v : UInt64} (hd : decode bytes pc = .ok (.dload_n k, 1)) (hl : ls[k.val]? = some (.val (.double v))) (hn : pc + 1 = n) (K : Gl p e below s n0 P C S (T.setTop (mkF m n ls (.double v :: st)))) : Gl p e below s n0 P C S (T.setTop (mkF m pc ls st)) := by
  obtain ⟨_, X, -⟩ := X; obtain ⟨hx, hby, hZ, hown, -⟩ := w; subst hn
  exact Gl.of (fun t k => XS.dloadN X.here hx rfl (hb hby hd) hl k) K
theorem gDstore (X : Sd p l e R s m args below meth c n0 T h cells slots) (w : Cx Z own nm bytes maxL ret p s m meth c) {k : Nat} {x : UInt64} (hd : decode bytes pc = .ok (.dstore k, 2)) (l' : Array Slot) (hl : storeLocals ls k (.double x) = some l') (hn : pc + 2 = n) (K : Gl p e below s n0 P C S (T.setTop (mkF m n l' st))) : Gl p e below s n0 P C S (T.setTop (mkF m pc ls (.double x :: st))) := by
  obtain ⟨_, X, -⟩ := X; obtain ⟨hx, hby, hZ, hown, -⟩ := w; subst hn
  exact Gl.of (fun t k => XS.dstore X.here hx rfl (hb hby hd) rfl hl k) K
theorem gDstoreN (X : Sd p l e R s m args below meth c n0 T h cells slots) (w : Cx Z own nm bytes maxL ret p s m meth c) {k : Fin 4} {x : UInt64} (hd : decode bytes pc = .ok (.dstore_n k, 1)) (l' : Array Slot) (hl : storeLocals ls k.val (.double x) = some l') (hn : pc + 1 = n) (K : Gl p e below s n0 P C S (T.setTop (mkF m n l' st))) : Gl p e below s n0 P C S (T.setTop (mkF m pc ls (.double x :: st))) := by
  obtain ⟨_, X, -⟩ := X; obtain ⟨hx, hby, hZ, hown, -⟩ := w; subst hn
  exact Gl.of (fun t k => XS.dstoreN X.here hx rfl (hb hby hd) rfl hl k) K
theorem gI2d (X : Sd p l e R s m args below meth c n0 T h cells slots) (w : Cx Z own nm bytes maxL ret p s m meth c) {x : Int32} {z : UInt64} (hd : decode bytes pc = .ok (.i2d, 1)) (hz : FP.i2d x = z) (hn : pc + 1 = n) (K : Gl p e below s n0 P C S (T.setTop (mkF m n ls (.double z :: st)))) : Gl p e below s n0 P C S (T.setTop (mkF m pc ls (.int x :: st))) := by
  obtain ⟨_, X, -⟩ := X; obtain ⟨hx, hby, hZ, hown, -⟩ := w; subst hn
  exact Gl.of (fun t k => XS.i2dS X.here hx rfl (hb hby hd) rfl hz k) K
theorem gL2d (X : Sd p l e R s m args below meth c n0 T h cells slots) (w : Cx Z own nm bytes maxL ret p s m meth c) {x : Int64} {z : UInt64} (hd : decode bytes pc = .ok (.l2d, 1)) (hz : FP.l2d x = z) (hn : pc + 1 = n) (K : Gl p e below s n0 P C S (T.setTop (mkF m n ls (.double z :: st)))) : Gl p e below s n0 P C S (T.setTop (mkF m pc ls (.long x :: st))) := by
  obtain ⟨_, X, -⟩ := X; obtain ⟨hx, hby, hZ, hown, -⟩ := w; subst hn
  exact Gl.of (fun t k => XS.l2dS X.here hx rfl (hb hby hd) rfl hz k) K
theorem gDneg (X : Sd p l e R s m args below meth c n0 T h cells slots) (w : Cx Z own nm bytes maxL ret p s m meth c) {x z : UInt64} (hd : decode bytes pc = .ok (.dneg, 1)) (hz : FP.dneg x = z) (hn : pc + 1 = n) (K : Gl p e below s n0 P C S (T.setTop (mkF m n ls (.double z :: st)))) : Gl p e below s n0 P C S (T.setTop (mkF m pc ls (.double x :: st))) := by
  obtain ⟨_, X, -⟩ := X; obtain ⟨hx, hby, hZ, hown, -⟩ := w; subst hn
  exact Gl.of (fun t k => XS.dnegS X.here hx rfl (hb hby hd) rfl hz k) K
theorem gDcmp (X : Sd p l e R s m args below meth c n0 T h cells slots) (w : Cx Z own nm bytes maxL ret p s m meth c) {x y : UInt64} {o : CmpOp} {z : Int32} (hd : decode bytes pc = .ok (.dcmp o, 1)) (hz : cmpValue (FP.dcmp x y) o = z) (hn : pc + 1 = n) (K : Gl p e below s n0 P C S (T.setTop (mkF m n ls (.int z :: st)))) : Gl p e below s n0 P C S (T.setTop (mkF m pc ls (.double y :: .double x :: st))) := by
  obtain ⟨_, X, -⟩ := X; obtain ⟨hx, hby, hZ, hown, -⟩ := w; subst hn
  exact Gl.of (fun t k => XS.dcmpS X.here hx rfl (hb hby hd) rfl hz k) K
theorem gDadd (X : Sd p l e R s m args below meth c n0 T h cells slots) (w : Cx Z own nm bytes maxL ret p s m meth c) {x y z : UInt64} (hd : decode bytes pc = .ok (.dadd, 1)) (hnn : Jvm.Free.Fl.NoNaN64 (FP.dadd x y)) (hz : FP.dadd x y = z) (hn : pc + 1 = n) (K : Gl p e below s n0 P C S (T.setTop (mkF m n ls (.double z :: st)))) : Gl p e below s n0 P C S (T.setTop (mkF m pc ls (.double y :: .double x :: st))) := by
  obtain ⟨_, X, -⟩ := X; obtain ⟨hx, hby, hZ, hown, -⟩ := w; subst hn
  exact Gl.of (fun t k => XS.daddS X.here hx rfl (hb hby hd) rfl hnn hz k) K
theorem gDsub (X : Sd p l e R s m args below meth c n0 T h cells slots) (w : Cx Z own nm bytes maxL ret p s m meth c) {x y z : UInt64} (hd : decode bytes pc = .ok (.dsub, 1)) (hnn : Jvm.Free.Fl.NoNaN64 (FP.dsub x y)) (hz : FP.dsub x y = z) (hn : pc + 1 = n) (K : Gl p e below s n0 P C S (T.setTop (mkF m n ls (.double z :: st)))) : Gl p e below s n0 P C S (T.setTop (mkF m pc ls (.double y :: .double x :: st))) := by
  obtain ⟨_, X, -⟩ := X; obtain ⟨hx, hby, hZ, hown, -⟩ := w; subst hn
  exact Gl.of (fun t k => XS.dsubS X.here hx rfl (hb hby hd) rfl hnn hz k) K
theorem gDmul (X : Sd p l e R s m args below meth c n0 T h cells slots) (w : Cx Z own nm bytes maxL ret p s m meth c) {x y z : UInt64} (hd : decode bytes pc = .ok (.dmul, 1)) (hnn : Jvm.Free.Fl.NoNaN64 (FP.dmul x y)) (hz : FP.dmul x y = z) (hn : pc + 1 = n) (K : Gl p e below s n0 P C S (T.setTop (mkF m n ls (.double z :: st)))) : Gl p e below s n0 P C S (T.setTop (mkF m pc ls (.double y :: .double x :: st))) := by
  obtain ⟨_, X, -⟩ := X; obtain ⟨hx, hby, hZ, hown, -⟩ := w; subst hn
  exact Gl.of (fun t k => XS.dmulS X.here hx rfl (hb hby hd) rfl hnn hz k) K
theorem gDdiv (X : Sd p l e R s m args below meth c n0 T h cells slots) (w : Cx Z own nm bytes maxL ret p s m meth c) {x y z : UInt64} (hd : decode bytes pc = .ok (.ddiv, 1)) (hnn : Jvm.Free.Fl.NoNaN64 (FP.ddiv x y)) (hz : FP.ddiv x y = z) (hn : pc + 1 = n) (K : Gl p e below s n0 P C S (T.setTop (mkF m n ls (.double z :: st)))) : Gl p e below s n0 P C S (T.setTop (mkF m pc ls (.double y :: .double x :: st))) := by
  obtain ⟨_, X, -⟩ := X; obtain ⟨hx, hby, hZ, hown, -⟩ := w; subst hn
  exact Gl.of (fun t k => XS.ddivS X.here hx rfl (hb hby hd) rfl hnn hz k) K
theorem gDconst0 (X : Sd p l e R s m args below meth c n0 T h cells slots) (w : Cx Z own nm bytes maxL ret p s m meth c) {z : UInt64} (hd : decode bytes pc = .ok (.dconst 0, 1)) (hz : FP.dconst0 = z) (hn : pc + 1 = n) (K : Gl p e below s n0 P C S (T.setTop (mkF m n ls (.double z :: st)))) : Gl p e below s n0 P C S (T.setTop (mkF m pc ls st)) := by
  obtain ⟨_, X, -⟩ := X; obtain ⟨hx, hby, hZ, hown, -⟩ := w; subst hn
  exact Gl.of (fun t k => XS.dconst0 X.here hx rfl (hb hby hd) hz k) K
theorem gDconst1 (X : Sd p l e R s m args below meth c n0 T h cells slots) (w : Cx Z own nm bytes maxL ret p s m meth c) {z : UInt64} (hd : decode bytes pc = .ok (.dconst 1, 1)) (hz : FP.dconst1 = z) (hn : pc + 1 = n) (K : Gl p e below s n0 P C S (T.setTop (mkF m n ls (.double z :: st)))) : Gl p e below s n0 P C S (T.setTop (mkF m pc ls st)) := by
  obtain ⟨_, X, -⟩ := X; obtain ⟨hx, hby, hZ, hown, -⟩ := w; subst hn
  exact Gl.of (fun t k => XS.dconst1 X.here hx rfl (hb hby hd) hz k) K
theorem gLdc2D (X : Sd p l e R s m args below meth c n0 T h cells slots) (w : Cx Z own nm bytes maxL ret p s m meth c) {i : Nat} {z : UInt64} (wc : (Jvm.Cond.constantDouble own i z).before a0 Z = true) (hd : decode bytes pc = .ok (.ldc2_w i, 3)) (hn : pc + 3 = n) (K : Gl p e below s n0 P C S (T.setTop (mkF m n ls (.double z :: st)))) : Gl p e below s n0 P C S (T.setTop (mkF m pc ls st)) := by
  obtain ⟨_, X, -⟩ := X; obtain ⟨hx, hby, hZ, hown, -⟩ := w; subst hn
  exact Gl.of (fun t k => X.ldc2DoubleC hx hown (mvT hZ wc (by simp [Cond.onTables, Cond.keepsFace, Cond.keeps, Cond.steady])) (g := mkF m pc ls st) rfl (hb hby hd) t k) K
theorem gIconst (X : Sd p l e R s m args below meth c n0 T h cells slots) (w : Cx Z own nm bytes maxL ret p s m meth c) {i : Int} {z : Int32} (hd : decode bytes pc = .ok (.iconst i, 1)) (hz : Int32.ofInt i = z) (hn : pc + 1 = n) (K : Gl p e below s n0 P C S (T.setTop (mkF m n ls (.int z :: st)))) : Gl p e below s n0 P C S (T.setTop (mkF m pc ls st)) := by
  obtain ⟨_, X, -⟩ := X; obtain ⟨hx, hby, hZ, hown, -⟩ := w; subst hn hz
  exact Gl.of (fun t k => XS.iconst X.here hx rfl (hb hby hd) k) K
theorem gBipush (X : Sd p l e R s m args below meth c n0 T h cells slots) (w : Cx Z own nm bytes maxL ret p s m meth c) {i : Int} {z : Int32} (hd : decode bytes pc = .ok (.bipush i, 2)) (hz : (Int8.ofInt i).toInt32 = z) (hn : pc + 2 = n) (K : Gl p e below s n0 P C S (T.setTop (mkF m n ls (.int z :: st)))) : Gl p e below s n0 P C S (T.setTop (mkF m pc ls st)) := by
  obtain ⟨_, X, -⟩ := X; obtain ⟨hx, hby, hZ, hown, -⟩ := w; subst hn hz
  exact Gl.of (fun t k => XS.bipush X.here hx rfl (hb hby hd) k) K
theorem gSipush (X : Sd p l e R s m args below meth c n0 T h cells slots) (w : Cx Z own nm bytes maxL ret p s m meth c) {i : Int} {z : Int32} (hd : decode bytes pc = .ok (.sipush i, 3)) (hz : (Int16.ofInt i).toInt32 = z) (hn : pc + 3 = n) (K : Gl p e below s n0 P C S (T.setTop (mkF m n ls (.int z :: st)))) : Gl p e below s n0 P C S (T.setTop (mkF m pc ls st)) := by
  obtain ⟨_, X, -⟩ := X; obtain ⟨hx, hby, hZ, hown, -⟩ := w; subst hn hz
  exact Gl.of (fun t k => XS.sipush X.here hx rfl (hb hby hd) k) K
theorem gLconst (X : Sd p l e R s m args below meth c n0 T h cells slots) (w : Cx Z own nm bytes maxL ret p s m meth c) {i : Fin 2} {z : Int64} (hd : decode bytes pc = .ok (.lconst i, 1)) (hz : Int64.ofNat i = z) (hn : pc + 1 = n) (K : Gl p e below s n0 P C S (T.setTop (mkF m n ls (.long z :: st)))) : Gl p e below s n0 P C S (T.setTop (mkF m pc ls st)) := by
  obtain ⟨_, X, -⟩ := X; obtain ⟨hx, hby, hZ, hown, -⟩ := w; subst hn hz
  exact Gl.of (fun t k => XT.lconst X.here hx rfl (hb hby hd) k) K
theorem gNull (X : Sd p l e R s m args below meth c n0 T h cells slots) (w : Cx Z own nm bytes maxL ret p s m meth c)  (hd : decode bytes pc = .ok (.aconst_null, 1)) (hn : pc + 1 = n) (K : Gl p e below s n0 P C S (T.setTop (mkF m n ls (.null :: st)))) : Gl p e below s n0 P C S (T.setTop (mkF m pc ls st)) := by
  obtain ⟨_, X, -⟩ := X; obtain ⟨hx, hby, hZ, hown, -⟩ := w; subst hn
  exact Gl.of (fun t k => XS.aconstNull X.here hx rfl (hb hby hd) k) K
theorem gLdc (X : Sd p l e R s m args below meth c n0 T h cells slots) (w : Cx Z own nm bytes maxL ret p s m meth c) {i : Nat} {z : Int32} (wc : (Jvm.Cond.constant own i z).before a0 Z = true) (hd : decode bytes pc = .ok (.ldc i, 2)) (hn : pc + 2 = n) (K : Gl p e below s n0 P C S (T.setTop (mkF m n ls (.int z :: st)))) : Gl p e below s n0 P C S (T.setTop (mkF m pc ls st)) := by
  obtain ⟨_, X, -⟩ := X; obtain ⟨hx, hby, hZ, hown, -⟩ := w; subst hn
  exact Gl.of (fun t k => X.ldcI hx hown (mvT hZ wc) rfl (hb hby hd) k) K
theorem gLdc2 (X : Sd p l e R s m args below meth c n0 T h cells slots) (w : Cx Z own nm bytes maxL ret p s m meth c) {i : Nat} {z : Int64} (wc : (Jvm.Cond.constantLong own i z).before a0 Z = true) (hd : decode bytes pc = .ok (.ldc2_w i, 3)) (hn : pc + 3 = n) (K : Gl p e below s n0 P C S (T.setTop (mkF m n ls (.long z :: st)))) : Gl p e below s n0 P C S (T.setTop (mkF m pc ls st)) := by
  obtain ⟨_, X, -⟩ := X; obtain ⟨hx, hby, hZ, hown, -⟩ := w; subst hn
  exact Gl.of (fun t k => X.ldc2J hx hown (mvT hZ wc) rfl (hb hby hd) k) K
theorem gIadd (X : Sd p l e R s m args below meth c n0 T h cells slots) (w : Cx Z own nm bytes maxL ret p s m meth c) {x y z : Int32} (hd : decode bytes pc = .ok (.iadd, 1)) (hz : x + y = z) (hn : pc + 1 = n) (K : Gl p e below s n0 P C S (T.setTop (mkF m n ls (.int z :: st)))) : Gl p e below s n0 P C S (T.setTop (mkF m pc ls (.int y :: .int x :: st))) := by
  obtain ⟨_, X, -⟩ := X; obtain ⟨hx, hby, hZ, hown, -⟩ := w; subst hn hz
  exact Gl.of (fun t k => XS.iadd X.here hx rfl (hb hby hd) rfl k) K
theorem gIsub (X : Sd p l e R s m args below meth c n0 T h cells slots) (w : Cx Z own nm bytes maxL ret p s m meth c) {x y z : Int32} (hd : decode bytes pc = .ok (.isub, 1)) (hz : x - y = z) (hn : pc + 1 = n) (K : Gl p e below s n0 P C S (T.setTop (mkF m n ls (.int z :: st)))) : Gl p e below s n0 P C S (T.setTop (mkF m pc ls (.int y :: .int x :: st))) := by
  obtain ⟨_, X, -⟩ := X; obtain ⟨hx, hby, hZ, hown, -⟩ := w; subst hn hz
  exact Gl.of (fun t k => XS.isub X.here hx rfl (hb hby hd) rfl k) K
theorem gImul (X : Sd p l e R s m args below meth c n0 T h cells slots) (w : Cx Z own nm bytes maxL ret p s m meth c) {x y z : Int32} (hd : decode bytes pc = .ok (.imul, 1)) (hz : x * y = z) (hn : pc + 1 = n) (K : Gl p e below s n0 P C S (T.setTop (mkF m n ls (.int z :: st)))) : Gl p e below s n0 P C S (T.setTop (mkF m pc ls (.int y :: .int x :: st))) := by
  obtain ⟨_, X, -⟩ := X; obtain ⟨hx, hby, hZ, hown, -⟩ := w; subst hn hz
  exact Gl.of (fun t k => XS.imul X.here hx rfl (hb hby hd) rfl k) K
theorem gIand (X : Sd p l e R s m args below meth c n0 T h cells slots) (w : Cx Z own nm bytes maxL ret p s m meth c) {x y z : Int32} (hd : decode bytes pc = .ok (.iand, 1)) (hz : x &&& y = z) (hn : pc + 1 = n) (K : Gl p e below s n0 P C S (T.setTop (mkF m n ls (.int z :: st)))) : Gl p e below s n0 P C S (T.setTop (mkF m pc ls (.int y :: .int x :: st))) := by
  obtain ⟨_, X, -⟩ := X; obtain ⟨hx, hby, hZ, hown, -⟩ := w; subst hn hz
  exact Gl.of (fun t k => XS.iand X.here hx rfl (hb hby hd) rfl k) K
theorem gIor (X : Sd p l e R s m args below meth c n0 T h cells slots) (w : Cx Z own nm bytes maxL ret p s m meth c) {x y z : Int32} (hd : decode bytes pc = .ok (.ior, 1)) (hz : x ||| y = z) (hn : pc + 1 = n) (K : Gl p e below s n0 P C S (T.setTop (mkF m n ls (.int z :: st)))) : Gl p e below s n0 P C S (T.setTop (mkF m pc ls (.int y :: .int x :: st))) := by
  obtain ⟨_, X, -⟩ := X; obtain ⟨hx, hby, hZ, hown, -⟩ := w; subst hn hz
  exact Gl.of (fun t k => XT.ior X.here hx rfl (hb hby hd) rfl k) K
theorem gIxor (X : Sd p l e R s m args below meth c n0 T h cells slots) (w : Cx Z own nm bytes maxL ret p s m meth c) {x y z : Int32} (hd : decode bytes pc = .ok (.ixor, 1)) (hz : x ^^^ y = z) (hn : pc + 1 = n) (K : Gl p e below s n0 P C S (T.setTop (mkF m n ls (.int z :: st)))) : Gl p e below s n0 P C S (T.setTop (mkF m pc ls (.int y :: .int x :: st))) := by
  obtain ⟨_, X, -⟩ := X; obtain ⟨hx, hby, hZ, hown, -⟩ := w; subst hn hz
  exact Gl.of (fun t k => XT.ixor X.here hx rfl (hb hby hd) rfl k) K
theorem gIshl (X : Sd p l e R s m args below meth c n0 T h cells slots) (w : Cx Z own nm bytes maxL ret p s m meth c) {x y z : Int32} (hd : decode bytes pc = .ok (.ishl, 1)) (hz : x <<< (y &&& 31) = z) (hn : pc + 1 = n) (K : Gl p e below s n0 P C S (T.setTop (mkF m n ls (.int z :: st)))) : Gl p e below s n0 P C S (T.setTop (mkF m pc ls (.int y :: .int x :: st))) := by
  obtain ⟨_, X, -⟩ := X; obtain ⟨hx, hby, hZ, hown, -⟩ := w; subst hn hz
  exact Gl.of (fun t k => XT.ishl X.here hx rfl (hb hby hd) rfl k) K
theorem gIshr (X : Sd p l e R s m args below meth c n0 T h cells slots) (w : Cx Z own nm bytes maxL ret p s m meth c) {x y z : Int32} (hd : decode bytes pc = .ok (.ishr, 1)) (hz : x >>> (y &&& 31) = z) (hn : pc + 1 = n) (K : Gl p e below s n0 P C S (T.setTop (mkF m n ls (.int z :: st)))) : Gl p e below s n0 P C S (T.setTop (mkF m pc ls (.int y :: .int x :: st))) := by
  obtain ⟨_, X, -⟩ := X; obtain ⟨hx, hby, hZ, hown, -⟩ := w; subst hn hz
  exact Gl.of (fun t k => XT.ishr X.here hx rfl (hb hby hd) rfl k) K
theorem gIushr (X : Sd p l e R s m args below meth c n0 T h cells slots) (w : Cx Z own nm bytes maxL ret p s m meth c) {x y z : Int32} (hd : decode bytes pc = .ok (.iushr, 1)) (hz : XT.ushr x y = z) (hn : pc + 1 = n) (K : Gl p e below s n0 P C S (T.setTop (mkF m n ls (.int z :: st)))) : Gl p e below s n0 P C S (T.setTop (mkF m pc ls (.int y :: .int x :: st))) := by
  obtain ⟨_, X, -⟩ := X; obtain ⟨hx, hby, hZ, hown, -⟩ := w; subst hn hz
  exact Gl.of (fun t k => XT.iushr X.here hx rfl (hb hby hd) rfl k) K
theorem gIdiv (X : Sd p l e R s m args below meth c n0 T h cells slots) (w : Cx Z own nm bytes maxL ret p s m meth c) {x y z : Int32} (hd : decode bytes pc = .ok (.idiv, 1)) (hy : y ≠ 0) (hz : x / y = z) (hn : pc + 1 = n) (K : Gl p e below s n0 P C S (T.setTop (mkF m n ls (.int z :: st)))) : Gl p e below s n0 P C S (T.setTop (mkF m pc ls (.int y :: .int x :: st))) := by
  obtain ⟨_, X, -⟩ := X; obtain ⟨hx, hby, hZ, hown, -⟩ := w; subst hn hz
  exact Gl.of (fun t k => XS.idiv X.here hx rfl (hb hby hd) rfl hy k) K
theorem gIrem (X : Sd p l e R s m args below meth c n0 T h cells slots) (w : Cx Z own nm bytes maxL ret p s m meth c) {x y z : Int32} (hd : decode bytes pc = .ok (.irem, 1)) (hy : y ≠ 0) (hz : x % y = z) (hn : pc + 1 = n) (K : Gl p e below s n0 P C S (T.setTop (mkF m n ls (.int z :: st)))) : Gl p e below s n0 P C S (T.setTop (mkF m pc ls (.int y :: .int x :: st))) := by
  obtain ⟨_, X, -⟩ := X; obtain ⟨hx, hby, hZ, hown, -⟩ := w; subst hn hz
  exact Gl.of (fun t k => iremM X hx rfl (hb hby hd) rfl hy k) K
theorem gIneg (X : Sd p l e R s m args below meth c n0 T h cells slots) (w : Cx Z own nm bytes maxL ret p s m meth c) {x z : Int32} (hd : decode bytes pc = .ok (.ineg, 1)) (hz : -x = z) (hn : pc + 1 = n) (K : Gl p e below s n0 P C S (T.setTop (mkF m n ls (.int z :: st)))) : Gl p e below s n0 P C S (T.setTop (mkF m pc ls (.int x :: st))) := by
  obtain ⟨_, X, -⟩ := X; obtain ⟨hx, hby, hZ, hown, -⟩ := w; subst hn hz
  exact Gl.of (fun t k => XS.ineg X.here hx rfl (hb hby hd) rfl k) K
theorem gLadd (X : Sd p l e R s m args below meth c n0 T h cells slots) (w : Cx Z own nm bytes maxL ret p s m meth c) {x y z : Int64} (hd : decode bytes pc = .ok (.ladd, 1)) (hz : x + y = z) (hn : pc + 1 = n) (K : Gl p e below s n0 P C S (T.setTop (mkF m n ls (.long z :: st)))) : Gl p e below s n0 P C S (T.setTop (mkF m pc ls (.long y :: .long x :: st))) := by
  obtain ⟨_, X, -⟩ := X; obtain ⟨hx, hby, hZ, hown, -⟩ := w; subst hn hz
  exact Gl.of (fun t k => XT.ladd X.here hx rfl (hb hby hd) rfl k) K
theorem gLsub (X : Sd p l e R s m args below meth c n0 T h cells slots) (w : Cx Z own nm bytes maxL ret p s m meth c) {x y z : Int64} (hd : decode bytes pc = .ok (.lsub, 1)) (hz : x - y = z) (hn : pc + 1 = n) (K : Gl p e below s n0 P C S (T.setTop (mkF m n ls (.long z :: st)))) : Gl p e below s n0 P C S (T.setTop (mkF m pc ls (.long y :: .long x :: st))) := by
  obtain ⟨_, X, -⟩ := X; obtain ⟨hx, hby, hZ, hown, -⟩ := w; subst hn hz
  exact Gl.of (fun t k => XT.lsub X.here hx rfl (hb hby hd) rfl k) K
theorem gLmul (X : Sd p l e R s m args below meth c n0 T h cells slots) (w : Cx Z own nm bytes maxL ret p s m meth c) {x y z : Int64} (hd : decode bytes pc = .ok (.lmul, 1)) (hz : x * y = z) (hn : pc + 1 = n) (K : Gl p e below s n0 P C S (T.setTop (mkF m n ls (.long z :: st)))) : Gl p e below s n0 P C S (T.setTop (mkF m pc ls (.long y :: .long x :: st))) := by
  obtain ⟨_, X, -⟩ := X; obtain ⟨hx, hby, hZ, hown, -⟩ := w; subst hn hz
  exact Gl.of (fun t k => XT.lmul X.here hx rfl (hb hby hd) rfl k) K
theorem gLand (X : Sd p l e R s m args below meth c n0 T h cells slots) (w : Cx Z own nm bytes maxL ret p s m meth c) {x y z : Int64} (hd : decode bytes pc = .ok (.land, 1)) (hz : x &&& y = z) (hn : pc + 1 = n) (K : Gl p e below s n0 P C S (T.setTop (mkF m n ls (.long z :: st)))) : Gl p e below s n0 P C S (T.setTop (mkF m pc ls (.long y :: .long x :: st))) := by
  obtain ⟨_, X, -⟩ := X; obtain ⟨hx, hby, hZ, hown, -⟩ := w; subst hn hz
  exact Gl.of (fun t k => XT.land X.here hx rfl (hb hby hd) rfl k) K
theorem gLor (X : Sd p l e R s m args below meth c n0 T h cells slots) (w : Cx Z own nm bytes maxL ret p s m meth c) {x y z : Int64} (hd : decode bytes pc = .ok (.lor, 1)) (hz : x ||| y = z) (hn : pc + 1 = n) (K : Gl p e below s n0 P C S (T.setTop (mkF m n ls (.long z :: st)))) : Gl p e below s n0 P C S (T.setTop (mkF m pc ls (.long y :: .long x :: st))) := by
  obtain ⟨_, X, -⟩ := X; obtain ⟨hx, hby, hZ, hown, -⟩ := w; subst hn hz
  exact Gl.of (fun t k => XT.lor X.here hx rfl (hb hby hd) rfl k) K
theorem gLxor (X : Sd p l e R s m args below meth c n0 T h cells slots) (w : Cx Z own nm bytes maxL ret p s m meth c) {x y z : Int64} (hd : decode bytes pc = .ok (.lxor, 1)) (hz : x ^^^ y = z) (hn : pc + 1 = n) (K : Gl p e below s n0 P C S (T.setTop (mkF m n ls (.long z :: st)))) : Gl p e below s n0 P C S (T.setTop (mkF m pc ls (.long y :: .long x :: st))) := by
  obtain ⟨_, X, -⟩ := X; obtain ⟨hx, hby, hZ, hown, -⟩ := w; subst hn hz
  exact Gl.of (fun t k => XT.lxor X.here hx rfl (hb hby hd) rfl k) K
theorem gLshl (X : Sd p l e R s m args below meth c n0 T h cells slots) (w : Cx Z own nm bytes maxL ret p s m meth c) {x z : Int64} {y : Int32} (hd : decode bytes pc = .ok (.lshl, 1)) (hz : x <<< (y.toInt64 &&& 63) = z) (hn : pc + 1 = n) (K : Gl p e below s n0 P C S (T.setTop (mkF m n ls (.long z :: st)))) : Gl p e below s n0 P C S (T.setTop (mkF m pc ls (.int y :: .long x :: st))) := by
  obtain ⟨_, X, -⟩ := X; obtain ⟨hx, hby, hZ, hown, -⟩ := w; subst hn hz
  exact Gl.of (fun t k => XT.lshl X.here hx rfl (hb hby hd) rfl k) K
theorem gLshr (X : Sd p l e R s m args below meth c n0 T h cells slots) (w : Cx Z own nm bytes maxL ret p s m meth c) {x z : Int64} {y : Int32} (hd : decode bytes pc = .ok (.lshr, 1)) (hz : x >>> (y.toInt64 &&& 63) = z) (hn : pc + 1 = n) (K : Gl p e below s n0 P C S (T.setTop (mkF m n ls (.long z :: st)))) : Gl p e below s n0 P C S (T.setTop (mkF m pc ls (.int y :: .long x :: st))) := by
  obtain ⟨_, X, -⟩ := X; obtain ⟨hx, hby, hZ, hown, -⟩ := w; subst hn hz
  exact Gl.of (fun t k => XT.lshr X.here hx rfl (hb hby hd) rfl k) K
theorem gLushr (X : Sd p l e R s m args below meth c n0 T h cells slots) (w : Cx Z own nm bytes maxL ret p s m meth c) {x z : Int64} {y : Int32} (hd : decode bytes pc = .ok (.lushr, 1)) (hz : XT.ushrL x y = z) (hn : pc + 1 = n) (K : Gl p e below s n0 P C S (T.setTop (mkF m n ls (.long z :: st)))) : Gl p e below s n0 P C S (T.setTop (mkF m pc ls (.int y :: .long x :: st))) := by
  obtain ⟨_, X, -⟩ := X; obtain ⟨hx, hby, hZ, hown, -⟩ := w; subst hn hz
  exact Gl.of (fun t k => XT.lushr X.here hx rfl (hb hby hd) rfl k) K
theorem gLneg (X : Sd p l e R s m args below meth c n0 T h cells slots) (w : Cx Z own nm bytes maxL ret p s m meth c) {x z : Int64} (hd : decode bytes pc = .ok (.lneg, 1)) (hz : -x = z) (hn : pc + 1 = n) (K : Gl p e below s n0 P C S (T.setTop (mkF m n ls (.long z :: st)))) : Gl p e below s n0 P C S (T.setTop (mkF m pc ls (.long x :: st))) := by
  obtain ⟨_, X, -⟩ := X; obtain ⟨hx, hby, hZ, hown, -⟩ := w; subst hn hz
  exact Gl.of (fun t k => XT.lneg X.here hx rfl (hb hby hd) rfl k) K
theorem gLdiv (X : Sd p l e R s m args below meth c n0 T h cells slots) (w : Cx Z own nm bytes maxL ret p s m meth c) {x y z : Int64} (hd : decode bytes pc = .ok (.ldiv, 1)) (hy : y ≠ 0) (hz : x / y = z) (hn : pc + 1 = n) (K : Gl p e below s n0 P C S (T.setTop (mkF m n ls (.long z :: st)))) : Gl p e below s n0 P C S (T.setTop (mkF m pc ls (.long y :: .long x :: st))) := by
  obtain ⟨_, X, -⟩ := X; obtain ⟨hx, hby, hZ, hown, -⟩ := w; subst hn hz
  exact Gl.of (fun t k => XT.ldiv X.here hx rfl (hb hby hd) rfl hy k) K
theorem gLrem (X : Sd p l e R s m args below meth c n0 T h cells slots) (w : Cx Z own nm bytes maxL ret p s m meth c) {x y z : Int64} (hd : decode bytes pc = .ok (.lrem, 1)) (hy : y ≠ 0) (hz : x % y = z) (hn : pc + 1 = n) (K : Gl p e below s n0 P C S (T.setTop (mkF m n ls (.long z :: st)))) : Gl p e below s n0 P C S (T.setTop (mkF m pc ls (.long y :: .long x :: st))) := by
  obtain ⟨_, X, -⟩ := X; obtain ⟨hx, hby, hZ, hown, -⟩ := w; subst hn; rw [← lrem_mod] at hz; subst hz
  exact Gl.of (fun t k => XT.lrem X.here hx rfl (hb hby hd) rfl hy k) K
theorem gLcmp (X : Sd p l e R s m args below meth c n0 T h cells slots) (w : Cx Z own nm bytes maxL ret p s m meth c) {x y : Int64} {z : Int32} (hd : decode bytes pc = .ok (.lcmp, 1)) (hz : XT.cmpL x y = z) (hn : pc + 1 = n) (K : Gl p e below s n0 P C S (T.setTop (mkF m n ls (.int z :: st)))) : Gl p e below s n0 P C S (T.setTop (mkF m pc ls (.long y :: .long x :: st))) := by
  obtain ⟨_, X, -⟩ := X; obtain ⟨hx, hby, hZ, hown, -⟩ := w; subst hn hz
  exact Gl.of (fun t k => XT.lcmp X.here hx rfl (hb hby hd) rfl k) K
theorem gI2l (X : Sd p l e R s m args below meth c n0 T h cells slots) (w : Cx Z own nm bytes maxL ret p s m meth c) {x : Int32} {z : Int64} (hd : decode bytes pc = .ok (.i2l, 1)) (hz : x.toInt64 = z) (hn : pc + 1 = n) (K : Gl p e below s n0 P C S (T.setTop (mkF m n ls (.long z :: st)))) : Gl p e below s n0 P C S (T.setTop (mkF m pc ls (.int x :: st))) := by
  obtain ⟨_, X, -⟩ := X; obtain ⟨hx, hby, hZ, hown, -⟩ := w; subst hn hz
  exact Gl.of (fun t k => XT.i2l X.here hx rfl (hb hby hd) rfl k) K
theorem gL2i (X : Sd p l e R s m args below meth c n0 T h cells slots) (w : Cx Z own nm bytes maxL ret p s m meth c) {x : Int64} {z : Int32} (hd : decode bytes pc = .ok (.l2i, 1)) (hz : x.toInt32 = z) (hn : pc + 1 = n) (K : Gl p e below s n0 P C S (T.setTop (mkF m n ls (.int z :: st)))) : Gl p e below s n0 P C S (T.setTop (mkF m pc ls (.long x :: st))) := by
  obtain ⟨_, X, -⟩ := X; obtain ⟨hx, hby, hZ, hown, -⟩ := w; subst hn hz
  exact Gl.of (fun t k => XT.l2i X.here hx rfl (hb hby hd) rfl k) K
theorem gI2b (X : Sd p l e R s m args below meth c n0 T h cells slots) (w : Cx Z own nm bytes maxL ret p s m meth c) {x : Int32} {z : Int32} (hd : decode bytes pc = .ok (.i2b, 1)) (hz : x.toInt8.toInt32 = z) (hn : pc + 1 = n) (K : Gl p e below s n0 P C S (T.setTop (mkF m n ls (.int z :: st)))) : Gl p e below s n0 P C S (T.setTop (mkF m pc ls (.int x :: st))) := by
  obtain ⟨_, X, -⟩ := X; obtain ⟨hx, hby, hZ, hown, -⟩ := w; subst hn hz
  exact Gl.of (fun t k => XT.i2b X.here hx rfl (hb hby hd) rfl k) K
theorem gI2c (X : Sd p l e R s m args below meth c n0 T h cells slots) (w : Cx Z own nm bytes maxL ret p s m meth c) {x : Int32} {z : Int32} (hd : decode bytes pc = .ok (.i2c, 1)) (hz : x.toUInt32.toUInt16.toUInt32.toInt32 = z) (hn : pc + 1 = n) (K : Gl p e below s n0 P C S (T.setTop (mkF m n ls (.int z :: st)))) : Gl p e below s n0 P C S (T.setTop (mkF m pc ls (.int x :: st))) := by
  obtain ⟨_, X, -⟩ := X; obtain ⟨hx, hby, hZ, hown, -⟩ := w; subst hn hz
  exact Gl.of (fun t k => XT.i2c X.here hx rfl (hb hby hd) rfl k) K
theorem gI2s (X : Sd p l e R s m args below meth c n0 T h cells slots) (w : Cx Z own nm bytes maxL ret p s m meth c) {x : Int32} {z : Int32} (hd : decode bytes pc = .ok (.i2s, 1)) (hz : x.toInt16.toInt32 = z) (hn : pc + 1 = n) (K : Gl p e below s n0 P C S (T.setTop (mkF m n ls (.int z :: st)))) : Gl p e below s n0 P C S (T.setTop (mkF m pc ls (.int x :: st))) := by
  obtain ⟨_, X, -⟩ := X; obtain ⟨hx, hby, hZ, hown, -⟩ := w; subst hn hz
  exact Gl.of (fun t k => XT.i2s X.here hx rfl (hb hby hd) rfl k) K
theorem gIstore (X : Sd p l e R s m args below meth c n0 T h cells slots) (w : Cx Z own nm bytes maxL ret p s m meth c) {k : Nat} {x : Int32} (hd : decode bytes pc = .ok (.istore k, 2)) (l' : Array Slot) (hl : storeLocals ls k (.int x) = some l') (hn : pc + 2 = n) (K : Gl p e below s n0 P C S (T.setTop (mkF m n l' st))) : Gl p e below s n0 P C S (T.setTop (mkF m pc ls (.int x :: st))) := by
  obtain ⟨_, X, -⟩ := X; obtain ⟨hx, hby, hZ, hown, -⟩ := w; subst hn
  exact Gl.of (fun t k => XS.istore X.here hx rfl (hb hby hd) rfl hl k) K
theorem gIstoreN (X : Sd p l e R s m args below meth c n0 T h cells slots) (w : Cx Z own nm bytes maxL ret p s m meth c) {k : Fin 4} {x : Int32} (hd : decode bytes pc = .ok (.istore_n k, 1)) (l' : Array Slot) (hl : storeLocals ls k.val (.int x) = some l') (hn : pc + 1 = n) (K : Gl p e below s n0 P C S (T.setTop (mkF m n l' st))) : Gl p e below s n0 P C S (T.setTop (mkF m pc ls (.int x :: st))) := by
  obtain ⟨_, X, -⟩ := X; obtain ⟨hx, hby, hZ, hown, -⟩ := w; subst hn
  exact Gl.of (fun t k => XS.istoreN X.here hx rfl (hb hby hd) rfl hl k) K
theorem gJstore (X : Sd p l e R s m args below meth c n0 T h cells slots) (w : Cx Z own nm bytes maxL ret p s m meth c) {k : Nat} {x : Int64} (hd : decode bytes pc = .ok (.lstore k, 2)) (l' : Array Slot) (hl : storeLocals ls k (.long x) = some l') (hn : pc + 2 = n) (K : Gl p e below s n0 P C S (T.setTop (mkF m n l' st))) : Gl p e below s n0 P C S (T.setTop (mkF m pc ls (.long x :: st))) := by
  obtain ⟨_, X, -⟩ := X; obtain ⟨hx, hby, hZ, hown, -⟩ := w; subst hn
  exact Gl.of (fun t k => XT.lstore X.here hx rfl (hb hby hd) rfl hl k) K
theorem gJstoreN (X : Sd p l e R s m args below meth c n0 T h cells slots) (w : Cx Z own nm bytes maxL ret p s m meth c) {k : Fin 4} {x : Int64} (hd : decode bytes pc = .ok (.lstore_n k, 1)) (l' : Array Slot) (hl : storeLocals ls k.val (.long x) = some l') (hn : pc + 1 = n) (K : Gl p e below s n0 P C S (T.setTop (mkF m n l' st))) : Gl p e below s n0 P C S (T.setTop (mkF m pc ls (.long x :: st))) := by
  obtain ⟨_, X, -⟩ := X; obtain ⟨hx, hby, hZ, hown, -⟩ := w; subst hn
  exact Gl.of (fun t k => XT.lstoreN X.here hx rfl (hb hby hd) rfl hl k) K
theorem gAstore (X : Sd p l e R s m args below meth c n0 T h cells slots) (w : Cx Z own nm bytes maxL ret p s m meth c) {k : Nat} {x : Value} (hd : decode bytes pc = .ok (.astore k, 2)) (hv : x.isRef = true) (l' : Array Slot) (hl : storeLocals ls k x = some l') (hn : pc + 2 = n) (K : Gl p e below s n0 P C S (T.setTop (mkF m n l' st))) : Gl p e below s n0 P C S (T.setTop (mkF m pc ls (x :: st))) := by
  obtain ⟨_, X, -⟩ := X; obtain ⟨hx, hby, hZ, hown, -⟩ := w; subst hn
  exact Gl.of (fun t k => XS.astore X.here hx rfl (hb hby hd) rfl hv hl k) K
theorem gAstoreN (X : Sd p l e R s m args below meth c n0 T h cells slots) (w : Cx Z own nm bytes maxL ret p s m meth c) {k : Fin 4} {x : Value} (hd : decode bytes pc = .ok (.astore_n k, 1)) (hv : x.isRef = true) (l' : Array Slot) (hl : storeLocals ls k.val x = some l') (hn : pc + 1 = n) (K : Gl p e below s n0 P C S (T.setTop (mkF m n l' st))) : Gl p e below s n0 P C S (T.setTop (mkF m pc ls (x :: st))) := by
  obtain ⟨_, X, -⟩ := X; obtain ⟨hx, hby, hZ, hown, -⟩ := w; subst hn
  exact Gl.of (fun t k => XS.astoreN X.here hx rfl (hb hby hd) rfl hv hl k) K
theorem gIinc (X : Sd p l e R s m args below meth c n0 T h cells slots) (w : Cx Z own nm bytes maxL ret p s m meth c) {k : Nat} {i : Int} {x z : Int32} (hd : decode bytes pc = .ok (.iinc k i, 3)) (hl0 : ls[k]? = some (.val (.int x))) (hz : x + Int32.ofInt i = z) (l' : Array Slot) (hl : storeLocals ls k (.int z) = some l') (hn : pc + 3 = n) (K : Gl p e below s n0 P C S (T.setTop (mkF m n l' st))) : Gl p e below s n0 P C S (T.setTop (mkF m pc ls st)) := by
  obtain ⟨_, X, -⟩ := X; obtain ⟨hx, hby, hZ, hown, -⟩ := w; subst hn hz
  exact Gl.of (fun t k => XS.iinc X.here hx rfl (hb hby hd) hl0 hl k) K
theorem gDup (X : Sd p l e R s m args below meth c n0 T h cells slots) (w : Cx Z own nm bytes maxL ret p s m meth c) {x : Value} (hd : decode bytes pc = .ok (.dup, 1)) (hc : x.category = 1) (hn : pc + 1 = n) (K : Gl p e below s n0 P C S (T.setTop (mkF m n ls (x :: x :: st)))) : Gl p e below s n0 P C S (T.setTop (mkF m pc ls (x :: st))) := by
  obtain ⟨_, X, -⟩ := X; obtain ⟨hx, hby, hZ, hown, -⟩ := w; subst hn
  exact Gl.of (fun t k => XS.dup X.here hx rfl (hb hby hd) rfl hc k) K
theorem gPop (X : Sd p l e R s m args below meth c n0 T h cells slots) (w : Cx Z own nm bytes maxL ret p s m meth c) {x : Value} (hd : decode bytes pc = .ok (.pop, 1)) (hc : x.category = 1) (hn : pc + 1 = n) (K : Gl p e below s n0 P C S (T.setTop (mkF m n ls st))) : Gl p e below s n0 P C S (T.setTop (mkF m pc ls (x :: st))) := by
  obtain ⟨_, X, -⟩ := X; obtain ⟨hx, hby, hZ, hown, -⟩ := w; subst hn
  exact Gl.of (fun t k => XT.pop X.here hx rfl (hb hby hd) rfl hc k) K
theorem gDupX1 (X : Sd p l e R s m args below meth c n0 T h cells slots) (w : Cx Z own nm bytes maxL ret p s m meth c) {x y : Value} (hd : decode bytes pc = .ok (.dup_x1, 1)) (hc : x.category = 1) (hc' : y.category = 1) (hn : pc + 1 = n) (K : Gl p e below s n0 P C S (T.setTop (mkF m n ls (x :: y :: x :: st)))) : Gl p e below s n0 P C S (T.setTop (mkF m pc ls (x :: y :: st))) := by
  obtain ⟨_, X, -⟩ := X; obtain ⟨hx, hby, hZ, hown, -⟩ := w; subst hn
  exact Gl.of (fun t k => XT.dupX1 X.here hx rfl (hb hby hd) rfl hc hc' k) K
theorem gDup2 (X : Sd p l e R s m args below meth c n0 T h cells slots) (w : Cx Z own nm bytes maxL ret p s m meth c) {x y : Value} (hd : decode bytes pc = .ok (.dup2, 1)) (hc : x.category = 1) (hc' : y.category = 1) (hn : pc + 1 = n) (K : Gl p e below s n0 P C S (T.setTop (mkF m n ls (x :: y :: x :: y :: st)))) : Gl p e below s n0 P C S (T.setTop (mkF m pc ls (x :: y :: st))) := by
  obtain ⟨_, X, -⟩ := X; obtain ⟨hx, hby, hZ, hown, -⟩ := w; subst hn
  exact Gl.of (fun t k => XT.dup2 X.here hx rfl (hb hby hd) rfl hc hc' k) K
theorem gDup2L (X : Sd p l e R s m args below meth c n0 T h cells slots) (w : Cx Z own nm bytes maxL ret p s m meth c) {x : Int64} (hd : decode bytes pc = .ok (.dup2, 1)) (hn : pc + 1 = n) (K : Gl p e below s n0 P C S (T.setTop (mkF m n ls (.long x :: .long x :: st)))) : Gl p e below s n0 P C S (T.setTop (mkF m pc ls (.long x :: st))) := by
  obtain ⟨_, X, -⟩ := X; obtain ⟨hx, hby, hZ, hown, -⟩ := w; subst hn
  exact Gl.of (fun t k => XT.dup2L X.here hx rfl (hb hby hd) rfl k) K
theorem gGoto (X : Sd p l e R s m args below meth c n0 T h cells slots) (w : Cx Z own nm bytes maxL ret p s m meth c) {o : Int} (hd : decode bytes pc = .ok (.goto o, 3)) (ho : 0 ≤ (pc : Int) + o) (hp : ((pc : Int) + o).toNat = n) (K : Gl p e below s n0 P C S (T.setTop (mkF m n ls st))) : Gl p e below s n0 P C S (T.setTop (mkF m pc ls st)) := by
  obtain ⟨_, X, -⟩ := X; obtain ⟨hx, hby, hZ, hown, -⟩ := w; 
  exact Gl.of (fun t k => XS.goto X.here hx rfl rfl (hb hby hd) ho hp k) K
theorem gIf_eq (X : Sd p l e R s m args below meth c n0 T h cells slots) (w : Cx Z own nm bytes maxL ret p s m meth c) {x : Int32} {o : Int} (hd : decode bytes pc = .ok (.ifCond .eq o, 3)) (ho : 0 ≤ (pc : Int) + o) {n' : Nat} (hp : ((pc : Int) + o).toNat = n) (hn : pc + 3 = n') (K1 : x = (0 : Int32) ∧ x.toInt = 0 → Gl p e below s n0 P C S (T.setTop (mkF m n ls st))) (K2 : ¬ x = (0 : Int32) ∧ ¬ x.toInt = 0 → Gl p e below s n0 P C S (T.setTop (mkF m n' ls st))) : Gl p e below s n0 P C S (T.setTop (mkF m pc ls (.int x :: st))) := by
  obtain ⟨_, X, -⟩ := X; obtain ⟨hx, hby, -⟩ := w; subst hn
  by_cases q : x = (0 : Int32)
  · exact Gl.of (fun t k => XS.ifYes X.here hx rfl rfl (hb hby hd) rfl (XT.i0_eq_t q) ho hp k) (K1 ⟨q, by rw [q]; rfl⟩)
  · exact Gl.of (fun t k => XS.ifNo X.here hx rfl (hb hby hd) rfl (XT.i0_eq_f q) k) (K2 ⟨q, fun q' => q (Int32.toInt_inj.mp q')⟩)
theorem gIcmp_eq (X : Sd p l e R s m args below meth c n0 T h cells slots) (w : Cx Z own nm bytes maxL ret p s m meth c) {x y : Int32} {o : Int} (hd : decode bytes pc = .ok (.if_icmp .eq o, 3)) (ho : 0 ≤ (pc : Int) + o) {n' : Nat} (hp : ((pc : Int) + o).toNat = n) (hn : pc + 3 = n') (K1 : x = y ∧ x.toInt = y.toInt → Gl p e below s n0 P C S (T.setTop (mkF m n ls st))) (K2 : ¬ x = y ∧ ¬ x.toInt = y.toInt → Gl p e below s n0 P C S (T.setTop (mkF m n' ls st))) : Gl p e below s n0 P C S (T.setTop (mkF m pc ls (.int y :: .int x :: st))) := by
  obtain ⟨_, X, -⟩ := X; obtain ⟨hx, hby, -⟩ := w; subst hn
  by_cases q : x = y
  · exact Gl.of (fun t k => XS.icmpYes X.here hx rfl rfl (hb hby hd) rfl (XT.ii_eq_t q) ho hp k) (K1 ⟨q, by rw [q]⟩)
  · exact Gl.of (fun t k => XS.icmpNo X.here hx rfl (hb hby hd) rfl (XT.ii_eq_f q) k) (K2 ⟨q, fun q' => q (Int32.toInt_inj.mp q')⟩)
theorem gIfL_eq (X : Sd p l e R s m args below meth c n0 T h cells slots) (w : Cx Z own nm bytes maxL ret p s m meth c) {x y : Int64} {o : Int} (hd : decode bytes pc = .ok (.ifCond .eq o, 3)) (ho : 0 ≤ (pc : Int) + o) {n' : Nat} (hp : ((pc : Int) + o).toNat = n) (hn : pc + 3 = n') (K1 : x = y ∧ x.toInt = y.toInt → Gl p e below s n0 P C S (T.setTop (mkF m n ls st))) (K2 : ¬ x = y ∧ ¬ x.toInt = y.toInt → Gl p e below s n0 P C S (T.setTop (mkF m n' ls st))) : Gl p e below s n0 P C S (T.setTop (mkF m pc ls (.int (XT.cmpL x y) :: st))) := by
  obtain ⟨_, X, -⟩ := X; obtain ⟨hx, hby, -⟩ := w; subst hn
  by_cases q : x = y
  · exact Gl.of (fun t k => XS.ifYes X.here hx rfl rfl (hb hby hd) rfl (XT.ll_eq_t q) ho hp k) (K1 ⟨q, by rw [q]⟩)
  · exact Gl.of (fun t k => XS.ifNo X.here hx rfl (hb hby hd) rfl (XT.ll_eq_f q) k) (K2 ⟨q, fun q' => q (Int64.toInt_inj.mp q')⟩)
theorem gIf_ne (X : Sd p l e R s m args below meth c n0 T h cells slots) (w : Cx Z own nm bytes maxL ret p s m meth c) {x : Int32} {o : Int} (hd : decode bytes pc = .ok (.ifCond .ne o, 3)) (ho : 0 ≤ (pc : Int) + o) {n' : Nat} (hp : ((pc : Int) + o).toNat = n) (hn : pc + 3 = n') (K1 : ¬ x = (0 : Int32) ∧ ¬ x.toInt = 0 → Gl p e below s n0 P C S (T.setTop (mkF m n ls st))) (K2 : x = (0 : Int32) ∧ x.toInt = 0 → Gl p e below s n0 P C S (T.setTop (mkF m n' ls st))) : Gl p e below s n0 P C S (T.setTop (mkF m pc ls (.int x :: st))) := by
  obtain ⟨_, X, -⟩ := X; obtain ⟨hx, hby, -⟩ := w; subst hn
  by_cases q : x = (0 : Int32)
  · exact Gl.of (fun t k => XS.ifNo X.here hx rfl (hb hby hd) rfl (XT.i0_ne_f q) k) (K2 ⟨q, by rw [q]; rfl⟩)
  · exact Gl.of (fun t k => XS.ifYes X.here hx rfl rfl (hb hby hd) rfl (XT.i0_ne_t q) ho hp k) (K1 ⟨q, fun q' => q (Int32.toInt_inj.mp q')⟩)
theorem gIcmp_ne (X : Sd p l e R s m args below meth c n0 T h cells slots) (w : Cx Z own nm bytes maxL ret p s m meth c) {x y : Int32} {o : Int} (hd : decode bytes pc = .ok (.if_icmp .ne o, 3)) (ho : 0 ≤ (pc : Int) + o) {n' : Nat} (hp : ((pc : Int) + o).toNat = n) (hn : pc + 3 = n') (K1 : ¬ x = y ∧ ¬ x.toInt = y.toInt → Gl p e below s n0 P C S (T.setTop (mkF m n ls st))) (K2 : x = y ∧ x.toInt = y.toInt → Gl p e below s n0 P C S (T.setTop (mkF m n' ls st))) : Gl p e below s n0 P C S (T.setTop (mkF m pc ls (.int y :: .int x :: st))) := by
  obtain ⟨_, X, -⟩ := X; obtain ⟨hx, hby, -⟩ := w; subst hn
  by_cases q : x = y
  · exact Gl.of (fun t k => XS.icmpNo X.here hx rfl (hb hby hd) rfl (XT.ii_ne_f q) k) (K2 ⟨q, by rw [q]⟩)
  · exact Gl.of (fun t k => XS.icmpYes X.here hx rfl rfl (hb hby hd) rfl (XT.ii_ne_t q) ho hp k) (K1 ⟨q, fun q' => q (Int32.toInt_inj.mp q')⟩)
theorem gIfL_ne (X : Sd p l e R s m args below meth c n0 T h cells slots) (w : Cx Z own nm bytes maxL ret p s m meth c) {x y : Int64} {o : Int} (hd : decode bytes pc = .ok (.ifCond .ne o, 3)) (ho : 0 ≤ (pc : Int) + o) {n' : Nat} (hp : ((pc : Int) + o).toNat = n) (hn : pc + 3 = n') (K1 : ¬ x = y ∧ ¬ x.toInt = y.toInt → Gl p e below s n0 P C S (T.setTop (mkF m n ls st))) (K2 : x = y ∧ x.toInt = y.toInt → Gl p e below s n0 P C S (T.setTop (mkF m n' ls st))) : Gl p e below s n0 P C S (T.setTop (mkF m pc ls (.int (XT.cmpL x y) :: st))) := by
  obtain ⟨_, X, -⟩ := X; obtain ⟨hx, hby, -⟩ := w; subst hn
  by_cases q : x = y
  · exact Gl.of (fun t k => XS.ifNo X.here hx rfl (hb hby hd) rfl (XT.ll_ne_f q) k) (K2 ⟨q, by rw [q]⟩)
  · exact Gl.of (fun t k => XS.ifYes X.here hx rfl rfl (hb hby hd) rfl (XT.ll_ne_t q) ho hp k) (K1 ⟨q, fun q' => q (Int64.toInt_inj.mp q')⟩)
theorem gIf_lt (X : Sd p l e R s m args below meth c n0 T h cells slots) (w : Cx Z own nm bytes maxL ret p s m meth c) {x : Int32} {o : Int} (hd : decode bytes pc = .ok (.ifCond .lt o, 3)) (ho : 0 ≤ (pc : Int) + o) {n' : Nat} (hp : ((pc : Int) + o).toNat = n) (hn : pc + 3 = n') (K1 : x.toInt < 0 → Gl p e below s n0 P C S (T.setTop (mkF m n ls st))) (K2 : 0 ≤ x.toInt → Gl p e below s n0 P C S (T.setTop (mkF m n' ls st))) : Gl p e below s n0 P C S (T.setTop (mkF m pc ls (.int x :: st))) := by
  obtain ⟨_, X, -⟩ := X; obtain ⟨hx, hby, -⟩ := w; subst hn
  by_cases q : x < (0 : Int32)
  · exact Gl.of (fun t k => XS.ifYes X.here hx rfl rfl (hb hby hd) rfl (XT.i0_lt_t q) ho hp k) (K1 (Int32.lt_iff_toInt_lt.mp q))
  · exact Gl.of (fun t k => XS.ifNo X.here hx rfl (hb hby hd) rfl (XT.i0_lt_f q) k) (K2 (Int.not_lt.mp fun q' => q (Int32.lt_iff_toInt_lt.mpr q')))
theorem gIcmp_lt (X : Sd p l e R s m args below meth c n0 T h cells slots) (w : Cx Z own nm bytes maxL ret p s m meth c) {x y : Int32} {o : Int} (hd : decode bytes pc = .ok (.if_icmp .lt o, 3)) (ho : 0 ≤ (pc : Int) + o) {n' : Nat} (hp : ((pc : Int) + o).toNat = n) (hn : pc + 3 = n') (K1 : x.toInt < y.toInt → Gl p e below s n0 P C S (T.setTop (mkF m n ls st))) (K2 : y.toInt ≤ x.toInt → Gl p e below s n0 P C S (T.setTop (mkF m n' ls st))) : Gl p e below s n0 P C S (T.setTop (mkF m pc ls (.int y :: .int x :: st))) := by
  obtain ⟨_, X, -⟩ := X; obtain ⟨hx, hby, -⟩ := w; subst hn
  by_cases q : x < y
  · exact Gl.of (fun t k => XS.icmpYes X.here hx rfl rfl (hb hby hd) rfl (XT.ii_lt_t q) ho hp k) (K1 (Int32.lt_iff_toInt_lt.mp q))
  · exact Gl.of (fun t k => XS.icmpNo X.here hx rfl (hb hby hd) rfl (XT.ii_lt_f q) k) (K2 (Int.not_lt.mp fun q' => q (Int32.lt_iff_toInt_lt.mpr q')))
theorem gIfL_lt (X : Sd p l e R s m args below meth c n0 T h cells slots) (w : Cx Z own nm bytes maxL ret p s m meth c) {x y : Int64} {o : Int} (hd : decode bytes pc = .ok (.ifCond .lt o, 3)) (ho : 0 ≤ (pc : Int) + o) {n' : Nat} (hp : ((pc : Int) + o).toNat = n) (hn : pc + 3 = n') (K1 : x.toInt < y.toInt → Gl p e below s n0 P C S (T.setTop (mkF m n ls st))) (K2 : y.toInt ≤ x.toInt → Gl p e below s n0 P C S (T.setTop (mkF m n' ls st))) : Gl p e below s n0 P C S (T.setTop (mkF m pc ls (.int (XT.cmpL x y) :: st))) := by
  obtain ⟨_, X, -⟩ := X; obtain ⟨hx, hby, -⟩ := w; subst hn
  by_cases q : x < y
  · exact Gl.of (fun t k => XS.ifYes X.here hx rfl rfl (hb hby hd) rfl (XT.ll_lt_t q) ho hp k) (K1 (Int64.lt_iff_toInt_lt.mp q))
  · exact Gl.of (fun t k => XS.ifNo X.here hx rfl (hb hby hd) rfl (XT.ll_lt_f q) k) (K2 (Int.not_lt.mp fun q' => q (Int64.lt_iff_toInt_lt.mpr q')))
theorem gIf_ge (X : Sd p l e R s m args below meth c n0 T h cells slots) (w : Cx Z own nm bytes maxL ret p s m meth c) {x : Int32} {o : Int} (hd : decode bytes pc = .ok (.ifCond .ge o, 3)) (ho : 0 ≤ (pc : Int) + o) {n' : Nat} (hp : ((pc : Int) + o).toNat = n) (hn : pc + 3 = n') (K1 : 0 ≤ x.toInt → Gl p e below s n0 P C S (T.setTop (mkF m n ls st))) (K2 : x.toInt < 0 → Gl p e below s n0 P C S (T.setTop (mkF m n' ls st))) : Gl p e below s n0 P C S (T.setTop (mkF m pc ls (.int x :: st))) := by
  obtain ⟨_, X, -⟩ := X; obtain ⟨hx, hby, -⟩ := w; subst hn
  by_cases q : x < (0 : Int32)
  · exact Gl.of (fun t k => XS.ifNo X.here hx rfl (hb hby hd) rfl (XT.i0_ge_f q) k) (K2 (Int32.lt_iff_toInt_lt.mp q))
  · exact Gl.of (fun t k => XS.ifYes X.here hx rfl rfl (hb hby hd) rfl (XT.i0_ge_t q) ho hp k) (K1 (Int.not_lt.mp fun q' => q (Int32.lt_iff_toInt_lt.mpr q')))
theorem gIcmp_ge (X : Sd p l e R s m args below meth c n0 T h cells slots) (w : Cx Z own nm bytes maxL ret p s m meth c) {x y : Int32} {o : Int} (hd : decode bytes pc = .ok (.if_icmp .ge o, 3)) (ho : 0 ≤ (pc : Int) + o) {n' : Nat} (hp : ((pc : Int) + o).toNat = n) (hn : pc + 3 = n') (K1 : y.toInt ≤ x.toInt → Gl p e below s n0 P C S (T.setTop (mkF m n ls st))) (K2 : x.toInt < y.toInt → Gl p e below s n0 P C S (T.setTop (mkF m n' ls st))) : Gl p e below s n0 P C S (T.setTop (mkF m pc ls (.int y :: .int x :: st))) := by
  obtain ⟨_, X, -⟩ := X; obtain ⟨hx, hby, -⟩ := w; subst hn
  by_cases q : x < y
  · exact Gl.of (fun t k => XS.icmpNo X.here hx rfl (hb hby hd) rfl (XT.ii_ge_f q) k) (K2 (Int32.lt_iff_toInt_lt.mp q))
  · exact Gl.of (fun t k => XS.icmpYes X.here hx rfl rfl (hb hby hd) rfl (XT.ii_ge_t q) ho hp k) (K1 (Int.not_lt.mp fun q' => q (Int32.lt_iff_toInt_lt.mpr q')))
theorem gIfL_ge (X : Sd p l e R s m args below meth c n0 T h cells slots) (w : Cx Z own nm bytes maxL ret p s m meth c) {x y : Int64} {o : Int} (hd : decode bytes pc = .ok (.ifCond .ge o, 3)) (ho : 0 ≤ (pc : Int) + o) {n' : Nat} (hp : ((pc : Int) + o).toNat = n) (hn : pc + 3 = n') (K1 : y.toInt ≤ x.toInt → Gl p e below s n0 P C S (T.setTop (mkF m n ls st))) (K2 : x.toInt < y.toInt → Gl p e below s n0 P C S (T.setTop (mkF m n' ls st))) : Gl p e below s n0 P C S (T.setTop (mkF m pc ls (.int (XT.cmpL x y) :: st))) := by
  obtain ⟨_, X, -⟩ := X; obtain ⟨hx, hby, -⟩ := w; subst hn
  by_cases q : x < y
  · exact Gl.of (fun t k => XS.ifNo X.here hx rfl (hb hby hd) rfl (XT.ll_ge_f q) k) (K2 (Int64.lt_iff_toInt_lt.mp q))
  · exact Gl.of (fun t k => XS.ifYes X.here hx rfl rfl (hb hby hd) rfl (XT.ll_ge_t q) ho hp k) (K1 (Int.not_lt.mp fun q' => q (Int64.lt_iff_toInt_lt.mpr q')))
theorem gIf_gt (X : Sd p l e R s m args below meth c n0 T h cells slots) (w : Cx Z own nm bytes maxL ret p s m meth c) {x : Int32} {o : Int} (hd : decode bytes pc = .ok (.ifCond .gt o, 3)) (ho : 0 ≤ (pc : Int) + o) {n' : Nat} (hp : ((pc : Int) + o).toNat = n) (hn : pc + 3 = n') (K1 : 0 < x.toInt → Gl p e below s n0 P C S (T.setTop (mkF m n ls st))) (K2 : x.toInt ≤ 0 → Gl p e below s n0 P C S (T.setTop (mkF m n' ls st))) : Gl p e below s n0 P C S (T.setTop (mkF m pc ls (.int x :: st))) := by
  obtain ⟨_, X, -⟩ := X; obtain ⟨hx, hby, -⟩ := w; subst hn
  by_cases q : (0 : Int32) < x
  · exact Gl.of (fun t k => XS.ifYes X.here hx rfl rfl (hb hby hd) rfl (XT.i0_gt_t q) ho hp k) (K1 (Int32.lt_iff_toInt_lt.mp q))
  · exact Gl.of (fun t k => XS.ifNo X.here hx rfl (hb hby hd) rfl (XT.i0_gt_f q) k) (K2 (Int.not_lt.mp fun q' => q (Int32.lt_iff_toInt_lt.mpr q')))
theorem gIcmp_gt (X : Sd p l e R s m args below meth c n0 T h cells slots) (w : Cx Z own nm bytes maxL ret p s m meth c) {x y : Int32} {o : Int} (hd : decode bytes pc = .ok (.if_icmp .gt o, 3)) (ho : 0 ≤ (pc : Int) + o) {n' : Nat} (hp : ((pc : Int) + o).toNat = n) (hn : pc + 3 = n') (K1 : y.toInt < x.toInt → Gl p e below s n0 P C S (T.setTop (mkF m n ls st))) (K2 : x.toInt ≤ y.toInt → Gl p e below s n0 P C S (T.setTop (mkF m n' ls st))) : Gl p e below s n0 P C S (T.setTop (mkF m pc ls (.int y :: .int x :: st))) := by
  obtain ⟨_, X, -⟩ := X; obtain ⟨hx, hby, -⟩ := w; subst hn
  by_cases q : y < x
  · exact Gl.of (fun t k => XS.icmpYes X.here hx rfl rfl (hb hby hd) rfl (XT.ii_gt_t q) ho hp k) (K1 (Int32.lt_iff_toInt_lt.mp q))
  · exact Gl.of (fun t k => XS.icmpNo X.here hx rfl (hb hby hd) rfl (XT.ii_gt_f q) k) (K2 (Int.not_lt.mp fun q' => q (Int32.lt_iff_toInt_lt.mpr q')))
theorem gIfL_gt (X : Sd p l e R s m args below meth c n0 T h cells slots) (w : Cx Z own nm bytes maxL ret p s m meth c) {x y : Int64} {o : Int} (hd : decode bytes pc = .ok (.ifCond .gt o, 3)) (ho : 0 ≤ (pc : Int) + o) {n' : Nat} (hp : ((pc : Int) + o).toNat = n) (hn : pc + 3 = n') (K1 : y.toInt < x.toInt → Gl p e below s n0 P C S (T.setTop (mkF m n ls st))) (K2 : x.toInt ≤ y.toInt → Gl p e below s n0 P C S (T.setTop (mkF m n' ls st))) : Gl p e below s n0 P C S (T.setTop (mkF m pc ls (.int (XT.cmpL x y) :: st))) := by
  obtain ⟨_, X, -⟩ := X; obtain ⟨hx, hby, -⟩ := w; subst hn
  by_cases q : y < x
  · exact Gl.of (fun t k => XS.ifYes X.here hx rfl rfl (hb hby hd) rfl (XT.ll_gt_t q) ho hp k) (K1 (Int64.lt_iff_toInt_lt.mp q))
  · exact Gl.of (fun t k => XS.ifNo X.here hx rfl (hb hby hd) rfl (XT.ll_gt_f q) k) (K2 (Int.not_lt.mp fun q' => q (Int64.lt_iff_toInt_lt.mpr q')))
theorem gIf_le (X : Sd p l e R s m args below meth c n0 T h cells slots) (w : Cx Z own nm bytes maxL ret p s m meth c) {x : Int32} {o : Int} (hd : decode bytes pc = .ok (.ifCond .le o, 3)) (ho : 0 ≤ (pc : Int) + o) {n' : Nat} (hp : ((pc : Int) + o).toNat = n) (hn : pc + 3 = n') (K1 : x.toInt ≤ 0 → Gl p e below s n0 P C S (T.setTop (mkF m n ls st))) (K2 : 0 < x.toInt → Gl p e below s n0 P C S (T.setTop (mkF m n' ls st))) : Gl p e below s n0 P C S (T.setTop (mkF m pc ls (.int x :: st))) := by
  obtain ⟨_, X, -⟩ := X; obtain ⟨hx, hby, -⟩ := w; subst hn
  by_cases q : (0 : Int32) < x
  · exact Gl.of (fun t k => XS.ifNo X.here hx rfl (hb hby hd) rfl (XT.i0_le_f q) k) (K2 (Int32.lt_iff_toInt_lt.mp q))
  · exact Gl.of (fun t k => XS.ifYes X.here hx rfl rfl (hb hby hd) rfl (XT.i0_le_t q) ho hp k) (K1 (Int.not_lt.mp fun q' => q (Int32.lt_iff_toInt_lt.mpr q')))
theorem gIcmp_le (X : Sd p l e R s m args below meth c n0 T h cells slots) (w : Cx Z own nm bytes maxL ret p s m meth c) {x y : Int32} {o : Int} (hd : decode bytes pc = .ok (.if_icmp .le o, 3)) (ho : 0 ≤ (pc : Int) + o) {n' : Nat} (hp : ((pc : Int) + o).toNat = n) (hn : pc + 3 = n') (K1 : x.toInt ≤ y.toInt → Gl p e below s n0 P C S (T.setTop (mkF m n ls st))) (K2 : y.toInt < x.toInt → Gl p e below s n0 P C S (T.setTop (mkF m n' ls st))) : Gl p e below s n0 P C S (T.setTop (mkF m pc ls (.int y :: .int x :: st))) := by
  obtain ⟨_, X, -⟩ := X; obtain ⟨hx, hby, -⟩ := w; subst hn
  by_cases q : y < x
  · exact Gl.of (fun t k => XS.icmpNo X.here hx rfl (hb hby hd) rfl (XT.ii_le_f q) k) (K2 (Int32.lt_iff_toInt_lt.mp q))
  · exact Gl.of (fun t k => XS.icmpYes X.here hx rfl rfl (hb hby hd) rfl (XT.ii_le_t q) ho hp k) (K1 (Int.not_lt.mp fun q' => q (Int32.lt_iff_toInt_lt.mpr q')))
theorem gIfL_le (X : Sd p l e R s m args below meth c n0 T h cells slots) (w : Cx Z own nm bytes maxL ret p s m meth c) {x y : Int64} {o : Int} (hd : decode bytes pc = .ok (.ifCond .le o, 3)) (ho : 0 ≤ (pc : Int) + o) {n' : Nat} (hp : ((pc : Int) + o).toNat = n) (hn : pc + 3 = n') (K1 : x.toInt ≤ y.toInt → Gl p e below s n0 P C S (T.setTop (mkF m n ls st))) (K2 : y.toInt < x.toInt → Gl p e below s n0 P C S (T.setTop (mkF m n' ls st))) : Gl p e below s n0 P C S (T.setTop (mkF m pc ls (.int (XT.cmpL x y) :: st))) := by
  obtain ⟨_, X, -⟩ := X; obtain ⟨hx, hby, -⟩ := w; subst hn
  by_cases q : y < x
  · exact Gl.of (fun t k => XS.ifNo X.here hx rfl (hb hby hd) rfl (XT.ll_le_f q) k) (K2 (Int64.lt_iff_toInt_lt.mp q))
  · exact Gl.of (fun t k => XS.ifYes X.here hx rfl rfl (hb hby hd) rfl (XT.ll_le_t q) ho hp k) (K1 (Int.not_lt.mp fun q' => q (Int64.lt_iff_toInt_lt.mpr q')))
theorem gAcmp_eq (X : Sd p l e R s m args below meth c n0 T h cells slots) (w : Cx Z own nm bytes maxL ret p s m meth c) {x y : Value} {o : Int} (hd : decode bytes pc = .ok (.if_acmp .eq o, 3)) (hx' : x.isRef = true) (hy' : y.isRef = true) (ho : 0 ≤ (pc : Int) + o) {n' : Nat} (hp : ((pc : Int) + o).toNat = n) (hn : pc + 3 = n') (K1 : x = y → Gl p e below s n0 P C S (T.setTop (mkF m n ls st))) (K2 : ¬ x = y → Gl p e below s n0 P C S (T.setTop (mkF m n' ls st))) : Gl p e below s n0 P C S (T.setTop (mkF m pc ls (y :: x :: st))) := by
  obtain ⟨_, X, -⟩ := X; obtain ⟨hx, hby, -⟩ := w; subst hn
  by_cases q : x = y
  · exact Gl.of (fun t k => XT.acmpYes X.here hx rfl rfl (hb hby hd) rfl hx' hy' (XT.aa_eq_t q) ho hp k) (K1 q)
  · exact Gl.of (fun t k => XT.acmpNo X.here hx rfl (hb hby hd) rfl hx' hy' (XT.aa_eq_f q) k) (K2 q)
theorem gAcmp_ne (X : Sd p l e R s m args below meth c n0 T h cells slots) (w : Cx Z own nm bytes maxL ret p s m meth c) {x y : Value} {o : Int} (hd : decode bytes pc = .ok (.if_acmp .ne o, 3)) (hx' : x.isRef = true) (hy' : y.isRef = true) (ho : 0 ≤ (pc : Int) + o) {n' : Nat} (hp : ((pc : Int) + o).toNat = n) (hn : pc + 3 = n') (K1 : ¬ x = y → Gl p e below s n0 P C S (T.setTop (mkF m n ls st))) (K2 : x = y → Gl p e below s n0 P C S (T.setTop (mkF m n' ls st))) : Gl p e below s n0 P C S (T.setTop (mkF m pc ls (y :: x :: st))) := by
  obtain ⟨_, X, -⟩ := X; obtain ⟨hx, hby, -⟩ := w; subst hn
  by_cases q : x = y
  · exact Gl.of (fun t k => XT.acmpNo X.here hx rfl (hb hby hd) rfl hx' hy' (XT.aa_ne_f q) k) (K2 q)
  · exact Gl.of (fun t k => XT.acmpYes X.here hx rfl rfl (hb hby hd) rfl hx' hy' (XT.aa_ne_t q) ho hp k) (K1 q)
theorem gIfnullY (X : Sd p l e R s m args below meth c n0 T h cells slots) (w : Cx Z own nm bytes maxL ret p s m meth c) {o : Int} (hd : decode bytes pc = .ok (.ifnull o, 3)) (ho : 0 ≤ (pc : Int) + o) (hp : ((pc : Int) + o).toNat = n) (K : Gl p e below s n0 P C S (T.setTop (mkF m n ls st))) : Gl p e below s n0 P C S (T.setTop (mkF m pc ls (.null :: st))) := by
  obtain ⟨_, X, -⟩ := X; obtain ⟨hx, hby, hZ, hown, -⟩ := w; 
  exact Gl.of (fun t k => XS.ifnullYes X.here hx rfl rfl (hb hby hd) rfl ho hp k) K
theorem gIfnullN (X : Sd p l e R s m args below meth c n0 T h cells slots) (w : Cx Z own nm bytes maxL ret p s m meth c) {o : Int} {b : Addr} (hd : decode bytes pc = .ok (.ifnull o, 3)) (hn : pc + 3 = n) (K : Gl p e below s n0 P C S (T.setTop (mkF m n ls st))) : Gl p e below s n0 P C S (T.setTop (mkF m pc ls (.ref b :: st))) := by
  obtain ⟨_, X, -⟩ := X; obtain ⟨hx, hby, hZ, hown, -⟩ := w; subst hn
  exact Gl.of (fun t k => XS.ifnullNo X.here hx rfl (hb hby hd) rfl k) K
theorem gIfnonnullY (X : Sd p l e R s m args below meth c n0 T h cells slots) (w : Cx Z own nm bytes maxL ret p s m meth c) {o : Int} {b : Addr} (hd : decode bytes pc = .ok (.ifnonnull o, 3)) (ho : 0 ≤ (pc : Int) + o) (hp : ((pc : Int) + o).toNat = n) (K : Gl p e below s n0 P C S (T.setTop (mkF m n ls st))) : Gl p e below s n0 P C S (T.setTop (mkF m pc ls (.ref b :: st))) := by
  obtain ⟨_, X, -⟩ := X; obtain ⟨hx, hby, hZ, hown, -⟩ := w; 
  exact Gl.of (fun t k => XT.ifnonnullYes X.here hx rfl rfl (hb hby hd) rfl ho hp k) K
theorem gIfnonnullN (X : Sd p l e R s m args below meth c n0 T h cells slots) (w : Cx Z own nm bytes maxL ret p s m meth c) {o : Int} (hd : decode bytes pc = .ok (.ifnonnull o, 3)) (hn : pc + 3 = n) (K : Gl p e below s n0 P C S (T.setTop (mkF m n ls st))) : Gl p e below s n0 P C S (T.setTop (mkF m pc ls (.null :: st))) := by
  obtain ⟨_, X, -⟩ := X; obtain ⟨hx, hby, hZ, hown, -⟩ := w; subst hn
  exact Gl.of (fun t k => XT.ifnonnullNo X.here hx rfl (hb hby hd) rfl k) K
theorem gRet (X : Sd p l e R s m args below meth c n0 T h cells slots) (w : Cx Z own nm bytes maxL ret p s m meth c) {v : Value} {t : FieldType} {i : Instr} (hret : ret = some t) (hn : narrow t v = v) (hi : (i = .ireturn ∧ (t = .int ∨ t = .boolean ∨ t = .byte ∨ t = .char ∨ t = .short) ∧ ∃ z, v = .int z) ∨ (i = .lreturn ∧ t = .long ∧ ∃ z, v = .long z) ∨ (i = .dreturn ∧ t = .double ∧ ∃ z, v = .double z) ∨ (i = .freturn ∧ t = .float ∧ ∃ z, v = .float z) ∨ (i = .areturn ∧ t.isReference = true ∧ v.isRef = true))
    (hd : decode bytes pc = .ok (i, 1)) (hc : cells ≤ C) (hs : slots ≤ S) (hP : P (some v) h) : Gl p e below s n0 P C S (T.setTop (mkF m pc ls (v :: st))) := by
  obtain ⟨locs, X, N, eh, -⟩ := X; obtain ⟨hx, hby, hZ, hown, -, -, hr', hlk⟩ := w
  obtain ⟨fs, hr, hrun, hended, hW, hsame⟩ := X.leave (v := some v) (fun q => by rw [hr', hret] at q; cases q) hlk
  refine ⟨_, _, retOut X hx (hr'.trans hret) hn hi (hb hby hd) hr, hrun, hended, _, _, rfl, ⟨?_, N⟩, ⟨_, rfl⟩, hW, hsame.mono hc hs⟩
  show P (some v) T.heap
  rw [eh]; exact hP
theorem gRetI (X : Sd p l e R s m args below meth c n0 T h cells slots) (w : Cx Z own nm bytes maxL ret p s m meth c) {z : Int32} (hret : ret = some .int) (hd : decode bytes pc = .ok (.ireturn, 1)) (hc : cells ≤ C) (hs : slots ≤ S) (hP : P (some (.int z)) h) : Gl p e below s n0 P C S (T.setTop (mkF m pc ls (.int z :: st))) := gRet X w hret rfl (Or.inl ⟨rfl, Or.inl rfl, z, rfl⟩) hd hc hs hP
theorem gRetZ (X : Sd p l e R s m args below meth c n0 T h cells slots) (w : Cx Z own nm bytes maxL ret p s m meth c) {z : Int32} (hret : ret = some .boolean) (hz : z = 0 ∨ z = 1) (hd : decode bytes pc = .ok (.ireturn, 1)) (hc : cells ≤ C) (hs : slots ≤ S) (hP : P (some (.int z)) h) : Gl p e below s n0 P C S (T.setTop (mkF m pc ls (.int z :: st))) := gRet X w hret (by rcases hz with rfl | rfl <;> rfl) (Or.inl ⟨rfl, Or.inr (Or.inl rfl), z, rfl⟩) hd hc hs hP
theorem gRetJ (X : Sd p l e R s m args below meth c n0 T h cells slots) (w : Cx Z own nm bytes maxL ret p s m meth c) {z : Int64} (hret : ret = some .long) (hd : decode bytes pc = .ok (.lreturn, 1)) (hc : cells ≤ C) (hs : slots ≤ S) (hP : P (some (.long z)) h) : Gl p e below s n0 P C S (T.setTop (mkF m pc ls (.long z :: st))) := gRet X w hret rfl (Or.inr (Or.inl ⟨rfl, rfl, z, rfl⟩)) hd hc hs hP
theorem gRetD (X : Sd p l e R s m args below meth c n0 T h cells slots) (w : Cx Z own nm bytes maxL ret p s m meth c) {z : UInt64} (hret : ret = some .double) (hd : decode bytes pc = .ok (.dreturn, 1)) (hc : cells ≤ C) (hs : slots ≤ S) (hP : P (some (.double z)) h) : Gl p e below s n0 P C S (T.setTop (mkF m pc ls (.double z :: st))) := gRet X w hret rfl (Or.inr (Or.inr (Or.inl ⟨rfl, rfl, z, rfl⟩))) hd hc hs hP
theorem gRetA (X : Sd p l e R s m args below meth c n0 T h cells slots) (w : Cx Z own nm bytes maxL ret p s m meth c) {v : Value} {t : FieldType} (hret : ret = some t) (ht : t.isReference = true) (hv : v.isRef = true) (hd : decode bytes pc = .ok (.areturn, 1)) (hc : cells ≤ C) (hs : slots ≤ S) (hP : P (some v) h) : Gl p e below s n0 P C S (T.setTop (mkF m pc ls (v :: st))) := gRet X w hret (by rcases ref_cases hv with rfl | ⟨a, rfl⟩ <;> cases t <;> first | rfl | cases ht) (Or.inr (Or.inr (Or.inr (Or.inr ⟨rfl, ht, hv⟩)))) hd hc hs hP
theorem gRetV (X : Sd p l e R s m args below meth c n0 T h cells slots) (w : Cx Z own nm bytes maxL ret p s m meth c) (hret : ret = none) (hd : decode bytes pc = .ok (.return_, 1)) (hc : cells ≤ C) (hs : slots ≤ S) (hP : P none h) : Gl p e below s n0 P C S (T.setTop (mkF m pc ls [])) := by
  obtain ⟨locs, X, N, eh, -⟩ := X; obtain ⟨hx, hby, hZ, hown, -, -, hr', hlk⟩ := w
  obtain ⟨fs, hr, hrun, hended, hW, hsame⟩ := X.leave (v := none) (fun q => rfl) hlk
  refine ⟨_, _, X.returnOut hx (hr'.trans hret) (hb hby hd) hr, hrun, hended, _, _, rfl, ⟨?_, N⟩, ⟨_, rfl⟩, hW, hsame.mono hc hs⟩
  show P none T.heap
  rw [eh]; exact hP
theorem gCallS (X : Sd p l e R s m args below meth c n0 T h cells slots) (w : Cx Z own nm bytes maxL ret p s m meth c) {y : MethodName} {yb : ByteArray} {yl : Nat} {yr : Option FieldType} {rm : Room} {Q : Option Value → Heap → Prop} {idx W : Nat} (aL rest : List Value) {ps : List FieldType} {r : Option FieldType}
    (hM : Con l Z y yb yl yr [] rm rm.cells rm.slots aL.toArray h n0 Q) (w1 : (Jvm.Cond.methodLink own idx y).before a0 Z = true) (w2 : (Jvm.Cond.static y).before a0 Z = true) (w3 : (Jvm.Cond.initialized y.cls).before a0 Z = true) (w4 : (Jvm.Cond.code y yb yl yr).before a0 Z = true) (hy : y.cls ≠ "java/lang/invoke/MethodHandle" ∧ y.cls ≠ "java/lang/invoke/VarHandle")
    (hpd : parseMethodDescriptor y.desc = some ⟨ps, r⟩) (hlen : aL.length = ps.length) (hstk : st = aL.reverse ++ rest) (hd : decode bytes pc = .ok (.invokestatic idx, 3)) (hsz : ls.size = maxL) (hW : (rest.map fun v => v.category).sum ≤ W)
    (hf : rm.frames + 1 ≤ R.frames) (hl : W + (yl + 11) + rm.locals ≤ R.locals) (hcc : cells + rm.cells ≤ R.cells) (hss : slots + rm.slots ≤ R.slots) (hn : pc + 3 = n)
    (K : ∀ T' h' v, Q v h' → Sd p l e R s m args below meth c n0 T' h' (cells + rm.cells) (slots + rm.slots) → Gl p e below s n0 P C S (T'.setTop (mkF m n ls (v.toList ++ rest)))) : Gl p e below s n0 P C S (T.setTop (mkF m pc ls st)) := by
  obtain ⟨locs, X, N, eh, hn0⟩ := X; obtain ⟨hx, hby, hZ, hown, -, hml, -⟩ := w; subst hn
  obtain ⟨v, vm, ⟨T', L, k, sl⟩, -, X', ⟨Lc, ⟨hQ, NL⟩, l1, y1, z1⟩, st'⟩ := Jvm.LawKit.callS X hx (y := y) hown (mvT hZ w1) (mvT hZ w2) (mvT hZ w3) (mvT hZ w4) hy (backOf (W := W) (Q := fun v h L => Q v h ∧ Fr n0 L) (Con.met hM) hZ w4 w3 hf hl) (g := mkF m pc ls st) rfl (by rw [hml]; exact hsz) (argsL := aL) (rest := rest) (lenOf hpd hlen) hstk (by show 2 * 0 + _ ≤ _; rw [Nat.mul_zero, Nat.zero_add]; exact hW) (hb hby hd) (fun _ _ => ⟨rfl, eh, hcc, hss⟩)
  dsimp only [Pt.U, Pt.locs, Pt.cells, Pt.slots] at X' l1 y1 z1 st' hQ
  subst l1 y1 z1
  exact Gl.of st' (K T' T'.heap v hQ ⟨_, X', Fr.app N NL, rfl, hn0⟩)
theorem gCallV (X : Sd p l e R s m args below meth c n0 T h cells slots) (w : Cx Z own nm bytes maxL ret p s m meth c) {y z : MethodName} {yb : ByteArray} {yl : Nat} {yr : Option FieldType} {rm : Room} {Q : Option Value → Heap → Prop} {idx W : Nat} {b : Addr} {C0 : String} (aL rest : List Value) {ps : List FieldType} {r : Option FieldType} (E : Exa Z h b C0)
    (hM : Con l Z z yb yl yr [] rm rm.cells rm.slots (.ref b :: aL).toArray h n0 Q) (w1 : (Jvm.Cond.methodLink own idx y).before a0 Z = true) (w2 : (Jvm.Cond.declares y).before a0 Z = true) (hnf : NotFace s y) (w5 : (Jvm.Cond.selects C0 y z).before a0 Z = true) (w6 : (Jvm.Cond.instanceMethod z).before a0 Z = true) (w3 : (Jvm.Cond.initialized z.cls).before a0 Z = true) (w4 : (Jvm.Cond.code z yb yl yr).before a0 Z = true) (hy : y.cls ≠ "java/lang/invoke/MethodHandle" ∧ y.cls ≠ "java/lang/invoke/VarHandle")
    (hpd : parseMethodDescriptor y.desc = some ⟨ps, r⟩) (hlen : aL.length = ps.length) (hstk : st = aL.reverse ++ .ref b :: rest) (hd : decode bytes pc = .ok (.invokevirtual idx, 3)) (hsz : ls.size = maxL) (hW : (rest.map fun v => v.category).sum ≤ W)
    (hf : rm.frames + 1 ≤ R.frames) (hl : W + (yl + 11) + rm.locals ≤ R.locals) (hcc : cells + rm.cells ≤ R.cells) (hss : slots + rm.slots ≤ R.slots) (hn : pc + 3 = n)
    (K : ∀ T' h' v, Q v h' → Sd p l e R s m args below meth c n0 T' h' (cells + rm.cells) (slots + rm.slots) → Gl p e below s n0 P C S (T'.setTop (mkF m n ls (v.toList ++ rest)))) : Gl p e below s n0 P C S (T.setTop (mkF m pc ls st)) := by
  obtain ⟨locs, X, N, eh, hn0⟩ := X; obtain ⟨hx, hby, hZ, hown, -, hml, -⟩ := w; subst hn
  obtain ⟨cq, kq, qa, qb, qc⟩ := isOf hZ eh E
  obtain ⟨v, vm, ⟨T', L, k, sl⟩, -, X', ⟨Lc, ⟨hQ, NL⟩, l1, y1, z1⟩, st'⟩ := X.virtualBack hx (y := y) (z := z) hown (mvT hZ w1) (mvT hZ w2) hnf (mvT hZ w5) (mvT hZ w6) hy (backOf (W := W) (Q := fun v h L => Q v h ∧ Fr n0 L) (Con.met hM) hZ w4 w3 hf hl) qa qc (g := mkF m pc ls st) rfl (by rw [hml]; exact hsz) (Steps.refl _) (argsL := aL) (rest := rest) (lenOf hpd hlen) hstk (by show 2 * 0 + _ ≤ _; rw [Nat.mul_zero, Nat.zero_add]; exact hW) (hb hby hd) (fun _ _ => ⟨rfl, eh, hcc, hss⟩)
  dsimp only [Pt.U, Pt.locs, Pt.cells, Pt.slots] at X' l1 y1 z1 st' hQ
  subst l1 y1 z1
  exact Gl.of (fun t k => st'.trans k) (K T' T'.heap v hQ ⟨_, X', Fr.app N NL, rfl, hn0⟩)
theorem gCallI (X : Sd p l e R s m args below meth c n0 T h cells slots) (w : Cx Z own nm bytes maxL ret p s m meth c) {y : MethodName} {yb : ByteArray} {yl : Nat} {rm : Room} {Q : Option Value → Heap → Prop} {idx W : Nat} {b : Addr} (aL rest : List Value) {ps : List FieldType} {r : Option FieldType} (hy1 : y.name = "<init>")
    (hM : Con l Z y yb yl none [] rm rm.cells rm.slots (.ref b :: aL).toArray h n0 Q) (w1 : (Jvm.Cond.methodLink own idx y).before a0 Z = true) (w2 : (Jvm.Cond.instanceMethod y).before a0 Z = true) (w3 : (Jvm.Cond.initialized y.cls).before a0 Z = true) (w4 : (Jvm.Cond.code y yb yl none).before a0 Z = true) (hy : y.cls ≠ "java/lang/invoke/MethodHandle" ∧ y.cls ≠ "java/lang/invoke/VarHandle")
    (hpd : parseMethodDescriptor y.desc = some ⟨ps, r⟩) (hlen : aL.length = ps.length) (hstk : st = aL.reverse ++ .ref b :: rest) (hd : decode bytes pc = .ok (.invokespecial idx, 3)) (hsz : ls.size = maxL) (hW : (rest.map fun v => v.category).sum ≤ W)
    (hf : rm.frames + 1 ≤ R.frames) (hl : W + (yl + 11) + rm.locals ≤ R.locals) (hcc : cells + rm.cells ≤ R.cells) (hss : slots + rm.slots ≤ R.slots) (hn : pc + 3 = n)
    (K : ∀ T' h' v, Q v h' → Sd p l e R s m args below meth c n0 T' h' (cells + rm.cells) (slots + rm.slots) → Gl p e below s n0 P C S (T'.setTop (mkF m n ls (v.toList ++ rest)))) : Gl p e below s n0 P C S (T.setTop (mkF m pc ls st)) := by
  obtain ⟨locs, X, N, eh, hn0⟩ := X; obtain ⟨hx, hby, hZ, hown, -, hml, -⟩ := w; subst hn
  obtain ⟨v, vm, ⟨T', L, k, sl⟩, -, X', ⟨Lc, ⟨hQ, NL⟩, l1, y1, z1⟩, st'⟩ := X.specialBack hx (y := y) hy1 hown (mvT hZ w1) (mvT hZ w2) (mvT hZ w4) hy (backOf (W := W) (Q := fun v h L => Q v h ∧ Fr n0 L) (Con.met hM) hZ w4 w3 hf hl) (g := mkF m pc ls st) rfl (by rw [hml]; exact hsz) (Steps.refl _) (a := b) (argsL := aL) (rest := rest) (lenOf hpd hlen) hstk (by show 2 * 0 + _ ≤ _; rw [Nat.mul_zero, Nat.zero_add]; exact hW) (hb hby hd) (fun _ _ => ⟨rfl, eh, hcc, hss⟩)
  dsimp only [Pt.U, Pt.locs, Pt.cells, Pt.slots] at X' l1 y1 z1 st' hQ
  subst l1 y1 z1
  exact Gl.of (fun t k => st'.trans k) (K T' T'.heap v hQ ⟨_, X', Fr.app N NL, rfl, hn0⟩)
theorem gCallSv (X : Sd p l e R s m args below meth c n0 T h cells slots) (w : Cx Z own nm bytes maxL ret p s m meth c) {y : MethodName} {yb : ByteArray} {yl : Nat} {yr : Option FieldType} {rm : Room} {Q : Value → Heap → Prop} {idx W : Nat} (aL rest : List Value) {ps : List FieldType} {r : Option FieldType}
    (hM : ConV l Z y yb yl yr rm aL.toArray h n0 Q) (w1 : (Jvm.Cond.methodLink own idx y).before a0 Z = true) (w2 : (Jvm.Cond.static y).before a0 Z = true) (w3 : (Jvm.Cond.initialized y.cls).before a0 Z = true) (w4 : (Jvm.Cond.code y yb yl yr).before a0 Z = true) (hy : y.cls ≠ "java/lang/invoke/MethodHandle" ∧ y.cls ≠ "java/lang/invoke/VarHandle")
    (hpd : parseMethodDescriptor y.desc = some ⟨ps, r⟩) (hlen : aL.length = ps.length) (hstk : st = aL.reverse ++ rest) (hd : decode bytes pc = .ok (.invokestatic idx, 3)) (hsz : ls.size = maxL) (hW : (rest.map fun v => v.category).sum ≤ W)
    (hf : rm.frames + 1 ≤ R.frames) (hl : W + (yl + 11) + rm.locals ≤ R.locals) (hcc : cells + rm.cells ≤ R.cells) (hss : slots + rm.slots ≤ R.slots) (hn : pc + 3 = n)
    (K : ∀ T' h' v, Q v h' → Sd p l e R s m args below meth c n0 T' h' (cells + rm.cells) (slots + rm.slots) → Gl p e below s n0 P C S (T'.setTop (mkF m n ls (v :: rest)))) : Gl p e below s n0 P C S (T.setTop (mkF m pc ls st)) :=
  gCallS X w aL rest hM w1 w2 w3 w4 hy hpd hlen hstk hd hsz hW hf hl hcc hss hn (fun T' h' v q X => by obtain ⟨v', rfl, q⟩ := q; exact K T' h' v' q X)
theorem gCallSn (X : Sd p l e R s m args below meth c n0 T h cells slots) (w : Cx Z own nm bytes maxL ret p s m meth c) {y : MethodName} {yb : ByteArray} {yl : Nat} {rm : Room} {Q : Heap → Prop} {idx W : Nat} (aL rest : List Value) {ps : List FieldType} {r : Option FieldType}
    (hM : ConN l Z y yb yl rm aL.toArray h n0 Q) (w1 : (Jvm.Cond.methodLink own idx y).before a0 Z = true) (w2 : (Jvm.Cond.static y).before a0 Z = true) (w3 : (Jvm.Cond.initialized y.cls).before a0 Z = true) (w4 : (Jvm.Cond.code y yb yl none).before a0 Z = true) (hy : y.cls ≠ "java/lang/invoke/MethodHandle" ∧ y.cls ≠ "java/lang/invoke/VarHandle")
    (hpd : parseMethodDescriptor y.desc = some ⟨ps, r⟩) (hlen : aL.length = ps.length) (hstk : st = aL.reverse ++ rest) (hd : decode bytes pc = .ok (.invokestatic idx, 3)) (hsz : ls.size = maxL) (hW : (rest.map fun v => v.category).sum ≤ W)
    (hf : rm.frames + 1 ≤ R.frames) (hl : W + (yl + 11) + rm.locals ≤ R.locals) (hcc : cells + rm.cells ≤ R.cells) (hss : slots + rm.slots ≤ R.slots) (hn : pc + 3 = n)
    (K : ∀ T' h', Q h' → Sd p l e R s m args below meth c n0 T' h' (cells + rm.cells) (slots + rm.slots) → Gl p e below s n0 P C S (T'.setTop (mkF m n ls rest))) : Gl p e below s n0 P C S (T.setTop (mkF m pc ls st)) :=
  gCallS X w aL rest hM w1 w2 w3 w4 hy hpd hlen hstk hd hsz hW hf hl hcc hss hn (fun T' h' v q X => by obtain ⟨rfl, q⟩ := q; exact K T' h' q X)
theorem gCallVv (X : Sd p l e R s m args below meth c n0 T h cells slots) (w : Cx Z own nm bytes maxL ret p s m meth c) {y z : MethodName} {yb : ByteArray} {yl : Nat} {yr : Option FieldType} {rm : Room} {Q : Value → Heap → Prop} {idx W : Nat} {b : Addr} {C0 : String} (aL rest : List Value) {ps : List FieldType} {r : Option FieldType} (E : Exa Z h b C0)
    (hM : ConV l Z z yb yl yr rm (.ref b :: aL).toArray h n0 Q) (w1 : (Jvm.Cond.methodLink own idx y).before a0 Z = true) (w2 : (Jvm.Cond.declares y).before a0 Z = true) (hnf : NotFace s y) (w5 : (Jvm.Cond.selects C0 y z).before a0 Z = true) (w6 : (Jvm.Cond.instanceMethod z).before a0 Z = true) (w3 : (Jvm.Cond.initialized z.cls).before a0 Z = true) (w4 : (Jvm.Cond.code z yb yl yr).before a0 Z = true) (hy : y.cls ≠ "java/lang/invoke/MethodHandle" ∧ y.cls ≠ "java/lang/invoke/VarHandle")
    (hpd : parseMethodDescriptor y.desc = some ⟨ps, r⟩) (hlen : aL.length = ps.length) (hstk : st = aL.reverse ++ .ref b :: rest) (hd : decode bytes pc = .ok (.invokevirtual idx, 3)) (hsz : ls.size = maxL) (hW : (rest.map fun v => v.category).sum ≤ W)
    (hf : rm.frames + 1 ≤ R.frames) (hl : W + (yl + 11) + rm.locals ≤ R.locals) (hcc : cells + rm.cells ≤ R.cells) (hss : slots + rm.slots ≤ R.slots) (hn : pc + 3 = n)
    (K : ∀ T' h' v, Q v h' → Sd p l e R s m args below meth c n0 T' h' (cells + rm.cells) (slots + rm.slots) → Gl p e below s n0 P C S (T'.setTop (mkF m n ls (v :: rest)))) : Gl p e below s n0 P C S (T.setTop (mkF m pc ls st)) :=
  gCallV X w aL rest E hM w1 w2 hnf w5 w6 w3 w4 hy hpd hlen hstk hd hsz hW hf hl hcc hss hn (fun T' h' v q X => by obtain ⟨v', rfl, q⟩ := q; exact K T' h' v' q X)
theorem gCallIn (X : Sd p l e R s m args below meth c n0 T h cells slots) (w : Cx Z own nm bytes maxL ret p s m meth c) {y : MethodName} {yb : ByteArray} {yl : Nat} {rm : Room} {Q : Heap → Prop} {idx W : Nat} {b : Addr} (aL rest : List Value) {ps : List FieldType} {r : Option FieldType} (hy1 : y.name = "<init>")
    (hM : ConN l Z y yb yl rm (.ref b :: aL).toArray h n0 Q) (w1 : (Jvm.Cond.methodLink own idx y).before a0 Z = true) (w2 : (Jvm.Cond.instanceMethod y).before a0 Z = true) (w3 : (Jvm.Cond.initialized y.cls).before a0 Z = true) (w4 : (Jvm.Cond.code y yb yl none).before a0 Z = true) (hy : y.cls ≠ "java/lang/invoke/MethodHandle" ∧ y.cls ≠ "java/lang/invoke/VarHandle")
    (hpd : parseMethodDescriptor y.desc = some ⟨ps, r⟩) (hlen : aL.length = ps.length) (hstk : st = aL.reverse ++ .ref b :: rest) (hd : decode bytes pc = .ok (.invokespecial idx, 3)) (hsz : ls.size = maxL) (hW : (rest.map fun v => v.category).sum ≤ W)
    (hf : rm.frames + 1 ≤ R.frames) (hl : W + (yl + 11) + rm.locals ≤ R.locals) (hcc : cells + rm.cells ≤ R.cells) (hss : slots + rm.slots ≤ R.slots) (hn : pc + 3 = n)
    (K : ∀ T' h', Q h' → Sd p l e R s m args below meth c n0 T' h' (cells + rm.cells) (slots + rm.slots) → Gl p e below s n0 P C S (T'.setTop (mkF m n ls rest))) : Gl p e below s n0 P C S (T.setTop (mkF m pc ls st)) :=
  gCallI X w aL rest hy1 hM w1 w2 w3 w4 hy hpd hlen hstk hd hsz hW hf hl hcc hss hn (fun T' h' v q X => by obtain ⟨rfl, q⟩ := q; exact K T' h' q X)
theorem gInitO (X : Sd p l e R s m args below meth c n0 T h cells slots) (w : Cx Z own nm bytes maxL ret p s m meth c) {idx W : Nat} {a : Addr} (w1 : (Jvm.Cond.methodLink own idx Lib.objectInit).before a0 Z = true) (w2 : (Jvm.Cond.instanceMethod Lib.objectInit).before a0 Z = true) (w3 : (Jvm.Cond.code Lib.objectInit ⟨#[0xb1]⟩ 1 none).before a0 Z = true) (hd : decode bytes pc = .ok (.invokespecial idx, 3)) (hsz : ls.size = maxL) (hf : 1 ≤ R.frames) (hW : (st.map fun v => v.category).sum ≤ W) (hl : W + 12 ≤ R.locals) (hn : pc + 3 = n)
    (K : ∀ T', Sd p l e R s m args below meth c n0 T' h cells slots → Gl p e below s n0 P C S (T'.setTop (mkF m n ls st))) : Gl p e below s n0 P C S (T.setTop (mkF m pc ls (.ref a :: st))) := by
  obtain ⟨locs, X, N, eh, hn0⟩ := X; obtain ⟨hx, hby, hZ, hown, -, hml, -⟩ := w; subst hn
  obtain ⟨T', X', e', st'⟩ := initO X hx hZ hown w1 w2 w3 eh (g := mkF m pc ls (.ref a :: st)) rfl (by rw [hml]; exact hsz) rfl (hb hby hd) hf (W := W) (by show 2 * 0 + _ ≤ _; rw [Nat.mul_zero, Nat.zero_add]; exact hW) hl
  exact Gl.of st' (K T' ⟨_, X', N, e', hn0⟩)
theorem gNew (X : Sd p l e R s m args below meth c n0 T h cells slots) (w : Cx Z own nm bytes maxL ret p s m meth c) {C0 : String} {idx k : Nat} (w1 : (Jvm.Cond.classLink own idx C0).before a0 Z = true) (w2 : (Jvm.Cond.instantiable C0 k).before a0 Z = true) (w3 : (Jvm.Cond.initialized C0).before a0 Z = true) (hd : decode bytes pc = .ok (.new idx, 3)) (hc : cells + 1 ≤ R.cells) (hl : slots + k ≤ R.slots) (hn : pc + 3 = n)
    (K : ∀ T' h' a, a = h.size → n0 ≤ a → Sd p l e R s m args below meth c n0 T' h' (cells + 1) (slots + k) → Ext h h' → Exa Z h' a C0 → (∀ {O nm d : String} {ty : FieldType}, Laid Z a0 C0 O nm d → parseFieldDescriptor d = some ty → Fld Z h' a O nm d (defaultValue ty)) → Gl p e below s n0 P C S (T'.setTop (mkF m n ls (.ref a :: st)))) : Gl p e below s n0 P C S (T.setTop (mkF m pc ls st)) := by
  obtain ⟨locs, X, N, eh, hn0⟩ := X; obtain ⟨hx, hby, hZ, hown, -, hml, -⟩ := w; subst hn
  obtain ⟨T', h', X', e', E', A', D', -, st'⟩ := newO X hx hZ hown w1 w2 w3 eh (g := mkF m pc ls st) rfl (hb hby hd) hc hl
  exact Gl.of st' (K T' h' h.size rfl (Sd.le ⟨_, X, N, eh, hn0⟩) ⟨_, X', N, e', hn0⟩ E' A' D')
theorem gGetF (X : Sd p l e R s m args below meth c n0 T h cells slots) (w : Cx Z own nm bytes maxL ret p s m meth c) {R0 O fn d : String} {idx : Nat} {a : Addr} {v : Value} (w1 : (Jvm.Cond.fieldLink own idx R0 fn d).before a0 Z = true) (via : Via Z R0 O fn d) (F : Fld Z h a O fn d v) (hd : decode bytes pc = .ok (.getfield idx, 3)) (hn : pc + 3 = n)
    (K : ∀ T', Sd p l e R s m args below meth c n0 T' h cells slots → Gl p e below s n0 P C S (T'.setTop (mkF m n ls (v :: st)))) : Gl p e below s n0 P C S (T.setTop (mkF m pc ls (.ref a :: st))) := by
  obtain ⟨locs, X, N, eh, hn0⟩ := X; obtain ⟨hx, hby, hZ, hown, -, hml, -⟩ := w; subst hn
  obtain ⟨T', X', e', st'⟩ := getF X hx hZ hown (host := "") (Or.inl w1) via eh F (g := mkF m pc ls (.ref a :: st)) rfl rfl (hb hby hd)
  exact Gl.of st' (K T' ⟨_, X', N, e', hn0⟩)
theorem gGetS (X : Sd p l e R s m args below meth c n0 T h cells slots) (w : Cx Z own nm bytes maxL ret p s m meth c) {R0 O fn d : String} {idx : Nat} {v : Value} (w1 : (Jvm.Cond.fieldLink own idx R0 fn d).before a0 Z = true) (via : Via Z R0 O fn d) (F : Sta Z h O fn d v) (hd : decode bytes pc = .ok (.getstatic idx, 3)) (hn : pc + 3 = n)
    (K : ∀ T', Sd p l e R s m args below meth c n0 T' h cells slots → Gl p e below s n0 P C S (T'.setTop (mkF m n ls (v :: st)))) : Gl p e below s n0 P C S (T.setTop (mkF m pc ls st)) := by
  obtain ⟨locs, X, N, eh, hn0⟩ := X; obtain ⟨hx, hby, hZ, hown, -, hml, -⟩ := w; subst hn
  obtain ⟨T', X', e', st'⟩ := getS X hx hZ hown (host := "") w1 via eh F (g := mkF m pc ls st) rfl (hb hby hd)
  exact Gl.of st' (K T' ⟨_, X', N, e', hn0⟩)
theorem gPutF (X : Sd p l e R s m args below meth c n0 T h cells slots) (w : Cx Z own nm bytes maxL ret p s m meth c) {R0 O fn d C0 : String} {idx k : Nat} {ty : FieldType} {a : Addr} {v old : Value} (w1 : (Jvm.Cond.fieldLink own idx R0 fn d).before a0 Z = true) (via : Via Z R0 O fn d) (F : Fld Z h a O fn d old) (E : Exa Z h a C0) (hL : (Jvm.Cond.lays C0 O fn d).before a0 Z = true ∨ ((Jvm.Cond.laysFinal C0 O fn d).before a0 Z = true ∧ own = O ∧ nm = "<init>")) (w2 : (Jvm.Cond.instantiable C0 k).before a0 Z = true) (ha : n0 ≤ a)
    (hty : parseFieldDescriptor d = some ty) (hnar : narrow ty v = v) (hfit : fits ty v = true) (hd : decode bytes pc = .ok (.putfield idx, 3)) (hn : pc + 3 = n)
    (K : ∀ T' h', Sd p l e R s m args below meth c n0 T' h' cells slots → Wr h h' a (Jvm.RoadKit.slotOf Z O fn d) v → Gl p e below s n0 P C S (T'.setTop (mkF m n ls st))) : Gl p e below s n0 P C S (T.setTop (mkF m pc ls (v :: .ref a :: st))) := by
  obtain ⟨locs, X, N, eh, hn0⟩ := X; obtain ⟨hx, hby, hZ, hown, hnm, hml, -⟩ := w; subst hn
  obtain ⟨T', h', X', e', W', st'⟩ := putF X hx hZ hown (host := "") (Or.inl w1) via eh F E (hL.imp id fun q => ⟨q.1, q.2.1, hnm.trans q.2.2⟩) w2 hty hnar hfit (g := mkF m pc ls (v :: .ref a :: st)) rfl rfl (hb hby hd)
  exact Gl.of st' (K T' h' ⟨_, X', Fr.snoc X' N ha, e', hn0⟩ W')
/-- an array with its values -/
def Av (Z : State) (h : Heap) (a : Addr) (ty : FieldType) (vs : List Value) : Prop := ∃ c : Cell, Arr Z h a c ty ∧ c.slots = vs.toArray
theorem Av.lt {a : Addr} {ty : FieldType} {vs : List Value} (F : Av Z h a ty vs) : a < h.size := by obtain ⟨c, A, -⟩ := F; exact A.lt
theorem Av.ext {h' : Heap} {a : Addr} {ty : FieldType} {vs : List Value} (F : Av Z h a ty vs) (E : Ext h h') : Av Z h' a ty vs := by obtain ⟨c, A, q⟩ := F; exact ⟨c, A.ext E, q⟩
theorem Av.other {h' : Heap} {a b : Addr} {sl : Nat} {v : Value} {ty : FieldType} {vs : List Value} (F : Av Z h b ty vs) (W : Wr h h' a sl v) (ne : b ≠ a) : Av Z h' b ty vs := by obtain ⟨c, A, q⟩ := F; exact ⟨c, A.other W ne, q⟩
theorem Av.keep {h' : Heap} {a : Addr} {ty : FieldType} {vs : List Value} {ws : List Addr} (F : Av Z h a ty vs) (K : Keep h h' ws) (ne : a ∉ ws) : Av Z h' a ty vs := by obtain ⟨c, A, q⟩ := F; exact ⟨c, ⟨K.2.1 a c A.1 ne, A.2⟩, q⟩
theorem Av.set {h' : Heap} {a : Addr} {sl : Nat} {v : Value} {ty : FieldType} {vs : List Value} (F : Av Z h a ty vs) (W : Wr h h' a sl v) : Av Z h' a ty (vs.set sl v) := by
  obtain ⟨c, A, q⟩ := F
  exact ⟨_, A.same W, by show c.slots.setIfInBounds sl v = _; rw [q]; simp⟩
theorem neOf {x a : Addr} {h : Heap} (h1 : x < h.size) (h2 : h.size ≤ a) : x ≠ a := fun e => absurd (Nat.lt_of_lt_of_le h1 h2) (by rw [e]; exact Nat.lt_irrefl _)
theorem staKeep {h' : Heap} {O fn d : String} {v : Value} {ws : List Addr} (F : Sta Z h O fn d v) (K : Keep h h' ws) (hp : ∀ x ∈ ws, ∀ c : Cell, h[x]? = some c → c.vm.isStatics = false) : Sta Z h' O fn d v := by
  obtain ⟨cf, i, k, f, st, cell, h1, h2, h3, h4, h5, h6, h7⟩ := F
  exact ⟨cf, i, k, f, st, cell, h1, h2, h3, h4, K.2.1 _ _ h5 (fun q => by rw [hp _ q _ h5] at h6; cases h6), h6, h7⟩
theorem idxIn {j : Int32} {vs : List Value} {c : Cell} (q : c.slots = vs.toArray) (hj : 0 ≤ j.toInt) (hv : j.toInt < vs.length) : ¬ (j < 0 ∨ c.slots.size ≤ j.toNatClampNeg) := by
  have e := XT.negI32 j
  have hc : j.toNatClampNeg = j.toInt.toNat := rfl
  rintro (g | g)
  · have := e.mp g; omega
  · rw [q] at g; simp only [List.size_toArray] at g; omega
theorem gNewP (X : Sd p l e R s m args below meth c n0 T h cells slots) (w : Cx Z own nm bytes maxL ret p s m meth c) {aty : ArrayType} {k : Int32} {cap : Nat} (w1 : (Jvm.Cond.arrayClass (newarray.typeOf aty)).before a0 Z = true) (hd : decode bytes pc = .ok (.newarray aty, 2)) (hk : 0 ≤ k.toInt) (hcap : k.toInt ≤ cap) (hb' : cap * 8 ≤ 536870912) (hc : cells + 1 ≤ R.cells) (hl : slots + cap ≤ R.slots) {vs : List Value} {ty : FieldType} (hvs : List.replicate k.toInt.toNat (defaultValue (newarray.typeOf aty)) = vs) (hty : newarray.typeOf aty = ty) {ad : String} (had : "[" ++ (newarray.typeOf aty).toString = ad) (hn : pc + 2 = n)
    (K : ∀ T' h' a, a = h.size → n0 ≤ a → Sd p l e R s m args below meth c n0 T' h' (cells + 1) (slots + cap) → Ext h h' → Av Z h' a ty vs → Exa Z h' a ad → Gl p e below s n0 P C S (T'.setTop (mkF m n ls (.ref a :: st)))) : Gl p e below s n0 P C S (T.setTop (mkF m pc ls (.int k :: st))) := by
  obtain ⟨locs, X, N, eh, hn0⟩ := X; obtain ⟨hx, hby, hZ, hown, -, hml, -⟩ := w; subst hn hvs hty
  have e := XT.negI32 k
  have hkc : k.toNatClampNeg = k.toInt.toNat := rfl
  obtain ⟨T', h', cA, X', e', E', A', Ex', st'⟩ := newPE X hx hZ w1 eh (g := mkF m pc ls (.int k :: st)) rfl (hb hby hd) rfl (fun g => by have := e.mp g; omega) (cap := cap) (by omega) hb' hc hl had
  exact Gl.of st' (K T' h' h.size rfl (Sd.le ⟨_, X, N, eh, hn0⟩) ⟨_, X', N, e', hn0⟩ E' ⟨_, A', by show Array.replicate _ _ = _; rw [hkc]; simp⟩ Ex')
theorem gClone (X : Sd p l e R s m args below meth c n0 T h cells slots) (w : Cx Z own nm bytes maxL ret p s m meth c) {idx W cap : Nat} {a : Addr} {ad : String} {ty : FieldType} {vs : List Value} (F : Av Z h a ty vs) (E : Exa Z h a ad) (hfit : ∀ v ∈ vs, fits ty v = true) (w1 : (Jvm.Cond.methodLink own idx ⟨ad, "clone", "()Ljava/lang/Object;"⟩).before a0 Z = true) (w2 : (Jvm.Cond.sameMethod ad "java/lang/Object" "clone" "()Ljava/lang/Object;").before a0 Z = true) (w3 : (Jvm.Cond.native ⟨"java/lang/Object", "clone", "()Ljava/lang/Object;"⟩).before a0 Z = true) (w4 : (Jvm.Cond.instanceMethod ⟨"java/lang/Object", "clone", "()Ljava/lang/Object;"⟩).before a0 Z = true) (w5 : (Jvm.Cond.selects ad ⟨ad, "clone", "()Ljava/lang/Object;"⟩ ⟨"java/lang/Object", "clone", "()Ljava/lang/Object;"⟩).before a0 Z = true) (w6 : (Jvm.Cond.castable ad "java/lang/Cloneable").before a0 Z = true)
    (hd : decode bytes pc = .ok (.invokevirtual idx, 3)) (hsz : ls.size = maxL) (hf : 1 ≤ R.frames) (hW : (st.map fun v => v.category).sum ≤ W) (hl : W + 14 ≤ R.locals) (hcap : vs.length ≤ cap) (hc : cells + 1 ≤ R.cells) (hss : slots + cap ≤ R.slots) (hn : pc + 3 = n)
    (K : ∀ T' h' b, b = h.size → n0 ≤ b → Sd p l e R s m args below meth c n0 T' h' (cells + 1) (slots + cap) → Ext h h' → Av Z h' b ty vs → Exa Z h' b ad → Gl p e below s n0 P C S (T'.setTop (mkF m n ls (.ref b :: st)))) : Gl p e below s n0 P C S (T.setTop (mkF m pc ls (.ref a :: st))) := by
  obtain ⟨locs, X, N, eh, hn0⟩ := X; obtain ⟨hx, hby, hZ, hown, -, hml, -⟩ := w; subst hn
  obtain ⟨cl, A, q⟩ := F
  have FC : FitC Z cl := fitC_of A fun i hi v hv => hfit v (by rw [q] at hv; simp only [List.getElem?_toArray] at hv; exact List.mem_of_getElem? hv)
  obtain ⟨T', h', X', e', E', A', Ex', st'⟩ := cloneA X hx hZ hown w1 w2 w3 w4 w5 w6 eh A E FC (g := mkF m pc ls (.ref a :: st)) rfl (by rw [hml]; exact hsz) rfl (hb hby hd) hf (W := W) (cap := cap) (by show 2 * 0 + _ ≤ _; rw [Nat.mul_zero, Nat.zero_add]; exact hW) hl (by rw [q]; simpa using hcap) hc hss
  exact Gl.of st' (K T' h' h.size rfl (Sd.le ⟨_, X, N, eh, hn0⟩) ⟨_, X', N, e', hn0⟩ E' ⟨_, A', q⟩ Ex')
theorem gCast (X : Sd p l e R s m args below meth c n0 T h cells slots) (w : Cx Z own nm bytes maxL ret p s m meth c) {K0 : String} {idx : Nat} {a : Addr} (w1 : (Jvm.Cond.classLink own idx K0).before a0 Z = true) (F : Ins Z h a K0 true) (hd : decode bytes pc = .ok (.checkcast idx, 3)) (hn : pc + 3 = n)
    (K : ∀ T', Sd p l e R s m args below meth c n0 T' h cells slots → Gl p e below s n0 P C S (T'.setTop (mkF m n ls (.ref a :: st)))) : Gl p e below s n0 P C S (T.setTop (mkF m pc ls (.ref a :: st))) := by
  obtain ⟨locs, X, N, eh, hn0⟩ := X; obtain ⟨hx, hby, hZ, hown, -, hml, -⟩ := w; subst hn
  obtain ⟨T', X', e', st'⟩ := castY X hx hZ hown w1 eh F (g := mkF m pc ls (.ref a :: st)) rfl rfl (hb hby hd)
  exact Gl.of st' (K T' ⟨_, X', N, e', hn0⟩)
theorem gInstY (X : Sd p l e R s m args below meth c n0 T h cells slots) (w : Cx Z own nm bytes maxL ret p s m meth c) {K0 : String} {idx : Nat} {a : Addr} (w1 : (Jvm.Cond.classLink own idx K0).before a0 Z = true) (F : Ins Z h a K0 true) (hd : decode bytes pc = .ok (.instanceof idx, 3)) (hn : pc + 3 = n)
    (K : ∀ T', Sd p l e R s m args below meth c n0 T' h cells slots → Gl p e below s n0 P C S (T'.setTop (mkF m n ls (.int 1 :: st)))) : Gl p e below s n0 P C S (T.setTop (mkF m pc ls (.ref a :: st))) := by
  obtain ⟨locs, X, N, eh, hn0⟩ := X; obtain ⟨hx, hby, hZ, hown, -, hml, -⟩ := w; subst hn
  obtain ⟨T', X', e', st'⟩ := instY X hx hZ hown w1 eh F (g := mkF m pc ls (.ref a :: st)) rfl rfl (hb hby hd)
  exact Gl.of st' (K T' ⟨_, X', N, e', hn0⟩)
theorem gIastore (X : Sd p l e R s m args below meth c n0 T h cells slots) (w : Cx Z own nm bytes maxL ret p s m meth c) {a : Addr} {j : Int32} {x : Int32} {z : Value} {vs : List Value} (F : Av Z h a .int vs) (hj : 0 ≤ j.toInt) (hjv : j.toInt < vs.length) (ha : n0 ≤ a) (hz : Value.int x = z) {vs' : List Value} (hvs : vs.set j.toInt.toNat z = vs') (hd : decode bytes pc = .ok (.iastore, 1)) (hn : pc + 1 = n)
    (K : ∀ T' h', Sd p l e R s m args below meth c n0 T' h' cells slots → Wr h h' a j.toInt.toNat z → Av Z h' a .int vs' → Gl p e below s n0 P C S (T'.setTop (mkF m n ls st))) : Gl p e below s n0 P C S (T.setTop (mkF m pc ls (.int x :: .int j :: .ref a :: st))) := by
  obtain ⟨locs, X, N, eh, hn0⟩ := X; obtain ⟨hx, hby, hZ, hown, hnm, hml, -⟩ := w; subst hn hz hvs
  obtain ⟨cl, A, q⟩ := F
  obtain ⟨T', h', X', e', W', st'⟩ := stI X hx hZ eh A (j := j) (idxIn q hj hjv) (g := mkF m pc ls (.int x :: .int j :: .ref a :: st)) rfl rfl (hb hby hd)
  exact Gl.of st' (K T' h' ⟨_, X', Fr.snoc X' N ha, e', hn0⟩ W' (Av.set ⟨cl, A, q⟩ W'))
theorem gLastore (X : Sd p l e R s m args below meth c n0 T h cells slots) (w : Cx Z own nm bytes maxL ret p s m meth c) {a : Addr} {j : Int32} {x : Int64} {z : Value} {vs : List Value} (F : Av Z h a .long vs) (hj : 0 ≤ j.toInt) (hjv : j.toInt < vs.length) (ha : n0 ≤ a) (hz : Value.long x = z) {vs' : List Value} (hvs : vs.set j.toInt.toNat z = vs') (hd : decode bytes pc = .ok (.lastore, 1)) (hn : pc + 1 = n)
    (K : ∀ T' h', Sd p l e R s m args below meth c n0 T' h' cells slots → Wr h h' a j.toInt.toNat z → Av Z h' a .long vs' → Gl p e below s n0 P C S (T'.setTop (mkF m n ls st))) : Gl p e below s n0 P C S (T.setTop (mkF m pc ls (.long x :: .int j :: .ref a :: st))) := by
  obtain ⟨locs, X, N, eh, hn0⟩ := X; obtain ⟨hx, hby, hZ, hown, hnm, hml, -⟩ := w; subst hn hz hvs
  obtain ⟨cl, A, q⟩ := F
  obtain ⟨T', h', X', e', W', st'⟩ := stJ X hx hZ eh A (j := j) (idxIn q hj hjv) (g := mkF m pc ls (.long x :: .int j :: .ref a :: st)) rfl rfl (hb hby hd)
  exact Gl.of st' (K T' h' ⟨_, X', Fr.snoc X' N ha, e', hn0⟩ W' (Av.set ⟨cl, A, q⟩ W'))
theorem gCastore (X : Sd p l e R s m args below meth c n0 T h cells slots) (w : Cx Z own nm bytes maxL ret p s m meth c) {a : Addr} {j : Int32} {x : Int32} {z : Value} {vs : List Value} (F : Av Z h a .char vs) (hj : 0 ≤ j.toInt) (hjv : j.toInt < vs.length) (ha : n0 ≤ a) (hz : Value.int (nar .char x) = z) {vs' : List Value} (hvs : vs.set j.toInt.toNat z = vs') (hd : decode bytes pc = .ok (.castore, 1)) (hn : pc + 1 = n)
    (K : ∀ T' h', Sd p l e R s m args below meth c n0 T' h' cells slots → Wr h h' a j.toInt.toNat z → Av Z h' a .char vs' → Gl p e below s n0 P C S (T'.setTop (mkF m n ls st))) : Gl p e below s n0 P C S (T.setTop (mkF m pc ls (.int x :: .int j :: .ref a :: st))) := by
  obtain ⟨locs, X, N, eh, hn0⟩ := X; obtain ⟨hx, hby, hZ, hown, hnm, hml, -⟩ := w; subst hn hz hvs
  obtain ⟨cl, A, q⟩ := F
  obtain ⟨T', h', X', e', W', st'⟩ := stC X hx hZ eh A (j := j) (idxIn q hj hjv) (g := mkF m pc ls (.int x :: .int j :: .ref a :: st)) rfl rfl (hb hby hd)
  exact Gl.of st' (K T' h' ⟨_, X', Fr.snoc X' N ha, e', hn0⟩ W' (Av.set ⟨cl, A, q⟩ W'))
theorem gBastore (X : Sd p l e R s m args below meth c n0 T h cells slots) (w : Cx Z own nm bytes maxL ret p s m meth c) {a : Addr} {j : Int32} {x : Int32} {z : Value} {vs : List Value} (F : Av Z h a .byte vs) (hj : 0 ≤ j.toInt) (hjv : j.toInt < vs.length) (ha : n0 ≤ a) (hz : Value.int (nar .byte x) = z) {vs' : List Value} (hvs : vs.set j.toInt.toNat z = vs') (hd : decode bytes pc = .ok (.bastore, 1)) (hn : pc + 1 = n)
    (K : ∀ T' h', Sd p l e R s m args below meth c n0 T' h' cells slots → Wr h h' a j.toInt.toNat z → Av Z h' a .byte vs' → Gl p e below s n0 P C S (T'.setTop (mkF m n ls st))) : Gl p e below s n0 P C S (T.setTop (mkF m pc ls (.int x :: .int j :: .ref a :: st))) := by
  obtain ⟨locs, X, N, eh, hn0⟩ := X; obtain ⟨hx, hby, hZ, hown, hnm, hml, -⟩ := w; subst hn hz hvs
  obtain ⟨cl, A, q⟩ := F
  obtain ⟨T', h', X', e', W', st'⟩ := stB X hx hZ eh A (j := j) (idxIn q hj hjv) (g := mkF m pc ls (.int x :: .int j :: .ref a :: st)) rfl rfl (hb hby hd)
  exact Gl.of st' (K T' h' ⟨_, X', Fr.snoc X' N ha, e', hn0⟩ W' (Av.set ⟨cl, A, q⟩ W'))
theorem gIaload (X : Sd p l e R s m args below meth c n0 T h cells slots) (w : Cx Z own nm bytes maxL ret p s m meth c) {a : Addr} {j : Int32} {v : Value} {vs : List Value} (F : Av Z h a .int vs) (hj : 0 ≤ j.toInt) (hv : vs[j.toInt.toNat]? = some v) (hd : decode bytes pc = .ok (.iaload, 1)) (hn : pc + 1 = n) (K : Gl p e below s n0 P C S (T.setTop (mkF m n ls (v :: st)))) : Gl p e below s n0 P C S (T.setTop (mkF m pc ls (.int j :: .ref a :: st))) := by
  obtain ⟨locs, X, N, eh, hn0⟩ := X; obtain ⟨hx, hby, hZ, hown, hnm, hml, -⟩ := w; subst hn
  obtain ⟨cl, A, q⟩ := F
  have hlt : j.toInt.toNat < vs.length := (List.getElem?_eq_some_iff.mp hv).1
  exact Gl.of (fun t k => X.iaload hx (j := j) (v := v) (by rw [eh]; exact A.1) (State.isArrayOf_alike hZ.alike A.2.1) A.2.2 (idxIn q hj (by omega)) (by rw [q]; show vs.toArray[j.toInt.toNat]? = _; simpa using hv) (g := mkF m pc ls (.int j :: .ref a :: st)) rfl rfl (hb hby hd) _ k) K
theorem gCaload (X : Sd p l e R s m args below meth c n0 T h cells slots) (w : Cx Z own nm bytes maxL ret p s m meth c) {a : Addr} {j : Int32} {v : Value} {vs : List Value} (F : Av Z h a .char vs) (hj : 0 ≤ j.toInt) (hv : vs[j.toInt.toNat]? = some v) (hd : decode bytes pc = .ok (.caload, 1)) (hn : pc + 1 = n) (K : Gl p e below s n0 P C S (T.setTop (mkF m n ls (v :: st)))) : Gl p e below s n0 P C S (T.setTop (mkF m pc ls (.int j :: .ref a :: st))) := by
  obtain ⟨locs, X, N, eh, hn0⟩ := X; obtain ⟨hx, hby, hZ, hown, hnm, hml, -⟩ := w; subst hn
  obtain ⟨cl, A, q⟩ := F
  have hlt : j.toInt.toNat < vs.length := (List.getElem?_eq_some_iff.mp hv).1
  exact Gl.of (fun t k => X.caload hx (j := j) (v := v) (by rw [eh]; exact A.1) (State.isArrayOf_alike hZ.alike A.2.1) A.2.2 (idxIn q hj (by omega)) (by rw [q]; show vs.toArray[j.toInt.toNat]? = _; simpa using hv) (g := mkF m pc ls (.int j :: .ref a :: st)) rfl rfl (hb hby hd) _ k) K
theorem gBaload (X : Sd p l e R s m args below meth c n0 T h cells slots) (w : Cx Z own nm bytes maxL ret p s m meth c) {a : Addr} {j : Int32} {v : Value} {vs : List Value} (F : Av Z h a .byte vs) (hj : 0 ≤ j.toInt) (hv : vs[j.toInt.toNat]? = some v) (hd : decode bytes pc = .ok (.baload, 1)) (hn : pc + 1 = n) (K : Gl p e below s n0 P C S (T.setTop (mkF m n ls (v :: st)))) : Gl p e below s n0 P C S (T.setTop (mkF m pc ls (.int j :: .ref a :: st))) := by
  obtain ⟨locs, X, N, eh, hn0⟩ := X; obtain ⟨hx, hby, hZ, hown, hnm, hml, -⟩ := w; subst hn
  obtain ⟨cl, A, q⟩ := F
  have hlt : j.toInt.toNat < vs.length := (List.getElem?_eq_some_iff.mp hv).1
  exact Gl.of (fun t k => X.baloadBytes hx (j := j) (v := v) (by rw [eh]; exact A.1) (State.isArrayOf_alike hZ.alike A.2.1) A.2.2 (idxIn q hj (by omega)) (by rw [q]; show vs.toArray[j.toInt.toNat]? = _; simpa using hv) (g := mkF m pc ls (.int j :: .ref a :: st)) rfl rfl (hb hby hd) _ k) K
theorem gLaload (X : Sd p l e R s m args below meth c n0 T h cells slots) (w : Cx Z own nm bytes maxL ret p s m meth c) {a : Addr} {j : Int32} {v : Value} {vs : List Value} (F : Av Z h a .long vs) (hj : 0 ≤ j.toInt) (hv : vs[j.toInt.toNat]? = some v) (hd : decode bytes pc = .ok (.laload, 1)) (hn : pc + 1 = n) (K : Gl p e below s n0 P C S (T.setTop (mkF m n ls (v :: st)))) : Gl p e below s n0 P C S (T.setTop (mkF m pc ls (.int j :: .ref a :: st))) := by
  obtain ⟨locs, X, N, eh, hn0⟩ := X; obtain ⟨hx, hby, hZ, hown, hnm, hml, -⟩ := w; subst hn
  obtain ⟨cl, A, q⟩ := F
  have hlt : j.toInt.toNat < vs.length := (List.getElem?_eq_some_iff.mp hv).1
  exact Gl.of (fun t k => X.laload hx (j := j) (v := v) (by rw [eh]; exact A.1) (State.isArrayOf_alike hZ.alike A.2.1) A.2.2 (idxIn q hj (by omega)) (by rw [q]; show vs.toArray[j.toInt.toNat]? = _; simpa using hv) (g := mkF m pc ls (.int j :: .ref a :: st)) rfl rfl (hb hby hd) _ k) K
theorem Av.arv {a : Addr} {ty : FieldType} {vs : List Value} (dv : Value) (F : Av Z h a ty vs) (hf : ∀ v ∈ vs, fits ty v = true) (hl : vs.length < 2 ^ 31) : ∃ k, Arv Z h a k ty vs.length.toInt32 vs dv := by
  obtain ⟨c, A, q⟩ := F
  have hz : vs.length.toInt32.toInt = vs.length := len_toInt hl
  have hc : vs.length.toInt32.toNatClampNeg = vs.length := by show vs.length.toInt32.toInt.toNat = _; rw [hz]; rfl
  have hs : c.slots.size = vs.length := by rw [q]; simp
  refine ⟨c.cls, c, A, rfl, by rw [hc, hs], fun g => by have := (XT.negI32 _).mp g; omega, fun i hi => ?_, fun i hi => ?_⟩
  · rw [hs] at hi; rw [q]; simp [hi]
  · rw [hs] at hi; rw [List.getD_eq_getElem?_getD, List.getElem?_eq_getElem hi]; exact hf _ (List.getElem_mem hi)
theorem avOf {a : Addr} {k : ClassId} {ty : FieldType} {z : Int32} {vs : List Value} {dv : Value} (F : Arv Z h a k ty z vs dv) (hl : z.toNatClampNeg = vs.length) : Av Z h a ty vs := by
  obtain ⟨c, A, -, S, -, H, -⟩ := F
  refine ⟨c, A, Array.ext_getElem? fun i => ?_⟩
  by_cases hi : i < c.slots.size
  · rw [H i hi]; rw [S, hl] at hi; simp [hi]
  · rw [Array.getElem?_eq_none (by omega)]; rw [S, hl] at hi; simp; omega
theorem gAcopy (X : Sd p l e R s m args below meth c n0 T h cells slots) (w : Cx Z own nm bytes maxL ret p s m meth c) {idx W : Nat} {a b : Addr} {ty : FieldType} {va vb vs' : List Value} {sp dp nn : Int32} (dv : Value) (A : Av Z h a ty va) (B : Av Z h b ty vb) (hty : refKind ty = false) (fa : ∀ v ∈ va, fits ty v = true) (fb : ∀ v ∈ vb, fits ty v = true) (la : va.length < 2 ^ 31) (lb : vb.length < 2 ^ 31)
    (w1 : (Jvm.Cond.methodLink own idx Jvm.Stand.acN).before a0 Z = true) (w2 : (Jvm.Cond.native Jvm.Stand.acN).before a0 Z = true) (w3 : (Jvm.Cond.static Jvm.Stand.acN).before a0 Z = true) (w4 : (Jvm.Cond.initialized "java/lang/System").before a0 Z = true)
    (h1 : 0 ≤ sp.toInt) (h2 : 0 ≤ dp.toInt) (h3 : 0 ≤ nn.toInt) (h4 : sp.toInt + nn.toInt ≤ va.length) (h5 : dp.toInt + nn.toInt ≤ vb.length) (hvs : vb.take dp.toInt.toNat ++ ((List.range nn.toInt.toNat).map fun i => va.getD (sp.toInt.toNat + i) dv) ++ vb.drop (dp.toInt.toNat + nn.toInt.toNat) = vs') (ge : n0 ≤ b)
    (hd : decode bytes pc = .ok (.invokestatic idx, 3)) (hsz : ls.size = maxL) (hf : 1 ≤ R.frames) (hW : (st.map fun v => v.category).sum ≤ W) (hl : W + (nativeFrameWords "java/lang/System" "arraycopy" 5 + 11) ≤ R.locals) (hn : pc + 3 = n)
    (K : ∀ T' h', Sd p l e R s m args below meth c n0 T' h' cells slots → Keep h h' [b] → Av Z h' b ty vs' → Gl p e below s n0 P C S (T'.setTop (mkF m n ls st))) : Gl p e below s n0 P C S (T.setTop (mkF m pc ls (.int nn :: .int dp :: .ref b :: .int sp :: .ref a :: st))) := by
  obtain ⟨locs, X, N, eh, hn0⟩ := X; obtain ⟨hx, hby, hZ, hown, -, hml, -⟩ := w; subst hn hvs
  obtain ⟨ka, A⟩ := A.arv dv fa la
  obtain ⟨kb, B⟩ := B.arv dv fb lb
  have za : va.length.toInt32.toNatClampNeg = va.length := by show va.length.toInt32.toInt.toNat = _; rw [len_toInt la]; rfl
  have zb : vb.length.toInt32.toNatClampNeg = vb.length := by show vb.length.toInt32.toInt.toNat = _; rw [len_toInt lb]; rfl
  have n1 : ¬ sp < 0 := fun g => by have := (XT.negI32 _).mp g; omega
  have n2 : ¬ dp < 0 := fun g => by have := (XT.negI32 _).mp g; omega
  have n3 : ¬ nn < 0 := fun g => by have := (XT.negI32 _).mp g; omega
  have e1 : sp.toNatClampNeg = sp.toInt.toNat := rfl
  have e2 : dp.toNatClampNeg = dp.toInt.toNat := rfl
  have e3 : nn.toNatClampNeg = nn.toInt.toNat := rfl
  obtain ⟨T', h', L, X', e', N', K', B', st'⟩ := cpA X hx hZ hown w1 w2 w3 w4 eh A B (Or.inl ⟨rfl, hty⟩) n1 n2 n3 (by rw [za, e1, e3]; omega) (by rw [zb, e2, e3]; omega) rfl (by rw [e2, e3]; omega) N ge (g := mkF m pc ls (.int nn :: .int dp :: .ref b :: .int sp :: .ref a :: st)) rfl (by rw [hml]; exact hsz) rfl (hb hby hd) hf (W := W) (by show 2 * 0 + _ ≤ _; rw [Nat.mul_zero, Nat.zero_add]; exact hW) hl
  exact Gl.of st' (K T' h' ⟨L, X', N', e', hn0⟩ K' (avOf B' (by rw [zb, List.length_append, List.length_append, List.length_take, List.length_map, List.length_range, List.length_drop]; omega)))
theorem gAlen (X : Sd p l e R s m args below meth c n0 T h cells slots) (w : Cx Z own nm bytes maxL ret p s m meth c) {a : Addr} {ty : FieldType} {vs : List Value} {z : Int32} (F : Av Z h a ty vs) (hz : vs.length.toInt32 = z) (hd : decode bytes pc = .ok (.arraylength, 1)) (hn : pc + 1 = n) (K : Gl p e below s n0 P C S (T.setTop (mkF m n ls (.int z :: st)))) : Gl p e below s n0 P C S (T.setTop (mkF m pc ls (.ref a :: st))) := by
  obtain ⟨locs, X, N, eh, hn0⟩ := X; obtain ⟨hx, hby, hZ, hown, hnm, hml, -⟩ := w; subst hn hz
  obtain ⟨cl, A, q⟩ := F
  have hs : cl.slots.size = vs.length := by rw [q]; simp
  rw [← hs] at K
  exact Gl.of (fun t k => X.arraylength hx (by rw [eh]; exact A.1) (State.isArrayOf_alike hZ.alike A.2.1) (g := mkF m pc ls (.ref a :: st)) rfl rfl (hb hby hd) _ k) K
theorem eqR {args : Array Value} {s : State} {t u : Term} {b : Addr} (hu : u.eval args s none [] s = some (.ref b)) (h : (Jvm.Cond.eq t u).value args s none s [] = some true) : t.eval args s none [] s = some (.ref b) := by
  obtain ⟨x, y, hx, hy, k1, k2⟩ := cmp_v (Or.inl h)
  cases hu.symm.trans hy
  obtain ⟨-, q⟩ := (k2 : (Value.ref b).isRef = true ∧ x.isRef = true)
  have e := gotT (eq_R hx hy q rfl) h
  rw [hx, e]
theorem eqI {args : Array Value} {s : State} {t u : Term} {z : Int32} (hu : u.eval args s none [] s = some (.int z)) (h : (Jvm.Cond.eq t u).value args s none s [] = some true) : t.eval args s none [] s = some (.int z) := by
  obtain ⟨x, y, hx, hy, k1, k2⟩ := cmp_v (Or.inl h)
  cases hu.symm.trans hy
  obtain ⟨x', rfl⟩ := (k2 : ∃ z', x = .int z')
  have e : some (decide (x' = z)) = some true := by rw [← h]; simp [Cond.value, hx, hy]
  have e' : x' = z := by simpa using e
  rw [hx, e']
theorem mask31 (x : Int32) : (x &&& 2147483647).toInt = x.toInt % 2147483648 := c_mask x 2147483647 31 (by decide) (by decide)
theorem irem_pos {x y : Int32} (hx : 0 ≤ x.toInt) : (x % y).toInt = x.toInt % y.toInt := (c_irem x y _ rfl).1 hx
theorem lrem_pos {x y : Int64} (hx : 0 ≤ x.toInt) : (x % y).toInt = x.toInt % y.toInt := by rw [← lrem_mod]; exact (c_lrem x y _ rfl).1 hx
theorem ne0I {x : Int32} (h : x.toInt ≠ 0) : x ≠ 0 := fun e => h (by rw [e]; rfl)
theorem ne0L {x : Int64} (h : x.toInt ≠ 0) : x ≠ 0 := fun e => h (by rw [e]; rfl)
theorem iadd_toInt {x y : Int32} (h1 : -2147483648 ≤ x.toInt + y.toInt) (h2 : x.toInt + y.toInt < 2147483648) : (x + y).toInt = x.toInt + y.toInt := XT.add32 ⟨by omega, by omega⟩
theorem isub_toInt {x y : Int32} (h1 : -2147483648 ≤ x.toInt - y.toInt) (h2 : x.toInt - y.toInt < 2147483648) : (x - y).toInt = x.toInt - y.toInt := XT.sub32 ⟨by omega, by omega⟩
theorem ladd_toInt {x y : Int64} (h1 : -9223372036854775808 ≤ x.toInt + y.toInt) (h2 : x.toInt + y.toInt < 9223372036854775808) : (x + y).toInt = x.toInt + y.toInt := XT.add64 ⟨by omega, by omega⟩
theorem lsub_toInt {x y : Int64} (h1 : -9223372036854775808 ≤ x.toInt - y.toInt) (h2 : x.toInt - y.toInt < 9223372036854775808) : (x - y).toInt = x.toInt - y.toInt := XT.sub64 ⟨by omega, by omega⟩
theorem l2i_toInt {x : Int64} (h1 : -2147483648 ≤ x.toInt) (h2 : x.toInt < 2147483648) : x.toInt32.toInt = x.toInt := XT.narrowInt ⟨by omega, by omega⟩
end Walk
end Jvm.OwnWalk
namespace Jvm.Pilot.@@N@@
open Jvm Jvm.ClassFile Sem Op Lib Jvm.Free Jvm.Stand Jvm.LawKit Jvm.RoadKit Bundle Jvm.OwnWalk Jvm.Pilot.@@N@@.Jvm.D
theorem own_wd {a0 : Array Value} {Z : State} (hw : ∀ d ∈ tables_1, d.before a0 Z = true) (i : Nat) {d : Jvm.Cond} (q : tables_1[i]? = some d) : d.before a0 Z = true := hw _ (List.mem_of_getElem? q)
theorem own_and3 (x : Int32) : x &&& 3 = 0 ∨ x &&& 3 = 1 ∨ x &&& 3 = 2 ∨ x &&& 3 = 3 := by
  have h := c_mask x 3 2 (by decide) (by decide)
  have h4 : (x &&& 3).toInt = x.toInt % 4 := h
  have k : (x &&& 3).toInt = 0 ∨ (x &&& 3).toInt = 1 ∨ (x &&& 3).toInt = 2 ∨ (x &&& 3).toInt = 3 := by omega
  rcases k with k | k | k | k
  · exact Or.inl (Int32.toInt_inj.mp k)
  · exact Or.inr (Or.inl (Int32.toInt_inj.mp k))
  · exact Or.inr (Or.inr (Or.inl (Int32.toInt_inj.mp k)))
  · exact Or.inr (Or.inr (Or.inr (Int32.toInt_inj.mp k)))
theorem own_narb {x y : Int32} (h : x.toInt8.toInt32 = y) : Value.int (nar .byte y) = .int y := by
  subst h; show Value.int (x.toInt8.toInt32.toInt8.toInt32) = _; congr 1; simp
theorem own_fitb {x y : Int32} (h : x.toInt8.toInt32 = y) : fits .byte (.int y) = true := h ▸ fits_nar_byte x
theorem own_or1 (x : Int32) : (x ||| 1).toInt % 2 = 1 := by
  have h : (x ||| 1) &&& 1 = 1 := by
    apply Int32.toBitVec_inj.mp
    show (x.toBitVec ||| 1#32) &&& 1#32 = 1#32
    ext i hi; simp; omega
  have h2 : ((x ||| 1) &&& 1).toInt = (x ||| 1).toInt % 2 := c_mask (x ||| 1) 1 1 (by decide) (by decide)
  rw [h] at h2; exact h2.symm
theorem own_flip {a d y d0 x : Int32} (hx : d0.toInt8.toInt32 = d) (hd : d0.toInt % 2 = 1) (hy : a ^^^ d = y) (hz : y.toInt8.toInt32 = x) : ¬ x = a := by
  intro e
  have h1 := (c_i2b d0).1; rw [hx] at h1
  have h2 := (c_i2b y).1; rw [hz] at h2
  have h3 := c_xor2 a d; rw [hy] at h3
  subst e; omega
theorem d1_0 : decode prog_15_method_2_code 0 = .ok (.new 8, 3) := by decide +kernel
theorem d1_3 : decode prog_15_method_2_code 3 = .ok (.dup, 1) := by decide +kernel
theorem d1_4 : decode prog_15_method_2_code 4 = .ok (.aload_n 0, 1) := by decide +kernel
theorem d1_5 : decode prog_15_method_2_code 5 = .ok (.invokevirtual 13, 3) := by decide +kernel
theorem d1_8 : decode prog_15_method_2_code 8 = .ok (.checkcast 14, 3) := by decide +kernel
theorem d1_11 : decode prog_15_method_2_code 11 = .ok (.invokespecial 18, 3) := by decide +kernel
theorem d1_14 : decode prog_15_method_2_code 14 = .ok (.areturn, 1) := by decide +kernel
theorem d2_0 : decode prog_15_method_1_code 0 = .ok (.aload_n 0, 1) := by decide +kernel
theorem d2_1 : decode prog_15_method_1_code 1 = .ok (.invokespecial 1, 3) := by decide +kernel
theorem d2_4 : decode prog_15_method_1_code 4 = .ok (.aload_n 0, 1) := by decide +kernel
theorem d2_5 : decode prog_15_method_1_code 5 = .ok (.aload_n 1, 1) := by decide +kernel
theorem d2_6 : decode prog_15_method_1_code 6 = .ok (.putfield 7, 3) := by decide +kernel
theorem d2_9 : decode prog_15_method_1_code 9 = .ok (.return_, 1) := by decide +kernel
theorem d4_0 : decode prog_15_method_3_code 0 = .ok (.aload_n 0, 1) := by decide +kernel
theorem d4_1 : decode prog_15_method_3_code 1 = .ok (.getfield 7, 3) := by decide +kernel
theorem d4_4 : decode prog_15_method_3_code 4 = .ok (.invokevirtual 13, 3) := by decide +kernel
theorem d4_7 : decode prog_15_method_3_code 7 = .ok (.checkcast 14, 3) := by decide +kernel
theorem d4_10 : decode prog_15_method_3_code 10 = .ok (.areturn, 1) := by decide +kernel
theorem d5_0 : decode prog_15_method_4_code 0 = .ok (.aload_n 1, 1) := by decide +kernel
theorem d5_1 : decode prog_15_method_4_code 1 = .ok (.instanceof 8, 3) := by decide +kernel
theorem d5_4 : decode prog_15_method_4_code 4 = .ok (.ifCond .eq 24, 3) := by decide +kernel
theorem d5_7 : decode prog_15_method_4_code 7 = .ok (.aload_n 0, 1) := by decide +kernel
theorem d5_8 : decode prog_15_method_4_code 8 = .ok (.getfield 7, 3) := by decide +kernel
theorem d5_11 : decode prog_15_method_4_code 11 = .ok (.aload_n 1, 1) := by decide +kernel
theorem d5_12 : decode prog_15_method_4_code 12 = .ok (.checkcast 8, 3) := by decide +kernel
theorem d5_15 : decode prog_15_method_4_code 15 = .ok (.getfield 7, 3) := by decide +kernel
theorem d5_18 : decode prog_15_method_4_code 18 = .ok (.invokestatic 21, 3) := by decide +kernel
theorem d5_21 : decode prog_15_method_4_code 21 = .ok (.ifCond .eq 7, 3) := by decide +kernel
theorem d5_24 : decode prog_15_method_4_code 24 = .ok (.iconst 1, 1) := by decide +kernel
theorem d5_25 : decode prog_15_method_4_code 25 = .ok (.goto 4, 3) := by decide +kernel
theorem d5_28 : decode prog_15_method_4_code 28 = .ok (.iconst 0, 1) := by decide +kernel
theorem d5_29 : decode prog_15_method_4_code 29 = .ok (.ireturn, 1) := by decide +kernel
theorem d6_0 : decode jdk_65_method_89_code 0 = .ok (.aload_n 0, 1) := by decide +kernel
theorem d6_1 : decode jdk_65_method_89_code 1 = .ok (.aload_n 1, 1) := by decide +kernel
theorem d6_2 : decode jdk_65_method_89_code 2 = .ok (.if_acmp .ne 5, 3) := by decide +kernel
theorem d6_7 : decode jdk_65_method_89_code 7 = .ok (.aload_n 0, 1) := by decide +kernel
theorem d6_8 : decode jdk_65_method_89_code 8 = .ok (.ifnull 7, 3) := by decide +kernel
theorem d6_11 : decode jdk_65_method_89_code 11 = .ok (.aload_n 1, 1) := by decide +kernel
theorem d6_12 : decode jdk_65_method_89_code 12 = .ok (.ifnonnull 5, 3) := by decide +kernel
theorem d6_17 : decode jdk_65_method_89_code 17 = .ok (.aload_n 0, 1) := by decide +kernel
theorem d6_18 : decode jdk_65_method_89_code 18 = .ok (.arraylength, 1) := by decide +kernel
theorem d6_19 : decode jdk_65_method_89_code 19 = .ok (.istore_n 2, 1) := by decide +kernel
theorem d6_20 : decode jdk_65_method_89_code 20 = .ok (.aload_n 1, 1) := by decide +kernel
theorem d6_21 : decode jdk_65_method_89_code 21 = .ok (.arraylength, 1) := by decide +kernel
theorem d6_22 : decode jdk_65_method_89_code 22 = .ok (.iload_n 2, 1) := by decide +kernel
theorem d6_23 : decode jdk_65_method_89_code 23 = .ok (.if_icmp .eq 5, 3) := by decide +kernel
theorem d6_28 : decode jdk_65_method_89_code 28 = .ok (.aload_n 0, 1) := by decide +kernel
theorem d6_29 : decode jdk_65_method_89_code 29 = .ok (.aload_n 1, 1) := by decide +kernel
theorem d6_30 : decode jdk_65_method_89_code 30 = .ok (.iload_n 2, 1) := by decide +kernel
theorem d6_31 : decode jdk_65_method_89_code 31 = .ok (.invokestatic 272, 3) := by decide +kernel
theorem d6_34 : decode jdk_65_method_89_code 34 = .ok (.ifCond .ge 7, 3) := by decide +kernel
theorem d6_37 : decode jdk_65_method_89_code 37 = .ok (.iconst 1, 1) := by decide +kernel
theorem d6_38 : decode jdk_65_method_89_code 38 = .ok (.goto 4, 3) := by decide +kernel
theorem d6_41 : decode jdk_65_method_89_code 41 = .ok (.iconst 0, 1) := by decide +kernel
theorem d6_42 : decode jdk_65_method_89_code 42 = .ok (.ireturn, 1) := by decide +kernel
theorem d7_0 : decode jdk_48_method_13_code 0 = .ok (.iconst 0, 1) := by decide +kernel
theorem d7_1 : decode jdk_48_method_13_code 1 = .ok (.istore_n 3, 1) := by decide +kernel
theorem d7_2 : decode jdk_48_method_13_code 2 = .ok (.iload_n 2, 1) := by decide +kernel
theorem d7_3 : decode jdk_48_method_13_code 3 = .ok (.bipush 7, 2) := by decide +kernel
theorem d7_5 : decode jdk_48_method_13_code 5 = .ok (.if_icmp .le 44, 3) := by decide +kernel
theorem d7_49 : decode jdk_48_method_13_code 49 = .ok (.iload_n 3, 1) := by decide +kernel
theorem d7_50 : decode jdk_48_method_13_code 50 = .ok (.iload_n 2, 1) := by decide +kernel
theorem d7_51 : decode jdk_48_method_13_code 51 = .ok (.if_icmp .ge 20, 3) := by decide +kernel
theorem d7_54 : decode jdk_48_method_13_code 54 = .ok (.aload_n 0, 1) := by decide +kernel
theorem d7_55 : decode jdk_48_method_13_code 55 = .ok (.iload_n 3, 1) := by decide +kernel
theorem d7_56 : decode jdk_48_method_13_code 56 = .ok (.baload, 1) := by decide +kernel
theorem d7_57 : decode jdk_48_method_13_code 57 = .ok (.aload_n 1, 1) := by decide +kernel
theorem d7_58 : decode jdk_48_method_13_code 58 = .ok (.iload_n 3, 1) := by decide +kernel
theorem d7_59 : decode jdk_48_method_13_code 59 = .ok (.baload, 1) := by decide +kernel
theorem d7_60 : decode jdk_48_method_13_code 60 = .ok (.if_icmp .eq 5, 3) := by decide +kernel
theorem d7_63 : decode jdk_48_method_13_code 63 = .ok (.iload_n 3, 1) := by decide +kernel
theorem d7_64 : decode jdk_48_method_13_code 64 = .ok (.ireturn, 1) := by decide +kernel
theorem d7_65 : decode jdk_48_method_13_code 65 = .ok (.iinc 3 1, 3) := by decide +kernel
theorem d7_68 : decode jdk_48_method_13_code 68 = .ok (.goto (-19), 3) := by decide +kernel
theorem d7_71 : decode jdk_48_method_13_code 71 = .ok (.iconst (-1), 1) := by decide +kernel
theorem d7_72 : decode jdk_48_method_13_code 72 = .ok (.ireturn, 1) := by decide +kernel
theorem own_pd0 : parseMethodDescriptor "([B)V" = some ⟨[(.array .byte)], none⟩ := by decide +kernel
theorem own_pd1 : parseMethodDescriptor "([B[BI)I" = some ⟨[(.array .byte), (.array .byte), .int], some .int⟩ := by decide +kernel
theorem own_pd2 : parseMethodDescriptor "([B[B)Z" = some ⟨[(.array .byte), (.array .byte)], some .boolean⟩ := by decide +kernel
theorem own_pd3 : parseMethodDescriptor "([B)Lcom/example/cassalink/cassalink/row/Blob;" = some ⟨[(.array .byte)], some (.object "com/example/cassalink/cassalink/row/Blob")⟩ := by decide +kernel
theorem own_pd4 : parseMethodDescriptor "()[B" = some ⟨[], some (.array .byte)⟩ := by decide +kernel
theorem own_pd5 : parseMethodDescriptor "(Ljava/lang/Object;)Z" = some ⟨[(.object "java/lang/Object")], some .boolean⟩ := by decide +kernel
set_option maxRecDepth 65536 in
set_option maxHeartbeats 40000000 in
theorem own_init (l : Launch) (Z : State) (a0 : Array Value) (hw : ∀ d ∈ tables_1, d.before a0 Z = true) (a b1 : Addr) (h0 : Heap) (n0 : Nat) (hn : n0 ≤ h0.size) (na : n0 ≤ a) (A0 : Exa Z h0 a "com/example/cassalink/cassalink/row/Blob") (F0 : Fld Z h0 a "com/example/cassalink/cassalink/row/Blob" "bytes" "[B" .null) :
    ConN l Z (⟨"com/example/cassalink/cassalink/row/Blob", "<init>", "([B)V"⟩ : MethodName) prog_15_method_1_code 2 ({ frames := 1, cells := 0, slots := 0, locals := 12 } : Room) #[(.ref a), (.ref b1)] h0 n0 (fun h => Keep h0 h [a] ∧ Exa Z h a "com/example/cassalink/cassalink/row/Blob" ∧ Fld Z h a "com/example/cassalink/cassalink/row/Blob" "bytes" "[B" (.ref b1)) := by
  refine Con.of (plainFor_of_name (by first | (simp [plainName, overriddenIn]; done) | decide +kernel)) hn ?_
  intro p e s m below meth c T w X
  refine Gl.enter (ls := #[.val (.ref a), .val (.ref b1)]) (by first | rfl | (simp [entryFrame, mkF, argsToLocals, Value.category]; done)) ?_
  refine gAloadN X w d2_0 rfl rfl (n := 1) rfl ?_
  refine gInitO X w (own_wd hw 19 rfl) (own_wd hw 20 rfl) (own_wd hw 21 rfl) d2_1 rfl (by decide) (W := 0) (Nat.le_of_eq rfl) (by decide) (n := 4) rfl ?_
  intro T X
  refine gAloadN X w d2_4 rfl rfl (n := 5) rfl ?_
  refine gAloadN X w d2_5 rfl rfl (n := 6) rfl ?_
  refine gPutF X w (own_wd hw 22 rfl) Via.refl F0 A0 (Or.inr ⟨own_wd hw 23 rfl, rfl, rfl⟩) (own_wd hw 6 rfl) na (ty := (.array .byte)) (by decide) rfl rfl d2_6 (n := 9) rfl ?_
  intro T hp6 X W6
  have F_1 := A0.wr W6
  have F_2 := F0.same W6
  exact gRetV X w rfl d2_9 (by decide) (by decide) (⟨rfl, (Keep.refl _ _).wr W6 (Or.inl (List.mem_singleton.mpr rfl)), F_1, F_2⟩)
set_option maxRecDepth 65536 in
set_option maxHeartbeats 40000000 in
theorem own_of_0 (l : Launch) (Z : State) (a0 : Array Value) (hw : ∀ d ∈ tables_1, d.before a0 Z = true) (a : Addr) (h0 : Heap) (n0 : Nat) (hn : n0 ≤ h0.size) (V : Av Z h0 a .byte []) (E : Exa Z h0 a "[B") :
    ConV l Z (⟨"com/example/cassalink/cassalink/row/Blob", "of", "([B)Lcom/example/cassalink/cassalink/row/Blob;"⟩ : MethodName) prog_15_method_2_code 1 (some (.object "com/example/cassalink/cassalink/row/Blob")) ({ frames := 2, cells := 2, slots := 1, locals := 26 } : Room) #[(.ref a)] h0 n0 (fun v h => Keep h0 h [] ∧ ∃ b d : Addr, v = .ref b ∧ h0.size ≤ b ∧ h0.size ≤ d ∧ d ≠ b ∧ Exa Z h b "com/example/cassalink/cassalink/row/Blob" ∧ Fld Z h b "com/example/cassalink/cassalink/row/Blob" "bytes" "[B" (.ref d) ∧ Av Z h d .byte [] ∧ Exa Z h d "[B") := by
  refine Con.of (plainFor_of_name (by first | (simp [plainName, overriddenIn]; done) | decide +kernel)) hn ?_
  intro p e s m below meth c T w X
  refine Gl.enter (ls := #[.val (.ref a)]) (by first | rfl | (simp [entryFrame, mkF, argsToLocals, Value.category]; done)) ?_
  refine gNew X w (own_wd hw 5 rfl) (own_wd hw 6 rfl) (own_wd hw 3 rfl) d1_0 (by decide) (by decide) (n := 3) rfl ?_
  intro T hp0 ad0 ea0 na0 X E0 A0 D0
  have ne_a_ad0 : a ≠ ad0 := neOf V.lt (Nat.le_of_eq ea0.symm)
  have F_1 := V.ext E0
  have F_2 := E.ext E0
  have F_3 : Fld Z hp0 ad0 "com/example/cassalink/cassalink/row/Blob" "bytes" "[B" .null := D0 (Or.inr (own_wd hw 23 rfl)) (ty := (.array .byte)) (by decide)
  refine gDup X w d1_3 rfl (n := 4) rfl ?_
  refine gAloadN X w d1_4 rfl rfl (n := 5) rfl ?_
  refine gClone X w F_1 F_2 (by intro v hv; cases hv) (own_wd hw 7 rfl) (own_wd hw 8 rfl) (own_wd hw 12 rfl) (own_wd hw 10 rfl) (own_wd hw 11 rfl) (own_wd hw 13 rfl) d1_5 rfl (by decide) (W := 2) (Nat.le_of_eq rfl) (by decide) (cap := 0) (by show (0 : Nat) ≤ 0; decide) (by decide) (by decide) (n := 8) rfl ?_
  intro T hp5 ad5 ea5 na5 X E5 V5 A5
  have ne_a_ad5 : a ≠ ad5 := neOf F_1.lt (Nat.le_of_eq ea5.symm)
  have ne_ad0_ad5 : ad0 ≠ ad5 := neOf A0.lt (Nat.le_of_eq ea5.symm)
  have F_4 := F_1.ext E5
  have F_5 := F_2.ext E5
  have F_6 := A0.ext E5
  have F_7 := F_3.ext E5
  refine gCast X w (own_wd hw 14 rfl) (Ins.self A5) d1_8 (n := 11) rfl ?_
  intro T X
  refine gCallIn X w [(.ref ad5)] [(.ref ad0)] rfl (own_init l Z a0 hw ad0 ad5 hp5 n0 (Sd.le X) na0 F_6 F_7) (own_wd hw 16 rfl) (own_wd hw 17 rfl) (own_wd hw 3 rfl) (own_wd hw 18 rfl) (by decide) own_pd0 rfl rfl d1_11 rfl (W := 1) (Nat.le_of_eq rfl) (by decide) (by decide) (by decide) (by decide) (n := 14) rfl ?_
  rintro T h11 ⟨K11, A11, F11⟩ X
  have F_8 := F_4.keep K11 (ninS ne_a_ad0 nin0)
  have F_9 := F_5.keep K11
  have F_10 := F_6.keep K11
  have F_11 := V5.keep K11 (ninS (Ne.symm ne_ad0_ad5) nin0)
  have F_12 := A5.keep K11
  exact gRetA X w rfl rfl rfl d1_14 (by decide) (by decide) (⟨_, rfl, (((Keep.refl _ []).ext E0).ext E5).trans K11 (allS (Or.inr (Nat.le_of_eq ea0.symm)) all0), ad0, ad5, rfl, Nat.le_of_eq ea0.symm, Nat.le_trans E0.1 (Nat.le_of_eq ea5.symm), (Ne.symm ne_ad0_ad5), A11, F11, F_11, F_12⟩)
set_option maxRecDepth 65536 in
set_option maxHeartbeats 40000000 in
theorem own_bytes_0 (l : Launch) (Z : State) (a0 : Array Value) (hw : ∀ d ∈ tables_1, d.before a0 Z = true) (b d : Addr) (h0 : Heap) (n0 : Nat) (hn : n0 ≤ h0.size) (F : Fld Z h0 b "com/example/cassalink/cassalink/row/Blob" "bytes" "[B" (.ref d)) (V : Av Z h0 d .byte []) (E : Exa Z h0 d "[B") :
    ConV l Z (⟨"com/example/cassalink/cassalink/row/Blob", "bytes", "()[B"⟩ : MethodName) prog_15_method_3_code 1 (some (.array .byte)) ({ frames := 1, cells := 1, slots := 0, locals := 16 } : Room) #[(.ref b)] h0 n0 (fun v h => Keep h0 h [] ∧ ∃ c : Addr, v = .ref c ∧ h0.size ≤ c ∧ Av Z h c .byte []) := by
  refine Con.of (plainFor_of_name (by first | (simp [plainName, overriddenIn]; done) | decide +kernel)) hn ?_
  intro p e s m below meth c T w X
  refine Gl.enter (ls := #[.val (.ref b)]) (by first | rfl | (simp [entryFrame, mkF, argsToLocals, Value.category]; done)) ?_
  refine gAloadN X w d4_0 rfl rfl (n := 1) rfl ?_
  refine gGetF X w (own_wd hw 22 rfl) Via.refl F d4_1 (n := 4) rfl ?_
  intro T X
  refine gClone X w V E (by intro v hv; cases hv) (own_wd hw 7 rfl) (own_wd hw 8 rfl) (own_wd hw 12 rfl) (own_wd hw 10 rfl) (own_wd hw 11 rfl) (own_wd hw 13 rfl) d4_4 rfl (by decide) (W := 0) (Nat.le_of_eq rfl) (by decide) (cap := 0) (by show (0 : Nat) ≤ 0; decide) (by decide) (by decide) (n := 7) rfl ?_
  intro T hp4 ad4 ea4 na4 X E4 V4 A4
  have ne_b_ad4 : b ≠ ad4 := neOf F.lt (Nat.le_of_eq ea4.symm)
  have ne_d_ad4 : d ≠ ad4 := neOf V.lt (Nat.le_of_eq ea4.symm)
  have F_1 := F.ext E4
  have F_2 := V.ext E4
  have F_3 := E.ext E4
  refine gCast X w (own_wd hw 14 rfl) (Ins.self A4) d4_7 (n := 10) rfl ?_
  intro T X
  exact gRetA X w rfl rfl rfl d4_10 (by decide) (by decide) (⟨_, rfl, (Keep.refl _ []).ext E4, ad4, rfl, Nat.le_of_eq ea4.symm, V4⟩)
set_option maxRecDepth 65536 in
set_option maxHeartbeats 40000000 in
theorem own_mis_same_0 (l : Launch) (Z : State) (a0 : Array Value) (hw : ∀ d ∈ tables_1, d.before a0 Z = true) (a b : Addr) (h0 : Heap) (n0 : Nat) (hn : n0 ≤ h0.size) (V : Av Z h0 a .byte []) (U : Av Z h0 b .byte []) :
    ConV l Z (⟨"jdk/internal/util/ArraysSupport", "mismatch", "([B[BI)I"⟩ : MethodName) jdk_48_method_13_code 4 (some .int) ({ frames := 0, cells := 0, slots := 0, locals := 0 } : Room) #[(.ref a), (.ref b), (.int (0 : Int32))] h0 n0 (fun v h => h0 = h ∧ v = .int (-1 : Int32)) := by
  refine Con.of (plainFor_of_name (by first | (simp [plainName, overriddenIn]; done) | decide +kernel)) hn ?_
  intro p e s m below meth c T w X
  refine Gl.enter (ls := #[.val (.ref a), .val (.ref b), .val (.int (0 : Int32)), .unset]) (by first | rfl | (simp [entryFrame, mkF, argsToLocals, Value.category]; done)) ?_
  refine gIconst X w d7_0 (z := (0 : Int32)) rfl (n := 1) rfl ?_
  refine gIstoreN X w d7_1 #[.val (.ref a), .val (.ref b), .val (.int (0 : Int32)), .val (.int (0 : Int32))] rfl (n := 2) rfl ?_
  refine gIloadN X w d7_2 rfl (n := 3) rfl ?_
  refine gBipush X w d7_3 (z := (7 : Int32)) (by decide) (n := 5) rfl ?_
  refine gIcmp_le X w d7_5 (n := 49) (n' := 8) (by decide) rfl rfl ?_ ?_
  · intro c5
    refine gIloadN X w d7_49 rfl (n := 50) rfl ?_
    refine gIloadN X w d7_50 rfl (n := 51) rfl ?_
    refine gIcmp_ge X w d7_51 (n := 71) (n' := 54) (by decide) rfl rfl ?_ ?_
    · intro c51
      refine gIconst X w d7_71 (z := (-1 : Int32)) rfl (n := 72) rfl ?_
      exact gRetI X w rfl d7_72 (by decide) (by decide) (⟨_, rfl, rfl, rfl⟩)
    · intro c51
      exact absurd c51 (by decide)
  · intro c5
    exact absurd c5 (by decide)
set_option maxRecDepth 65536 in
set_option maxHeartbeats 40000000 in
theorem own_arr_same_0 (l : Launch) (Z : State) (a0 : Array Value) (hw : ∀ d ∈ tables_1, d.before a0 Z = true) (a b : Addr) (h0 : Heap) (n0 : Nat) (hn : n0 ≤ h0.size) (V : Av Z h0 a .byte []) (U : Av Z h0 b .byte []) (nab : a ≠ b) :
    ConV l Z (⟨"java/util/Arrays", "equals", "([B[B)Z"⟩ : MethodName) jdk_65_method_89_code 3 (some .boolean) ({ frames := 1, cells := 0, slots := 0, locals := 15 } : Room) #[(.ref a), (.ref b)] h0 n0 (fun v h => h0 = h ∧ v = .int 1) := by
  refine Con.of (plainFor_of_name (by first | (simp [plainName, overriddenIn]; done) | decide +kernel)) hn ?_
  intro p e s m below meth c T w X
  refine Gl.enter (ls := #[.val (.ref a), .val (.ref b), .unset]) (by first | rfl | (simp [entryFrame, mkF, argsToLocals, Value.category]; done)) ?_
  refine gAloadN X w d6_0 rfl rfl (n := 1) rfl ?_
  refine gAloadN X w d6_1 rfl rfl (n := 2) rfl ?_
  refine gAcmp_ne X w d6_2 rfl rfl (n := 7) (n' := 5) (by decide) rfl rfl ?_ ?_
  · intro c2
    refine gAloadN X w d6_7 rfl rfl (n := 8) rfl ?_
    refine gIfnullN X w d6_8 (n := 11) rfl ?_
    refine gAloadN X w d6_11 rfl rfl (n := 12) rfl ?_
    refine gIfnonnullY X w d6_12 (by decide) (n := 17) rfl ?_
    refine gAloadN X w d6_17 rfl rfl (n := 18) rfl ?_
    refine gAlen X w V (z := (0 : Int32)) rfl d6_18 (n := 19) rfl ?_
    refine gIstoreN X w d6_19 #[.val (.ref a), .val (.ref b), .val (.int (0 : Int32))] rfl (n := 20) rfl ?_
    refine gAloadN X w d6_20 rfl rfl (n := 21) rfl ?_
    refine gAlen X w U (z := (0 : Int32)) rfl d6_21 (n := 22) rfl ?_
    refine gIloadN X w d6_22 rfl (n := 23) rfl ?_
    refine gIcmp_eq X w d6_23 (n := 28) (n' := 26) (by decide) rfl rfl ?_ ?_
    · rintro ⟨c23, c23'⟩
      refine gAloadN X w d6_28 rfl rfl (n := 29) rfl ?_
      refine gAloadN X w d6_29 rfl rfl (n := 30) rfl ?_
      refine gIloadN X w d6_30 rfl (n := 31) rfl ?_
      refine gCallSv X w [(.ref a), (.ref b), (.int (0 : Int32))] [] (own_mis_same_0 l Z a0 hw a b  h0 n0 hn V U) (own_wd hw 39 rfl) (own_wd hw 40 rfl) (own_wd hw 41 rfl) (own_wd hw 42 rfl) (by decide) own_pd1 rfl rfl d6_31 rfl (W := 0) (Nat.le_of_eq rfl) (by decide) (by decide) (by decide) (by decide) (n := 34) rfl ?_
      rintro T _ _ ⟨rfl, rfl⟩ X
      refine gIf_ge X w d6_34 (n := 41) (n' := 37) (by decide) rfl rfl ?_ ?_
      · intro c34
        exact absurd c34 (by decide)
      · intro c34
        refine gIconst X w d6_37 (z := (1 : Int32)) rfl (n := 38) rfl ?_
        refine gGoto X w d6_38 (by decide) (n := 42) rfl ?_
        exact gRetZ X w rfl (Or.inr rfl) d6_42 (by decide) (by decide) (⟨_, rfl, rfl, rfl⟩)
    · rintro ⟨c23, c23'⟩
      exact absurd c23 (by decide)
  · intro c2
    exact absurd (Value.ref.inj c2) nab
set_option maxRecDepth 65536 in
set_option maxHeartbeats 40000000 in
theorem own_eq_same_0 (l : Launch) (Z : State) (a0 : Array Value) (hw : ∀ d ∈ tables_1, d.before a0 Z = true) (p1 p2 a b : Addr) (h0 : Heap) (n0 : Nat) (hn : n0 ≤ h0.size) (E1 : Exa Z h0 p1 "com/example/cassalink/cassalink/row/Blob") (E2 : Exa Z h0 p2 "com/example/cassalink/cassalink/row/Blob") (F1 : Fld Z h0 p1 "com/example/cassalink/cassalink/row/Blob" "bytes" "[B" (.ref a)) (F2 : Fld Z h0 p2 "com/example/cassalink/cassalink/row/Blob" "bytes" "[B" (.ref b)) (V : Av Z h0 a .byte []) (U : Av Z h0 b .byte []) (nab : a ≠ b) :
    ConV l Z (⟨"com/example/cassalink/cassalink/row/Blob", "equals", "(Ljava/lang/Object;)Z"⟩ : MethodName) prog_15_method_4_code 2 (some .boolean) ({ frames := 2, cells := 0, slots := 0, locals := 29 } : Room) #[(.ref p1), (.ref p2)] h0 n0 (fun v h => h0 = h ∧ v = .int 1) := by
  refine Con.of (plainFor_of_name (by first | (simp [plainName, overriddenIn]; done) | decide +kernel)) hn ?_
  intro p e s m below meth c T w X
  refine Gl.enter (ls := #[.val (.ref p1), .val (.ref p2)]) (by first | rfl | (simp [entryFrame, mkF, argsToLocals, Value.category]; done)) ?_
  refine gAloadN X w d5_0 rfl rfl (n := 1) rfl ?_
  refine gInstY X w (own_wd hw 5 rfl) (Ins.self E2) d5_1 (n := 4) rfl ?_
  intro T X
  refine gIf_eq X w d5_4 (n := 28) (n' := 7) (by decide) rfl rfl ?_ ?_
  · rintro ⟨c4, c4'⟩
    exact absurd c4 (by decide)
  · rintro ⟨c4, c4'⟩
    refine gAloadN X w d5_7 rfl rfl (n := 8) rfl ?_
    refine gGetF X w (own_wd hw 22 rfl) Via.refl F1 d5_8 (n := 11) rfl ?_
    intro T X
    refine gAloadN X w d5_11 rfl rfl (n := 12) rfl ?_
    refine gCast X w (own_wd hw 5 rfl) (Ins.self E2) d5_12 (n := 15) rfl ?_
    intro T X
    refine gGetF X w (own_wd hw 22 rfl) Via.refl F2 d5_15 (n := 18) rfl ?_
    intro T X
    refine gCallSv X w [(.ref a), (.ref b)] [] (own_arr_same_0 l Z a0 hw a b  h0 n0 hn V U nab) (own_wd hw 35 rfl) (own_wd hw 36 rfl) (own_wd hw 37 rfl) (own_wd hw 38 rfl) (by decide) own_pd2 rfl rfl d5_18 rfl (W := 0) (Nat.le_of_eq rfl) (by decide) (by decide) (by decide) (by decide) (n := 21) rfl ?_
    rintro T _ _ ⟨rfl, rfl⟩ X
    refine gIf_eq X w d5_21 (n := 28) (n' := 24) (by decide) rfl rfl ?_ ?_
    · rintro ⟨c21, c21'⟩
      exact absurd c21 (by decide)
    · rintro ⟨c21, c21'⟩
      refine gIconst X w d5_24 (z := (1 : Int32)) rfl (n := 25) rfl ?_
      refine gGoto X w d5_25 (by decide) (n := 29) rfl ?_
      exact gRetZ X w rfl (Or.inr rfl) d5_29 (by decide) (by decide) (⟨_, rfl, rfl, rfl⟩)
set_option maxRecDepth 65536 in
set_option maxHeartbeats 40000000 in
theorem own_of_1 (l : Launch) (Z : State) (a0 : Array Value) (hw : ∀ d ∈ tables_1, d.before a0 Z = true) (a : Addr) (z0 : Int32) (h0 : Heap) (n0 : Nat) (hn : n0 ≤ h0.size) (V : Av Z h0 a .byte [.int z0]) (E : Exa Z h0 a "[B") (gz0 : fits .byte (.int z0) = true) :
    ConV l Z (⟨"com/example/cassalink/cassalink/row/Blob", "of", "([B)Lcom/example/cassalink/cassalink/row/Blob;"⟩ : MethodName) prog_15_method_2_code 1 (some (.object "com/example/cassalink/cassalink/row/Blob")) ({ frames := 2, cells := 2, slots := 2, locals := 26 } : Room) #[(.ref a)] h0 n0 (fun v h => Keep h0 h [] ∧ ∃ b d : Addr, v = .ref b ∧ h0.size ≤ b ∧ h0.size ≤ d ∧ d ≠ b ∧ Exa Z h b "com/example/cassalink/cassalink/row/Blob" ∧ Fld Z h b "com/example/cassalink/cassalink/row/Blob" "bytes" "[B" (.ref d) ∧ Av Z h d .byte [.int z0] ∧ Exa Z h d "[B") := by
  refine Con.of (plainFor_of_name (by first | (simp [plainName, overriddenIn]; done) | decide +kernel)) hn ?_
  intro p e s m below meth c T w X
  refine Gl.enter (ls := #[.val (.ref a)]) (by first | rfl | (simp [entryFrame, mkF, argsToLocals, Value.category]; done)) ?_
  refine gNew X w (own_wd hw 5 rfl) (own_wd hw 6 rfl) (own_wd hw 3 rfl) d1_0 (by decide) (by decide) (n := 3) rfl ?_
  intro T hp0 ad0 ea0 na0 X E0 A0 D0
  have ne_a_ad0 : a ≠ ad0 := neOf V.lt (Nat.le_of_eq ea0.symm)
  have F_1 := V.ext E0
  have F_2 := E.ext E0
  have F_3 : Fld Z hp0 ad0 "com/example/cassalink/cassalink/row/Blob" "bytes" "[B" .null := D0 (Or.inr (own_wd hw 23 rfl)) (ty := (.array .byte)) (by decide)
  refine gDup X w d1_3 rfl (n := 4) rfl ?_
  refine gAloadN X w d1_4 rfl rfl (n := 5) rfl ?_
  refine gClone X w F_1 F_2 (by intro v hv; simp only [List.mem_cons, List.not_mem_nil, or_false] at hv; rcases hv with rfl <;> first | assumption | exact fits_nar_byte _ | exact fits_nar_char _ | decide) (own_wd hw 7 rfl) (own_wd hw 8 rfl) (own_wd hw 12 rfl) (own_wd hw 10 rfl) (own_wd hw 11 rfl) (own_wd hw 13 rfl) d1_5 rfl (by decide) (W := 2) (Nat.le_of_eq rfl) (by decide) (cap := 1) (by show (1 : Nat) ≤ 1; decide) (by decide) (by decide) (n := 8) rfl ?_
  intro T hp5 ad5 ea5 na5 X E5 V5 A5
  have ne_a_ad5 : a ≠ ad5 := neOf F_1.lt (Nat.le_of_eq ea5.symm)
  have ne_ad0_ad5 : ad0 ≠ ad5 := neOf A0.lt (Nat.le_of_eq ea5.symm)
  have F_4 := F_1.ext E5
  have F_5 := F_2.ext E5
  have F_6 := A0.ext E5
  have F_7 := F_3.ext E5
  refine gCast X w (own_wd hw 14 rfl) (Ins.self A5) d1_8 (n := 11) rfl ?_
  intro T X
  refine gCallIn X w [(.ref ad5)] [(.ref ad0)] rfl (own_init l Z a0 hw ad0 ad5 hp5 n0 (Sd.le X) na0 F_6 F_7) (own_wd hw 16 rfl) (own_wd hw 17 rfl) (own_wd hw 3 rfl) (own_wd hw 18 rfl) (by decide) own_pd0 rfl rfl d1_11 rfl (W := 1) (Nat.le_of_eq rfl) (by decide) (by decide) (by decide) (by decide) (n := 14) rfl ?_
  rintro T h11 ⟨K11, A11, F11⟩ X
  have F_8 := F_4.keep K11 (ninS ne_a_ad0 nin0)
  have F_9 := F_5.keep K11
  have F_10 := F_6.keep K11
  have F_11 := V5.keep K11 (ninS (Ne.symm ne_ad0_ad5) nin0)
  have F_12 := A5.keep K11
  exact gRetA X w rfl rfl rfl d1_14 (by decide) (by decide) (⟨_, rfl, (((Keep.refl _ []).ext E0).ext E5).trans K11 (allS (Or.inr (Nat.le_of_eq ea0.symm)) all0), ad0, ad5, rfl, Nat.le_of_eq ea0.symm, Nat.le_trans E0.1 (Nat.le_of_eq ea5.symm), (Ne.symm ne_ad0_ad5), A11, F11, F_11, F_12⟩)
set_option maxRecDepth 65536 in
set_option maxHeartbeats 40000000 in
theorem own_bytes_1 (l : Launch) (Z : State) (a0 : Array Value) (hw : ∀ d ∈ tables_1, d.before a0 Z = true) (b d : Addr) (z0 : Int32) (h0 : Heap) (n0 : Nat) (hn : n0 ≤ h0.size) (F : Fld Z h0 b "com/example/cassalink/cassalink/row/Blob" "bytes" "[B" (.ref d)) (V : Av Z h0 d .byte [.int z0]) (E : Exa Z h0 d "[B") (gz0 : fits .byte (.int z0) = true) :
    ConV l Z (⟨"com/example/cassalink/cassalink/row/Blob", "bytes", "()[B"⟩ : MethodName) prog_15_method_3_code 1 (some (.array .byte)) ({ frames := 1, cells := 1, slots := 1, locals := 16 } : Room) #[(.ref b)] h0 n0 (fun v h => Keep h0 h [] ∧ ∃ c : Addr, v = .ref c ∧ h0.size ≤ c ∧ Av Z h c .byte [.int z0]) := by
  refine Con.of (plainFor_of_name (by first | (simp [plainName, overriddenIn]; done) | decide +kernel)) hn ?_
  intro p e s m below meth c T w X
  refine Gl.enter (ls := #[.val (.ref b)]) (by first | rfl | (simp [entryFrame, mkF, argsToLocals, Value.category]; done)) ?_
  refine gAloadN X w d4_0 rfl rfl (n := 1) rfl ?_
  refine gGetF X w (own_wd hw 22 rfl) Via.refl F d4_1 (n := 4) rfl ?_
  intro T X
  refine gClone X w V E (by intro v hv; simp only [List.mem_cons, List.not_mem_nil, or_false] at hv; rcases hv with rfl <;> first | assumption | exact fits_nar_byte _ | exact fits_nar_char _ | decide) (own_wd hw 7 rfl) (own_wd hw 8 rfl) (own_wd hw 12 rfl) (own_wd hw 10 rfl) (own_wd hw 11 rfl) (own_wd hw 13 rfl) d4_4 rfl (by decide) (W := 0) (Nat.le_of_eq rfl) (by decide) (cap := 1) (by show (1 : Nat) ≤ 1; decide) (by decide) (by decide) (n := 7) rfl ?_
  intro T hp4 ad4 ea4 na4 X E4 V4 A4
  have ne_b_ad4 : b ≠ ad4 := neOf F.lt (Nat.le_of_eq ea4.symm)
  have ne_d_ad4 : d ≠ ad4 := neOf V.lt (Nat.le_of_eq ea4.symm)
  have F_1 := F.ext E4
  have F_2 := V.ext E4
  have F_3 := E.ext E4
  refine gCast X w (own_wd hw 14 rfl) (Ins.self A4) d4_7 (n := 10) rfl ?_
  intro T X
  exact gRetA X w rfl rfl rfl d4_10 (by decide) (by decide) (⟨_, rfl, (Keep.refl _ []).ext E4, ad4, rfl, Nat.le_of_eq ea4.symm, V4⟩)
set_option maxRecDepth 65536 in
set_option maxHeartbeats 40000000 in
theorem own_mis_same_1 (l : Launch) (Z : State) (a0 : Array Value) (hw : ∀ d ∈ tables_1, d.before a0 Z = true) (a b : Addr) (z0 : Int32) (h0 : Heap) (n0 : Nat) (hn : n0 ≤ h0.size) (V : Av Z h0 a .byte [.int z0]) (U : Av Z h0 b .byte [.int z0]) :
    ConV l Z (⟨"jdk/internal/util/ArraysSupport", "mismatch", "([B[BI)I"⟩ : MethodName) jdk_48_method_13_code 4 (some .int) ({ frames := 0, cells := 0, slots := 0, locals := 0 } : Room) #[(.ref a), (.ref b), (.int (1 : Int32))] h0 n0 (fun v h => h0 = h ∧ v = .int (-1 : Int32)) := by
  refine Con.of (plainFor_of_name (by first | (simp [plainName, overriddenIn]; done) | decide +kernel)) hn ?_
  intro p e s m below meth c T w X
  refine Gl.enter (ls := #[.val (.ref a), .val (.ref b), .val (.int (1 : Int32)), .unset]) (by first | rfl | (simp [entryFrame, mkF, argsToLocals, Value.category]; done)) ?_
  refine gIconst X w d7_0 (z := (0 : Int32)) rfl (n := 1) rfl ?_
  refine gIstoreN X w d7_1 #[.val (.ref a), .val (.ref b), .val (.int (1 : Int32)), .val (.int (0 : Int32))] rfl (n := 2) rfl ?_
  refine gIloadN X w d7_2 rfl (n := 3) rfl ?_
  refine gBipush X w d7_3 (z := (7 : Int32)) (by decide) (n := 5) rfl ?_
  refine gIcmp_le X w d7_5 (n := 49) (n' := 8) (by decide) rfl rfl ?_ ?_
  · intro c5
    refine gIloadN X w d7_49 rfl (n := 50) rfl ?_
    refine gIloadN X w d7_50 rfl (n := 51) rfl ?_
    refine gIcmp_ge X w d7_51 (n := 71) (n' := 54) (by decide) rfl rfl ?_ ?_
    · intro c51
      exact absurd c51 (by decide)
    · intro c51
      refine gAloadN X w d7_54 rfl rfl (n := 55) rfl ?_
      refine gIloadN X w d7_55 rfl (n := 56) rfl ?_
      refine gBaload X w V (by decide) rfl d7_56 (n := 57) rfl ?_
      refine gAloadN X w d7_57 rfl rfl (n := 58) rfl ?_
      refine gIloadN X w d7_58 rfl (n := 59) rfl ?_
      refine gBaload X w U (by decide) rfl d7_59 (n := 60) rfl ?_
      refine gIcmp_eq X w d7_60 (n := 65) (n' := 63) (by decide) rfl rfl ?_ ?_
      · rintro ⟨c60, c60'⟩
        refine gIinc X w d7_65 rfl (z := (1 : Int32)) (by decide) #[.val (.ref a), .val (.ref b), .val (.int (1 : Int32)), .val (.int (1 : Int32))] rfl (n := 68) rfl ?_
        refine gGoto X w d7_68 (by decide) (n := 49) rfl ?_
        refine gIloadN X w d7_49 rfl (n := 50) rfl ?_
        refine gIloadN X w d7_50 rfl (n := 51) rfl ?_
        refine gIcmp_ge X w d7_51 (n := 71) (n' := 54) (by decide) rfl rfl ?_ ?_
        · intro c51
          refine gIconst X w d7_71 (z := (-1 : Int32)) rfl (n := 72) rfl ?_
          exact gRetI X w rfl d7_72 (by decide) (by decide) (⟨_, rfl, rfl, rfl⟩)
        · intro c51
          exact absurd c51 (by decide)
      · rintro ⟨c60, c60'⟩
        exact absurd rfl c60
  · intro c5
    exact absurd c5 (by decide)
set_option maxRecDepth 65536 in
set_option maxHeartbeats 40000000 in
theorem own_arr_same_1 (l : Launch) (Z : State) (a0 : Array Value) (hw : ∀ d ∈ tables_1, d.before a0 Z = true) (a b : Addr) (z0 : Int32) (h0 : Heap) (n0 : Nat) (hn : n0 ≤ h0.size) (V : Av Z h0 a .byte [.int z0]) (U : Av Z h0 b .byte [.int z0]) (nab : a ≠ b) :
    ConV l Z (⟨"java/util/Arrays", "equals", "([B[B)Z"⟩ : MethodName) jdk_65_method_89_code 3 (some .boolean) ({ frames := 1, cells := 0, slots := 0, locals := 15 } : Room) #[(.ref a), (.ref b)] h0 n0 (fun v h => h0 = h ∧ v = .int 1) := by
  refine Con.of (plainFor_of_name (by first | (simp [plainName, overriddenIn]; done) | decide +kernel)) hn ?_
  intro p e s m below meth c T w X
  refine Gl.enter (ls := #[.val (.ref a), .val (.ref b), .unset]) (by first | rfl | (simp [entryFrame, mkF, argsToLocals, Value.category]; done)) ?_
  refine gAloadN X w d6_0 rfl rfl (n := 1) rfl ?_
  refine gAloadN X w d6_1 rfl rfl (n := 2) rfl ?_
  refine gAcmp_ne X w d6_2 rfl rfl (n := 7) (n' := 5) (by decide) rfl rfl ?_ ?_
  · intro c2
    refine gAloadN X w d6_7 rfl rfl (n := 8) rfl ?_
    refine gIfnullN X w d6_8 (n := 11) rfl ?_
    refine gAloadN X w d6_11 rfl rfl (n := 12) rfl ?_
    refine gIfnonnullY X w d6_12 (by decide) (n := 17) rfl ?_
    refine gAloadN X w d6_17 rfl rfl (n := 18) rfl ?_
    refine gAlen X w V (z := (1 : Int32)) rfl d6_18 (n := 19) rfl ?_
    refine gIstoreN X w d6_19 #[.val (.ref a), .val (.ref b), .val (.int (1 : Int32))] rfl (n := 20) rfl ?_
    refine gAloadN X w d6_20 rfl rfl (n := 21) rfl ?_
    refine gAlen X w U (z := (1 : Int32)) rfl d6_21 (n := 22) rfl ?_
    refine gIloadN X w d6_22 rfl (n := 23) rfl ?_
    refine gIcmp_eq X w d6_23 (n := 28) (n' := 26) (by decide) rfl rfl ?_ ?_
    · rintro ⟨c23, c23'⟩
      refine gAloadN X w d6_28 rfl rfl (n := 29) rfl ?_
      refine gAloadN X w d6_29 rfl rfl (n := 30) rfl ?_
      refine gIloadN X w d6_30 rfl (n := 31) rfl ?_
      refine gCallSv X w [(.ref a), (.ref b), (.int (1 : Int32))] [] (own_mis_same_1 l Z a0 hw a b z0 h0 n0 hn V U) (own_wd hw 39 rfl) (own_wd hw 40 rfl) (own_wd hw 41 rfl) (own_wd hw 42 rfl) (by decide) own_pd1 rfl rfl d6_31 rfl (W := 0) (Nat.le_of_eq rfl) (by decide) (by decide) (by decide) (by decide) (n := 34) rfl ?_
      rintro T _ _ ⟨rfl, rfl⟩ X
      refine gIf_ge X w d6_34 (n := 41) (n' := 37) (by decide) rfl rfl ?_ ?_
      · intro c34
        exact absurd c34 (by decide)
      · intro c34
        refine gIconst X w d6_37 (z := (1 : Int32)) rfl (n := 38) rfl ?_
        refine gGoto X w d6_38 (by decide) (n := 42) rfl ?_
        exact gRetZ X w rfl (Or.inr rfl) d6_42 (by decide) (by decide) (⟨_, rfl, rfl, rfl⟩)
    · rintro ⟨c23, c23'⟩
      exact absurd c23 (by decide)
  · intro c2
    exact absurd (Value.ref.inj c2) nab
set_option maxRecDepth 65536 in
set_option maxHeartbeats 40000000 in
theorem own_eq_same_1 (l : Launch) (Z : State) (a0 : Array Value) (hw : ∀ d ∈ tables_1, d.before a0 Z = true) (p1 p2 a b : Addr) (z0 : Int32) (h0 : Heap) (n0 : Nat) (hn : n0 ≤ h0.size) (E1 : Exa Z h0 p1 "com/example/cassalink/cassalink/row/Blob") (E2 : Exa Z h0 p2 "com/example/cassalink/cassalink/row/Blob") (F1 : Fld Z h0 p1 "com/example/cassalink/cassalink/row/Blob" "bytes" "[B" (.ref a)) (F2 : Fld Z h0 p2 "com/example/cassalink/cassalink/row/Blob" "bytes" "[B" (.ref b)) (V : Av Z h0 a .byte [.int z0]) (U : Av Z h0 b .byte [.int z0]) (nab : a ≠ b) :
    ConV l Z (⟨"com/example/cassalink/cassalink/row/Blob", "equals", "(Ljava/lang/Object;)Z"⟩ : MethodName) prog_15_method_4_code 2 (some .boolean) ({ frames := 2, cells := 0, slots := 0, locals := 29 } : Room) #[(.ref p1), (.ref p2)] h0 n0 (fun v h => h0 = h ∧ v = .int 1) := by
  refine Con.of (plainFor_of_name (by first | (simp [plainName, overriddenIn]; done) | decide +kernel)) hn ?_
  intro p e s m below meth c T w X
  refine Gl.enter (ls := #[.val (.ref p1), .val (.ref p2)]) (by first | rfl | (simp [entryFrame, mkF, argsToLocals, Value.category]; done)) ?_
  refine gAloadN X w d5_0 rfl rfl (n := 1) rfl ?_
  refine gInstY X w (own_wd hw 5 rfl) (Ins.self E2) d5_1 (n := 4) rfl ?_
  intro T X
  refine gIf_eq X w d5_4 (n := 28) (n' := 7) (by decide) rfl rfl ?_ ?_
  · rintro ⟨c4, c4'⟩
    exact absurd c4 (by decide)
  · rintro ⟨c4, c4'⟩
    refine gAloadN X w d5_7 rfl rfl (n := 8) rfl ?_
    refine gGetF X w (own_wd hw 22 rfl) Via.refl F1 d5_8 (n := 11) rfl ?_
    intro T X
    refine gAloadN X w d5_11 rfl rfl (n := 12) rfl ?_
    refine gCast X w (own_wd hw 5 rfl) (Ins.self E2) d5_12 (n := 15) rfl ?_
    intro T X
    refine gGetF X w (own_wd hw 22 rfl) Via.refl F2 d5_15 (n := 18) rfl ?_
    intro T X
    refine gCallSv X w [(.ref a), (.ref b)] [] (own_arr_same_1 l Z a0 hw a b z0 h0 n0 hn V U nab) (own_wd hw 35 rfl) (own_wd hw 36 rfl) (own_wd hw 37 rfl) (own_wd hw 38 rfl) (by decide) own_pd2 rfl rfl d5_18 rfl (W := 0) (Nat.le_of_eq rfl) (by decide) (by decide) (by decide) (by decide) (n := 21) rfl ?_
    rintro T _ _ ⟨rfl, rfl⟩ X
    refine gIf_eq X w d5_21 (n := 28) (n' := 24) (by decide) rfl rfl ?_ ?_
    · rintro ⟨c21, c21'⟩
      exact absurd c21 (by decide)
    · rintro ⟨c21, c21'⟩
      refine gIconst X w d5_24 (z := (1 : Int32)) rfl (n := 25) rfl ?_
      refine gGoto X w d5_25 (by decide) (n := 29) rfl ?_
      exact gRetZ X w rfl (Or.inr rfl) d5_29 (by decide) (by decide) (⟨_, rfl, rfl, rfl⟩)
set_option maxRecDepth 65536 in
set_option maxHeartbeats 40000000 in
theorem own_mis_diff_1 (l : Launch) (Z : State) (a0 : Array Value) (hw : ∀ d ∈ tables_1, d.before a0 Z = true) (a b : Addr) (z0 : Int32) (y0 : Int32) (h0 : Heap) (n0 : Nat) (hn : n0 ≤ h0.size) (V : Av Z h0 a .byte [.int z0]) (U : Av Z h0 b .byte [.int y0]) (df : ¬ z0 = y0) :
    ConV l Z (⟨"jdk/internal/util/ArraysSupport", "mismatch", "([B[BI)I"⟩ : MethodName) jdk_48_method_13_code 4 (some .int) ({ frames := 0, cells := 0, slots := 0, locals := 0 } : Room) #[(.ref a), (.ref b), (.int (1 : Int32))] h0 n0 (fun v h => h0 = h ∧ v = .int (0 : Int32)) := by
  refine Con.of (plainFor_of_name (by first | (simp [plainName, overriddenIn]; done) | decide +kernel)) hn ?_
  intro p e s m below meth c T w X
  refine Gl.enter (ls := #[.val (.ref a), .val (.ref b), .val (.int (1 : Int32)), .unset]) (by first | rfl | (simp [entryFrame, mkF, argsToLocals, Value.category]; done)) ?_
  refine gIconst X w d7_0 (z := (0 : Int32)) rfl (n := 1) rfl ?_
  refine gIstoreN X w d7_1 #[.val (.ref a), .val (.ref b), .val (.int (1 : Int32)), .val (.int (0 : Int32))] rfl (n := 2) rfl ?_
  refine gIloadN X w d7_2 rfl (n := 3) rfl ?_
  refine gBipush X w d7_3 (z := (7 : Int32)) (by decide) (n := 5) rfl ?_
  refine gIcmp_le X w d7_5 (n := 49) (n' := 8) (by decide) rfl rfl ?_ ?_
  · intro c5
    refine gIloadN X w d7_49 rfl (n := 50) rfl ?_
    refine gIloadN X w d7_50 rfl (n := 51) rfl ?_
    refine gIcmp_ge X w d7_51 (n := 71) (n' := 54) (by decide) rfl rfl ?_ ?_
    · intro c51
      exact absurd c51 (by decide)
    · intro c51
      refine gAloadN X w d7_54 rfl rfl (n := 55) rfl ?_
      refine gIloadN X w d7_55 rfl (n := 56) rfl ?_
      refine gBaload X w V (by decide) rfl d7_56 (n := 57) rfl ?_
      refine gAloadN X w d7_57 rfl rfl (n := 58) rfl ?_
      refine gIloadN X w d7_58 rfl (n := 59) rfl ?_
      refine gBaload X w U (by decide) rfl d7_59 (n := 60) rfl ?_
      refine gIcmp_eq X w d7_60 (n := 65) (n' := 63) (by decide) rfl rfl ?_ ?_
      · rintro ⟨c60, c60'⟩
        exact absurd c60 df
      · rintro ⟨c60, c60'⟩
        refine gIloadN X w d7_63 rfl (n := 64) rfl ?_
        exact gRetI X w rfl d7_64 (by decide) (by decide) (⟨_, rfl, rfl, rfl⟩)
  · intro c5
    exact absurd c5 (by decide)
set_option maxRecDepth 65536 in
set_option maxHeartbeats 40000000 in
theorem own_arr_diff_1 (l : Launch) (Z : State) (a0 : Array Value) (hw : ∀ d ∈ tables_1, d.before a0 Z = true) (a b : Addr) (z0 : Int32) (y0 : Int32) (h0 : Heap) (n0 : Nat) (hn : n0 ≤ h0.size) (V : Av Z h0 a .byte [.int z0]) (U : Av Z h0 b .byte [.int y0]) (df : ¬ z0 = y0) (nab : a ≠ b) :
    ConV l Z (⟨"java/util/Arrays", "equals", "([B[B)Z"⟩ : MethodName) jdk_65_method_89_code 3 (some .boolean) ({ frames := 1, cells := 0, slots := 0, locals := 15 } : Room) #[(.ref a), (.ref b)] h0 n0 (fun v h => h0 = h ∧ v = .int 0) := by
  refine Con.of (plainFor_of_name (by first | (simp [plainName, overriddenIn]; done) | decide +kernel)) hn ?_
  intro p e s m below meth c T w X
  refine Gl.enter (ls := #[.val (.ref a), .val (.ref b), .unset]) (by first | rfl | (simp [entryFrame, mkF, argsToLocals, Value.category]; done)) ?_
  refine gAloadN X w d6_0 rfl rfl (n := 1) rfl ?_
  refine gAloadN X w d6_1 rfl rfl (n := 2) rfl ?_
  refine gAcmp_ne X w d6_2 rfl rfl (n := 7) (n' := 5) (by decide) rfl rfl ?_ ?_
  · intro c2
    refine gAloadN X w d6_7 rfl rfl (n := 8) rfl ?_
    refine gIfnullN X w d6_8 (n := 11) rfl ?_
    refine gAloadN X w d6_11 rfl rfl (n := 12) rfl ?_
    refine gIfnonnullY X w d6_12 (by decide) (n := 17) rfl ?_
    refine gAloadN X w d6_17 rfl rfl (n := 18) rfl ?_
    refine gAlen X w V (z := (1 : Int32)) rfl d6_18 (n := 19) rfl ?_
    refine gIstoreN X w d6_19 #[.val (.ref a), .val (.ref b), .val (.int (1 : Int32))] rfl (n := 20) rfl ?_
    refine gAloadN X w d6_20 rfl rfl (n := 21) rfl ?_
    refine gAlen X w U (z := (1 : Int32)) rfl d6_21 (n := 22) rfl ?_
    refine gIloadN X w d6_22 rfl (n := 23) rfl ?_
    refine gIcmp_eq X w d6_23 (n := 28) (n' := 26) (by decide) rfl rfl ?_ ?_
    · rintro ⟨c23, c23'⟩
      refine gAloadN X w d6_28 rfl rfl (n := 29) rfl ?_
      refine gAloadN X w d6_29 rfl rfl (n := 30) rfl ?_
      refine gIloadN X w d6_30 rfl (n := 31) rfl ?_
      refine gCallSv X w [(.ref a), (.ref b), (.int (1 : Int32))] [] (own_mis_diff_1 l Z a0 hw a b z0 y0 h0 n0 hn V U df) (own_wd hw 39 rfl) (own_wd hw 40 rfl) (own_wd hw 41 rfl) (own_wd hw 42 rfl) (by decide) own_pd1 rfl rfl d6_31 rfl (W := 0) (Nat.le_of_eq rfl) (by decide) (by decide) (by decide) (by decide) (n := 34) rfl ?_
      rintro T _ _ ⟨rfl, rfl⟩ X
      refine gIf_ge X w d6_34 (n := 41) (n' := 37) (by decide) rfl rfl ?_ ?_
      · intro c34
        refine gIconst X w d6_41 (z := (0 : Int32)) rfl (n := 42) rfl ?_
        exact gRetZ X w rfl (Or.inl rfl) d6_42 (by decide) (by decide) (⟨_, rfl, rfl, rfl⟩)
      · intro c34
        exact absurd c34 (by decide)
    · rintro ⟨c23, c23'⟩
      exact absurd c23 (by decide)
  · intro c2
    exact absurd (Value.ref.inj c2) nab
set_option maxRecDepth 65536 in
set_option maxHeartbeats 40000000 in
theorem own_eq_diff_1 (l : Launch) (Z : State) (a0 : Array Value) (hw : ∀ d ∈ tables_1, d.before a0 Z = true) (p1 p2 a b : Addr) (z0 : Int32) (y0 : Int32) (h0 : Heap) (n0 : Nat) (hn : n0 ≤ h0.size) (E1 : Exa Z h0 p1 "com/example/cassalink/cassalink/row/Blob") (E2 : Exa Z h0 p2 "com/example/cassalink/cassalink/row/Blob") (F1 : Fld Z h0 p1 "com/example/cassalink/cassalink/row/Blob" "bytes" "[B" (.ref a)) (F2 : Fld Z h0 p2 "com/example/cassalink/cassalink/row/Blob" "bytes" "[B" (.ref b)) (V : Av Z h0 a .byte [.int z0]) (U : Av Z h0 b .byte [.int y0]) (df : ¬ z0 = y0) (nab : a ≠ b) :
    ConV l Z (⟨"com/example/cassalink/cassalink/row/Blob", "equals", "(Ljava/lang/Object;)Z"⟩ : MethodName) prog_15_method_4_code 2 (some .boolean) ({ frames := 2, cells := 0, slots := 0, locals := 29 } : Room) #[(.ref p1), (.ref p2)] h0 n0 (fun v h => h0 = h ∧ v = .int 0) := by
  refine Con.of (plainFor_of_name (by first | (simp [plainName, overriddenIn]; done) | decide +kernel)) hn ?_
  intro p e s m below meth c T w X
  refine Gl.enter (ls := #[.val (.ref p1), .val (.ref p2)]) (by first | rfl | (simp [entryFrame, mkF, argsToLocals, Value.category]; done)) ?_
  refine gAloadN X w d5_0 rfl rfl (n := 1) rfl ?_
  refine gInstY X w (own_wd hw 5 rfl) (Ins.self E2) d5_1 (n := 4) rfl ?_
  intro T X
  refine gIf_eq X w d5_4 (n := 28) (n' := 7) (by decide) rfl rfl ?_ ?_
  · rintro ⟨c4, c4'⟩
    exact absurd c4 (by decide)
  · rintro ⟨c4, c4'⟩
    refine gAloadN X w d5_7 rfl rfl (n := 8) rfl ?_
    refine gGetF X w (own_wd hw 22 rfl) Via.refl F1 d5_8 (n := 11) rfl ?_
    intro T X
    refine gAloadN X w d5_11 rfl rfl (n := 12) rfl ?_
    refine gCast X w (own_wd hw 5 rfl) (Ins.self E2) d5_12 (n := 15) rfl ?_
    intro T X
    refine gGetF X w (own_wd hw 22 rfl) Via.refl F2 d5_15 (n := 18) rfl ?_
    intro T X
    refine gCallSv X w [(.ref a), (.ref b)] [] (own_arr_diff_1 l Z a0 hw a b z0 y0 h0 n0 hn V U df nab) (own_wd hw 35 rfl) (own_wd hw 36 rfl) (own_wd hw 37 rfl) (own_wd hw 38 rfl) (by decide) own_pd2 rfl rfl d5_18 rfl (W := 0) (Nat.le_of_eq rfl) (by decide) (by decide) (by decide) (by decide) (n := 21) rfl ?_
    rintro T _ _ ⟨rfl, rfl⟩ X
    refine gIf_eq X w d5_21 (n := 28) (n' := 24) (by decide) rfl rfl ?_ ?_
    · rintro ⟨c21, c21'⟩
      refine gIconst X w d5_28 (z := (0 : Int32)) rfl (n := 29) rfl ?_
      exact gRetZ X w rfl (Or.inl rfl) d5_29 (by decide) (by decide) (⟨_, rfl, rfl, rfl⟩)
    · rintro ⟨c21, c21'⟩
      exact absurd c21 (by decide)
set_option maxRecDepth 65536 in
set_option maxHeartbeats 40000000 in
theorem own_of_2 (l : Launch) (Z : State) (a0 : Array Value) (hw : ∀ d ∈ tables_1, d.before a0 Z = true) (a : Addr) (z0 z1 : Int32) (h0 : Heap) (n0 : Nat) (hn : n0 ≤ h0.size) (V : Av Z h0 a .byte [.int z0, .int z1]) (E : Exa Z h0 a "[B") (gz0 : fits .byte (.int z0) = true) (gz1 : fits .byte (.int z1) = true) :
    ConV l Z (⟨"com/example/cassalink/cassalink/row/Blob", "of", "([B)Lcom/example/cassalink/cassalink/row/Blob;"⟩ : MethodName) prog_15_method_2_code 1 (some (.object "com/example/cassalink/cassalink/row/Blob")) ({ frames := 2, cells := 2, slots := 3, locals := 26 } : Room) #[(.ref a)] h0 n0 (fun v h => Keep h0 h [] ∧ ∃ b d : Addr, v = .ref b ∧ h0.size ≤ b ∧ h0.size ≤ d ∧ d ≠ b ∧ Exa Z h b "com/example/cassalink/cassalink/row/Blob" ∧ Fld Z h b "com/example/cassalink/cassalink/row/Blob" "bytes" "[B" (.ref d) ∧ Av Z h d .byte [.int z0, .int z1] ∧ Exa Z h d "[B") := by
  refine Con.of (plainFor_of_name (by first | (simp [plainName, overriddenIn]; done) | decide +kernel)) hn ?_
  intro p e s m below meth c T w X
  refine Gl.enter (ls := #[.val (.ref a)]) (by first | rfl | (simp [entryFrame, mkF, argsToLocals, Value.category]; done)) ?_
  refine gNew X w (own_wd hw 5 rfl) (own_wd hw 6 rfl) (own_wd hw 3 rfl) d1_0 (by decide) (by decide) (n := 3) rfl ?_
  intro T hp0 ad0 ea0 na0 X E0 A0 D0
  have ne_a_ad0 : a ≠ ad0 := neOf V.lt (Nat.le_of_eq ea0.symm)
  have F_1 := V.ext E0
  have F_2 := E.ext E0
  have F_3 : Fld Z hp0 ad0 "com/example/cassalink/cassalink/row/Blob" "bytes" "[B" .null := D0 (Or.inr (own_wd hw 23 rfl)) (ty := (.array .byte)) (by decide)
  refine gDup X w d1_3 rfl (n := 4) rfl ?_
  refine gAloadN X w d1_4 rfl rfl (n := 5) rfl ?_
  refine gClone X w F_1 F_2 (by intro v hv; simp only [List.mem_cons, List.not_mem_nil, or_false] at hv; rcases hv with rfl | rfl <;> first | assumption | exact fits_nar_byte _ | exact fits_nar_char _ | decide) (own_wd hw 7 rfl) (own_wd hw 8 rfl) (own_wd hw 12 rfl) (own_wd hw 10 rfl) (own_wd hw 11 rfl) (own_wd hw 13 rfl) d1_5 rfl (by decide) (W := 2) (Nat.le_of_eq rfl) (by decide) (cap := 2) (by show (2 : Nat) ≤ 2; decide) (by decide) (by decide) (n := 8) rfl ?_
  intro T hp5 ad5 ea5 na5 X E5 V5 A5
  have ne_a_ad5 : a ≠ ad5 := neOf F_1.lt (Nat.le_of_eq ea5.symm)
  have ne_ad0_ad5 : ad0 ≠ ad5 := neOf A0.lt (Nat.le_of_eq ea5.symm)
  have F_4 := F_1.ext E5
  have F_5 := F_2.ext E5
  have F_6 := A0.ext E5
  have F_7 := F_3.ext E5
  refine gCast X w (own_wd hw 14 rfl) (Ins.self A5) d1_8 (n := 11) rfl ?_
  intro T X
  refine gCallIn X w [(.ref ad5)] [(.ref ad0)] rfl (own_init l Z a0 hw ad0 ad5 hp5 n0 (Sd.le X) na0 F_6 F_7) (own_wd hw 16 rfl) (own_wd hw 17 rfl) (own_wd hw 3 rfl) (own_wd hw 18 rfl) (by decide) own_pd0 rfl rfl d1_11 rfl (W := 1) (Nat.le_of_eq rfl) (by decide) (by decide) (by decide) (by decide) (n := 14) rfl ?_
  rintro T h11 ⟨K11, A11, F11⟩ X
  have F_8 := F_4.keep K11 (ninS ne_a_ad0 nin0)
  have F_9 := F_5.keep K11
  have F_10 := F_6.keep K11
  have F_11 := V5.keep K11 (ninS (Ne.symm ne_ad0_ad5) nin0)
  have F_12 := A5.keep K11
  exact gRetA X w rfl rfl rfl d1_14 (by decide) (by decide) (⟨_, rfl, (((Keep.refl _ []).ext E0).ext E5).trans K11 (allS (Or.inr (Nat.le_of_eq ea0.symm)) all0), ad0, ad5, rfl, Nat.le_of_eq ea0.symm, Nat.le_trans E0.1 (Nat.le_of_eq ea5.symm), (Ne.symm ne_ad0_ad5), A11, F11, F_11, F_12⟩)
set_option maxRecDepth 65536 in
set_option maxHeartbeats 40000000 in
theorem own_bytes_2 (l : Launch) (Z : State) (a0 : Array Value) (hw : ∀ d ∈ tables_1, d.before a0 Z = true) (b d : Addr) (z0 z1 : Int32) (h0 : Heap) (n0 : Nat) (hn : n0 ≤ h0.size) (F : Fld Z h0 b "com/example/cassalink/cassalink/row/Blob" "bytes" "[B" (.ref d)) (V : Av Z h0 d .byte [.int z0, .int z1]) (E : Exa Z h0 d "[B") (gz0 : fits .byte (.int z0) = true) (gz1 : fits .byte (.int z1) = true) :
    ConV l Z (⟨"com/example/cassalink/cassalink/row/Blob", "bytes", "()[B"⟩ : MethodName) prog_15_method_3_code 1 (some (.array .byte)) ({ frames := 1, cells := 1, slots := 2, locals := 16 } : Room) #[(.ref b)] h0 n0 (fun v h => Keep h0 h [] ∧ ∃ c : Addr, v = .ref c ∧ h0.size ≤ c ∧ Av Z h c .byte [.int z0, .int z1]) := by
  refine Con.of (plainFor_of_name (by first | (simp [plainName, overriddenIn]; done) | decide +kernel)) hn ?_
  intro p e s m below meth c T w X
  refine Gl.enter (ls := #[.val (.ref b)]) (by first | rfl | (simp [entryFrame, mkF, argsToLocals, Value.category]; done)) ?_
  refine gAloadN X w d4_0 rfl rfl (n := 1) rfl ?_
  refine gGetF X w (own_wd hw 22 rfl) Via.refl F d4_1 (n := 4) rfl ?_
  intro T X
  refine gClone X w V E (by intro v hv; simp only [List.mem_cons, List.not_mem_nil, or_false] at hv; rcases hv with rfl | rfl <;> first | assumption | exact fits_nar_byte _ | exact fits_nar_char _ | decide) (own_wd hw 7 rfl) (own_wd hw 8 rfl) (own_wd hw 12 rfl) (own_wd hw 10 rfl) (own_wd hw 11 rfl) (own_wd hw 13 rfl) d4_4 rfl (by decide) (W := 0) (Nat.le_of_eq rfl) (by decide) (cap := 2) (by show (2 : Nat) ≤ 2; decide) (by decide) (by decide) (n := 7) rfl ?_
  intro T hp4 ad4 ea4 na4 X E4 V4 A4
  have ne_b_ad4 : b ≠ ad4 := neOf F.lt (Nat.le_of_eq ea4.symm)
  have ne_d_ad4 : d ≠ ad4 := neOf V.lt (Nat.le_of_eq ea4.symm)
  have F_1 := F.ext E4
  have F_2 := V.ext E4
  have F_3 := E.ext E4
  refine gCast X w (own_wd hw 14 rfl) (Ins.self A4) d4_7 (n := 10) rfl ?_
  intro T X
  exact gRetA X w rfl rfl rfl d4_10 (by decide) (by decide) (⟨_, rfl, (Keep.refl _ []).ext E4, ad4, rfl, Nat.le_of_eq ea4.symm, V4⟩)
set_option maxRecDepth 65536 in
set_option maxHeartbeats 40000000 in
theorem own_mis_same_2 (l : Launch) (Z : State) (a0 : Array Value) (hw : ∀ d ∈ tables_1, d.before a0 Z = true) (a b : Addr) (z0 z1 : Int32) (h0 : Heap) (n0 : Nat) (hn : n0 ≤ h0.size) (V : Av Z h0 a .byte [.int z0, .int z1]) (U : Av Z h0 b .byte [.int z0, .int z1]) :
    ConV l Z (⟨"jdk/internal/util/ArraysSupport", "mismatch", "([B[BI)I"⟩ : MethodName) jdk_48_method_13_code 4 (some .int) ({ frames := 0, cells := 0, slots := 0, locals := 0 } : Room) #[(.ref a), (.ref b), (.int (2 : Int32))] h0 n0 (fun v h => h0 = h ∧ v = .int (-1 : Int32)) := by
  refine Con.of (plainFor_of_name (by first | (simp [plainName, overriddenIn]; done) | decide +kernel)) hn ?_
  intro p e s m below meth c T w X
  refine Gl.enter (ls := #[.val (.ref a), .val (.ref b), .val (.int (2 : Int32)), .unset]) (by first | rfl | (simp [entryFrame, mkF, argsToLocals, Value.category]; done)) ?_
  refine gIconst X w d7_0 (z := (0 : Int32)) rfl (n := 1) rfl ?_
  refine gIstoreN X w d7_1 #[.val (.ref a), .val (.ref b), .val (.int (2 : Int32)), .val (.int (0 : Int32))] rfl (n := 2) rfl ?_
  refine gIloadN X w d7_2 rfl (n := 3) rfl ?_
  refine gBipush X w d7_3 (z := (7 : Int32)) (by decide) (n := 5) rfl ?_
  refine gIcmp_le X w d7_5 (n := 49) (n' := 8) (by decide) rfl rfl ?_ ?_
  · intro c5
    refine gIloadN X w d7_49 rfl (n := 50) rfl ?_
    refine gIloadN X w d7_50 rfl (n := 51) rfl ?_
    refine gIcmp_ge X w d7_51 (n := 71) (n' := 54) (by decide) rfl rfl ?_ ?_
    · intro c51
      exact absurd c51 (by decide)
    · intro c51
      refine gAloadN X w d7_54 rfl rfl (n := 55) rfl ?_
      refine gIloadN X w d7_55 rfl (n := 56) rfl ?_
      refine gBaload X w V (by decide) rfl d7_56 (n := 57) rfl ?_
      refine gAloadN X w d7_57 rfl rfl (n := 58) rfl ?_
      refine gIloadN X w d7_58 rfl (n := 59) rfl ?_
      refine gBaload X w U (by decide) rfl d7_59 (n := 60) rfl ?_
      refine gIcmp_eq X w d7_60 (n := 65) (n' := 63) (by decide) rfl rfl ?_ ?_
      · rintro ⟨c60, c60'⟩
        refine gIinc X w d7_65 rfl (z := (1 : Int32)) (by decide) #[.val (.ref a), .val (.ref b), .val (.int (2 : Int32)), .val (.int (1 : Int32))] rfl (n := 68) rfl ?_
        refine gGoto X w d7_68 (by decide) (n := 49) rfl ?_
        refine gIloadN X w d7_49 rfl (n := 50) rfl ?_
        refine gIloadN X w d7_50 rfl (n := 51) rfl ?_
        refine gIcmp_ge X w d7_51 (n := 71) (n' := 54) (by decide) rfl rfl ?_ ?_
        · intro c51
          exact absurd c51 (by decide)
        · intro c51
          refine gAloadN X w d7_54 rfl rfl (n := 55) rfl ?_
          refine gIloadN X w d7_55 rfl (n := 56) rfl ?_
          refine gBaload X w V (by decide) rfl d7_56 (n := 57) rfl ?_
          refine gAloadN X w d7_57 rfl rfl (n := 58) rfl ?_
          refine gIloadN X w d7_58 rfl (n := 59) rfl ?_
          refine gBaload X w U (by decide) rfl d7_59 (n := 60) rfl ?_
          refine gIcmp_eq X w d7_60 (n := 65) (n' := 63) (by decide) rfl rfl ?_ ?_
          · rintro ⟨c60, c60'⟩
            refine gIinc X w d7_65 rfl (z := (2 : Int32)) (by decide) #[.val (.ref a), .val (.ref b), .val (.int (2 : Int32)), .val (.int (2 : Int32))] rfl (n := 68) rfl ?_
            refine gGoto X w d7_68 (by decide) (n := 49) rfl ?_
            refine gIloadN X w d7_49 rfl (n := 50) rfl ?_
            refine gIloadN X w d7_50 rfl (n := 51) rfl ?_
            refine gIcmp_ge X w d7_51 (n := 71) (n' := 54) (by decide) rfl rfl ?_ ?_
            · intro c51
              refine gIconst X w d7_71 (z := (-1 : Int32)) rfl (n := 72) rfl ?_
              exact gRetI X w rfl d7_72 (by decide) (by decide) (⟨_, rfl, rfl, rfl⟩)
            · intro c51
              exact absurd c51 (by decide)
          · rintro ⟨c60, c60'⟩
            exact absurd rfl c60
      · rintro ⟨c60, c60'⟩
        exact absurd rfl c60
  · intro c5
    exact absurd c5 (by decide)
set_option maxRecDepth 65536 in
set_option maxHeartbeats 40000000 in
theorem own_arr_same_2 (l : Launch) (Z : State) (a0 : Array Value) (hw : ∀ d ∈ tables_1, d.before a0 Z = true) (a b : Addr) (z0 z1 : Int32) (h0 : Heap) (n0 : Nat) (hn : n0 ≤ h0.size) (V : Av Z h0 a .byte [.int z0, .int z1]) (U : Av Z h0 b .byte [.int z0, .int z1]) (nab : a ≠ b) :
    ConV l Z (⟨"java/util/Arrays", "equals", "([B[B)Z"⟩ : MethodName) jdk_65_method_89_code 3 (some .boolean) ({ frames := 1, cells := 0, slots := 0, locals := 15 } : Room) #[(.ref a), (.ref b)] h0 n0 (fun v h => h0 = h ∧ v = .int 1) := by
  refine Con.of (plainFor_of_name (by first | (simp [plainName, overriddenIn]; done) | decide +kernel)) hn ?_
  intro p e s m below meth c T w X
  refine Gl.enter (ls := #[.val (.ref a), .val (.ref b), .unset]) (by first | rfl | (simp [entryFrame, mkF, argsToLocals, Value.category]; done)) ?_
  refine gAloadN X w d6_0 rfl rfl (n := 1) rfl ?_
  refine gAloadN X w d6_1 rfl rfl (n := 2) rfl ?_
  refine gAcmp_ne X w d6_2 rfl rfl (n := 7) (n' := 5) (by decide) rfl rfl ?_ ?_
  · intro c2
    refine gAloadN X w d6_7 rfl rfl (n := 8) rfl ?_
    refine gIfnullN X w d6_8 (n := 11) rfl ?_
    refine gAloadN X w d6_11 rfl rfl (n := 12) rfl ?_
    refine gIfnonnullY X w d6_12 (by decide) (n := 17) rfl ?_
    refine gAloadN X w d6_17 rfl rfl (n := 18) rfl ?_
    refine gAlen X w V (z := (2 : Int32)) rfl d6_18 (n := 19) rfl ?_
    refine gIstoreN X w d6_19 #[.val (.ref a), .val (.ref b), .val (.int (2 : Int32))] rfl (n := 20) rfl ?_
    refine gAloadN X w d6_20 rfl rfl (n := 21) rfl ?_
    refine gAlen X w U (z := (2 : Int32)) rfl d6_21 (n := 22) rfl ?_
    refine gIloadN X w d6_22 rfl (n := 23) rfl ?_
    refine gIcmp_eq X w d6_23 (n := 28) (n' := 26) (by decide) rfl rfl ?_ ?_
    · rintro ⟨c23, c23'⟩
      refine gAloadN X w d6_28 rfl rfl (n := 29) rfl ?_
      refine gAloadN X w d6_29 rfl rfl (n := 30) rfl ?_
      refine gIloadN X w d6_30 rfl (n := 31) rfl ?_
      refine gCallSv X w [(.ref a), (.ref b), (.int (2 : Int32))] [] (own_mis_same_2 l Z a0 hw a b z0 z1 h0 n0 hn V U) (own_wd hw 39 rfl) (own_wd hw 40 rfl) (own_wd hw 41 rfl) (own_wd hw 42 rfl) (by decide) own_pd1 rfl rfl d6_31 rfl (W := 0) (Nat.le_of_eq rfl) (by decide) (by decide) (by decide) (by decide) (n := 34) rfl ?_
      rintro T _ _ ⟨rfl, rfl⟩ X
      refine gIf_ge X w d6_34 (n := 41) (n' := 37) (by decide) rfl rfl ?_ ?_
      · intro c34
        exact absurd c34 (by decide)
      · intro c34
        refine gIconst X w d6_37 (z := (1 : Int32)) rfl (n := 38) rfl ?_
        refine gGoto X w d6_38 (by decide) (n := 42) rfl ?_
        exact gRetZ X w rfl (Or.inr rfl) d6_42 (by decide) (by decide) (⟨_, rfl, rfl, rfl⟩)
    · rintro ⟨c23, c23'⟩
      exact absurd c23 (by decide)
  · intro c2
    exact absurd (Value.ref.inj c2) nab
set_option maxRecDepth 65536 in
set_option maxHeartbeats 40000000 in
theorem own_eq_same_2 (l : Launch) (Z : State) (a0 : Array Value) (hw : ∀ d ∈ tables_1, d.before a0 Z = true) (p1 p2 a b : Addr) (z0 z1 : Int32) (h0 : Heap) (n0 : Nat) (hn : n0 ≤ h0.size) (E1 : Exa Z h0 p1 "com/example/cassalink/cassalink/row/Blob") (E2 : Exa Z h0 p2 "com/example/cassalink/cassalink/row/Blob") (F1 : Fld Z h0 p1 "com/example/cassalink/cassalink/row/Blob" "bytes" "[B" (.ref a)) (F2 : Fld Z h0 p2 "com/example/cassalink/cassalink/row/Blob" "bytes" "[B" (.ref b)) (V : Av Z h0 a .byte [.int z0, .int z1]) (U : Av Z h0 b .byte [.int z0, .int z1]) (nab : a ≠ b) :
    ConV l Z (⟨"com/example/cassalink/cassalink/row/Blob", "equals", "(Ljava/lang/Object;)Z"⟩ : MethodName) prog_15_method_4_code 2 (some .boolean) ({ frames := 2, cells := 0, slots := 0, locals := 29 } : Room) #[(.ref p1), (.ref p2)] h0 n0 (fun v h => h0 = h ∧ v = .int 1) := by
  refine Con.of (plainFor_of_name (by first | (simp [plainName, overriddenIn]; done) | decide +kernel)) hn ?_
  intro p e s m below meth c T w X
  refine Gl.enter (ls := #[.val (.ref p1), .val (.ref p2)]) (by first | rfl | (simp [entryFrame, mkF, argsToLocals, Value.category]; done)) ?_
  refine gAloadN X w d5_0 rfl rfl (n := 1) rfl ?_
  refine gInstY X w (own_wd hw 5 rfl) (Ins.self E2) d5_1 (n := 4) rfl ?_
  intro T X
  refine gIf_eq X w d5_4 (n := 28) (n' := 7) (by decide) rfl rfl ?_ ?_
  · rintro ⟨c4, c4'⟩
    exact absurd c4 (by decide)
  · rintro ⟨c4, c4'⟩
    refine gAloadN X w d5_7 rfl rfl (n := 8) rfl ?_
    refine gGetF X w (own_wd hw 22 rfl) Via.refl F1 d5_8 (n := 11) rfl ?_
    intro T X
    refine gAloadN X w d5_11 rfl rfl (n := 12) rfl ?_
    refine gCast X w (own_wd hw 5 rfl) (Ins.self E2) d5_12 (n := 15) rfl ?_
    intro T X
    refine gGetF X w (own_wd hw 22 rfl) Via.refl F2 d5_15 (n := 18) rfl ?_
    intro T X
    refine gCallSv X w [(.ref a), (.ref b)] [] (own_arr_same_2 l Z a0 hw a b z0 z1 h0 n0 hn V U nab) (own_wd hw 35 rfl) (own_wd hw 36 rfl) (own_wd hw 37 rfl) (own_wd hw 38 rfl) (by decide) own_pd2 rfl rfl d5_18 rfl (W := 0) (Nat.le_of_eq rfl) (by decide) (by decide) (by decide) (by decide) (n := 21) rfl ?_
    rintro T _ _ ⟨rfl, rfl⟩ X
    refine gIf_eq X w d5_21 (n := 28) (n' := 24) (by decide) rfl rfl ?_ ?_
    · rintro ⟨c21, c21'⟩
      exact absurd c21 (by decide)
    · rintro ⟨c21, c21'⟩
      refine gIconst X w d5_24 (z := (1 : Int32)) rfl (n := 25) rfl ?_
      refine gGoto X w d5_25 (by decide) (n := 29) rfl ?_
      exact gRetZ X w rfl (Or.inr rfl) d5_29 (by decide) (by decide) (⟨_, rfl, rfl, rfl⟩)
set_option maxRecDepth 65536 in
set_option maxHeartbeats 40000000 in
theorem own_mis_diff_2 (l : Launch) (Z : State) (a0 : Array Value) (hw : ∀ d ∈ tables_1, d.before a0 Z = true) (a b : Addr) (z0 z1 : Int32) (y0 y1 : Int32) (h0 : Heap) (n0 : Nat) (hn : n0 ≤ h0.size) (V : Av Z h0 a .byte [.int z0, .int z1]) (U : Av Z h0 b .byte [.int y0, .int y1]) (df : ¬ z0 = y0) :
    ConV l Z (⟨"jdk/internal/util/ArraysSupport", "mismatch", "([B[BI)I"⟩ : MethodName) jdk_48_method_13_code 4 (some .int) ({ frames := 0, cells := 0, slots := 0, locals := 0 } : Room) #[(.ref a), (.ref b), (.int (2 : Int32))] h0 n0 (fun v h => h0 = h ∧ v = .int (0 : Int32)) := by
  refine Con.of (plainFor_of_name (by first | (simp [plainName, overriddenIn]; done) | decide +kernel)) hn ?_
  intro p e s m below meth c T w X
  refine Gl.enter (ls := #[.val (.ref a), .val (.ref b), .val (.int (2 : Int32)), .unset]) (by first | rfl | (simp [entryFrame, mkF, argsToLocals, Value.category]; done)) ?_
  refine gIconst X w d7_0 (z := (0 : Int32)) rfl (n := 1) rfl ?_
  refine gIstoreN X w d7_1 #[.val (.ref a), .val (.ref b), .val (.int (2 : Int32)), .val (.int (0 : Int32))] rfl (n := 2) rfl ?_
  refine gIloadN X w d7_2 rfl (n := 3) rfl ?_
  refine gBipush X w d7_3 (z := (7 : Int32)) (by decide) (n := 5) rfl ?_
  refine gIcmp_le X w d7_5 (n := 49) (n' := 8) (by decide) rfl rfl ?_ ?_
  · intro c5
    refine gIloadN X w d7_49 rfl (n := 50) rfl ?_
    refine gIloadN X w d7_50 rfl (n := 51) rfl ?_
    refine gIcmp_ge X w d7_51 (n := 71) (n' := 54) (by decide) rfl rfl ?_ ?_
    · intro c51
      exact absurd c51 (by decide)
    · intro c51
      refine gAloadN X w d7_54 rfl rfl (n := 55) rfl ?_
      refine gIloadN X w d7_55 rfl (n := 56) rfl ?_
      refine gBaload X w V (by decide) rfl d7_56 (n := 57) rfl ?_
      refine gAloadN X w d7_57 rfl rfl (n := 58) rfl ?_
      refine gIloadN X w d7_58 rfl (n := 59) rfl ?_
      refine gBaload X w U (by decide) rfl d7_59 (n := 60) rfl ?_
      refine gIcmp_eq X w d7_60 (n := 65) (n' := 63) (by decide) rfl rfl ?_ ?_
      · rintro ⟨c60, c60'⟩
        exact absurd c60 df
      · rintro ⟨c60, c60'⟩
        refine gIloadN X w d7_63 rfl (n := 64) rfl ?_
        exact gRetI X w rfl d7_64 (by decide) (by decide) (⟨_, rfl, rfl, rfl⟩)
  · intro c5
    exact absurd c5 (by decide)
set_option maxRecDepth 65536 in
set_option maxHeartbeats 40000000 in
theorem own_arr_diff_2 (l : Launch) (Z : State) (a0 : Array Value) (hw : ∀ d ∈ tables_1, d.before a0 Z = true) (a b : Addr) (z0 z1 : Int32) (y0 y1 : Int32) (h0 : Heap) (n0 : Nat) (hn : n0 ≤ h0.size) (V : Av Z h0 a .byte [.int z0, .int z1]) (U : Av Z h0 b .byte [.int y0, .int y1]) (df : ¬ z0 = y0) (nab : a ≠ b) :
    ConV l Z (⟨"java/util/Arrays", "equals", "([B[B)Z"⟩ : MethodName) jdk_65_method_89_code 3 (some .boolean) ({ frames := 1, cells := 0, slots := 0, locals := 15 } : Room) #[(.ref a), (.ref b)] h0 n0 (fun v h => h0 = h ∧ v = .int 0) := by
  refine Con.of (plainFor_of_name (by first | (simp [plainName, overriddenIn]; done) | decide +kernel)) hn ?_
  intro p e s m below meth c T w X
  refine Gl.enter (ls := #[.val (.ref a), .val (.ref b), .unset]) (by first | rfl | (simp [entryFrame, mkF, argsToLocals, Value.category]; done)) ?_
  refine gAloadN X w d6_0 rfl rfl (n := 1) rfl ?_
  refine gAloadN X w d6_1 rfl rfl (n := 2) rfl ?_
  refine gAcmp_ne X w d6_2 rfl rfl (n := 7) (n' := 5) (by decide) rfl rfl ?_ ?_
  · intro c2
    refine gAloadN X w d6_7 rfl rfl (n := 8) rfl ?_
    refine gIfnullN X w d6_8 (n := 11) rfl ?_
    refine gAloadN X w d6_11 rfl rfl (n := 12) rfl ?_
    refine gIfnonnullY X w d6_12 (by decide) (n := 17) rfl ?_
    refine gAloadN X w d6_17 rfl rfl (n := 18) rfl ?_
    refine gAlen X w V (z := (2 : Int32)) rfl d6_18 (n := 19) rfl ?_
    refine gIstoreN X w d6_19 #[.val (.ref a), .val (.ref b), .val (.int (2 : Int32))] rfl (n := 20) rfl ?_
    refine gAloadN X w d6_20 rfl rfl (n := 21) rfl ?_
    refine gAlen X w U (z := (2 : Int32)) rfl d6_21 (n := 22) rfl ?_
    refine gIloadN X w d6_22 rfl (n := 23) rfl ?_
    refine gIcmp_eq X w d6_23 (n := 28) (n' := 26) (by decide) rfl rfl ?_ ?_
    · rintro ⟨c23, c23'⟩
      refine gAloadN X w d6_28 rfl rfl (n := 29) rfl ?_
      refine gAloadN X w d6_29 rfl rfl (n := 30) rfl ?_
      refine gIloadN X w d6_30 rfl (n := 31) rfl ?_
      refine gCallSv X w [(.ref a), (.ref b), (.int (2 : Int32))] [] (own_mis_diff_2 l Z a0 hw a b z0 z1 y0 y1 h0 n0 hn V U df) (own_wd hw 39 rfl) (own_wd hw 40 rfl) (own_wd hw 41 rfl) (own_wd hw 42 rfl) (by decide) own_pd1 rfl rfl d6_31 rfl (W := 0) (Nat.le_of_eq rfl) (by decide) (by decide) (by decide) (by decide) (n := 34) rfl ?_
      rintro T _ _ ⟨rfl, rfl⟩ X
      refine gIf_ge X w d6_34 (n := 41) (n' := 37) (by decide) rfl rfl ?_ ?_
      · intro c34
        refine gIconst X w d6_41 (z := (0 : Int32)) rfl (n := 42) rfl ?_
        exact gRetZ X w rfl (Or.inl rfl) d6_42 (by decide) (by decide) (⟨_, rfl, rfl, rfl⟩)
      · intro c34
        exact absurd c34 (by decide)
    · rintro ⟨c23, c23'⟩
      exact absurd c23 (by decide)
  · intro c2
    exact absurd (Value.ref.inj c2) nab
set_option maxRecDepth 65536 in
set_option maxHeartbeats 40000000 in
theorem own_eq_diff_2 (l : Launch) (Z : State) (a0 : Array Value) (hw : ∀ d ∈ tables_1, d.before a0 Z = true) (p1 p2 a b : Addr) (z0 z1 : Int32) (y0 y1 : Int32) (h0 : Heap) (n0 : Nat) (hn : n0 ≤ h0.size) (E1 : Exa Z h0 p1 "com/example/cassalink/cassalink/row/Blob") (E2 : Exa Z h0 p2 "com/example/cassalink/cassalink/row/Blob") (F1 : Fld Z h0 p1 "com/example/cassalink/cassalink/row/Blob" "bytes" "[B" (.ref a)) (F2 : Fld Z h0 p2 "com/example/cassalink/cassalink/row/Blob" "bytes" "[B" (.ref b)) (V : Av Z h0 a .byte [.int z0, .int z1]) (U : Av Z h0 b .byte [.int y0, .int y1]) (df : ¬ z0 = y0) (nab : a ≠ b) :
    ConV l Z (⟨"com/example/cassalink/cassalink/row/Blob", "equals", "(Ljava/lang/Object;)Z"⟩ : MethodName) prog_15_method_4_code 2 (some .boolean) ({ frames := 2, cells := 0, slots := 0, locals := 29 } : Room) #[(.ref p1), (.ref p2)] h0 n0 (fun v h => h0 = h ∧ v = .int 0) := by
  refine Con.of (plainFor_of_name (by first | (simp [plainName, overriddenIn]; done) | decide +kernel)) hn ?_
  intro p e s m below meth c T w X
  refine Gl.enter (ls := #[.val (.ref p1), .val (.ref p2)]) (by first | rfl | (simp [entryFrame, mkF, argsToLocals, Value.category]; done)) ?_
  refine gAloadN X w d5_0 rfl rfl (n := 1) rfl ?_
  refine gInstY X w (own_wd hw 5 rfl) (Ins.self E2) d5_1 (n := 4) rfl ?_
  intro T X
  refine gIf_eq X w d5_4 (n := 28) (n' := 7) (by decide) rfl rfl ?_ ?_
  · rintro ⟨c4, c4'⟩
    exact absurd c4 (by decide)
  · rintro ⟨c4, c4'⟩
    refine gAloadN X w d5_7 rfl rfl (n := 8) rfl ?_
    refine gGetF X w (own_wd hw 22 rfl) Via.refl F1 d5_8 (n := 11) rfl ?_
    intro T X
    refine gAloadN X w d5_11 rfl rfl (n := 12) rfl ?_
    refine gCast X w (own_wd hw 5 rfl) (Ins.self E2) d5_12 (n := 15) rfl ?_
    intro T X
    refine gGetF X w (own_wd hw 22 rfl) Via.refl F2 d5_15 (n := 18) rfl ?_
    intro T X
    refine gCallSv X w [(.ref a), (.ref b)] [] (own_arr_diff_2 l Z a0 hw a b z0 z1 y0 y1 h0 n0 hn V U df nab) (own_wd hw 35 rfl) (own_wd hw 36 rfl) (own_wd hw 37 rfl) (own_wd hw 38 rfl) (by decide) own_pd2 rfl rfl d5_18 rfl (W := 0) (Nat.le_of_eq rfl) (by decide) (by decide) (by decide) (by decide) (n := 21) rfl ?_
    rintro T _ _ ⟨rfl, rfl⟩ X
    refine gIf_eq X w d5_21 (n := 28) (n' := 24) (by decide) rfl rfl ?_ ?_
    · rintro ⟨c21, c21'⟩
      refine gIconst X w d5_28 (z := (0 : Int32)) rfl (n := 29) rfl ?_
      exact gRetZ X w rfl (Or.inl rfl) d5_29 (by decide) (by decide) (⟨_, rfl, rfl, rfl⟩)
    · rintro ⟨c21, c21'⟩
      exact absurd c21 (by decide)
set_option maxRecDepth 65536 in
set_option maxHeartbeats 40000000 in
theorem own_of_3 (l : Launch) (Z : State) (a0 : Array Value) (hw : ∀ d ∈ tables_1, d.before a0 Z = true) (a : Addr) (z0 z1 z2 : Int32) (h0 : Heap) (n0 : Nat) (hn : n0 ≤ h0.size) (V : Av Z h0 a .byte [.int z0, .int z1, .int z2]) (E : Exa Z h0 a "[B") (gz0 : fits .byte (.int z0) = true) (gz1 : fits .byte (.int z1) = true) (gz2 : fits .byte (.int z2) = true) :
    ConV l Z (⟨"com/example/cassalink/cassalink/row/Blob", "of", "([B)Lcom/example/cassalink/cassalink/row/Blob;"⟩ : MethodName) prog_15_method_2_code 1 (some (.object "com/example/cassalink/cassalink/row/Blob")) ({ frames := 2, cells := 2, slots := 4, locals := 26 } : Room) #[(.ref a)] h0 n0 (fun v h => Keep h0 h [] ∧ ∃ b d : Addr, v = .ref b ∧ h0.size ≤ b ∧ h0.size ≤ d ∧ d ≠ b ∧ Exa Z h b "com/example/cassalink/cassalink/row/Blob" ∧ Fld Z h b "com/example/cassalink/cassalink/row/Blob" "bytes" "[B" (.ref d) ∧ Av Z h d .byte [.int z0, .int z1, .int z2] ∧ Exa Z h d "[B") := by
  refine Con.of (plainFor_of_name (by first | (simp [plainName, overriddenIn]; done) | decide +kernel)) hn ?_
  intro p e s m below meth c T w X
  refine Gl.enter (ls := #[.val (.ref a)]) (by first | rfl | (simp [entryFrame, mkF, argsToLocals, Value.category]; done)) ?_
  refine gNew X w (own_wd hw 5 rfl) (own_wd hw 6 rfl) (own_wd hw 3 rfl) d1_0 (by decide) (by decide) (n := 3) rfl ?_
  intro T hp0 ad0 ea0 na0 X E0 A0 D0
  have ne_a_ad0 : a ≠ ad0 := neOf V.lt (Nat.le_of_eq ea0.symm)
  have F_1 := V.ext E0
  have F_2 := E.ext E0
  have F_3 : Fld Z hp0 ad0 "com/example/cassalink/cassalink/row/Blob" "bytes" "[B" .null := D0 (Or.inr (own_wd hw 23 rfl)) (ty := (.array .byte)) (by decide)
  refine gDup X w d1_3 rfl (n := 4) rfl ?_
  refine gAloadN X w d1_4 rfl rfl (n := 5) rfl ?_
  refine gClone X w F_1 F_2 (by intro v hv; simp only [List.mem_cons, List.not_mem_nil, or_false] at hv; rcases hv with rfl | rfl | rfl <;> first | assumption | exact fits_nar_byte _ | exact fits_nar_char _ | decide) (own_wd hw 7 rfl) (own_wd hw 8 rfl) (own_wd hw 12 rfl) (own_wd hw 10 rfl) (own_wd hw 11 rfl) (own_wd hw 13 rfl) d1_5 rfl (by decide) (W := 2) (Nat.le_of_eq rfl) (by decide) (cap := 3) (by show (3 : Nat) ≤ 3; decide) (by decide) (by decide) (n := 8) rfl ?_
  intro T hp5 ad5 ea5 na5 X E5 V5 A5
  have ne_a_ad5 : a ≠ ad5 := neOf F_1.lt (Nat.le_of_eq ea5.symm)
  have ne_ad0_ad5 : ad0 ≠ ad5 := neOf A0.lt (Nat.le_of_eq ea5.symm)
  have F_4 := F_1.ext E5
  have F_5 := F_2.ext E5
  have F_6 := A0.ext E5
  have F_7 := F_3.ext E5
  refine gCast X w (own_wd hw 14 rfl) (Ins.self A5) d1_8 (n := 11) rfl ?_
  intro T X
  refine gCallIn X w [(.ref ad5)] [(.ref ad0)] rfl (own_init l Z a0 hw ad0 ad5 hp5 n0 (Sd.le X) na0 F_6 F_7) (own_wd hw 16 rfl) (own_wd hw 17 rfl) (own_wd hw 3 rfl) (own_wd hw 18 rfl) (by decide) own_pd0 rfl rfl d1_11 rfl (W := 1) (Nat.le_of_eq rfl) (by decide) (by decide) (by decide) (by decide) (n := 14) rfl ?_
  rintro T h11 ⟨K11, A11, F11⟩ X
  have F_8 := F_4.keep K11 (ninS ne_a_ad0 nin0)
  have F_9 := F_5.keep K11
  have F_10 := F_6.keep K11
  have F_11 := V5.keep K11 (ninS (Ne.symm ne_ad0_ad5) nin0)
  have F_12 := A5.keep K11
  exact gRetA X w rfl rfl rfl d1_14 (by decide) (by decide) (⟨_, rfl, (((Keep.refl _ []).ext E0).ext E5).trans K11 (allS (Or.inr (Nat.le_of_eq ea0.symm)) all0), ad0, ad5, rfl, Nat.le_of_eq ea0.symm, Nat.le_trans E0.1 (Nat.le_of_eq ea5.symm), (Ne.symm ne_ad0_ad5), A11, F11, F_11, F_12⟩)
set_option maxRecDepth 65536 in
set_option maxHeartbeats 40000000 in
theorem own_bytes_3 (l : Launch) (Z : State) (a0 : Array Value) (hw : ∀ d ∈ tables_1, d.before a0 Z = true) (b d : Addr) (z0 z1 z2 : Int32) (h0 : Heap) (n0 : Nat) (hn : n0 ≤ h0.size) (F : Fld Z h0 b "com/example/cassalink/cassalink/row/Blob" "bytes" "[B" (.ref d)) (V : Av Z h0 d .byte [.int z0, .int z1, .int z2]) (E : Exa Z h0 d "[B") (gz0 : fits .byte (.int z0) = true) (gz1 : fits .byte (.int z1) = true) (gz2 : fits .byte (.int z2) = true) :
    ConV l Z (⟨"com/example/cassalink/cassalink/row/Blob", "bytes", "()[B"⟩ : MethodName) prog_15_method_3_code 1 (some (.array .byte)) ({ frames := 1, cells := 1, slots := 3, locals := 16 } : Room) #[(.ref b)] h0 n0 (fun v h => Keep h0 h [] ∧ ∃ c : Addr, v = .ref c ∧ h0.size ≤ c ∧ Av Z h c .byte [.int z0, .int z1, .int z2]) := by
  refine Con.of (plainFor_of_name (by first | (simp [plainName, overriddenIn]; done) | decide +kernel)) hn ?_
  intro p e s m below meth c T w X
  refine Gl.enter (ls := #[.val (.ref b)]) (by first | rfl | (simp [entryFrame, mkF, argsToLocals, Value.category]; done)) ?_
  refine gAloadN X w d4_0 rfl rfl (n := 1) rfl ?_
  refine gGetF X w (own_wd hw 22 rfl) Via.refl F d4_1 (n := 4) rfl ?_
  intro T X
  refine gClone X w V E (by intro v hv; simp only [List.mem_cons, List.not_mem_nil, or_false] at hv; rcases hv with rfl | rfl | rfl <;> first | assumption | exact fits_nar_byte _ | exact fits_nar_char _ | decide) (own_wd hw 7 rfl) (own_wd hw 8 rfl) (own_wd hw 12 rfl) (own_wd hw 10 rfl) (own_wd hw 11 rfl) (own_wd hw 13 rfl) d4_4 rfl (by decide) (W := 0) (Nat.le_of_eq rfl) (by decide) (cap := 3) (by show (3 : Nat) ≤ 3; decide) (by decide) (by decide) (n := 7) rfl ?_
  intro T hp4 ad4 ea4 na4 X E4 V4 A4
  have ne_b_ad4 : b ≠ ad4 := neOf F.lt (Nat.le_of_eq ea4.symm)
  have ne_d_ad4 : d ≠ ad4 := neOf V.lt (Nat.le_of_eq ea4.symm)
  have F_1 := F.ext E4
  have F_2 := V.ext E4
  have F_3 := E.ext E4
  refine gCast X w (own_wd hw 14 rfl) (Ins.self A4) d4_7 (n := 10) rfl ?_
  intro T X
  exact gRetA X w rfl rfl rfl d4_10 (by decide) (by decide) (⟨_, rfl, (Keep.refl _ []).ext E4, ad4, rfl, Nat.le_of_eq ea4.symm, V4⟩)
set_option maxRecDepth 65536 in
set_option maxHeartbeats 40000000 in
theorem own_mis_same_3 (l : Launch) (Z : State) (a0 : Array Value) (hw : ∀ d ∈ tables_1, d.before a0 Z = true) (a b : Addr) (z0 z1 z2 : Int32) (h0 : Heap) (n0 : Nat) (hn : n0 ≤ h0.size) (V : Av Z h0 a .byte [.int z0, .int z1, .int z2]) (U : Av Z h0 b .byte [.int z0, .int z1, .int z2]) :
    ConV l Z (⟨"jdk/internal/util/ArraysSupport", "mismatch", "([B[BI)I"⟩ : MethodName) jdk_48_method_13_code 4 (some .int) ({ frames := 0, cells := 0, slots := 0, locals := 0 } : Room) #[(.ref a), (.ref b), (.int (3 : Int32))] h0 n0 (fun v h => h0 = h ∧ v = .int (-1 : Int32)) := by
  refine Con.of (plainFor_of_name (by first | (simp [plainName, overriddenIn]; done) | decide +kernel)) hn ?_
  intro p e s m below meth c T w X
  refine Gl.enter (ls := #[.val (.ref a), .val (.ref b), .val (.int (3 : Int32)), .unset]) (by first | rfl | (simp [entryFrame, mkF, argsToLocals, Value.category]; done)) ?_
  refine gIconst X w d7_0 (z := (0 : Int32)) rfl (n := 1) rfl ?_
  refine gIstoreN X w d7_1 #[.val (.ref a), .val (.ref b), .val (.int (3 : Int32)), .val (.int (0 : Int32))] rfl (n := 2) rfl ?_
  refine gIloadN X w d7_2 rfl (n := 3) rfl ?_
  refine gBipush X w d7_3 (z := (7 : Int32)) (by decide) (n := 5) rfl ?_
  refine gIcmp_le X w d7_5 (n := 49) (n' := 8) (by decide) rfl rfl ?_ ?_
  · intro c5
    refine gIloadN X w d7_49 rfl (n := 50) rfl ?_
    refine gIloadN X w d7_50 rfl (n := 51) rfl ?_
    refine gIcmp_ge X w d7_51 (n := 71) (n' := 54) (by decide) rfl rfl ?_ ?_
    · intro c51
      exact absurd c51 (by decide)
    · intro c51
      refine gAloadN X w d7_54 rfl rfl (n := 55) rfl ?_
      refine gIloadN X w d7_55 rfl (n := 56) rfl ?_
      refine gBaload X w V (by decide) rfl d7_56 (n := 57) rfl ?_
      refine gAloadN X w d7_57 rfl rfl (n := 58) rfl ?_
      refine gIloadN X w d7_58 rfl (n := 59) rfl ?_
      refine gBaload X w U (by decide) rfl d7_59 (n := 60) rfl ?_
      refine gIcmp_eq X w d7_60 (n := 65) (n' := 63) (by decide) rfl rfl ?_ ?_
      · rintro ⟨c60, c60'⟩
        refine gIinc X w d7_65 rfl (z := (1 : Int32)) (by decide) #[.val (.ref a), .val (.ref b), .val (.int (3 : Int32)), .val (.int (1 : Int32))] rfl (n := 68) rfl ?_
        refine gGoto X w d7_68 (by decide) (n := 49) rfl ?_
        refine gIloadN X w d7_49 rfl (n := 50) rfl ?_
        refine gIloadN X w d7_50 rfl (n := 51) rfl ?_
        refine gIcmp_ge X w d7_51 (n := 71) (n' := 54) (by decide) rfl rfl ?_ ?_
        · intro c51
          exact absurd c51 (by decide)
        · intro c51
          refine gAloadN X w d7_54 rfl rfl (n := 55) rfl ?_
          refine gIloadN X w d7_55 rfl (n := 56) rfl ?_
          refine gBaload X w V (by decide) rfl d7_56 (n := 57) rfl ?_
          refine gAloadN X w d7_57 rfl rfl (n := 58) rfl ?_
          refine gIloadN X w d7_58 rfl (n := 59) rfl ?_
          refine gBaload X w U (by decide) rfl d7_59 (n := 60) rfl ?_
          refine gIcmp_eq X w d7_60 (n := 65) (n' := 63) (by decide) rfl rfl ?_ ?_
          · rintro ⟨c60, c60'⟩
            refine gIinc X w d7_65 rfl (z := (2 : Int32)) (by decide) #[.val (.ref a), .val (.ref b), .val (.int (3 : Int32)), .val (.int (2 : Int32))] rfl (n := 68) rfl ?_
            refine gGoto X w d7_68 (by decide) (n := 49) rfl ?_
            refine gIloadN X w d7_49 rfl (n := 50) rfl ?_
            refine gIloadN X w d7_50 rfl (n := 51) rfl ?_
            refine gIcmp_ge X w d7_51 (n := 71) (n' := 54) (by decide) rfl rfl ?_ ?_
            · intro c51
              exact absurd c51 (by decide)
            · intro c51
              refine gAloadN X w d7_54 rfl rfl (n := 55) rfl ?_
              refine gIloadN X w d7_55 rfl (n := 56) rfl ?_
              refine gBaload X w V (by decide) rfl d7_56 (n := 57) rfl ?_
              refine gAloadN X w d7_57 rfl rfl (n := 58) rfl ?_
              refine gIloadN X w d7_58 rfl (n := 59) rfl ?_
              refine gBaload X w U (by decide) rfl d7_59 (n := 60) rfl ?_
              refine gIcmp_eq X w d7_60 (n := 65) (n' := 63) (by decide) rfl rfl ?_ ?_
              · rintro ⟨c60, c60'⟩
                refine gIinc X w d7_65 rfl (z := (3 : Int32)) (by decide) #[.val (.ref a), .val (.ref b), .val (.int (3 : Int32)), .val (.int (3 : Int32))] rfl (n := 68) rfl ?_
                refine gGoto X w d7_68 (by decide) (n := 49) rfl ?_
                refine gIloadN X w d7_49 rfl (n := 50) rfl ?_
                refine gIloadN X w d7_50 rfl (n := 51) rfl ?_
                refine gIcmp_ge X w d7_51 (n := 71) (n' := 54) (by decide) rfl rfl ?_ ?_
                · intro c51
                  refine gIconst X w d7_71 (z := (-1 : Int32)) rfl (n := 72) rfl ?_
                  exact gRetI X w rfl d7_72 (by decide) (by decide) (⟨_, rfl, rfl, rfl⟩)
                · intro c51
                  exact absurd c51 (by decide)
              · rintro ⟨c60, c60'⟩
                exact absurd rfl c60
          · rintro ⟨c60, c60'⟩
            exact absurd rfl c60
      · rintro ⟨c60, c60'⟩
        exact absurd rfl c60
  · intro c5
    exact absurd c5 (by decide)
set_option maxRecDepth 65536 in
set_option maxHeartbeats 40000000 in
theorem own_arr_same_3 (l : Launch) (Z : State) (a0 : Array Value) (hw : ∀ d ∈ tables_1, d.before a0 Z = true) (a b : Addr) (z0 z1 z2 : Int32) (h0 : Heap) (n0 : Nat) (hn : n0 ≤ h0.size) (V : Av Z h0 a .byte [.int z0, .int z1, .int z2]) (U : Av Z h0 b .byte [.int z0, .int z1, .int z2]) (nab : a ≠ b) :
    ConV l Z (⟨"java/util/Arrays", "equals", "([B[B)Z"⟩ : MethodName) jdk_65_method_89_code 3 (some .boolean) ({ frames := 1, cells := 0, slots := 0, locals := 15 } : Room) #[(.ref a), (.ref b)] h0 n0 (fun v h => h0 = h ∧ v = .int 1) := by
  refine Con.of (plainFor_of_name (by first | (simp [plainName, overriddenIn]; done) | decide +kernel)) hn ?_
  intro p e s m below meth c T w X
  refine Gl.enter (ls := #[.val (.ref a), .val (.ref b), .unset]) (by first | rfl | (simp [entryFrame, mkF, argsToLocals, Value.category]; done)) ?_
  refine gAloadN X w d6_0 rfl rfl (n := 1) rfl ?_
  refine gAloadN X w d6_1 rfl rfl (n := 2) rfl ?_
  refine gAcmp_ne X w d6_2 rfl rfl (n := 7) (n' := 5) (by decide) rfl rfl ?_ ?_
  · intro c2
    refine gAloadN X w d6_7 rfl rfl (n := 8) rfl ?_
    refine gIfnullN X w d6_8 (n := 11) rfl ?_
    refine gAloadN X w d6_11 rfl rfl (n := 12) rfl ?_
    refine gIfnonnullY X w d6_12 (by decide) (n := 17) rfl ?_
    refine gAloadN X w d6_17 rfl rfl (n := 18) rfl ?_
    refine gAlen X w V (z := (3 : Int32)) rfl d6_18 (n := 19) rfl ?_
    refine gIstoreN X w d6_19 #[.val (.ref a), .val (.ref b), .val (.int (3 : Int32))] rfl (n := 20) rfl ?_
    refine gAloadN X w d6_20 rfl rfl (n := 21) rfl ?_
    refine gAlen X w U (z := (3 : Int32)) rfl d6_21 (n := 22) rfl ?_
    refine gIloadN X w d6_22 rfl (n := 23) rfl ?_
    refine gIcmp_eq X w d6_23 (n := 28) (n' := 26) (by decide) rfl rfl ?_ ?_
    · rintro ⟨c23, c23'⟩
      refine gAloadN X w d6_28 rfl rfl (n := 29) rfl ?_
      refine gAloadN X w d6_29 rfl rfl (n := 30) rfl ?_
      refine gIloadN X w d6_30 rfl (n := 31) rfl ?_
      refine gCallSv X w [(.ref a), (.ref b), (.int (3 : Int32))] [] (own_mis_same_3 l Z a0 hw a b z0 z1 z2 h0 n0 hn V U) (own_wd hw 39 rfl) (own_wd hw 40 rfl) (own_wd hw 41 rfl) (own_wd hw 42 rfl) (by decide) own_pd1 rfl rfl d6_31 rfl (W := 0) (Nat.le_of_eq rfl) (by decide) (by decide) (by decide) (by decide) (n := 34) rfl ?_
      rintro T _ _ ⟨rfl, rfl⟩ X
      refine gIf_ge X w d6_34 (n := 41) (n' := 37) (by decide) rfl rfl ?_ ?_
      · intro c34
        exact absurd c34 (by decide)
      · intro c34
        refine gIconst X w d6_37 (z := (1 : Int32)) rfl (n := 38) rfl ?_
        refine gGoto X w d6_38 (by decide) (n := 42) rfl ?_
        exact gRetZ X w rfl (Or.inr rfl) d6_42 (by decide) (by decide) (⟨_, rfl, rfl, rfl⟩)
    · rintro ⟨c23, c23'⟩
      exact absurd c23 (by decide)
  · intro c2
    exact absurd (Value.ref.inj c2) nab
set_option maxRecDepth 65536 in
set_option maxHeartbeats 40000000 in
theorem own_eq_same_3 (l : Launch) (Z : State) (a0 : Array Value) (hw : ∀ d ∈ tables_1, d.before a0 Z = true) (p1 p2 a b : Addr) (z0 z1 z2 : Int32) (h0 : Heap) (n0 : Nat) (hn : n0 ≤ h0.size) (E1 : Exa Z h0 p1 "com/example/cassalink/cassalink/row/Blob") (E2 : Exa Z h0 p2 "com/example/cassalink/cassalink/row/Blob") (F1 : Fld Z h0 p1 "com/example/cassalink/cassalink/row/Blob" "bytes" "[B" (.ref a)) (F2 : Fld Z h0 p2 "com/example/cassalink/cassalink/row/Blob" "bytes" "[B" (.ref b)) (V : Av Z h0 a .byte [.int z0, .int z1, .int z2]) (U : Av Z h0 b .byte [.int z0, .int z1, .int z2]) (nab : a ≠ b) :
    ConV l Z (⟨"com/example/cassalink/cassalink/row/Blob", "equals", "(Ljava/lang/Object;)Z"⟩ : MethodName) prog_15_method_4_code 2 (some .boolean) ({ frames := 2, cells := 0, slots := 0, locals := 29 } : Room) #[(.ref p1), (.ref p2)] h0 n0 (fun v h => h0 = h ∧ v = .int 1) := by
  refine Con.of (plainFor_of_name (by first | (simp [plainName, overriddenIn]; done) | decide +kernel)) hn ?_
  intro p e s m below meth c T w X
  refine Gl.enter (ls := #[.val (.ref p1), .val (.ref p2)]) (by first | rfl | (simp [entryFrame, mkF, argsToLocals, Value.category]; done)) ?_
  refine gAloadN X w d5_0 rfl rfl (n := 1) rfl ?_
  refine gInstY X w (own_wd hw 5 rfl) (Ins.self E2) d5_1 (n := 4) rfl ?_
  intro T X
  refine gIf_eq X w d5_4 (n := 28) (n' := 7) (by decide) rfl rfl ?_ ?_
  · rintro ⟨c4, c4'⟩
    exact absurd c4 (by decide)
  · rintro ⟨c4, c4'⟩
    refine gAloadN X w d5_7 rfl rfl (n := 8) rfl ?_
    refine gGetF X w (own_wd hw 22 rfl) Via.refl F1 d5_8 (n := 11) rfl ?_
    intro T X
    refine gAloadN X w d5_11 rfl rfl (n := 12) rfl ?_
    refine gCast X w (own_wd hw 5 rfl) (Ins.self E2) d5_12 (n := 15) rfl ?_
    intro T X
    refine gGetF X w (own_wd hw 22 rfl) Via.refl F2 d5_15 (n := 18) rfl ?_
    intro T X
    refine gCallSv X w [(.ref a), (.ref b)] [] (own_arr_same_3 l Z a0 hw a b z0 z1 z2 h0 n0 hn V U nab) (own_wd hw 35 rfl) (own_wd hw 36 rfl) (own_wd hw 37 rfl) (own_wd hw 38 rfl) (by decide) own_pd2 rfl rfl d5_18 rfl (W := 0) (Nat.le_of_eq rfl) (by decide) (by decide) (by decide) (by decide) (n := 21) rfl ?_
    rintro T _ _ ⟨rfl, rfl⟩ X
    refine gIf_eq X w d5_21 (n := 28) (n' := 24) (by decide) rfl rfl ?_ ?_
    · rintro ⟨c21, c21'⟩
      exact absurd c21 (by decide)
    · rintro ⟨c21, c21'⟩
      refine gIconst X w d5_24 (z := (1 : Int32)) rfl (n := 25) rfl ?_
      refine gGoto X w d5_25 (by decide) (n := 29) rfl ?_
      exact gRetZ X w rfl (Or.inr rfl) d5_29 (by decide) (by decide) (⟨_, rfl, rfl, rfl⟩)
set_option maxRecDepth 65536 in
set_option maxHeartbeats 40000000 in
theorem own_mis_diff_3 (l : Launch) (Z : State) (a0 : Array Value) (hw : ∀ d ∈ tables_1, d.before a0 Z = true) (a b : Addr) (z0 z1 z2 : Int32) (y0 y1 y2 : Int32) (h0 : Heap) (n0 : Nat) (hn : n0 ≤ h0.size) (V : Av Z h0 a .byte [.int z0, .int z1, .int z2]) (U : Av Z h0 b .byte [.int y0, .int y1, .int y2]) (df : ¬ z0 = y0) :
    ConV l Z (⟨"jdk/internal/util/ArraysSupport", "mismatch", "([B[BI)I"⟩ : MethodName) jdk_48_method_13_code 4 (some .int) ({ frames := 0, cells := 0, slots := 0, locals := 0 } : Room) #[(.ref a), (.ref b), (.int (3 : Int32))] h0 n0 (fun v h => h0 = h ∧ v = .int (0 : Int32)) := by
  refine Con.of (plainFor_of_name (by first | (simp [plainName, overriddenIn]; done) | decide +kernel)) hn ?_
  intro p e s m below meth c T w X
  refine Gl.enter (ls := #[.val (.ref a), .val (.ref b), .val (.int (3 : Int32)), .unset]) (by first | rfl | (simp [entryFrame, mkF, argsToLocals, Value.category]; done)) ?_
  refine gIconst X w d7_0 (z := (0 : Int32)) rfl (n := 1) rfl ?_
  refine gIstoreN X w d7_1 #[.val (.ref a), .val (.ref b), .val (.int (3 : Int32)), .val (.int (0 : Int32))] rfl (n := 2) rfl ?_
  refine gIloadN X w d7_2 rfl (n := 3) rfl ?_
  refine gBipush X w d7_3 (z := (7 : Int32)) (by decide) (n := 5) rfl ?_
  refine gIcmp_le X w d7_5 (n := 49) (n' := 8) (by decide) rfl rfl ?_ ?_
  · intro c5
    refine gIloadN X w d7_49 rfl (n := 50) rfl ?_
    refine gIloadN X w d7_50 rfl (n := 51) rfl ?_
    refine gIcmp_ge X w d7_51 (n := 71) (n' := 54) (by decide) rfl rfl ?_ ?_
    · intro c51
      exact absurd c51 (by decide)
    · intro c51
      refine gAloadN X w d7_54 rfl rfl (n := 55) rfl ?_
      refine gIloadN X w d7_55 rfl (n := 56) rfl ?_
      refine gBaload X w V (by decide) rfl d7_56 (n := 57) rfl ?_
      refine gAloadN X w d7_57 rfl rfl (n := 58) rfl ?_
      refine gIloadN X w d7_58 rfl (n := 59) rfl ?_
      refine gBaload X w U (by decide) rfl d7_59 (n := 60) rfl ?_
      refine gIcmp_eq X w d7_60 (n := 65) (n' := 63) (by decide) rfl rfl ?_ ?_
      · rintro ⟨c60, c60'⟩
        exact absurd c60 df
      · rintro ⟨c60, c60'⟩
        refine gIloadN X w d7_63 rfl (n := 64) rfl ?_
        exact gRetI X w rfl d7_64 (by decide) (by decide) (⟨_, rfl, rfl, rfl⟩)
  · intro c5
    exact absurd c5 (by decide)
set_option maxRecDepth 65536 in
set_option maxHeartbeats 40000000 in
theorem own_arr_diff_3 (l : Launch) (Z : State) (a0 : Array Value) (hw : ∀ d ∈ tables_1, d.before a0 Z = true) (a b : Addr) (z0 z1 z2 : Int32) (y0 y1 y2 : Int32) (h0 : Heap) (n0 : Nat) (hn : n0 ≤ h0.size) (V : Av Z h0 a .byte [.int z0, .int z1, .int z2]) (U : Av Z h0 b .byte [.int y0, .int y1, .int y2]) (df : ¬ z0 = y0) (nab : a ≠ b) :
    ConV l Z (⟨"java/util/Arrays", "equals", "([B[B)Z"⟩ : MethodName) jdk_65_method_89_code 3 (some .boolean) ({ frames := 1, cells := 0, slots := 0, locals := 15 } : Room) #[(.ref a), (.ref b)] h0 n0 (fun v h => h0 = h ∧ v = .int 0) := by
  refine Con.of (plainFor_of_name (by first | (simp [plainName, overriddenIn]; done) | decide +kernel)) hn ?_
  intro p e s m below meth c T w X
  refine Gl.enter (ls := #[.val (.ref a), .val (.ref b), .unset]) (by first | rfl | (simp [entryFrame, mkF, argsToLocals, Value.category]; done)) ?_
  refine gAloadN X w d6_0 rfl rfl (n := 1) rfl ?_
  refine gAloadN X w d6_1 rfl rfl (n := 2) rfl ?_
  refine gAcmp_ne X w d6_2 rfl rfl (n := 7) (n' := 5) (by decide) rfl rfl ?_ ?_
  · intro c2
    refine gAloadN X w d6_7 rfl rfl (n := 8) rfl ?_
    refine gIfnullN X w d6_8 (n := 11) rfl ?_
    refine gAloadN X w d6_11 rfl rfl (n := 12) rfl ?_
    refine gIfnonnullY X w d6_12 (by decide) (n := 17) rfl ?_
    refine gAloadN X w d6_17 rfl rfl (n := 18) rfl ?_
    refine gAlen X w V (z := (3 : Int32)) rfl d6_18 (n := 19) rfl ?_
    refine gIstoreN X w d6_19 #[.val (.ref a), .val (.ref b), .val (.int (3 : Int32))] rfl (n := 20) rfl ?_
    refine gAloadN X w d6_20 rfl rfl (n := 21) rfl ?_
    refine gAlen X w U (z := (3 : Int32)) rfl d6_21 (n := 22) rfl ?_
    refine gIloadN X w d6_22 rfl (n := 23) rfl ?_
    refine gIcmp_eq X w d6_23 (n := 28) (n' := 26) (by decide) rfl rfl ?_ ?_
    · rintro ⟨c23, c23'⟩
      refine gAloadN X w d6_28 rfl rfl (n := 29) rfl ?_
      refine gAloadN X w d6_29 rfl rfl (n := 30) rfl ?_
      refine gIloadN X w d6_30 rfl (n := 31) rfl ?_
      refine gCallSv X w [(.ref a), (.ref b), (.int (3 : Int32))] [] (own_mis_diff_3 l Z a0 hw a b z0 z1 z2 y0 y1 y2 h0 n0 hn V U df) (own_wd hw 39 rfl) (own_wd hw 40 rfl) (own_wd hw 41 rfl) (own_wd hw 42 rfl) (by decide) own_pd1 rfl rfl d6_31 rfl (W := 0) (Nat.le_of_eq rfl) (by decide) (by decide) (by decide) (by decide) (n := 34) rfl ?_
      rintro T _ _ ⟨rfl, rfl⟩ X
      refine gIf_ge X w d6_34 (n := 41) (n' := 37) (by decide) rfl rfl ?_ ?_
      · intro c34
        refine gIconst X w d6_41 (z := (0 : Int32)) rfl (n := 42) rfl ?_
        exact gRetZ X w rfl (Or.inl rfl) d6_42 (by decide) (by decide) (⟨_, rfl, rfl, rfl⟩)
      · intro c34
        exact absurd c34 (by decide)
    · rintro ⟨c23, c23'⟩
      exact absurd c23 (by decide)
  · intro c2
    exact absurd (Value.ref.inj c2) nab
set_option maxRecDepth 65536 in
set_option maxHeartbeats 40000000 in
theorem own_eq_diff_3 (l : Launch) (Z : State) (a0 : Array Value) (hw : ∀ d ∈ tables_1, d.before a0 Z = true) (p1 p2 a b : Addr) (z0 z1 z2 : Int32) (y0 y1 y2 : Int32) (h0 : Heap) (n0 : Nat) (hn : n0 ≤ h0.size) (E1 : Exa Z h0 p1 "com/example/cassalink/cassalink/row/Blob") (E2 : Exa Z h0 p2 "com/example/cassalink/cassalink/row/Blob") (F1 : Fld Z h0 p1 "com/example/cassalink/cassalink/row/Blob" "bytes" "[B" (.ref a)) (F2 : Fld Z h0 p2 "com/example/cassalink/cassalink/row/Blob" "bytes" "[B" (.ref b)) (V : Av Z h0 a .byte [.int z0, .int z1, .int z2]) (U : Av Z h0 b .byte [.int y0, .int y1, .int y2]) (df : ¬ z0 = y0) (nab : a ≠ b) :
    ConV l Z (⟨"com/example/cassalink/cassalink/row/Blob", "equals", "(Ljava/lang/Object;)Z"⟩ : MethodName) prog_15_method_4_code 2 (some .boolean) ({ frames := 2, cells := 0, slots := 0, locals := 29 } : Room) #[(.ref p1), (.ref p2)] h0 n0 (fun v h => h0 = h ∧ v = .int 0) := by
  refine Con.of (plainFor_of_name (by first | (simp [plainName, overriddenIn]; done) | decide +kernel)) hn ?_
  intro p e s m below meth c T w X
  refine Gl.enter (ls := #[.val (.ref p1), .val (.ref p2)]) (by first | rfl | (simp [entryFrame, mkF, argsToLocals, Value.category]; done)) ?_
  refine gAloadN X w d5_0 rfl rfl (n := 1) rfl ?_
  refine gInstY X w (own_wd hw 5 rfl) (Ins.self E2) d5_1 (n := 4) rfl ?_
  intro T X
  refine gIf_eq X w d5_4 (n := 28) (n' := 7) (by decide) rfl rfl ?_ ?_
  · rintro ⟨c4, c4'⟩
    exact absurd c4 (by decide)
  · rintro ⟨c4, c4'⟩
    refine gAloadN X w d5_7 rfl rfl (n := 8) rfl ?_
    refine gGetF X w (own_wd hw 22 rfl) Via.refl F1 d5_8 (n := 11) rfl ?_
    intro T X
    refine gAloadN X w d5_11 rfl rfl (n := 12) rfl ?_
    refine gCast X w (own_wd hw 5 rfl) (Ins.self E2) d5_12 (n := 15) rfl ?_
    intro T X
    refine gGetF X w (own_wd hw 22 rfl) Via.refl F2 d5_15 (n := 18) rfl ?_
    intro T X
    refine gCallSv X w [(.ref a), (.ref b)] [] (own_arr_diff_3 l Z a0 hw a b z0 z1 z2 y0 y1 y2 h0 n0 hn V U df nab) (own_wd hw 35 rfl) (own_wd hw 36 rfl) (own_wd hw 37 rfl) (own_wd hw 38 rfl) (by decide) own_pd2 rfl rfl d5_18 rfl (W := 0) (Nat.le_of_eq rfl) (by decide) (by decide) (by decide) (by decide) (n := 21) rfl ?_
    rintro T _ _ ⟨rfl, rfl⟩ X
    refine gIf_eq X w d5_21 (n := 28) (n' := 24) (by decide) rfl rfl ?_ ?_
    · rintro ⟨c21, c21'⟩
      refine gIconst X w d5_28 (z := (0 : Int32)) rfl (n := 29) rfl ?_
      exact gRetZ X w rfl (Or.inl rfl) d5_29 (by decide) (by decide) (⟨_, rfl, rfl, rfl⟩)
    · rintro ⟨c21, c21'⟩
      exact absurd c21 (by decide)
set_option maxRecDepth 65536 in
set_option maxHeartbeats 40000000 in
theorem own_law (l : Launch) (Z : State) (a0 : Array Value) (hw : ∀ d ∈ tables_1, d.before a0 Z = true) (p1 p2 p3 p4 p5 : Int32) (h0 : Heap) (n0 : Nat) (hn : n0 ≤ h0.size)  :
    Con l Z x code maxLocals ret tables_1 room_1 32 128 #[(.int p1), (.int p2), (.int p3), (.int p4), (.int p5)] h0 n0 (fun r h => r = some (.int 1)) := by
  refine Con.of (plainFor_of_name (by first | (simp [plainName, overriddenIn]; done) | decide +kernel)) hn ?_
  intro p e s m below meth c T w X
  refine Gl.enter (ls := #[.val (.int p1), .val (.int p2), .val (.int p3), .val (.int p4), .val (.int p5), .unset, .unset, .unset, .unset, .unset, .unset]) (by first | rfl | (simp [entryFrame, mkF, argsToLocals, Value.category, maxLocals]; done)) ?_
  have b0 := own_and3 p1
  rcases b0 with q2 | q2 | q2 | q2
  · skip
    refine gIloadN X w at_0 rfl (n := 1) rfl ?_
    refine gIconst X w at_1 (z := (3 : Int32)) rfl (n := 2) rfl ?_
    refine gIand X w at_2 q2 (n := 3) rfl ?_
    refine gIstore X w at_3 #[.val (.int p1), .val (.int p2), .val (.int p3), .val (.int p4), .val (.int p5), .val (.int (0 : Int32)), .unset, .unset, .unset, .unset, .unset] rfl (n := 5) rfl ?_
    refine gIload X w at_5 rfl (n := 7) rfl ?_
    refine gNewP X w (own_wd hw 0 rfl) at_7 (by decide) (cap := 0) (by decide) (by decide) (by decide) (by decide) (vs := []) (ty := .byte) rfl rfl (ad := "[B") (by decide) (n := 9) rfl ?_
    intro T hp7 ad7 ea7 na7 X E7 V7 A7
    refine gAstore X w at_9 rfl #[.val (.int p1), .val (.int p2), .val (.int p3), .val (.int p4), .val (.int p5), .val (.int (0 : Int32)), .val (.ref ad7), .unset, .unset, .unset, .unset] rfl (n := 11) rfl ?_
    refine gIload X w at_11 rfl (n := 13) rfl ?_
    refine gNewP X w (own_wd hw 0 rfl) at_13 (by decide) (cap := 0) (by decide) (by decide) (by decide) (by decide) (vs := []) (ty := .byte) rfl rfl (ad := "[B") (by decide) (n := 15) rfl ?_
    intro T hp13 ad13 ea13 na13 X E13 V13 A13
    have ne_ad7_ad13 : ad7 ≠ ad13 := neOf A7.lt (Nat.le_of_eq ea13.symm)
    have F_1 := A7.ext E13
    have F_2 := V7.ext E13
    refine gAstore X w at_15 rfl #[.val (.int p1), .val (.int p2), .val (.int p3), .val (.int p4), .val (.int p5), .val (.int (0 : Int32)), .val (.ref ad7), .val (.ref ad13), .unset, .unset, .unset] rfl (n := 17) rfl ?_
    refine gIload X w at_17 rfl (n := 19) rfl ?_
    refine gIf_le X w at_19 (n := 34) (n' := 22) (by decide) rfl rfl ?_ ?_
    · intro c19
      refine gIload X w at_34 rfl (n := 36) rfl ?_
      refine gIconst X w at_36 (z := (1 : Int32)) rfl (n := 37) rfl ?_
      refine gIcmp_le X w at_37 (n := 52) (n' := 40) (by decide) rfl rfl ?_ ?_
      · intro c37
        refine gIload X w at_52 rfl (n := 54) rfl ?_
        refine gIconst X w at_54 (z := (2 : Int32)) rfl (n := 55) rfl ?_
        refine gIcmp_le X w at_55 (n := 70) (n' := 58) (by decide) rfl rfl ?_ ?_
        · intro c55
          refine gAload X w at_70 rfl rfl (n := 72) rfl ?_
          refine gCallSv X w [(.ref ad7)] [] (own_of_0 l Z a0 hw ad7  hp13 n0 (Sd.le X) F_2 F_1 ) (own_wd hw 1 rfl) (own_wd hw 2 rfl) (own_wd hw 3 rfl) (own_wd hw 4 rfl) (by decide) own_pd3 rfl rfl at_72 rfl (W := 0) (Nat.le_of_eq rfl) (by decide) (by decide) (by decide) (by decide) (n := 75) rfl ?_
          rintro T h72 _ ⟨K72, b72, d72, rfl, gb72, gd72, nbd72, A72, F72, V72, Ad72⟩ X
          have ne_ad7_b72 : ad7 ≠ b72 := neOf F_1.lt gb72
          have ne_ad13_b72 : ad13 ≠ b72 := neOf A13.lt gb72
          have ne_ad7_d72 : ad7 ≠ d72 := neOf F_1.lt gd72
          have ne_ad13_d72 : ad13 ≠ d72 := neOf A13.lt gd72
          have F_3 := F_1.keep K72
          have F_4 := F_2.keep K72 nin0
          have F_5 := A13.keep K72
          have F_6 := V13.keep K72 nin0
          refine gAstore X w at_75 rfl #[.val (.int p1), .val (.int p2), .val (.int p3), .val (.int p4), .val (.int p5), .val (.int (0 : Int32)), .val (.ref ad7), .val (.ref ad13), .val (.ref b72), .unset, .unset] rfl (n := 77) rfl ?_
          refine gIload X w at_77 rfl (n := 79) rfl ?_
          refine gSipush X w at_79 (z := (255 : Int32)) (by decide) (n := 82) rfl ?_
          obtain ⟨x82, q82⟩ : ∃ zz_ : Int32, p5 &&& (255 : Int32) = zz_ := ⟨_, rfl⟩
          refine gIand X w at_82 q82 (n := 83) rfl ?_
          refine gIconst X w at_83 (z := (1 : Int32)) rfl (n := 84) rfl ?_
          obtain ⟨x84, q84⟩ : ∃ zz_ : Int32, x82 ||| (1 : Int32) = zz_ := ⟨_, rfl⟩
          refine gIor X w at_84 q84 (n := 85) rfl ?_
          have o84 : x84.toInt % 2 = 1 := by rw [← q84]; exact own_or1 _
          obtain ⟨x85, q85⟩ : ∃ zz_ : Int32, (Int32.toInt8 x84).toInt32 = zz_ := ⟨_, rfl⟩
          have gz_x85 := own_fitb q85
          refine gI2b X w at_85 q85 (n := 86) rfl ?_
          refine gIstore X w at_86 #[.val (.int p1), .val (.int p2), .val (.int p3), .val (.int p4), .val (.int p5), .val (.int (0 : Int32)), .val (.ref ad7), .val (.ref ad13), .val (.ref b72), .val (.int x85), .unset] rfl (n := 88) rfl ?_
          refine gIload X w at_88 rfl (n := 90) rfl ?_
          refine gIf_le X w at_90 (n := 105) (n' := 93) (by decide) rfl rfl ?_ ?_
          · intro c90
            refine gIload X w at_105 rfl (n := 107) rfl ?_
            refine gIconst X w at_107 (z := (1 : Int32)) rfl (n := 108) rfl ?_
            refine gIcmp_le X w at_108 (n := 123) (n' := 111) (by decide) rfl rfl ?_ ?_
            · intro c108
              refine gIload X w at_123 rfl (n := 125) rfl ?_
              refine gIconst X w at_125 (z := (2 : Int32)) rfl (n := 126) rfl ?_
              refine gIcmp_le X w at_126 (n := 141) (n' := 129) (by decide) rfl rfl ?_ ?_
              · intro c126
                refine gAload X w at_141 rfl rfl (n := 143) rfl ?_
                refine gCallVv X w [] [] A72 (own_bytes_0 l Z a0 hw b72 d72  h72 n0 (Sd.le X) F72 V72 Ad72 ) (own_wd hw 24 rfl) (own_wd hw 25 rfl) (notFace_of_selects (args := #[]) (mvT w.2.2.1 (own_wd hw 27 rfl))) (own_wd hw 27 rfl) (own_wd hw 26 rfl) (own_wd hw 3 rfl) (own_wd hw 28 rfl) (by decide) own_pd4 rfl rfl at_143 rfl (W := 0) (Nat.le_of_eq rfl) (by decide) (by decide) (by decide) (by decide) (n := 146) rfl ?_
                rintro T h143 _ ⟨K143, c143_, rfl, gc143, V143⟩ X
                have ne_ad7_c143_ : ad7 ≠ c143_ := neOf F_3.lt gc143
                have ne_ad13_c143_ : ad13 ≠ c143_ := neOf F_5.lt gc143
                have ne_b72_c143_ : b72 ≠ c143_ := neOf A72.lt gc143
                have ne_d72_c143_ : d72 ≠ c143_ := neOf V72.lt gc143
                have F_7 := F_3.keep K143
                have F_8 := F_4.keep K143 nin0
                have F_9 := F_5.keep K143
                have F_10 := F_6.keep K143 nin0
                have F_11 := A72.keep K143
                have F_12 := F72.keep K143 nin0
                have F_13 := V72.keep K143 nin0
                have F_14 := Ad72.keep K143
                refine gAstore X w at_146 rfl #[.val (.int p1), .val (.int p2), .val (.int p3), .val (.int p4), .val (.int p5), .val (.int (0 : Int32)), .val (.ref ad7), .val (.ref ad13), .val (.ref b72), .val (.int x85), .val (.ref c143_)] rfl (n := 148) rfl ?_
                refine gAload X w at_148 rfl rfl (n := 150) rfl ?_
                refine gAlen X w V143 (z := (0 : Int32)) rfl at_150 (n := 151) rfl ?_
                refine gIload X w at_151 rfl (n := 153) rfl ?_
                refine gIcmp_eq X w at_153 (n := 158) (n' := 156) (by decide) rfl rfl ?_ ?_
                · rintro ⟨c153, c153'⟩
                  refine gIload X w at_158 rfl (n := 160) rfl ?_
                  refine gIf_le X w at_160 (n := 174) (n' := 163) (by decide) rfl rfl ?_ ?_
                  · intro c160
                    refine gIload X w at_174 rfl (n := 176) rfl ?_
                    refine gIconst X w at_176 (z := (1 : Int32)) rfl (n := 177) rfl ?_
                    refine gIcmp_le X w at_177 (n := 191) (n' := 180) (by decide) rfl rfl ?_ ?_
                    · intro c177
                      refine gIload X w at_191 rfl (n := 193) rfl ?_
                      refine gIconst X w at_193 (z := (2 : Int32)) rfl (n := 194) rfl ?_
                      refine gIcmp_le X w at_194 (n := 208) (n' := 197) (by decide) rfl rfl ?_ ?_
                      · intro c194
                        refine gAload X w at_208 rfl rfl (n := 210) rfl ?_
                        refine gAload X w at_210 rfl rfl (n := 212) rfl ?_
                        refine gCallSv X w [(.ref ad13)] [(.ref b72)] (own_of_0 l Z a0 hw ad13  h143 n0 (Sd.le X) F_10 F_9 ) (own_wd hw 1 rfl) (own_wd hw 2 rfl) (own_wd hw 3 rfl) (own_wd hw 4 rfl) (by decide) own_pd3 rfl rfl at_212 rfl (W := 1) (Nat.le_of_eq rfl) (by decide) (by decide) (by decide) (by decide) (n := 215) rfl ?_
                        rintro T h212 _ ⟨K212, b212, d212, rfl, gb212, gd212, nbd212, A212, F212, V212, Ad212⟩ X
                        have ne_ad7_b212 : ad7 ≠ b212 := neOf F_7.lt gb212
                        have ne_ad13_b212 : ad13 ≠ b212 := neOf F_9.lt gb212
                        have ne_b72_b212 : b72 ≠ b212 := neOf F_11.lt gb212
                        have ne_d72_b212 : d72 ≠ b212 := neOf F_13.lt gb212
                        have ne_c143__b212 : c143_ ≠ b212 := neOf V143.lt gb212
                        have ne_ad7_d212 : ad7 ≠ d212 := neOf F_7.lt gd212
                        have ne_ad13_d212 : ad13 ≠ d212 := neOf F_9.lt gd212
                        have ne_b72_d212 : b72 ≠ d212 := neOf F_11.lt gd212
                        have ne_d72_d212 : d72 ≠ d212 := neOf F_13.lt gd212
                        have ne_c143__d212 : c143_ ≠ d212 := neOf V143.lt gd212
                        have F_15 := F_7.keep K212
                        have F_16 := F_8.keep K212 nin0
                        have F_17 := F_9.keep K212
                        have F_18 := F_10.keep K212 nin0
                        have F_19 := F_11.keep K212
                        have F_20 := F_12.keep K212 nin0
                        have F_21 := F_13.keep K212 nin0
                        have F_22 := F_14.keep K212
                        have F_23 := V143.keep K212 nin0
                        refine gCallVv X w [(.ref b212)] [] F_19 (own_eq_same_0 l Z a0 hw b72 b212 d72 d212   h212 n0 (Sd.le X) F_19 A212 F_20 F212 F_21 V212  ne_d72_d212) (own_wd hw 29 rfl) (own_wd hw 30 rfl) (notFace_of_selects (args := #[]) (mvT w.2.2.1 (own_wd hw 32 rfl))) (own_wd hw 32 rfl) (own_wd hw 31 rfl) (own_wd hw 3 rfl) (own_wd hw 33 rfl) (by decide) own_pd5 rfl rfl at_215 rfl (W := 0) (Nat.le_of_eq rfl) (by decide) (by decide) (by decide) (by decide) (n := 218) rfl ?_
                        rintro T _ _ ⟨rfl, rfl⟩ X
                        refine gIf_ne X w at_218 (n := 223) (n' := 221) (by decide) rfl rfl ?_ ?_
                        · rintro ⟨c218, c218'⟩
                          refine gAload X w at_223 rfl rfl (n := 225) rfl ?_
                          refine gAload X w at_225 rfl rfl (n := 227) rfl ?_
                          refine gCallSv X w [(.ref ad7)] [(.ref b72)] (own_of_0 l Z a0 hw ad7  h212 n0 (Sd.le X) F_16 F_15 ) (own_wd hw 1 rfl) (own_wd hw 2 rfl) (own_wd hw 3 rfl) (own_wd hw 4 rfl) (by decide) own_pd3 rfl rfl at_227 rfl (W := 1) (Nat.le_of_eq rfl) (by decide) (by decide) (by decide) (by decide) (n := 230) rfl ?_
                          rintro T h227 _ ⟨K227, b227, d227, rfl, gb227, gd227, nbd227, A227, F227, V227, Ad227⟩ X
                          have ne_ad7_b227 : ad7 ≠ b227 := neOf F_15.lt gb227
                          have ne_ad13_b227 : ad13 ≠ b227 := neOf F_17.lt gb227
                          have ne_b72_b227 : b72 ≠ b227 := neOf F_19.lt gb227
                          have ne_d72_b227 : d72 ≠ b227 := neOf F_21.lt gb227
                          have ne_c143__b227 : c143_ ≠ b227 := neOf F_23.lt gb227
                          have ne_b212_b227 : b212 ≠ b227 := neOf A212.lt gb227
                          have ne_d212_b227 : d212 ≠ b227 := neOf V212.lt gb227
                          have ne_ad7_d227 : ad7 ≠ d227 := neOf F_15.lt gd227
                          have ne_ad13_d227 : ad13 ≠ d227 := neOf F_17.lt gd227
                          have ne_b72_d227 : b72 ≠ d227 := neOf F_19.lt gd227
                          have ne_d72_d227 : d72 ≠ d227 := neOf F_21.lt gd227
                          have ne_c143__d227 : c143_ ≠ d227 := neOf F_23.lt gd227
                          have ne_b212_d227 : b212 ≠ d227 := neOf A212.lt gd227
                          have ne_d212_d227 : d212 ≠ d227 := neOf V212.lt gd227
                          have F_24 := F_15.keep K227
                          have F_25 := F_16.keep K227 nin0
                          have F_26 := F_17.keep K227
                          have F_27 := F_18.keep K227 nin0
                          have F_28 := F_19.keep K227
                          have F_29 := F_20.keep K227 nin0
                          have F_30 := F_21.keep K227 nin0
                          have F_31 := F_22.keep K227
                          have F_32 := F_23.keep K227 nin0
                          have F_33 := A212.keep K227
                          have F_34 := F212.keep K227 nin0
                          have F_35 := V212.keep K227 nin0
                          have F_36 := Ad212.keep K227
                          refine gCallVv X w [(.ref b227)] [] F_28 (own_eq_same_0 l Z a0 hw b72 b227 d72 d227   h227 n0 (Sd.le X) F_28 A227 F_29 F227 F_30 V227  ne_d72_d227) (own_wd hw 29 rfl) (own_wd hw 30 rfl) (notFace_of_selects (args := #[]) (mvT w.2.2.1 (own_wd hw 32 rfl))) (own_wd hw 32 rfl) (own_wd hw 31 rfl) (own_wd hw 3 rfl) (own_wd hw 33 rfl) (by decide) own_pd5 rfl rfl at_230 rfl (W := 0) (Nat.le_of_eq rfl) (by decide) (by decide) (by decide) (by decide) (n := 233) rfl ?_
                          rintro T _ _ ⟨rfl, rfl⟩ X
                          refine gIload X w at_233 rfl (n := 235) rfl ?_
                          refine gIf_ne X w at_235 (n := 242) (n' := 238) (by decide) rfl rfl ?_ ?_
                          · rintro ⟨c235, c235'⟩
                            exact absurd c235 (by decide)
                          · rintro ⟨c235, c235'⟩
                            refine gIconst X w at_238 (z := (1 : Int32)) rfl (n := 239) rfl ?_
                            refine gGoto X w at_239 (by decide) (n := 243) rfl ?_
                            refine gIcmp_eq X w at_243 (n := 248) (n' := 246) (by decide) rfl rfl ?_ ?_
                            · rintro ⟨c243, c243'⟩
                              refine gIconst X w at_248 (z := (1 : Int32)) rfl (n := 249) rfl ?_
                              exact gRetZ X w rfl (Or.inr rfl) at_249 (by decide) (by decide) (rfl)
                            · rintro ⟨c243, c243'⟩
                              exact absurd c243 (by decide)
                        · rintro ⟨c218, c218'⟩
                          exact absurd c218 (by decide)
                      · intro c194
                        exact absurd c194 (by decide)
                    · intro c177
                      exact absurd c177 (by decide)
                  · intro c160
                    exact absurd c160 (by decide)
                · rintro ⟨c153, c153'⟩
                  exact absurd c153 (by decide)
              · intro c126
                exact absurd c126 (by decide)
            · intro c108
              exact absurd c108 (by decide)
          · intro c90
            exact absurd c90 (by decide)
        · intro c55
          exact absurd c55 (by decide)
      · intro c37
        exact absurd c37 (by decide)
    · intro c19
      exact absurd c19 (by decide)
  · skip
    refine gIloadN X w at_0 rfl (n := 1) rfl ?_
    refine gIconst X w at_1 (z := (3 : Int32)) rfl (n := 2) rfl ?_
    refine gIand X w at_2 q2 (n := 3) rfl ?_
    refine gIstore X w at_3 #[.val (.int p1), .val (.int p2), .val (.int p3), .val (.int p4), .val (.int p5), .val (.int (1 : Int32)), .unset, .unset, .unset, .unset, .unset] rfl (n := 5) rfl ?_
    refine gIload X w at_5 rfl (n := 7) rfl ?_
    refine gNewP X w (own_wd hw 0 rfl) at_7 (by decide) (cap := 1) (by decide) (by decide) (by decide) (by decide) (vs := [(.int (0 : Int32))]) (ty := .byte) rfl rfl (ad := "[B") (by decide) (n := 9) rfl ?_
    intro T hp7 ad7 ea7 na7 X E7 V7 A7
    refine gAstore X w at_9 rfl #[.val (.int p1), .val (.int p2), .val (.int p3), .val (.int p4), .val (.int p5), .val (.int (1 : Int32)), .val (.ref ad7), .unset, .unset, .unset, .unset] rfl (n := 11) rfl ?_
    refine gIload X w at_11 rfl (n := 13) rfl ?_
    refine gNewP X w (own_wd hw 0 rfl) at_13 (by decide) (cap := 1) (by decide) (by decide) (by decide) (by decide) (vs := [(.int (0 : Int32))]) (ty := .byte) rfl rfl (ad := "[B") (by decide) (n := 15) rfl ?_
    intro T hp13 ad13 ea13 na13 X E13 V13 A13
    have ne_ad7_ad13 : ad7 ≠ ad13 := neOf A7.lt (Nat.le_of_eq ea13.symm)
    have F_1 := A7.ext E13
    have F_2 := V7.ext E13
    refine gAstore X w at_15 rfl #[.val (.int p1), .val (.int p2), .val (.int p3), .val (.int p4), .val (.int p5), .val (.int (1 : Int32)), .val (.ref ad7), .val (.ref ad13), .unset, .unset, .unset] rfl (n := 17) rfl ?_
    refine gIload X w at_17 rfl (n := 19) rfl ?_
    refine gIf_le X w at_19 (n := 34) (n' := 22) (by decide) rfl rfl ?_ ?_
    · intro c19
      exact absurd c19 (by decide)
    · intro c19
      refine gAload X w at_22 rfl rfl (n := 24) rfl ?_
      refine gIconst X w at_24 (z := (0 : Int32)) rfl (n := 25) rfl ?_
      refine gIloadN X w at_25 rfl (n := 26) rfl ?_
      obtain ⟨x26, q26⟩ : ∃ zz_ : Int32, (Int32.toInt8 p2).toInt32 = zz_ := ⟨_, rfl⟩
      have gz_x26 := own_fitb q26
      refine gI2b X w at_26 q26 (n := 27) rfl ?_
      refine gBastore X w (z := (.int x26)) F_2 (by decide) (show (0 : Int) < ((1 : Nat) : Int) from by decide) na7 (own_narb q26) (vs' := [(.int x26)]) rfl at_27 (n := 28) rfl ?_
      intro T hp27 X W27 V27
      have F_3 := F_1.wr W27
      have F_4 := A13.wr W27
      have F_5 := V13.other W27 (Ne.symm ne_ad7_ad13)
      refine gAload X w at_28 rfl rfl (n := 30) rfl ?_
      refine gIconst X w at_30 (z := (0 : Int32)) rfl (n := 31) rfl ?_
      refine gIloadN X w at_31 rfl (n := 32) rfl ?_
      refine gI2b X w at_32 q26 (n := 33) rfl ?_
      refine gBastore X w (z := (.int x26)) F_5 (by decide) (show (0 : Int) < ((1 : Nat) : Int) from by decide) na13 (own_narb q26) (vs' := [(.int x26)]) rfl at_33 (n := 34) rfl ?_
      intro T hp33 X W33 V33
      have F_6 := F_3.wr W33
      have F_7 := F_4.wr W33
      have F_8 := V27.other W33 ne_ad7_ad13
      refine gIload X w at_34 rfl (n := 36) rfl ?_
      refine gIconst X w at_36 (z := (1 : Int32)) rfl (n := 37) rfl ?_
      refine gIcmp_le X w at_37 (n := 52) (n' := 40) (by decide) rfl rfl ?_ ?_
      · intro c37
        refine gIload X w at_52 rfl (n := 54) rfl ?_
        refine gIconst X w at_54 (z := (2 : Int32)) rfl (n := 55) rfl ?_
        refine gIcmp_le X w at_55 (n := 70) (n' := 58) (by decide) rfl rfl ?_ ?_
        · intro c55
          refine gAload X w at_70 rfl rfl (n := 72) rfl ?_
          refine gCallSv X w [(.ref ad7)] [] (own_of_1 l Z a0 hw ad7 x26 hp33 n0 (Sd.le X) F_8 F_6 gz_x26) (own_wd hw 1 rfl) (own_wd hw 2 rfl) (own_wd hw 3 rfl) (own_wd hw 4 rfl) (by decide) own_pd3 rfl rfl at_72 rfl (W := 0) (Nat.le_of_eq rfl) (by decide) (by decide) (by decide) (by decide) (n := 75) rfl ?_
          rintro T h72 _ ⟨K72, b72, d72, rfl, gb72, gd72, nbd72, A72, F72, V72, Ad72⟩ X
          have ne_ad7_b72 : ad7 ≠ b72 := neOf F_6.lt gb72
          have ne_ad13_b72 : ad13 ≠ b72 := neOf F_7.lt gb72
          have ne_ad7_d72 : ad7 ≠ d72 := neOf F_6.lt gd72
          have ne_ad13_d72 : ad13 ≠ d72 := neOf F_7.lt gd72
          have F_9 := F_6.keep K72
          have F_10 := F_7.keep K72
          have F_11 := F_8.keep K72 nin0
          have F_12 := V33.keep K72 nin0
          refine gAstore X w at_75 rfl #[.val (.int p1), .val (.int p2), .val (.int p3), .val (.int p4), .val (.int p5), .val (.int (1 : Int32)), .val (.ref ad7), .val (.ref ad13), .val (.ref b72), .unset, .unset] rfl (n := 77) rfl ?_
          refine gIload X w at_77 rfl (n := 79) rfl ?_
          refine gSipush X w at_79 (z := (255 : Int32)) (by decide) (n := 82) rfl ?_
          obtain ⟨x82, q82⟩ : ∃ zz_ : Int32, p5 &&& (255 : Int32) = zz_ := ⟨_, rfl⟩
          refine gIand X w at_82 q82 (n := 83) rfl ?_
          refine gIconst X w at_83 (z := (1 : Int32)) rfl (n := 84) rfl ?_
          obtain ⟨x84, q84⟩ : ∃ zz_ : Int32, x82 ||| (1 : Int32) = zz_ := ⟨_, rfl⟩
          refine gIor X w at_84 q84 (n := 85) rfl ?_
          have o84 : x84.toInt % 2 = 1 := by rw [← q84]; exact own_or1 _
          obtain ⟨x85, q85⟩ : ∃ zz_ : Int32, (Int32.toInt8 x84).toInt32 = zz_ := ⟨_, rfl⟩
          have gz_x85 := own_fitb q85
          refine gI2b X w at_85 q85 (n := 86) rfl ?_
          refine gIstore X w at_86 #[.val (.int p1), .val (.int p2), .val (.int p3), .val (.int p4), .val (.int p5), .val (.int (1 : Int32)), .val (.ref ad7), .val (.ref ad13), .val (.ref b72), .val (.int x85), .unset] rfl (n := 88) rfl ?_
          refine gIload X w at_88 rfl (n := 90) rfl ?_
          refine gIf_le X w at_90 (n := 105) (n' := 93) (by decide) rfl rfl ?_ ?_
          · intro c90
            exact absurd c90 (by decide)
          · intro c90
            refine gAload X w at_93 rfl rfl (n := 95) rfl ?_
            refine gIconst X w at_95 (z := (0 : Int32)) rfl (n := 96) rfl ?_
            refine gAload X w at_96 rfl rfl (n := 98) rfl ?_
            refine gIconst X w at_98 (z := (0 : Int32)) rfl (n := 99) rfl ?_
            refine gBaload X w F_11 (by decide) rfl at_99 (n := 100) rfl ?_
            refine gIload X w at_100 rfl (n := 102) rfl ?_
            obtain ⟨x102, q102⟩ : ∃ zz_ : Int32, x26 ^^^ x85 = zz_ := ⟨_, rfl⟩
            refine gIxor X w at_102 q102 (n := 103) rfl ?_
            obtain ⟨x103, q103⟩ : ∃ zz_ : Int32, (Int32.toInt8 x102).toInt32 = zz_ := ⟨_, rfl⟩
            have gz_x103 := own_fitb q103
            refine gI2b X w at_103 q103 (n := 104) rfl ?_
            have df : ¬ x26 = x103 := fun e => own_flip q85 o84 q102 q103 e.symm
            refine gBastore X w (z := (.int x103)) F_11 (by decide) (show (0 : Int) < ((1 : Nat) : Int) from by decide) na7 (own_narb q103) (vs' := [(.int x103)]) rfl at_104 (n := 105) rfl ?_
            intro T hp104 X W104 V104
            have F_13 := F_9.wr W104
            have F_14 := F_10.wr W104
            have F_15 := F_12.other W104 (Ne.symm ne_ad7_ad13)
            have F_16 := A72.wr W104
            have F_17 := F72.other W104 (Or.inl (Ne.symm ne_ad7_b72))
            have F_18 := V72.other W104 (Ne.symm ne_ad7_d72)
            have F_19 := Ad72.wr W104
            refine gIload X w at_105 rfl (n := 107) rfl ?_
            refine gIconst X w at_107 (z := (1 : Int32)) rfl (n := 108) rfl ?_
            refine gIcmp_le X w at_108 (n := 123) (n' := 111) (by decide) rfl rfl ?_ ?_
            · intro c108
              refine gIload X w at_123 rfl (n := 125) rfl ?_
              refine gIconst X w at_125 (z := (2 : Int32)) rfl (n := 126) rfl ?_
              refine gIcmp_le X w at_126 (n := 141) (n' := 129) (by decide) rfl rfl ?_ ?_
              · intro c126
                refine gAload X w at_141 rfl rfl (n := 143) rfl ?_
                refine gCallVv X w [] [] F_16 (own_bytes_1 l Z a0 hw b72 d72 x26 hp104 n0 (Sd.le X) F_17 F_18 F_19 gz_x26) (own_wd hw 24 rfl) (own_wd hw 25 rfl) (notFace_of_selects (args := #[]) (mvT w.2.2.1 (own_wd hw 27 rfl))) (own_wd hw 27 rfl) (own_wd hw 26 rfl) (own_wd hw 3 rfl) (own_wd hw 28 rfl) (by decide) own_pd4 rfl rfl at_143 rfl (W := 0) (Nat.le_of_eq rfl) (by decide) (by decide) (by decide) (by decide) (n := 146) rfl ?_
                rintro T h143 _ ⟨K143, c143_, rfl, gc143, V143⟩ X
                have ne_ad7_c143_ : ad7 ≠ c143_ := neOf F_13.lt gc143
                have ne_ad13_c143_ : ad13 ≠ c143_ := neOf F_14.lt gc143
                have ne_b72_c143_ : b72 ≠ c143_ := neOf F_16.lt gc143
                have ne_d72_c143_ : d72 ≠ c143_ := neOf F_18.lt gc143
                have F_20 := F_13.keep K143
                have F_21 := F_14.keep K143
                have F_22 := F_15.keep K143 nin0
                have F_23 := F_16.keep K143
                have F_24 := F_17.keep K143 nin0
                have F_25 := F_18.keep K143 nin0
                have F_26 := F_19.keep K143
                have F_27 := V104.keep K143 nin0
                refine gAstore X w at_146 rfl #[.val (.int p1), .val (.int p2), .val (.int p3), .val (.int p4), .val (.int p5), .val (.int (1 : Int32)), .val (.ref ad7), .val (.ref ad13), .val (.ref b72), .val (.int x85), .val (.ref c143_)] rfl (n := 148) rfl ?_
                refine gAload X w at_148 rfl rfl (n := 150) rfl ?_
                refine gAlen X w V143 (z := (1 : Int32)) rfl at_150 (n := 151) rfl ?_
                refine gIload X w at_151 rfl (n := 153) rfl ?_
                refine gIcmp_eq X w at_153 (n := 158) (n' := 156) (by decide) rfl rfl ?_ ?_
                · rintro ⟨c153, c153'⟩
                  refine gIload X w at_158 rfl (n := 160) rfl ?_
                  refine gIf_le X w at_160 (n := 174) (n' := 163) (by decide) rfl rfl ?_ ?_
                  · intro c160
                    exact absurd c160 (by decide)
                  · intro c160
                    refine gAload X w at_163 rfl rfl (n := 165) rfl ?_
                    refine gIconst X w at_165 (z := (0 : Int32)) rfl (n := 166) rfl ?_
                    refine gBaload X w V143 (by decide) rfl at_166 (n := 167) rfl ?_
                    refine gIloadN X w at_167 rfl (n := 168) rfl ?_
                    refine gI2b X w at_168 q26 (n := 169) rfl ?_
                    refine gIcmp_eq X w at_169 (n := 174) (n' := 172) (by decide) rfl rfl ?_ ?_
                    · rintro ⟨c169, c169'⟩
                      refine gIload X w at_174 rfl (n := 176) rfl ?_
                      refine gIconst X w at_176 (z := (1 : Int32)) rfl (n := 177) rfl ?_
                      refine gIcmp_le X w at_177 (n := 191) (n' := 180) (by decide) rfl rfl ?_ ?_
                      · intro c177
                        refine gIload X w at_191 rfl (n := 193) rfl ?_
                        refine gIconst X w at_193 (z := (2 : Int32)) rfl (n := 194) rfl ?_
                        refine gIcmp_le X w at_194 (n := 208) (n' := 197) (by decide) rfl rfl ?_ ?_
                        · intro c194
                          refine gAload X w at_208 rfl rfl (n := 210) rfl ?_
                          refine gAload X w at_210 rfl rfl (n := 212) rfl ?_
                          refine gCallSv X w [(.ref ad13)] [(.ref b72)] (own_of_1 l Z a0 hw ad13 x26 h143 n0 (Sd.le X) F_22 F_21 gz_x26) (own_wd hw 1 rfl) (own_wd hw 2 rfl) (own_wd hw 3 rfl) (own_wd hw 4 rfl) (by decide) own_pd3 rfl rfl at_212 rfl (W := 1) (Nat.le_of_eq rfl) (by decide) (by decide) (by decide) (by decide) (n := 215) rfl ?_
                          rintro T h212 _ ⟨K212, b212, d212, rfl, gb212, gd212, nbd212, A212, F212, V212, Ad212⟩ X
                          have ne_ad7_b212 : ad7 ≠ b212 := neOf F_20.lt gb212
                          have ne_ad13_b212 : ad13 ≠ b212 := neOf F_21.lt gb212
                          have ne_b72_b212 : b72 ≠ b212 := neOf F_23.lt gb212
                          have ne_d72_b212 : d72 ≠ b212 := neOf F_25.lt gb212
                          have ne_c143__b212 : c143_ ≠ b212 := neOf V143.lt gb212
                          have ne_ad7_d212 : ad7 ≠ d212 := neOf F_20.lt gd212
                          have ne_ad13_d212 : ad13 ≠ d212 := neOf F_21.lt gd212
                          have ne_b72_d212 : b72 ≠ d212 := neOf F_23.lt gd212
                          have ne_d72_d212 : d72 ≠ d212 := neOf F_25.lt gd212
                          have ne_c143__d212 : c143_ ≠ d212 := neOf V143.lt gd212
                          have F_28 := F_20.keep K212
                          have F_29 := F_21.keep K212
                          have F_30 := F_22.keep K212 nin0
                          have F_31 := F_23.keep K212
                          have F_32 := F_24.keep K212 nin0
                          have F_33 := F_25.keep K212 nin0
                          have F_34 := F_26.keep K212
                          have F_35 := F_27.keep K212 nin0
                          have F_36 := V143.keep K212 nin0
                          refine gCallVv X w [(.ref b212)] [] F_31 (own_eq_same_1 l Z a0 hw b72 b212 d72 d212 x26  h212 n0 (Sd.le X) F_31 A212 F_32 F212 F_33 V212  ne_d72_d212) (own_wd hw 29 rfl) (own_wd hw 30 rfl) (notFace_of_selects (args := #[]) (mvT w.2.2.1 (own_wd hw 32 rfl))) (own_wd hw 32 rfl) (own_wd hw 31 rfl) (own_wd hw 3 rfl) (own_wd hw 33 rfl) (by decide) own_pd5 rfl rfl at_215 rfl (W := 0) (Nat.le_of_eq rfl) (by decide) (by decide) (by decide) (by decide) (n := 218) rfl ?_
                          rintro T _ _ ⟨rfl, rfl⟩ X
                          refine gIf_ne X w at_218 (n := 223) (n' := 221) (by decide) rfl rfl ?_ ?_
                          · rintro ⟨c218, c218'⟩
                            refine gAload X w at_223 rfl rfl (n := 225) rfl ?_
                            refine gAload X w at_225 rfl rfl (n := 227) rfl ?_
                            refine gCallSv X w [(.ref ad7)] [(.ref b72)] (own_of_1 l Z a0 hw ad7 x103 h212 n0 (Sd.le X) F_35 F_28 gz_x103) (own_wd hw 1 rfl) (own_wd hw 2 rfl) (own_wd hw 3 rfl) (own_wd hw 4 rfl) (by decide) own_pd3 rfl rfl at_227 rfl (W := 1) (Nat.le_of_eq rfl) (by decide) (by decide) (by decide) (by decide) (n := 230) rfl ?_
                            rintro T h227 _ ⟨K227, b227, d227, rfl, gb227, gd227, nbd227, A227, F227, V227, Ad227⟩ X
                            have ne_ad7_b227 : ad7 ≠ b227 := neOf F_28.lt gb227
                            have ne_ad13_b227 : ad13 ≠ b227 := neOf F_29.lt gb227
                            have ne_b72_b227 : b72 ≠ b227 := neOf F_31.lt gb227
                            have ne_d72_b227 : d72 ≠ b227 := neOf F_33.lt gb227
                            have ne_c143__b227 : c143_ ≠ b227 := neOf F_36.lt gb227
                            have ne_b212_b227 : b212 ≠ b227 := neOf A212.lt gb227
                            have ne_d212_b227 : d212 ≠ b227 := neOf V212.lt gb227
                            have ne_ad7_d227 : ad7 ≠ d227 := neOf F_28.lt gd227
                            have ne_ad13_d227 : ad13 ≠ d227 := neOf F_29.lt gd227
                            have ne_b72_d227 : b72 ≠ d227 := neOf F_31.lt gd227
                            have ne_d72_d227 : d72 ≠ d227 := neOf F_33.lt gd227
                            have ne_c143__d227 : c143_ ≠ d227 := neOf F_36.lt gd227
                            have ne_b212_d227 : b212 ≠ d227 := neOf A212.lt gd227
                            have ne_d212_d227 : d212 ≠ d227 := neOf V212.lt gd227
                            have F_37 := F_28.keep K227
                            have F_38 := F_29.keep K227
                            have F_39 := F_30.keep K227 nin0
                            have F_40 := F_31.keep K227
                            have F_41 := F_32.keep K227 nin0
                            have F_42 := F_33.keep K227 nin0
                            have F_43 := F_34.keep K227
                            have F_44 := F_35.keep K227 nin0
                            have F_45 := F_36.keep K227 nin0
                            have F_46 := A212.keep K227
                            have F_47 := F212.keep K227 nin0
                            have F_48 := V212.keep K227 nin0
                            have F_49 := Ad212.keep K227
                            refine gCallVv X w [(.ref b227)] [] F_40 (own_eq_diff_1 l Z a0 hw b72 b227 d72 d227 x26 x103 h227 n0 (Sd.le X) F_40 A227 F_41 F227 F_42 V227 df ne_d72_d227) (own_wd hw 29 rfl) (own_wd hw 30 rfl) (notFace_of_selects (args := #[]) (mvT w.2.2.1 (own_wd hw 32 rfl))) (own_wd hw 32 rfl) (own_wd hw 31 rfl) (own_wd hw 3 rfl) (own_wd hw 33 rfl) (by decide) own_pd5 rfl rfl at_230 rfl (W := 0) (Nat.le_of_eq rfl) (by decide) (by decide) (by decide) (by decide) (n := 233) rfl ?_
                            rintro T _ _ ⟨rfl, rfl⟩ X
                            refine gIload X w at_233 rfl (n := 235) rfl ?_
                            refine gIf_ne X w at_235 (n := 242) (n' := 238) (by decide) rfl rfl ?_ ?_
                            · rintro ⟨c235, c235'⟩
                              refine gIconst X w at_242 (z := (0 : Int32)) rfl (n := 243) rfl ?_
                              refine gIcmp_eq X w at_243 (n := 248) (n' := 246) (by decide) rfl rfl ?_ ?_
                              · rintro ⟨c243, c243'⟩
                                refine gIconst X w at_248 (z := (1 : Int32)) rfl (n := 249) rfl ?_
                                exact gRetZ X w rfl (Or.inr rfl) at_249 (by decide) (by decide) (rfl)
                              · rintro ⟨c243, c243'⟩
                                exact absurd c243 (by decide)
                            · rintro ⟨c235, c235'⟩
                              exact absurd c235 (by decide)
                          · rintro ⟨c218, c218'⟩
                            exact absurd c218 (by decide)
                        · intro c194
                          exact absurd c194 (by decide)
                      · intro c177
                        exact absurd c177 (by decide)
                    · rintro ⟨c169, c169'⟩
                      exact absurd rfl c169
                · rintro ⟨c153, c153'⟩
                  exact absurd c153 (by decide)
              · intro c126
                exact absurd c126 (by decide)
            · intro c108
              exact absurd c108 (by decide)
        · intro c55
          exact absurd c55 (by decide)
      · intro c37
        exact absurd c37 (by decide)
  · skip
    refine gIloadN X w at_0 rfl (n := 1) rfl ?_
    refine gIconst X w at_1 (z := (3 : Int32)) rfl (n := 2) rfl ?_
    refine gIand X w at_2 q2 (n := 3) rfl ?_
    refine gIstore X w at_3 #[.val (.int p1), .val (.int p2), .val (.int p3), .val (.int p4), .val (.int p5), .val (.int (2 : Int32)), .unset, .unset, .unset, .unset, .unset] rfl (n := 5) rfl ?_
    refine gIload X w at_5 rfl (n := 7) rfl ?_
    refine gNewP X w (own_wd hw 0 rfl) at_7 (by decide) (cap := 2) (by decide) (by decide) (by decide) (by decide) (vs := [(.int (0 : Int32)), (.int (0 : Int32))]) (ty := .byte) rfl rfl (ad := "[B") (by decide) (n := 9) rfl ?_
    intro T hp7 ad7 ea7 na7 X E7 V7 A7
    refine gAstore X w at_9 rfl #[.val (.int p1), .val (.int p2), .val (.int p3), .val (.int p4), .val (.int p5), .val (.int (2 : Int32)), .val (.ref ad7), .unset, .unset, .unset, .unset] rfl (n := 11) rfl ?_
    refine gIload X w at_11 rfl (n := 13) rfl ?_
    refine gNewP X w (own_wd hw 0 rfl) at_13 (by decide) (cap := 2) (by decide) (by decide) (by decide) (by decide) (vs := [(.int (0 : Int32)), (.int (0 : Int32))]) (ty := .byte) rfl rfl (ad := "[B") (by decide) (n := 15) rfl ?_
    intro T hp13 ad13 ea13 na13 X E13 V13 A13
    have ne_ad7_ad13 : ad7 ≠ ad13 := neOf A7.lt (Nat.le_of_eq ea13.symm)
    have F_1 := A7.ext E13
    have F_2 := V7.ext E13
    refine gAstore X w at_15 rfl #[.val (.int p1), .val (.int p2), .val (.int p3), .val (.int p4), .val (.int p5), .val (.int (2 : Int32)), .val (.ref ad7), .val (.ref ad13), .unset, .unset, .unset] rfl (n := 17) rfl ?_
    refine gIload X w at_17 rfl (n := 19) rfl ?_
    refine gIf_le X w at_19 (n := 34) (n' := 22) (by decide) rfl rfl ?_ ?_
    · intro c19
      exact absurd c19 (by decide)
    · intro c19
      refine gAload X w at_22 rfl rfl (n := 24) rfl ?_
      refine gIconst X w at_24 (z := (0 : Int32)) rfl (n := 25) rfl ?_
      refine gIloadN X w at_25 rfl (n := 26) rfl ?_
      obtain ⟨x26, q26⟩ : ∃ zz_ : Int32, (Int32.toInt8 p2).toInt32 = zz_ := ⟨_, rfl⟩
      have gz_x26 := own_fitb q26
      refine gI2b X w at_26 q26 (n := 27) rfl ?_
      refine gBastore X w (z := (.int x26)) F_2 (by decide) (show (0 : Int) < ((2 : Nat) : Int) from by decide) na7 (own_narb q26) (vs' := [(.int x26), (.int (0 : Int32))]) rfl at_27 (n := 28) rfl ?_
      intro T hp27 X W27 V27
      have F_3 := F_1.wr W27
      have F_4 := A13.wr W27
      have F_5 := V13.other W27 (Ne.symm ne_ad7_ad13)
      refine gAload X w at_28 rfl rfl (n := 30) rfl ?_
      refine gIconst X w at_30 (z := (0 : Int32)) rfl (n := 31) rfl ?_
      refine gIloadN X w at_31 rfl (n := 32) rfl ?_
      refine gI2b X w at_32 q26 (n := 33) rfl ?_
      refine gBastore X w (z := (.int x26)) F_5 (by decide) (show (0 : Int) < ((2 : Nat) : Int) from by decide) na13 (own_narb q26) (vs' := [(.int x26), (.int (0 : Int32))]) rfl at_33 (n := 34) rfl ?_
      intro T hp33 X W33 V33
      have F_6 := F_3.wr W33
      have F_7 := F_4.wr W33
      have F_8 := V27.other W33 ne_ad7_ad13
      refine gIload X w at_34 rfl (n := 36) rfl ?_
      refine gIconst X w at_36 (z := (1 : Int32)) rfl (n := 37) rfl ?_
      refine gIcmp_le X w at_37 (n := 52) (n' := 40) (by decide) rfl rfl ?_ ?_
      · intro c37
        exact absurd c37 (by decide)
      · intro c37
        refine gAload X w at_40 rfl rfl (n := 42) rfl ?_
        refine gIconst X w at_42 (z := (1 : Int32)) rfl (n := 43) rfl ?_
        refine gIloadN X w at_43 rfl (n := 44) rfl ?_
        obtain ⟨x44, q44⟩ : ∃ zz_ : Int32, (Int32.toInt8 p3).toInt32 = zz_ := ⟨_, rfl⟩
        have gz_x44 := own_fitb q44
        refine gI2b X w at_44 q44 (n := 45) rfl ?_
        refine gBastore X w (z := (.int x44)) F_8 (by decide) (show (1 : Int) < ((2 : Nat) : Int) from by decide) na7 (own_narb q44) (vs' := [(.int x26), (.int x44)]) rfl at_45 (n := 46) rfl ?_
        intro T hp45 X W45 V45
        have F_9 := F_6.wr W45
        have F_10 := F_7.wr W45
        have F_11 := V33.other W45 (Ne.symm ne_ad7_ad13)
        refine gAload X w at_46 rfl rfl (n := 48) rfl ?_
        refine gIconst X w at_48 (z := (1 : Int32)) rfl (n := 49) rfl ?_
        refine gIloadN X w at_49 rfl (n := 50) rfl ?_
        refine gI2b X w at_50 q44 (n := 51) rfl ?_
        refine gBastore X w (z := (.int x44)) F_11 (by decide) (show (1 : Int) < ((2 : Nat) : Int) from by decide) na13 (own_narb q44) (vs' := [(.int x26), (.int x44)]) rfl at_51 (n := 52) rfl ?_
        intro T hp51 X W51 V51
        have F_12 := F_9.wr W51
        have F_13 := F_10.wr W51
        have F_14 := V45.other W51 ne_ad7_ad13
        refine gIload X w at_52 rfl (n := 54) rfl ?_
        refine gIconst X w at_54 (z := (2 : Int32)) rfl (n := 55) rfl ?_
        refine gIcmp_le X w at_55 (n := 70) (n' := 58) (by decide) rfl rfl ?_ ?_
        · intro c55
          refine gAload X w at_70 rfl rfl (n := 72) rfl ?_
          refine gCallSv X w [(.ref ad7)] [] (own_of_2 l Z a0 hw ad7 x26 x44 hp51 n0 (Sd.le X) F_14 F_12 gz_x26 gz_x44) (own_wd hw 1 rfl) (own_wd hw 2 rfl) (own_wd hw 3 rfl) (own_wd hw 4 rfl) (by decide) own_pd3 rfl rfl at_72 rfl (W := 0) (Nat.le_of_eq rfl) (by decide) (by decide) (by decide) (by decide) (n := 75) rfl ?_
          rintro T h72 _ ⟨K72, b72, d72, rfl, gb72, gd72, nbd72, A72, F72, V72, Ad72⟩ X
          have ne_ad7_b72 : ad7 ≠ b72 := neOf F_12.lt gb72
          have ne_ad13_b72 : ad13 ≠ b72 := neOf F_13.lt gb72
          have ne_ad7_d72 : ad7 ≠ d72 := neOf F_12.lt gd72
          have ne_ad13_d72 : ad13 ≠ d72 := neOf F_13.lt gd72
          have F_15 := F_12.keep K72
          have F_16 := F_13.keep K72
          have F_17 := F_14.keep K72 nin0
          have F_18 := V51.keep K72 nin0
          refine gAstore X w at_75 rfl #[.val (.int p1), .val (.int p2), .val (.int p3), .val (.int p4), .val (.int p5), .val (.int (2 : Int32)), .val (.ref ad7), .val (.ref ad13), .val (.ref b72), .unset, .unset] rfl (n := 77) rfl ?_
          refine gIload X w at_77 rfl (n := 79) rfl ?_
          refine gSipush X w at_79 (z := (255 : Int32)) (by decide) (n := 82) rfl ?_
          obtain ⟨x82, q82⟩ : ∃ zz_ : Int32, p5 &&& (255 : Int32) = zz_ := ⟨_, rfl⟩
          refine gIand X w at_82 q82 (n := 83) rfl ?_
          refine gIconst X w at_83 (z := (1 : Int32)) rfl (n := 84) rfl ?_
          obtain ⟨x84, q84⟩ : ∃ zz_ : Int32, x82 ||| (1 : Int32) = zz_ := ⟨_, rfl⟩
          refine gIor X w at_84 q84 (n := 85) rfl ?_
          have o84 : x84.toInt % 2 = 1 := by rw [← q84]; exact own_or1 _
          obtain ⟨x85, q85⟩ : ∃ zz_ : Int32, (Int32.toInt8 x84).toInt32 = zz_ := ⟨_, rfl⟩
          have gz_x85 := own_fitb q85
          refine gI2b X w at_85 q85 (n := 86) rfl ?_
          refine gIstore X w at_86 #[.val (.int p1), .val (.int p2), .val (.int p3), .val (.int p4), .val (.int p5), .val (.int (2 : Int32)), .val (.ref ad7), .val (.ref ad13), .val (.ref b72), .val (.int x85), .unset] rfl (n := 88) rfl ?_
          refine gIload X w at_88 rfl (n := 90) rfl ?_
          refine gIf_le X w at_90 (n := 105) (n' := 93) (by decide) rfl rfl ?_ ?_
          · intro c90
            exact absurd c90 (by decide)
          · intro c90
            refine gAload X w at_93 rfl rfl (n := 95) rfl ?_
            refine gIconst X w at_95 (z := (0 : Int32)) rfl (n := 96) rfl ?_
            refine gAload X w at_96 rfl rfl (n := 98) rfl ?_
            refine gIconst X w at_98 (z := (0 : Int32)) rfl (n := 99) rfl ?_
            refine gBaload X w F_17 (by decide) rfl at_99 (n := 100) rfl ?_
            refine gIload X w at_100 rfl (n := 102) rfl ?_
            obtain ⟨x102, q102⟩ : ∃ zz_ : Int32, x26 ^^^ x85 = zz_ := ⟨_, rfl⟩
            refine gIxor X w at_102 q102 (n := 103) rfl ?_
            obtain ⟨x103, q103⟩ : ∃ zz_ : Int32, (Int32.toInt8 x102).toInt32 = zz_ := ⟨_, rfl⟩
            have gz_x103 := own_fitb q103
            refine gI2b X w at_103 q103 (n := 104) rfl ?_
            have df : ¬ x26 = x103 := fun e => own_flip q85 o84 q102 q103 e.symm
            refine gBastore X w (z := (.int x103)) F_17 (by decide) (show (0 : Int) < ((2 : Nat) : Int) from by decide) na7 (own_narb q103) (vs' := [(.int x103), (.int x44)]) rfl at_104 (n := 105) rfl ?_
            intro T hp104 X W104 V104
            have F_19 := F_15.wr W104
            have F_20 := F_16.wr W104
            have F_21 := F_18.other W104 (Ne.symm ne_ad7_ad13)
            have F_22 := A72.wr W104
            have F_23 := F72.other W104 (Or.inl (Ne.symm ne_ad7_b72))
            have F_24 := V72.other W104 (Ne.symm ne_ad7_d72)
            have F_25 := Ad72.wr W104
            refine gIload X w at_105 rfl (n := 107) rfl ?_
            refine gIconst X w at_107 (z := (1 : Int32)) rfl (n := 108) rfl ?_
            refine gIcmp_le X w at_108 (n := 123) (n' := 111) (by decide) rfl rfl ?_ ?_
            · intro c108
              exact absurd c108 (by decide)
            · intro c108
              refine gAload X w at_111 rfl rfl (n := 113) rfl ?_
              refine gIconst X w at_113 (z := (1 : Int32)) rfl (n := 114) rfl ?_
              refine gAload X w at_114 rfl rfl (n := 116) rfl ?_
              refine gIconst X w at_116 (z := (1 : Int32)) rfl (n := 117) rfl ?_
              refine gBaload X w V104 (by decide) rfl at_117 (n := 118) rfl ?_
              refine gIload X w at_118 rfl (n := 120) rfl ?_
              obtain ⟨x120, q120⟩ : ∃ zz_ : Int32, x44 ^^^ x85 = zz_ := ⟨_, rfl⟩
              refine gIxor X w at_120 q120 (n := 121) rfl ?_
              obtain ⟨x121, q121⟩ : ∃ zz_ : Int32, (Int32.toInt8 x120).toInt32 = zz_ := ⟨_, rfl⟩
              have gz_x121 := own_fitb q121
              refine gI2b X w at_121 q121 (n := 122) rfl ?_
              refine gBastore X w (z := (.int x121)) V104 (by decide) (show (1 : Int) < ((2 : Nat) : Int) from by decide) na7 (own_narb q121) (vs' := [(.int x103), (.int x121)]) rfl at_122 (n := 123) rfl ?_
              intro T hp122 X W122 V122
              have F_26 := F_19.wr W122
              have F_27 := F_20.wr W122
              have F_28 := F_21.other W122 (Ne.symm ne_ad7_ad13)
              have F_29 := F_22.wr W122
              have F_30 := F_23.other W122 (Or.inl (Ne.symm ne_ad7_b72))
              have F_31 := F_24.other W122 (Ne.symm ne_ad7_d72)
              have F_32 := F_25.wr W122
              refine gIload X w at_123 rfl (n := 125) rfl ?_
              refine gIconst X w at_125 (z := (2 : Int32)) rfl (n := 126) rfl ?_
              refine gIcmp_le X w at_126 (n := 141) (n' := 129) (by decide) rfl rfl ?_ ?_
              · intro c126
                refine gAload X w at_141 rfl rfl (n := 143) rfl ?_
                refine gCallVv X w [] [] F_29 (own_bytes_2 l Z a0 hw b72 d72 x26 x44 hp122 n0 (Sd.le X) F_30 F_31 F_32 gz_x26 gz_x44) (own_wd hw 24 rfl) (own_wd hw 25 rfl) (notFace_of_selects (args := #[]) (mvT w.2.2.1 (own_wd hw 27 rfl))) (own_wd hw 27 rfl) (own_wd hw 26 rfl) (own_wd hw 3 rfl) (own_wd hw 28 rfl) (by decide) own_pd4 rfl rfl at_143 rfl (W := 0) (Nat.le_of_eq rfl) (by decide) (by decide) (by decide) (by decide) (n := 146) rfl ?_
                rintro T h143 _ ⟨K143, c143_, rfl, gc143, V143⟩ X
                have ne_ad7_c143_ : ad7 ≠ c143_ := neOf F_26.lt gc143
                have ne_ad13_c143_ : ad13 ≠ c143_ := neOf F_27.lt gc143
                have ne_b72_c143_ : b72 ≠ c143_ := neOf F_29.lt gc143
                have ne_d72_c143_ : d72 ≠ c143_ := neOf F_31.lt gc143
                have F_33 := F_26.keep K143
                have F_34 := F_27.keep K143
                have F_35 := F_28.keep K143 nin0
                have F_36 := F_29.keep K143
                have F_37 := F_30.keep K143 nin0
                have F_38 := F_31.keep K143 nin0
                have F_39 := F_32.keep K143
                have F_40 := V122.keep K143 nin0
                refine gAstore X w at_146 rfl #[.val (.int p1), .val (.int p2), .val (.int p3), .val (.int p4), .val (.int p5), .val (.int (2 : Int32)), .val (.ref ad7), .val (.ref ad13), .val (.ref b72), .val (.int x85), .val (.ref c143_)] rfl (n := 148) rfl ?_
                refine gAload X w at_148 rfl rfl (n := 150) rfl ?_
                refine gAlen X w V143 (z := (2 : Int32)) rfl at_150 (n := 151) rfl ?_
                refine gIload X w at_151 rfl (n := 153) rfl ?_
                refine gIcmp_eq X w at_153 (n := 158) (n' := 156) (by decide) rfl rfl ?_ ?_
                · rintro ⟨c153, c153'⟩
                  refine gIload X w at_158 rfl (n := 160) rfl ?_
                  refine gIf_le X w at_160 (n := 174) (n' := 163) (by decide) rfl rfl ?_ ?_
                  · intro c160
                    exact absurd c160 (by decide)
                  · intro c160
                    refine gAload X w at_163 rfl rfl (n := 165) rfl ?_
                    refine gIconst X w at_165 (z := (0 : Int32)) rfl (n := 166) rfl ?_
                    refine gBaload X w V143 (by decide) rfl at_166 (n := 167) rfl ?_
                    refine gIloadN X w at_167 rfl (n := 168) rfl ?_
                    refine gI2b X w at_168 q26 (n := 169) rfl ?_
                    refine gIcmp_eq X w at_169 (n := 174) (n' := 172) (by decide) rfl rfl ?_ ?_
                    · rintro ⟨c169, c169'⟩
                      refine gIload X w at_174 rfl (n := 176) rfl ?_
                      refine gIconst X w at_176 (z := (1 : Int32)) rfl (n := 177) rfl ?_
                      refine gIcmp_le X w at_177 (n := 191) (n' := 180) (by decide) rfl rfl ?_ ?_
                      · intro c177
                        exact absurd c177 (by decide)
                      · intro c177
                        refine gAload X w at_180 rfl rfl (n := 182) rfl ?_
                        refine gIconst X w at_182 (z := (1 : Int32)) rfl (n := 183) rfl ?_
                        refine gBaload X w V143 (by decide) rfl at_183 (n := 184) rfl ?_
                        refine gIloadN X w at_184 rfl (n := 185) rfl ?_
                        refine gI2b X w at_185 q44 (n := 186) rfl ?_
                        refine gIcmp_eq X w at_186 (n := 191) (n' := 189) (by decide) rfl rfl ?_ ?_
                        · rintro ⟨c186, c186'⟩
                          refine gIload X w at_191 rfl (n := 193) rfl ?_
                          refine gIconst X w at_193 (z := (2 : Int32)) rfl (n := 194) rfl ?_
                          refine gIcmp_le X w at_194 (n := 208) (n' := 197) (by decide) rfl rfl ?_ ?_
                          · intro c194
                            refine gAload X w at_208 rfl rfl (n := 210) rfl ?_
                            refine gAload X w at_210 rfl rfl (n := 212) rfl ?_
                            refine gCallSv X w [(.ref ad13)] [(.ref b72)] (own_of_2 l Z a0 hw ad13 x26 x44 h143 n0 (Sd.le X) F_35 F_34 gz_x26 gz_x44) (own_wd hw 1 rfl) (own_wd hw 2 rfl) (own_wd hw 3 rfl) (own_wd hw 4 rfl) (by decide) own_pd3 rfl rfl at_212 rfl (W := 1) (Nat.le_of_eq rfl) (by decide) (by decide) (by decide) (by decide) (n := 215) rfl ?_
                            rintro T h212 _ ⟨K212, b212, d212, rfl, gb212, gd212, nbd212, A212, F212, V212, Ad212⟩ X
                            have ne_ad7_b212 : ad7 ≠ b212 := neOf F_33.lt gb212
                            have ne_ad13_b212 : ad13 ≠ b212 := neOf F_34.lt gb212
                            have ne_b72_b212 : b72 ≠ b212 := neOf F_36.lt gb212
                            have ne_d72_b212 : d72 ≠ b212 := neOf F_38.lt gb212
                            have ne_c143__b212 : c143_ ≠ b212 := neOf V143.lt gb212
                            have ne_ad7_d212 : ad7 ≠ d212 := neOf F_33.lt gd212
                            have ne_ad13_d212 : ad13 ≠ d212 := neOf F_34.lt gd212
                            have ne_b72_d212 : b72 ≠ d212 := neOf F_36.lt gd212
                            have ne_d72_d212 : d72 ≠ d212 := neOf F_38.lt gd212
                            have ne_c143__d212 : c143_ ≠ d212 := neOf V143.lt gd212
                            have F_41 := F_33.keep K212
                            have F_42 := F_34.keep K212
                            have F_43 := F_35.keep K212 nin0
                            have F_44 := F_36.keep K212
                            have F_45 := F_37.keep K212 nin0
                            have F_46 := F_38.keep K212 nin0
                            have F_47 := F_39.keep K212
                            have F_48 := F_40.keep K212 nin0
                            have F_49 := V143.keep K212 nin0
                            refine gCallVv X w [(.ref b212)] [] F_44 (own_eq_same_2 l Z a0 hw b72 b212 d72 d212 x26 x44  h212 n0 (Sd.le X) F_44 A212 F_45 F212 F_46 V212  ne_d72_d212) (own_wd hw 29 rfl) (own_wd hw 30 rfl) (notFace_of_selects (args := #[]) (mvT w.2.2.1 (own_wd hw 32 rfl))) (own_wd hw 32 rfl) (own_wd hw 31 rfl) (own_wd hw 3 rfl) (own_wd hw 33 rfl) (by decide) own_pd5 rfl rfl at_215 rfl (W := 0) (Nat.le_of_eq rfl) (by decide) (by decide) (by decide) (by decide) (n := 218) rfl ?_
                            rintro T _ _ ⟨rfl, rfl⟩ X
                            refine gIf_ne X w at_218 (n := 223) (n' := 221) (by decide) rfl rfl ?_ ?_
                            · rintro ⟨c218, c218'⟩
                              refine gAload X w at_223 rfl rfl (n := 225) rfl ?_
                              refine gAload X w at_225 rfl rfl (n := 227) rfl ?_
                              refine gCallSv X w [(.ref ad7)] [(.ref b72)] (own_of_2 l Z a0 hw ad7 x103 x121 h212 n0 (Sd.le X) F_48 F_41 gz_x103 gz_x121) (own_wd hw 1 rfl) (own_wd hw 2 rfl) (own_wd hw 3 rfl) (own_wd hw 4 rfl) (by decide) own_pd3 rfl rfl at_227 rfl (W := 1) (Nat.le_of_eq rfl) (by decide) (by decide) (by decide) (by decide) (n := 230) rfl ?_
                              rintro T h227 _ ⟨K227, b227, d227, rfl, gb227, gd227, nbd227, A227, F227, V227, Ad227⟩ X
                              have ne_ad7_b227 : ad7 ≠ b227 := neOf F_41.lt gb227
                              have ne_ad13_b227 : ad13 ≠ b227 := neOf F_42.lt gb227
                              have ne_b72_b227 : b72 ≠ b227 := neOf F_44.lt gb227
                              have ne_d72_b227 : d72 ≠ b227 := neOf F_46.lt gb227
                              have ne_c143__b227 : c143_ ≠ b227 := neOf F_49.lt gb227
                              have ne_b212_b227 : b212 ≠ b227 := neOf A212.lt gb227
                              have ne_d212_b227 : d212 ≠ b227 := neOf V212.lt gb227
                              have ne_ad7_d227 : ad7 ≠ d227 := neOf F_41.lt gd227
                              have ne_ad13_d227 : ad13 ≠ d227 := neOf F_42.lt gd227
                              have ne_b72_d227 : b72 ≠ d227 := neOf F_44.lt gd227
                              have ne_d72_d227 : d72 ≠ d227 := neOf F_46.lt gd227
                              have ne_c143__d227 : c143_ ≠ d227 := neOf F_49.lt gd227
                              have ne_b212_d227 : b212 ≠ d227 := neOf A212.lt gd227
                              have ne_d212_d227 : d212 ≠ d227 := neOf V212.lt gd227
                              have F_50 := F_41.keep K227
                              have F_51 := F_42.keep K227
                              have F_52 := F_43.keep K227 nin0
                              have F_53 := F_44.keep K227
                              have F_54 := F_45.keep K227 nin0
                              have F_55 := F_46.keep K227 nin0
                              have F_56 := F_47.keep K227
                              have F_57 := F_48.keep K227 nin0
                              have F_58 := F_49.keep K227 nin0
                              have F_59 := A212.keep K227
                              have F_60 := F212.keep K227 nin0
                              have F_61 := V212.keep K227 nin0
                              have F_62 := Ad212.keep K227
                              refine gCallVv X w [(.ref b227)] [] F_53 (own_eq_diff_2 l Z a0 hw b72 b227 d72 d227 x26 x44 x103 x121 h227 n0 (Sd.le X) F_53 A227 F_54 F227 F_55 V227 df ne_d72_d227) (own_wd hw 29 rfl) (own_wd hw 30 rfl) (notFace_of_selects (args := #[]) (mvT w.2.2.1 (own_wd hw 32 rfl))) (own_wd hw 32 rfl) (own_wd hw 31 rfl) (own_wd hw 3 rfl) (own_wd hw 33 rfl) (by decide) own_pd5 rfl rfl at_230 rfl (W := 0) (Nat.le_of_eq rfl) (by decide) (by decide) (by decide) (by decide) (n := 233) rfl ?_
                              rintro T _ _ ⟨rfl, rfl⟩ X
                              refine gIload X w at_233 rfl (n := 235) rfl ?_
                              refine gIf_ne X w at_235 (n := 242) (n' := 238) (by decide) rfl rfl ?_ ?_
                              · rintro ⟨c235, c235'⟩
                                refine gIconst X w at_242 (z := (0 : Int32)) rfl (n := 243) rfl ?_
                                refine gIcmp_eq X w at_243 (n := 248) (n' := 246) (by decide) rfl rfl ?_ ?_
                                · rintro ⟨c243, c243'⟩
                                  refine gIconst X w at_248 (z := (1 : Int32)) rfl (n := 249) rfl ?_
                                  exact gRetZ X w rfl (Or.inr rfl) at_249 (by decide) (by decide) (rfl)
                                · rintro ⟨c243, c243'⟩
                                  exact absurd c243 (by decide)
                              · rintro ⟨c235, c235'⟩
                                exact absurd c235 (by decide)
                            · rintro ⟨c218, c218'⟩
                              exact absurd c218 (by decide)
                          · intro c194
                            exact absurd c194 (by decide)
                        · rintro ⟨c186, c186'⟩
                          exact absurd rfl c186
                    · rintro ⟨c169, c169'⟩
                      exact absurd rfl c169
                · rintro ⟨c153, c153'⟩
                  exact absurd c153 (by decide)
              · intro c126
                exact absurd c126 (by decide)
        · intro c55
          exact absurd c55 (by decide)
  · skip
    refine gIloadN X w at_0 rfl (n := 1) rfl ?_
    refine gIconst X w at_1 (z := (3 : Int32)) rfl (n := 2) rfl ?_
    refine gIand X w at_2 q2 (n := 3) rfl ?_
    refine gIstore X w at_3 #[.val (.int p1), .val (.int p2), .val (.int p3), .val (.int p4), .val (.int p5), .val (.int (3 : Int32)), .unset, .unset, .unset, .unset, .unset] rfl (n := 5) rfl ?_
    refine gIload X w at_5 rfl (n := 7) rfl ?_
    refine gNewP X w (own_wd hw 0 rfl) at_7 (by decide) (cap := 3) (by decide) (by decide) (by decide) (by decide) (vs := [(.int (0 : Int32)), (.int (0 : Int32)), (.int (0 : Int32))]) (ty := .byte) rfl rfl (ad := "[B") (by decide) (n := 9) rfl ?_
    intro T hp7 ad7 ea7 na7 X E7 V7 A7
    refine gAstore X w at_9 rfl #[.val (.int p1), .val (.int p2), .val (.int p3), .val (.int p4), .val (.int p5), .val (.int (3 : Int32)), .val (.ref ad7), .unset, .unset, .unset, .unset] rfl (n := 11) rfl ?_
    refine gIload X w at_11 rfl (n := 13) rfl ?_
    refine gNewP X w (own_wd hw 0 rfl) at_13 (by decide) (cap := 3) (by decide) (by decide) (by decide) (by decide) (vs := [(.int (0 : Int32)), (.int (0 : Int32)), (.int (0 : Int32))]) (ty := .byte) rfl rfl (ad := "[B") (by decide) (n := 15) rfl ?_
    intro T hp13 ad13 ea13 na13 X E13 V13 A13
    have ne_ad7_ad13 : ad7 ≠ ad13 := neOf A7.lt (Nat.le_of_eq ea13.symm)
    have F_1 := A7.ext E13
    have F_2 := V7.ext E13
    refine gAstore X w at_15 rfl #[.val (.int p1), .val (.int p2), .val (.int p3), .val (.int p4), .val (.int p5), .val (.int (3 : Int32)), .val (.ref ad7), .val (.ref ad13), .unset, .unset, .unset] rfl (n := 17) rfl ?_
    refine gIload X w at_17 rfl (n := 19) rfl ?_
    refine gIf_le X w at_19 (n := 34) (n' := 22) (by decide) rfl rfl ?_ ?_
    · intro c19
      exact absurd c19 (by decide)
    · intro c19
      refine gAload X w at_22 rfl rfl (n := 24) rfl ?_
      refine gIconst X w at_24 (z := (0 : Int32)) rfl (n := 25) rfl ?_
      refine gIloadN X w at_25 rfl (n := 26) rfl ?_
      obtain ⟨x26, q26⟩ : ∃ zz_ : Int32, (Int32.toInt8 p2).toInt32 = zz_ := ⟨_, rfl⟩
      have gz_x26 := own_fitb q26
      refine gI2b X w at_26 q26 (n := 27) rfl ?_
      refine gBastore X w (z := (.int x26)) F_2 (by decide) (show (0 : Int) < ((3 : Nat) : Int) from by decide) na7 (own_narb q26) (vs' := [(.int x26), (.int (0 : Int32)), (.int (0 : Int32))]) rfl at_27 (n := 28) rfl ?_
      intro T hp27 X W27 V27
      have F_3 := F_1.wr W27
      have F_4 := A13.wr W27
      have F_5 := V13.other W27 (Ne.symm ne_ad7_ad13)
      refine gAload X w at_28 rfl rfl (n := 30) rfl ?_
      refine gIconst X w at_30 (z := (0 : Int32)) rfl (n := 31) rfl ?_
      refine gIloadN X w at_31 rfl (n := 32) rfl ?_
      refine gI2b X w at_32 q26 (n := 33) rfl ?_
      refine gBastore X w (z := (.int x26)) F_5 (by decide) (show (0 : Int) < ((3 : Nat) : Int) from by decide) na13 (own_narb q26) (vs' := [(.int x26), (.int (0 : Int32)), (.int (0 : Int32))]) rfl at_33 (n := 34) rfl ?_
      intro T hp33 X W33 V33
      have F_6 := F_3.wr W33
      have F_7 := F_4.wr W33
      have F_8 := V27.other W33 ne_ad7_ad13
      refine gIload X w at_34 rfl (n := 36) rfl ?_
      refine gIconst X w at_36 (z := (1 : Int32)) rfl (n := 37) rfl ?_
      refine gIcmp_le X w at_37 (n := 52) (n' := 40) (by decide) rfl rfl ?_ ?_
      · intro c37
        exact absurd c37 (by decide)
      · intro c37
        refine gAload X w at_40 rfl rfl (n := 42) rfl ?_
        refine gIconst X w at_42 (z := (1 : Int32)) rfl (n := 43) rfl ?_
        refine gIloadN X w at_43 rfl (n := 44) rfl ?_
        obtain ⟨x44, q44⟩ : ∃ zz_ : Int32, (Int32.toInt8 p3).toInt32 = zz_ := ⟨_, rfl⟩
        have gz_x44 := own_fitb q44
        refine gI2b X w at_44 q44 (n := 45) rfl ?_
        refine gBastore X w (z := (.int x44)) F_8 (by decide) (show (1 : Int) < ((3 : Nat) : Int) from by decide) na7 (own_narb q44) (vs' := [(.int x26), (.int x44), (.int (0 : Int32))]) rfl at_45 (n := 46) rfl ?_
        intro T hp45 X W45 V45
        have F_9 := F_6.wr W45
        have F_10 := F_7.wr W45
        have F_11 := V33.other W45 (Ne.symm ne_ad7_ad13)
        refine gAload X w at_46 rfl rfl (n := 48) rfl ?_
        refine gIconst X w at_48 (z := (1 : Int32)) rfl (n := 49) rfl ?_
        refine gIloadN X w at_49 rfl (n := 50) rfl ?_
        refine gI2b X w at_50 q44 (n := 51) rfl ?_
        refine gBastore X w (z := (.int x44)) F_11 (by decide) (show (1 : Int) < ((3 : Nat) : Int) from by decide) na13 (own_narb q44) (vs' := [(.int x26), (.int x44), (.int (0 : Int32))]) rfl at_51 (n := 52) rfl ?_
        intro T hp51 X W51 V51
        have F_12 := F_9.wr W51
        have F_13 := F_10.wr W51
        have F_14 := V45.other W51 ne_ad7_ad13
        refine gIload X w at_52 rfl (n := 54) rfl ?_
        refine gIconst X w at_54 (z := (2 : Int32)) rfl (n := 55) rfl ?_
        refine gIcmp_le X w at_55 (n := 70) (n' := 58) (by decide) rfl rfl ?_ ?_
        · intro c55
          exact absurd c55 (by decide)
        · intro c55
          refine gAload X w at_58 rfl rfl (n := 60) rfl ?_
          refine gIconst X w at_60 (z := (2 : Int32)) rfl (n := 61) rfl ?_
          refine gIloadN X w at_61 rfl (n := 62) rfl ?_
          obtain ⟨x62, q62⟩ : ∃ zz_ : Int32, (Int32.toInt8 p4).toInt32 = zz_ := ⟨_, rfl⟩
          have gz_x62 := own_fitb q62
          refine gI2b X w at_62 q62 (n := 63) rfl ?_
          refine gBastore X w (z := (.int x62)) F_14 (by decide) (show (2 : Int) < ((3 : Nat) : Int) from by decide) na7 (own_narb q62) (vs' := [(.int x26), (.int x44), (.int x62)]) rfl at_63 (n := 64) rfl ?_
          intro T hp63 X W63 V63
          have F_15 := F_12.wr W63
          have F_16 := F_13.wr W63
          have F_17 := V51.other W63 (Ne.symm ne_ad7_ad13)
          refine gAload X w at_64 rfl rfl (n := 66) rfl ?_
          refine gIconst X w at_66 (z := (2 : Int32)) rfl (n := 67) rfl ?_
          refine gIloadN X w at_67 rfl (n := 68) rfl ?_
          refine gI2b X w at_68 q62 (n := 69) rfl ?_
          refine gBastore X w (z := (.int x62)) F_17 (by decide) (show (2 : Int) < ((3 : Nat) : Int) from by decide) na13 (own_narb q62) (vs' := [(.int x26), (.int x44), (.int x62)]) rfl at_69 (n := 70) rfl ?_
          intro T hp69 X W69 V69
          have F_18 := F_15.wr W69
          have F_19 := F_16.wr W69
          have F_20 := V63.other W69 ne_ad7_ad13
          refine gAload X w at_70 rfl rfl (n := 72) rfl ?_
          refine gCallSv X w [(.ref ad7)] [] (own_of_3 l Z a0 hw ad7 x26 x44 x62 hp69 n0 (Sd.le X) F_20 F_18 gz_x26 gz_x44 gz_x62) (own_wd hw 1 rfl) (own_wd hw 2 rfl) (own_wd hw 3 rfl) (own_wd hw 4 rfl) (by decide) own_pd3 rfl rfl at_72 rfl (W := 0) (Nat.le_of_eq rfl) (by decide) (by decide) (by decide) (by decide) (n := 75) rfl ?_
          rintro T h72 _ ⟨K72, b72, d72, rfl, gb72, gd72, nbd72, A72, F72, V72, Ad72⟩ X
          have ne_ad7_b72 : ad7 ≠ b72 := neOf F_18.lt gb72
          have ne_ad13_b72 : ad13 ≠ b72 := neOf F_19.lt gb72
          have ne_ad7_d72 : ad7 ≠ d72 := neOf F_18.lt gd72
          have ne_ad13_d72 : ad13 ≠ d72 := neOf F_19.lt gd72
          have F_21 := F_18.keep K72
          have F_22 := F_19.keep K72
          have F_23 := F_20.keep K72 nin0
          have F_24 := V69.keep K72 nin0
          refine gAstore X w at_75 rfl #[.val (.int p1), .val (.int p2), .val (.int p3), .val (.int p4), .val (.int p5), .val (.int (3 : Int32)), .val (.ref ad7), .val (.ref ad13), .val (.ref b72), .unset, .unset] rfl (n := 77) rfl ?_
          refine gIload X w at_77 rfl (n := 79) rfl ?_
          refine gSipush X w at_79 (z := (255 : Int32)) (by decide) (n := 82) rfl ?_
          obtain ⟨x82, q82⟩ : ∃ zz_ : Int32, p5 &&& (255 : Int32) = zz_ := ⟨_, rfl⟩
          refine gIand X w at_82 q82 (n := 83) rfl ?_
          refine gIconst X w at_83 (z := (1 : Int32)) rfl (n := 84) rfl ?_
          obtain ⟨x84, q84⟩ : ∃ zz_ : Int32, x82 ||| (1 : Int32) = zz_ := ⟨_, rfl⟩
          refine gIor X w at_84 q84 (n := 85) rfl ?_
          have o84 : x84.toInt % 2 = 1 := by rw [← q84]; exact own_or1 _
          obtain ⟨x85, q85⟩ : ∃ zz_ : Int32, (Int32.toInt8 x84).toInt32 = zz_ := ⟨_, rfl⟩
          have gz_x85 := own_fitb q85
          refine gI2b X w at_85 q85 (n := 86) rfl ?_
          refine gIstore X w at_86 #[.val (.int p1), .val (.int p2), .val (.int p3), .val (.int p4), .val (.int p5), .val (.int (3 : Int32)), .val (.ref ad7), .val (.ref ad13), .val (.ref b72), .val (.int x85), .unset] rfl (n := 88) rfl ?_
          refine gIload X w at_88 rfl (n := 90) rfl ?_
          refine gIf_le X w at_90 (n := 105) (n' := 93) (by decide) rfl rfl ?_ ?_
          · intro c90
            exact absurd c90 (by decide)
          · intro c90
            refine gAload X w at_93 rfl rfl (n := 95) rfl ?_
            refine gIconst X w at_95 (z := (0 : Int32)) rfl (n := 96) rfl ?_
            refine gAload X w at_96 rfl rfl (n := 98) rfl ?_
            refine gIconst X w at_98 (z := (0 : Int32)) rfl (n := 99) rfl ?_
            refine gBaload X w F_23 (by decide) rfl at_99 (n := 100) rfl ?_
            refine gIload X w at_100 rfl (n := 102) rfl ?_
            obtain ⟨x102, q102⟩ : ∃ zz_ : Int32, x26 ^^^ x85 = zz_ := ⟨_, rfl⟩
            refine gIxor X w at_102 q102 (n := 103) rfl ?_
            obtain ⟨x103, q103⟩ : ∃ zz_ : Int32, (Int32.toInt8 x102).toInt32 = zz_ := ⟨_, rfl⟩
            have gz_x103 := own_fitb q103
            refine gI2b X w at_103 q103 (n := 104) rfl ?_
            have df : ¬ x26 = x103 := fun e => own_flip q85 o84 q102 q103 e.symm
            refine gBastore X w (z := (.int x103)) F_23 (by decide) (show (0 : Int) < ((3 : Nat) : Int) from by decide) na7 (own_narb q103) (vs' := [(.int x103), (.int x44), (.int x62)]) rfl at_104 (n := 105) rfl ?_
            intro T hp104 X W104 V104
            have F_25 := F_21.wr W104
            have F_26 := F_22.wr W104
            have F_27 := F_24.other W104 (Ne.symm ne_ad7_ad13)
            have F_28 := A72.wr W104
            have F_29 := F72.other W104 (Or.inl (Ne.symm ne_ad7_b72))
            have F_30 := V72.other W104 (Ne.symm ne_ad7_d72)
            have F_31 := Ad72.wr W104
            refine gIload X w at_105 rfl (n := 107) rfl ?_
            refine gIconst X w at_107 (z := (1 : Int32)) rfl (n := 108) rfl ?_
            refine gIcmp_le X w at_108 (n := 123) (n' := 111) (by decide) rfl rfl ?_ ?_
            · intro c108
              exact absurd c108 (by decide)
            · intro c108
              refine gAload X w at_111 rfl rfl (n := 113) rfl ?_
              refine gIconst X w at_113 (z := (1 : Int32)) rfl (n := 114) rfl ?_
              refine gAload X w at_114 rfl rfl (n := 116) rfl ?_
              refine gIconst X w at_116 (z := (1 : Int32)) rfl (n := 117) rfl ?_
              refine gBaload X w V104 (by decide) rfl at_117 (n := 118) rfl ?_
              refine gIload X w at_118 rfl (n := 120) rfl ?_
              obtain ⟨x120, q120⟩ : ∃ zz_ : Int32, x44 ^^^ x85 = zz_ := ⟨_, rfl⟩
              refine gIxor X w at_120 q120 (n := 121) rfl ?_
              obtain ⟨x121, q121⟩ : ∃ zz_ : Int32, (Int32.toInt8 x120).toInt32 = zz_ := ⟨_, rfl⟩
              have gz_x121 := own_fitb q121
              refine gI2b X w at_121 q121 (n := 122) rfl ?_
              refine gBastore X w (z := (.int x121)) V104 (by decide) (show (1 : Int) < ((3 : Nat) : Int) from by decide) na7 (own_narb q121) (vs' := [(.int x103), (.int x121), (.int x62)]) rfl at_122 (n := 123) rfl ?_
              intro T hp122 X W122 V122
              have F_32 := F_25.wr W122
              have F_33 := F_26.wr W122
              have F_34 := F_27.other W122 (Ne.symm ne_ad7_ad13)
              have F_35 := F_28.wr W122
              have F_36 := F_29.other W122 (Or.inl (Ne.symm ne_ad7_b72))
              have F_37 := F_30.other W122 (Ne.symm ne_ad7_d72)
              have F_38 := F_31.wr W122
              refine gIload X w at_123 rfl (n := 125) rfl ?_
              refine gIconst X w at_125 (z := (2 : Int32)) rfl (n := 126) rfl ?_
              refine gIcmp_le X w at_126 (n := 141) (n' := 129) (by decide) rfl rfl ?_ ?_
              · intro c126
                exact absurd c126 (by decide)
              · intro c126
                refine gAload X w at_129 rfl rfl (n := 131) rfl ?_
                refine gIconst X w at_131 (z := (2 : Int32)) rfl (n := 132) rfl ?_
                refine gAload X w at_132 rfl rfl (n := 134) rfl ?_
                refine gIconst X w at_134 (z := (2 : Int32)) rfl (n := 135) rfl ?_
                refine gBaload X w V122 (by decide) rfl at_135 (n := 136) rfl ?_
                refine gIload X w at_136 rfl (n := 138) rfl ?_
                obtain ⟨x138, q138⟩ : ∃ zz_ : Int32, x62 ^^^ x85 = zz_ := ⟨_, rfl⟩
                refine gIxor X w at_138 q138 (n := 139) rfl ?_
                obtain ⟨x139, q139⟩ : ∃ zz_ : Int32, (Int32.toInt8 x138).toInt32 = zz_ := ⟨_, rfl⟩
                have gz_x139 := own_fitb q139
                refine gI2b X w at_139 q139 (n := 140) rfl ?_
                refine gBastore X w (z := (.int x139)) V122 (by decide) (show (2 : Int) < ((3 : Nat) : Int) from by decide) na7 (own_narb q139) (vs' := [(.int x103), (.int x121), (.int x139)]) rfl at_140 (n := 141) rfl ?_
                intro T hp140 X W140 V140
                have F_39 := F_32.wr W140
                have F_40 := F_33.wr W140
                have F_41 := F_34.other W140 (Ne.symm ne_ad7_ad13)
                have F_42 := F_35.wr W140
                have F_43 := F_36.other W140 (Or.inl (Ne.symm ne_ad7_b72))
                have F_44 := F_37.other W140 (Ne.symm ne_ad7_d72)
                have F_45 := F_38.wr W140
                refine gAload X w at_141 rfl rfl (n := 143) rfl ?_
                refine gCallVv X w [] [] F_42 (own_bytes_3 l Z a0 hw b72 d72 x26 x44 x62 hp140 n0 (Sd.le X) F_43 F_44 F_45 gz_x26 gz_x44 gz_x62) (own_wd hw 24 rfl) (own_wd hw 25 rfl) (notFace_of_selects (args := #[]) (mvT w.2.2.1 (own_wd hw 27 rfl))) (own_wd hw 27 rfl) (own_wd hw 26 rfl) (own_wd hw 3 rfl) (own_wd hw 28 rfl) (by decide) own_pd4 rfl rfl at_143 rfl (W := 0) (Nat.le_of_eq rfl) (by decide) (by decide) (by decide) (by decide) (n := 146) rfl ?_
                rintro T h143 _ ⟨K143, c143_, rfl, gc143, V143⟩ X
                have ne_ad7_c143_ : ad7 ≠ c143_ := neOf F_39.lt gc143
                have ne_ad13_c143_ : ad13 ≠ c143_ := neOf F_40.lt gc143
                have ne_b72_c143_ : b72 ≠ c143_ := neOf F_42.lt gc143
                have ne_d72_c143_ : d72 ≠ c143_ := neOf F_44.lt gc143
                have F_46 := F_39.keep K143
                have F_47 := F_40.keep K143
                have F_48 := F_41.keep K143 nin0
                have F_49 := F_42.keep K143
                have F_50 := F_43.keep K143 nin0
                have F_51 := F_44.keep K143 nin0
                have F_52 := F_45.keep K143
                have F_53 := V140.keep K143 nin0
                refine gAstore X w at_146 rfl #[.val (.int p1), .val (.int p2), .val (.int p3), .val (.int p4), .val (.int p5), .val (.int (3 : Int32)), .val (.ref ad7), .val (.ref ad13), .val (.ref b72), .val (.int x85), .val (.ref c143_)] rfl (n := 148) rfl ?_
                refine gAload X w at_148 rfl rfl (n := 150) rfl ?_
                refine gAlen X w V143 (z := (3 : Int32)) rfl at_150 (n := 151) rfl ?_
                refine gIload X w at_151 rfl (n := 153) rfl ?_
                refine gIcmp_eq X w at_153 (n := 158) (n' := 156) (by decide) rfl rfl ?_ ?_
                · rintro ⟨c153, c153'⟩
                  refine gIload X w at_158 rfl (n := 160) rfl ?_
                  refine gIf_le X w at_160 (n := 174) (n' := 163) (by decide) rfl rfl ?_ ?_
                  · intro c160
                    exact absurd c160 (by decide)
                  · intro c160
                    refine gAload X w at_163 rfl rfl (n := 165) rfl ?_
                    refine gIconst X w at_165 (z := (0 : Int32)) rfl (n := 166) rfl ?_
                    refine gBaload X w V143 (by decide) rfl at_166 (n := 167) rfl ?_
                    refine gIloadN X w at_167 rfl (n := 168) rfl ?_
                    refine gI2b X w at_168 q26 (n := 169) rfl ?_
                    refine gIcmp_eq X w at_169 (n := 174) (n' := 172) (by decide) rfl rfl ?_ ?_
                    · rintro ⟨c169, c169'⟩
                      refine gIload X w at_174 rfl (n := 176) rfl ?_
                      refine gIconst X w at_176 (z := (1 : Int32)) rfl (n := 177) rfl ?_
                      refine gIcmp_le X w at_177 (n := 191) (n' := 180) (by decide) rfl rfl ?_ ?_
                      · intro c177
                        exact absurd c177 (by decide)
                      · intro c177
                        refine gAload X w at_180 rfl rfl (n := 182) rfl ?_
                        refine gIconst X w at_182 (z := (1 : Int32)) rfl (n := 183) rfl ?_
                        refine gBaload X w V143 (by decide) rfl at_183 (n := 184) rfl ?_
                        refine gIloadN X w at_184 rfl (n := 185) rfl ?_
                        refine gI2b X w at_185 q44 (n := 186) rfl ?_
                        refine gIcmp_eq X w at_186 (n := 191) (n' := 189) (by decide) rfl rfl ?_ ?_
                        · rintro ⟨c186, c186'⟩
                          refine gIload X w at_191 rfl (n := 193) rfl ?_
                          refine gIconst X w at_193 (z := (2 : Int32)) rfl (n := 194) rfl ?_
                          refine gIcmp_le X w at_194 (n := 208) (n' := 197) (by decide) rfl rfl ?_ ?_
                          · intro c194
                            exact absurd c194 (by decide)
                          · intro c194
                            refine gAload X w at_197 rfl rfl (n := 199) rfl ?_
                            refine gIconst X w at_199 (z := (2 : Int32)) rfl (n := 200) rfl ?_
                            refine gBaload X w V143 (by decide) rfl at_200 (n := 201) rfl ?_
                            refine gIloadN X w at_201 rfl (n := 202) rfl ?_
                            refine gI2b X w at_202 q62 (n := 203) rfl ?_
                            refine gIcmp_eq X w at_203 (n := 208) (n' := 206) (by decide) rfl rfl ?_ ?_
                            · rintro ⟨c203, c203'⟩
                              refine gAload X w at_208 rfl rfl (n := 210) rfl ?_
                              refine gAload X w at_210 rfl rfl (n := 212) rfl ?_
                              refine gCallSv X w [(.ref ad13)] [(.ref b72)] (own_of_3 l Z a0 hw ad13 x26 x44 x62 h143 n0 (Sd.le X) F_48 F_47 gz_x26 gz_x44 gz_x62) (own_wd hw 1 rfl) (own_wd hw 2 rfl) (own_wd hw 3 rfl) (own_wd hw 4 rfl) (by decide) own_pd3 rfl rfl at_212 rfl (W := 1) (Nat.le_of_eq rfl) (by decide) (by decide) (by decide) (by decide) (n := 215) rfl ?_
                              rintro T h212 _ ⟨K212, b212, d212, rfl, gb212, gd212, nbd212, A212, F212, V212, Ad212⟩ X
                              have ne_ad7_b212 : ad7 ≠ b212 := neOf F_46.lt gb212
                              have ne_ad13_b212 : ad13 ≠ b212 := neOf F_47.lt gb212
                              have ne_b72_b212 : b72 ≠ b212 := neOf F_49.lt gb212
                              have ne_d72_b212 : d72 ≠ b212 := neOf F_51.lt gb212
                              have ne_c143__b212 : c143_ ≠ b212 := neOf V143.lt gb212
                              have ne_ad7_d212 : ad7 ≠ d212 := neOf F_46.lt gd212
                              have ne_ad13_d212 : ad13 ≠ d212 := neOf F_47.lt gd212
                              have ne_b72_d212 : b72 ≠ d212 := neOf F_49.lt gd212
                              have ne_d72_d212 : d72 ≠ d212 := neOf F_51.lt gd212
                              have ne_c143__d212 : c143_ ≠ d212 := neOf V143.lt gd212
                              have F_54 := F_46.keep K212
                              have F_55 := F_47.keep K212
                              have F_56 := F_48.keep K212 nin0
                              have F_57 := F_49.keep K212
                              have F_58 := F_50.keep K212 nin0
                              have F_59 := F_51.keep K212 nin0
                              have F_60 := F_52.keep K212
                              have F_61 := F_53.keep K212 nin0
                              have F_62 := V143.keep K212 nin0
                              refine gCallVv X w [(.ref b212)] [] F_57 (own_eq_same_3 l Z a0 hw b72 b212 d72 d212 x26 x44 x62  h212 n0 (Sd.le X) F_57 A212 F_58 F212 F_59 V212  ne_d72_d212) (own_wd hw 29 rfl) (own_wd hw 30 rfl) (notFace_of_selects (args := #[]) (mvT w.2.2.1 (own_wd hw 32 rfl))) (own_wd hw 32 rfl) (own_wd hw 31 rfl) (own_wd hw 3 rfl) (own_wd hw 33 rfl) (by decide) own_pd5 rfl rfl at_215 rfl (W := 0) (Nat.le_of_eq rfl) (by decide) (by decide) (by decide) (by decide) (n := 218) rfl ?_
                              rintro T _ _ ⟨rfl, rfl⟩ X
                              refine gIf_ne X w at_218 (n := 223) (n' := 221) (by decide) rfl rfl ?_ ?_
                              · rintro ⟨c218, c218'⟩
                                refine gAload X w at_223 rfl rfl (n := 225) rfl ?_
                                refine gAload X w at_225 rfl rfl (n := 227) rfl ?_
                                refine gCallSv X w [(.ref ad7)] [(.ref b72)] (own_of_3 l Z a0 hw ad7 x103 x121 x139 h212 n0 (Sd.le X) F_61 F_54 gz_x103 gz_x121 gz_x139) (own_wd hw 1 rfl) (own_wd hw 2 rfl) (own_wd hw 3 rfl) (own_wd hw 4 rfl) (by decide) own_pd3 rfl rfl at_227 rfl (W := 1) (Nat.le_of_eq rfl) (by decide) (by decide) (by decide) (by decide) (n := 230) rfl ?_
                                rintro T h227 _ ⟨K227, b227, d227, rfl, gb227, gd227, nbd227, A227, F227, V227, Ad227⟩ X
                                have ne_ad7_b227 : ad7 ≠ b227 := neOf F_54.lt gb227
                                have ne_ad13_b227 : ad13 ≠ b227 := neOf F_55.lt gb227
                                have ne_b72_b227 : b72 ≠ b227 := neOf F_57.lt gb227
                                have ne_d72_b227 : d72 ≠ b227 := neOf F_59.lt gb227
                                have ne_c143__b227 : c143_ ≠ b227 := neOf F_62.lt gb227
                                have ne_b212_b227 : b212 ≠ b227 := neOf A212.lt gb227
                                have ne_d212_b227 : d212 ≠ b227 := neOf V212.lt gb227
                                have ne_ad7_d227 : ad7 ≠ d227 := neOf F_54.lt gd227
                                have ne_ad13_d227 : ad13 ≠ d227 := neOf F_55.lt gd227
                                have ne_b72_d227 : b72 ≠ d227 := neOf F_57.lt gd227
                                have ne_d72_d227 : d72 ≠ d227 := neOf F_59.lt gd227
                                have ne_c143__d227 : c143_ ≠ d227 := neOf F_62.lt gd227
                                have ne_b212_d227 : b212 ≠ d227 := neOf A212.lt gd227
                                have ne_d212_d227 : d212 ≠ d227 := neOf V212.lt gd227
                                have F_63 := F_54.keep K227
                                have F_64 := F_55.keep K227
                                have F_65 := F_56.keep K227 nin0
                                have F_66 := F_57.keep K227
                                have F_67 := F_58.keep K227 nin0
                                have F_68 := F_59.keep K227 nin0
                                have F_69 := F_60.keep K227
                                have F_70 := F_61.keep K227 nin0
                                have F_71 := F_62.keep K227 nin0
                                have F_72 := A212.keep K227
                                have F_73 := F212.keep K227 nin0
                                have F_74 := V212.keep K227 nin0
                                have F_75 := Ad212.keep K227
                                refine gCallVv X w [(.ref b227)] [] F_66 (own_eq_diff_3 l Z a0 hw b72 b227 d72 d227 x26 x44 x62 x103 x121 x139 h227 n0 (Sd.le X) F_66 A227 F_67 F227 F_68 V227 df ne_d72_d227) (own_wd hw 29 rfl) (own_wd hw 30 rfl) (notFace_of_selects (args := #[]) (mvT w.2.2.1 (own_wd hw 32 rfl))) (own_wd hw 32 rfl) (own_wd hw 31 rfl) (own_wd hw 3 rfl) (own_wd hw 33 rfl) (by decide) own_pd5 rfl rfl at_230 rfl (W := 0) (Nat.le_of_eq rfl) (by decide) (by decide) (by decide) (by decide) (n := 233) rfl ?_
                                rintro T _ _ ⟨rfl, rfl⟩ X
                                refine gIload X w at_233 rfl (n := 235) rfl ?_
                                refine gIf_ne X w at_235 (n := 242) (n' := 238) (by decide) rfl rfl ?_ ?_
                                · rintro ⟨c235, c235'⟩
                                  refine gIconst X w at_242 (z := (0 : Int32)) rfl (n := 243) rfl ?_
                                  refine gIcmp_eq X w at_243 (n := 248) (n' := 246) (by decide) rfl rfl ?_ ?_
                                  · rintro ⟨c243, c243'⟩
                                    refine gIconst X w at_248 (z := (1 : Int32)) rfl (n := 249) rfl ?_
                                    exact gRetZ X w rfl (Or.inr rfl) at_249 (by decide) (by decide) (rfl)
                                  · rintro ⟨c243, c243'⟩
                                    exact absurd c243 (by decide)
                                · rintro ⟨c235, c235'⟩
                                  exact absurd c235 (by decide)
                              · rintro ⟨c218, c218'⟩
                                exact absurd c218 (by decide)
                            · rintro ⟨c203, c203'⟩
                              exact absurd rfl c203
                        · rintro ⟨c186, c186'⟩
                          exact absurd rfl c186
                    · rintro ⟨c169, c169'⟩
                      exact absurd rfl c169
                · rintro ⟨c153, c153'⟩
                  exact absurd c153 (by decide)
set_option maxRecDepth 65536 in
set_option maxHeartbeats 40000000 in
theorem comes_1 {Post : Tables → Env → Array Value → State → Outcome → State → Prop} (hpost : ∀ tb e args s v u, (limb_1_1.after args s (.returned v) u = true ∧ limb_1_2.after args s (.returned v) u = true ∧ True) → FrameEnd s (.returned v) u (Jvm.fieldLocs frame_1_writes args s ++ Jvm.arrayLocs frame_1_arrays args s ++ Jvm.staticLocs frame_1_statics s) 32 128 → Post tb e args s (.returned v) u) :
    ArmFor flags0 classFile x code maxLocals ret World_1 tables_1 room_1 Calls_1 rest_1 Pre_1 Post := by
  intro l hfl _ _ p e ha hc hk s m args below hf hA hF happ hP
  obtain ⟨hcalls, hrest, hpre⟩ := hP
  obtain ⟨-, -, -, hnamed, -, -, -, hat⟩ := (Spec.applies_iff hf).mp happ
  obtain ⟨hg, hn⟩ := and_e (Cond.before_iff.mp (show (Jvm.Cond.and given_1 narrow_1).before args s = true from hpre))
  obtain ⟨hcnt, g0⟩ := and_e hg
  obtain ⟨w0, w1, w2, w3, w4, rfl⟩ : ∃ w0 w1 w2 w3 w4 : Value, args = #[w0, w1, w2, w3, w4] := by
    have hs : args.size = 5 := by simpa [Cond.value, given_1] using hcnt
    obtain ⟨L⟩ := args
    match L, hs with
    | [w0, w1, w2, w3, w4], _ => exact ⟨w0, w1, w2, w3, w4, rfl⟩
  have hw := fun d (hd : d ∈ tables_1) => atoms_spec (ws := Jvm.Cond.code x code maxLocals ret :: tables_1) hat d (List.mem_cons_of_mem _ hd)
  have hfit : Fit s := fun {y c} hc i hi => by
    obtain ⟨ha, rfl⟩ := Array.getElem?_eq_some_iff.mp hc
    have q := List.all_eq_true.mp ((Array.all_eq_true_iff_forall_mem.mp hF) _ (Array.getElem_mem ha)) i (List.mem_range.mpr hi)
    simpa [Array.getElem?_eq_getElem hi] using q
  obtain ⟨k0, g1⟩ := and_e g0
  obtain ⟨k1, g2⟩ := and_e g1
  obtain ⟨k2, g3⟩ := and_e g2
  obtain ⟨k3, g4⟩ := and_e g3
  obtain ⟨i0, e0⟩ := is_v k0
  obtain rfl : w0 = (.int i0) := Option.some.inj e0
  obtain ⟨i1, e1⟩ := is_v k1
  obtain rfl : w1 = (.int i1) := Option.some.inj e1
  obtain ⟨i2, e2⟩ := is_v k2
  obtain rfl : w2 = (.int i2) := Option.some.inj e2
  obtain ⟨i3, e3⟩ := is_v k3
  obtain rfl : w3 = (.int i3) := Option.some.inj e3
  obtain ⟨i4, e4⟩ := is_v g4
  obtain rfl : w4 = (.int i4) := Option.some.inj e4
  obtain ⟨n, o, h1, h2, h3, _, L, rfl, ⟨rfl, N⟩, hq⟩ := own_law l s _ hw i0 i1 i2 i3 i4 s.heap s.heap.size (Nat.le_refl _)  p e ha hc hk s m _ below hf ((Spec.applies_iff_loose hf).mp happ).1 ⟨rfl, State.Warmed39.refl s, rfl⟩ trivial
  refine ⟨n, _, h1, h2, h3, hpost _ _ _ _ _ _ ⟨Cond.after_iff.mpr rfl, Cond.after_iff.mpr (eq_i res_at (Term.int_eval (1)) rfl), trivial⟩ ⟨hq.1, hq.2.1, (hq.2.2.sift fun y hy => Or.inr (N y hy)).mono (by decide) (by decide)⟩⟩
theorem main_1_1 : Claimed_1_1 := comes_1 fun _ _ _ _ _ _ h hF => ⟨h.1, hF⟩
theorem main_1_2 : Claimed_1_2 := comes_1 fun _ _ _ _ _ _ h hF => ⟨h.2.1, hF⟩
end Jvm.Pilot.@@N@@
namespace Jvm.Pilot.@@N@@
open Jvm Jvm.ClassFile Sem Op Lib Jvm.Free Jvm.Stand Jvm.Pilot.@@N@@.Jvm.D
/-! MADE BY PROGRAM (witnessworld.py) out of the Statement's table words and the real class files: 11 classes; the members and pool entries that the words name. The judged class is class 1, her method 1. -/
namespace start1
open Jvm.ClassFile
def u (s : String) : CpInfo := .utf8 (stringToUtf16 s)
/-- a pool by its gaps: so many unusable entries, then the entry; so many at the end -/
def gap : Nat → List CpInfo → List CpInfo
  | 0, r => r
  | n + 1, r => .unusable :: gap n r
def poolList (es : List (Nat × CpInfo)) (last : Nat) : List CpInfo := es.foldr (fun e r => gap e.1 (e.2 :: r)) (gap last [])
def pool (es : List (Nat × CpInfo)) (last : Nat) : Array CpInfo := ⟨poolList es last⟩
def fileOf (pool : Array CpInfo) (this : Nat) (attrs : Array Attribute := #[]) (ms : Array MethodInfo := #[]) (fl : Nat := 33) (sup : Nat := 0) (ifs : Array Nat := #[]) (fds : Array FieldInfo := #[]) : ClassFile where
  minorVersion := 0
  majorVersion := 65
  constantPool := pool
  accessFlags := fl
  thisClass := this
  superClass := sup
  interfaces := ifs
  fields := fds
  methods := ms
  attributes := attrs
def plain (name : String) (sup : Option ClassId) : Class where
  name := name
  kind := .ordinary
  loader := none
  accessFlags := 33
  super := sup
  interfaces := #[]
  cf := none
  fields := #[]
  methods := #[]
  instanceTypes := #[]
  staticTypes := #[]
  resolved := #[]
  callSites := []
  init := .initialized
  statics := none
  mirror := none

def pool0 : Array CpInfo := pool [(5, u "<init>"), (0, u "()V"), (1, .class_ 10), (1, u "java/lang/Object"), (85, u "clone"), (0, u "()Ljava/lang/Object;")] 26

def k0c0 : Code := { maxStack := 0, maxLocals := 1, code := object_method_1_code, exceptionTable := #[], attributes := #[] }
def k0m0 : Method := { name := "<init>", desc := "()V", sig := { parameters := [], returnType := none }, accessFlags := 1, code := some k0c0 }
def k0m1 : Method := { name := "clone", desc := "()Ljava/lang/Object;", sig := { parameters := [], returnType := some (.object "java/lang/Object") }, accessFlags := 260, code := none }
/-- java/lang/Object -/
def k0 : Class := { plain "java/lang/Object" none with
  accessFlags := 33
  interfaces := #[]
  cf := some (fileOf pool0 8 #[] #[{ accessFlags := 1, nameIndex := 5, descriptorIndex := 6, attributes := #[] }, { accessFlags := 260, nameIndex := 96, descriptorIndex := 97, attributes := #[] }] 33 0 #[] #[])
  fields := #[]
  methods := #[k0m0, k0m1]
  instanceTypes := #[]
  staticTypes := #[]
  resolved := Array.replicate 124 none
  statics := none }

def pool1 : Array CpInfo := pool [(2, .class_ 4), (1, u "java/lang/Object"), (0, u "<init>"), (0, u "()V"), (0, .methodref 8 9), (0, .class_ 10), (0, .nameAndType 11 12), (0, u "com/example/cassalink/cassalink/row/Blob"), (0, u "of"), (0, u "([B)Lcom/example/cassalink/cassalink/row/Blob;"), (0, .methodref 8 14), (0, .nameAndType 15 16), (0, u "bytes"), (0, u "()[B"), (0, .methodref 8 18), (0, .nameAndType 19 20), (0, u "equals"), (0, u "(Ljava/lang/Object;)Z"), (0, .class_ 22), (0, u "com/example/cassalink/cassalink/row/BlobOfPinLaw"), (2, u "law"), (0, u "(IIIII)Z")] 5

def k1m0 : Method := { name := "<init>", desc := "()V", sig := { parameters := [], returnType := none }, accessFlags := 1, code := none }
def k1c1 : Code := { maxStack := 4, maxLocals := 11, code := code, exceptionTable := #[], attributes := #[] }
def k1m1 : Method := { name := "law", desc := "(IIIII)Z", sig := { parameters := [.int, .int, .int, .int, .int], returnType := some .boolean }, accessFlags := 9, code := some k1c1 }
/-- com/example/cassalink/cassalink/row/BlobOfPinLaw -/
def k1 : Class := { plain "com/example/cassalink/cassalink/row/BlobOfPinLaw" (some 0) with
  accessFlags := 49
  interfaces := #[]
  cf := some (fileOf pool1 21 #[] #[{ accessFlags := 1, nameIndex := 5, descriptorIndex := 6, attributes := #[] }, { accessFlags := 9, nameIndex := 25, descriptorIndex := 26, attributes := #[] }] 49 2 #[] #[])
  fields := #[]
  methods := #[k1m0, k1m1]
  instanceTypes := #[]
  staticTypes := #[]
  resolved := Array.replicate 32 none
  statics := none }

def pool2 : Array CpInfo := pool [(1, .methodref 2 3), (0, .class_ 4), (0, .nameAndType 5 6), (0, u "java/lang/Object"), (0, u "<init>"), (0, u "()V"), (0, .fieldref 8 9), (0, .class_ 10), (0, .nameAndType 11 12), (0, u "com/example/cassalink/cassalink/row/Blob"), (0, u "bytes"), (0, u "[B"), (0, .methodref 14 15), (0, .class_ 12), (0, .nameAndType 16 17), (0, u "clone"), (0, u "()Ljava/lang/Object;"), (0, .methodref 8 19), (0, .nameAndType 5 20), (0, u "([B)V"), (0, .methodref 22 23), (0, .class_ 24), (0, .nameAndType 25 26), (0, u "java/util/Arrays"), (0, u "equals"), (0, u "([B[B)Z"), (8, u "of"), (11, u "([B)Lcom/example/cassalink/cassalink/row/Blob;"), (0, u "()[B"), (0, u "(Ljava/lang/Object;)Z")] 21

def k2c0 : Code := { maxStack := 2, maxLocals := 2, code := prog_15_method_1_code, exceptionTable := #[], attributes := #[] }
def k2m0 : Method := { name := "<init>", desc := "([B)V", sig := { parameters := [(.array .byte)], returnType := none }, accessFlags := 2, code := some k2c0 }
def k2c1 : Code := { maxStack := 3, maxLocals := 1, code := prog_15_method_2_code, exceptionTable := #[], attributes := #[] }
def k2m1 : Method := { name := "of", desc := "([B)Lcom/example/cassalink/cassalink/row/Blob;", sig := { parameters := [(.array .byte)], returnType := some (.object "com/example/cassalink/cassalink/row/Blob") }, accessFlags := 9, code := some k2c1 }
def k2c2 : Code := { maxStack := 1, maxLocals := 1, code := prog_15_method_3_code, exceptionTable := #[], attributes := #[] }
def k2m2 : Method := { name := "bytes", desc := "()[B", sig := { parameters := [], returnType := some (.array .byte) }, accessFlags := 1, code := some k2c2 }
def k2c3 : Code := { maxStack := 2, maxLocals := 2, code := prog_15_method_4_code, exceptionTable := #[], attributes := #[] }
def k2m3 : Method := { name := "equals", desc := "(Ljava/lang/Object;)Z", sig := { parameters := [(.object "java/lang/Object")], returnType := some .boolean }, accessFlags := 1, code := some k2c3 }
/-- com/example/cassalink/cassalink/row/Blob -/
def k2 : Class := { plain "com/example/cassalink/cassalink/row/Blob" (some 0) with
  accessFlags := 49
  interfaces := #[]
  cf := some (fileOf pool2 8 #[] #[{ accessFlags := 2, nameIndex := 5, descriptorIndex := 20, attributes := #[] }, { accessFlags := 9, nameIndex := 35, descriptorIndex := 47, attributes := #[] }, { accessFlags := 1, nameIndex := 11, descriptorIndex := 48, attributes := #[] }, { accessFlags := 1, nameIndex := 25, descriptorIndex := 49, attributes := #[] }] 49 2 #[] #[{ accessFlags := 18, nameIndex := 11, descriptorIndex := 12, attributes := #[] }])
  fields := #[{ name := "bytes", type := (.array .byte), accessFlags := 18, slot := 0, constantValue := 0 }]
  methods := #[k2m0, k2m1, k2m2, k2m3]
  instanceTypes := #[(.array .byte)]
  staticTypes := #[]
  resolved := Array.replicate 71 none
  statics := none }

def pool3 : Array CpInfo := pool [(1, .class_ 2), (0, u "java/lang/Cloneable"), (0, .class_ 4), (0, u "java/lang/Object")] 2

/-- java/lang/Cloneable -/
def k3 : Class := { plain "java/lang/Cloneable" (some 0) with
  accessFlags := 1537
  interfaces := #[]
  cf := some (fileOf pool3 1 #[] #[] 1537 3 #[] #[])
  fields := #[]
  methods := #[]
  instanceTypes := #[]
  staticTypes := #[]
  resolved := Array.replicate 7 none
  statics := none }

def pool4 : Array CpInfo := pool [(2, .class_ 4), (1, u "java/lang/Object"), (0, u "<init>"), (0, u "()V"), (7, .class_ 16), (1, u "java/util/Arrays"), (57, .class_ 76), (1, u "java/util/Arrays$NaturalOrder"), (36, .class_ 115), (1, u "java/util/Arrays$LegacyMergeSort"), (1, u "Z"), (128, .class_ 248), (1, u "jdk/internal/util/ArraysSupport"), (0, u "mismatch"), (22, .methodref 246 273), (0, .nameAndType 249 274), (0, u "([B[BI)I"), (23, u "equals"), (76, .class_ 376), (0, u "java/util/Arrays$ArrayList"), (68, u "$assertionsDisabled"), (9, u "([B[B)Z"), (259, u "MIN_ARRAY_SORT_GRAN"), (0, u "I"), (2, u "INSERTIONSORT_THRESHOLD"), (255, .class_ 976), (0, u "java/util/Arrays$ArrayItr")] 52

def k4m0 : Method := { name := "<init>", desc := "()V", sig := { parameters := [], returnType := none }, accessFlags := 2, code := none }
def k4c1 : Code := { maxStack := 3, maxLocals := 3, code := jdk_65_method_89_code, exceptionTable := #[], attributes := #[] }
def k4m1 : Method := { name := "equals", desc := "([B[B)Z", sig := { parameters := [(.array .byte), (.array .byte)], returnType := some .boolean }, accessFlags := 9, code := some k4c1 }
/-- java/util/Arrays -/
def k4 : Class := { plain "java/util/Arrays" (some 0) with
  accessFlags := 49
  interfaces := #[]
  cf := some (fileOf pool4 14 #[.nestMembers #[975, 375, 113, 74]] #[{ accessFlags := 2, nameIndex := 5, descriptorIndex := 6, attributes := #[] }, { accessFlags := 9, nameIndex := 298, descriptorIndex := 455, attributes := #[] }] 49 2 #[] #[{ accessFlags := 26, nameIndex := 715, descriptorIndex := 716, attributes := #[] }, { accessFlags := 26, nameIndex := 719, descriptorIndex := 716, attributes := #[] }, { accessFlags := 4120, nameIndex := 445, descriptorIndex := 117, attributes := #[] }])
  fields := #[{ name := "MIN_ARRAY_SORT_GRAN", type := .int, accessFlags := 26, slot := 0, constantValue := 0 }, { name := "INSERTIONSORT_THRESHOLD", type := .int, accessFlags := 26, slot := 1, constantValue := 0 }, { name := "$assertionsDisabled", type := .boolean, accessFlags := 4120, slot := 2, constantValue := 0 }]
  methods := #[k4m0, k4m1]
  instanceTypes := #[]
  staticTypes := #[.int, .int, .boolean]
  resolved := Array.replicate 1029 none
  statics := none }

def pool5 : Array CpInfo := pool [(9, u "<init>"), (6, .class_ 18), (1, u "java/lang/Object"), (0, u "()V"), (1, .class_ 23), (1, u "jdk/internal/util/ArraysSupport"), (0, u "LOG2_ARRAY_LONG_INDEX_SCALE"), (0, u "I"), (2, u "U"), (0, u "Ljdk/internal/misc/Unsafe;"), (8, u "BIG_ENDIAN"), (0, u "Z"), (8, u "LOG2_BYTE_BIT_SIZE"), (4, u "LOG2_ARRAY_INT_INDEX_SCALE"), (54, u "JLA"), (0, u "Ljdk/internal/access/JavaLangAccess;"), (11, u "LOG2_ARRAY_BOOLEAN_INDEX_SCALE"), (9, u "LOG2_ARRAY_BYTE_INDEX_SCALE"), (5, u "LOG2_ARRAY_CHAR_INDEX_SCALE"), (5, u "LOG2_ARRAY_SHORT_INDEX_SCALE"), (5, u "mismatch"), (12, u "LOG2_ARRAY_FLOAT_INDEX_SCALE"), (24, u "LOG2_ARRAY_DOUBLE_INDEX_SCALE"), (89, u "T_BOOLEAN"), (2, u "T_CHAR"), (1, u "T_FLOAT"), (1, u "T_DOUBLE"), (1, u "T_BYTE"), (1, u "T_SHORT"), (1, u "T_INT"), (1, u "T_LONG"), (1, u "SOFT_MAX_ARRAY_LENGTH"), (41, u "([B[BI)I")] 41

def k5m0 : Method := { name := "<init>", desc := "()V", sig := { parameters := [], returnType := none }, accessFlags := 2, code := none }
def k5c1 : Code := { maxStack := 8, maxLocals := 4, code := jdk_48_method_13_code, exceptionTable := #[], attributes := #[] }
def k5m1 : Method := { name := "mismatch", desc := "([B[BI)I", sig := { parameters := [(.array .byte), (.array .byte), .int], returnType := some .int }, accessFlags := 9, code := some k5c1 }
/-- jdk/internal/util/ArraysSupport -/
def k5 : Class := { plain "jdk/internal/util/ArraysSupport" (some 0) with
  accessFlags := 33
  interfaces := #[]
  cf := some (fileOf pool5 21 #[] #[{ accessFlags := 2, nameIndex := 9, descriptorIndex := 19, attributes := #[] }, { accessFlags := 9, nameIndex := 149, descriptorIndex := 336, attributes := #[] }] 33 16 #[] #[{ accessFlags := 24, nameIndex := 28, descriptorIndex := 29, attributes := #[] }, { accessFlags := 26, nameIndex := 38, descriptorIndex := 39, attributes := #[] }, { accessFlags := 25, nameIndex := 121, descriptorIndex := 25, attributes := #[] }, { accessFlags := 25, nameIndex := 131, descriptorIndex := 25, attributes := #[] }, { accessFlags := 25, nameIndex := 137, descriptorIndex := 25, attributes := #[] }, { accessFlags := 25, nameIndex := 143, descriptorIndex := 25, attributes := #[] }, { accessFlags := 25, nameIndex := 53, descriptorIndex := 25, attributes := #[] }, { accessFlags := 25, nameIndex := 24, descriptorIndex := 25, attributes := #[] }, { accessFlags := 25, nameIndex := 162, descriptorIndex := 25, attributes := #[] }, { accessFlags := 25, nameIndex := 187, descriptorIndex := 25, attributes := #[] }, { accessFlags := 26, nameIndex := 48, descriptorIndex := 25, attributes := #[] }, { accessFlags := 25, nameIndex := 277, descriptorIndex := 25, attributes := #[] }, { accessFlags := 25, nameIndex := 280, descriptorIndex := 25, attributes := #[] }, { accessFlags := 25, nameIndex := 282, descriptorIndex := 25, attributes := #[] }, { accessFlags := 25, nameIndex := 284, descriptorIndex := 25, attributes := #[] }, { accessFlags := 25, nameIndex := 286, descriptorIndex := 25, attributes := #[] }, { accessFlags := 25, nameIndex := 288, descriptorIndex := 25, attributes := #[] }, { accessFlags := 25, nameIndex := 290, descriptorIndex := 25, attributes := #[] }, { accessFlags := 25, nameIndex := 292, descriptorIndex := 25, attributes := #[] }, { accessFlags := 26, nameIndex := 108, descriptorIndex := 109, attributes := #[] }, { accessFlags := 25, nameIndex := 294, descriptorIndex := 25, attributes := #[] }])
  fields := #[{ name := "U", type := (.object "jdk/internal/misc/Unsafe"), accessFlags := 24, slot := 0, constantValue := 0 }, { name := "BIG_ENDIAN", type := .boolean, accessFlags := 26, slot := 1, constantValue := 0 }, { name := "LOG2_ARRAY_BOOLEAN_INDEX_SCALE", type := .int, accessFlags := 25, slot := 2, constantValue := 0 }, { name := "LOG2_ARRAY_BYTE_INDEX_SCALE", type := .int, accessFlags := 25, slot := 3, constantValue := 0 }, { name := "LOG2_ARRAY_CHAR_INDEX_SCALE", type := .int, accessFlags := 25, slot := 4, constantValue := 0 }, { name := "LOG2_ARRAY_SHORT_INDEX_SCALE", type := .int, accessFlags := 25, slot := 5, constantValue := 0 }, { name := "LOG2_ARRAY_INT_INDEX_SCALE", type := .int, accessFlags := 25, slot := 6, constantValue := 0 }, { name := "LOG2_ARRAY_LONG_INDEX_SCALE", type := .int, accessFlags := 25, slot := 7, constantValue := 0 }, { name := "LOG2_ARRAY_FLOAT_INDEX_SCALE", type := .int, accessFlags := 25, slot := 8, constantValue := 0 }, { name := "LOG2_ARRAY_DOUBLE_INDEX_SCALE", type := .int, accessFlags := 25, slot := 9, constantValue := 0 }, { name := "LOG2_BYTE_BIT_SIZE", type := .int, accessFlags := 26, slot := 10, constantValue := 0 }, { name := "T_BOOLEAN", type := .int, accessFlags := 25, slot := 11, constantValue := 0 }, { name := "T_CHAR", type := .int, accessFlags := 25, slot := 12, constantValue := 0 }, { name := "T_FLOAT", type := .int, accessFlags := 25, slot := 13, constantValue := 0 }, { name := "T_DOUBLE", type := .int, accessFlags := 25, slot := 14, constantValue := 0 }, { name := "T_BYTE", type := .int, accessFlags := 25, slot := 15, constantValue := 0 }, { name := "T_SHORT", type := .int, accessFlags := 25, slot := 16, constantValue := 0 }, { name := "T_INT", type := .int, accessFlags := 25, slot := 17, constantValue := 0 }, { name := "T_LONG", type := .int, accessFlags := 25, slot := 18, constantValue := 0 }, { name := "JLA", type := (.object "jdk/internal/access/JavaLangAccess"), accessFlags := 26, slot := 19, constantValue := 0 }, { name := "SOFT_MAX_ARRAY_LENGTH", type := .int, accessFlags := 25, slot := 20, constantValue := 0 }]
  methods := #[k5m0, k5m1]
  instanceTypes := #[]
  staticTypes := #[(.object "jdk/internal/misc/Unsafe"), .boolean, .int, .int, .int, .int, .int, .int, .int, .int, .int, .int, .int, .int, .int, .int, .int, .int, .int, (.object "jdk/internal/access/JavaLangAccess"), .int]
  resolved := Array.replicate 378 none
  statics := none }

def pool6 : Array CpInfo := pool [(1, u "java/io/Serializable"), (0, .class_ 1), (0, u "java/lang/Object"), (0, .class_ 3)] 3

/-- java/io/Serializable -/
def k6 : Class := { plain "java/io/Serializable" (some 0) with
  accessFlags := 1537
  interfaces := #[]
  cf := some (fileOf pool6 2 #[] #[] 1537 4 #[] #[])
  fields := #[]
  methods := #[]
  instanceTypes := #[]
  staticTypes := #[]
  resolved := Array.replicate 8 none
  statics := none }

/-- the primitive byte -/
def k7 : Class := { plain "byte" none with kind := .primitive 'B', accessFlags := 0x411 }
/-- [B -/
def k8 : Class := { plain "[B" (some 0) with kind := .array 7 .byte, interfaces := #[3, 6], accessFlags := 1041 }

/-- the primitive int -/
def k9 : Class := { plain "int" none with kind := .primitive 'I', accessFlags := 0x411 }
/-- [I -/
def k10 : Class := { plain "[I" (some 0) with kind := .array 9 .int, interfaces := #[3, 6], accessFlags := 1041 }

def heap : Heap := #[]
def classes : Array Class := #[k0, k1, k2, k3, k4, k5, k6, k7, k8, k9, k10]
def interned : List (Array UInt16 × Addr) := []
def slotsUsed : Nat := 0
def theMethod : MethodId := ⟨1, 1⟩
def args0 : Array Value := #[.int 7, .int 300, .int 7, .int 9, .int 11]
def aboutOver (below : List Frame) : State where
  vm := { classes := classes, interned := interned.toArray }
  heap := heap
  slotsUsed := slotsUsed
  threads := #[{ frames := .invoking theMethod args0 :: below }]
def below0 : List Frame := [.native { method := ⟨0, 0⟩, args := #[] }]
def about1 : State := aboutOver below0
def p0 : Program := .bare "" "" ""
def e0 : Env := launch0.env 0 0 0
theorem w_frames : about1.frames = Frame.invoking theMethod args0 :: below0 := rfl
set_option maxRecDepth 65536 in
theorem w_args : argsFit about1.vm theMethod args0 = true := by decide +kernel
set_option maxRecDepth 65536 in
theorem w_heap : heapFits about1 = true := by decide +kernel
set_option maxRecDepth 65536 in
theorem w_runnable : about1.curStatus? = some .runnable := by decide +kernel
set_option maxRecDepth 65536 in
theorem w_alone : about1.alone = true := by decide +kernel
set_option maxRecDepth 65536 in
theorem w_named : about1.methodNamed? x = some theMethod := by decide +kernel
set_option maxRecDepth 65536 in
theorem w_hears : about1.hears theMethod below0 = true := by decide +kernel
set_option maxRecDepth 65536 in
theorem w_ripe : about1.ripe theMethod args0 below0 = true := by decide +kernel
theorem w_running : about1.status = .running := rfl
set_option maxRecDepth 65536 in
theorem w_room : about1.hasRoom e0.platform room_1 = true :=
  launch0.hasRoom_least _ room_1 (by decide +kernel) (by decide +kernel) (by decide +kernel) (by decide +kernel) (by decide +kernel) (by decide +kernel)
theorem allAtoms_all (ts : List Jvm.Cond) (a : Array Jvm.Value) (st : Jvm.State) : (allAtoms ts).before a st = ts.all (fun c => c.before a st) := by
  induction ts with
  | nil => rfl
  | cons c t ih =>
    show (Jvm.Cond.and c (allAtoms t)).before a st = _
    rw [Jvm.Cond.before_and, ih, List.all_cons]
def words1 : List Jvm.Cond := Jvm.Cond.code x code maxLocals ret :: tables_1
/-- a 'code' word, met by the world's own term for the bytes: nothing is compared byte by byte -/
theorem code_word {y : MethodName} {bytes : ByteArray} {mx : Nat} {rt : Option FieldType} {a : Array Value} {s : State} {m : MethodId} {meth : Method} {c : Code} (h1 : s.methodNamed? y = some m) (h2 : s.vm.method? m = some meth) (h3 : meth.code = some c) (h4 : c.code = bytes)
    (h5 : (c.maxLocals == mx && c.exceptionTable.isEmpty && decide (c.maxStack ≤ mostOperands) && decide (meth.sig.returnType = rt) && !meth.locks && decide (parseMethodDescriptor y.desc = some meth.sig)) = true) : (Jvm.Cond.code y bytes mx rt).before a s = true := by
  simp only [Bool.and_eq_true, beq_iff_eq, Bool.not_eq_true', decide_eq_true_eq] at h5
  obtain ⟨⟨⟨⟨⟨g1, g2⟩, g3⟩, g4⟩, g5⟩, g6⟩ := h5
  simp [Cond.before, Cond.holds, Cond.value, h1, h2, h3, h4, g1, g2, g3, g4, g5, g6]
def isCode : Jvm.Cond → Bool
  | .code _ _ _ _ => true
  | _ => false
theorem all_split {L : List Jvm.Cond} {P : Jvm.Cond → Bool} (h1 : L.all (fun c => isCode c || P c) = true) (h2 : ∀ c ∈ L.filter isCode, P c = true) : L.all P = true := by
  refine List.all_eq_true.mpr fun c hc => ?_
  have h := List.all_eq_true.mp h1 c hc
  rcases Bool.eq_false_or_eq_true (isCode c) with hi | hi
  · exact h2 c (List.mem_filter.mpr ⟨hc, hi⟩)
  · simpa [hi] using h
set_option maxRecDepth 65536 in
theorem w_c0 : (Jvm.Cond.code x code maxLocals ret).before args0 about1 = true := code_word (m := ⟨1, 1⟩) (meth := k1m1) (c := k1c1) (by decide +kernel) rfl rfl rfl (by decide +kernel)
set_option maxRecDepth 65536 in
theorem w_c1 : (Jvm.Cond.code ({ cls := "com/example/cassalink/cassalink/row/Blob", name := "of", desc := "([B)Lcom/example/cassalink/cassalink/row/Blob;" } : Jvm.MethodName) prog_15_method_2_code (1 : Nat) (Option.some (Jvm.ClassFile.FieldType.object "com/example/cassalink/cassalink/row/Blob"))).before args0 about1 = true := code_word (m := ⟨2, 1⟩) (meth := k2m1) (c := k2c1) (by decide +kernel) rfl rfl rfl (by decide +kernel)
set_option maxRecDepth 65536 in
theorem w_c2 : (Jvm.Cond.code ({ cls := "com/example/cassalink/cassalink/row/Blob", name := "<init>", desc := "([B)V" } : Jvm.MethodName) prog_15_method_1_code (2 : Nat) (Option.none : Option Jvm.ClassFile.FieldType)).before args0 about1 = true := code_word (m := ⟨2, 0⟩) (meth := k2m0) (c := k2c0) (by decide +kernel) rfl rfl rfl (by decide +kernel)
set_option maxRecDepth 65536 in
theorem w_c3 : (Jvm.Cond.code ({ cls := "java/lang/Object", name := "<init>", desc := "()V" } : Jvm.MethodName) object_method_1_code (1 : Nat) (Option.none : Option Jvm.ClassFile.FieldType)).before args0 about1 = true := code_word (m := ⟨0, 0⟩) (meth := k0m0) (c := k0c0) (by decide +kernel) rfl rfl rfl (by decide +kernel)
set_option maxRecDepth 65536 in
theorem w_c4 : (Jvm.Cond.code ({ cls := "com/example/cassalink/cassalink/row/Blob", name := "bytes", desc := "()[B" } : Jvm.MethodName) prog_15_method_3_code (1 : Nat) (Option.some (Jvm.ClassFile.FieldType.array Jvm.ClassFile.FieldType.byte))).before args0 about1 = true := code_word (m := ⟨2, 2⟩) (meth := k2m2) (c := k2c2) (by decide +kernel) rfl rfl rfl (by decide +kernel)
set_option maxRecDepth 65536 in
theorem w_c5 : (Jvm.Cond.code ({ cls := "com/example/cassalink/cassalink/row/Blob", name := "equals", desc := "(Ljava/lang/Object;)Z" } : Jvm.MethodName) prog_15_method_4_code (2 : Nat) (Option.some Jvm.ClassFile.FieldType.boolean)).before args0 about1 = true := code_word (m := ⟨2, 3⟩) (meth := k2m3) (c := k2c3) (by decide +kernel) rfl rfl rfl (by decide +kernel)
set_option maxRecDepth 65536 in
theorem w_c6 : (Jvm.Cond.code ({ cls := "java/util/Arrays", name := "equals", desc := "([B[B)Z" } : Jvm.MethodName) jdk_65_method_89_code (3 : Nat) (Option.some Jvm.ClassFile.FieldType.boolean)).before args0 about1 = true := code_word (m := ⟨4, 1⟩) (meth := k4m1) (c := k4c1) (by decide +kernel) rfl rfl rfl (by decide +kernel)
set_option maxRecDepth 65536 in
theorem w_c7 : (Jvm.Cond.code ({ cls := "jdk/internal/util/ArraysSupport", name := "mismatch", desc := "([B[BI)I" } : Jvm.MethodName) jdk_48_method_13_code (4 : Nat) (Option.some Jvm.ClassFile.FieldType.int)).before args0 about1 = true := code_word (m := ⟨5, 1⟩) (meth := k5m1) (c := k5c1) (by decide +kernel) rfl rfl rfl (by decide +kernel)
def codes1 : List Jvm.Cond := [Jvm.Cond.code x code maxLocals ret, Jvm.Cond.code ({ cls := "com/example/cassalink/cassalink/row/Blob", name := "of", desc := "([B)Lcom/example/cassalink/cassalink/row/Blob;" } : Jvm.MethodName) prog_15_method_2_code (1 : Nat) (Option.some (Jvm.ClassFile.FieldType.object "com/example/cassalink/cassalink/row/Blob")), Jvm.Cond.code ({ cls := "com/example/cassalink/cassalink/row/Blob", name := "<init>", desc := "([B)V" } : Jvm.MethodName) prog_15_method_1_code (2 : Nat) (Option.none : Option Jvm.ClassFile.FieldType), Jvm.Cond.code ({ cls := "java/lang/Object", name := "<init>", desc := "()V" } : Jvm.MethodName) object_method_1_code (1 : Nat) (Option.none : Option Jvm.ClassFile.FieldType), Jvm.Cond.code ({ cls := "com/example/cassalink/cassalink/row/Blob", name := "bytes", desc := "()[B" } : Jvm.MethodName) prog_15_method_3_code (1 : Nat) (Option.some (Jvm.ClassFile.FieldType.array Jvm.ClassFile.FieldType.byte)), Jvm.Cond.code ({ cls := "com/example/cassalink/cassalink/row/Blob", name := "equals", desc := "(Ljava/lang/Object;)Z" } : Jvm.MethodName) prog_15_method_4_code (2 : Nat) (Option.some Jvm.ClassFile.FieldType.boolean), Jvm.Cond.code ({ cls := "java/util/Arrays", name := "equals", desc := "([B[B)Z" } : Jvm.MethodName) jdk_65_method_89_code (3 : Nat) (Option.some Jvm.ClassFile.FieldType.boolean), Jvm.Cond.code ({ cls := "jdk/internal/util/ArraysSupport", name := "mismatch", desc := "([B[BI)I" } : Jvm.MethodName) jdk_48_method_13_code (4 : Nat) (Option.some Jvm.ClassFile.FieldType.int)]
set_option maxRecDepth 65536 in
theorem codes_eq : words1.filter isCode = codes1 := rfl
theorem w_codes : ∀ c ∈ words1.filter isCode, c.before args0 about1 = true := by
  rw [codes_eq]
  intro c hc
  simp only [codes1, List.mem_cons, List.not_mem_nil, or_false] at hc
  rcases hc with rfl | rfl | rfl | rfl | rfl | rfl | rfl | rfl
  · exact w_c0
  · exact w_c1
  · exact w_c2
  · exact w_c3
  · exact w_c4
  · exact w_c5
  · exact w_c6
  · exact w_c7
set_option maxRecDepth 65536 in
theorem w_t1 : (words1.take 24).all (fun c => isCode c || c.before args0 about1) = true := by decide +kernel
set_option maxRecDepth 65536 in
theorem w_t2 : (words1.drop 24).all (fun c => isCode c || c.before args0 about1) = true := by decide +kernel
theorem w_tables : (allAtoms (Jvm.Cond.code x code maxLocals ret :: tables_1)).before args0 about1 = true := by
  rw [allAtoms_all]
  show words1.all (fun c => c.before args0 about1) = true
  refine all_split ?_ w_codes
  rw [← List.take_append_drop 24 words1, List.all_append, w_t1, w_t2]
  rfl
set_option maxRecDepth 65536 in
theorem w_case : (Jvm.Cond.and given_1 narrow_1).before args0 about1 = true := by decide +kernel
theorem w_applies : (headSpec (Jvm.Cond.code x code maxLocals ret :: tables_1) room_1).applies x e0.platform about1 = true :=
  (Spec.applies_iff w_frames).mpr ⟨w_running, w_runnable, w_alone, w_named, w_hears, w_ripe, w_room, w_tables⟩
theorem atStart : AtStart classFile x code maxLocals ret World_1 tables_1 room_1 Calls_1 rest_1 Pre_1 launch0 p0 e0 about1 theMethod args0 below0 :=
  ⟨lists_1, trivial, launch0.admits_env _ _ _, launch0.least_env, fairChoices_fair.cas, fairChoices_fair.clock, w_frames, w_args, w_heap, w_applies, trivial, trivial, w_case⟩
end start1
theorem witness_1 : WitnessClaimed_1 := ⟨start1.p0, start1.e0, start1.about1, start1.theMethod, start1.args0, start1.below0, start1.atStart⟩
end Jvm.Pilot.@@N@@
