import JvmDerived
import JvmDerived.Pilot.@@N@@Statement
import JvmDerived.Pilot.@@N@@Code
set_option linter.unusedVariables false
set_option linter.unusedSimpArgs false
namespace Jvm.OwnWalk
open Sem ClassFile Op Lib Jvm.Stand Jvm.Free Jvm.LawKit Jvm.RoadKit
/-- where a run stands: the library's Stand, its written places new, its heap -/
def Sd (p : Program) (l : Launch) (e : Env) (R : Room) (s : State) (m : MethodId) (args : Array Value) (below : List Frame) (meth : Method) (c : Code) (n0 : Nat) (T : State) (h : Heap) (cells slots : Nat) : Prop :=
  ∃ (locs : List Loc) (vm0 : Vm) (k0 : Nat), Stand p l e R (s.setVm vm0) m args below meth c T locs cells slots ∧ Fr n0 locs ∧ T.heap = h ∧ n0 ≤ s.heap.size ∧ s.Since vm0 k0 ∧ k0 ≤ h.size
/-- what stays through a walk -/
def Cx (Z : State) (own nm : String) (bytes : ByteArray) (maxL : Nat) (ret : Option FieldType) (p : Program) (s : State) (m : MethodId) (meth : Method) (c : Code) : Prop :=
  p.tables.exec = Jvm.exec ∧ c.code = bytes ∧ Z.Warmed39 s.vm ∧ s.vm.findClass own = some m.cls ∧ meth.name = nm ∧ c.maxLocals = maxL ∧ meth.sig.returnType = ret ∧ meth.locks = false
/-- from A the body returns, and P holds of what it returns and of the heap -/
def Gl (p : Program) (e : Env) (below : List Frame) (s : State) (n0 : Nat) (P : Option Value → Heap → Prop) (C S : Nat) (A : State) : Prop :=
  ∃ t o, Steps p.tables e below A t ∧ t.status = .running ∧ Ended t below o ∧ ∃ v L, o = .returned v ∧ (P v t.heap ∧ Fr n0 L) ∧ ReturnedEndW s o t L C S
/-- a method's contract -/
def Con (l : Launch) (Z : State) (y : MethodName) (bytes : ByteArray) (maxL : Nat) (ret : Option FieldType) (ws : List Jvm.Cond) (rm : Room) (C S : Nat) (as' : Array Value) (h0 : Heap) (n0 : Nat) (P : Option Value → Heap → Prop) : Prop :=
  MetFree l y (head1 (Jvm.Cond.code y bytes maxL ret :: ws) rm) (fun a U => a = as' ∧ Z.Warmed39 U.vm ∧ U.heap = h0) (fun _ _ _ _ _ => True) (fun _ U o U' => ∃ v L, o = .returned v ∧ (P v U'.heap ∧ Fr n0 L) ∧ ReturnedEndW U o U' L C S)
theorem Con.met {l : Launch} {Z : State} {y : MethodName} {bytes : ByteArray} {maxL : Nat} {ret : Option FieldType} {ws : List Jvm.Cond} {rm : Room} {C S : Nat} {as' : Array Value} {h0 : Heap} {n0 : Nat} {P : Option Value → Heap → Prop} (h : Con l Z y bytes maxL ret ws rm C S as' h0 n0 P) :
  MetFree l y (head1 (Jvm.Cond.code y bytes maxL ret :: ws) rm) (fun a U => a = as' ∧ Z.Warmed39 U.vm ∧ U.heap = h0) (fun _ _ _ _ _ => True) (fun _ U o U' => ∃ v L, o = .returned v ∧ (P v U'.heap ∧ Fr n0 L) ∧ ReturnedEndW U o U' L C S) := h
theorem Con.of {l : Launch} {Z : State} {y : MethodName} {bytes : ByteArray} {maxL : Nat} {ret : Option FieldType} {ws : List Jvm.Cond} {rm : Room} {C S : Nat} {as' : Array Value} {h0 : Heap} {n0 : Nat} {P : Option Value → Heap → Prop} (hpl : plainFor y = true) (hn : n0 ≤ h0.size)
    (hb : ∀ p e s m below meth c T, Cx Z y.cls y.name bytes maxL ret p s m meth c → Sd p l e rm s m as' below meth c n0 T h0 0 0 → Gl p e below s n0 P C S (T.setTop (entryFrame m as' maxL))) : Con l Z y bytes maxL ret ws rm C S as' h0 n0 P := by
  refine MetFree.of_bodySF hpl hisR ?_
  intro p e s m args below meth c s₁ Bd hml0 hP hK
  obtain ⟨rfl, hZ, hh⟩ := hP
  have hlk : meth.locks = false := Bd.notSynchronized
  exact hb p e s m below meth c s₁ ⟨Bd.exec, Bd.bytes, hZ, findClass_of_methodNamed Bd.named, (name_of_methodNamed Bd.named Bd.method).1, hml0, Bd.returns, hlk⟩ ⟨[], s.vm, 0, Stand.of_body Bd, Fr.nil n0, by rw [← hh, Bd.state]; rfl, by rw [hh]; exact hn, (State.WarmedH.refl s).since 0, Nat.zero_le _⟩
/-- the contract of a method that returns a value; of one that returns nothing -/
abbrev ConV (l : Launch) (Z : State) (y : MethodName) (bytes : ByteArray) (maxL : Nat) (ret : Option FieldType) (rm : Room) (as' : Array Value) (h0 : Heap) (n0 : Nat) (Q : Value → Heap → Prop) : Prop := Con l Z y bytes maxL ret [] rm rm.cells rm.slots as' h0 n0 (fun r h => ∃ v, r = some v ∧ Q v h)
abbrev ConN (l : Launch) (Z : State) (y : MethodName) (bytes : ByteArray) (maxL : Nat) (rm : Room) (as' : Array Value) (h0 : Heap) (n0 : Nat) (Q : Heap → Prop) : Prop := Con l Z y bytes maxL none [] rm rm.cells rm.slots as' h0 n0 (fun r h => r = none ∧ Q h)
section Walk
variable {p : Program} {l : Launch} {e : Env} {R : Room} {s : State} {m : MethodId} {args : Array Value} {below : List Frame} {meth : Method} {c : Code} {T A B : State} {h : Heap} {cells slots n0 C S : Nat} {P : Option Value → Heap → Prop}
variable {Z : State} {a0 : Array Value} {own nm : String} {bytes : ByteArray} {maxL : Nat} {ret : Option FieldType}
variable {pc n : Nat} {ls : Array Slot} {st : List Value}
theorem Gl.of (hst : ∀ t, Steps p.tables e below B t → Steps p.tables e below A t) (k : Gl p e below s n0 P C S B) : Gl p e below s n0 P C S A := by
  obtain ⟨t, o, h1, r⟩ := k; exact ⟨t, o, hst t h1, r⟩
theorem Sd.le (X : Sd p l e R s m args below meth c n0 T h cells slots) : n0 ≤ h.size := by
  obtain ⟨_, _, _, X, -, eh, hn, -⟩ := X
  have q : s.heap.size ≤ T.heap.size := X.same.2.1
  rw [← eh]; omega
theorem Gl.enter {as' : Array Value} (ef : entryFrame m as' maxL = mkF m 0 ls []) (k : Gl p e below s n0 P C S (T.setTop (mkF m 0 ls []))) : Gl p e below s n0 P C S (T.setTop (entryFrame m as' maxL)) := by rw [ef]; exact k
theorem gIload (X : Sd p l e R s m args below meth c n0 T h cells slots) (w : Cx Z own nm bytes maxL ret p s m meth c) {k : Nat} {v : Int32} (hd : decode bytes pc = .ok (.iload k, 2)) (hl : ls[k]? = some (.val (.int v))) (hn : pc + 2 = n) (K : Gl p e below s n0 P C S (T.setTop (mkF m n ls (.int v :: st)))) : Gl p e below s n0 P C S (T.setTop (mkF m pc ls st)) := by
  obtain ⟨_, vm0, k0, X, -, -, -, hS, -⟩ := X; obtain ⟨hx, hby, hZ, hown, -⟩ := w; have hZ := State.Warmed39.trans hZ hS.1; have hown := (hS.1.alike.findClass _ _).trans hown; subst hn
  exact Gl.of (fun t k => XS.iload X.here hx rfl (hb hby hd) hl k) K
theorem gIloadN (X : Sd p l e R s m args below meth c n0 T h cells slots) (w : Cx Z own nm bytes maxL ret p s m meth c) {k : Fin 4} {v : Int32} (hd : decode bytes pc = .ok (.iload_n k, 1)) (hl : ls[k.val]? = some (.val (.int v))) (hn : pc + 1 = n) (K : Gl p e below s n0 P C S (T.setTop (mkF m n ls (.int v :: st)))) : Gl p e below s n0 P C S (T.setTop (mkF m pc ls st)) := by
  obtain ⟨_, vm0, k0, X, -, -, -, hS, -⟩ := X; obtain ⟨hx, hby, hZ, hown, -⟩ := w; have hZ := State.Warmed39.trans hZ hS.1; have hown := (hS.1.alike.findClass _ _).trans hown; subst hn
  exact Gl.of (fun t k => XS.iloadN X.here hx rfl (hb hby hd) hl k) K
theorem gJload (X : Sd p l e R s m args below meth c n0 T h cells slots) (w : Cx Z own nm bytes maxL ret p s m meth c) {k : Nat} {v : Int64} (hd : decode bytes pc = .ok (.lload k, 2)) (hl : ls[k]? = some (.val (.long v))) (hn : pc + 2 = n) (K : Gl p e below s n0 P C S (T.setTop (mkF m n ls (.long v :: st)))) : Gl p e below s n0 P C S (T.setTop (mkF m pc ls st)) := by
  obtain ⟨_, vm0, k0, X, -, -, -, hS, -⟩ := X; obtain ⟨hx, hby, hZ, hown, -⟩ := w; have hZ := State.Warmed39.trans hZ hS.1; have hown := (hS.1.alike.findClass _ _).trans hown; subst hn
  exact Gl.of (fun t k => XT.lload X.here hx rfl (hb hby hd) hl k) K
theorem gJloadN (X : Sd p l e R s m args below meth c n0 T h cells slots) (w : Cx Z own nm bytes maxL ret p s m meth c) {k : Fin 4} {v : Int64} (hd : decode bytes pc = .ok (.lload_n k, 1)) (hl : ls[k.val]? = some (.val (.long v))) (hn : pc + 1 = n) (K : Gl p e below s n0 P C S (T.setTop (mkF m n ls (.long v :: st)))) : Gl p e below s n0 P C S (T.setTop (mkF m pc ls st)) := by
  obtain ⟨_, vm0, k0, X, -, -, -, hS, -⟩ := X; obtain ⟨hx, hby, hZ, hown, -⟩ := w; have hZ := State.Warmed39.trans hZ hS.1; have hown := (hS.1.alike.findClass _ _).trans hown; subst hn
  exact Gl.of (fun t k => XT.lloadN X.here hx rfl (hb hby hd) hl k) K
theorem gAload (X : Sd p l e R s m args below meth c n0 T h cells slots) (w : Cx Z own nm bytes maxL ret p s m meth c) {k : Nat} {v : Value} (hd : decode bytes pc = .ok (.aload k, 2)) (hl : ls[k]? = some (.val v)) (hv : v.isRef = true) (hn : pc + 2 = n) (K : Gl p e below s n0 P C S (T.setTop (mkF m n ls (v :: st)))) : Gl p e below s n0 P C S (T.setTop (mkF m pc ls st)) := by
  obtain ⟨_, vm0, k0, X, -, -, -, hS, -⟩ := X; obtain ⟨hx, hby, hZ, hown, -⟩ := w; have hZ := State.Warmed39.trans hZ hS.1; have hown := (hS.1.alike.findClass _ _).trans hown; subst hn
  exact Gl.of (fun t k => XS.aload X.here hx rfl (hb hby hd) hl hv k) K
theorem gAloadN (X : Sd p l e R s m args below meth c n0 T h cells slots) (w : Cx Z own nm bytes maxL ret p s m meth c) {k : Fin 4} {v : Value} (hd : decode bytes pc = .ok (.aload_n k, 1)) (hl : ls[k.val]? = some (.val v)) (hv : v.isRef = true) (hn : pc + 1 = n) (K : Gl p e below s n0 P C S (T.setTop (mkF m n ls (v :: st)))) : Gl p e below s n0 P C S (T.setTop (mkF m pc ls st)) := by
  obtain ⟨_, vm0, k0, X, -, -, -, hS, -⟩ := X; obtain ⟨hx, hby, hZ, hown, -⟩ := w; have hZ := State.Warmed39.trans hZ hS.1; have hown := (hS.1.alike.findClass _ _).trans hown; subst hn
  exact Gl.of (fun t k => XS.aloadN X.here hx rfl (hb hby hd) hl hv k) K
theorem gDload (X : Sd p l e R s m args below meth c n0 T h cells slots) (w : Cx Z own nm bytes maxL ret p s m meth c) {k : Nat} {v : UInt64} (hd : decode bytes pc = .ok (.dload k, 2)) (hl : ls[k]? = some (.val (.double v))) (hn : pc + 2 = n) (K : Gl p e below s n0 P C S (T.setTop (mkF m n ls (.double v :: st)))) : Gl p e below s n0 P C S (T.setTop (mkF m pc ls st)) := by
  obtain ⟨_, vm0, k0, X, -, -, -, hS, -⟩ := X; obtain ⟨hx, hby, hZ, hown, -⟩ := w; have hZ := State.Warmed39.trans hZ hS.1; have hown := (hS.1.alike.findClass _ _).trans hown; subst hn
  exact Gl.of (fun t k => XS.dload X.here hx rfl (hb hby hd) hl k) K
theorem gDloadN (X : Sd p l e R s m args below meth c n0 T h cells slots) (w : Cx Z own nm bytes maxL ret p s m meth c) {k : Fin 4} {v : UInt64} (hd : decode bytes pc = .ok (.dload_n k, 1)) (hl : ls[k.val]? = some (.val (.double v))) (hn : pc + 1 = n) (K : Gl p e below s n0 P C S (T.setTop (mkF m n ls (.double v :: st)))) : Gl p e below s n0 P C S (T.setTop (mkF m pc ls st)) := by
  obtain ⟨_, vm0, k0, X, -, -, -, hS, -⟩ := X; obtain ⟨hx, hby, hZ, hown, -⟩ := w; have hZ := State.Warmed39.trans hZ hS.1; have hown := (hS.1.alike.findClass _ _).trans hown; subst hn
  exact Gl.of (fun t k => XS.dloadN X.here hx rfl (hb hby hd) hl k) K
theorem gDstore (X : Sd p l e R s m args below meth c n0 T h cells slots) (w : Cx Z own nm bytes maxL ret p s m meth c) {k : Nat} {x : UInt64} (hd : decode bytes pc = .ok (.dstore k, 2)) (l' : Array Slot) (hl : storeLocals ls k (.double x) = some l') (hn : pc + 2 = n) (K : Gl p e below s n0 P C S (T.setTop (mkF m n l' st))) : Gl p e below s n0 P C S (T.setTop (mkF m pc ls (.double x :: st))) := by
  obtain ⟨_, vm0, k0, X, -, -, -, hS, -⟩ := X; obtain ⟨hx, hby, hZ, hown, -⟩ := w; have hZ := State.Warmed39.trans hZ hS.1; have hown := (hS.1.alike.findClass _ _).trans hown; subst hn
  exact Gl.of (fun t k => XS.dstore X.here hx rfl (hb hby hd) rfl hl k) K
theorem gDstoreN (X : Sd p l e R s m args below meth c n0 T h cells slots) (w : Cx Z own nm bytes maxL ret p s m meth c) {k : Fin 4} {x : UInt64} (hd : decode bytes pc = .ok (.dstore_n k, 1)) (l' : Array Slot) (hl : storeLocals ls k.val (.double x) = some l') (hn : pc + 1 = n) (K : Gl p e below s n0 P C S (T.setTop (mkF m n l' st))) : Gl p e below s n0 P C S (T.setTop (mkF m pc ls (.double x :: st))) := by
  obtain ⟨_, vm0, k0, X, -, -, -, hS, -⟩ := X; obtain ⟨hx, hby, hZ, hown, -⟩ := w; have hZ := State.Warmed39.trans hZ hS.1; have hown := (hS.1.alike.findClass _ _).trans hown; subst hn
  exact Gl.of (fun t k => XS.dstoreN X.here hx rfl (hb hby hd) rfl hl k) K
theorem gI2d (X : Sd p l e R s m args below meth c n0 T h cells slots) (w : Cx Z own nm bytes maxL ret p s m meth c) {x : Int32} {z : UInt64} (hd : decode bytes pc = .ok (.i2d, 1)) (hz : FP.i2d x = z) (hn : pc + 1 = n) (K : Gl p e below s n0 P C S (T.setTop (mkF m n ls (.double z :: st)))) : Gl p e below s n0 P C S (T.setTop (mkF m pc ls (.int x :: st))) := by
  obtain ⟨_, vm0, k0, X, -, -, -, hS, -⟩ := X; obtain ⟨hx, hby, hZ, hown, -⟩ := w; have hZ := State.Warmed39.trans hZ hS.1; have hown := (hS.1.alike.findClass _ _).trans hown; subst hn
  exact Gl.of (fun t k => XS.i2dS X.here hx rfl (hb hby hd) rfl hz k) K
theorem gL2d (X : Sd p l e R s m args below meth c n0 T h cells slots) (w : Cx Z own nm bytes maxL ret p s m meth c) {x : Int64} {z : UInt64} (hd : decode bytes pc = .ok (.l2d, 1)) (hz : FP.l2d x = z) (hn : pc + 1 = n) (K : Gl p e below s n0 P C S (T.setTop (mkF m n ls (.double z :: st)))) : Gl p e below s n0 P C S (T.setTop (mkF m pc ls (.long x :: st))) := by
  obtain ⟨_, vm0, k0, X, -, -, -, hS, -⟩ := X; obtain ⟨hx, hby, hZ, hown, -⟩ := w; have hZ := State.Warmed39.trans hZ hS.1; have hown := (hS.1.alike.findClass _ _).trans hown; subst hn
  exact Gl.of (fun t k => XS.l2dS X.here hx rfl (hb hby hd) rfl hz k) K
theorem gDneg (X : Sd p l e R s m args below meth c n0 T h cells slots) (w : Cx Z own nm bytes maxL ret p s m meth c) {x z : UInt64} (hd : decode bytes pc = .ok (.dneg, 1)) (hz : FP.dneg x = z) (hn : pc + 1 = n) (K : Gl p e below s n0 P C S (T.setTop (mkF m n ls (.double z :: st)))) : Gl p e below s n0 P C S (T.setTop (mkF m pc ls (.double x :: st))) := by
  obtain ⟨_, vm0, k0, X, -, -, -, hS, -⟩ := X; obtain ⟨hx, hby, hZ, hown, -⟩ := w; have hZ := State.Warmed39.trans hZ hS.1; have hown := (hS.1.alike.findClass _ _).trans hown; subst hn
  exact Gl.of (fun t k => XS.dnegS X.here hx rfl (hb hby hd) rfl hz k) K
theorem gDcmp (X : Sd p l e R s m args below meth c n0 T h cells slots) (w : Cx Z own nm bytes maxL ret p s m meth c) {x y : UInt64} {o : CmpOp} {z : Int32} (hd : decode bytes pc = .ok (.dcmp o, 1)) (hz : cmpValue (FP.dcmp x y) o = z) (hn : pc + 1 = n) (K : Gl p e below s n0 P C S (T.setTop (mkF m n ls (.int z :: st)))) : Gl p e below s n0 P C S (T.setTop (mkF m pc ls (.double y :: .double x :: st))) := by
  obtain ⟨_, vm0, k0, X, -, -, -, hS, -⟩ := X; obtain ⟨hx, hby, hZ, hown, -⟩ := w; have hZ := State.Warmed39.trans hZ hS.1; have hown := (hS.1.alike.findClass _ _).trans hown; subst hn
  exact Gl.of (fun t k => XS.dcmpS X.here hx rfl (hb hby hd) rfl hz k) K
theorem gDadd (X : Sd p l e R s m args below meth c n0 T h cells slots) (w : Cx Z own nm bytes maxL ret p s m meth c) {x y z : UInt64} (hd : decode bytes pc = .ok (.dadd, 1)) (hnn : Jvm.Free.Fl.NoNaN64 (FP.dadd x y)) (hz : FP.dadd x y = z) (hn : pc + 1 = n) (K : Gl p e below s n0 P C S (T.setTop (mkF m n ls (.double z :: st)))) : Gl p e below s n0 P C S (T.setTop (mkF m pc ls (.double y :: .double x :: st))) := by
  obtain ⟨_, vm0, k0, X, -, -, -, hS, -⟩ := X; obtain ⟨hx, hby, hZ, hown, -⟩ := w; have hZ := State.Warmed39.trans hZ hS.1; have hown := (hS.1.alike.findClass _ _).trans hown; subst hn
  exact Gl.of (fun t k => XS.daddS X.here hx rfl (hb hby hd) rfl hnn hz k) K
theorem gDsub (X : Sd p l e R s m args below meth c n0 T h cells slots) (w : Cx Z own nm bytes maxL ret p s m meth c) {x y z : UInt64} (hd : decode bytes pc = .ok (.dsub, 1)) (hnn : Jvm.Free.Fl.NoNaN64 (FP.dsub x y)) (hz : FP.dsub x y = z) (hn : pc + 1 = n) (K : Gl p e below s n0 P C S (T.setTop (mkF m n ls (.double z :: st)))) : Gl p e below s n0 P C S (T.setTop (mkF m pc ls (.double y :: .double x :: st))) := by
  obtain ⟨_, vm0, k0, X, -, -, -, hS, -⟩ := X; obtain ⟨hx, hby, hZ, hown, -⟩ := w; have hZ := State.Warmed39.trans hZ hS.1; have hown := (hS.1.alike.findClass _ _).trans hown; subst hn
  exact Gl.of (fun t k => XS.dsubS X.here hx rfl (hb hby hd) rfl hnn hz k) K
theorem gDmul (X : Sd p l e R s m args below meth c n0 T h cells slots) (w : Cx Z own nm bytes maxL ret p s m meth c) {x y z : UInt64} (hd : decode bytes pc = .ok (.dmul, 1)) (hnn : Jvm.Free.Fl.NoNaN64 (FP.dmul x y)) (hz : FP.dmul x y = z) (hn : pc + 1 = n) (K : Gl p e below s n0 P C S (T.setTop (mkF m n ls (.double z :: st)))) : Gl p e below s n0 P C S (T.setTop (mkF m pc ls (.double y :: .double x :: st))) := by
  obtain ⟨_, vm0, k0, X, -, -, -, hS, -⟩ := X; obtain ⟨hx, hby, hZ, hown, -⟩ := w; have hZ := State.Warmed39.trans hZ hS.1; have hown := (hS.1.alike.findClass _ _).trans hown; subst hn
  exact Gl.of (fun t k => XS.dmulS X.here hx rfl (hb hby hd) rfl hnn hz k) K
theorem gDdiv (X : Sd p l e R s m args below meth c n0 T h cells slots) (w : Cx Z own nm bytes maxL ret p s m meth c) {x y z : UInt64} (hd : decode bytes pc = .ok (.ddiv, 1)) (hnn : Jvm.Free.Fl.NoNaN64 (FP.ddiv x y)) (hz : FP.ddiv x y = z) (hn : pc + 1 = n) (K : Gl p e below s n0 P C S (T.setTop (mkF m n ls (.double z :: st)))) : Gl p e below s n0 P C S (T.setTop (mkF m pc ls (.double y :: .double x :: st))) := by
  obtain ⟨_, vm0, k0, X, -, -, -, hS, -⟩ := X; obtain ⟨hx, hby, hZ, hown, -⟩ := w; have hZ := State.Warmed39.trans hZ hS.1; have hown := (hS.1.alike.findClass _ _).trans hown; subst hn
  exact Gl.of (fun t k => XS.ddivS X.here hx rfl (hb hby hd) rfl hnn hz k) K
theorem gDconst0 (X : Sd p l e R s m args below meth c n0 T h cells slots) (w : Cx Z own nm bytes maxL ret p s m meth c) {z : UInt64} (hd : decode bytes pc = .ok (.dconst 0, 1)) (hz : FP.dconst0 = z) (hn : pc + 1 = n) (K : Gl p e below s n0 P C S (T.setTop (mkF m n ls (.double z :: st)))) : Gl p e below s n0 P C S (T.setTop (mkF m pc ls st)) := by
  obtain ⟨_, vm0, k0, X, -, -, -, hS, -⟩ := X; obtain ⟨hx, hby, hZ, hown, -⟩ := w; have hZ := State.Warmed39.trans hZ hS.1; have hown := (hS.1.alike.findClass _ _).trans hown; subst hn
  exact Gl.of (fun t k => XS.dconst0 X.here hx rfl (hb hby hd) hz k) K
theorem gDconst1 (X : Sd p l e R s m args below meth c n0 T h cells slots) (w : Cx Z own nm bytes maxL ret p s m meth c) {z : UInt64} (hd : decode bytes pc = .ok (.dconst 1, 1)) (hz : FP.dconst1 = z) (hn : pc + 1 = n) (K : Gl p e below s n0 P C S (T.setTop (mkF m n ls (.double z :: st)))) : Gl p e below s n0 P C S (T.setTop (mkF m pc ls st)) := by
  obtain ⟨_, vm0, k0, X, -, -, -, hS, -⟩ := X; obtain ⟨hx, hby, hZ, hown, -⟩ := w; have hZ := State.Warmed39.trans hZ hS.1; have hown := (hS.1.alike.findClass _ _).trans hown; subst hn
  exact Gl.of (fun t k => XS.dconst1 X.here hx rfl (hb hby hd) hz k) K
theorem gLdc2D (X : Sd p l e R s m args below meth c n0 T h cells slots) (w : Cx Z own nm bytes maxL ret p s m meth c) {i : Nat} {z : UInt64} (wc : (Jvm.Cond.constantDouble own i z).before a0 Z = true) (hd : decode bytes pc = .ok (.ldc2_w i, 3)) (hn : pc + 3 = n) (K : Gl p e below s n0 P C S (T.setTop (mkF m n ls (.double z :: st)))) : Gl p e below s n0 P C S (T.setTop (mkF m pc ls st)) := by
  obtain ⟨_, vm0, k0, X, -, -, -, hS, -⟩ := X; obtain ⟨hx, hby, hZ, hown, -⟩ := w; have hZ := State.Warmed39.trans hZ hS.1; have hown := (hS.1.alike.findClass _ _).trans hown; subst hn
  exact Gl.of (fun t k => X.ldc2DoubleC hx hown (mvT hZ wc (by simp [Cond.onTables, Cond.keepsFace, Cond.keeps, Cond.steady])) (g := mkF m pc ls st) rfl (hb hby hd) t k) K
theorem gIconst (X : Sd p l e R s m args below meth c n0 T h cells slots) (w : Cx Z own nm bytes maxL ret p s m meth c) {i : Int} {z : Int32} (hd : decode bytes pc = .ok (.iconst i, 1)) (hz : Int32.ofInt i = z) (hn : pc + 1 = n) (K : Gl p e below s n0 P C S (T.setTop (mkF m n ls (.int z :: st)))) : Gl p e below s n0 P C S (T.setTop (mkF m pc ls st)) := by
  obtain ⟨_, vm0, k0, X, -, -, -, hS, -⟩ := X; obtain ⟨hx, hby, hZ, hown, -⟩ := w; have hZ := State.Warmed39.trans hZ hS.1; have hown := (hS.1.alike.findClass _ _).trans hown; subst hn hz
  exact Gl.of (fun t k => XS.iconst X.here hx rfl (hb hby hd) k) K
theorem gBipush (X : Sd p l e R s m args below meth c n0 T h cells slots) (w : Cx Z own nm bytes maxL ret p s m meth c) {i : Int} {z : Int32} (hd : decode bytes pc = .ok (.bipush i, 2)) (hz : (Int8.ofInt i).toInt32 = z) (hn : pc + 2 = n) (K : Gl p e below s n0 P C S (T.setTop (mkF m n ls (.int z :: st)))) : Gl p e below s n0 P C S (T.setTop (mkF m pc ls st)) := by
  obtain ⟨_, vm0, k0, X, -, -, -, hS, -⟩ := X; obtain ⟨hx, hby, hZ, hown, -⟩ := w; have hZ := State.Warmed39.trans hZ hS.1; have hown := (hS.1.alike.findClass _ _).trans hown; subst hn hz
  exact Gl.of (fun t k => XS.bipush X.here hx rfl (hb hby hd) k) K
theorem gSipush (X : Sd p l e R s m args below meth c n0 T h cells slots) (w : Cx Z own nm bytes maxL ret p s m meth c) {i : Int} {z : Int32} (hd : decode bytes pc = .ok (.sipush i, 3)) (hz : (Int16.ofInt i).toInt32 = z) (hn : pc + 3 = n) (K : Gl p e below s n0 P C S (T.setTop (mkF m n ls (.int z :: st)))) : Gl p e below s n0 P C S (T.setTop (mkF m pc ls st)) := by
  obtain ⟨_, vm0, k0, X, -, -, -, hS, -⟩ := X; obtain ⟨hx, hby, hZ, hown, -⟩ := w; have hZ := State.Warmed39.trans hZ hS.1; have hown := (hS.1.alike.findClass _ _).trans hown; subst hn hz
  exact Gl.of (fun t k => XS.sipush X.here hx rfl (hb hby hd) k) K
theorem gLconst (X : Sd p l e R s m args below meth c n0 T h cells slots) (w : Cx Z own nm bytes maxL ret p s m meth c) {i : Fin 2} {z : Int64} (hd : decode bytes pc = .ok (.lconst i, 1)) (hz : Int64.ofNat i = z) (hn : pc + 1 = n) (K : Gl p e below s n0 P C S (T.setTop (mkF m n ls (.long z :: st)))) : Gl p e below s n0 P C S (T.setTop (mkF m pc ls st)) := by
  obtain ⟨_, vm0, k0, X, -, -, -, hS, -⟩ := X; obtain ⟨hx, hby, hZ, hown, -⟩ := w; have hZ := State.Warmed39.trans hZ hS.1; have hown := (hS.1.alike.findClass _ _).trans hown; subst hn hz
  exact Gl.of (fun t k => XT.lconst X.here hx rfl (hb hby hd) k) K
theorem gNull (X : Sd p l e R s m args below meth c n0 T h cells slots) (w : Cx Z own nm bytes maxL ret p s m meth c)  (hd : decode bytes pc = .ok (.aconst_null, 1)) (hn : pc + 1 = n) (K : Gl p e below s n0 P C S (T.setTop (mkF m n ls (.null :: st)))) : Gl p e below s n0 P C S (T.setTop (mkF m pc ls st)) := by
  obtain ⟨_, vm0, k0, X, -, -, -, hS, -⟩ := X; obtain ⟨hx, hby, hZ, hown, -⟩ := w; have hZ := State.Warmed39.trans hZ hS.1; have hown := (hS.1.alike.findClass _ _).trans hown; subst hn
  exact Gl.of (fun t k => XS.aconstNull X.here hx rfl (hb hby hd) k) K
theorem gLdc (X : Sd p l e R s m args below meth c n0 T h cells slots) (w : Cx Z own nm bytes maxL ret p s m meth c) {i : Nat} {z : Int32} (wc : (Jvm.Cond.constant own i z).before a0 Z = true) (hd : decode bytes pc = .ok (.ldc i, 2)) (hn : pc + 2 = n) (K : Gl p e below s n0 P C S (T.setTop (mkF m n ls (.int z :: st)))) : Gl p e below s n0 P C S (T.setTop (mkF m pc ls st)) := by
  obtain ⟨_, vm0, k0, X, -, -, -, hS, -⟩ := X; obtain ⟨hx, hby, hZ, hown, -⟩ := w; have hZ := State.Warmed39.trans hZ hS.1; have hown := (hS.1.alike.findClass _ _).trans hown; subst hn
  exact Gl.of (fun t k => X.ldcI hx hown (mvT hZ wc) rfl (hb hby hd) k) K
theorem gLdc2 (X : Sd p l e R s m args below meth c n0 T h cells slots) (w : Cx Z own nm bytes maxL ret p s m meth c) {i : Nat} {z : Int64} (wc : (Jvm.Cond.constantLong own i z).before a0 Z = true) (hd : decode bytes pc = .ok (.ldc2_w i, 3)) (hn : pc + 3 = n) (K : Gl p e below s n0 P C S (T.setTop (mkF m n ls (.long z :: st)))) : Gl p e below s n0 P C S (T.setTop (mkF m pc ls st)) := by
  obtain ⟨_, vm0, k0, X, -, -, -, hS, -⟩ := X; obtain ⟨hx, hby, hZ, hown, -⟩ := w; have hZ := State.Warmed39.trans hZ hS.1; have hown := (hS.1.alike.findClass _ _).trans hown; subst hn
  exact Gl.of (fun t k => X.ldc2J hx hown (mvT hZ wc) rfl (hb hby hd) k) K
theorem gIadd (X : Sd p l e R s m args below meth c n0 T h cells slots) (w : Cx Z own nm bytes maxL ret p s m meth c) {x y z : Int32} (hd : decode bytes pc = .ok (.iadd, 1)) (hz : x + y = z) (hn : pc + 1 = n) (K : Gl p e below s n0 P C S (T.setTop (mkF m n ls (.int z :: st)))) : Gl p e below s n0 P C S (T.setTop (mkF m pc ls (.int y :: .int x :: st))) := by
  obtain ⟨_, vm0, k0, X, -, -, -, hS, -⟩ := X; obtain ⟨hx, hby, hZ, hown, -⟩ := w; have hZ := State.Warmed39.trans hZ hS.1; have hown := (hS.1.alike.findClass _ _).trans hown; subst hn hz
  exact Gl.of (fun t k => XS.iadd X.here hx rfl (hb hby hd) rfl k) K
theorem gIsub (X : Sd p l e R s m args below meth c n0 T h cells slots) (w : Cx Z own nm bytes maxL ret p s m meth c) {x y z : Int32} (hd : decode bytes pc = .ok (.isub, 1)) (hz : x - y = z) (hn : pc + 1 = n) (K : Gl p e below s n0 P C S (T.setTop (mkF m n ls (.int z :: st)))) : Gl p e below s n0 P C S (T.setTop (mkF m pc ls (.int y :: .int x :: st))) := by
  obtain ⟨_, vm0, k0, X, -, -, -, hS, -⟩ := X; obtain ⟨hx, hby, hZ, hown, -⟩ := w; have hZ := State.Warmed39.trans hZ hS.1; have hown := (hS.1.alike.findClass _ _).trans hown; subst hn hz
  exact Gl.of (fun t k => XS.isub X.here hx rfl (hb hby hd) rfl k) K
theorem gImul (X : Sd p l e R s m args below meth c n0 T h cells slots) (w : Cx Z own nm bytes maxL ret p s m meth c) {x y z : Int32} (hd : decode bytes pc = .ok (.imul, 1)) (hz : x * y = z) (hn : pc + 1 = n) (K : Gl p e below s n0 P C S (T.setTop (mkF m n ls (.int z :: st)))) : Gl p e below s n0 P C S (T.setTop (mkF m pc ls (.int y :: .int x :: st))) := by
  obtain ⟨_, vm0, k0, X, -, -, -, hS, -⟩ := X; obtain ⟨hx, hby, hZ, hown, -⟩ := w; have hZ := State.Warmed39.trans hZ hS.1; have hown := (hS.1.alike.findClass _ _).trans hown; subst hn hz
  exact Gl.of (fun t k => XS.imul X.here hx rfl (hb hby hd) rfl k) K
theorem gIand (X : Sd p l e R s m args below meth c n0 T h cells slots) (w : Cx Z own nm bytes maxL ret p s m meth c) {x y z : Int32} (hd : decode bytes pc = .ok (.iand, 1)) (hz : x &&& y = z) (hn : pc + 1 = n) (K : Gl p e below s n0 P C S (T.setTop (mkF m n ls (.int z :: st)))) : Gl p e below s n0 P C S (T.setTop (mkF m pc ls (.int y :: .int x :: st))) := by
  obtain ⟨_, vm0, k0, X, -, -, -, hS, -⟩ := X; obtain ⟨hx, hby, hZ, hown, -⟩ := w; have hZ := State.Warmed39.trans hZ hS.1; have hown := (hS.1.alike.findClass _ _).trans hown; subst hn hz
  exact Gl.of (fun t k => XS.iand X.here hx rfl (hb hby hd) rfl k) K
theorem gIor (X : Sd p l e R s m args below meth c n0 T h cells slots) (w : Cx Z own nm bytes maxL ret p s m meth c) {x y z : Int32} (hd : decode bytes pc = .ok (.ior, 1)) (hz : x ||| y = z) (hn : pc + 1 = n) (K : Gl p e below s n0 P C S (T.setTop (mkF m n ls (.int z :: st)))) : Gl p e below s n0 P C S (T.setTop (mkF m pc ls (.int y :: .int x :: st))) := by
  obtain ⟨_, vm0, k0, X, -, -, -, hS, -⟩ := X; obtain ⟨hx, hby, hZ, hown, -⟩ := w; have hZ := State.Warmed39.trans hZ hS.1; have hown := (hS.1.alike.findClass _ _).trans hown; subst hn hz
  exact Gl.of (fun t k => XT.ior X.here hx rfl (hb hby hd) rfl k) K
theorem gIxor (X : Sd p l e R s m args below meth c n0 T h cells slots) (w : Cx Z own nm bytes maxL ret p s m meth c) {x y z : Int32} (hd : decode bytes pc = .ok (.ixor, 1)) (hz : x ^^^ y = z) (hn : pc + 1 = n) (K : Gl p e below s n0 P C S (T.setTop (mkF m n ls (.int z :: st)))) : Gl p e below s n0 P C S (T.setTop (mkF m pc ls (.int y :: .int x :: st))) := by
  obtain ⟨_, vm0, k0, X, -, -, -, hS, -⟩ := X; obtain ⟨hx, hby, hZ, hown, -⟩ := w; have hZ := State.Warmed39.trans hZ hS.1; have hown := (hS.1.alike.findClass _ _).trans hown; subst hn hz
  exact Gl.of (fun t k => XT.ixor X.here hx rfl (hb hby hd) rfl k) K
theorem gIshl (X : Sd p l e R s m args below meth c n0 T h cells slots) (w : Cx Z own nm bytes maxL ret p s m meth c) {x y z : Int32} (hd : decode bytes pc = .ok (.ishl, 1)) (hz : x <<< (y &&& 31) = z) (hn : pc + 1 = n) (K : Gl p e below s n0 P C S (T.setTop (mkF m n ls (.int z :: st)))) : Gl p e below s n0 P C S (T.setTop (mkF m pc ls (.int y :: .int x :: st))) := by
  obtain ⟨_, vm0, k0, X, -, -, -, hS, -⟩ := X; obtain ⟨hx, hby, hZ, hown, -⟩ := w; have hZ := State.Warmed39.trans hZ hS.1; have hown := (hS.1.alike.findClass _ _).trans hown; subst hn hz
  exact Gl.of (fun t k => XT.ishl X.here hx rfl (hb hby hd) rfl k) K
theorem gIshr (X : Sd p l e R s m args below meth c n0 T h cells slots) (w : Cx Z own nm bytes maxL ret p s m meth c) {x y z : Int32} (hd : decode bytes pc = .ok (.ishr, 1)) (hz : x >>> (y &&& 31) = z) (hn : pc + 1 = n) (K : Gl p e below s n0 P C S (T.setTop (mkF m n ls (.int z :: st)))) : Gl p e below s n0 P C S (T.setTop (mkF m pc ls (.int y :: .int x :: st))) := by
  obtain ⟨_, vm0, k0, X, -, -, -, hS, -⟩ := X; obtain ⟨hx, hby, hZ, hown, -⟩ := w; have hZ := State.Warmed39.trans hZ hS.1; have hown := (hS.1.alike.findClass _ _).trans hown; subst hn hz
  exact Gl.of (fun t k => XT.ishr X.here hx rfl (hb hby hd) rfl k) K
theorem gIushr (X : Sd p l e R s m args below meth c n0 T h cells slots) (w : Cx Z own nm bytes maxL ret p s m meth c) {x y z : Int32} (hd : decode bytes pc = .ok (.iushr, 1)) (hz : XT.ushr x y = z) (hn : pc + 1 = n) (K : Gl p e below s n0 P C S (T.setTop (mkF m n ls (.int z :: st)))) : Gl p e below s n0 P C S (T.setTop (mkF m pc ls (.int y :: .int x :: st))) := by
  obtain ⟨_, vm0, k0, X, -, -, -, hS, -⟩ := X; obtain ⟨hx, hby, hZ, hown, -⟩ := w; have hZ := State.Warmed39.trans hZ hS.1; have hown := (hS.1.alike.findClass _ _).trans hown; subst hn hz
  exact Gl.of (fun t k => XT.iushr X.here hx rfl (hb hby hd) rfl k) K
theorem gIdiv (X : Sd p l e R s m args below meth c n0 T h cells slots) (w : Cx Z own nm bytes maxL ret p s m meth c) {x y z : Int32} (hd : decode bytes pc = .ok (.idiv, 1)) (hy : y ≠ 0) (hz : x / y = z) (hn : pc + 1 = n) (K : Gl p e below s n0 P C S (T.setTop (mkF m n ls (.int z :: st)))) : Gl p e below s n0 P C S (T.setTop (mkF m pc ls (.int y :: .int x :: st))) := by
  obtain ⟨_, vm0, k0, X, -, -, -, hS, -⟩ := X; obtain ⟨hx, hby, hZ, hown, -⟩ := w; have hZ := State.Warmed39.trans hZ hS.1; have hown := (hS.1.alike.findClass _ _).trans hown; subst hn hz
  exact Gl.of (fun t k => XS.idiv X.here hx rfl (hb hby hd) rfl hy k) K
theorem gIrem (X : Sd p l e R s m args below meth c n0 T h cells slots) (w : Cx Z own nm bytes maxL ret p s m meth c) {x y z : Int32} (hd : decode bytes pc = .ok (.irem, 1)) (hy : y ≠ 0) (hz : x % y = z) (hn : pc + 1 = n) (K : Gl p e below s n0 P C S (T.setTop (mkF m n ls (.int z :: st)))) : Gl p e below s n0 P C S (T.setTop (mkF m pc ls (.int y :: .int x :: st))) := by
  obtain ⟨_, vm0, k0, X, -, -, -, hS, -⟩ := X; obtain ⟨hx, hby, hZ, hown, -⟩ := w; have hZ := State.Warmed39.trans hZ hS.1; have hown := (hS.1.alike.findClass _ _).trans hown; subst hn hz
  exact Gl.of (fun t k => iremM X hx rfl (hb hby hd) rfl hy k) K
theorem gIneg (X : Sd p l e R s m args below meth c n0 T h cells slots) (w : Cx Z own nm bytes maxL ret p s m meth c) {x z : Int32} (hd : decode bytes pc = .ok (.ineg, 1)) (hz : -x = z) (hn : pc + 1 = n) (K : Gl p e below s n0 P C S (T.setTop (mkF m n ls (.int z :: st)))) : Gl p e below s n0 P C S (T.setTop (mkF m pc ls (.int x :: st))) := by
  obtain ⟨_, vm0, k0, X, -, -, -, hS, -⟩ := X; obtain ⟨hx, hby, hZ, hown, -⟩ := w; have hZ := State.Warmed39.trans hZ hS.1; have hown := (hS.1.alike.findClass _ _).trans hown; subst hn hz
  exact Gl.of (fun t k => XS.ineg X.here hx rfl (hb hby hd) rfl k) K
theorem gLadd (X : Sd p l e R s m args below meth c n0 T h cells slots) (w : Cx Z own nm bytes maxL ret p s m meth c) {x y z : Int64} (hd : decode bytes pc = .ok (.ladd, 1)) (hz : x + y = z) (hn : pc + 1 = n) (K : Gl p e below s n0 P C S (T.setTop (mkF m n ls (.long z :: st)))) : Gl p e below s n0 P C S (T.setTop (mkF m pc ls (.long y :: .long x :: st))) := by
  obtain ⟨_, vm0, k0, X, -, -, -, hS, -⟩ := X; obtain ⟨hx, hby, hZ, hown, -⟩ := w; have hZ := State.Warmed39.trans hZ hS.1; have hown := (hS.1.alike.findClass _ _).trans hown; subst hn hz
  exact Gl.of (fun t k => XT.ladd X.here hx rfl (hb hby hd) rfl k) K
theorem gLsub (X : Sd p l e R s m args below meth c n0 T h cells slots) (w : Cx Z own nm bytes maxL ret p s m meth c) {x y z : Int64} (hd : decode bytes pc = .ok (.lsub, 1)) (hz : x - y = z) (hn : pc + 1 = n) (K : Gl p e below s n0 P C S (T.setTop (mkF m n ls (.long z :: st)))) : Gl p e below s n0 P C S (T.setTop (mkF m pc ls (.long y :: .long x :: st))) := by
  obtain ⟨_, vm0, k0, X, -, -, -, hS, -⟩ := X; obtain ⟨hx, hby, hZ, hown, -⟩ := w; have hZ := State.Warmed39.trans hZ hS.1; have hown := (hS.1.alike.findClass _ _).trans hown; subst hn hz
  exact Gl.of (fun t k => XT.lsub X.here hx rfl (hb hby hd) rfl k) K
theorem gLmul (X : Sd p l e R s m args below meth c n0 T h cells slots) (w : Cx Z own nm bytes maxL ret p s m meth c) {x y z : Int64} (hd : decode bytes pc = .ok (.lmul, 1)) (hz : x * y = z) (hn : pc + 1 = n) (K : Gl p e below s n0 P C S (T.setTop (mkF m n ls (.long z :: st)))) : Gl p e below s n0 P C S (T.setTop (mkF m pc ls (.long y :: .long x :: st))) := by
  obtain ⟨_, vm0, k0, X, -, -, -, hS, -⟩ := X; obtain ⟨hx, hby, hZ, hown, -⟩ := w; have hZ := State.Warmed39.trans hZ hS.1; have hown := (hS.1.alike.findClass _ _).trans hown; subst hn hz
  exact Gl.of (fun t k => XT.lmul X.here hx rfl (hb hby hd) rfl k) K
theorem gLand (X : Sd p l e R s m args below meth c n0 T h cells slots) (w : Cx Z own nm bytes maxL ret p s m meth c) {x y z : Int64} (hd : decode bytes pc = .ok (.land, 1)) (hz : x &&& y = z) (hn : pc + 1 = n) (K : Gl p e below s n0 P C S (T.setTop (mkF m n ls (.long z :: st)))) : Gl p e below s n0 P C S (T.setTop (mkF m pc ls (.long y :: .long x :: st))) := by
  obtain ⟨_, vm0, k0, X, -, -, -, hS, -⟩ := X; obtain ⟨hx, hby, hZ, hown, -⟩ := w; have hZ := State.Warmed39.trans hZ hS.1; have hown := (hS.1.alike.findClass _ _).trans hown; subst hn hz
  exact Gl.of (fun t k => XT.land X.here hx rfl (hb hby hd) rfl k) K
theorem gLor (X : Sd p l e R s m args below meth c n0 T h cells slots) (w : Cx Z own nm bytes maxL ret p s m meth c) {x y z : Int64} (hd : decode bytes pc = .ok (.lor, 1)) (hz : x ||| y = z) (hn : pc + 1 = n) (K : Gl p e below s n0 P C S (T.setTop (mkF m n ls (.long z :: st)))) : Gl p e below s n0 P C S (T.setTop (mkF m pc ls (.long y :: .long x :: st))) := by
  obtain ⟨_, vm0, k0, X, -, -, -, hS, -⟩ := X; obtain ⟨hx, hby, hZ, hown, -⟩ := w; have hZ := State.Warmed39.trans hZ hS.1; have hown := (hS.1.alike.findClass _ _).trans hown; subst hn hz
  exact Gl.of (fun t k => XT.lor X.here hx rfl (hb hby hd) rfl k) K
theorem gLxor (X : Sd p l e R s m args below meth c n0 T h cells slots) (w : Cx Z own nm bytes maxL ret p s m meth c) {x y z : Int64} (hd : decode bytes pc = .ok (.lxor, 1)) (hz : x ^^^ y = z) (hn : pc + 1 = n) (K : Gl p e below s n0 P C S (T.setTop (mkF m n ls (.long z :: st)))) : Gl p e below s n0 P C S (T.setTop (mkF m pc ls (.long y :: .long x :: st))) := by
  obtain ⟨_, vm0, k0, X, -, -, -, hS, -⟩ := X; obtain ⟨hx, hby, hZ, hown, -⟩ := w; have hZ := State.Warmed39.trans hZ hS.1; have hown := (hS.1.alike.findClass _ _).trans hown; subst hn hz
  exact Gl.of (fun t k => XT.lxor X.here hx rfl (hb hby hd) rfl k) K
theorem gLshl (X : Sd p l e R s m args below meth c n0 T h cells slots) (w : Cx Z own nm bytes maxL ret p s m meth c) {x z : Int64} {y : Int32} (hd : decode bytes pc = .ok (.lshl, 1)) (hz : x <<< (y.toInt64 &&& 63) = z) (hn : pc + 1 = n) (K : Gl p e below s n0 P C S (T.setTop (mkF m n ls (.long z :: st)))) : Gl p e below s n0 P C S (T.setTop (mkF m pc ls (.int y :: .long x :: st))) := by
  obtain ⟨_, vm0, k0, X, -, -, -, hS, -⟩ := X; obtain ⟨hx, hby, hZ, hown, -⟩ := w; have hZ := State.Warmed39.trans hZ hS.1; have hown := (hS.1.alike.findClass _ _).trans hown; subst hn hz
  exact Gl.of (fun t k => XT.lshl X.here hx rfl (hb hby hd) rfl k) K
theorem gLshr (X : Sd p l e R s m args below meth c n0 T h cells slots) (w : Cx Z own nm bytes maxL ret p s m meth c) {x z : Int64} {y : Int32} (hd : decode bytes pc = .ok (.lshr, 1)) (hz : x >>> (y.toInt64 &&& 63) = z) (hn : pc + 1 = n) (K : Gl p e below s n0 P C S (T.setTop (mkF m n ls (.long z :: st)))) : Gl p e below s n0 P C S (T.setTop (mkF m pc ls (.int y :: .long x :: st))) := by
  obtain ⟨_, vm0, k0, X, -, -, -, hS, -⟩ := X; obtain ⟨hx, hby, hZ, hown, -⟩ := w; have hZ := State.Warmed39.trans hZ hS.1; have hown := (hS.1.alike.findClass _ _).trans hown; subst hn hz
  exact Gl.of (fun t k => XT.lshr X.here hx rfl (hb hby hd) rfl k) K
theorem gLushr (X : Sd p l e R s m args below meth c n0 T h cells slots) (w : Cx Z own nm bytes maxL ret p s m meth c) {x z : Int64} {y : Int32} (hd : decode bytes pc = .ok (.lushr, 1)) (hz : XT.ushrL x y = z) (hn : pc + 1 = n) (K : Gl p e below s n0 P C S (T.setTop (mkF m n ls (.long z :: st)))) : Gl p e below s n0 P C S (T.setTop (mkF m pc ls (.int y :: .long x :: st))) := by
  obtain ⟨_, vm0, k0, X, -, -, -, hS, -⟩ := X; obtain ⟨hx, hby, hZ, hown, -⟩ := w; have hZ := State.Warmed39.trans hZ hS.1; have hown := (hS.1.alike.findClass _ _).trans hown; subst hn hz
  exact Gl.of (fun t k => XT.lushr X.here hx rfl (hb hby hd) rfl k) K
theorem gLneg (X : Sd p l e R s m args below meth c n0 T h cells slots) (w : Cx Z own nm bytes maxL ret p s m meth c) {x z : Int64} (hd : decode bytes pc = .ok (.lneg, 1)) (hz : -x = z) (hn : pc + 1 = n) (K : Gl p e below s n0 P C S (T.setTop (mkF m n ls (.long z :: st)))) : Gl p e below s n0 P C S (T.setTop (mkF m pc ls (.long x :: st))) := by
  obtain ⟨_, vm0, k0, X, -, -, -, hS, -⟩ := X; obtain ⟨hx, hby, hZ, hown, -⟩ := w; have hZ := State.Warmed39.trans hZ hS.1; have hown := (hS.1.alike.findClass _ _).trans hown; subst hn hz
  exact Gl.of (fun t k => XT.lneg X.here hx rfl (hb hby hd) rfl k) K
theorem gLdiv (X : Sd p l e R s m args below meth c n0 T h cells slots) (w : Cx Z own nm bytes maxL ret p s m meth c) {x y z : Int64} (hd : decode bytes pc = .ok (.ldiv, 1)) (hy : y ≠ 0) (hz : x / y = z) (hn : pc + 1 = n) (K : Gl p e below s n0 P C S (T.setTop (mkF m n ls (.long z :: st)))) : Gl p e below s n0 P C S (T.setTop (mkF m pc ls (.long y :: .long x :: st))) := by
  obtain ⟨_, vm0, k0, X, -, -, -, hS, -⟩ := X; obtain ⟨hx, hby, hZ, hown, -⟩ := w; have hZ := State.Warmed39.trans hZ hS.1; have hown := (hS.1.alike.findClass _ _).trans hown; subst hn hz
  exact Gl.of (fun t k => XT.ldiv X.here hx rfl (hb hby hd) rfl hy k) K
theorem gLrem (X : Sd p l e R s m args below meth c n0 T h cells slots) (w : Cx Z own nm bytes maxL ret p s m meth c) {x y z : Int64} (hd : decode bytes pc = .ok (.lrem, 1)) (hy : y ≠ 0) (hz : x % y = z) (hn : pc + 1 = n) (K : Gl p e below s n0 P C S (T.setTop (mkF m n ls (.long z :: st)))) : Gl p e below s n0 P C S (T.setTop (mkF m pc ls (.long y :: .long x :: st))) := by
  obtain ⟨_, vm0, k0, X, -, -, -, hS, -⟩ := X; obtain ⟨hx, hby, hZ, hown, -⟩ := w; have hZ := State.Warmed39.trans hZ hS.1; have hown := (hS.1.alike.findClass _ _).trans hown; subst hn; rw [← lrem_mod] at hz; subst hz
  exact Gl.of (fun t k => XT.lrem X.here hx rfl (hb hby hd) rfl hy k) K
theorem gLcmp (X : Sd p l e R s m args below meth c n0 T h cells slots) (w : Cx Z own nm bytes maxL ret p s m meth c) {x y : Int64} {z : Int32} (hd : decode bytes pc = .ok (.lcmp, 1)) (hz : XT.cmpL x y = z) (hn : pc + 1 = n) (K : Gl p e below s n0 P C S (T.setTop (mkF m n ls (.int z :: st)))) : Gl p e below s n0 P C S (T.setTop (mkF m pc ls (.long y :: .long x :: st))) := by
  obtain ⟨_, vm0, k0, X, -, -, -, hS, -⟩ := X; obtain ⟨hx, hby, hZ, hown, -⟩ := w; have hZ := State.Warmed39.trans hZ hS.1; have hown := (hS.1.alike.findClass _ _).trans hown; subst hn hz
  exact Gl.of (fun t k => XT.lcmp X.here hx rfl (hb hby hd) rfl k) K
theorem gI2l (X : Sd p l e R s m args below meth c n0 T h cells slots) (w : Cx Z own nm bytes maxL ret p s m meth c) {x : Int32} {z : Int64} (hd : decode bytes pc = .ok (.i2l, 1)) (hz : x.toInt64 = z) (hn : pc + 1 = n) (K : Gl p e below s n0 P C S (T.setTop (mkF m n ls (.long z :: st)))) : Gl p e below s n0 P C S (T.setTop (mkF m pc ls (.int x :: st))) := by
  obtain ⟨_, vm0, k0, X, -, -, -, hS, -⟩ := X; obtain ⟨hx, hby, hZ, hown, -⟩ := w; have hZ := State.Warmed39.trans hZ hS.1; have hown := (hS.1.alike.findClass _ _).trans hown; subst hn hz
  exact Gl.of (fun t k => XT.i2l X.here hx rfl (hb hby hd) rfl k) K
theorem gL2i (X : Sd p l e R s m args below meth c n0 T h cells slots) (w : Cx Z own nm bytes maxL ret p s m meth c) {x : Int64} {z : Int32} (hd : decode bytes pc = .ok (.l2i, 1)) (hz : x.toInt32 = z) (hn : pc + 1 = n) (K : Gl p e below s n0 P C S (T.setTop (mkF m n ls (.int z :: st)))) : Gl p e below s n0 P C S (T.setTop (mkF m pc ls (.long x :: st))) := by
  obtain ⟨_, vm0, k0, X, -, -, -, hS, -⟩ := X; obtain ⟨hx, hby, hZ, hown, -⟩ := w; have hZ := State.Warmed39.trans hZ hS.1; have hown := (hS.1.alike.findClass _ _).trans hown; subst hn hz
  exact Gl.of (fun t k => XT.l2i X.here hx rfl (hb hby hd) rfl k) K
theorem gI2b (X : Sd p l e R s m args below meth c n0 T h cells slots) (w : Cx Z own nm bytes maxL ret p s m meth c) {x : Int32} {z : Int32} (hd : decode bytes pc = .ok (.i2b, 1)) (hz : x.toInt8.toInt32 = z) (hn : pc + 1 = n) (K : Gl p e below s n0 P C S (T.setTop (mkF m n ls (.int z :: st)))) : Gl p e below s n0 P C S (T.setTop (mkF m pc ls (.int x :: st))) := by
  obtain ⟨_, vm0, k0, X, -, -, -, hS, -⟩ := X; obtain ⟨hx, hby, hZ, hown, -⟩ := w; have hZ := State.Warmed39.trans hZ hS.1; have hown := (hS.1.alike.findClass _ _).trans hown; subst hn hz
  exact Gl.of (fun t k => XT.i2b X.here hx rfl (hb hby hd) rfl k) K
theorem gI2c (X : Sd p l e R s m args below meth c n0 T h cells slots) (w : Cx Z own nm bytes maxL ret p s m meth c) {x : Int32} {z : Int32} (hd : decode bytes pc = .ok (.i2c, 1)) (hz : x.toUInt32.toUInt16.toUInt32.toInt32 = z) (hn : pc + 1 = n) (K : Gl p e below s n0 P C S (T.setTop (mkF m n ls (.int z :: st)))) : Gl p e below s n0 P C S (T.setTop (mkF m pc ls (.int x :: st))) := by
  obtain ⟨_, vm0, k0, X, -, -, -, hS, -⟩ := X; obtain ⟨hx, hby, hZ, hown, -⟩ := w; have hZ := State.Warmed39.trans hZ hS.1; have hown := (hS.1.alike.findClass _ _).trans hown; subst hn hz
  exact Gl.of (fun t k => XT.i2c X.here hx rfl (hb hby hd) rfl k) K
theorem gI2s (X : Sd p l e R s m args below meth c n0 T h cells slots) (w : Cx Z own nm bytes maxL ret p s m meth c) {x : Int32} {z : Int32} (hd : decode bytes pc = .ok (.i2s, 1)) (hz : x.toInt16.toInt32 = z) (hn : pc + 1 = n) (K : Gl p e below s n0 P C S (T.setTop (mkF m n ls (.int z :: st)))) : Gl p e below s n0 P C S (T.setTop (mkF m pc ls (.int x :: st))) := by
  obtain ⟨_, vm0, k0, X, -, -, -, hS, -⟩ := X; obtain ⟨hx, hby, hZ, hown, -⟩ := w; have hZ := State.Warmed39.trans hZ hS.1; have hown := (hS.1.alike.findClass _ _).trans hown; subst hn hz
  exact Gl.of (fun t k => XT.i2s X.here hx rfl (hb hby hd) rfl k) K
theorem gIstore (X : Sd p l e R s m args below meth c n0 T h cells slots) (w : Cx Z own nm bytes maxL ret p s m meth c) {k : Nat} {x : Int32} (hd : decode bytes pc = .ok (.istore k, 2)) (l' : Array Slot) (hl : storeLocals ls k (.int x) = some l') (hn : pc + 2 = n) (K : Gl p e below s n0 P C S (T.setTop (mkF m n l' st))) : Gl p e below s n0 P C S (T.setTop (mkF m pc ls (.int x :: st))) := by
  obtain ⟨_, vm0, k0, X, -, -, -, hS, -⟩ := X; obtain ⟨hx, hby, hZ, hown, -⟩ := w; have hZ := State.Warmed39.trans hZ hS.1; have hown := (hS.1.alike.findClass _ _).trans hown; subst hn
  exact Gl.of (fun t k => XS.istore X.here hx rfl (hb hby hd) rfl hl k) K
theorem gIstoreN (X : Sd p l e R s m args below meth c n0 T h cells slots) (w : Cx Z own nm bytes maxL ret p s m meth c) {k : Fin 4} {x : Int32} (hd : decode bytes pc = .ok (.istore_n k, 1)) (l' : Array Slot) (hl : storeLocals ls k.val (.int x) = some l') (hn : pc + 1 = n) (K : Gl p e below s n0 P C S (T.setTop (mkF m n l' st))) : Gl p e below s n0 P C S (T.setTop (mkF m pc ls (.int x :: st))) := by
  obtain ⟨_, vm0, k0, X, -, -, -, hS, -⟩ := X; obtain ⟨hx, hby, hZ, hown, -⟩ := w; have hZ := State.Warmed39.trans hZ hS.1; have hown := (hS.1.alike.findClass _ _).trans hown; subst hn
  exact Gl.of (fun t k => XS.istoreN X.here hx rfl (hb hby hd) rfl hl k) K
theorem gJstore (X : Sd p l e R s m args below meth c n0 T h cells slots) (w : Cx Z own nm bytes maxL ret p s m meth c) {k : Nat} {x : Int64} (hd : decode bytes pc = .ok (.lstore k, 2)) (l' : Array Slot) (hl : storeLocals ls k (.long x) = some l') (hn : pc + 2 = n) (K : Gl p e below s n0 P C S (T.setTop (mkF m n l' st))) : Gl p e below s n0 P C S (T.setTop (mkF m pc ls (.long x :: st))) := by
  obtain ⟨_, vm0, k0, X, -, -, -, hS, -⟩ := X; obtain ⟨hx, hby, hZ, hown, -⟩ := w; have hZ := State.Warmed39.trans hZ hS.1; have hown := (hS.1.alike.findClass _ _).trans hown; subst hn
  exact Gl.of (fun t k => XT.lstore X.here hx rfl (hb hby hd) rfl hl k) K
theorem gJstoreN (X : Sd p l e R s m args below meth c n0 T h cells slots) (w : Cx Z own nm bytes maxL ret p s m meth c) {k : Fin 4} {x : Int64} (hd : decode bytes pc = .ok (.lstore_n k, 1)) (l' : Array Slot) (hl : storeLocals ls k.val (.long x) = some l') (hn : pc + 1 = n) (K : Gl p e below s n0 P C S (T.setTop (mkF m n l' st))) : Gl p e below s n0 P C S (T.setTop (mkF m pc ls (.long x :: st))) := by
  obtain ⟨_, vm0, k0, X, -, -, -, hS, -⟩ := X; obtain ⟨hx, hby, hZ, hown, -⟩ := w; have hZ := State.Warmed39.trans hZ hS.1; have hown := (hS.1.alike.findClass _ _).trans hown; subst hn
  exact Gl.of (fun t k => XT.lstoreN X.here hx rfl (hb hby hd) rfl hl k) K
theorem gAstore (X : Sd p l e R s m args below meth c n0 T h cells slots) (w : Cx Z own nm bytes maxL ret p s m meth c) {k : Nat} {x : Value} (hd : decode bytes pc = .ok (.astore k, 2)) (hv : x.isRef = true) (l' : Array Slot) (hl : storeLocals ls k x = some l') (hn : pc + 2 = n) (K : Gl p e below s n0 P C S (T.setTop (mkF m n l' st))) : Gl p e below s n0 P C S (T.setTop (mkF m pc ls (x :: st))) := by
  obtain ⟨_, vm0, k0, X, -, -, -, hS, -⟩ := X; obtain ⟨hx, hby, hZ, hown, -⟩ := w; have hZ := State.Warmed39.trans hZ hS.1; have hown := (hS.1.alike.findClass _ _).trans hown; subst hn
  exact Gl.of (fun t k => XS.astore X.here hx rfl (hb hby hd) rfl hv hl k) K
theorem gAstoreN (X : Sd p l e R s m args below meth c n0 T h cells slots) (w : Cx Z own nm bytes maxL ret p s m meth c) {k : Fin 4} {x : Value} (hd : decode bytes pc = .ok (.astore_n k, 1)) (hv : x.isRef = true) (l' : Array Slot) (hl : storeLocals ls k.val x = some l') (hn : pc + 1 = n) (K : Gl p e below s n0 P C S (T.setTop (mkF m n l' st))) : Gl p e below s n0 P C S (T.setTop (mkF m pc ls (x :: st))) := by
  obtain ⟨_, vm0, k0, X, -, -, -, hS, -⟩ := X; obtain ⟨hx, hby, hZ, hown, -⟩ := w; have hZ := State.Warmed39.trans hZ hS.1; have hown := (hS.1.alike.findClass _ _).trans hown; subst hn
  exact Gl.of (fun t k => XS.astoreN X.here hx rfl (hb hby hd) rfl hv hl k) K
theorem gIinc (X : Sd p l e R s m args below meth c n0 T h cells slots) (w : Cx Z own nm bytes maxL ret p s m meth c) {k : Nat} {i : Int} {x z : Int32} (hd : decode bytes pc = .ok (.iinc k i, 3)) (hl0 : ls[k]? = some (.val (.int x))) (hz : x + Int32.ofInt i = z) (l' : Array Slot) (hl : storeLocals ls k (.int z) = some l') (hn : pc + 3 = n) (K : Gl p e below s n0 P C S (T.setTop (mkF m n l' st))) : Gl p e below s n0 P C S (T.setTop (mkF m pc ls st)) := by
  obtain ⟨_, vm0, k0, X, -, -, -, hS, -⟩ := X; obtain ⟨hx, hby, hZ, hown, -⟩ := w; have hZ := State.Warmed39.trans hZ hS.1; have hown := (hS.1.alike.findClass _ _).trans hown; subst hn hz
  exact Gl.of (fun t k => XS.iinc X.here hx rfl (hb hby hd) hl0 hl k) K
theorem gDup (X : Sd p l e R s m args below meth c n0 T h cells slots) (w : Cx Z own nm bytes maxL ret p s m meth c) {x : Value} (hd : decode bytes pc = .ok (.dup, 1)) (hc : x.category = 1) (hn : pc + 1 = n) (K : Gl p e below s n0 P C S (T.setTop (mkF m n ls (x :: x :: st)))) : Gl p e below s n0 P C S (T.setTop (mkF m pc ls (x :: st))) := by
  obtain ⟨_, vm0, k0, X, -, -, -, hS, -⟩ := X; obtain ⟨hx, hby, hZ, hown, -⟩ := w; have hZ := State.Warmed39.trans hZ hS.1; have hown := (hS.1.alike.findClass _ _).trans hown; subst hn
  exact Gl.of (fun t k => XS.dup X.here hx rfl (hb hby hd) rfl hc k) K
theorem gPop (X : Sd p l e R s m args below meth c n0 T h cells slots) (w : Cx Z own nm bytes maxL ret p s m meth c) {x : Value} (hd : decode bytes pc = .ok (.pop, 1)) (hc : x.category = 1) (hn : pc + 1 = n) (K : Gl p e below s n0 P C S (T.setTop (mkF m n ls st))) : Gl p e below s n0 P C S (T.setTop (mkF m pc ls (x :: st))) := by
  obtain ⟨_, vm0, k0, X, -, -, -, hS, -⟩ := X; obtain ⟨hx, hby, hZ, hown, -⟩ := w; have hZ := State.Warmed39.trans hZ hS.1; have hown := (hS.1.alike.findClass _ _).trans hown; subst hn
  exact Gl.of (fun t k => XT.pop X.here hx rfl (hb hby hd) rfl hc k) K
theorem gDupX1 (X : Sd p l e R s m args below meth c n0 T h cells slots) (w : Cx Z own nm bytes maxL ret p s m meth c) {x y : Value} (hd : decode bytes pc = .ok (.dup_x1, 1)) (hc : x.category = 1) (hc' : y.category = 1) (hn : pc + 1 = n) (K : Gl p e below s n0 P C S (T.setTop (mkF m n ls (x :: y :: x :: st)))) : Gl p e below s n0 P C S (T.setTop (mkF m pc ls (x :: y :: st))) := by
  obtain ⟨_, vm0, k0, X, -, -, -, hS, -⟩ := X; obtain ⟨hx, hby, hZ, hown, -⟩ := w; have hZ := State.Warmed39.trans hZ hS.1; have hown := (hS.1.alike.findClass _ _).trans hown; subst hn
  exact Gl.of (fun t k => XT.dupX1 X.here hx rfl (hb hby hd) rfl hc hc' k) K
theorem gDup2 (X : Sd p l e R s m args below meth c n0 T h cells slots) (w : Cx Z own nm bytes maxL ret p s m meth c) {x y : Value} (hd : decode bytes pc = .ok (.dup2, 1)) (hc : x.category = 1) (hc' : y.category = 1) (hn : pc + 1 = n) (K : Gl p e below s n0 P C S (T.setTop (mkF m n ls (x :: y :: x :: y :: st)))) : Gl p e below s n0 P C S (T.setTop (mkF m pc ls (x :: y :: st))) := by
  obtain ⟨_, vm0, k0, X, -, -, -, hS, -⟩ := X; obtain ⟨hx, hby, hZ, hown, -⟩ := w; have hZ := State.Warmed39.trans hZ hS.1; have hown := (hS.1.alike.findClass _ _).trans hown; subst hn
  exact Gl.of (fun t k => XT.dup2 X.here hx rfl (hb hby hd) rfl hc hc' k) K
theorem gDup2L (X : Sd p l e R s m args below meth c n0 T h cells slots) (w : Cx Z own nm bytes maxL ret p s m meth c) {x : Int64} (hd : decode bytes pc = .ok (.dup2, 1)) (hn : pc + 1 = n) (K : Gl p e below s n0 P C S (T.setTop (mkF m n ls (.long x :: .long x :: st)))) : Gl p e below s n0 P C S (T.setTop (mkF m pc ls (.long x :: st))) := by
  obtain ⟨_, vm0, k0, X, -, -, -, hS, -⟩ := X; obtain ⟨hx, hby, hZ, hown, -⟩ := w; have hZ := State.Warmed39.trans hZ hS.1; have hown := (hS.1.alike.findClass _ _).trans hown; subst hn
  exact Gl.of (fun t k => XT.dup2L X.here hx rfl (hb hby hd) rfl k) K
theorem gGoto (X : Sd p l e R s m args below meth c n0 T h cells slots) (w : Cx Z own nm bytes maxL ret p s m meth c) {o : Int} (hd : decode bytes pc = .ok (.goto o, 3)) (ho : 0 ≤ (pc : Int) + o) (hp : ((pc : Int) + o).toNat = n) (K : Gl p e below s n0 P C S (T.setTop (mkF m n ls st))) : Gl p e below s n0 P C S (T.setTop (mkF m pc ls st)) := by
  obtain ⟨_, vm0, k0, X, -, -, -, hS, -⟩ := X; obtain ⟨hx, hby, hZ, hown, -⟩ := w; have hZ := State.Warmed39.trans hZ hS.1; have hown := (hS.1.alike.findClass _ _).trans hown; 
  exact Gl.of (fun t k => XS.goto X.here hx rfl rfl (hb hby hd) ho hp k) K
theorem gIf_eq (X : Sd p l e R s m args below meth c n0 T h cells slots) (w : Cx Z own nm bytes maxL ret p s m meth c) {x : Int32} {o : Int} (hd : decode bytes pc = .ok (.ifCond .eq o, 3)) (ho : 0 ≤ (pc : Int) + o) {n' : Nat} (hp : ((pc : Int) + o).toNat = n) (hn : pc + 3 = n') (K1 : x = (0 : Int32) ∧ x.toInt = 0 → Gl p e below s n0 P C S (T.setTop (mkF m n ls st))) (K2 : ¬ x = (0 : Int32) ∧ ¬ x.toInt = 0 → Gl p e below s n0 P C S (T.setTop (mkF m n' ls st))) : Gl p e below s n0 P C S (T.setTop (mkF m pc ls (.int x :: st))) := by
  obtain ⟨_, vm0, k0, X, -, -, -, hS, -⟩ := X; obtain ⟨hx, hby, -⟩ := w; subst hn
  by_cases q : x = (0 : Int32)
  · exact Gl.of (fun t k => XS.ifYes X.here hx rfl rfl (hb hby hd) rfl (XT.i0_eq_t q) ho hp k) (K1 ⟨q, by rw [q]; rfl⟩)
  · exact Gl.of (fun t k => XS.ifNo X.here hx rfl (hb hby hd) rfl (XT.i0_eq_f q) k) (K2 ⟨q, fun q' => q (Int32.toInt_inj.mp q')⟩)
theorem gIcmp_eq (X : Sd p l e R s m args below meth c n0 T h cells slots) (w : Cx Z own nm bytes maxL ret p s m meth c) {x y : Int32} {o : Int} (hd : decode bytes pc = .ok (.if_icmp .eq o, 3)) (ho : 0 ≤ (pc : Int) + o) {n' : Nat} (hp : ((pc : Int) + o).toNat = n) (hn : pc + 3 = n') (K1 : x = y ∧ x.toInt = y.toInt → Gl p e below s n0 P C S (T.setTop (mkF m n ls st))) (K2 : ¬ x = y ∧ ¬ x.toInt = y.toInt → Gl p e below s n0 P C S (T.setTop (mkF m n' ls st))) : Gl p e below s n0 P C S (T.setTop (mkF m pc ls (.int y :: .int x :: st))) := by
  obtain ⟨_, vm0, k0, X, -, -, -, hS, -⟩ := X; obtain ⟨hx, hby, -⟩ := w; subst hn
  by_cases q : x = y
  · exact Gl.of (fun t k => XS.icmpYes X.here hx rfl rfl (hb hby hd) rfl (XT.ii_eq_t q) ho hp k) (K1 ⟨q, by rw [q]⟩)
  · exact Gl.of (fun t k => XS.icmpNo X.here hx rfl (hb hby hd) rfl (XT.ii_eq_f q) k) (K2 ⟨q, fun q' => q (Int32.toInt_inj.mp q')⟩)
theorem gIfL_eq (X : Sd p l e R s m args below meth c n0 T h cells slots) (w : Cx Z own nm bytes maxL ret p s m meth c) {x y : Int64} {o : Int} (hd : decode bytes pc = .ok (.ifCond .eq o, 3)) (ho : 0 ≤ (pc : Int) + o) {n' : Nat} (hp : ((pc : Int) + o).toNat = n) (hn : pc + 3 = n') (K1 : x = y ∧ x.toInt = y.toInt → Gl p e below s n0 P C S (T.setTop (mkF m n ls st))) (K2 : ¬ x = y ∧ ¬ x.toInt = y.toInt → Gl p e below s n0 P C S (T.setTop (mkF m n' ls st))) : Gl p e below s n0 P C S (T.setTop (mkF m pc ls (.int (XT.cmpL x y) :: st))) := by
  obtain ⟨_, vm0, k0, X, -, -, -, hS, -⟩ := X; obtain ⟨hx, hby, -⟩ := w; subst hn
  by_cases q : x = y
  · exact Gl.of (fun t k => XS.ifYes X.here hx rfl rfl (hb hby hd) rfl (XT.ll_eq_t q) ho hp k) (K1 ⟨q, by rw [q]⟩)
  · exact Gl.of (fun t k => XS.ifNo X.here hx rfl (hb hby hd) rfl (XT.ll_eq_f q) k) (K2 ⟨q, fun q' => q (Int64.toInt_inj.mp q')⟩)
theorem gIf_ne (X : Sd p l e R s m args below meth c n0 T h cells slots) (w : Cx Z own nm bytes maxL ret p s m meth c) {x : Int32} {o : Int} (hd : decode bytes pc = .ok (.ifCond .ne o, 3)) (ho : 0 ≤ (pc : Int) + o) {n' : Nat} (hp : ((pc : Int) + o).toNat = n) (hn : pc + 3 = n') (K1 : ¬ x = (0 : Int32) ∧ ¬ x.toInt = 0 → Gl p e below s n0 P C S (T.setTop (mkF m n ls st))) (K2 : x = (0 : Int32) ∧ x.toInt = 0 → Gl p e below s n0 P C S (T.setTop (mkF m n' ls st))) : Gl p e below s n0 P C S (T.setTop (mkF m pc ls (.int x :: st))) := by
  obtain ⟨_, vm0, k0, X, -, -, -, hS, -⟩ := X; obtain ⟨hx, hby, -⟩ := w; subst hn
  by_cases q : x = (0 : Int32)
  · exact Gl.of (fun t k => XS.ifNo X.here hx rfl (hb hby hd) rfl (XT.i0_ne_f q) k) (K2 ⟨q, by rw [q]; rfl⟩)
  · exact Gl.of (fun t k => XS.ifYes X.here hx rfl rfl (hb hby hd) rfl (XT.i0_ne_t q) ho hp k) (K1 ⟨q, fun q' => q (Int32.toInt_inj.mp q')⟩)
theorem gIcmp_ne (X : Sd p l e R s m args below meth c n0 T h cells slots) (w : Cx Z own nm bytes maxL ret p s m meth c) {x y : Int32} {o : Int} (hd : decode bytes pc = .ok (.if_icmp .ne o, 3)) (ho : 0 ≤ (pc : Int) + o) {n' : Nat} (hp : ((pc : Int) + o).toNat = n) (hn : pc + 3 = n') (K1 : ¬ x = y ∧ ¬ x.toInt = y.toInt → Gl p e below s n0 P C S (T.setTop (mkF m n ls st))) (K2 : x = y ∧ x.toInt = y.toInt → Gl p e below s n0 P C S (T.setTop (mkF m n' ls st))) : Gl p e below s n0 P C S (T.setTop (mkF m pc ls (.int y :: .int x :: st))) := by
  obtain ⟨_, vm0, k0, X, -, -, -, hS, -⟩ := X; obtain ⟨hx, hby, -⟩ := w; subst hn
  by_cases q : x = y
  · exact Gl.of (fun t k => XS.icmpNo X.here hx rfl (hb hby hd) rfl (XT.ii_ne_f q) k) (K2 ⟨q, by rw [q]⟩)
  · exact Gl.of (fun t k => XS.icmpYes X.here hx rfl rfl (hb hby hd) rfl (XT.ii_ne_t q) ho hp k) (K1 ⟨q, fun q' => q (Int32.toInt_inj.mp q')⟩)
theorem gIfL_ne (X : Sd p l e R s m args below meth c n0 T h cells slots) (w : Cx Z own nm bytes maxL ret p s m meth c) {x y : Int64} {o : Int} (hd : decode bytes pc = .ok (.ifCond .ne o, 3)) (ho : 0 ≤ (pc : Int) + o) {n' : Nat} (hp : ((pc : Int) + o).toNat = n) (hn : pc + 3 = n') (K1 : ¬ x = y ∧ ¬ x.toInt = y.toInt → Gl p e below s n0 P C S (T.setTop (mkF m n ls st))) (K2 : x = y ∧ x.toInt = y.toInt → Gl p e below s n0 P C S (T.setTop (mkF m n' ls st))) : Gl p e below s n0 P C S (T.setTop (mkF m pc ls (.int (XT.cmpL x y) :: st))) := by
  obtain ⟨_, vm0, k0, X, -, -, -, hS, -⟩ := X; obtain ⟨hx, hby, -⟩ := w; subst hn
  by_cases q : x = y
  · exact Gl.of (fun t k => XS.ifNo X.here hx rfl (hb hby hd) rfl (XT.ll_ne_f q) k) (K2 ⟨q, by rw [q]⟩)
  · exact Gl.of (fun t k => XS.ifYes X.here hx rfl rfl (hb hby hd) rfl (XT.ll_ne_t q) ho hp k) (K1 ⟨q, fun q' => q (Int64.toInt_inj.mp q')⟩)
theorem gIf_lt (X : Sd p l e R s m args below meth c n0 T h cells slots) (w : Cx Z own nm bytes maxL ret p s m meth c) {x : Int32} {o : Int} (hd : decode bytes pc = .ok (.ifCond .lt o, 3)) (ho : 0 ≤ (pc : Int) + o) {n' : Nat} (hp : ((pc : Int) + o).toNat = n) (hn : pc + 3 = n') (K1 : x.toInt < 0 → Gl p e below s n0 P C S (T.setTop (mkF m n ls st))) (K2 : 0 ≤ x.toInt → Gl p e below s n0 P C S (T.setTop (mkF m n' ls st))) : Gl p e below s n0 P C S (T.setTop (mkF m pc ls (.int x :: st))) := by
  obtain ⟨_, vm0, k0, X, -, -, -, hS, -⟩ := X; obtain ⟨hx, hby, -⟩ := w; subst hn
  by_cases q : x < (0 : Int32)
  · exact Gl.of (fun t k => XS.ifYes X.here hx rfl rfl (hb hby hd) rfl (XT.i0_lt_t q) ho hp k) (K1 (Int32.lt_iff_toInt_lt.mp q))
  · exact Gl.of (fun t k => XS.ifNo X.here hx rfl (hb hby hd) rfl (XT.i0_lt_f q) k) (K2 (Int.not_lt.mp fun q' => q (Int32.lt_iff_toInt_lt.mpr q')))
theorem gIcmp_lt (X : Sd p l e R s m args below meth c n0 T h cells slots) (w : Cx Z own nm bytes maxL ret p s m meth c) {x y : Int32} {o : Int} (hd : decode bytes pc = .ok (.if_icmp .lt o, 3)) (ho : 0 ≤ (pc : Int) + o) {n' : Nat} (hp : ((pc : Int) + o).toNat = n) (hn : pc + 3 = n') (K1 : x.toInt < y.toInt → Gl p e below s n0 P C S (T.setTop (mkF m n ls st))) (K2 : y.toInt ≤ x.toInt → Gl p e below s n0 P C S (T.setTop (mkF m n' ls st))) : Gl p e below s n0 P C S (T.setTop (mkF m pc ls (.int y :: .int x :: st))) := by
  obtain ⟨_, vm0, k0, X, -, -, -, hS, -⟩ := X; obtain ⟨hx, hby, -⟩ := w; subst hn
  by_cases q : x < y
  · exact Gl.of (fun t k => XS.icmpYes X.here hx rfl rfl (hb hby hd) rfl (XT.ii_lt_t q) ho hp k) (K1 (Int32.lt_iff_toInt_lt.mp q))
  · exact Gl.of (fun t k => XS.icmpNo X.here hx rfl (hb hby hd) rfl (XT.ii_lt_f q) k) (K2 (Int.not_lt.mp fun q' => q (Int32.lt_iff_toInt_lt.mpr q')))
theorem gIfL_lt (X : Sd p l e R s m args below meth c n0 T h cells slots) (w : Cx Z own nm bytes maxL ret p s m meth c) {x y : Int64} {o : Int} (hd : decode bytes pc = .ok (.ifCond .lt o, 3)) (ho : 0 ≤ (pc : Int) + o) {n' : Nat} (hp : ((pc : Int) + o).toNat = n) (hn : pc + 3 = n') (K1 : x.toInt < y.toInt → Gl p e below s n0 P C S (T.setTop (mkF m n ls st))) (K2 : y.toInt ≤ x.toInt → Gl p e below s n0 P C S (T.setTop (mkF m n' ls st))) : Gl p e below s n0 P C S (T.setTop (mkF m pc ls (.int (XT.cmpL x y) :: st))) := by
  obtain ⟨_, vm0, k0, X, -, -, -, hS, -⟩ := X; obtain ⟨hx, hby, -⟩ := w; subst hn
  by_cases q : x < y
  · exact Gl.of (fun t k => XS.ifYes X.here hx rfl rfl (hb hby hd) rfl (XT.ll_lt_t q) ho hp k) (K1 (Int64.lt_iff_toInt_lt.mp q))
  · exact Gl.of (fun t k => XS.ifNo X.here hx rfl (hb hby hd) rfl (XT.ll_lt_f q) k) (K2 (Int.not_lt.mp fun q' => q (Int64.lt_iff_toInt_lt.mpr q')))
theorem gIf_ge (X : Sd p l e R s m args below meth c n0 T h cells slots) (w : Cx Z own nm bytes maxL ret p s m meth c) {x : Int32} {o : Int} (hd : decode bytes pc = .ok (.ifCond .ge o, 3)) (ho : 0 ≤ (pc : Int) + o) {n' : Nat} (hp : ((pc : Int) + o).toNat = n) (hn : pc + 3 = n') (K1 : 0 ≤ x.toInt → Gl p e below s n0 P C S (T.setTop (mkF m n ls st))) (K2 : x.toInt < 0 → Gl p e below s n0 P C S (T.setTop (mkF m n' ls st))) : Gl p e below s n0 P C S (T.setTop (mkF m pc ls (.int x :: st))) := by
  obtain ⟨_, vm0, k0, X, -, -, -, hS, -⟩ := X; obtain ⟨hx, hby, -⟩ := w; subst hn
  by_cases q : x < (0 : Int32)
  · exact Gl.of (fun t k => XS.ifNo X.here hx rfl (hb hby hd) rfl (XT.i0_ge_f q) k) (K2 (Int32.lt_iff_toInt_lt.mp q))
  · exact Gl.of (fun t k => XS.ifYes X.here hx rfl rfl (hb hby hd) rfl (XT.i0_ge_t q) ho hp k) (K1 (Int.not_lt.mp fun q' => q (Int32.lt_iff_toInt_lt.mpr q')))
theorem gIcmp_ge (X : Sd p l e R s m args below meth c n0 T h cells slots) (w : Cx Z own nm bytes maxL ret p s m meth c) {x y : Int32} {o : Int} (hd : decode bytes pc = .ok (.if_icmp .ge o, 3)) (ho : 0 ≤ (pc : Int) + o) {n' : Nat} (hp : ((pc : Int) + o).toNat = n) (hn : pc + 3 = n') (K1 : y.toInt ≤ x.toInt → Gl p e below s n0 P C S (T.setTop (mkF m n ls st))) (K2 : x.toInt < y.toInt → Gl p e below s n0 P C S (T.setTop (mkF m n' ls st))) : Gl p e below s n0 P C S (T.setTop (mkF m pc ls (.int y :: .int x :: st))) := by
  obtain ⟨_, vm0, k0, X, -, -, -, hS, -⟩ := X; obtain ⟨hx, hby, -⟩ := w; subst hn
  by_cases q : x < y
  · exact Gl.of (fun t k => XS.icmpNo X.here hx rfl (hb hby hd) rfl (XT.ii_ge_f q) k) (K2 (Int32.lt_iff_toInt_lt.mp q))
  · exact Gl.of (fun t k => XS.icmpYes X.here hx rfl rfl (hb hby hd) rfl (XT.ii_ge_t q) ho hp k) (K1 (Int.not_lt.mp fun q' => q (Int32.lt_iff_toInt_lt.mpr q')))
theorem gIfL_ge (X : Sd p l e R s m args below meth c n0 T h cells slots) (w : Cx Z own nm bytes maxL ret p s m meth c) {x y : Int64} {o : Int} (hd : decode bytes pc = .ok (.ifCond .ge o, 3)) (ho : 0 ≤ (pc : Int) + o) {n' : Nat} (hp : ((pc : Int) + o).toNat = n) (hn : pc + 3 = n') (K1 : y.toInt ≤ x.toInt → Gl p e below s n0 P C S (T.setTop (mkF m n ls st))) (K2 : x.toInt < y.toInt → Gl p e below s n0 P C S (T.setTop (mkF m n' ls st))) : Gl p e below s n0 P C S (T.setTop (mkF m pc ls (.int (XT.cmpL x y) :: st))) := by
  obtain ⟨_, vm0, k0, X, -, -, -, hS, -⟩ := X; obtain ⟨hx, hby, -⟩ := w; subst hn
  by_cases q : x < y
  · exact Gl.of (fun t k => XS.ifNo X.here hx rfl (hb hby hd) rfl (XT.ll_ge_f q) k) (K2 (Int64.lt_iff_toInt_lt.mp q))
  · exact Gl.of (fun t k => XS.ifYes X.here hx rfl rfl (hb hby hd) rfl (XT.ll_ge_t q) ho hp k) (K1 (Int.not_lt.mp fun q' => q (Int64.lt_iff_toInt_lt.mpr q')))
theorem gIf_gt (X : Sd p l e R s m args below meth c n0 T h cells slots) (w : Cx Z own nm bytes maxL ret p s m meth c) {x : Int32} {o : Int} (hd : decode bytes pc = .ok (.ifCond .gt o, 3)) (ho : 0 ≤ (pc : Int) + o) {n' : Nat} (hp : ((pc : Int) + o).toNat = n) (hn : pc + 3 = n') (K1 : 0 < x.toInt → Gl p e below s n0 P C S (T.setTop (mkF m n ls st))) (K2 : x.toInt ≤ 0 → Gl p e below s n0 P C S (T.setTop (mkF m n' ls st))) : Gl p e below s n0 P C S (T.setTop (mkF m pc ls (.int x :: st))) := by
  obtain ⟨_, vm0, k0, X, -, -, -, hS, -⟩ := X; obtain ⟨hx, hby, -⟩ := w; subst hn
  by_cases q : (0 : Int32) < x
  · exact Gl.of (fun t k => XS.ifYes X.here hx rfl rfl (hb hby hd) rfl (XT.i0_gt_t q) ho hp k) (K1 (Int32.lt_iff_toInt_lt.mp q))
  · exact Gl.of (fun t k => XS.ifNo X.here hx rfl (hb hby hd) rfl (XT.i0_gt_f q) k) (K2 (Int.not_lt.mp fun q' => q (Int32.lt_iff_toInt_lt.mpr q')))
theorem gIcmp_gt (X : Sd p l e R s m args below meth c n0 T h cells slots) (w : Cx Z own nm bytes maxL ret p s m meth c) {x y : Int32} {o : Int} (hd : decode bytes pc = .ok (.if_icmp .gt o, 3)) (ho : 0 ≤ (pc : Int) + o) {n' : Nat} (hp : ((pc : Int) + o).toNat = n) (hn : pc + 3 = n') (K1 : y.toInt < x.toInt → Gl p e below s n0 P C S (T.setTop (mkF m n ls st))) (K2 : x.toInt ≤ y.toInt → Gl p e below s n0 P C S (T.setTop (mkF m n' ls st))) : Gl p e below s n0 P C S (T.setTop (mkF m pc ls (.int y :: .int x :: st))) := by
  obtain ⟨_, vm0, k0, X, -, -, -, hS, -⟩ := X; obtain ⟨hx, hby, -⟩ := w; subst hn
  by_cases q : y < x
  · exact Gl.of (fun t k => XS.icmpYes X.here hx rfl rfl (hb hby hd) rfl (XT.ii_gt_t q) ho hp k) (K1 (Int32.lt_iff_toInt_lt.mp q))
  · exact Gl.of (fun t k => XS.icmpNo X.here hx rfl (hb hby hd) rfl (XT.ii_gt_f q) k) (K2 (Int.not_lt.mp fun q' => q (Int32.lt_iff_toInt_lt.mpr q')))
theorem gIfL_gt (X : Sd p l e R s m args below meth c n0 T h cells slots) (w : Cx Z own nm bytes maxL ret p s m meth c) {x y : Int64} {o : Int} (hd : decode bytes pc = .ok (.ifCond .gt o, 3)) (ho : 0 ≤ (pc : Int) + o) {n' : Nat} (hp : ((pc : Int) + o).toNat = n) (hn : pc + 3 = n') (K1 : y.toInt < x.toInt → Gl p e below s n0 P C S (T.setTop (mkF m n ls st))) (K2 : x.toInt ≤ y.toInt → Gl p e below s n0 P C S (T.setTop (mkF m n' ls st))) : Gl p e below s n0 P C S (T.setTop (mkF m pc ls (.int (XT.cmpL x y) :: st))) := by
  obtain ⟨_, vm0, k0, X, -, -, -, hS, -⟩ := X; obtain ⟨hx, hby, -⟩ := w; subst hn
  by_cases q : y < x
  · exact Gl.of (fun t k => XS.ifYes X.here hx rfl rfl (hb hby hd) rfl (XT.ll_gt_t q) ho hp k) (K1 (Int64.lt_iff_toInt_lt.mp q))
  · exact Gl.of (fun t k => XS.ifNo X.here hx rfl (hb hby hd) rfl (XT.ll_gt_f q) k) (K2 (Int.not_lt.mp fun q' => q (Int64.lt_iff_toInt_lt.mpr q')))
theorem gIf_le (X : Sd p l e R s m args below meth c n0 T h cells slots) (w : Cx Z own nm bytes maxL ret p s m meth c) {x : Int32} {o : Int} (hd : decode bytes pc = .ok (.ifCond .le o, 3)) (ho : 0 ≤ (pc : Int) + o) {n' : Nat} (hp : ((pc : Int) + o).toNat = n) (hn : pc + 3 = n') (K1 : x.toInt ≤ 0 → Gl p e below s n0 P C S (T.setTop (mkF m n ls st))) (K2 : 0 < x.toInt → Gl p e below s n0 P C S (T.setTop (mkF m n' ls st))) : Gl p e below s n0 P C S (T.setTop (mkF m pc ls (.int x :: st))) := by
  obtain ⟨_, vm0, k0, X, -, -, -, hS, -⟩ := X; obtain ⟨hx, hby, -⟩ := w; subst hn
  by_cases q : (0 : Int32) < x
  · exact Gl.of (fun t k => XS.ifNo X.here hx rfl (hb hby hd) rfl (XT.i0_le_f q) k) (K2 (Int32.lt_iff_toInt_lt.mp q))
  · exact Gl.of (fun t k => XS.ifYes X.here hx rfl rfl (hb hby hd) rfl (XT.i0_le_t q) ho hp k) (K1 (Int.not_lt.mp fun q' => q (Int32.lt_iff_toInt_lt.mpr q')))
theorem gIcmp_le (X : Sd p l e R s m args below meth c n0 T h cells slots) (w : Cx Z own nm bytes maxL ret p s m meth c) {x y : Int32} {o : Int} (hd : decode bytes pc = .ok (.if_icmp .le o, 3)) (ho : 0 ≤ (pc : Int) + o) {n' : Nat} (hp : ((pc : Int) + o).toNat = n) (hn : pc + 3 = n') (K1 : x.toInt ≤ y.toInt → Gl p e below s n0 P C S (T.setTop (mkF m n ls st))) (K2 : y.toInt < x.toInt → Gl p e below s n0 P C S (T.setTop (mkF m n' ls st))) : Gl p e below s n0 P C S (T.setTop (mkF m pc ls (.int y :: .int x :: st))) := by
  obtain ⟨_, vm0, k0, X, -, -, -, hS, -⟩ := X; obtain ⟨hx, hby, -⟩ := w; subst hn
  by_cases q : y < x
  · exact Gl.of (fun t k => XS.icmpNo X.here hx rfl (hb hby hd) rfl (XT.ii_le_f q) k) (K2 (Int32.lt_iff_toInt_lt.mp q))
  · exact Gl.of (fun t k => XS.icmpYes X.here hx rfl rfl (hb hby hd) rfl (XT.ii_le_t q) ho hp k) (K1 (Int.not_lt.mp fun q' => q (Int32.lt_iff_toInt_lt.mpr q')))
theorem gIfL_le (X : Sd p l e R s m args below meth c n0 T h cells slots) (w : Cx Z own nm bytes maxL ret p s m meth c) {x y : Int64} {o : Int} (hd : decode bytes pc = .ok (.ifCond .le o, 3)) (ho : 0 ≤ (pc : Int) + o) {n' : Nat} (hp : ((pc : Int) + o).toNat = n) (hn : pc + 3 = n') (K1 : x.toInt ≤ y.toInt → Gl p e below s n0 P C S (T.setTop (mkF m n ls st))) (K2 : y.toInt < x.toInt → Gl p e below s n0 P C S (T.setTop (mkF m n' ls st))) : Gl p e below s n0 P C S (T.setTop (mkF m pc ls (.int (XT.cmpL x y) :: st))) := by
  obtain ⟨_, vm0, k0, X, -, -, -, hS, -⟩ := X; obtain ⟨hx, hby, -⟩ := w; subst hn
  by_cases q : y < x
  · exact Gl.of (fun t k => XS.ifNo X.here hx rfl (hb hby hd) rfl (XT.ll_le_f q) k) (K2 (Int64.lt_iff_toInt_lt.mp q))
  · exact Gl.of (fun t k => XS.ifYes X.here hx rfl rfl (hb hby hd) rfl (XT.ll_le_t q) ho hp k) (K1 (Int.not_lt.mp fun q' => q (Int64.lt_iff_toInt_lt.mpr q')))
theorem gAcmp_eq (X : Sd p l e R s m args below meth c n0 T h cells slots) (w : Cx Z own nm bytes maxL ret p s m meth c) {x y : Value} {o : Int} (hd : decode bytes pc = .ok (.if_acmp .eq o, 3)) (hx' : x.isRef = true) (hy' : y.isRef = true) (ho : 0 ≤ (pc : Int) + o) {n' : Nat} (hp : ((pc : Int) + o).toNat = n) (hn : pc + 3 = n') (K1 : x = y → Gl p e below s n0 P C S (T.setTop (mkF m n ls st))) (K2 : ¬ x = y → Gl p e below s n0 P C S (T.setTop (mkF m n' ls st))) : Gl p e below s n0 P C S (T.setTop (mkF m pc ls (y :: x :: st))) := by
  obtain ⟨_, vm0, k0, X, -, -, -, hS, -⟩ := X; obtain ⟨hx, hby, -⟩ := w; subst hn
  by_cases q : x = y
  · exact Gl.of (fun t k => XT.acmpYes X.here hx rfl rfl (hb hby hd) rfl hx' hy' (XT.aa_eq_t q) ho hp k) (K1 q)
  · exact Gl.of (fun t k => XT.acmpNo X.here hx rfl (hb hby hd) rfl hx' hy' (XT.aa_eq_f q) k) (K2 q)
theorem gAcmp_ne (X : Sd p l e R s m args below meth c n0 T h cells slots) (w : Cx Z own nm bytes maxL ret p s m meth c) {x y : Value} {o : Int} (hd : decode bytes pc = .ok (.if_acmp .ne o, 3)) (hx' : x.isRef = true) (hy' : y.isRef = true) (ho : 0 ≤ (pc : Int) + o) {n' : Nat} (hp : ((pc : Int) + o).toNat = n) (hn : pc + 3 = n') (K1 : ¬ x = y → Gl p e below s n0 P C S (T.setTop (mkF m n ls st))) (K2 : x = y → Gl p e below s n0 P C S (T.setTop (mkF m n' ls st))) : Gl p e below s n0 P C S (T.setTop (mkF m pc ls (y :: x :: st))) := by
  obtain ⟨_, vm0, k0, X, -, -, -, hS, -⟩ := X; obtain ⟨hx, hby, -⟩ := w; subst hn
  by_cases q : x = y
  · exact Gl.of (fun t k => XT.acmpNo X.here hx rfl (hb hby hd) rfl hx' hy' (XT.aa_ne_f q) k) (K2 q)
  · exact Gl.of (fun t k => XT.acmpYes X.here hx rfl rfl (hb hby hd) rfl hx' hy' (XT.aa_ne_t q) ho hp k) (K1 q)
theorem gIfnullY (X : Sd p l e R s m args below meth c n0 T h cells slots) (w : Cx Z own nm bytes maxL ret p s m meth c) {o : Int} (hd : decode bytes pc = .ok (.ifnull o, 3)) (ho : 0 ≤ (pc : Int) + o) (hp : ((pc : Int) + o).toNat = n) (K : Gl p e below s n0 P C S (T.setTop (mkF m n ls st))) : Gl p e below s n0 P C S (T.setTop (mkF m pc ls (.null :: st))) := by
  obtain ⟨_, vm0, k0, X, -, -, -, hS, -⟩ := X; obtain ⟨hx, hby, hZ, hown, -⟩ := w; have hZ := State.Warmed39.trans hZ hS.1; have hown := (hS.1.alike.findClass _ _).trans hown; 
  exact Gl.of (fun t k => XS.ifnullYes X.here hx rfl rfl (hb hby hd) rfl ho hp k) K
theorem gIfnullN (X : Sd p l e R s m args below meth c n0 T h cells slots) (w : Cx Z own nm bytes maxL ret p s m meth c) {o : Int} {b : Addr} (hd : decode bytes pc = .ok (.ifnull o, 3)) (hn : pc + 3 = n) (K : Gl p e below s n0 P C S (T.setTop (mkF m n ls st))) : Gl p e below s n0 P C S (T.setTop (mkF m pc ls (.ref b :: st))) := by
  obtain ⟨_, vm0, k0, X, -, -, -, hS, -⟩ := X; obtain ⟨hx, hby, hZ, hown, -⟩ := w; have hZ := State.Warmed39.trans hZ hS.1; have hown := (hS.1.alike.findClass _ _).trans hown; subst hn
  exact Gl.of (fun t k => XS.ifnullNo X.here hx rfl (hb hby hd) rfl k) K
theorem gIfnonnullY (X : Sd p l e R s m args below meth c n0 T h cells slots) (w : Cx Z own nm bytes maxL ret p s m meth c) {o : Int} {b : Addr} (hd : decode bytes pc = .ok (.ifnonnull o, 3)) (ho : 0 ≤ (pc : Int) + o) (hp : ((pc : Int) + o).toNat = n) (K : Gl p e below s n0 P C S (T.setTop (mkF m n ls st))) : Gl p e below s n0 P C S (T.setTop (mkF m pc ls (.ref b :: st))) := by
  obtain ⟨_, vm0, k0, X, -, -, -, hS, -⟩ := X; obtain ⟨hx, hby, hZ, hown, -⟩ := w; have hZ := State.Warmed39.trans hZ hS.1; have hown := (hS.1.alike.findClass _ _).trans hown; 
  exact Gl.of (fun t k => XT.ifnonnullYes X.here hx rfl rfl (hb hby hd) rfl ho hp k) K
theorem gIfnonnullN (X : Sd p l e R s m args below meth c n0 T h cells slots) (w : Cx Z own nm bytes maxL ret p s m meth c) {o : Int} (hd : decode bytes pc = .ok (.ifnonnull o, 3)) (hn : pc + 3 = n) (K : Gl p e below s n0 P C S (T.setTop (mkF m n ls st))) : Gl p e below s n0 P C S (T.setTop (mkF m pc ls (.null :: st))) := by
  obtain ⟨_, vm0, k0, X, -, -, -, hS, -⟩ := X; obtain ⟨hx, hby, hZ, hown, -⟩ := w; have hZ := State.Warmed39.trans hZ hS.1; have hown := (hS.1.alike.findClass _ _).trans hown; subst hn
  exact Gl.of (fun t k => XT.ifnonnullNo X.here hx rfl (hb hby hd) rfl k) K
theorem gRet (X : Sd p l e R s m args below meth c n0 T h cells slots) (w : Cx Z own nm bytes maxL ret p s m meth c) {v : Value} {t : FieldType} {i : Instr} (hret : ret = some t) (hn : narrow t v = v) (hi : (i = .ireturn ∧ (t = .int ∨ t = .boolean ∨ t = .byte ∨ t = .char ∨ t = .short) ∧ ∃ z, v = .int z) ∨ (i = .lreturn ∧ t = .long ∧ ∃ z, v = .long z) ∨ (i = .dreturn ∧ t = .double ∧ ∃ z, v = .double z) ∨ (i = .freturn ∧ t = .float ∧ ∃ z, v = .float z) ∨ (i = .areturn ∧ t.isReference = true ∧ v.isRef = true))
    (hd : decode bytes pc = .ok (i, 1)) (hc : cells ≤ C) (hs : slots ≤ S) (hP : P (some v) h) : Gl p e below s n0 P C S (T.setTop (mkF m pc ls (v :: st))) := by
  obtain ⟨locs, vm0, k0, X, N, eh, -, hS, hk0⟩ := X; obtain ⟨hx, hby, hZ, hown, -, -, hr', hlk⟩ := w
  obtain ⟨fs, hr, hrun, hended, hW, hsame⟩ := X.leave (v := some v) (fun q => by rw [hr', hret] at q; cases q) hlk
  refine ⟨_, _, retOut X hx (hr'.trans hret) hn hi (hb hby hd) hr, hrun, hended, _, _, rfl, ⟨?_, N⟩, ⟨_, rfl⟩, (hS.ended hW (by show k0 ≤ T.heap.size; rw [eh]; exact hk0) (hsame.mono hc hs)).1, (hS.ended hW (by show k0 ≤ T.heap.size; rw [eh]; exact hk0) (hsame.mono hc hs)).2.1, (hS.ended hW (by show k0 ≤ T.heap.size; rw [eh]; exact hk0) (hsame.mono hc hs)).2.2⟩
  show P (some v) T.heap
  rw [eh]; exact hP
theorem gRetI (X : Sd p l e R s m args below meth c n0 T h cells slots) (w : Cx Z own nm bytes maxL ret p s m meth c) {z : Int32} (hret : ret = some .int) (hd : decode bytes pc = .ok (.ireturn, 1)) (hc : cells ≤ C) (hs : slots ≤ S) (hP : P (some (.int z)) h) : Gl p e below s n0 P C S (T.setTop (mkF m pc ls (.int z :: st))) := gRet X w hret rfl (Or.inl ⟨rfl, Or.inl rfl, z, rfl⟩) hd hc hs hP
theorem gRetZ (X : Sd p l e R s m args below meth c n0 T h cells slots) (w : Cx Z own nm bytes maxL ret p s m meth c) {z : Int32} (hret : ret = some .boolean) (hz : z = 0 ∨ z = 1) (hd : decode bytes pc = .ok (.ireturn, 1)) (hc : cells ≤ C) (hs : slots ≤ S) (hP : P (some (.int z)) h) : Gl p e below s n0 P C S (T.setTop (mkF m pc ls (.int z :: st))) := gRet X w hret (by rcases hz with rfl | rfl <;> rfl) (Or.inl ⟨rfl, Or.inr (Or.inl rfl), z, rfl⟩) hd hc hs hP
theorem gRetJ (X : Sd p l e R s m args below meth c n0 T h cells slots) (w : Cx Z own nm bytes maxL ret p s m meth c) {z : Int64} (hret : ret = some .long) (hd : decode bytes pc = .ok (.lreturn, 1)) (hc : cells ≤ C) (hs : slots ≤ S) (hP : P (some (.long z)) h) : Gl p e below s n0 P C S (T.setTop (mkF m pc ls (.long z :: st))) := gRet X w hret rfl (Or.inr (Or.inl ⟨rfl, rfl, z, rfl⟩)) hd hc hs hP
theorem gRetD (X : Sd p l e R s m args below meth c n0 T h cells slots) (w : Cx Z own nm bytes maxL ret p s m meth c) {z : UInt64} (hret : ret = some .double) (hd : decode bytes pc = .ok (.dreturn, 1)) (hc : cells ≤ C) (hs : slots ≤ S) (hP : P (some (.double z)) h) : Gl p e below s n0 P C S (T.setTop (mkF m pc ls (.double z :: st))) := gRet X w hret rfl (Or.inr (Or.inr (Or.inl ⟨rfl, rfl, z, rfl⟩))) hd hc hs hP
theorem gRetA (X : Sd p l e R s m args below meth c n0 T h cells slots) (w : Cx Z own nm bytes maxL ret p s m meth c) {v : Value} {t : FieldType} (hret : ret = some t) (ht : t.isReference = true) (hv : v.isRef = true) (hd : decode bytes pc = .ok (.areturn, 1)) (hc : cells ≤ C) (hs : slots ≤ S) (hP : P (some v) h) : Gl p e below s n0 P C S (T.setTop (mkF m pc ls (v :: st))) := gRet X w hret (by rcases ref_cases hv with rfl | ⟨a, rfl⟩ <;> cases t <;> first | rfl | cases ht) (Or.inr (Or.inr (Or.inr (Or.inr ⟨rfl, ht, hv⟩)))) hd hc hs hP
theorem gRetV (X : Sd p l e R s m args below meth c n0 T h cells slots) (w : Cx Z own nm bytes maxL ret p s m meth c) (hret : ret = none) (hd : decode bytes pc = .ok (.return_, 1)) (hc : cells ≤ C) (hs : slots ≤ S) (hP : P none h) : Gl p e below s n0 P C S (T.setTop (mkF m pc ls [])) := by
  obtain ⟨locs, vm0, k0, X, N, eh, -, hS, hk0⟩ := X; obtain ⟨hx, hby, hZ, hown, -, -, hr', hlk⟩ := w
  obtain ⟨fs, hr, hrun, hended, hW, hsame⟩ := X.leave (v := none) (fun q => rfl) hlk
  refine ⟨_, _, X.returnOut hx (hr'.trans hret) (hb hby hd) hr, hrun, hended, _, _, rfl, ⟨?_, N⟩, ⟨_, rfl⟩, (hS.ended hW (by show k0 ≤ T.heap.size; rw [eh]; exact hk0) (hsame.mono hc hs)).1, (hS.ended hW (by show k0 ≤ T.heap.size; rw [eh]; exact hk0) (hsame.mono hc hs)).2.1, (hS.ended hW (by show k0 ≤ T.heap.size; rw [eh]; exact hk0) (hsame.mono hc hs)).2.2⟩
  show P none T.heap
  rw [eh]; exact hP
theorem gCallS (X : Sd p l e R s m args below meth c n0 T h cells slots) (w : Cx Z own nm bytes maxL ret p s m meth c) {y : MethodName} {yb : ByteArray} {yl : Nat} {yr : Option FieldType} {rm : Room} {Q : Option Value → Heap → Prop} {idx W : Nat} (aL rest : List Value) {ps : List FieldType} {r : Option FieldType}
    (hM : Con l Z y yb yl yr [] rm rm.cells rm.slots aL.toArray h n0 Q) (w1 : (Jvm.Cond.methodLink own idx y).before a0 Z = true) (w2 : (Jvm.Cond.static y).before a0 Z = true) (w3 : (Jvm.Cond.initialized y.cls).before a0 Z = true) (w4 : (Jvm.Cond.code y yb yl yr).before a0 Z = true) (hy : y.cls ≠ "java/lang/invoke/MethodHandle" ∧ y.cls ≠ "java/lang/invoke/VarHandle")
    (hpd : parseMethodDescriptor y.desc = some ⟨ps, r⟩) (hlen : aL.length = ps.length) (hstk : st = aL.reverse ++ rest) (hd : decode bytes pc = .ok (.invokestatic idx, 3)) (hsz : ls.size = maxL) (hW : (rest.map fun v => v.category).sum ≤ W)
    (hf : rm.frames + 1 ≤ R.frames) (hl : W + (yl + 11) + rm.locals ≤ R.locals) (hcc : cells + rm.cells ≤ R.cells) (hss : slots + rm.slots ≤ R.slots) (hn : pc + 3 = n)
    (K : ∀ T' h' v, Q v h' → Sd p l e R s m args below meth c n0 T' h' (cells + rm.cells) (slots + rm.slots) → Gl p e below s n0 P C S (T'.setTop (mkF m n ls (v.toList ++ rest)))) : Gl p e below s n0 P C S (T.setTop (mkF m pc ls st)) := by
  obtain ⟨locs, vm0, k0, X, N, eh, hn0, hS, hk0⟩ := X; obtain ⟨hx, hby, hZ, hown, -, hml, -⟩ := w; have hZ := State.Warmed39.trans hZ hS.1; have hown := (hS.1.alike.findClass _ _).trans hown; subst hn
  obtain ⟨v, vm, ⟨T', L, k, sl⟩, -, X', hS2, hgr, ⟨Lc, ⟨hQ, NL⟩, l1, y1, z1⟩, st'⟩ := callSS X hx (y := y) hown (mvT hZ w1) (mvT hZ w2) (mvT hZ w3) (mvT hZ w4) hy (backOfS (W := W) (Q := fun v h L => Q v h ∧ Fr n0 L) (Con.met hM) hZ w4 w3 hf hl) (g := mkF m pc ls st) rfl (by rw [hml]; exact hsz) (argsL := aL) (rest := rest) (lenOf hpd hlen) hstk (by show 2 * 0 + _ ≤ _; rw [Nat.mul_zero, Nat.zero_add]; exact hW) (hb hby hd) (fun _ _ => ⟨rfl, eh, hcc, hss⟩)
  dsimp only [Pt.U, Pt.locs, Pt.cells, Pt.slots] at X' l1 y1 z1 st' hQ hS2 hgr
  subst l1 y1 z1
  exact Gl.of (fun t k => st'.trans k) (K T' T'.heap v hQ ⟨_, T'.vm, T'.heap.size, X', Fr.app N NL, rfl, hn0, hS.trans hS2 (Nat.le_trans hk0 (by rw [← eh]; exact hgr)), Nat.le_refl _⟩)
theorem gCallV (X : Sd p l e R s m args below meth c n0 T h cells slots) (w : Cx Z own nm bytes maxL ret p s m meth c) {y z : MethodName} {yb : ByteArray} {yl : Nat} {yr : Option FieldType} {rm : Room} {Q : Option Value → Heap → Prop} {idx W : Nat} {b : Addr} {C0 : String} (aL rest : List Value) {ps : List FieldType} {r : Option FieldType} (E : Exa Z h b C0)
    (hM : Con l Z z yb yl yr [] rm rm.cells rm.slots (.ref b :: aL).toArray h n0 Q) (w1 : (Jvm.Cond.methodLink own idx y).before a0 Z = true) (w2 : (Jvm.Cond.declares y).before a0 Z = true) (hnf : ∀ vm0, s.Since vm0 h.size → NotFace (s.setVm vm0) y) (w5 : (Jvm.Cond.selects C0 y z).before a0 Z = true) (w6 : (Jvm.Cond.instanceMethod z).before a0 Z = true) (w3 : (Jvm.Cond.initialized z.cls).before a0 Z = true) (w4 : (Jvm.Cond.code z yb yl yr).before a0 Z = true) (hy : y.cls ≠ "java/lang/invoke/MethodHandle" ∧ y.cls ≠ "java/lang/invoke/VarHandle")
    (hpd : parseMethodDescriptor y.desc = some ⟨ps, r⟩) (hlen : aL.length = ps.length) (hstk : st = aL.reverse ++ .ref b :: rest) (hd : decode bytes pc = .ok (.invokevirtual idx, 3)) (hsz : ls.size = maxL) (hW : (rest.map fun v => v.category).sum ≤ W)
    (hf : rm.frames + 1 ≤ R.frames) (hl : W + (yl + 11) + rm.locals ≤ R.locals) (hcc : cells + rm.cells ≤ R.cells) (hss : slots + rm.slots ≤ R.slots) (hn : pc + 3 = n)
    (K : ∀ T' h' v, Q v h' → Sd p l e R s m args below meth c n0 T' h' (cells + rm.cells) (slots + rm.slots) → Gl p e below s n0 P C S (T'.setTop (mkF m n ls (v.toList ++ rest)))) : Gl p e below s n0 P C S (T.setTop (mkF m pc ls st)) := by
  obtain ⟨locs, vm0, k0, X, N, eh, hn0, hS, hk0⟩ := X; obtain ⟨hx, hby, hZ, hown, -, hml, -⟩ := w; have hZ := State.Warmed39.trans hZ hS.1; have hown := (hS.1.alike.findClass _ _).trans hown; subst hn
  obtain ⟨cq, kq, qa, qb, qc⟩ := isOf (s := s.setVm vm0) hZ eh E
  obtain ⟨v, vm, ⟨T', L, k, sl⟩, -, X', hS2, hgr, ⟨Lc, ⟨hQ, NL⟩, l1, y1, z1⟩, st'⟩ := X.virtualBackS hx (y := y) (z := z) hown (mvT hZ w1) (mvT hZ w2) (hnf vm0 ⟨hS.1, hS.2.mono hk0⟩) (mvT hZ w5) (mvT hZ w6) hy (backOfS (W := W) (Q := fun v h L => Q v h ∧ Fr n0 L) (Con.met hM) hZ w4 w3 hf hl) qa qc (g := mkF m pc ls st) rfl (by rw [hml]; exact hsz) (Steps.refl _) (argsL := aL) (rest := rest) (lenOf hpd hlen) hstk (by show 2 * 0 + _ ≤ _; rw [Nat.mul_zero, Nat.zero_add]; exact hW) (hb hby hd) (fun _ _ => ⟨rfl, eh, hcc, hss⟩)
  dsimp only [Pt.U, Pt.locs, Pt.cells, Pt.slots] at X' l1 y1 z1 st' hQ hS2 hgr
  subst l1 y1 z1
  exact Gl.of (fun t k => st'.trans k) (K T' T'.heap v hQ ⟨_, T'.vm, T'.heap.size, X', Fr.app N NL, rfl, hn0, hS.trans hS2 (Nat.le_trans hk0 (by rw [← eh]; exact hgr)), Nat.le_refl _⟩)
theorem gCallI (X : Sd p l e R s m args below meth c n0 T h cells slots) (w : Cx Z own nm bytes maxL ret p s m meth c) {y : MethodName} {yb : ByteArray} {yl : Nat} {rm : Room} {Q : Option Value → Heap → Prop} {idx W : Nat} {b : Addr} (aL rest : List Value) {ps : List FieldType} {r : Option FieldType} (hy1 : y.name = "<init>")
    (hM : Con l Z y yb yl none [] rm rm.cells rm.slots (.ref b :: aL).toArray h n0 Q) (w1 : (Jvm.Cond.methodLink own idx y).before a0 Z = true) (w2 : (Jvm.Cond.instanceMethod y).before a0 Z = true) (w3 : (Jvm.Cond.initialized y.cls).before a0 Z = true) (w4 : (Jvm.Cond.code y yb yl none).before a0 Z = true) (hy : y.cls ≠ "java/lang/invoke/MethodHandle" ∧ y.cls ≠ "java/lang/invoke/VarHandle")
    (hpd : parseMethodDescriptor y.desc = some ⟨ps, r⟩) (hlen : aL.length = ps.length) (hstk : st = aL.reverse ++ .ref b :: rest) (hd : decode bytes pc = .ok (.invokespecial idx, 3)) (hsz : ls.size = maxL) (hW : (rest.map fun v => v.category).sum ≤ W)
    (hf : rm.frames + 1 ≤ R.frames) (hl : W + (yl + 11) + rm.locals ≤ R.locals) (hcc : cells + rm.cells ≤ R.cells) (hss : slots + rm.slots ≤ R.slots) (hn : pc + 3 = n)
    (K : ∀ T' h' v, Q v h' → Sd p l e R s m args below meth c n0 T' h' (cells + rm.cells) (slots + rm.slots) → Gl p e below s n0 P C S (T'.setTop (mkF m n ls (v.toList ++ rest)))) : Gl p e below s n0 P C S (T.setTop (mkF m pc ls st)) := by
  obtain ⟨locs, vm0, k0, X, N, eh, hn0, hS, hk0⟩ := X; obtain ⟨hx, hby, hZ, hown, -, hml, -⟩ := w; have hZ := State.Warmed39.trans hZ hS.1; have hown := (hS.1.alike.findClass _ _).trans hown; subst hn
  obtain ⟨v, vm, ⟨T', L, k, sl⟩, -, X', hS2, hgr, ⟨Lc, ⟨hQ, NL⟩, l1, y1, z1⟩, st'⟩ := X.specialBackS hx (y := y) hy1 hown (mvT hZ w1) (mvT hZ w2) (mvT hZ w4) hy (backOfS (W := W) (Q := fun v h L => Q v h ∧ Fr n0 L) (Con.met hM) hZ w4 w3 hf hl) (g := mkF m pc ls st) rfl (by rw [hml]; exact hsz) (Steps.refl _) (a := b) (argsL := aL) (rest := rest) (lenOf hpd hlen) hstk (by show 2 * 0 + _ ≤ _; rw [Nat.mul_zero, Nat.zero_add]; exact hW) (hb hby hd) (fun _ _ => ⟨rfl, eh, hcc, hss⟩)
  dsimp only [Pt.U, Pt.locs, Pt.cells, Pt.slots] at X' l1 y1 z1 st' hQ hS2 hgr
  subst l1 y1 z1
  exact Gl.of (fun t k => st'.trans k) (K T' T'.heap v hQ ⟨_, T'.vm, T'.heap.size, X', Fr.app N NL, rfl, hn0, hS.trans hS2 (Nat.le_trans hk0 (by rw [← eh]; exact hgr)), Nat.le_refl _⟩)
theorem gCallSv (X : Sd p l e R s m args below meth c n0 T h cells slots) (w : Cx Z own nm bytes maxL ret p s m meth c) {y : MethodName} {yb : ByteArray} {yl : Nat} {yr : Option FieldType} {rm : Room} {Q : Value → Heap → Prop} {idx W : Nat} (aL rest : List Value) {ps : List FieldType} {r : Option FieldType}
    (hM : ConV l Z y yb yl yr rm aL.toArray h n0 Q) (w1 : (Jvm.Cond.methodLink own idx y).before a0 Z = true) (w2 : (Jvm.Cond.static y).before a0 Z = true) (w3 : (Jvm.Cond.initialized y.cls).before a0 Z = true) (w4 : (Jvm.Cond.code y yb yl yr).before a0 Z = true) (hy : y.cls ≠ "java/lang/invoke/MethodHandle" ∧ y.cls ≠ "java/lang/invoke/VarHandle")
    (hpd : parseMethodDescriptor y.desc = some ⟨ps, r⟩) (hlen : aL.length = ps.length) (hstk : st = aL.reverse ++ rest) (hd : decode bytes pc = .ok (.invokestatic idx, 3)) (hsz : ls.size = maxL) (hW : (rest.map fun v => v.category).sum ≤ W)
    (hf : rm.frames + 1 ≤ R.frames) (hl : W + (yl + 11) + rm.locals ≤ R.locals) (hcc : cells + rm.cells ≤ R.cells) (hss : slots + rm.slots ≤ R.slots) (hn : pc + 3 = n)
    (K : ∀ T' h' v, Q v h' → Sd p l e R s m args below meth c n0 T' h' (cells + rm.cells) (slots + rm.slots) → Gl p e below s n0 P C S (T'.setTop (mkF m n ls (v :: rest)))) : Gl p e below s n0 P C S (T.setTop (mkF m pc ls st)) :=
  gCallS X w aL rest hM w1 w2 w3 w4 hy hpd hlen hstk hd hsz hW hf hl hcc hss hn (fun T' h' v q X => by obtain ⟨v', rfl, q⟩ := q; exact K T' h' v' q X)
theorem gCallSn (X : Sd p l e R s m args below meth c n0 T h cells slots) (w : Cx Z own nm bytes maxL ret p s m meth c) {y : MethodName} {yb : ByteArray} {yl : Nat} {rm : Room} {Q : Heap → Prop} {idx W : Nat} (aL rest : List Value) {ps : List FieldType} {r : Option FieldType}
    (hM : ConN l Z y yb yl rm aL.toArray h n0 Q) (w1 : (Jvm.Cond.methodLink own idx y).before a0 Z = true) (w2 : (Jvm.Cond.static y).before a0 Z = true) (w3 : (Jvm.Cond.initialized y.cls).before a0 Z = true) (w4 : (Jvm.Cond.code y yb yl none).before a0 Z = true) (hy : y.cls ≠ "java/lang/invoke/MethodHandle" ∧ y.cls ≠ "java/lang/invoke/VarHandle")
    (hpd : parseMethodDescriptor y.desc = some ⟨ps, r⟩) (hlen : aL.length = ps.length) (hstk : st = aL.reverse ++ rest) (hd : decode bytes pc = .ok (.invokestatic idx, 3)) (hsz : ls.size = maxL) (hW : (rest.map fun v => v.category).sum ≤ W)
    (hf : rm.frames + 1 ≤ R.frames) (hl : W + (yl + 11) + rm.locals ≤ R.locals) (hcc : cells + rm.cells ≤ R.cells) (hss : slots + rm.slots ≤ R.slots) (hn : pc + 3 = n)
    (K : ∀ T' h', Q h' → Sd p l e R s m args below meth c n0 T' h' (cells + rm.cells) (slots + rm.slots) → Gl p e below s n0 P C S (T'.setTop (mkF m n ls rest))) : Gl p e below s n0 P C S (T.setTop (mkF m pc ls st)) :=
  gCallS X w aL rest hM w1 w2 w3 w4 hy hpd hlen hstk hd hsz hW hf hl hcc hss hn (fun T' h' v q X => by obtain ⟨rfl, q⟩ := q; exact K T' h' q X)
theorem gCallVv (X : Sd p l e R s m args below meth c n0 T h cells slots) (w : Cx Z own nm bytes maxL ret p s m meth c) {y z : MethodName} {yb : ByteArray} {yl : Nat} {yr : Option FieldType} {rm : Room} {Q : Value → Heap → Prop} {idx W : Nat} {b : Addr} {C0 : String} (aL rest : List Value) {ps : List FieldType} {r : Option FieldType} (E : Exa Z h b C0)
    (hM : ConV l Z z yb yl yr rm (.ref b :: aL).toArray h n0 Q) (w1 : (Jvm.Cond.methodLink own idx y).before a0 Z = true) (w2 : (Jvm.Cond.declares y).before a0 Z = true) (hnf : ∀ vm0, s.Since vm0 h.size → NotFace (s.setVm vm0) y) (w5 : (Jvm.Cond.selects C0 y z).before a0 Z = true) (w6 : (Jvm.Cond.instanceMethod z).before a0 Z = true) (w3 : (Jvm.Cond.initialized z.cls).before a0 Z = true) (w4 : (Jvm.Cond.code z yb yl yr).before a0 Z = true) (hy : y.cls ≠ "java/lang/invoke/MethodHandle" ∧ y.cls ≠ "java/lang/invoke/VarHandle")
    (hpd : parseMethodDescriptor y.desc = some ⟨ps, r⟩) (hlen : aL.length = ps.length) (hstk : st = aL.reverse ++ .ref b :: rest) (hd : decode bytes pc = .ok (.invokevirtual idx, 3)) (hsz : ls.size = maxL) (hW : (rest.map fun v => v.category).sum ≤ W)
    (hf : rm.frames + 1 ≤ R.frames) (hl : W + (yl + 11) + rm.locals ≤ R.locals) (hcc : cells + rm.cells ≤ R.cells) (hss : slots + rm.slots ≤ R.slots) (hn : pc + 3 = n)
    (K : ∀ T' h' v, Q v h' → Sd p l e R s m args below meth c n0 T' h' (cells + rm.cells) (slots + rm.slots) → Gl p e below s n0 P C S (T'.setTop (mkF m n ls (v :: rest)))) : Gl p e below s n0 P C S (T.setTop (mkF m pc ls st)) :=
  gCallV X w aL rest E hM w1 w2 hnf w5 w6 w3 w4 hy hpd hlen hstk hd hsz hW hf hl hcc hss hn (fun T' h' v q X => by obtain ⟨v', rfl, q⟩ := q; exact K T' h' v' q X)
theorem gCallIn (X : Sd p l e R s m args below meth c n0 T h cells slots) (w : Cx Z own nm bytes maxL ret p s m meth c) {y : MethodName} {yb : ByteArray} {yl : Nat} {rm : Room} {Q : Heap → Prop} {idx W : Nat} {b : Addr} (aL rest : List Value) {ps : List FieldType} {r : Option FieldType} (hy1 : y.name = "<init>")
    (hM : ConN l Z y yb yl rm (.ref b :: aL).toArray h n0 Q) (w1 : (Jvm.Cond.methodLink own idx y).before a0 Z = true) (w2 : (Jvm.Cond.instanceMethod y).before a0 Z = true) (w3 : (Jvm.Cond.initialized y.cls).before a0 Z = true) (w4 : (Jvm.Cond.code y yb yl none).before a0 Z = true) (hy : y.cls ≠ "java/lang/invoke/MethodHandle" ∧ y.cls ≠ "java/lang/invoke/VarHandle")
    (hpd : parseMethodDescriptor y.desc = some ⟨ps, r⟩) (hlen : aL.length = ps.length) (hstk : st = aL.reverse ++ .ref b :: rest) (hd : decode bytes pc = .ok (.invokespecial idx, 3)) (hsz : ls.size = maxL) (hW : (rest.map fun v => v.category).sum ≤ W)
    (hf : rm.frames + 1 ≤ R.frames) (hl : W + (yl + 11) + rm.locals ≤ R.locals) (hcc : cells + rm.cells ≤ R.cells) (hss : slots + rm.slots ≤ R.slots) (hn : pc + 3 = n)
    (K : ∀ T' h', Q h' → Sd p l e R s m args below meth c n0 T' h' (cells + rm.cells) (slots + rm.slots) → Gl p e below s n0 P C S (T'.setTop (mkF m n ls rest))) : Gl p e below s n0 P C S (T.setTop (mkF m pc ls st)) :=
  gCallI X w aL rest hy1 hM w1 w2 w3 w4 hy hpd hlen hstk hd hsz hW hf hl hcc hss hn (fun T' h' v q X => by obtain ⟨rfl, q⟩ := q; exact K T' h' q X)
theorem gLdcS (X : Sd p l e R s m args below meth c n0 T h cells slots) (w : Cx Z own nm bytes maxL ret p s m meth c) {text : String} {i k : Nat} (wl : (Jvm.Cond.stringLink own i text).before a0 Z = true) (wS : ∀ a ∈ Bundle.stringAtoms, a.before a0 Z = true) (hd : decode bytes pc = .ok (.ldc i, 2)) (hk : 4 * text.toList.length ≤ k) (hbig : k ≤ 536870912) (hc : cells + 2 ≤ R.cells) (hl : slots + (k + 4) ≤ R.slots) (hn : pc + 2 = n)
    (K : ∀ T' h' a, Sd p l e R s m args below meth c n0 T' h' (cells + 2) (slots + (k + 4)) → Ext h h' → Gl p e below s n0 P C S (T'.setTop (mkF m n ls (.ref a :: st)))) : Gl p e below s n0 P C S (T.setTop (mkF m pc ls st)) := by
  obtain ⟨locs, vm0, k0, X, N, eh, hn0, hS, hk0⟩ := X; obtain ⟨hx, hby, hZ, hown, -⟩ := w; subst hn
  obtain ⟨a, T', h', k1, X', e', E', S', hk1, -, -, st'⟩ := ldcS X hx (State.Warmed39.trans hZ hS.1) ((hS.1.alike.findClass _ _).trans hown) wl wS eh hS hk0 (g := mkF m pc ls st) rfl (hb hby hd) hk hbig hc hl
  exact Gl.of st' (K T' h' a ⟨_, T'.vm, k1, X', N, e', hn0, S', hk1⟩ E')
theorem gInitO (X : Sd p l e R s m args below meth c n0 T h cells slots) (w : Cx Z own nm bytes maxL ret p s m meth c) {idx W : Nat} {a : Addr} (w1 : (Jvm.Cond.methodLink own idx Lib.objectInit).before a0 Z = true) (w2 : (Jvm.Cond.instanceMethod Lib.objectInit).before a0 Z = true) (w3 : (Jvm.Cond.code Lib.objectInit ⟨#[0xb1]⟩ 1 none).before a0 Z = true) (hd : decode bytes pc = .ok (.invokespecial idx, 3)) (hsz : ls.size = maxL) (hf : 1 ≤ R.frames) (hW : (st.map fun v => v.category).sum ≤ W) (hl : W + 12 ≤ R.locals) (hn : pc + 3 = n)
    (K : ∀ T', Sd p l e R s m args below meth c n0 T' h cells slots → Gl p e below s n0 P C S (T'.setTop (mkF m n ls st))) : Gl p e below s n0 P C S (T.setTop (mkF m pc ls (.ref a :: st))) := by
  obtain ⟨locs, vm0, k0, X, N, eh, hn0, hS, hk0⟩ := X; obtain ⟨hx, hby, hZ, hown, -, hml, -⟩ := w; have hZ := State.Warmed39.trans hZ hS.1; have hown := (hS.1.alike.findClass _ _).trans hown; subst hn
  obtain ⟨T', X', e', st'⟩ := initO X hx hZ hown w1 w2 w3 eh (g := mkF m pc ls (.ref a :: st)) rfl (by rw [hml]; exact hsz) rfl (hb hby hd) hf (W := W) (by show 2 * 0 + _ ≤ _; rw [Nat.mul_zero, Nat.zero_add]; exact hW) hl
  exact Gl.of st' (K T' ⟨_, vm0, k0, X', N, e', hn0, hS, hk0⟩)
theorem gNew (X : Sd p l e R s m args below meth c n0 T h cells slots) (w : Cx Z own nm bytes maxL ret p s m meth c) {C0 : String} {idx k : Nat} (w1 : (Jvm.Cond.classLink own idx C0).before a0 Z = true) (w2 : (Jvm.Cond.instantiable C0 k).before a0 Z = true) (w3 : (Jvm.Cond.initialized C0).before a0 Z = true) (hd : decode bytes pc = .ok (.new idx, 3)) (hc : cells + 1 ≤ R.cells) (hl : slots + k ≤ R.slots) (hn : pc + 3 = n)
    (K : ∀ T' h' a, a = h.size → n0 ≤ a → Sd p l e R s m args below meth c n0 T' h' (cells + 1) (slots + k) → Ext h h' → Exa Z h' a C0 → (∀ {O nm d : String} {ty : FieldType}, Laid Z a0 C0 O nm d → parseFieldDescriptor d = some ty → Fld Z h' a O nm d (defaultValue ty)) → Gl p e below s n0 P C S (T'.setTop (mkF m n ls (.ref a :: st)))) : Gl p e below s n0 P C S (T.setTop (mkF m pc ls st)) := by
  obtain ⟨locs, vm0, k0, X, N, eh, hn0, hS, hk0⟩ := X; obtain ⟨hx, hby, hZ, hown, -, hml, -⟩ := w; have hZ := State.Warmed39.trans hZ hS.1; have hown := (hS.1.alike.findClass _ _).trans hown; subst hn
  obtain ⟨T', h', X', e', E', A', D', -, st'⟩ := newO X hx hZ hown w1 w2 w3 eh (g := mkF m pc ls st) rfl (hb hby hd) hc hl
  exact Gl.of st' (K T' h' h.size rfl (Sd.le ⟨_, vm0, k0, X, N, eh, hn0, hS, hk0⟩) ⟨_, vm0, k0, X', N, e', hn0, hS, Nat.le_trans hk0 E'.1⟩ E' A' D')
theorem gGetF (X : Sd p l e R s m args below meth c n0 T h cells slots) (w : Cx Z own nm bytes maxL ret p s m meth c) {R0 O fn d : String} {idx : Nat} {a : Addr} {v : Value} (w1 : (Jvm.Cond.fieldLink own idx R0 fn d).before a0 Z = true) (via : Via Z R0 O fn d) (F : Fld Z h a O fn d v) (hd : decode bytes pc = .ok (.getfield idx, 3)) (hn : pc + 3 = n)
    (K : ∀ T', Sd p l e R s m args below meth c n0 T' h cells slots → Gl p e below s n0 P C S (T'.setTop (mkF m n ls (v :: st)))) : Gl p e below s n0 P C S (T.setTop (mkF m pc ls (.ref a :: st))) := by
  obtain ⟨locs, vm0, k0, X, N, eh, hn0, hS, hk0⟩ := X; obtain ⟨hx, hby, hZ, hown, -, hml, -⟩ := w; have hZ := State.Warmed39.trans hZ hS.1; have hown := (hS.1.alike.findClass _ _).trans hown; subst hn
  obtain ⟨T', X', e', st'⟩ := getF X hx hZ hown (host := "") (Or.inl w1) via eh F (g := mkF m pc ls (.ref a :: st)) rfl rfl (hb hby hd)
  exact Gl.of st' (K T' ⟨_, vm0, k0, X', N, e', hn0, hS, hk0⟩)
theorem gGetS (X : Sd p l e R s m args below meth c n0 T h cells slots) (w : Cx Z own nm bytes maxL ret p s m meth c) {R0 O fn d : String} {idx : Nat} {v : Value} (w1 : (Jvm.Cond.fieldLink own idx R0 fn d).before a0 Z = true) (via : Via Z R0 O fn d) (F : Sta Z h O fn d v) (hd : decode bytes pc = .ok (.getstatic idx, 3)) (hn : pc + 3 = n)
    (K : ∀ T', Sd p l e R s m args below meth c n0 T' h cells slots → Gl p e below s n0 P C S (T'.setTop (mkF m n ls (v :: st)))) : Gl p e below s n0 P C S (T.setTop (mkF m pc ls st)) := by
  obtain ⟨locs, vm0, k0, X, N, eh, hn0, hS, hk0⟩ := X; obtain ⟨hx, hby, hZ, hown, -, hml, -⟩ := w; have hZ := State.Warmed39.trans hZ hS.1; have hown := (hS.1.alike.findClass _ _).trans hown; subst hn
  obtain ⟨T', X', e', st'⟩ := getS X hx hZ hown (host := "") w1 via eh F (g := mkF m pc ls st) rfl (hb hby hd)
  exact Gl.of st' (K T' ⟨_, vm0, k0, X', N, e', hn0, hS, hk0⟩)
theorem gPutF (X : Sd p l e R s m args below meth c n0 T h cells slots) (w : Cx Z own nm bytes maxL ret p s m meth c) {R0 O fn d C0 : String} {idx k : Nat} {ty : FieldType} {a : Addr} {v old : Value} (w1 : (Jvm.Cond.fieldLink own idx R0 fn d).before a0 Z = true) (via : Via Z R0 O fn d) (F : Fld Z h a O fn d old) (E : Exa Z h a C0) (hL : (Jvm.Cond.lays C0 O fn d).before a0 Z = true ∨ ((Jvm.Cond.laysFinal C0 O fn d).before a0 Z = true ∧ own = O ∧ nm = "<init>")) (w2 : (Jvm.Cond.instantiable C0 k).before a0 Z = true) (ha : n0 ≤ a)
    (hty : parseFieldDescriptor d = some ty) (hnar : narrow ty v = v) (hfit : fits ty v = true) (hd : decode bytes pc = .ok (.putfield idx, 3)) (hn : pc + 3 = n)
    (K : ∀ T' h', Sd p l e R s m args below meth c n0 T' h' cells slots → Wr h h' a (Jvm.RoadKit.slotOf Z O fn d) v → Gl p e below s n0 P C S (T'.setTop (mkF m n ls st))) : Gl p e below s n0 P C S (T.setTop (mkF m pc ls (v :: .ref a :: st))) := by
  obtain ⟨locs, vm0, k0, X, N, eh, hn0, hS, hk0⟩ := X; obtain ⟨hx, hby, hZ, hown, hnm, hml, -⟩ := w; have hZ := State.Warmed39.trans hZ hS.1; have hown := (hS.1.alike.findClass _ _).trans hown; subst hn
  obtain ⟨T', h', X', e', W', st'⟩ := putF X hx hZ hown (host := "") (Or.inl w1) via eh F E (hL.imp id fun q => ⟨q.1, q.2.1, hnm.trans q.2.2⟩) w2 hty hnar hfit (g := mkF m pc ls (v :: .ref a :: st)) rfl rfl (hb hby hd)
  exact Gl.of st' (K T' h' ⟨_, vm0, k0, X', Fr.snoc X' N ha, e', hn0, hS, by rw [W'.size]; exact hk0⟩ W')
/-- an array with its values -/
def Av (Z : State) (h : Heap) (a : Addr) (ty : FieldType) (vs : List Value) : Prop := ∃ c : Cell, Arr Z h a c ty ∧ c.slots = vs.toArray
theorem Av.lt {a : Addr} {ty : FieldType} {vs : List Value} (F : Av Z h a ty vs) : a < h.size := by obtain ⟨c, A, -⟩ := F; exact A.lt
theorem Av.ext {h' : Heap} {a : Addr} {ty : FieldType} {vs : List Value} (F : Av Z h a ty vs) (E : Ext h h') : Av Z h' a ty vs := by obtain ⟨c, A, q⟩ := F; exact ⟨c, A.ext E, q⟩
theorem Av.other {h' : Heap} {a b : Addr} {sl : Nat} {v : Value} {ty : FieldType} {vs : List Value} (F : Av Z h b ty vs) (W : Wr h h' a sl v) (ne : b ≠ a) : Av Z h' b ty vs := by obtain ⟨c, A, q⟩ := F; exact ⟨c, A.other W ne, q⟩
theorem Av.keep {h' : Heap} {a : Addr} {ty : FieldType} {vs : List Value} {ws : List Addr} (F : Av Z h a ty vs) (K : Keep h h' ws) (ne : a ∉ ws) : Av Z h' a ty vs := by obtain ⟨c, A, q⟩ := F; exact ⟨c, ⟨K.2.1 a c A.1 ne, A.2⟩, q⟩
theorem Av.set {h' : Heap} {a : Addr} {sl : Nat} {v : Value} {ty : FieldType} {vs : List Value} (F : Av Z h a ty vs) (W : Wr h h' a sl v) : Av Z h' a ty (vs.set sl v) := by
  obtain ⟨c, A, q⟩ := F
  exact ⟨_, A.same W, by show c.slots.setIfInBounds sl v = _; rw [q]; simp⟩
theorem neOf {x a : Addr} {h : Heap} (h1 : x < h.size) (h2 : h.size ≤ a) : x ≠ a := fun e => absurd (Nat.lt_of_lt_of_le h1 h2) (by rw [e]; exact Nat.lt_irrefl _)
theorem staKeep {h' : Heap} {O fn d : String} {v : Value} {ws : List Addr} (F : Sta Z h O fn d v) (K : Keep h h' ws) (hp : ∀ x ∈ ws, ∀ c : Cell, h[x]? = some c → c.vm.isStatics = false) : Sta Z h' O fn d v := by
  obtain ⟨cf, i, k, f, st, cell, h1, h2, h3, h4, h5, h6, h7⟩ := F
  exact ⟨cf, i, k, f, st, cell, h1, h2, h3, h4, K.2.1 _ _ h5 (fun q => by rw [hp _ q _ h5] at h6; cases h6), h6, h7⟩
theorem idxIn {j : Int32} {vs : List Value} {c : Cell} (q : c.slots = vs.toArray) (hj : 0 ≤ j.toInt) (hv : j.toInt < vs.length) : ¬ (j < 0 ∨ c.slots.size ≤ j.toNatClampNeg) := by
  have e := XT.negI32 j
  have hc : j.toNatClampNeg = j.toInt.toNat := rfl
  rintro (g | g)
  · have := e.mp g; omega
  · rw [q] at g; simp only [List.size_toArray] at g; omega
theorem gNewP (X : Sd p l e R s m args below meth c n0 T h cells slots) (w : Cx Z own nm bytes maxL ret p s m meth c) {aty : ArrayType} {k : Int32} {cap : Nat} (w1 : (Jvm.Cond.arrayClass (newarray.typeOf aty)).before a0 Z = true) (hd : decode bytes pc = .ok (.newarray aty, 2)) (hk : 0 ≤ k.toInt) (hcap : k.toInt ≤ cap) (hb' : cap * 8 ≤ 536870912) (hc : cells + 1 ≤ R.cells) (hl : slots + cap ≤ R.slots) {vs : List Value} {ty : FieldType} (hvs : List.replicate k.toInt.toNat (defaultValue (newarray.typeOf aty)) = vs) (hty : newarray.typeOf aty = ty) {ad : String} (had : "[" ++ (newarray.typeOf aty).toString = ad) (hn : pc + 2 = n)
    (K : ∀ T' h' a, a = h.size → n0 ≤ a → Sd p l e R s m args below meth c n0 T' h' (cells + 1) (slots + cap) → Ext h h' → Av Z h' a ty vs → Exa Z h' a ad → Gl p e below s n0 P C S (T'.setTop (mkF m n ls (.ref a :: st)))) : Gl p e below s n0 P C S (T.setTop (mkF m pc ls (.int k :: st))) := by
  obtain ⟨locs, vm0, k0, X, N, eh, hn0, hS, hk0⟩ := X; obtain ⟨hx, hby, hZ, hown, -, hml, -⟩ := w; have hZ := State.Warmed39.trans hZ hS.1; have hown := (hS.1.alike.findClass _ _).trans hown; subst hn hvs hty
  have e := XT.negI32 k
  have hkc : k.toNatClampNeg = k.toInt.toNat := rfl
  obtain ⟨T', h', cA, X', e', E', A', Ex', st'⟩ := newPE X hx hZ w1 eh (g := mkF m pc ls (.int k :: st)) rfl (hb hby hd) rfl (fun g => by have := e.mp g; omega) (cap := cap) (by omega) hb' hc hl had
  exact Gl.of st' (K T' h' h.size rfl (Sd.le ⟨_, vm0, k0, X, N, eh, hn0, hS, hk0⟩) ⟨_, vm0, k0, X', N, e', hn0, hS, Nat.le_trans hk0 E'.1⟩ E' ⟨_, A', by show Array.replicate _ _ = _; rw [hkc]; simp⟩ Ex')
theorem gClone (X : Sd p l e R s m args below meth c n0 T h cells slots) (w : Cx Z own nm bytes maxL ret p s m meth c) {idx W cap : Nat} {a : Addr} {ad : String} {ty : FieldType} {vs : List Value} (F : Av Z h a ty vs) (E : Exa Z h a ad) (hfit : ∀ v ∈ vs, fits ty v = true) (w1 : (Jvm.Cond.methodLink own idx ⟨ad, "clone", "()Ljava/lang/Object;"⟩).before a0 Z = true) (w2 : (Jvm.Cond.sameMethod ad "java/lang/Object" "clone" "()Ljava/lang/Object;").before a0 Z = true) (w3 : (Jvm.Cond.native ⟨"java/lang/Object", "clone", "()Ljava/lang/Object;"⟩).before a0 Z = true) (w4 : (Jvm.Cond.instanceMethod ⟨"java/lang/Object", "clone", "()Ljava/lang/Object;"⟩).before a0 Z = true) (w5 : (Jvm.Cond.selects ad ⟨ad, "clone", "()Ljava/lang/Object;"⟩ ⟨"java/lang/Object", "clone", "()Ljava/lang/Object;"⟩).before a0 Z = true) (w6 : (Jvm.Cond.castable ad "java/lang/Cloneable").before a0 Z = true)
    (hd : decode bytes pc = .ok (.invokevirtual idx, 3)) (hsz : ls.size = maxL) (hf : 1 ≤ R.frames) (hW : (st.map fun v => v.category).sum ≤ W) (hl : W + 14 ≤ R.locals) (hcap : vs.length ≤ cap) (hc : cells + 1 ≤ R.cells) (hss : slots + cap ≤ R.slots) (hn : pc + 3 = n)
    (K : ∀ T' h' b, b = h.size → n0 ≤ b → Sd p l e R s m args below meth c n0 T' h' (cells + 1) (slots + cap) → Ext h h' → Av Z h' b ty vs → Exa Z h' b ad → Gl p e below s n0 P C S (T'.setTop (mkF m n ls (.ref b :: st)))) : Gl p e below s n0 P C S (T.setTop (mkF m pc ls (.ref a :: st))) := by
  obtain ⟨locs, vm0, k0, X, N, eh, hn0, hS, hk0⟩ := X; obtain ⟨hx, hby, hZ, hown, -, hml, -⟩ := w; have hZ := State.Warmed39.trans hZ hS.1; have hown := (hS.1.alike.findClass _ _).trans hown; subst hn
  obtain ⟨cl, A, q⟩ := F
  have FC : FitC Z cl := fitC_of A fun i hi v hv => hfit v (by rw [q] at hv; simp only [List.getElem?_toArray] at hv; exact List.mem_of_getElem? hv)
  obtain ⟨T', h', X', e', E', A', Ex', st'⟩ := cloneA X hx hZ hown w1 w2 w3 w4 w5 w6 eh A E FC (g := mkF m pc ls (.ref a :: st)) rfl (by rw [hml]; exact hsz) rfl (hb hby hd) hf (W := W) (cap := cap) (by show 2 * 0 + _ ≤ _; rw [Nat.mul_zero, Nat.zero_add]; exact hW) hl (by rw [q]; simpa using hcap) hc hss
  exact Gl.of st' (K T' h' h.size rfl (Sd.le ⟨_, vm0, k0, X, N, eh, hn0, hS, hk0⟩) ⟨_, vm0, k0, X', N, e', hn0, hS, Nat.le_trans hk0 E'.1⟩ E' ⟨_, A', q⟩ Ex')
theorem gCast (X : Sd p l e R s m args below meth c n0 T h cells slots) (w : Cx Z own nm bytes maxL ret p s m meth c) {K0 : String} {idx : Nat} {a : Addr} (w1 : (Jvm.Cond.classLink own idx K0).before a0 Z = true) (F : Ins Z h a K0 true) (hd : decode bytes pc = .ok (.checkcast idx, 3)) (hn : pc + 3 = n)
    (K : ∀ T', Sd p l e R s m args below meth c n0 T' h cells slots → Gl p e below s n0 P C S (T'.setTop (mkF m n ls (.ref a :: st)))) : Gl p e below s n0 P C S (T.setTop (mkF m pc ls (.ref a :: st))) := by
  obtain ⟨locs, vm0, k0, X, N, eh, hn0, hS, hk0⟩ := X; obtain ⟨hx, hby, hZ, hown, -, hml, -⟩ := w; have hZ := State.Warmed39.trans hZ hS.1; have hown := (hS.1.alike.findClass _ _).trans hown; subst hn
  obtain ⟨T', X', e', st'⟩ := castY X hx hZ hown w1 eh F (g := mkF m pc ls (.ref a :: st)) rfl rfl (hb hby hd)
  exact Gl.of st' (K T' ⟨_, vm0, k0, X', N, e', hn0, hS, hk0⟩)
theorem gInstY (X : Sd p l e R s m args below meth c n0 T h cells slots) (w : Cx Z own nm bytes maxL ret p s m meth c) {K0 : String} {idx : Nat} {a : Addr} (w1 : (Jvm.Cond.classLink own idx K0).before a0 Z = true) (F : Ins Z h a K0 true) (hd : decode bytes pc = .ok (.instanceof idx, 3)) (hn : pc + 3 = n)
    (K : ∀ T', Sd p l e R s m args below meth c n0 T' h cells slots → Gl p e below s n0 P C S (T'.setTop (mkF m n ls (.int 1 :: st)))) : Gl p e below s n0 P C S (T.setTop (mkF m pc ls (.ref a :: st))) := by
  obtain ⟨locs, vm0, k0, X, N, eh, hn0, hS, hk0⟩ := X; obtain ⟨hx, hby, hZ, hown, -, hml, -⟩ := w; have hZ := State.Warmed39.trans hZ hS.1; have hown := (hS.1.alike.findClass _ _).trans hown; subst hn
  obtain ⟨T', X', e', st'⟩ := instY X hx hZ hown w1 eh F (g := mkF m pc ls (.ref a :: st)) rfl rfl (hb hby hd)
  exact Gl.of st' (K T' ⟨_, vm0, k0, X', N, e', hn0, hS, hk0⟩)
theorem gIastore (X : Sd p l e R s m args below meth c n0 T h cells slots) (w : Cx Z own nm bytes maxL ret p s m meth c) {a : Addr} {j : Int32} {x : Int32} {z : Value} {vs : List Value} (F : Av Z h a .int vs) (hj : 0 ≤ j.toInt) (hjv : j.toInt < vs.length) (ha : n0 ≤ a) (hz : Value.int x = z) {vs' : List Value} (hvs : vs.set j.toInt.toNat z = vs') (hd : decode bytes pc = .ok (.iastore, 1)) (hn : pc + 1 = n)
    (K : ∀ T' h', Sd p l e R s m args below meth c n0 T' h' cells slots → Wr h h' a j.toInt.toNat z → Av Z h' a .int vs' → Gl p e below s n0 P C S (T'.setTop (mkF m n ls st))) : Gl p e below s n0 P C S (T.setTop (mkF m pc ls (.int x :: .int j :: .ref a :: st))) := by
  obtain ⟨locs, vm0, k0, X, N, eh, hn0, hS, hk0⟩ := X; obtain ⟨hx, hby, hZ, hown, hnm, hml, -⟩ := w; have hZ := State.Warmed39.trans hZ hS.1; have hown := (hS.1.alike.findClass _ _).trans hown; subst hn hz hvs
  obtain ⟨cl, A, q⟩ := F
  obtain ⟨T', h', X', e', W', st'⟩ := stI X hx hZ eh A (j := j) (idxIn q hj hjv) (g := mkF m pc ls (.int x :: .int j :: .ref a :: st)) rfl rfl (hb hby hd)
  exact Gl.of st' (K T' h' ⟨_, vm0, k0, X', Fr.snoc X' N ha, e', hn0, hS, by rw [W'.size]; exact hk0⟩ W' (Av.set ⟨cl, A, q⟩ W'))
theorem gLastore (X : Sd p l e R s m args below meth c n0 T h cells slots) (w : Cx Z own nm bytes maxL ret p s m meth c) {a : Addr} {j : Int32} {x : Int64} {z : Value} {vs : List Value} (F : Av Z h a .long vs) (hj : 0 ≤ j.toInt) (hjv : j.toInt < vs.length) (ha : n0 ≤ a) (hz : Value.long x = z) {vs' : List Value} (hvs : vs.set j.toInt.toNat z = vs') (hd : decode bytes pc = .ok (.lastore, 1)) (hn : pc + 1 = n)
    (K : ∀ T' h', Sd p l e R s m args below meth c n0 T' h' cells slots → Wr h h' a j.toInt.toNat z → Av Z h' a .long vs' → Gl p e below s n0 P C S (T'.setTop (mkF m n ls st))) : Gl p e below s n0 P C S (T.setTop (mkF m pc ls (.long x :: .int j :: .ref a :: st))) := by
  obtain ⟨locs, vm0, k0, X, N, eh, hn0, hS, hk0⟩ := X; obtain ⟨hx, hby, hZ, hown, hnm, hml, -⟩ := w; have hZ := State.Warmed39.trans hZ hS.1; have hown := (hS.1.alike.findClass _ _).trans hown; subst hn hz hvs
  obtain ⟨cl, A, q⟩ := F
  obtain ⟨T', h', X', e', W', st'⟩ := stJ X hx hZ eh A (j := j) (idxIn q hj hjv) (g := mkF m pc ls (.long x :: .int j :: .ref a :: st)) rfl rfl (hb hby hd)
  exact Gl.of st' (K T' h' ⟨_, vm0, k0, X', Fr.snoc X' N ha, e', hn0, hS, by rw [W'.size]; exact hk0⟩ W' (Av.set ⟨cl, A, q⟩ W'))
theorem gCastore (X : Sd p l e R s m args below meth c n0 T h cells slots) (w : Cx Z own nm bytes maxL ret p s m meth c) {a : Addr} {j : Int32} {x : Int32} {z : Value} {vs : List Value} (F : Av Z h a .char vs) (hj : 0 ≤ j.toInt) (hjv : j.toInt < vs.length) (ha : n0 ≤ a) (hz : Value.int (nar .char x) = z) {vs' : List Value} (hvs : vs.set j.toInt.toNat z = vs') (hd : decode bytes pc = .ok (.castore, 1)) (hn : pc + 1 = n)
    (K : ∀ T' h', Sd p l e R s m args below meth c n0 T' h' cells slots → Wr h h' a j.toInt.toNat z → Av Z h' a .char vs' → Gl p e below s n0 P C S (T'.setTop (mkF m n ls st))) : Gl p e below s n0 P C S (T.setTop (mkF m pc ls (.int x :: .int j :: .ref a :: st))) := by
  obtain ⟨locs, vm0, k0, X, N, eh, hn0, hS, hk0⟩ := X; obtain ⟨hx, hby, hZ, hown, hnm, hml, -⟩ := w; have hZ := State.Warmed39.trans hZ hS.1; have hown := (hS.1.alike.findClass _ _).trans hown; subst hn hz hvs
  obtain ⟨cl, A, q⟩ := F
  obtain ⟨T', h', X', e', W', st'⟩ := stC X hx hZ eh A (j := j) (idxIn q hj hjv) (g := mkF m pc ls (.int x :: .int j :: .ref a :: st)) rfl rfl (hb hby hd)
  exact Gl.of st' (K T' h' ⟨_, vm0, k0, X', Fr.snoc X' N ha, e', hn0, hS, by rw [W'.size]; exact hk0⟩ W' (Av.set ⟨cl, A, q⟩ W'))
theorem gBastore (X : Sd p l e R s m args below meth c n0 T h cells slots) (w : Cx Z own nm bytes maxL ret p s m meth c) {a : Addr} {j : Int32} {x : Int32} {z : Value} {vs : List Value} (F : Av Z h a .byte vs) (hj : 0 ≤ j.toInt) (hjv : j.toInt < vs.length) (ha : n0 ≤ a) (hz : Value.int (nar .byte x) = z) {vs' : List Value} (hvs : vs.set j.toInt.toNat z = vs') (hd : decode bytes pc = .ok (.bastore, 1)) (hn : pc + 1 = n)
    (K : ∀ T' h', Sd p l e R s m args below meth c n0 T' h' cells slots → Wr h h' a j.toInt.toNat z → Av Z h' a .byte vs' → Gl p e below s n0 P C S (T'.setTop (mkF m n ls st))) : Gl p e below s n0 P C S (T.setTop (mkF m pc ls (.int x :: .int j :: .ref a :: st))) := by
  obtain ⟨locs, vm0, k0, X, N, eh, hn0, hS, hk0⟩ := X; obtain ⟨hx, hby, hZ, hown, hnm, hml, -⟩ := w; have hZ := State.Warmed39.trans hZ hS.1; have hown := (hS.1.alike.findClass _ _).trans hown; subst hn hz hvs
  obtain ⟨cl, A, q⟩ := F
  obtain ⟨T', h', X', e', W', st'⟩ := stB X hx hZ eh A (j := j) (idxIn q hj hjv) (g := mkF m pc ls (.int x :: .int j :: .ref a :: st)) rfl rfl (hb hby hd)
  exact Gl.of st' (K T' h' ⟨_, vm0, k0, X', Fr.snoc X' N ha, e', hn0, hS, by rw [W'.size]; exact hk0⟩ W' (Av.set ⟨cl, A, q⟩ W'))
theorem gIaload (X : Sd p l e R s m args below meth c n0 T h cells slots) (w : Cx Z own nm bytes maxL ret p s m meth c) {a : Addr} {j : Int32} {v : Value} {vs : List Value} (F : Av Z h a .int vs) (hj : 0 ≤ j.toInt) (hv : vs[j.toInt.toNat]? = some v) (hd : decode bytes pc = .ok (.iaload, 1)) (hn : pc + 1 = n) (K : Gl p e below s n0 P C S (T.setTop (mkF m n ls (v :: st)))) : Gl p e below s n0 P C S (T.setTop (mkF m pc ls (.int j :: .ref a :: st))) := by
  obtain ⟨locs, vm0, k0, X, N, eh, hn0, hS, hk0⟩ := X; obtain ⟨hx, hby, hZ, hown, hnm, hml, -⟩ := w; have hZ := State.Warmed39.trans hZ hS.1; have hown := (hS.1.alike.findClass _ _).trans hown; subst hn
  obtain ⟨cl, A, q⟩ := F
  have hlt : j.toInt.toNat < vs.length := (List.getElem?_eq_some_iff.mp hv).1
  exact Gl.of (fun t k => X.iaload hx (j := j) (v := v) (by rw [eh]; exact A.1) (State.isArrayOf_alike hZ.alike A.2.1) A.2.2 (idxIn q hj (by omega)) (by rw [q]; show vs.toArray[j.toInt.toNat]? = _; simpa using hv) (g := mkF m pc ls (.int j :: .ref a :: st)) rfl rfl (hb hby hd) _ k) K
theorem gCaload (X : Sd p l e R s m args below meth c n0 T h cells slots) (w : Cx Z own nm bytes maxL ret p s m meth c) {a : Addr} {j : Int32} {v : Value} {vs : List Value} (F : Av Z h a .char vs) (hj : 0 ≤ j.toInt) (hv : vs[j.toInt.toNat]? = some v) (hd : decode bytes pc = .ok (.caload, 1)) (hn : pc + 1 = n) (K : Gl p e below s n0 P C S (T.setTop (mkF m n ls (v :: st)))) : Gl p e below s n0 P C S (T.setTop (mkF m pc ls (.int j :: .ref a :: st))) := by
  obtain ⟨locs, vm0, k0, X, N, eh, hn0, hS, hk0⟩ := X; obtain ⟨hx, hby, hZ, hown, hnm, hml, -⟩ := w; have hZ := State.Warmed39.trans hZ hS.1; have hown := (hS.1.alike.findClass _ _).trans hown; subst hn
  obtain ⟨cl, A, q⟩ := F
  have hlt : j.toInt.toNat < vs.length := (List.getElem?_eq_some_iff.mp hv).1
  exact Gl.of (fun t k => X.caload hx (j := j) (v := v) (by rw [eh]; exact A.1) (State.isArrayOf_alike hZ.alike A.2.1) A.2.2 (idxIn q hj (by omega)) (by rw [q]; show vs.toArray[j.toInt.toNat]? = _; simpa using hv) (g := mkF m pc ls (.int j :: .ref a :: st)) rfl rfl (hb hby hd) _ k) K
theorem gBaload (X : Sd p l e R s m args below meth c n0 T h cells slots) (w : Cx Z own nm bytes maxL ret p s m meth c) {a : Addr} {j : Int32} {v : Value} {vs : List Value} (F : Av Z h a .byte vs) (hj : 0 ≤ j.toInt) (hv : vs[j.toInt.toNat]? = some v) (hd : decode bytes pc = .ok (.baload, 1)) (hn : pc + 1 = n) (K : Gl p e below s n0 P C S (T.setTop (mkF m n ls (v :: st)))) : Gl p e below s n0 P C S (T.setTop (mkF m pc ls (.int j :: .ref a :: st))) := by
  obtain ⟨locs, vm0, k0, X, N, eh, hn0, hS, hk0⟩ := X; obtain ⟨hx, hby, hZ, hown, hnm, hml, -⟩ := w; have hZ := State.Warmed39.trans hZ hS.1; have hown := (hS.1.alike.findClass _ _).trans hown; subst hn
  obtain ⟨cl, A, q⟩ := F
  have hlt : j.toInt.toNat < vs.length := (List.getElem?_eq_some_iff.mp hv).1
  exact Gl.of (fun t k => X.baloadBytes hx (j := j) (v := v) (by rw [eh]; exact A.1) (State.isArrayOf_alike hZ.alike A.2.1) A.2.2 (idxIn q hj (by omega)) (by rw [q]; show vs.toArray[j.toInt.toNat]? = _; simpa using hv) (g := mkF m pc ls (.int j :: .ref a :: st)) rfl rfl (hb hby hd) _ k) K
theorem gLaload (X : Sd p l e R s m args below meth c n0 T h cells slots) (w : Cx Z own nm bytes maxL ret p s m meth c) {a : Addr} {j : Int32} {v : Value} {vs : List Value} (F : Av Z h a .long vs) (hj : 0 ≤ j.toInt) (hv : vs[j.toInt.toNat]? = some v) (hd : decode bytes pc = .ok (.laload, 1)) (hn : pc + 1 = n) (K : Gl p e below s n0 P C S (T.setTop (mkF m n ls (v :: st)))) : Gl p e below s n0 P C S (T.setTop (mkF m pc ls (.int j :: .ref a :: st))) := by
  obtain ⟨locs, vm0, k0, X, N, eh, hn0, hS, hk0⟩ := X; obtain ⟨hx, hby, hZ, hown, hnm, hml, -⟩ := w; have hZ := State.Warmed39.trans hZ hS.1; have hown := (hS.1.alike.findClass _ _).trans hown; subst hn
  obtain ⟨cl, A, q⟩ := F
  have hlt : j.toInt.toNat < vs.length := (List.getElem?_eq_some_iff.mp hv).1
  exact Gl.of (fun t k => X.laload hx (j := j) (v := v) (by rw [eh]; exact A.1) (State.isArrayOf_alike hZ.alike A.2.1) A.2.2 (idxIn q hj (by omega)) (by rw [q]; show vs.toArray[j.toInt.toNat]? = _; simpa using hv) (g := mkF m pc ls (.int j :: .ref a :: st)) rfl rfl (hb hby hd) _ k) K
theorem Av.arv {a : Addr} {ty : FieldType} {vs : List Value} (dv : Value) (F : Av Z h a ty vs) (hf : ∀ v ∈ vs, fits ty v = true) (hl : vs.length < 2 ^ 31) : ∃ k, Arv Z h a k ty vs.length.toInt32 vs dv := by
  obtain ⟨c, A, q⟩ := F
  have hz : vs.length.toInt32.toInt = vs.length := len_toInt hl
  have hc : vs.length.toInt32.toNatClampNeg = vs.length := by show vs.length.toInt32.toInt.toNat = _; rw [hz]; rfl
  have hs : c.slots.size = vs.length := by rw [q]; simp
  refine ⟨c.cls, c, A, rfl, by rw [hc, hs], fun g => by have := (XT.negI32 _).mp g; omega, fun i hi => ?_, fun i hi => ?_⟩
  · rw [hs] at hi; rw [q]; simp [hi]
  · rw [hs] at hi; rw [List.getD_eq_getElem?_getD, List.getElem?_eq_getElem hi]; exact hf _ (List.getElem_mem hi)
theorem avOf {a : Addr} {k : ClassId} {ty : FieldType} {z : Int32} {vs : List Value} {dv : Value} (F : Arv Z h a k ty z vs dv) (hl : z.toNatClampNeg = vs.length) : Av Z h a ty vs := by
  obtain ⟨c, A, -, S, -, H, -⟩ := F
  refine ⟨c, A, Array.ext_getElem? fun i => ?_⟩
  by_cases hi : i < c.slots.size
  · rw [H i hi]; rw [S, hl] at hi; simp [hi]
  · rw [Array.getElem?_eq_none (by omega)]; rw [S, hl] at hi; simp; omega
theorem gAcopy (X : Sd p l e R s m args below meth c n0 T h cells slots) (w : Cx Z own nm bytes maxL ret p s m meth c) {idx W : Nat} {a b : Addr} {ty : FieldType} {va vb vs' : List Value} {sp dp nn : Int32} (dv : Value) (A : Av Z h a ty va) (B : Av Z h b ty vb) (hty : refKind ty = false) (fa : ∀ v ∈ va, fits ty v = true) (fb : ∀ v ∈ vb, fits ty v = true) (la : va.length < 2 ^ 31) (lb : vb.length < 2 ^ 31)
    (w1 : (Jvm.Cond.methodLink own idx Jvm.Stand.acN).before a0 Z = true) (w2 : (Jvm.Cond.native Jvm.Stand.acN).before a0 Z = true) (w3 : (Jvm.Cond.static Jvm.Stand.acN).before a0 Z = true) (w4 : (Jvm.Cond.initialized "java/lang/System").before a0 Z = true)
    (h1 : 0 ≤ sp.toInt) (h2 : 0 ≤ dp.toInt) (h3 : 0 ≤ nn.toInt) (h4 : sp.toInt + nn.toInt ≤ va.length) (h5 : dp.toInt + nn.toInt ≤ vb.length) (hvs : vb.take dp.toInt.toNat ++ ((List.range nn.toInt.toNat).map fun i => va.getD (sp.toInt.toNat + i) dv) ++ vb.drop (dp.toInt.toNat + nn.toInt.toNat) = vs') (ge : n0 ≤ b)
    (hd : decode bytes pc = .ok (.invokestatic idx, 3)) (hsz : ls.size = maxL) (hf : 1 ≤ R.frames) (hW : (st.map fun v => v.category).sum ≤ W) (hl : W + (nativeFrameWords "java/lang/System" "arraycopy" 5 + 11) ≤ R.locals) (hn : pc + 3 = n)
    (K : ∀ T' h', Sd p l e R s m args below meth c n0 T' h' cells slots → Keep h h' [b] → Av Z h' b ty vs' → Gl p e below s n0 P C S (T'.setTop (mkF m n ls st))) : Gl p e below s n0 P C S (T.setTop (mkF m pc ls (.int nn :: .int dp :: .ref b :: .int sp :: .ref a :: st))) := by
  obtain ⟨locs, vm0, k0, X, N, eh, hn0, hS, hk0⟩ := X; obtain ⟨hx, hby, hZ, hown, -, hml, -⟩ := w; have hZ := State.Warmed39.trans hZ hS.1; have hown := (hS.1.alike.findClass _ _).trans hown; subst hn hvs
  obtain ⟨ka, A⟩ := A.arv dv fa la
  obtain ⟨kb, B⟩ := B.arv dv fb lb
  have za : va.length.toInt32.toNatClampNeg = va.length := by show va.length.toInt32.toInt.toNat = _; rw [len_toInt la]; rfl
  have zb : vb.length.toInt32.toNatClampNeg = vb.length := by show vb.length.toInt32.toInt.toNat = _; rw [len_toInt lb]; rfl
  have n1 : ¬ sp < 0 := fun g => by have := (XT.negI32 _).mp g; omega
  have n2 : ¬ dp < 0 := fun g => by have := (XT.negI32 _).mp g; omega
  have n3 : ¬ nn < 0 := fun g => by have := (XT.negI32 _).mp g; omega
  have e1 : sp.toNatClampNeg = sp.toInt.toNat := rfl
  have e2 : dp.toNatClampNeg = dp.toInt.toNat := rfl
  have e3 : nn.toNatClampNeg = nn.toInt.toNat := rfl
  obtain ⟨T', h', L, X', e', N', K', B', st'⟩ := cpA X hx hZ hown w1 w2 w3 w4 eh A B (Or.inl ⟨rfl, hty⟩) n1 n2 n3 (by rw [za, e1, e3]; omega) (by rw [zb, e2, e3]; omega) rfl (by rw [e2, e3]; omega) N ge (g := mkF m pc ls (.int nn :: .int dp :: .ref b :: .int sp :: .ref a :: st)) rfl (by rw [hml]; exact hsz) rfl (hb hby hd) hf (W := W) (by show 2 * 0 + _ ≤ _; rw [Nat.mul_zero, Nat.zero_add]; exact hW) hl
  exact Gl.of st' (K T' h' ⟨L, vm0, k0, X', N', e', hn0, hS, Nat.le_trans hk0 K'.1⟩ K' (avOf B' (by rw [zb, List.length_append, List.length_append, List.length_take, List.length_map, List.length_range, List.length_drop]; omega)))
theorem gAlen (X : Sd p l e R s m args below meth c n0 T h cells slots) (w : Cx Z own nm bytes maxL ret p s m meth c) {a : Addr} {ty : FieldType} {vs : List Value} {z : Int32} (F : Av Z h a ty vs) (hz : vs.length.toInt32 = z) (hd : decode bytes pc = .ok (.arraylength, 1)) (hn : pc + 1 = n) (K : Gl p e below s n0 P C S (T.setTop (mkF m n ls (.int z :: st)))) : Gl p e below s n0 P C S (T.setTop (mkF m pc ls (.ref a :: st))) := by
  obtain ⟨locs, vm0, k0, X, N, eh, hn0, hS, hk0⟩ := X; obtain ⟨hx, hby, hZ, hown, hnm, hml, -⟩ := w; have hZ := State.Warmed39.trans hZ hS.1; have hown := (hS.1.alike.findClass _ _).trans hown; subst hn hz
  obtain ⟨cl, A, q⟩ := F
  have hs : cl.slots.size = vs.length := by rw [q]; simp
  rw [← hs] at K
  exact Gl.of (fun t k => X.arraylength hx (by rw [eh]; exact A.1) (State.isArrayOf_alike hZ.alike A.2.1) (g := mkF m pc ls (.ref a :: st)) rfl rfl (hb hby hd) _ k) K
theorem eqR {args : Array Value} {s : State} {t u : Term} {b : Addr} (hu : u.eval args s none [] s = some (.ref b)) (h : (Jvm.Cond.eq t u).value args s none s [] = some true) : t.eval args s none [] s = some (.ref b) := by
  obtain ⟨x, y, hx, hy, k1, k2⟩ := cmp_v (Or.inl h)
  cases hu.symm.trans hy
  obtain ⟨-, q⟩ := (k2 : (Value.ref b).isRef = true ∧ x.isRef = true)
  have e := gotT (eq_R hx hy q rfl) h
  rw [hx, e]
theorem eqI {args : Array Value} {s : State} {t u : Term} {z : Int32} (hu : u.eval args s none [] s = some (.int z)) (h : (Jvm.Cond.eq t u).value args s none s [] = some true) : t.eval args s none [] s = some (.int z) := by
  obtain ⟨x, y, hx, hy, k1, k2⟩ := cmp_v (Or.inl h)
  cases hu.symm.trans hy
  obtain ⟨x', rfl⟩ := (k2 : ∃ z', x = .int z')
  have e : some (decide (x' = z)) = some true := by rw [← h]; simp [Cond.value, hx, hy]
  have e' : x' = z := by simpa using e
  rw [hx, e']
theorem mask31 (x : Int32) : (x &&& 2147483647).toInt = x.toInt % 2147483648 := c_mask x 2147483647 31 (by decide) (by decide)
theorem irem_pos {x y : Int32} (hx : 0 ≤ x.toInt) : (x % y).toInt = x.toInt % y.toInt := (c_irem x y _ rfl).1 hx
theorem lrem_pos {x y : Int64} (hx : 0 ≤ x.toInt) : (x % y).toInt = x.toInt % y.toInt := by rw [← lrem_mod]; exact (c_lrem x y _ rfl).1 hx
theorem ne0I {x : Int32} (h : x.toInt ≠ 0) : x ≠ 0 := fun e => h (by rw [e]; rfl)
theorem ne0L {x : Int64} (h : x.toInt ≠ 0) : x ≠ 0 := fun e => h (by rw [e]; rfl)
theorem iadd_toInt {x y : Int32} (h1 : -2147483648 ≤ x.toInt + y.toInt) (h2 : x.toInt + y.toInt < 2147483648) : (x + y).toInt = x.toInt + y.toInt := XT.add32 ⟨by omega, by omega⟩
theorem isub_toInt {x y : Int32} (h1 : -2147483648 ≤ x.toInt - y.toInt) (h2 : x.toInt - y.toInt < 2147483648) : (x - y).toInt = x.toInt - y.toInt := XT.sub32 ⟨by omega, by omega⟩
theorem ladd_toInt {x y : Int64} (h1 : -9223372036854775808 ≤ x.toInt + y.toInt) (h2 : x.toInt + y.toInt < 9223372036854775808) : (x + y).toInt = x.toInt + y.toInt := XT.add64 ⟨by omega, by omega⟩
theorem lsub_toInt {x y : Int64} (h1 : -9223372036854775808 ≤ x.toInt - y.toInt) (h2 : x.toInt - y.toInt < 9223372036854775808) : (x - y).toInt = x.toInt - y.toInt := XT.sub64 ⟨by omega, by omega⟩
theorem l2i_toInt {x : Int64} (h1 : -2147483648 ≤ x.toInt) (h2 : x.toInt < 2147483648) : x.toInt32.toInt = x.toInt := XT.narrowInt ⟨by omega, by omega⟩
end Walk
end Jvm.OwnWalk
namespace Jvm.Pilot.@@N@@
open Jvm Jvm.ClassFile Sem Op Lib Jvm.Free Jvm.Stand Jvm.LawKit Jvm.RoadKit Bundle Jvm.OwnWalk Jvm.Pilot.@@N@@.Jvm.D
theorem own_wd {a0 : Array Value} {Z : State} (hw : ∀ d ∈ tables_1, d.before a0 Z = true) (i : Nat) {d : Jvm.Cond} (q : tables_1[i]? = some d) : d.before a0 Z = true := hw _ (List.mem_of_getElem? q)
def own_okq (u : UInt64) (n : Int) : Bool := match Jvm.FP.Core.decode Jvm.FP.Core.b64 u.toNat with
  | .fin s c q => decide (-1100 ≤ q) && decide (Jvm.FP.Core.signed s (c * 2 ^ (q + 1100).toNat) = n * ((2 ^ 1098 : Nat) : Int))
  | _ => false
theorem own_sgn (s : Bool) (a b : Nat) : Jvm.FP.Core.signed s (a * b) = Jvm.FP.Core.signed s a * (b : Int) := by
  cases s <;> simp [Jvm.FP.Core.signed, Int.neg_mul]
theorem own_cmpq {u v : UInt64} {n m : Int} (h1 : own_okq u n = true) (h2 : own_okq v m = true) : FP.dcmp u v = some (compare n m) := by
  show Jvm.FP.Core.order (Jvm.FP.Core.decode Jvm.FP.Core.b64 u.toNat) (Jvm.FP.Core.decode Jvm.FP.Core.b64 v.toNat) = _
  unfold own_okq at h1 h2
  generalize Jvm.FP.Core.decode Jvm.FP.Core.b64 u.toNat = du at h1
  generalize Jvm.FP.Core.decode Jvm.FP.Core.b64 v.toNat = dv at h2
  cases du with
  | nan => cases h1
  | inf s => cases h1
  | fin s c q =>
    cases dv with
    | nan => cases h2
    | inf s => cases h2
    | fin t d r =>
      simp only [Bool.and_eq_true, decide_eq_true_eq] at h1 h2
      obtain ⟨a1, a2⟩ := h1
      obtain ⟨b1, b2⟩ := h2
      show some (compare (Jvm.FP.Core.signed s (c * 2 ^ (q - min q r).toNat)) (Jvm.FP.Core.signed t (d * 2 ^ (r - min q r).toNat))) = _
      have e1 : c * 2 ^ (q + 1100).toNat = c * 2 ^ (q - min q r).toNat * 2 ^ (min q r + 1100).toNat := by
        rw [Nat.mul_assoc, ← Nat.pow_add]; congr 2; omega
      have e2 : d * 2 ^ (r + 1100).toNat = d * 2 ^ (r - min q r).toNat * 2 ^ (min q r + 1100).toNat := by
        rw [Nat.mul_assoc, ← Nat.pow_add]; congr 2; omega
      rw [e1, own_sgn] at a2
      rw [e2, own_sgn] at b2
      generalize Jvm.FP.Core.signed s (c * 2 ^ (q - min q r).toNat) = x at a2
      generalize Jvm.FP.Core.signed t (d * 2 ^ (r - min q r).toNat) = y at b2
      have hP : (0 : Int) < ((2 ^ (min q r + 1100).toNat : Nat) : Int) := Int.natCast_pos.mpr (Nat.pow_pos (by decide))
      generalize ((2 ^ (min q r + 1100).toNat : Nat) : Int) = P at a2 b2 hP
      have hE : (0 : Int) < ((2 ^ 1098 : Nat) : Int) := Int.natCast_pos.mpr (Nat.pow_pos (by decide))
      generalize ((2 ^ 1098 : Nat) : Int) = E at a2 b2 hE
      have mono : ∀ {a b c : Int}, 0 < c → (a * c < b * c ↔ a < b) := fun {a b c} hc => ⟨fun g => Int.lt_of_mul_lt_mul_right g (Int.le_of_lt hc), fun g => Int.mul_lt_mul_of_pos_right g hc⟩
      have k1 : x < y ↔ n < m := by rw [← mono hP, a2, b2, mono hE]
      have k2 : y < x ↔ m < n := by rw [← mono hP, a2, b2, mono hE]
      congr 1
      rcases Int.lt_trichotomy n m with g | g | g
      · rw [Int.compare_eq_lt.mpr g, Int.compare_eq_lt.mpr (k1.mpr g)]
      · have : x = y := by
          rcases Int.lt_trichotomy x y with z | z | z
          · have := k1.mp z; omega
          · exact z
          · have := k2.mp z; omega
        rw [this, g, Int.compare_eq_eq.mpr rfl, Int.compare_eq_eq.mpr rfl]
      · rw [Int.compare_eq_gt.mpr g, Int.compare_eq_gt.mpr (k2.mpr g)]
theorem own_cmpv {u v : UInt64} {n m : Int} {o : CmpOp} {z : Int32} (h1 : own_okq u n = true) (h2 : own_okq v m = true) (hz : cmpValue (FP.dcmp u v) o = z) : (n < m → z.toInt = -1) ∧ (n = m → z.toInt = 0) ∧ (m < n → z.toInt = 1) := by
  rw [own_cmpq h1 h2] at hz
  refine ⟨fun g => ?_, fun g => ?_, fun g => ?_⟩
  · rw [Int.compare_eq_lt.mpr g] at hz; rw [← hz]; rfl
  · rw [Int.compare_eq_eq.mpr g] at hz; rw [← hz]; rfl
  · rw [Int.compare_eq_gt.mpr g] at hz; rw [← hz]; rfl
theorem own_i2d : ∀ k : Fin 401, own_okq (FP.i2d (Int32.ofInt ((k.1 : Int) - 200))) (4 * ((k.1 : Int) - 200)) = true := by decide +kernel
theorem own_i2dq {x : Int32} {u : UInt64} (h1 : -200 ≤ x.toInt) (h2 : x.toInt ≤ 200) (hu : FP.i2d x = u) : own_okq u (4 * x.toInt) = true := by
  have k := own_i2d ⟨(x.toInt + 200).toNat, by omega⟩
  have e : ((x.toInt + 200).toNat : Int) - 200 = x.toInt := by omega
  have e' : Int32.ofInt x.toInt = x := Int32.ofInt_toInt x
  simp only [e, e'] at k
  rw [← hu]; exact k
theorem own_c180 : own_okq (4640537203540230144 : UInt64) 720 = true := by decide +kernel
theorem own_c90 : own_okq (4636033603912859648 : UInt64) 360 = true := by decide +kernel
theorem own_n180 : own_okq (FP.dneg (4640537203540230144 : UInt64)) (-720) = true := by decide +kernel
theorem own_n90 : own_okq (FP.dneg (4636033603912859648 : UInt64)) (-360) = true := by decide +kernel
theorem own_m180 : own_okq (13863909240395005952 : UInt64) (-720) = true := by decide +kernel
theorem old_plainE {Z : State} {h : Heap} {a : Addr} {C : String} (E : Exa Z h a C) : ∀ c : Cell, h[a]? = some c → c.vm.isStatics = false := fun c hc => by
  obtain ⟨c', _, h1, -, -, h4, -⟩ := E; cases h1.symm.trans hc; exact h4
theorem d1_0 : decode jdk_29_method_69_code 0 = .ok (.iload_n 0, 1) := by decide +kernel
theorem d1_1 : decode jdk_29_method_69_code 1 = .ok (.iload_n 1, 1) := by decide +kernel
theorem d1_2 : decode jdk_29_method_69_code 2 = .ok (.if_icmp .gt 7, 3) := by decide +kernel
theorem d1_5 : decode jdk_29_method_69_code 5 = .ok (.iload_n 0, 1) := by decide +kernel
theorem d1_6 : decode jdk_29_method_69_code 6 = .ok (.goto 4, 3) := by decide +kernel
theorem d1_9 : decode jdk_29_method_69_code 9 = .ok (.iload_n 1, 1) := by decide +kernel
theorem d1_10 : decode jdk_29_method_69_code 10 = .ok (.ireturn, 1) := by decide +kernel
theorem d2_0 : decode jdk_29_method_65_code 0 = .ok (.iload_n 0, 1) := by decide +kernel
theorem d2_1 : decode jdk_29_method_65_code 1 = .ok (.iload_n 1, 1) := by decide +kernel
theorem d2_2 : decode jdk_29_method_65_code 2 = .ok (.if_icmp .lt 7, 3) := by decide +kernel
theorem d2_5 : decode jdk_29_method_65_code 5 = .ok (.iload_n 0, 1) := by decide +kernel
theorem d2_6 : decode jdk_29_method_65_code 6 = .ok (.goto 4, 3) := by decide +kernel
theorem d2_9 : decode jdk_29_method_65_code 9 = .ok (.iload_n 1, 1) := by decide +kernel
theorem d2_10 : decode jdk_29_method_65_code 10 = .ok (.ireturn, 1) := by decide +kernel
theorem d3_0 : decode prog_4_method_1_code 0 = .ok (.aload_n 0, 1) := by decide +kernel
theorem d3_1 : decode prog_4_method_1_code 1 = .ok (.invokespecial 1, 3) := by decide +kernel
theorem d3_4 : decode prog_4_method_1_code 4 = .ok (.ldc 7, 2) := by decide +kernel
theorem d3_6 : decode prog_4_method_1_code 6 = .ok (.dload_n 1, 1) := by decide +kernel
theorem d3_7 : decode prog_4_method_1_code 7 = .ok (.ldc2_w 9, 3) := by decide +kernel
theorem d3_10 : decode prog_4_method_1_code 10 = .ok (.invokestatic 11, 3) := by decide +kernel
theorem d3_13 : decode prog_4_method_1_code 13 = .ok (.ldc 17, 2) := by decide +kernel
theorem d3_15 : decode prog_4_method_1_code 15 = .ok (.dload_n 3, 1) := by decide +kernel
theorem d3_16 : decode prog_4_method_1_code 16 = .ok (.ldc2_w 19, 3) := by decide +kernel
theorem d3_19 : decode prog_4_method_1_code 19 = .ok (.invokestatic 11, 3) := by decide +kernel
theorem d3_22 : decode prog_4_method_1_code 22 = .ok (.ldc 7, 2) := by decide +kernel
theorem d3_24 : decode prog_4_method_1_code 24 = .ok (.dload 5, 2) := by decide +kernel
theorem d3_26 : decode prog_4_method_1_code 26 = .ok (.ldc2_w 9, 3) := by decide +kernel
theorem d3_29 : decode prog_4_method_1_code 29 = .ok (.invokestatic 11, 3) := by decide +kernel
theorem d3_32 : decode prog_4_method_1_code 32 = .ok (.ldc 17, 2) := by decide +kernel
theorem d3_34 : decode prog_4_method_1_code 34 = .ok (.dload 7, 2) := by decide +kernel
theorem d3_36 : decode prog_4_method_1_code 36 = .ok (.ldc2_w 19, 3) := by decide +kernel
theorem d3_39 : decode prog_4_method_1_code 39 = .ok (.invokestatic 11, 3) := by decide +kernel
theorem d3_42 : decode prog_4_method_1_code 42 = .ok (.dload_n 3, 1) := by decide +kernel
theorem d3_43 : decode prog_4_method_1_code 43 = .ok (.dload 7, 2) := by decide +kernel
theorem d3_45 : decode prog_4_method_1_code 45 = .ok (.dcmp .l, 1) := by decide +kernel
theorem d3_46 : decode prog_4_method_1_code 46 = .ok (.ifCond .le 19, 3) := by decide +kernel
theorem d3_65 : decode prog_4_method_1_code 65 = .ok (.aload_n 0, 1) := by decide +kernel
theorem d3_66 : decode prog_4_method_1_code 66 = .ok (.dload_n 1, 1) := by decide +kernel
theorem d3_67 : decode prog_4_method_1_code 67 = .ok (.putfield 30, 3) := by decide +kernel
theorem d3_70 : decode prog_4_method_1_code 70 = .ok (.aload_n 0, 1) := by decide +kernel
theorem d3_71 : decode prog_4_method_1_code 71 = .ok (.dload_n 3, 1) := by decide +kernel
theorem d3_72 : decode prog_4_method_1_code 72 = .ok (.putfield 34, 3) := by decide +kernel
theorem d3_75 : decode prog_4_method_1_code 75 = .ok (.aload_n 0, 1) := by decide +kernel
theorem d3_76 : decode prog_4_method_1_code 76 = .ok (.dload 5, 2) := by decide +kernel
theorem d3_78 : decode prog_4_method_1_code 78 = .ok (.putfield 37, 3) := by decide +kernel
theorem d3_81 : decode prog_4_method_1_code 81 = .ok (.aload_n 0, 1) := by decide +kernel
theorem d3_82 : decode prog_4_method_1_code 82 = .ok (.dload 7, 2) := by decide +kernel
theorem d3_84 : decode prog_4_method_1_code 84 = .ok (.putfield 40, 3) := by decide +kernel
theorem d3_87 : decode prog_4_method_1_code 87 = .ok (.return_, 1) := by decide +kernel
theorem d4_0 : decode jdk_30_method_1_code 0 = .ok (.aload_n 0, 1) := by decide +kernel
theorem d4_1 : decode jdk_30_method_1_code 1 = .ok (.invokespecial 1, 3) := by decide +kernel
theorem d4_4 : decode jdk_30_method_1_code 4 = .ok (.return_, 1) := by decide +kernel
theorem d6_0 : decode prog_4_method_6_code 0 = .ok (.dload_n 1, 1) := by decide +kernel
theorem d6_1 : decode prog_4_method_6_code 1 = .ok (.dload_n 3, 1) := by decide +kernel
theorem d6_2 : decode prog_4_method_6_code 2 = .ok (.dneg, 1) := by decide +kernel
theorem d6_3 : decode prog_4_method_6_code 3 = .ok (.dcmp .l, 1) := by decide +kernel
theorem d6_4 : decode prog_4_method_6_code 4 = .ok (.ifCond .lt 9, 3) := by decide +kernel
theorem d6_7 : decode prog_4_method_6_code 7 = .ok (.dload_n 1, 1) := by decide +kernel
theorem d6_8 : decode prog_4_method_6_code 8 = .ok (.dload_n 3, 1) := by decide +kernel
theorem d6_9 : decode prog_4_method_6_code 9 = .ok (.dcmp .g, 1) := by decide +kernel
theorem d6_10 : decode prog_4_method_6_code 10 = .ok (.ifCond .le 22, 3) := by decide +kernel
theorem d6_32 : decode prog_4_method_6_code 32 = .ok (.return_, 1) := by decide +kernel
theorem d7_0 : decode prog_4_method_5_code 0 = .ok (.aload_n 0, 1) := by decide +kernel
theorem d7_1 : decode prog_4_method_5_code 1 = .ok (.invokevirtual 54, 3) := by decide +kernel
theorem d7_4 : decode prog_4_method_5_code 4 = .ok (.ifCond .eq 47, 3) := by decide +kernel
theorem d7_7 : decode prog_4_method_5_code 7 = .ok (.dload_n 1, 1) := by decide +kernel
theorem d7_8 : decode prog_4_method_5_code 8 = .ok (.aload_n 0, 1) := by decide +kernel
theorem d7_9 : decode prog_4_method_5_code 9 = .ok (.getfield 30, 3) := by decide +kernel
theorem d7_12 : decode prog_4_method_5_code 12 = .ok (.dcmp .l, 1) := by decide +kernel
theorem d7_13 : decode prog_4_method_5_code 13 = .ok (.ifCond .lt 11, 3) := by decide +kernel
theorem d7_16 : decode prog_4_method_5_code 16 = .ok (.dload_n 1, 1) := by decide +kernel
theorem d7_17 : decode prog_4_method_5_code 17 = .ok (.ldc2_w 9, 3) := by decide +kernel
theorem d7_20 : decode prog_4_method_5_code 20 = .ok (.dcmp .g, 1) := by decide +kernel
theorem d7_21 : decode prog_4_method_5_code 21 = .ok (.ifCond .le 20, 3) := by decide +kernel
theorem d7_24 : decode prog_4_method_5_code 24 = .ok (.dload_n 1, 1) := by decide +kernel
theorem d7_25 : decode prog_4_method_5_code 25 = .ok (.ldc2_w 58, 3) := by decide +kernel
theorem d7_28 : decode prog_4_method_5_code 28 = .ok (.dcmp .l, 1) := by decide +kernel
theorem d7_29 : decode prog_4_method_5_code 29 = .ok (.ifCond .lt 16, 3) := by decide +kernel
theorem d7_32 : decode prog_4_method_5_code 32 = .ok (.dload_n 1, 1) := by decide +kernel
theorem d7_33 : decode prog_4_method_5_code 33 = .ok (.aload_n 0, 1) := by decide +kernel
theorem d7_34 : decode prog_4_method_5_code 34 = .ok (.getfield 37, 3) := by decide +kernel
theorem d7_37 : decode prog_4_method_5_code 37 = .ok (.dcmp .g, 1) := by decide +kernel
theorem d7_38 : decode prog_4_method_5_code 38 = .ok (.ifCond .gt 7, 3) := by decide +kernel
theorem d7_41 : decode prog_4_method_5_code 41 = .ok (.iconst 1, 1) := by decide +kernel
theorem d7_42 : decode prog_4_method_5_code 42 = .ok (.goto 4, 3) := by decide +kernel
theorem d7_45 : decode prog_4_method_5_code 45 = .ok (.iconst 0, 1) := by decide +kernel
theorem d7_46 : decode prog_4_method_5_code 46 = .ok (.istore 5, 2) := by decide +kernel
theorem d7_48 : decode prog_4_method_5_code 48 = .ok (.goto 28, 3) := by decide +kernel
theorem d7_51 : decode prog_4_method_5_code 51 = .ok (.dload_n 1, 1) := by decide +kernel
theorem d7_52 : decode prog_4_method_5_code 52 = .ok (.aload_n 0, 1) := by decide +kernel
theorem d7_53 : decode prog_4_method_5_code 53 = .ok (.getfield 30, 3) := by decide +kernel
theorem d7_56 : decode prog_4_method_5_code 56 = .ok (.dcmp .l, 1) := by decide +kernel
theorem d7_57 : decode prog_4_method_5_code 57 = .ok (.ifCond .lt 16, 3) := by decide +kernel
theorem d7_60 : decode prog_4_method_5_code 60 = .ok (.dload_n 1, 1) := by decide +kernel
theorem d7_61 : decode prog_4_method_5_code 61 = .ok (.aload_n 0, 1) := by decide +kernel
theorem d7_62 : decode prog_4_method_5_code 62 = .ok (.getfield 37, 3) := by decide +kernel
theorem d7_65 : decode prog_4_method_5_code 65 = .ok (.dcmp .g, 1) := by decide +kernel
theorem d7_66 : decode prog_4_method_5_code 66 = .ok (.ifCond .gt 7, 3) := by decide +kernel
theorem d7_69 : decode prog_4_method_5_code 69 = .ok (.iconst 1, 1) := by decide +kernel
theorem d7_70 : decode prog_4_method_5_code 70 = .ok (.goto 4, 3) := by decide +kernel
theorem d7_73 : decode prog_4_method_5_code 73 = .ok (.iconst 0, 1) := by decide +kernel
theorem d7_74 : decode prog_4_method_5_code 74 = .ok (.istore 5, 2) := by decide +kernel
theorem d7_76 : decode prog_4_method_5_code 76 = .ok (.iload 5, 2) := by decide +kernel
theorem d7_78 : decode prog_4_method_5_code 78 = .ok (.ifCond .eq 25, 3) := by decide +kernel
theorem d7_81 : decode prog_4_method_5_code 81 = .ok (.dload_n 3, 1) := by decide +kernel
theorem d7_82 : decode prog_4_method_5_code 82 = .ok (.aload_n 0, 1) := by decide +kernel
theorem d7_83 : decode prog_4_method_5_code 83 = .ok (.getfield 34, 3) := by decide +kernel
theorem d7_86 : decode prog_4_method_5_code 86 = .ok (.dcmp .l, 1) := by decide +kernel
theorem d7_87 : decode prog_4_method_5_code 87 = .ok (.ifCond .lt 16, 3) := by decide +kernel
theorem d7_90 : decode prog_4_method_5_code 90 = .ok (.dload_n 3, 1) := by decide +kernel
theorem d7_91 : decode prog_4_method_5_code 91 = .ok (.aload_n 0, 1) := by decide +kernel
theorem d7_92 : decode prog_4_method_5_code 92 = .ok (.getfield 40, 3) := by decide +kernel
theorem d7_95 : decode prog_4_method_5_code 95 = .ok (.dcmp .g, 1) := by decide +kernel
theorem d7_96 : decode prog_4_method_5_code 96 = .ok (.ifCond .gt 7, 3) := by decide +kernel
theorem d7_99 : decode prog_4_method_5_code 99 = .ok (.iconst 1, 1) := by decide +kernel
theorem d7_100 : decode prog_4_method_5_code 100 = .ok (.goto 4, 3) := by decide +kernel
theorem d7_103 : decode prog_4_method_5_code 103 = .ok (.iconst 0, 1) := by decide +kernel
theorem d7_104 : decode prog_4_method_5_code 104 = .ok (.ireturn, 1) := by decide +kernel
theorem d8_0 : decode prog_4_method_3_code 0 = .ok (.aload_n 0, 1) := by decide +kernel
theorem d8_1 : decode prog_4_method_3_code 1 = .ok (.getfield 30, 3) := by decide +kernel
theorem d8_4 : decode prog_4_method_3_code 4 = .ok (.aload_n 0, 1) := by decide +kernel
theorem d8_5 : decode prog_4_method_3_code 5 = .ok (.getfield 37, 3) := by decide +kernel
theorem d8_8 : decode prog_4_method_3_code 8 = .ok (.dcmp .l, 1) := by decide +kernel
theorem d8_9 : decode prog_4_method_3_code 9 = .ok (.ifCond .le 7, 3) := by decide +kernel
theorem d8_12 : decode prog_4_method_3_code 12 = .ok (.iconst 1, 1) := by decide +kernel
theorem d8_13 : decode prog_4_method_3_code 13 = .ok (.goto 4, 3) := by decide +kernel
theorem d8_16 : decode prog_4_method_3_code 16 = .ok (.iconst 0, 1) := by decide +kernel
theorem d8_17 : decode prog_4_method_3_code 17 = .ok (.ireturn, 1) := by decide +kernel
theorem own_pd0 : parseMethodDescriptor "()V" = some ⟨[], none⟩ := by decide +kernel
theorem own_pd1 : parseMethodDescriptor "(Ljava/lang/String;DD)V" = some ⟨[(.object "java/lang/String"), .double, .double], none⟩ := by decide +kernel
theorem own_pd2 : parseMethodDescriptor "()Z" = some ⟨[], some .boolean⟩ := by decide +kernel
theorem own_pd3 : parseMethodDescriptor "(II)I" = some ⟨[.int, .int], some .int⟩ := by decide +kernel
theorem own_pd4 : parseMethodDescriptor "(DDDD)V" = some ⟨[.double, .double, .double, .double], none⟩ := by decide +kernel
theorem own_pd5 : parseMethodDescriptor "(DD)Z" = some ⟨[.double, .double], some .boolean⟩ := by decide +kernel
theorem own_str {a0 : Array Value} {Z : State} (hw : ∀ d ∈ tables_1, d.before a0 Z = true) : ∀ a ∈ Bundle.stringAtoms, a.before a0 Z = true := by
  intro a ha
  simp only [Bundle.stringAtoms, List.mem_cons, List.not_mem_nil, or_false] at ha
  rcases ha with rfl | rfl | rfl | rfl | rfl | rfl | rfl
  · exact own_wd hw 23 rfl
  · exact own_wd hw 24 rfl
  · exact own_wd hw 25 rfl
  · exact own_wd hw 26 rfl
  · exact own_wd hw 27 rfl
  · exact own_wd hw 28 rfl
  · exact own_wd hw 29 rfl
set_option maxRecDepth 65536 in
set_option maxHeartbeats 40000000 in
theorem own_min (l : Launch) (Z : State) (a0 : Array Value) (hw : ∀ d ∈ tables_1, d.before a0 Z = true) (p1 p2 : Int32) (h0 : Heap) (n0 : Nat) (hn : n0 ≤ h0.size)  :
    ConV l Z (⟨"java/lang/Math", "min", "(II)I"⟩ : MethodName) jdk_29_method_69_code 2 (some .int) ({ frames := 0, cells := 0, slots := 0, locals := 0 } : Room) #[(.int p1), (.int p2)] h0 n0 (fun v h => h0 = h ∧ ∃ z : Int32, v = .int z ∧ z.toInt = min p1.toInt p2.toInt) := by
  refine Con.of (Jvm.Free.JP.mathPlain rfl (by decide +kernel)) hn ?_
  intro p e s m below meth c T w X
  refine Gl.enter (ls := #[.val (.int p1), .val (.int p2)]) (by first | (simp [entryFrame, mkF, argsToLocals, Value.category]; done) | rfl) ?_
  refine gIloadN X w d1_0 rfl (n := 1) rfl ?_
  refine gIloadN X w d1_1 rfl (n := 2) rfl ?_
  refine gIcmp_gt X w d1_2 (n := 9) (n' := 5) (by decide) rfl rfl ?_ ?_
  · intro c2
    refine gIloadN X w d1_9 rfl (n := 10) rfl ?_
    exact gRetI X w rfl d1_10 (by decide) (by decide) (⟨_, rfl, rfl, _, rfl, by omega⟩)
  · intro c2
    refine gIloadN X w d1_5 rfl (n := 6) rfl ?_
    refine gGoto X w d1_6 (by decide) (n := 10) rfl ?_
    exact gRetI X w rfl d1_10 (by decide) (by decide) (⟨_, rfl, rfl, _, rfl, by omega⟩)
set_option maxRecDepth 65536 in
set_option maxHeartbeats 40000000 in
theorem own_max (l : Launch) (Z : State) (a0 : Array Value) (hw : ∀ d ∈ tables_1, d.before a0 Z = true) (p1 p2 : Int32) (h0 : Heap) (n0 : Nat) (hn : n0 ≤ h0.size)  :
    ConV l Z (⟨"java/lang/Math", "max", "(II)I"⟩ : MethodName) jdk_29_method_65_code 2 (some .int) ({ frames := 0, cells := 0, slots := 0, locals := 0 } : Room) #[(.int p1), (.int p2)] h0 n0 (fun v h => h0 = h ∧ ∃ z : Int32, v = .int z ∧ z.toInt = max p1.toInt p2.toInt) := by
  refine Con.of (Jvm.Free.JP.mathPlain rfl (by decide +kernel)) hn ?_
  intro p e s m below meth c T w X
  refine Gl.enter (ls := #[.val (.int p1), .val (.int p2)]) (by first | (simp [entryFrame, mkF, argsToLocals, Value.category]; done) | rfl) ?_
  refine gIloadN X w d2_0 rfl (n := 1) rfl ?_
  refine gIloadN X w d2_1 rfl (n := 2) rfl ?_
  refine gIcmp_lt X w d2_2 (n := 9) (n' := 5) (by decide) rfl rfl ?_ ?_
  · intro c2
    refine gIloadN X w d2_9 rfl (n := 10) rfl ?_
    exact gRetI X w rfl d2_10 (by decide) (by decide) (⟨_, rfl, rfl, _, rfl, by omega⟩)
  · intro c2
    refine gIloadN X w d2_5 rfl (n := 6) rfl ?_
    refine gGoto X w d2_6 (by decide) (n := 10) rfl ?_
    exact gRetI X w rfl d2_10 (by decide) (by decide) (⟨_, rfl, rfl, _, rfl, by omega⟩)
set_option maxRecDepth 65536 in
set_option maxHeartbeats 40000000 in
theorem own_rec (l : Launch) (Z : State) (a0 : Array Value) (hw : ∀ d ∈ tables_1, d.before a0 Z = true) (a : Addr) (h0 : Heap) (n0 : Nat) (hn : n0 ≤ h0.size)  :
    ConN l Z (⟨"java/lang/Record", "<init>", "()V"⟩ : MethodName) jdk_30_method_1_code 1 ({ frames := 1, cells := 0, slots := 0, locals := 12 } : Room) #[(.ref a)] h0 n0 (fun h => h0 = h) := by
  refine Con.of (plainFor_of_name (by first | (simp [plainName, overriddenIn]; done) | decide +kernel)) hn ?_
  intro p e s m below meth c T w X
  refine Gl.enter (ls := #[.val (.ref a)]) (by first | (simp [entryFrame, mkF, argsToLocals, Value.category]; done) | rfl) ?_
  refine gAloadN X w d4_0 rfl rfl (n := 1) rfl ?_
  refine gInitO X w (own_wd hw 19 rfl) (own_wd hw 20 rfl) (own_wd hw 21 rfl) d4_1 rfl (by decide) (W := 0) (Nat.le_of_eq rfl) (by decide) (n := 4) rfl ?_
  intro T X
  exact gRetV X w rfl d4_4 (by decide) (by decide) (⟨rfl, rfl⟩)
set_option maxRecDepth 65536 in
set_option maxHeartbeats 40000000 in
theorem own_req (l : Launch) (Z : State) (a0 : Array Value) (hw : ∀ d ∈ tables_1, d.before a0 Z = true) (t : Addr) (u L : UInt64) (n B : Int) (h0 : Heap) (n0 : Nat) (hn : n0 ≤ h0.size) (hu : own_okq u n = true) (hL : own_okq L B = true) (hL' : own_okq (FP.dneg L) (-B) = true) (h1 : -B ≤ n) (h2 : n ≤ B) :
    ConN l Z (⟨"com/example/gridshard/gridshard/core/BoundingBox", "requireWithin", "(Ljava/lang/String;DD)V"⟩ : MethodName) prog_4_method_6_code 5 ({ frames := 0, cells := 0, slots := 0, locals := 0 } : Room) #[(.ref t), (.double u), (.double L)] h0 n0 (fun h => h0 = h) := by
  refine Con.of (plainFor_of_name (by first | (simp [plainName, overriddenIn]; done) | decide +kernel)) hn ?_
  intro p e s m below meth c T w X
  refine Gl.enter (ls := #[.val (.ref t), .val (.double u), .second, .val (.double L), .second]) (by first | (simp [entryFrame, mkF, argsToLocals, Value.category]; done) | rfl) ?_
  refine gDloadN X w d6_0 rfl (n := 1) rfl ?_
  refine gDloadN X w d6_1 rfl (n := 2) rfl ?_
  obtain ⟨u2, q2⟩ : ∃ zz_ : UInt64, FP.dneg L = zz_ := ⟨_, rfl⟩
  refine gDneg X w d6_2 q2 (n := 3) rfl ?_
  obtain ⟨x3, q3⟩ : ∃ zz_ : Int32, cmpValue (FP.dcmp u u2) .l = zz_ := ⟨_, rfl⟩
  refine gDcmp X w d6_3 q3 (n := 4) rfl ?_
  obtain ⟨f3, g3, k3⟩ := own_cmpv hu (q2 ▸ hL' : own_okq u2 (-B) = true) q3
  refine gIf_lt X w d6_4 (n := 13) (n' := 7) (by decide) rfl rfl ?_ ?_
  · intro c4
    exfalso; omega
  · intro c4
    refine gDloadN X w d6_7 rfl (n := 8) rfl ?_
    refine gDloadN X w d6_8 rfl (n := 9) rfl ?_
    obtain ⟨x9, q9⟩ : ∃ zz_ : Int32, cmpValue (FP.dcmp u L) .g = zz_ := ⟨_, rfl⟩
    refine gDcmp X w d6_9 q9 (n := 10) rfl ?_
    obtain ⟨f9, g9, k9⟩ := own_cmpv hu hL q9
    refine gIf_le X w d6_10 (n := 32) (n' := 13) (by decide) rfl rfl ?_ ?_
    · intro c10
      exact gRetV X w rfl d6_32 (by decide) (by decide) (⟨rfl, rfl⟩)
    · intro c10
      exfalso; omega
set_option maxRecDepth 65536 in
set_option maxHeartbeats 40000000 in
theorem own_init (l : Launch) (Z : State) (a0 : Array Value) (hw : ∀ d ∈ tables_1, d.before a0 Z = true) (a : Addr) (u1 u2 u3 u4 : UInt64) (n1 n2 n3 n4 : Int) (h0 : Heap) (n0 : Nat) (hn : n0 ≤ h0.size) (na : n0 ≤ a) (A0 : Exa Z h0 a "com/example/gridshard/gridshard/core/BoundingBox") (F0 : Fld Z h0 a "com/example/gridshard/gridshard/core/BoundingBox" "west" "D" (.double 0)) (F1 : Fld Z h0 a "com/example/gridshard/gridshard/core/BoundingBox" "south" "D" (.double 0)) (F2 : Fld Z h0 a "com/example/gridshard/gridshard/core/BoundingBox" "east" "D" (.double 0)) (F3 : Fld Z h0 a "com/example/gridshard/gridshard/core/BoundingBox" "north" "D" (.double 0)) (k1 : own_okq u1 n1 = true) (k2 : own_okq u2 n2 = true) (k3 : own_okq u3 n3 = true) (k4 : own_okq u4 n4 = true) (b1 : -720 ≤ n1 ∧ n1 ≤ 720) (b3 : -720 ≤ n3 ∧ n3 ≤ 720) (b2 : -360 ≤ n2 ∧ n2 ≤ n4 ∧ n4 ≤ 360) :
    ConN l Z (⟨"com/example/gridshard/gridshard/core/BoundingBox", "<init>", "(DDDD)V"⟩ : MethodName) prog_4_method_1_code 9 ({ frames := 2, cells := 8, slots := 152, locals := 24 } : Room) #[(.ref a), (.double u1), (.double u2), (.double u3), (.double u4)] h0 n0 (fun h => Keep h0 h [a] ∧ Exa Z h a "com/example/gridshard/gridshard/core/BoundingBox" ∧ Fld Z h a "com/example/gridshard/gridshard/core/BoundingBox" "west" "D" (.double u1) ∧ Fld Z h a "com/example/gridshard/gridshard/core/BoundingBox" "south" "D" (.double u2) ∧ Fld Z h a "com/example/gridshard/gridshard/core/BoundingBox" "east" "D" (.double u3) ∧ Fld Z h a "com/example/gridshard/gridshard/core/BoundingBox" "north" "D" (.double u4)) := by
  refine Con.of (plainFor_of_name (by first | (simp [plainName, overriddenIn]; done) | decide +kernel)) hn ?_
  intro p e s m below meth c T w X
  refine Gl.enter (ls := #[.val (.ref a), .val (.double u1), .second, .val (.double u2), .second, .val (.double u3), .second, .val (.double u4), .second]) (by first | (simp [entryFrame, mkF, argsToLocals, Value.category]; done) | rfl) ?_
  refine gAloadN X w d3_0 rfl rfl (n := 1) rfl ?_
  refine gCallIn X w [] [] rfl (own_rec l Z a0 hw a h0 n0 hn) (own_wd hw 14 rfl) (own_wd hw 15 rfl) (own_wd hw 17 rfl) (own_wd hw 18 rfl) (by decide) own_pd0 rfl rfl d3_1 rfl (W := 0) (Nat.le_of_eq rfl) (by decide) (by decide) (by decide) (by decide) (n := 4) rfl ?_
  rintro T _ rfl X
  refine gLdcS X w (own_wd hw 22 rfl) (own_str hw) d3_4 (k := 36) (by decide) (by decide) (by decide) (by decide) (n := 6) rfl ?_
  intro T hp4 as4 X E4
  have F_1 := A0.ext E4
  have F_2 := F0.ext E4
  have F_3 := F1.ext E4
  have F_4 := F2.ext E4
  have F_5 := F3.ext E4
  refine gDloadN X w d3_6 rfl (n := 7) rfl ?_
  refine gLdc2D X w (own_wd hw 30 rfl) d3_7 (n := 10) rfl ?_
  refine gCallSn X w [(.ref as4), (.double u1), (.double (4640537203540230144 : UInt64))] [] (own_req l Z a0 hw as4 u1 (4640537203540230144 : UInt64) n1 720 hp4 n0 (Sd.le X) k1 own_c180 own_n180  (by omega) (by omega)) (own_wd hw 31 rfl) (own_wd hw 32 rfl) (own_wd hw 10 rfl) (own_wd hw 33 rfl) (by decide) own_pd1 rfl rfl d3_10 rfl (W := 0) (Nat.le_of_eq rfl) (by decide) (by decide) (by decide) (by decide) (n := 13) rfl ?_
  rintro T _ rfl X
  refine gLdcS X w (own_wd hw 34 rfl) (own_str hw) d3_13 (k := 32) (by decide) (by decide) (by decide) (by decide) (n := 15) rfl ?_
  intro T hp13 as13 X E13
  have F_6 := F_1.ext E13
  have F_7 := F_2.ext E13
  have F_8 := F_3.ext E13
  have F_9 := F_4.ext E13
  have F_10 := F_5.ext E13
  refine gDloadN X w d3_15 rfl (n := 16) rfl ?_
  refine gLdc2D X w (own_wd hw 35 rfl) d3_16 (n := 19) rfl ?_
  refine gCallSn X w [(.ref as13), (.double u2), (.double (4636033603912859648 : UInt64))] [] (own_req l Z a0 hw as13 u2 (4636033603912859648 : UInt64) n2 360 hp13 n0 (Sd.le X) k2 own_c90 own_n90  (by omega) (by omega)) (own_wd hw 31 rfl) (own_wd hw 32 rfl) (own_wd hw 10 rfl) (own_wd hw 33 rfl) (by decide) own_pd1 rfl rfl d3_19 rfl (W := 0) (Nat.le_of_eq rfl) (by decide) (by decide) (by decide) (by decide) (n := 22) rfl ?_
  rintro T _ rfl X
  refine gLdcS X w (own_wd hw 22 rfl) (own_str hw) d3_22 (k := 36) (by decide) (by decide) (by decide) (by decide) (n := 24) rfl ?_
  intro T hp22 as22 X E22
  have F_11 := F_6.ext E22
  have F_12 := F_7.ext E22
  have F_13 := F_8.ext E22
  have F_14 := F_9.ext E22
  have F_15 := F_10.ext E22
  refine gDload X w d3_24 rfl (n := 26) rfl ?_
  refine gLdc2D X w (own_wd hw 30 rfl) d3_26 (n := 29) rfl ?_
  refine gCallSn X w [(.ref as22), (.double u3), (.double (4640537203540230144 : UInt64))] [] (own_req l Z a0 hw as22 u3 (4640537203540230144 : UInt64) n3 720 hp22 n0 (Sd.le X) k3 own_c180 own_n180  (by omega) (by omega)) (own_wd hw 31 rfl) (own_wd hw 32 rfl) (own_wd hw 10 rfl) (own_wd hw 33 rfl) (by decide) own_pd1 rfl rfl d3_29 rfl (W := 0) (Nat.le_of_eq rfl) (by decide) (by decide) (by decide) (by decide) (n := 32) rfl ?_
  rintro T _ rfl X
  refine gLdcS X w (own_wd hw 34 rfl) (own_str hw) d3_32 (k := 32) (by decide) (by decide) (by decide) (by decide) (n := 34) rfl ?_
  intro T hp32 as32 X E32
  have F_16 := F_11.ext E32
  have F_17 := F_12.ext E32
  have F_18 := F_13.ext E32
  have F_19 := F_14.ext E32
  have F_20 := F_15.ext E32
  refine gDload X w d3_34 rfl (n := 36) rfl ?_
  refine gLdc2D X w (own_wd hw 35 rfl) d3_36 (n := 39) rfl ?_
  refine gCallSn X w [(.ref as32), (.double u4), (.double (4636033603912859648 : UInt64))] [] (own_req l Z a0 hw as32 u4 (4636033603912859648 : UInt64) n4 360 hp32 n0 (Sd.le X) k4 own_c90 own_n90  (by omega) (by omega)) (own_wd hw 31 rfl) (own_wd hw 32 rfl) (own_wd hw 10 rfl) (own_wd hw 33 rfl) (by decide) own_pd1 rfl rfl d3_39 rfl (W := 0) (Nat.le_of_eq rfl) (by decide) (by decide) (by decide) (by decide) (n := 42) rfl ?_
  rintro T _ rfl X
  refine gDloadN X w d3_42 rfl (n := 43) rfl ?_
  refine gDload X w d3_43 rfl (n := 45) rfl ?_
  obtain ⟨x45, q45⟩ : ∃ zz_ : Int32, cmpValue (FP.dcmp u2 u4) .l = zz_ := ⟨_, rfl⟩
  refine gDcmp X w d3_45 q45 (n := 46) rfl ?_
  obtain ⟨f45, g45, h45⟩ := own_cmpv k2 k4 q45
  refine gIf_le X w d3_46 (n := 65) (n' := 49) (by decide) rfl rfl ?_ ?_
  · intro c46
    refine gAloadN X w d3_65 rfl rfl (n := 66) rfl ?_
    refine gDloadN X w d3_66 rfl (n := 67) rfl ?_
    refine gPutF X w (own_wd hw 36 rfl) Via.refl F_17 F_16 (Or.inr ⟨own_wd hw 37 rfl, rfl, rfl⟩) (own_wd hw 9 rfl) na (ty := .double) (by decide) rfl rfl d3_67 (n := 70) rfl ?_
    intro T hp67 X W67
    have F_21 := F_16.wr W67
    have F_22 := F_17.same W67
    have F_23 := F_18.other W67 (Or.inr (slot_ne (Or.inr (own_wd hw 39 rfl) : Laid Z a0 _ _ _ _) (Or.inr (own_wd hw 37 rfl) : Laid Z a0 _ _ _ _) (by decide) (t := .double) (t' := .double) (by decide) (by decide)))
    have F_24 := F_19.other W67 (Or.inr (slot_ne (Or.inr (own_wd hw 41 rfl) : Laid Z a0 _ _ _ _) (Or.inr (own_wd hw 37 rfl) : Laid Z a0 _ _ _ _) (by decide) (t := .double) (t' := .double) (by decide) (by decide)))
    have F_25 := F_20.other W67 (Or.inr (slot_ne (Or.inr (own_wd hw 43 rfl) : Laid Z a0 _ _ _ _) (Or.inr (own_wd hw 37 rfl) : Laid Z a0 _ _ _ _) (by decide) (t := .double) (t' := .double) (by decide) (by decide)))
    refine gAloadN X w d3_70 rfl rfl (n := 71) rfl ?_
    refine gDloadN X w d3_71 rfl (n := 72) rfl ?_
    refine gPutF X w (own_wd hw 38 rfl) Via.refl F_23 F_21 (Or.inr ⟨own_wd hw 39 rfl, rfl, rfl⟩) (own_wd hw 9 rfl) na (ty := .double) (by decide) rfl rfl d3_72 (n := 75) rfl ?_
    intro T hp72 X W72
    have F_26 := F_21.wr W72
    have F_27 := F_22.other W72 (Or.inr (slot_ne (Or.inr (own_wd hw 37 rfl) : Laid Z a0 _ _ _ _) (Or.inr (own_wd hw 39 rfl) : Laid Z a0 _ _ _ _) (by decide) (t := .double) (t' := .double) (by decide) (by decide)))
    have F_28 := F_23.same W72
    have F_29 := F_24.other W72 (Or.inr (slot_ne (Or.inr (own_wd hw 41 rfl) : Laid Z a0 _ _ _ _) (Or.inr (own_wd hw 39 rfl) : Laid Z a0 _ _ _ _) (by decide) (t := .double) (t' := .double) (by decide) (by decide)))
    have F_30 := F_25.other W72 (Or.inr (slot_ne (Or.inr (own_wd hw 43 rfl) : Laid Z a0 _ _ _ _) (Or.inr (own_wd hw 39 rfl) : Laid Z a0 _ _ _ _) (by decide) (t := .double) (t' := .double) (by decide) (by decide)))
    refine gAloadN X w d3_75 rfl rfl (n := 76) rfl ?_
    refine gDload X w d3_76 rfl (n := 78) rfl ?_
    refine gPutF X w (own_wd hw 40 rfl) Via.refl F_29 F_26 (Or.inr ⟨own_wd hw 41 rfl, rfl, rfl⟩) (own_wd hw 9 rfl) na (ty := .double) (by decide) rfl rfl d3_78 (n := 81) rfl ?_
    intro T hp78 X W78
    have F_31 := F_26.wr W78
    have F_32 := F_27.other W78 (Or.inr (slot_ne (Or.inr (own_wd hw 37 rfl) : Laid Z a0 _ _ _ _) (Or.inr (own_wd hw 41 rfl) : Laid Z a0 _ _ _ _) (by decide) (t := .double) (t' := .double) (by decide) (by decide)))
    have F_33 := F_28.other W78 (Or.inr (slot_ne (Or.inr (own_wd hw 39 rfl) : Laid Z a0 _ _ _ _) (Or.inr (own_wd hw 41 rfl) : Laid Z a0 _ _ _ _) (by decide) (t := .double) (t' := .double) (by decide) (by decide)))
    have F_34 := F_29.same W78
    have F_35 := F_30.other W78 (Or.inr (slot_ne (Or.inr (own_wd hw 43 rfl) : Laid Z a0 _ _ _ _) (Or.inr (own_wd hw 41 rfl) : Laid Z a0 _ _ _ _) (by decide) (t := .double) (t' := .double) (by decide) (by decide)))
    refine gAloadN X w d3_81 rfl rfl (n := 82) rfl ?_
    refine gDload X w d3_82 rfl (n := 84) rfl ?_
    refine gPutF X w (own_wd hw 42 rfl) Via.refl F_35 F_31 (Or.inr ⟨own_wd hw 43 rfl, rfl, rfl⟩) (own_wd hw 9 rfl) na (ty := .double) (by decide) rfl rfl d3_84 (n := 87) rfl ?_
    intro T hp84 X W84
    have F_36 := F_31.wr W84
    have F_37 := F_32.other W84 (Or.inr (slot_ne (Or.inr (own_wd hw 37 rfl) : Laid Z a0 _ _ _ _) (Or.inr (own_wd hw 43 rfl) : Laid Z a0 _ _ _ _) (by decide) (t := .double) (t' := .double) (by decide) (by decide)))
    have F_38 := F_33.other W84 (Or.inr (slot_ne (Or.inr (own_wd hw 39 rfl) : Laid Z a0 _ _ _ _) (Or.inr (own_wd hw 43 rfl) : Laid Z a0 _ _ _ _) (by decide) (t := .double) (t' := .double) (by decide) (by decide)))
    have F_39 := F_34.other W84 (Or.inr (slot_ne (Or.inr (own_wd hw 41 rfl) : Laid Z a0 _ _ _ _) (Or.inr (own_wd hw 43 rfl) : Laid Z a0 _ _ _ _) (by decide) (t := .double) (t' := .double) (by decide) (by decide)))
    have F_40 := F_35.same W84
    exact gRetV X w rfl d3_87 (by decide) (by decide) (⟨rfl, (((((((((Keep.refl _ _).ext E4).ext E13).ext E22).ext E32).wr W67 (Or.inl (List.mem_singleton.mpr rfl))).wr W72 (Or.inl (List.mem_singleton.mpr rfl))).wr W78 (Or.inl (List.mem_singleton.mpr rfl))).wr W84 (Or.inl (List.mem_singleton.mpr rfl))), F_36, F_37, F_38, F_39, F_40⟩)
  · intro c46
    exfalso; omega
set_option maxRecDepth 65536 in
set_option maxHeartbeats 40000000 in
theorem own_cross (l : Launch) (Z : State) (a0 : Array Value) (hw : ∀ d ∈ tables_1, d.before a0 Z = true) (a : Addr) (u1 u3 : UInt64) (n1 n3 : Int) (h0 : Heap) (n0 : Nat) (hn : n0 ≤ h0.size) (F0 : Fld Z h0 a "com/example/gridshard/gridshard/core/BoundingBox" "west" "D" (.double u1)) (F2 : Fld Z h0 a "com/example/gridshard/gridshard/core/BoundingBox" "east" "D" (.double u3)) (k1 : own_okq u1 n1 = true) (k3 : own_okq u3 n3 = true) :
    ConV l Z (⟨"com/example/gridshard/gridshard/core/BoundingBox", "crossesAntimeridian", "()Z"⟩ : MethodName) prog_4_method_3_code 1 (some .boolean) ({ frames := 0, cells := 0, slots := 0, locals := 0 } : Room) #[(.ref a)] h0 n0 (fun v h => h0 = h ∧ ∃ z : Int32, v = .int z ∧ (z = 0 ∨ z = 1) ∧ (z = 1 ↔ n3 < n1)) := by
  refine Con.of (plainFor_of_name (by first | (simp [plainName, overriddenIn]; done) | decide +kernel)) hn ?_
  intro p e s m below meth c T w X
  refine Gl.enter (ls := #[.val (.ref a)]) (by first | (simp [entryFrame, mkF, argsToLocals, Value.category]; done) | rfl) ?_
  refine gAloadN X w d8_0 rfl rfl (n := 1) rfl ?_
  refine gGetF X w (own_wd hw 36 rfl) Via.refl F0 d8_1 (n := 4) rfl ?_
  intro T X
  refine gAloadN X w d8_4 rfl rfl (n := 5) rfl ?_
  refine gGetF X w (own_wd hw 40 rfl) Via.refl F2 d8_5 (n := 8) rfl ?_
  intro T X
  obtain ⟨x8, q8⟩ : ∃ zz_ : Int32, cmpValue (FP.dcmp u1 u3) .l = zz_ := ⟨_, rfl⟩
  refine gDcmp X w d8_8 q8 (n := 9) rfl ?_
  obtain ⟨f8, g8, k8⟩ := own_cmpv k1 k3 q8
  refine gIf_le X w d8_9 (n := 16) (n' := 12) (by decide) rfl rfl ?_ ?_
  · intro c9
    refine gIconst X w d8_16 (z := (0 : Int32)) rfl (n := 17) rfl ?_
    exact gRetZ X w rfl (Or.inl rfl) d8_17 (by decide) (by decide) (⟨_, rfl, rfl, (0 : Int32), rfl, Or.inl rfl, ⟨fun q => absurd q (by decide), fun q => absurd q (by omega)⟩⟩)
  · intro c9
    refine gIconst X w d8_12 (z := (1 : Int32)) rfl (n := 13) rfl ?_
    refine gGoto X w d8_13 (by decide) (n := 17) rfl ?_
    exact gRetZ X w rfl (Or.inr rfl) d8_17 (by decide) (by decide) (⟨_, rfl, rfl, (1 : Int32), rfl, Or.inr rfl, ⟨fun _ => by omega, fun _ => rfl⟩⟩)
set_option maxRecDepth 65536 in
set_option maxHeartbeats 40000000 in
theorem own_contains (l : Launch) (Z : State) (a0 : Array Value) (hw : ∀ d ∈ tables_1, d.before a0 Z = true) (a : Addr) (u1 u2 u3 u4 ux uy : UInt64) (n1 n2 n3 n4 x y : Int) (h0 : Heap) (n0 : Nat) (hn : n0 ≤ h0.size) (A0 : Exa Z h0 a "com/example/gridshard/gridshard/core/BoundingBox") (F0 : Fld Z h0 a "com/example/gridshard/gridshard/core/BoundingBox" "west" "D" (.double u1)) (F1 : Fld Z h0 a "com/example/gridshard/gridshard/core/BoundingBox" "south" "D" (.double u2)) (F2 : Fld Z h0 a "com/example/gridshard/gridshard/core/BoundingBox" "east" "D" (.double u3)) (F3 : Fld Z h0 a "com/example/gridshard/gridshard/core/BoundingBox" "north" "D" (.double u4)) (k1 : own_okq u1 n1 = true) (k2 : own_okq u2 n2 = true) (k3 : own_okq u3 n3 = true) (k4 : own_okq u4 n4 = true) (kx : own_okq ux x = true) (ky : own_okq uy y = true) :
    ConV l Z (⟨"com/example/gridshard/gridshard/core/BoundingBox", "contains", "(DD)Z"⟩ : MethodName) prog_4_method_5_code 6 (some .boolean) ({ frames := 1, cells := 0, slots := 0, locals := 12 } : Room) #[(.ref a), (.double ux), (.double uy)] h0 n0 (fun v h => h0 = h ∧ ∃ z : Int32, v = .int z ∧ (z = 0 ∨ z = 1) ∧ (z = 1 ↔ ((n1 ≤ n3 → n1 ≤ x ∧ x ≤ n3) ∧ (n3 < n1 → (n1 ≤ x ∧ x ≤ 720) ∨ (-720 ≤ x ∧ x ≤ n3)) ∧ n2 ≤ y ∧ y ≤ n4))) := by
  refine Con.of (plainFor_of_name (by first | (simp [plainName, overriddenIn]; done) | decide +kernel)) hn ?_
  intro p e s m below meth c T w X
  refine Gl.enter (ls := #[.val (.ref a), .val (.double ux), .second, .val (.double uy), .second, .unset]) (by first | (simp [entryFrame, mkF, argsToLocals, Value.category]; done) | rfl) ?_
  refine gAloadN X w d7_0 rfl rfl (n := 1) rfl ?_
  refine gCallVv X w [] [] A0 (own_cross l Z a0 hw a u1 u3 n1 n3 h0 n0 hn F0 F2 k1 k3) (own_wd hw 49 rfl) (own_wd hw 50 rfl) (fun vm0 hS => notFace_of_selects (args := #[]) (mvT (State.Warmed39.trans w.2.2.1 hS.1) (own_wd hw 52 rfl))) (own_wd hw 52 rfl) (own_wd hw 51 rfl) (own_wd hw 10 rfl) (own_wd hw 53 rfl) (by decide) own_pd2 rfl rfl d7_1 rfl (W := 0) (Nat.le_of_eq rfl) (by decide) (by decide) (by decide) (by decide) (n := 4) rfl ?_
  rintro T _ _ ⟨rfl, z1, rfl, o1, i1⟩ X
  refine gIf_eq X w d7_4 (n := 51) (n' := 7) (by decide) rfl rfl ?_ ?_
  · rintro ⟨c4, c4'⟩
    have j4 : ¬ n3 < n1 := fun q => absurd (i1.mpr q) (by rw [c4]; decide)
    refine gDloadN X w d7_51 rfl (n := 52) rfl ?_
    refine gAloadN X w d7_52 rfl rfl (n := 53) rfl ?_
    refine gGetF X w (own_wd hw 36 rfl) Via.refl F0 d7_53 (n := 56) rfl ?_
    intro T X
    obtain ⟨x56, q56⟩ : ∃ zz_ : Int32, cmpValue (FP.dcmp ux u1) .l = zz_ := ⟨_, rfl⟩
    refine gDcmp X w d7_56 q56 (n := 57) rfl ?_
    obtain ⟨f56, g56, k56'⟩ := own_cmpv kx k1 q56
    refine gIf_lt X w d7_57 (n := 73) (n' := 60) (by decide) rfl rfl ?_ ?_
    · intro c57
      refine gIconst X w d7_73 (z := (0 : Int32)) rfl (n := 74) rfl ?_
      refine gIstore X w d7_74 #[.val (.ref a), .val (.double ux), .second, .val (.double uy), .second, .val (.int (0 : Int32))] rfl (n := 76) rfl ?_
      refine gIload X w d7_76 rfl (n := 78) rfl ?_
      refine gIf_eq X w d7_78 (n := 103) (n' := 81) (by decide) rfl rfl ?_ ?_
      · rintro ⟨c78, c78'⟩
        refine gIconst X w d7_103 (z := (0 : Int32)) rfl (n := 104) rfl ?_
        exact gRetZ X w rfl (Or.inl rfl) d7_104 (by decide) (by decide) (⟨_, rfl, rfl, (0 : Int32), rfl, Or.inl rfl, ⟨fun q => absurd q (by decide), fun q => absurd q (by omega)⟩⟩)
      · rintro ⟨c78, c78'⟩
        exact absurd c78 (by decide)
    · intro c57
      refine gDloadN X w d7_60 rfl (n := 61) rfl ?_
      refine gAloadN X w d7_61 rfl rfl (n := 62) rfl ?_
      refine gGetF X w (own_wd hw 40 rfl) Via.refl F2 d7_62 (n := 65) rfl ?_
      intro T X
      obtain ⟨x65, q65⟩ : ∃ zz_ : Int32, cmpValue (FP.dcmp ux u3) .g = zz_ := ⟨_, rfl⟩
      refine gDcmp X w d7_65 q65 (n := 66) rfl ?_
      obtain ⟨f65, g65, k65'⟩ := own_cmpv kx k3 q65
      refine gIf_gt X w d7_66 (n := 73) (n' := 69) (by decide) rfl rfl ?_ ?_
      · intro c66
        refine gIconst X w d7_73 (z := (0 : Int32)) rfl (n := 74) rfl ?_
        refine gIstore X w d7_74 #[.val (.ref a), .val (.double ux), .second, .val (.double uy), .second, .val (.int (0 : Int32))] rfl (n := 76) rfl ?_
        refine gIload X w d7_76 rfl (n := 78) rfl ?_
        refine gIf_eq X w d7_78 (n := 103) (n' := 81) (by decide) rfl rfl ?_ ?_
        · rintro ⟨c78, c78'⟩
          refine gIconst X w d7_103 (z := (0 : Int32)) rfl (n := 104) rfl ?_
          exact gRetZ X w rfl (Or.inl rfl) d7_104 (by decide) (by decide) (⟨_, rfl, rfl, (0 : Int32), rfl, Or.inl rfl, ⟨fun q => absurd q (by decide), fun q => absurd q (by omega)⟩⟩)
        · rintro ⟨c78, c78'⟩
          exact absurd c78 (by decide)
      · intro c66
        refine gIconst X w d7_69 (z := (1 : Int32)) rfl (n := 70) rfl ?_
        refine gGoto X w d7_70 (by decide) (n := 74) rfl ?_
        refine gIstore X w d7_74 #[.val (.ref a), .val (.double ux), .second, .val (.double uy), .second, .val (.int (1 : Int32))] rfl (n := 76) rfl ?_
        refine gIload X w d7_76 rfl (n := 78) rfl ?_
        refine gIf_eq X w d7_78 (n := 103) (n' := 81) (by decide) rfl rfl ?_ ?_
        · rintro ⟨c78, c78'⟩
          exact absurd c78 (by decide)
        · rintro ⟨c78, c78'⟩
          refine gDloadN X w d7_81 rfl (n := 82) rfl ?_
          refine gAloadN X w d7_82 rfl rfl (n := 83) rfl ?_
          refine gGetF X w (own_wd hw 38 rfl) Via.refl F1 d7_83 (n := 86) rfl ?_
          intro T X
          obtain ⟨x86, q86⟩ : ∃ zz_ : Int32, cmpValue (FP.dcmp uy u2) .l = zz_ := ⟨_, rfl⟩
          refine gDcmp X w d7_86 q86 (n := 87) rfl ?_
          obtain ⟨f86, g86, k86'⟩ := own_cmpv ky k2 q86
          refine gIf_lt X w d7_87 (n := 103) (n' := 90) (by decide) rfl rfl ?_ ?_
          · intro c87
            refine gIconst X w d7_103 (z := (0 : Int32)) rfl (n := 104) rfl ?_
            exact gRetZ X w rfl (Or.inl rfl) d7_104 (by decide) (by decide) (⟨_, rfl, rfl, (0 : Int32), rfl, Or.inl rfl, ⟨fun q => absurd q (by decide), fun q => absurd q (by omega)⟩⟩)
          · intro c87
            refine gDloadN X w d7_90 rfl (n := 91) rfl ?_
            refine gAloadN X w d7_91 rfl rfl (n := 92) rfl ?_
            refine gGetF X w (own_wd hw 42 rfl) Via.refl F3 d7_92 (n := 95) rfl ?_
            intro T X
            obtain ⟨x95, q95⟩ : ∃ zz_ : Int32, cmpValue (FP.dcmp uy u4) .g = zz_ := ⟨_, rfl⟩
            refine gDcmp X w d7_95 q95 (n := 96) rfl ?_
            obtain ⟨f95, g95, k95'⟩ := own_cmpv ky k4 q95
            refine gIf_gt X w d7_96 (n := 103) (n' := 99) (by decide) rfl rfl ?_ ?_
            · intro c96
              refine gIconst X w d7_103 (z := (0 : Int32)) rfl (n := 104) rfl ?_
              exact gRetZ X w rfl (Or.inl rfl) d7_104 (by decide) (by decide) (⟨_, rfl, rfl, (0 : Int32), rfl, Or.inl rfl, ⟨fun q => absurd q (by decide), fun q => absurd q (by omega)⟩⟩)
            · intro c96
              refine gIconst X w d7_99 (z := (1 : Int32)) rfl (n := 100) rfl ?_
              refine gGoto X w d7_100 (by decide) (n := 104) rfl ?_
              exact gRetZ X w rfl (Or.inr rfl) d7_104 (by decide) (by decide) (⟨_, rfl, rfl, (1 : Int32), rfl, Or.inr rfl, ⟨fun _ => by omega, fun _ => rfl⟩⟩)
  · rintro ⟨c4, c4'⟩
    have j4 : n3 < n1 := i1.mp (o1.resolve_left c4)
    refine gDloadN X w d7_7 rfl (n := 8) rfl ?_
    refine gAloadN X w d7_8 rfl rfl (n := 9) rfl ?_
    refine gGetF X w (own_wd hw 36 rfl) Via.refl F0 d7_9 (n := 12) rfl ?_
    intro T X
    obtain ⟨x12, q12⟩ : ∃ zz_ : Int32, cmpValue (FP.dcmp ux u1) .l = zz_ := ⟨_, rfl⟩
    refine gDcmp X w d7_12 q12 (n := 13) rfl ?_
    obtain ⟨f12, g12, k12'⟩ := own_cmpv kx k1 q12
    refine gIf_lt X w d7_13 (n := 24) (n' := 16) (by decide) rfl rfl ?_ ?_
    · intro c13
      refine gDloadN X w d7_24 rfl (n := 25) rfl ?_
      refine gLdc2D X w (own_wd hw 54 rfl) d7_25 (n := 28) rfl ?_
      obtain ⟨x28, q28⟩ : ∃ zz_ : Int32, cmpValue (FP.dcmp ux (13863909240395005952 : UInt64)) .l = zz_ := ⟨_, rfl⟩
      refine gDcmp X w d7_28 q28 (n := 29) rfl ?_
      obtain ⟨f28, g28, k28'⟩ := own_cmpv kx own_m180 q28
      refine gIf_lt X w d7_29 (n := 45) (n' := 32) (by decide) rfl rfl ?_ ?_
      · intro c29
        refine gIconst X w d7_45 (z := (0 : Int32)) rfl (n := 46) rfl ?_
        refine gIstore X w d7_46 #[.val (.ref a), .val (.double ux), .second, .val (.double uy), .second, .val (.int (0 : Int32))] rfl (n := 48) rfl ?_
        refine gGoto X w d7_48 (by decide) (n := 76) rfl ?_
        refine gIload X w d7_76 rfl (n := 78) rfl ?_
        refine gIf_eq X w d7_78 (n := 103) (n' := 81) (by decide) rfl rfl ?_ ?_
        · rintro ⟨c78, c78'⟩
          refine gIconst X w d7_103 (z := (0 : Int32)) rfl (n := 104) rfl ?_
          exact gRetZ X w rfl (Or.inl rfl) d7_104 (by decide) (by decide) (⟨_, rfl, rfl, (0 : Int32), rfl, Or.inl rfl, ⟨fun q => absurd q (by decide), fun q => absurd q (by omega)⟩⟩)
        · rintro ⟨c78, c78'⟩
          exact absurd c78 (by decide)
      · intro c29
        refine gDloadN X w d7_32 rfl (n := 33) rfl ?_
        refine gAloadN X w d7_33 rfl rfl (n := 34) rfl ?_
        refine gGetF X w (own_wd hw 40 rfl) Via.refl F2 d7_34 (n := 37) rfl ?_
        intro T X
        obtain ⟨x37, q37⟩ : ∃ zz_ : Int32, cmpValue (FP.dcmp ux u3) .g = zz_ := ⟨_, rfl⟩
        refine gDcmp X w d7_37 q37 (n := 38) rfl ?_
        obtain ⟨f37, g37, k37'⟩ := own_cmpv kx k3 q37
        refine gIf_gt X w d7_38 (n := 45) (n' := 41) (by decide) rfl rfl ?_ ?_
        · intro c38
          refine gIconst X w d7_45 (z := (0 : Int32)) rfl (n := 46) rfl ?_
          refine gIstore X w d7_46 #[.val (.ref a), .val (.double ux), .second, .val (.double uy), .second, .val (.int (0 : Int32))] rfl (n := 48) rfl ?_
          refine gGoto X w d7_48 (by decide) (n := 76) rfl ?_
          refine gIload X w d7_76 rfl (n := 78) rfl ?_
          refine gIf_eq X w d7_78 (n := 103) (n' := 81) (by decide) rfl rfl ?_ ?_
          · rintro ⟨c78, c78'⟩
            refine gIconst X w d7_103 (z := (0 : Int32)) rfl (n := 104) rfl ?_
            exact gRetZ X w rfl (Or.inl rfl) d7_104 (by decide) (by decide) (⟨_, rfl, rfl, (0 : Int32), rfl, Or.inl rfl, ⟨fun q => absurd q (by decide), fun q => absurd q (by omega)⟩⟩)
          · rintro ⟨c78, c78'⟩
            exact absurd c78 (by decide)
        · intro c38
          refine gIconst X w d7_41 (z := (1 : Int32)) rfl (n := 42) rfl ?_
          refine gGoto X w d7_42 (by decide) (n := 46) rfl ?_
          refine gIstore X w d7_46 #[.val (.ref a), .val (.double ux), .second, .val (.double uy), .second, .val (.int (1 : Int32))] rfl (n := 48) rfl ?_
          refine gGoto X w d7_48 (by decide) (n := 76) rfl ?_
          refine gIload X w d7_76 rfl (n := 78) rfl ?_
          refine gIf_eq X w d7_78 (n := 103) (n' := 81) (by decide) rfl rfl ?_ ?_
          · rintro ⟨c78, c78'⟩
            exact absurd c78 (by decide)
          · rintro ⟨c78, c78'⟩
            refine gDloadN X w d7_81 rfl (n := 82) rfl ?_
            refine gAloadN X w d7_82 rfl rfl (n := 83) rfl ?_
            refine gGetF X w (own_wd hw 38 rfl) Via.refl F1 d7_83 (n := 86) rfl ?_
            intro T X
            obtain ⟨x86, q86⟩ : ∃ zz_ : Int32, cmpValue (FP.dcmp uy u2) .l = zz_ := ⟨_, rfl⟩
            refine gDcmp X w d7_86 q86 (n := 87) rfl ?_
            obtain ⟨f86, g86, k86'⟩ := own_cmpv ky k2 q86
            refine gIf_lt X w d7_87 (n := 103) (n' := 90) (by decide) rfl rfl ?_ ?_
            · intro c87
              refine gIconst X w d7_103 (z := (0 : Int32)) rfl (n := 104) rfl ?_
              exact gRetZ X w rfl (Or.inl rfl) d7_104 (by decide) (by decide) (⟨_, rfl, rfl, (0 : Int32), rfl, Or.inl rfl, ⟨fun q => absurd q (by decide), fun q => absurd q (by omega)⟩⟩)
            · intro c87
              refine gDloadN X w d7_90 rfl (n := 91) rfl ?_
              refine gAloadN X w d7_91 rfl rfl (n := 92) rfl ?_
              refine gGetF X w (own_wd hw 42 rfl) Via.refl F3 d7_92 (n := 95) rfl ?_
              intro T X
              obtain ⟨x95, q95⟩ : ∃ zz_ : Int32, cmpValue (FP.dcmp uy u4) .g = zz_ := ⟨_, rfl⟩
              refine gDcmp X w d7_95 q95 (n := 96) rfl ?_
              obtain ⟨f95, g95, k95'⟩ := own_cmpv ky k4 q95
              refine gIf_gt X w d7_96 (n := 103) (n' := 99) (by decide) rfl rfl ?_ ?_
              · intro c96
                refine gIconst X w d7_103 (z := (0 : Int32)) rfl (n := 104) rfl ?_
                exact gRetZ X w rfl (Or.inl rfl) d7_104 (by decide) (by decide) (⟨_, rfl, rfl, (0 : Int32), rfl, Or.inl rfl, ⟨fun q => absurd q (by decide), fun q => absurd q (by omega)⟩⟩)
              · intro c96
                refine gIconst X w d7_99 (z := (1 : Int32)) rfl (n := 100) rfl ?_
                refine gGoto X w d7_100 (by decide) (n := 104) rfl ?_
                exact gRetZ X w rfl (Or.inr rfl) d7_104 (by decide) (by decide) (⟨_, rfl, rfl, (1 : Int32), rfl, Or.inr rfl, ⟨fun _ => by omega, fun _ => rfl⟩⟩)
    · intro c13
      refine gDloadN X w d7_16 rfl (n := 17) rfl ?_
      refine gLdc2D X w (own_wd hw 30 rfl) d7_17 (n := 20) rfl ?_
      obtain ⟨x20, q20⟩ : ∃ zz_ : Int32, cmpValue (FP.dcmp ux (4640537203540230144 : UInt64)) .g = zz_ := ⟨_, rfl⟩
      refine gDcmp X w d7_20 q20 (n := 21) rfl ?_
      obtain ⟨f20, g20, k20'⟩ := own_cmpv kx own_c180 q20
      refine gIf_le X w d7_21 (n := 41) (n' := 24) (by decide) rfl rfl ?_ ?_
      · intro c21
        refine gIconst X w d7_41 (z := (1 : Int32)) rfl (n := 42) rfl ?_
        refine gGoto X w d7_42 (by decide) (n := 46) rfl ?_
        refine gIstore X w d7_46 #[.val (.ref a), .val (.double ux), .second, .val (.double uy), .second, .val (.int (1 : Int32))] rfl (n := 48) rfl ?_
        refine gGoto X w d7_48 (by decide) (n := 76) rfl ?_
        refine gIload X w d7_76 rfl (n := 78) rfl ?_
        refine gIf_eq X w d7_78 (n := 103) (n' := 81) (by decide) rfl rfl ?_ ?_
        · rintro ⟨c78, c78'⟩
          exact absurd c78 (by decide)
        · rintro ⟨c78, c78'⟩
          refine gDloadN X w d7_81 rfl (n := 82) rfl ?_
          refine gAloadN X w d7_82 rfl rfl (n := 83) rfl ?_
          refine gGetF X w (own_wd hw 38 rfl) Via.refl F1 d7_83 (n := 86) rfl ?_
          intro T X
          obtain ⟨x86, q86⟩ : ∃ zz_ : Int32, cmpValue (FP.dcmp uy u2) .l = zz_ := ⟨_, rfl⟩
          refine gDcmp X w d7_86 q86 (n := 87) rfl ?_
          obtain ⟨f86, g86, k86'⟩ := own_cmpv ky k2 q86
          refine gIf_lt X w d7_87 (n := 103) (n' := 90) (by decide) rfl rfl ?_ ?_
          · intro c87
            refine gIconst X w d7_103 (z := (0 : Int32)) rfl (n := 104) rfl ?_
            exact gRetZ X w rfl (Or.inl rfl) d7_104 (by decide) (by decide) (⟨_, rfl, rfl, (0 : Int32), rfl, Or.inl rfl, ⟨fun q => absurd q (by decide), fun q => absurd q (by omega)⟩⟩)
          · intro c87
            refine gDloadN X w d7_90 rfl (n := 91) rfl ?_
            refine gAloadN X w d7_91 rfl rfl (n := 92) rfl ?_
            refine gGetF X w (own_wd hw 42 rfl) Via.refl F3 d7_92 (n := 95) rfl ?_
            intro T X
            obtain ⟨x95, q95⟩ : ∃ zz_ : Int32, cmpValue (FP.dcmp uy u4) .g = zz_ := ⟨_, rfl⟩
            refine gDcmp X w d7_95 q95 (n := 96) rfl ?_
            obtain ⟨f95, g95, k95'⟩ := own_cmpv ky k4 q95
            refine gIf_gt X w d7_96 (n := 103) (n' := 99) (by decide) rfl rfl ?_ ?_
            · intro c96
              refine gIconst X w d7_103 (z := (0 : Int32)) rfl (n := 104) rfl ?_
              exact gRetZ X w rfl (Or.inl rfl) d7_104 (by decide) (by decide) (⟨_, rfl, rfl, (0 : Int32), rfl, Or.inl rfl, ⟨fun q => absurd q (by decide), fun q => absurd q (by omega)⟩⟩)
            · intro c96
              refine gIconst X w d7_99 (z := (1 : Int32)) rfl (n := 100) rfl ?_
              refine gGoto X w d7_100 (by decide) (n := 104) rfl ?_
              exact gRetZ X w rfl (Or.inr rfl) d7_104 (by decide) (by decide) (⟨_, rfl, rfl, (1 : Int32), rfl, Or.inr rfl, ⟨fun _ => by omega, fun _ => rfl⟩⟩)
      · intro c21
        refine gDloadN X w d7_24 rfl (n := 25) rfl ?_
        refine gLdc2D X w (own_wd hw 54 rfl) d7_25 (n := 28) rfl ?_
        obtain ⟨x28, q28⟩ : ∃ zz_ : Int32, cmpValue (FP.dcmp ux (13863909240395005952 : UInt64)) .l = zz_ := ⟨_, rfl⟩
        refine gDcmp X w d7_28 q28 (n := 29) rfl ?_
        obtain ⟨f28, g28, k28'⟩ := own_cmpv kx own_m180 q28
        refine gIf_lt X w d7_29 (n := 45) (n' := 32) (by decide) rfl rfl ?_ ?_
        · intro c29
          refine gIconst X w d7_45 (z := (0 : Int32)) rfl (n := 46) rfl ?_
          refine gIstore X w d7_46 #[.val (.ref a), .val (.double ux), .second, .val (.double uy), .second, .val (.int (0 : Int32))] rfl (n := 48) rfl ?_
          refine gGoto X w d7_48 (by decide) (n := 76) rfl ?_
          refine gIload X w d7_76 rfl (n := 78) rfl ?_
          refine gIf_eq X w d7_78 (n := 103) (n' := 81) (by decide) rfl rfl ?_ ?_
          · rintro ⟨c78, c78'⟩
            refine gIconst X w d7_103 (z := (0 : Int32)) rfl (n := 104) rfl ?_
            exact gRetZ X w rfl (Or.inl rfl) d7_104 (by decide) (by decide) (⟨_, rfl, rfl, (0 : Int32), rfl, Or.inl rfl, ⟨fun q => absurd q (by decide), fun q => absurd q (by omega)⟩⟩)
          · rintro ⟨c78, c78'⟩
            exact absurd c78 (by decide)
        · intro c29
          refine gDloadN X w d7_32 rfl (n := 33) rfl ?_
          refine gAloadN X w d7_33 rfl rfl (n := 34) rfl ?_
          refine gGetF X w (own_wd hw 40 rfl) Via.refl F2 d7_34 (n := 37) rfl ?_
          intro T X
          obtain ⟨x37, q37⟩ : ∃ zz_ : Int32, cmpValue (FP.dcmp ux u3) .g = zz_ := ⟨_, rfl⟩
          refine gDcmp X w d7_37 q37 (n := 38) rfl ?_
          obtain ⟨f37, g37, k37'⟩ := own_cmpv kx k3 q37
          refine gIf_gt X w d7_38 (n := 45) (n' := 41) (by decide) rfl rfl ?_ ?_
          · intro c38
            refine gIconst X w d7_45 (z := (0 : Int32)) rfl (n := 46) rfl ?_
            refine gIstore X w d7_46 #[.val (.ref a), .val (.double ux), .second, .val (.double uy), .second, .val (.int (0 : Int32))] rfl (n := 48) rfl ?_
            refine gGoto X w d7_48 (by decide) (n := 76) rfl ?_
            refine gIload X w d7_76 rfl (n := 78) rfl ?_
            refine gIf_eq X w d7_78 (n := 103) (n' := 81) (by decide) rfl rfl ?_ ?_
            · rintro ⟨c78, c78'⟩
              refine gIconst X w d7_103 (z := (0 : Int32)) rfl (n := 104) rfl ?_
              exact gRetZ X w rfl (Or.inl rfl) d7_104 (by decide) (by decide) (⟨_, rfl, rfl, (0 : Int32), rfl, Or.inl rfl, ⟨fun q => absurd q (by decide), fun q => absurd q (by omega)⟩⟩)
            · rintro ⟨c78, c78'⟩
              exact absurd c78 (by decide)
          · intro c38
            refine gIconst X w d7_41 (z := (1 : Int32)) rfl (n := 42) rfl ?_
            refine gGoto X w d7_42 (by decide) (n := 46) rfl ?_
            refine gIstore X w d7_46 #[.val (.ref a), .val (.double ux), .second, .val (.double uy), .second, .val (.int (1 : Int32))] rfl (n := 48) rfl ?_
            refine gGoto X w d7_48 (by decide) (n := 76) rfl ?_
            refine gIload X w d7_76 rfl (n := 78) rfl ?_
            refine gIf_eq X w d7_78 (n := 103) (n' := 81) (by decide) rfl rfl ?_ ?_
            · rintro ⟨c78, c78'⟩
              exact absurd c78 (by decide)
            · rintro ⟨c78, c78'⟩
              refine gDloadN X w d7_81 rfl (n := 82) rfl ?_
              refine gAloadN X w d7_82 rfl rfl (n := 83) rfl ?_
              refine gGetF X w (own_wd hw 38 rfl) Via.refl F1 d7_83 (n := 86) rfl ?_
              intro T X
              obtain ⟨x86, q86⟩ : ∃ zz_ : Int32, cmpValue (FP.dcmp uy u2) .l = zz_ := ⟨_, rfl⟩
              refine gDcmp X w d7_86 q86 (n := 87) rfl ?_
              obtain ⟨f86, g86, k86'⟩ := own_cmpv ky k2 q86
              refine gIf_lt X w d7_87 (n := 103) (n' := 90) (by decide) rfl rfl ?_ ?_
              · intro c87
                refine gIconst X w d7_103 (z := (0 : Int32)) rfl (n := 104) rfl ?_
                exact gRetZ X w rfl (Or.inl rfl) d7_104 (by decide) (by decide) (⟨_, rfl, rfl, (0 : Int32), rfl, Or.inl rfl, ⟨fun q => absurd q (by decide), fun q => absurd q (by omega)⟩⟩)
              · intro c87
                refine gDloadN X w d7_90 rfl (n := 91) rfl ?_
                refine gAloadN X w d7_91 rfl rfl (n := 92) rfl ?_
                refine gGetF X w (own_wd hw 42 rfl) Via.refl F3 d7_92 (n := 95) rfl ?_
                intro T X
                obtain ⟨x95, q95⟩ : ∃ zz_ : Int32, cmpValue (FP.dcmp uy u4) .g = zz_ := ⟨_, rfl⟩
                refine gDcmp X w d7_95 q95 (n := 96) rfl ?_
                obtain ⟨f95, g95, k95'⟩ := own_cmpv ky k4 q95
                refine gIf_gt X w d7_96 (n := 103) (n' := 99) (by decide) rfl rfl ?_ ?_
                · intro c96
                  refine gIconst X w d7_103 (z := (0 : Int32)) rfl (n := 104) rfl ?_
                  exact gRetZ X w rfl (Or.inl rfl) d7_104 (by decide) (by decide) (⟨_, rfl, rfl, (0 : Int32), rfl, Or.inl rfl, ⟨fun q => absurd q (by decide), fun q => absurd q (by omega)⟩⟩)
                · intro c96
                  refine gIconst X w d7_99 (z := (1 : Int32)) rfl (n := 100) rfl ?_
                  refine gGoto X w d7_100 (by decide) (n := 104) rfl ?_
                  exact gRetZ X w rfl (Or.inr rfl) d7_104 (by decide) (by decide) (⟨_, rfl, rfl, (1 : Int32), rfl, Or.inr rfl, ⟨fun _ => by omega, fun _ => rfl⟩⟩)
set_option maxRecDepth 65536 in
set_option maxHeartbeats 40000000 in
theorem own_law (l : Launch) (Z : State) (a0 : Array Value) (hw : ∀ d ∈ tables_1, d.before a0 Z = true) (p1 p2 p3 p4 p5 p6 : Int32) (h0 : Heap) (n0 : Nat) (hn : n0 ≤ h0.size)  :
    Con l Z x code maxLocals ret tables_1 room_1 16 2176 #[(.int p1), (.int p2), (.int p3), (.int p4), (.int p5), (.int p6)] h0 n0 (fun r h => r = some (.int 1)) := by
  refine Con.of (plainFor_of_name (by first | (simp [plainName, overriddenIn]; done) | decide +kernel)) hn ?_
  intro p e s m below meth c T w X
  refine Gl.enter (ls := #[.val (.int p1), .val (.int p2), .val (.int p3), .val (.int p4), .val (.int p5), .val (.int p6), .unset, .unset, .unset, .unset, .unset, .unset, .unset, .unset, .unset, .unset, .unset, .unset, .unset]) (by first | (simp [entryFrame, mkF, argsToLocals, Value.category, maxLocals]; done) | rfl) ?_
  refine gIloadN X w at_0 rfl (n := 1) rfl ?_
  refine gLdc X w (own_wd hw 0 rfl) at_1 (n := 3) rfl ?_
  obtain ⟨x3, q3⟩ : ∃ zz_ : Int32, p1 &&& (2147483647 : Int32) = zz_ := ⟨_, rfl⟩
  refine gIand X w at_3 q3 (n := 4) rfl ?_
  have f3 : x3.toInt = p1.toInt % 2147483648 := by rw [← q3]; exact mask31 _
  refine gSipush X w at_4 (z := (361 : Int32)) (by decide) (n := 7) rfl ?_
  obtain ⟨x7, q7⟩ : ∃ zz_ : Int32, x3 % (361 : Int32) = zz_ := ⟨_, rfl⟩
  refine gIrem X w at_7 (by decide) q7 (n := 8) rfl ?_
  have f7 : x7.toInt = x3.toInt % 361 := by
    have h := irem_pos (x := x3) (y := 361) (by omega)
    rw [q7, show (361 : Int32).toInt = 361 from rfl] at h; exact h
  refine gSipush X w at_8 (z := (180 : Int32)) (by decide) (n := 11) rfl ?_
  obtain ⟨x11, q11⟩ : ∃ zz_ : Int32, x7 - (180 : Int32) = zz_ := ⟨_, rfl⟩
  refine gIsub X w at_11 q11 (n := 12) rfl ?_
  have f11 : x11.toInt = x7.toInt - 180 := by rw [← q11, isub_toInt] <;> rw [show (180 : Int32).toInt = 180 from rfl] <;> omega
  refine gIstore X w at_12 #[.val (.int p1), .val (.int p2), .val (.int p3), .val (.int p4), .val (.int p5), .val (.int p6), .val (.int x11), .unset, .unset, .unset, .unset, .unset, .unset, .unset, .unset, .unset, .unset, .unset, .unset] rfl (n := 14) rfl ?_
  refine gIloadN X w at_14 rfl (n := 15) rfl ?_
  refine gLdc X w (own_wd hw 0 rfl) at_15 (n := 17) rfl ?_
  obtain ⟨x17, q17⟩ : ∃ zz_ : Int32, p3 &&& (2147483647 : Int32) = zz_ := ⟨_, rfl⟩
  refine gIand X w at_17 q17 (n := 18) rfl ?_
  have f17 : x17.toInt = p3.toInt % 2147483648 := by rw [← q17]; exact mask31 _
  refine gSipush X w at_18 (z := (361 : Int32)) (by decide) (n := 21) rfl ?_
  obtain ⟨x21, q21⟩ : ∃ zz_ : Int32, x17 % (361 : Int32) = zz_ := ⟨_, rfl⟩
  refine gIrem X w at_21 (by decide) q21 (n := 22) rfl ?_
  have f21 : x21.toInt = x17.toInt % 361 := by
    have h := irem_pos (x := x17) (y := 361) (by omega)
    rw [q21, show (361 : Int32).toInt = 361 from rfl] at h; exact h
  refine gSipush X w at_22 (z := (180 : Int32)) (by decide) (n := 25) rfl ?_
  obtain ⟨x25, q25⟩ : ∃ zz_ : Int32, x21 - (180 : Int32) = zz_ := ⟨_, rfl⟩
  refine gIsub X w at_25 q25 (n := 26) rfl ?_
  have f25 : x25.toInt = x21.toInt - 180 := by rw [← q25, isub_toInt] <;> rw [show (180 : Int32).toInt = 180 from rfl] <;> omega
  refine gIstore X w at_26 #[.val (.int p1), .val (.int p2), .val (.int p3), .val (.int p4), .val (.int p5), .val (.int p6), .val (.int x11), .val (.int x25), .unset, .unset, .unset, .unset, .unset, .unset, .unset, .unset, .unset, .unset, .unset] rfl (n := 28) rfl ?_
  refine gIloadN X w at_28 rfl (n := 29) rfl ?_
  refine gLdc X w (own_wd hw 0 rfl) at_29 (n := 31) rfl ?_
  obtain ⟨x31, q31⟩ : ∃ zz_ : Int32, p2 &&& (2147483647 : Int32) = zz_ := ⟨_, rfl⟩
  refine gIand X w at_31 q31 (n := 32) rfl ?_
  have f31 : x31.toInt = p2.toInt % 2147483648 := by rw [← q31]; exact mask31 _
  refine gSipush X w at_32 (z := (181 : Int32)) (by decide) (n := 35) rfl ?_
  obtain ⟨x35, q35⟩ : ∃ zz_ : Int32, x31 % (181 : Int32) = zz_ := ⟨_, rfl⟩
  refine gIrem X w at_35 (by decide) q35 (n := 36) rfl ?_
  have f35 : x35.toInt = x31.toInt % 181 := by
    have h := irem_pos (x := x31) (y := 181) (by omega)
    rw [q35, show (181 : Int32).toInt = 181 from rfl] at h; exact h
  refine gBipush X w at_36 (z := (90 : Int32)) (by decide) (n := 38) rfl ?_
  obtain ⟨x38, q38⟩ : ∃ zz_ : Int32, x35 - (90 : Int32) = zz_ := ⟨_, rfl⟩
  refine gIsub X w at_38 q38 (n := 39) rfl ?_
  have f38 : x38.toInt = x35.toInt - 90 := by rw [← q38, isub_toInt] <;> rw [show (90 : Int32).toInt = 90 from rfl] <;> omega
  refine gIstore X w at_39 #[.val (.int p1), .val (.int p2), .val (.int p3), .val (.int p4), .val (.int p5), .val (.int p6), .val (.int x11), .val (.int x25), .val (.int x38), .unset, .unset, .unset, .unset, .unset, .unset, .unset, .unset, .unset, .unset] rfl (n := 41) rfl ?_
  refine gIloadN X w at_41 rfl (n := 42) rfl ?_
  refine gLdc X w (own_wd hw 0 rfl) at_42 (n := 44) rfl ?_
  obtain ⟨x44, q44⟩ : ∃ zz_ : Int32, p4 &&& (2147483647 : Int32) = zz_ := ⟨_, rfl⟩
  refine gIand X w at_44 q44 (n := 45) rfl ?_
  have f44 : x44.toInt = p4.toInt % 2147483648 := by rw [← q44]; exact mask31 _
  refine gSipush X w at_45 (z := (181 : Int32)) (by decide) (n := 48) rfl ?_
  obtain ⟨x48, q48⟩ : ∃ zz_ : Int32, x44 % (181 : Int32) = zz_ := ⟨_, rfl⟩
  refine gIrem X w at_48 (by decide) q48 (n := 49) rfl ?_
  have f48 : x48.toInt = x44.toInt % 181 := by
    have h := irem_pos (x := x44) (y := 181) (by omega)
    rw [q48, show (181 : Int32).toInt = 181 from rfl] at h; exact h
  refine gBipush X w at_49 (z := (90 : Int32)) (by decide) (n := 51) rfl ?_
  obtain ⟨x51, q51⟩ : ∃ zz_ : Int32, x48 - (90 : Int32) = zz_ := ⟨_, rfl⟩
  refine gIsub X w at_51 q51 (n := 52) rfl ?_
  have f51 : x51.toInt = x48.toInt - 90 := by rw [← q51, isub_toInt] <;> rw [show (90 : Int32).toInt = 90 from rfl] <;> omega
  refine gIstore X w at_52 #[.val (.int p1), .val (.int p2), .val (.int p3), .val (.int p4), .val (.int p5), .val (.int p6), .val (.int x11), .val (.int x25), .val (.int x38), .val (.int x51), .unset, .unset, .unset, .unset, .unset, .unset, .unset, .unset, .unset] rfl (n := 54) rfl ?_
  refine gIload X w at_54 rfl (n := 56) rfl ?_
  refine gIload X w at_56 rfl (n := 58) rfl ?_
  refine gCallSv X w [(.int x38), (.int x51)] [] (own_min l Z a0 hw x38 x51 h0 n0 hn) (own_wd hw 1 rfl) (own_wd hw 2 rfl) (own_wd hw 3 rfl) (own_wd hw 4 rfl) (by decide) own_pd3 rfl rfl at_58 rfl (W := 0) (Nat.le_of_eq rfl) (by decide) (by decide) (by decide) (by decide) (n := 61) rfl ?_
  rintro T _ _ ⟨rfl, r58, rfl, fr58⟩ X
  refine gIstore X w at_61 #[.val (.int p1), .val (.int p2), .val (.int p3), .val (.int p4), .val (.int p5), .val (.int p6), .val (.int x11), .val (.int x25), .val (.int x38), .val (.int x51), .val (.int r58), .unset, .unset, .unset, .unset, .unset, .unset, .unset, .unset] rfl (n := 63) rfl ?_
  refine gIload X w at_63 rfl (n := 65) rfl ?_
  refine gIload X w at_65 rfl (n := 67) rfl ?_
  refine gCallSv X w [(.int x38), (.int x51)] [] (own_max l Z a0 hw x38 x51 h0 n0 hn) (own_wd hw 5 rfl) (own_wd hw 6 rfl) (own_wd hw 3 rfl) (own_wd hw 7 rfl) (by decide) own_pd3 rfl rfl at_67 rfl (W := 0) (Nat.le_of_eq rfl) (by decide) (by decide) (by decide) (by decide) (n := 70) rfl ?_
  rintro T _ _ ⟨rfl, r67, rfl, fr67⟩ X
  refine gIstore X w at_70 #[.val (.int p1), .val (.int p2), .val (.int p3), .val (.int p4), .val (.int p5), .val (.int p6), .val (.int x11), .val (.int x25), .val (.int x38), .val (.int x51), .val (.int r58), .val (.int r67), .unset, .unset, .unset, .unset, .unset, .unset, .unset] rfl (n := 72) rfl ?_
  refine gIload X w at_72 rfl (n := 74) rfl ?_
  refine gLdc X w (own_wd hw 0 rfl) at_74 (n := 76) rfl ?_
  obtain ⟨x76, q76⟩ : ∃ zz_ : Int32, p5 &&& (2147483647 : Int32) = zz_ := ⟨_, rfl⟩
  refine gIand X w at_76 q76 (n := 77) rfl ?_
  have f76 : x76.toInt = p5.toInt % 2147483648 := by rw [← q76]; exact mask31 _
  refine gSipush X w at_77 (z := (401 : Int32)) (by decide) (n := 80) rfl ?_
  obtain ⟨x80, q80⟩ : ∃ zz_ : Int32, x76 % (401 : Int32) = zz_ := ⟨_, rfl⟩
  refine gIrem X w at_80 (by decide) q80 (n := 81) rfl ?_
  have f80 : x80.toInt = x76.toInt % 401 := by
    have h := irem_pos (x := x76) (y := 401) (by omega)
    rw [q80, show (401 : Int32).toInt = 401 from rfl] at h; exact h
  refine gSipush X w at_81 (z := (200 : Int32)) (by decide) (n := 84) rfl ?_
  obtain ⟨x84, q84⟩ : ∃ zz_ : Int32, x80 - (200 : Int32) = zz_ := ⟨_, rfl⟩
  refine gIsub X w at_84 q84 (n := 85) rfl ?_
  have f84 : x84.toInt = x80.toInt - 200 := by rw [← q84, isub_toInt] <;> rw [show (200 : Int32).toInt = 200 from rfl] <;> omega
  refine gIstore X w at_85 #[.val (.int p1), .val (.int p2), .val (.int p3), .val (.int p4), .val (.int p5), .val (.int p6), .val (.int x11), .val (.int x25), .val (.int x38), .val (.int x51), .val (.int r58), .val (.int r67), .val (.int x84), .unset, .unset, .unset, .unset, .unset, .unset] rfl (n := 87) rfl ?_
  refine gIload X w at_87 rfl (n := 89) rfl ?_
  refine gLdc X w (own_wd hw 0 rfl) at_89 (n := 91) rfl ?_
  obtain ⟨x91, q91⟩ : ∃ zz_ : Int32, p6 &&& (2147483647 : Int32) = zz_ := ⟨_, rfl⟩
  refine gIand X w at_91 q91 (n := 92) rfl ?_
  have f91 : x91.toInt = p6.toInt % 2147483648 := by rw [← q91]; exact mask31 _
  refine gSipush X w at_92 (z := (201 : Int32)) (by decide) (n := 95) rfl ?_
  obtain ⟨x95, q95⟩ : ∃ zz_ : Int32, x91 % (201 : Int32) = zz_ := ⟨_, rfl⟩
  refine gIrem X w at_95 (by decide) q95 (n := 96) rfl ?_
  have f95 : x95.toInt = x91.toInt % 201 := by
    have h := irem_pos (x := x91) (y := 201) (by omega)
    rw [q95, show (201 : Int32).toInt = 201 from rfl] at h; exact h
  refine gBipush X w at_96 (z := (100 : Int32)) (by decide) (n := 98) rfl ?_
  obtain ⟨x98, q98⟩ : ∃ zz_ : Int32, x95 - (100 : Int32) = zz_ := ⟨_, rfl⟩
  refine gIsub X w at_98 q98 (n := 99) rfl ?_
  have f98 : x98.toInt = x95.toInt - 100 := by rw [← q98, isub_toInt] <;> rw [show (100 : Int32).toInt = 100 from rfl] <;> omega
  refine gIstore X w at_99 #[.val (.int p1), .val (.int p2), .val (.int p3), .val (.int p4), .val (.int p5), .val (.int p6), .val (.int x11), .val (.int x25), .val (.int x38), .val (.int x51), .val (.int r58), .val (.int r67), .val (.int x84), .val (.int x98), .unset, .unset, .unset, .unset, .unset] rfl (n := 101) rfl ?_
  refine gNew X w (own_wd hw 8 rfl) (own_wd hw 9 rfl) (own_wd hw 10 rfl) at_101 (by decide) (by decide) (n := 104) rfl ?_
  intro T hp101 ad101 ea101 na101 X E101 A101 D101
  have F_1 : Fld Z hp101 ad101 "com/example/gridshard/gridshard/core/BoundingBox" "west" "D" (.double (0 : UInt64)) := D101 (Or.inr (own_wd hw 37 rfl)) (ty := .double) (by decide)
  have F_2 : Fld Z hp101 ad101 "com/example/gridshard/gridshard/core/BoundingBox" "south" "D" (.double (0 : UInt64)) := D101 (Or.inr (own_wd hw 39 rfl)) (ty := .double) (by decide)
  have F_3 : Fld Z hp101 ad101 "com/example/gridshard/gridshard/core/BoundingBox" "east" "D" (.double (0 : UInt64)) := D101 (Or.inr (own_wd hw 41 rfl)) (ty := .double) (by decide)
  have F_4 : Fld Z hp101 ad101 "com/example/gridshard/gridshard/core/BoundingBox" "north" "D" (.double (0 : UInt64)) := D101 (Or.inr (own_wd hw 43 rfl)) (ty := .double) (by decide)
  refine gDup X w at_104 rfl (n := 105) rfl ?_
  refine gIload X w at_105 rfl (n := 107) rfl ?_
  obtain ⟨u107, q107⟩ : ∃ zz_ : UInt64, FP.i2d x11 = zz_ := ⟨_, rfl⟩
  refine gI2d X w at_107 q107 (n := 108) rfl ?_
  have k107 := own_i2dq (by omega) (by omega) q107
  refine gIload X w at_108 rfl (n := 110) rfl ?_
  obtain ⟨u110, q110⟩ : ∃ zz_ : UInt64, FP.i2d r58 = zz_ := ⟨_, rfl⟩
  refine gI2d X w at_110 q110 (n := 111) rfl ?_
  have k110 := own_i2dq (by omega) (by omega) q110
  refine gIload X w at_111 rfl (n := 113) rfl ?_
  obtain ⟨u113, q113⟩ : ∃ zz_ : UInt64, FP.i2d x25 = zz_ := ⟨_, rfl⟩
  refine gI2d X w at_113 q113 (n := 114) rfl ?_
  have k113 := own_i2dq (by omega) (by omega) q113
  refine gIload X w at_114 rfl (n := 116) rfl ?_
  obtain ⟨u116, q116⟩ : ∃ zz_ : UInt64, FP.i2d r67 = zz_ := ⟨_, rfl⟩
  refine gI2d X w at_116 q116 (n := 117) rfl ?_
  have k116 := own_i2dq (by omega) (by omega) q116
  refine gCallIn X w [(.double u107), (.double u110), (.double u113), (.double u116)] [(.ref ad101)] rfl (own_init l Z a0 hw ad101 u107 u110 u113 u116 (4 * x11.toInt) (4 * r58.toInt) (4 * x25.toInt) (4 * r67.toInt) hp101 n0 (Sd.le X) na101 A101 F_1 F_2 F_3 F_4 k107 k110 k113 k116 ⟨by omega, by omega⟩ ⟨by omega, by omega⟩ ⟨by omega, by omega, by omega⟩) (own_wd hw 11 rfl) (own_wd hw 12 rfl) (own_wd hw 10 rfl) (own_wd hw 13 rfl) (by decide) own_pd4 rfl rfl at_117 rfl (W := 1) (Nat.le_of_eq rfl) (by decide) (by decide) (by decide) (by decide) (n := 120) rfl ?_
  rintro T h117 ⟨K117, A117, F117, G117, H117, I117⟩ X
  refine gAstore X w at_120 rfl #[.val (.int p1), .val (.int p2), .val (.int p3), .val (.int p4), .val (.int p5), .val (.int p6), .val (.int x11), .val (.int x25), .val (.int x38), .val (.int x51), .val (.int r58), .val (.int r67), .val (.int x84), .val (.int x98), .val (.ref ad101), .unset, .unset, .unset, .unset] rfl (n := 122) rfl ?_
  have k141 : ∀ b15 : Int32, (b15 = 0 ∨ b15 = 1) → (b15 = 1 ↔ (r58.toInt ≤ x98.toInt ∧ x98.toInt ≤ r67.toInt)) → Gl p e below s n0 (fun r h => r = some (.int 1)) 16 2176 (T.setTop (mkF m 141 #[.val (.int p1), .val (.int p2), .val (.int p3), .val (.int p4), .val (.int p5), .val (.int p6), .val (.int x11), .val (.int x25), .val (.int x38), .val (.int x51), .val (.int r58), .val (.int r67), .val (.int x84), .val (.int x98), .val (.ref ad101), .unset, .unset, .unset, .unset] [.int b15])) := by
    intro b15 o15 i15
    refine gIstore X w at_141 #[.val (.int p1), .val (.int p2), .val (.int p3), .val (.int p4), .val (.int p5), .val (.int p6), .val (.int x11), .val (.int x25), .val (.int x38), .val (.int x51), .val (.int r58), .val (.int r67), .val (.int x84), .val (.int x98), .val (.ref ad101), .val (.int b15), .unset, .unset, .unset] rfl (n := 143) rfl ?_
    refine gIload X w at_143 rfl (n := 145) rfl ?_
    refine gIload X w at_145 rfl (n := 147) rfl ?_
    refine gIcmp_gt X w at_147 (n := 174) (n' := 150) (by decide) rfl rfl ?_ ?_
    · intro c147
      refine gSipush X w at_174 (z := (-180 : Int32)) (by decide) (n := 177) rfl ?_
      refine gIload X w at_177 rfl (n := 179) rfl ?_
      refine gIcmp_gt X w at_179 (n := 194) (n' := 182) (by decide) rfl rfl ?_ ?_
      · intro c179
        rw [show (-180 : Int32).toInt = -180 from rfl] at c179
        refine gIconst X w at_194 (z := (0 : Int32)) rfl (n := 195) rfl ?_
        refine gIstore X w at_195 #[.val (.int p1), .val (.int p2), .val (.int p3), .val (.int p4), .val (.int p5), .val (.int p6), .val (.int x11), .val (.int x25), .val (.int x38), .val (.int x51), .val (.int r58), .val (.int r67), .val (.int x84), .val (.int x98), .val (.ref ad101), .val (.int b15), .unset, .val (.int (0 : Int32)), .unset] rfl (n := 197) rfl ?_
        refine gIload X w at_197 rfl (n := 199) rfl ?_
        refine gIload X w at_199 rfl (n := 201) rfl ?_
        refine gIcmp_ge X w at_201 (n := 215) (n' := 204) (by decide) rfl rfl ?_ ?_
        · intro c201
          refine gIconst X w at_215 (z := (0 : Int32)) rfl (n := 216) rfl ?_
          refine gIstore X w at_216 #[.val (.int p1), .val (.int p2), .val (.int p3), .val (.int p4), .val (.int p5), .val (.int p6), .val (.int x11), .val (.int x25), .val (.int x38), .val (.int x51), .val (.int r58), .val (.int r67), .val (.int x84), .val (.int x98), .val (.ref ad101), .val (.int b15), .unset, .val (.int (0 : Int32)), .val (.int (0 : Int32))] rfl (n := 218) rfl ?_
          refine gIload X w at_218 rfl (n := 220) rfl ?_
          refine gIf_eq X w at_220 (n := 232) (n' := 223) (by decide) rfl rfl ?_ ?_
          · rintro ⟨c220, c220'⟩
            refine gIconst X w at_232 (z := (0 : Int32)) rfl (n := 233) rfl ?_
            refine gIstore X w at_233 #[.val (.int p1), .val (.int p2), .val (.int p3), .val (.int p4), .val (.int p5), .val (.int p6), .val (.int x11), .val (.int x25), .val (.int x38), .val (.int x51), .val (.int r58), .val (.int r67), .val (.int x84), .val (.int x98), .val (.ref ad101), .val (.int b15), .val (.int (0 : Int32)), .val (.int (0 : Int32)), .val (.int (0 : Int32))] rfl (n := 235) rfl ?_
            refine gIload X w at_235 rfl (n := 237) rfl ?_
            refine gIf_eq X w at_237 (n := 249) (n' := 240) (by decide) rfl rfl ?_ ?_
            · rintro ⟨c237, c237'⟩
              refine gIconst X w at_249 (z := (0 : Int32)) rfl (n := 250) rfl ?_
              refine gIstore X w at_250 #[.val (.int p1), .val (.int p2), .val (.int p3), .val (.int p4), .val (.int p5), .val (.int p6), .val (.int x11), .val (.int x25), .val (.int x38), .val (.int x51), .val (.int r58), .val (.int r67), .val (.int x84), .val (.int x98), .val (.ref ad101), .val (.int b15), .val (.int (0 : Int32)), .val (.int (0 : Int32)), .val (.int (0 : Int32))] rfl (n := 252) rfl ?_
              refine gAload X w at_252 rfl rfl (n := 254) rfl ?_
              refine gIload X w at_254 rfl (n := 256) rfl ?_
              obtain ⟨u256, q256⟩ : ∃ zz_ : UInt64, FP.i2d x84 = zz_ := ⟨_, rfl⟩
              refine gI2d X w at_256 q256 (n := 257) rfl ?_
              have k256 := own_i2dq (by omega) (by omega) q256
              refine gIload X w at_257 rfl (n := 259) rfl ?_
              obtain ⟨u259, q259⟩ : ∃ zz_ : UInt64, FP.i2d x98 = zz_ := ⟨_, rfl⟩
              refine gI2d X w at_259 q259 (n := 260) rfl ?_
              have k259 := own_i2dq (by omega) (by omega) q259
              refine gCallVv X w [(.double u256), (.double u259)] [] A117 (own_contains l Z a0 hw ad101 u107 u110 u113 u116 u256 u259 (4 * x11.toInt) (4 * r58.toInt) (4 * x25.toInt) (4 * r67.toInt) (4 * x84.toInt) (4 * x98.toInt) h117 n0 (Sd.le X) A117 F117 G117 H117 I117 k107 k110 k113 k116 k256 k259) (own_wd hw 44 rfl) (own_wd hw 45 rfl) (fun vm0 hS => notFace_of_selects (args := #[]) (mvT (State.Warmed39.trans w.2.2.1 hS.1) (own_wd hw 47 rfl))) (own_wd hw 47 rfl) (own_wd hw 46 rfl) (own_wd hw 10 rfl) (own_wd hw 48 rfl) (by decide) own_pd5 rfl rfl at_260 rfl (W := 0) (Nat.le_of_eq rfl) (by decide) (by decide) (by decide) (by decide) (n := 263) rfl ?_
              rintro T _ _ ⟨rfl, z260, rfl, o260, i260⟩ X
              refine gIload X w at_263 rfl (n := 265) rfl ?_
              refine gIcmp_ne X w at_265 (n := 272) (n' := 268) (by decide) rfl rfl ?_ ?_
              · rintro ⟨c265, c265'⟩
                exact absurd (o260.resolve_right fun q => by have := i260.mp q; omega) c265
              · rintro ⟨c265, c265'⟩
                refine gIconst X w at_268 (z := (1 : Int32)) rfl (n := 269) rfl ?_
                refine gGoto X w at_269 (by decide) (n := 273) rfl ?_
                exact gRetZ X w rfl (Or.inr rfl) at_273 (by decide) (by decide) (rfl)
            · rintro ⟨c237, c237'⟩
              exact absurd c237 (by decide)
          · rintro ⟨c220, c220'⟩
            exact absurd c220 (by decide)
        · intro c201
          refine gIload X w at_204 rfl (n := 206) rfl ?_
          refine gIload X w at_206 rfl (n := 208) rfl ?_
          refine gIcmp_ge X w at_208 (n := 215) (n' := 211) (by decide) rfl rfl ?_ ?_
          · intro c208
            refine gIconst X w at_215 (z := (0 : Int32)) rfl (n := 216) rfl ?_
            refine gIstore X w at_216 #[.val (.int p1), .val (.int p2), .val (.int p3), .val (.int p4), .val (.int p5), .val (.int p6), .val (.int x11), .val (.int x25), .val (.int x38), .val (.int x51), .val (.int r58), .val (.int r67), .val (.int x84), .val (.int x98), .val (.ref ad101), .val (.int b15), .unset, .val (.int (0 : Int32)), .val (.int (0 : Int32))] rfl (n := 218) rfl ?_
            refine gIload X w at_218 rfl (n := 220) rfl ?_
            refine gIf_eq X w at_220 (n := 232) (n' := 223) (by decide) rfl rfl ?_ ?_
            · rintro ⟨c220, c220'⟩
              refine gIconst X w at_232 (z := (0 : Int32)) rfl (n := 233) rfl ?_
              refine gIstore X w at_233 #[.val (.int p1), .val (.int p2), .val (.int p3), .val (.int p4), .val (.int p5), .val (.int p6), .val (.int x11), .val (.int x25), .val (.int x38), .val (.int x51), .val (.int r58), .val (.int r67), .val (.int x84), .val (.int x98), .val (.ref ad101), .val (.int b15), .val (.int (0 : Int32)), .val (.int (0 : Int32)), .val (.int (0 : Int32))] rfl (n := 235) rfl ?_
              refine gIload X w at_235 rfl (n := 237) rfl ?_
              refine gIf_eq X w at_237 (n := 249) (n' := 240) (by decide) rfl rfl ?_ ?_
              · rintro ⟨c237, c237'⟩
                refine gIconst X w at_249 (z := (0 : Int32)) rfl (n := 250) rfl ?_
                refine gIstore X w at_250 #[.val (.int p1), .val (.int p2), .val (.int p3), .val (.int p4), .val (.int p5), .val (.int p6), .val (.int x11), .val (.int x25), .val (.int x38), .val (.int x51), .val (.int r58), .val (.int r67), .val (.int x84), .val (.int x98), .val (.ref ad101), .val (.int b15), .val (.int (0 : Int32)), .val (.int (0 : Int32)), .val (.int (0 : Int32))] rfl (n := 252) rfl ?_
                refine gAload X w at_252 rfl rfl (n := 254) rfl ?_
                refine gIload X w at_254 rfl (n := 256) rfl ?_
                obtain ⟨u256, q256⟩ : ∃ zz_ : UInt64, FP.i2d x84 = zz_ := ⟨_, rfl⟩
                refine gI2d X w at_256 q256 (n := 257) rfl ?_
                have k256 := own_i2dq (by omega) (by omega) q256
                refine gIload X w at_257 rfl (n := 259) rfl ?_
                obtain ⟨u259, q259⟩ : ∃ zz_ : UInt64, FP.i2d x98 = zz_ := ⟨_, rfl⟩
                refine gI2d X w at_259 q259 (n := 260) rfl ?_
                have k259 := own_i2dq (by omega) (by omega) q259
                refine gCallVv X w [(.double u256), (.double u259)] [] A117 (own_contains l Z a0 hw ad101 u107 u110 u113 u116 u256 u259 (4 * x11.toInt) (4 * r58.toInt) (4 * x25.toInt) (4 * r67.toInt) (4 * x84.toInt) (4 * x98.toInt) h117 n0 (Sd.le X) A117 F117 G117 H117 I117 k107 k110 k113 k116 k256 k259) (own_wd hw 44 rfl) (own_wd hw 45 rfl) (fun vm0 hS => notFace_of_selects (args := #[]) (mvT (State.Warmed39.trans w.2.2.1 hS.1) (own_wd hw 47 rfl))) (own_wd hw 47 rfl) (own_wd hw 46 rfl) (own_wd hw 10 rfl) (own_wd hw 48 rfl) (by decide) own_pd5 rfl rfl at_260 rfl (W := 0) (Nat.le_of_eq rfl) (by decide) (by decide) (by decide) (by decide) (n := 263) rfl ?_
                rintro T _ _ ⟨rfl, z260, rfl, o260, i260⟩ X
                refine gIload X w at_263 rfl (n := 265) rfl ?_
                refine gIcmp_ne X w at_265 (n := 272) (n' := 268) (by decide) rfl rfl ?_ ?_
                · rintro ⟨c265, c265'⟩
                  exact absurd (o260.resolve_right fun q => by have := i260.mp q; omega) c265
                · rintro ⟨c265, c265'⟩
                  refine gIconst X w at_268 (z := (1 : Int32)) rfl (n := 269) rfl ?_
                  refine gGoto X w at_269 (by decide) (n := 273) rfl ?_
                  exact gRetZ X w rfl (Or.inr rfl) at_273 (by decide) (by decide) (rfl)
              · rintro ⟨c237, c237'⟩
                exact absurd c237 (by decide)
            · rintro ⟨c220, c220'⟩
              exact absurd c220 (by decide)
          · intro c208
            refine gIconst X w at_211 (z := (1 : Int32)) rfl (n := 212) rfl ?_
            refine gGoto X w at_212 (by decide) (n := 216) rfl ?_
            refine gIstore X w at_216 #[.val (.int p1), .val (.int p2), .val (.int p3), .val (.int p4), .val (.int p5), .val (.int p6), .val (.int x11), .val (.int x25), .val (.int x38), .val (.int x51), .val (.int r58), .val (.int r67), .val (.int x84), .val (.int x98), .val (.ref ad101), .val (.int b15), .unset, .val (.int (0 : Int32)), .val (.int (1 : Int32))] rfl (n := 218) rfl ?_
            refine gIload X w at_218 rfl (n := 220) rfl ?_
            refine gIf_eq X w at_220 (n := 232) (n' := 223) (by decide) rfl rfl ?_ ?_
            · rintro ⟨c220, c220'⟩
              refine gIconst X w at_232 (z := (0 : Int32)) rfl (n := 233) rfl ?_
              refine gIstore X w at_233 #[.val (.int p1), .val (.int p2), .val (.int p3), .val (.int p4), .val (.int p5), .val (.int p6), .val (.int x11), .val (.int x25), .val (.int x38), .val (.int x51), .val (.int r58), .val (.int r67), .val (.int x84), .val (.int x98), .val (.ref ad101), .val (.int b15), .val (.int (0 : Int32)), .val (.int (0 : Int32)), .val (.int (1 : Int32))] rfl (n := 235) rfl ?_
              refine gIload X w at_235 rfl (n := 237) rfl ?_
              refine gIf_eq X w at_237 (n := 249) (n' := 240) (by decide) rfl rfl ?_ ?_
              · rintro ⟨c237, c237'⟩
                refine gIconst X w at_249 (z := (0 : Int32)) rfl (n := 250) rfl ?_
                refine gIstore X w at_250 #[.val (.int p1), .val (.int p2), .val (.int p3), .val (.int p4), .val (.int p5), .val (.int p6), .val (.int x11), .val (.int x25), .val (.int x38), .val (.int x51), .val (.int r58), .val (.int r67), .val (.int x84), .val (.int x98), .val (.ref ad101), .val (.int b15), .val (.int (0 : Int32)), .val (.int (0 : Int32)), .val (.int (1 : Int32))] rfl (n := 252) rfl ?_
                refine gAload X w at_252 rfl rfl (n := 254) rfl ?_
                refine gIload X w at_254 rfl (n := 256) rfl ?_
                obtain ⟨u256, q256⟩ : ∃ zz_ : UInt64, FP.i2d x84 = zz_ := ⟨_, rfl⟩
                refine gI2d X w at_256 q256 (n := 257) rfl ?_
                have k256 := own_i2dq (by omega) (by omega) q256
                refine gIload X w at_257 rfl (n := 259) rfl ?_
                obtain ⟨u259, q259⟩ : ∃ zz_ : UInt64, FP.i2d x98 = zz_ := ⟨_, rfl⟩
                refine gI2d X w at_259 q259 (n := 260) rfl ?_
                have k259 := own_i2dq (by omega) (by omega) q259
                refine gCallVv X w [(.double u256), (.double u259)] [] A117 (own_contains l Z a0 hw ad101 u107 u110 u113 u116 u256 u259 (4 * x11.toInt) (4 * r58.toInt) (4 * x25.toInt) (4 * r67.toInt) (4 * x84.toInt) (4 * x98.toInt) h117 n0 (Sd.le X) A117 F117 G117 H117 I117 k107 k110 k113 k116 k256 k259) (own_wd hw 44 rfl) (own_wd hw 45 rfl) (fun vm0 hS => notFace_of_selects (args := #[]) (mvT (State.Warmed39.trans w.2.2.1 hS.1) (own_wd hw 47 rfl))) (own_wd hw 47 rfl) (own_wd hw 46 rfl) (own_wd hw 10 rfl) (own_wd hw 48 rfl) (by decide) own_pd5 rfl rfl at_260 rfl (W := 0) (Nat.le_of_eq rfl) (by decide) (by decide) (by decide) (by decide) (n := 263) rfl ?_
                rintro T _ _ ⟨rfl, z260, rfl, o260, i260⟩ X
                refine gIload X w at_263 rfl (n := 265) rfl ?_
                refine gIcmp_ne X w at_265 (n := 272) (n' := 268) (by decide) rfl rfl ?_ ?_
                · rintro ⟨c265, c265'⟩
                  exact absurd (o260.resolve_right fun q => by have := i260.mp q; omega) c265
                · rintro ⟨c265, c265'⟩
                  refine gIconst X w at_268 (z := (1 : Int32)) rfl (n := 269) rfl ?_
                  refine gGoto X w at_269 (by decide) (n := 273) rfl ?_
                  exact gRetZ X w rfl (Or.inr rfl) at_273 (by decide) (by decide) (rfl)
              · rintro ⟨c237, c237'⟩
                exact absurd c237 (by decide)
            · rintro ⟨c220, c220'⟩
              exact absurd c220 (by decide)
      · intro c179
        rw [show (-180 : Int32).toInt = -180 from rfl] at c179
        refine gIload X w at_182 rfl (n := 184) rfl ?_
        refine gSipush X w at_184 (z := (180 : Int32)) (by decide) (n := 187) rfl ?_
        refine gIcmp_gt X w at_187 (n := 194) (n' := 190) (by decide) rfl rfl ?_ ?_
        · intro c187
          rw [show (180 : Int32).toInt = 180 from rfl] at c187
          refine gIconst X w at_194 (z := (0 : Int32)) rfl (n := 195) rfl ?_
          refine gIstore X w at_195 #[.val (.int p1), .val (.int p2), .val (.int p3), .val (.int p4), .val (.int p5), .val (.int p6), .val (.int x11), .val (.int x25), .val (.int x38), .val (.int x51), .val (.int r58), .val (.int r67), .val (.int x84), .val (.int x98), .val (.ref ad101), .val (.int b15), .unset, .val (.int (0 : Int32)), .unset] rfl (n := 197) rfl ?_
          refine gIload X w at_197 rfl (n := 199) rfl ?_
          refine gIload X w at_199 rfl (n := 201) rfl ?_
          refine gIcmp_ge X w at_201 (n := 215) (n' := 204) (by decide) rfl rfl ?_ ?_
          · intro c201
            refine gIconst X w at_215 (z := (0 : Int32)) rfl (n := 216) rfl ?_
            refine gIstore X w at_216 #[.val (.int p1), .val (.int p2), .val (.int p3), .val (.int p4), .val (.int p5), .val (.int p6), .val (.int x11), .val (.int x25), .val (.int x38), .val (.int x51), .val (.int r58), .val (.int r67), .val (.int x84), .val (.int x98), .val (.ref ad101), .val (.int b15), .unset, .val (.int (0 : Int32)), .val (.int (0 : Int32))] rfl (n := 218) rfl ?_
            refine gIload X w at_218 rfl (n := 220) rfl ?_
            refine gIf_eq X w at_220 (n := 232) (n' := 223) (by decide) rfl rfl ?_ ?_
            · rintro ⟨c220, c220'⟩
              refine gIconst X w at_232 (z := (0 : Int32)) rfl (n := 233) rfl ?_
              refine gIstore X w at_233 #[.val (.int p1), .val (.int p2), .val (.int p3), .val (.int p4), .val (.int p5), .val (.int p6), .val (.int x11), .val (.int x25), .val (.int x38), .val (.int x51), .val (.int r58), .val (.int r67), .val (.int x84), .val (.int x98), .val (.ref ad101), .val (.int b15), .val (.int (0 : Int32)), .val (.int (0 : Int32)), .val (.int (0 : Int32))] rfl (n := 235) rfl ?_
              refine gIload X w at_235 rfl (n := 237) rfl ?_
              refine gIf_eq X w at_237 (n := 249) (n' := 240) (by decide) rfl rfl ?_ ?_
              · rintro ⟨c237, c237'⟩
                refine gIconst X w at_249 (z := (0 : Int32)) rfl (n := 250) rfl ?_
                refine gIstore X w at_250 #[.val (.int p1), .val (.int p2), .val (.int p3), .val (.int p4), .val (.int p5), .val (.int p6), .val (.int x11), .val (.int x25), .val (.int x38), .val (.int x51), .val (.int r58), .val (.int r67), .val (.int x84), .val (.int x98), .val (.ref ad101), .val (.int b15), .val (.int (0 : Int32)), .val (.int (0 : Int32)), .val (.int (0 : Int32))] rfl (n := 252) rfl ?_
                refine gAload X w at_252 rfl rfl (n := 254) rfl ?_
                refine gIload X w at_254 rfl (n := 256) rfl ?_
                obtain ⟨u256, q256⟩ : ∃ zz_ : UInt64, FP.i2d x84 = zz_ := ⟨_, rfl⟩
                refine gI2d X w at_256 q256 (n := 257) rfl ?_
                have k256 := own_i2dq (by omega) (by omega) q256
                refine gIload X w at_257 rfl (n := 259) rfl ?_
                obtain ⟨u259, q259⟩ : ∃ zz_ : UInt64, FP.i2d x98 = zz_ := ⟨_, rfl⟩
                refine gI2d X w at_259 q259 (n := 260) rfl ?_
                have k259 := own_i2dq (by omega) (by omega) q259
                refine gCallVv X w [(.double u256), (.double u259)] [] A117 (own_contains l Z a0 hw ad101 u107 u110 u113 u116 u256 u259 (4 * x11.toInt) (4 * r58.toInt) (4 * x25.toInt) (4 * r67.toInt) (4 * x84.toInt) (4 * x98.toInt) h117 n0 (Sd.le X) A117 F117 G117 H117 I117 k107 k110 k113 k116 k256 k259) (own_wd hw 44 rfl) (own_wd hw 45 rfl) (fun vm0 hS => notFace_of_selects (args := #[]) (mvT (State.Warmed39.trans w.2.2.1 hS.1) (own_wd hw 47 rfl))) (own_wd hw 47 rfl) (own_wd hw 46 rfl) (own_wd hw 10 rfl) (own_wd hw 48 rfl) (by decide) own_pd5 rfl rfl at_260 rfl (W := 0) (Nat.le_of_eq rfl) (by decide) (by decide) (by decide) (by decide) (n := 263) rfl ?_
                rintro T _ _ ⟨rfl, z260, rfl, o260, i260⟩ X
                refine gIload X w at_263 rfl (n := 265) rfl ?_
                refine gIcmp_ne X w at_265 (n := 272) (n' := 268) (by decide) rfl rfl ?_ ?_
                · rintro ⟨c265, c265'⟩
                  exact absurd (o260.resolve_right fun q => by have := i260.mp q; omega) c265
                · rintro ⟨c265, c265'⟩
                  refine gIconst X w at_268 (z := (1 : Int32)) rfl (n := 269) rfl ?_
                  refine gGoto X w at_269 (by decide) (n := 273) rfl ?_
                  exact gRetZ X w rfl (Or.inr rfl) at_273 (by decide) (by decide) (rfl)
              · rintro ⟨c237, c237'⟩
                exact absurd c237 (by decide)
            · rintro ⟨c220, c220'⟩
              exact absurd c220 (by decide)
          · intro c201
            refine gIload X w at_204 rfl (n := 206) rfl ?_
            refine gIload X w at_206 rfl (n := 208) rfl ?_
            refine gIcmp_ge X w at_208 (n := 215) (n' := 211) (by decide) rfl rfl ?_ ?_
            · intro c208
              refine gIconst X w at_215 (z := (0 : Int32)) rfl (n := 216) rfl ?_
              refine gIstore X w at_216 #[.val (.int p1), .val (.int p2), .val (.int p3), .val (.int p4), .val (.int p5), .val (.int p6), .val (.int x11), .val (.int x25), .val (.int x38), .val (.int x51), .val (.int r58), .val (.int r67), .val (.int x84), .val (.int x98), .val (.ref ad101), .val (.int b15), .unset, .val (.int (0 : Int32)), .val (.int (0 : Int32))] rfl (n := 218) rfl ?_
              refine gIload X w at_218 rfl (n := 220) rfl ?_
              refine gIf_eq X w at_220 (n := 232) (n' := 223) (by decide) rfl rfl ?_ ?_
              · rintro ⟨c220, c220'⟩
                refine gIconst X w at_232 (z := (0 : Int32)) rfl (n := 233) rfl ?_
                refine gIstore X w at_233 #[.val (.int p1), .val (.int p2), .val (.int p3), .val (.int p4), .val (.int p5), .val (.int p6), .val (.int x11), .val (.int x25), .val (.int x38), .val (.int x51), .val (.int r58), .val (.int r67), .val (.int x84), .val (.int x98), .val (.ref ad101), .val (.int b15), .val (.int (0 : Int32)), .val (.int (0 : Int32)), .val (.int (0 : Int32))] rfl (n := 235) rfl ?_
                refine gIload X w at_235 rfl (n := 237) rfl ?_
                refine gIf_eq X w at_237 (n := 249) (n' := 240) (by decide) rfl rfl ?_ ?_
                · rintro ⟨c237, c237'⟩
                  refine gIconst X w at_249 (z := (0 : Int32)) rfl (n := 250) rfl ?_
                  refine gIstore X w at_250 #[.val (.int p1), .val (.int p2), .val (.int p3), .val (.int p4), .val (.int p5), .val (.int p6), .val (.int x11), .val (.int x25), .val (.int x38), .val (.int x51), .val (.int r58), .val (.int r67), .val (.int x84), .val (.int x98), .val (.ref ad101), .val (.int b15), .val (.int (0 : Int32)), .val (.int (0 : Int32)), .val (.int (0 : Int32))] rfl (n := 252) rfl ?_
                  refine gAload X w at_252 rfl rfl (n := 254) rfl ?_
                  refine gIload X w at_254 rfl (n := 256) rfl ?_
                  obtain ⟨u256, q256⟩ : ∃ zz_ : UInt64, FP.i2d x84 = zz_ := ⟨_, rfl⟩
                  refine gI2d X w at_256 q256 (n := 257) rfl ?_
                  have k256 := own_i2dq (by omega) (by omega) q256
                  refine gIload X w at_257 rfl (n := 259) rfl ?_
                  obtain ⟨u259, q259⟩ : ∃ zz_ : UInt64, FP.i2d x98 = zz_ := ⟨_, rfl⟩
                  refine gI2d X w at_259 q259 (n := 260) rfl ?_
                  have k259 := own_i2dq (by omega) (by omega) q259
                  refine gCallVv X w [(.double u256), (.double u259)] [] A117 (own_contains l Z a0 hw ad101 u107 u110 u113 u116 u256 u259 (4 * x11.toInt) (4 * r58.toInt) (4 * x25.toInt) (4 * r67.toInt) (4 * x84.toInt) (4 * x98.toInt) h117 n0 (Sd.le X) A117 F117 G117 H117 I117 k107 k110 k113 k116 k256 k259) (own_wd hw 44 rfl) (own_wd hw 45 rfl) (fun vm0 hS => notFace_of_selects (args := #[]) (mvT (State.Warmed39.trans w.2.2.1 hS.1) (own_wd hw 47 rfl))) (own_wd hw 47 rfl) (own_wd hw 46 rfl) (own_wd hw 10 rfl) (own_wd hw 48 rfl) (by decide) own_pd5 rfl rfl at_260 rfl (W := 0) (Nat.le_of_eq rfl) (by decide) (by decide) (by decide) (by decide) (n := 263) rfl ?_
                  rintro T _ _ ⟨rfl, z260, rfl, o260, i260⟩ X
                  refine gIload X w at_263 rfl (n := 265) rfl ?_
                  refine gIcmp_ne X w at_265 (n := 272) (n' := 268) (by decide) rfl rfl ?_ ?_
                  · rintro ⟨c265, c265'⟩
                    exact absurd (o260.resolve_right fun q => by have := i260.mp q; omega) c265
                  · rintro ⟨c265, c265'⟩
                    refine gIconst X w at_268 (z := (1 : Int32)) rfl (n := 269) rfl ?_
                    refine gGoto X w at_269 (by decide) (n := 273) rfl ?_
                    exact gRetZ X w rfl (Or.inr rfl) at_273 (by decide) (by decide) (rfl)
                · rintro ⟨c237, c237'⟩
                  exact absurd c237 (by decide)
              · rintro ⟨c220, c220'⟩
                exact absurd c220 (by decide)
            · intro c208
              refine gIconst X w at_211 (z := (1 : Int32)) rfl (n := 212) rfl ?_
              refine gGoto X w at_212 (by decide) (n := 216) rfl ?_
              refine gIstore X w at_216 #[.val (.int p1), .val (.int p2), .val (.int p3), .val (.int p4), .val (.int p5), .val (.int p6), .val (.int x11), .val (.int x25), .val (.int x38), .val (.int x51), .val (.int r58), .val (.int r67), .val (.int x84), .val (.int x98), .val (.ref ad101), .val (.int b15), .unset, .val (.int (0 : Int32)), .val (.int (1 : Int32))] rfl (n := 218) rfl ?_
              refine gIload X w at_218 rfl (n := 220) rfl ?_
              refine gIf_eq X w at_220 (n := 232) (n' := 223) (by decide) rfl rfl ?_ ?_
              · rintro ⟨c220, c220'⟩
                refine gIconst X w at_232 (z := (0 : Int32)) rfl (n := 233) rfl ?_
                refine gIstore X w at_233 #[.val (.int p1), .val (.int p2), .val (.int p3), .val (.int p4), .val (.int p5), .val (.int p6), .val (.int x11), .val (.int x25), .val (.int x38), .val (.int x51), .val (.int r58), .val (.int r67), .val (.int x84), .val (.int x98), .val (.ref ad101), .val (.int b15), .val (.int (0 : Int32)), .val (.int (0 : Int32)), .val (.int (1 : Int32))] rfl (n := 235) rfl ?_
                refine gIload X w at_235 rfl (n := 237) rfl ?_
                refine gIf_eq X w at_237 (n := 249) (n' := 240) (by decide) rfl rfl ?_ ?_
                · rintro ⟨c237, c237'⟩
                  refine gIconst X w at_249 (z := (0 : Int32)) rfl (n := 250) rfl ?_
                  refine gIstore X w at_250 #[.val (.int p1), .val (.int p2), .val (.int p3), .val (.int p4), .val (.int p5), .val (.int p6), .val (.int x11), .val (.int x25), .val (.int x38), .val (.int x51), .val (.int r58), .val (.int r67), .val (.int x84), .val (.int x98), .val (.ref ad101), .val (.int b15), .val (.int (0 : Int32)), .val (.int (0 : Int32)), .val (.int (1 : Int32))] rfl (n := 252) rfl ?_
                  refine gAload X w at_252 rfl rfl (n := 254) rfl ?_
                  refine gIload X w at_254 rfl (n := 256) rfl ?_
                  obtain ⟨u256, q256⟩ : ∃ zz_ : UInt64, FP.i2d x84 = zz_ := ⟨_, rfl⟩
                  refine gI2d X w at_256 q256 (n := 257) rfl ?_
                  have k256 := own_i2dq (by omega) (by omega) q256
                  refine gIload X w at_257 rfl (n := 259) rfl ?_
                  obtain ⟨u259, q259⟩ : ∃ zz_ : UInt64, FP.i2d x98 = zz_ := ⟨_, rfl⟩
                  refine gI2d X w at_259 q259 (n := 260) rfl ?_
                  have k259 := own_i2dq (by omega) (by omega) q259
                  refine gCallVv X w [(.double u256), (.double u259)] [] A117 (own_contains l Z a0 hw ad101 u107 u110 u113 u116 u256 u259 (4 * x11.toInt) (4 * r58.toInt) (4 * x25.toInt) (4 * r67.toInt) (4 * x84.toInt) (4 * x98.toInt) h117 n0 (Sd.le X) A117 F117 G117 H117 I117 k107 k110 k113 k116 k256 k259) (own_wd hw 44 rfl) (own_wd hw 45 rfl) (fun vm0 hS => notFace_of_selects (args := #[]) (mvT (State.Warmed39.trans w.2.2.1 hS.1) (own_wd hw 47 rfl))) (own_wd hw 47 rfl) (own_wd hw 46 rfl) (own_wd hw 10 rfl) (own_wd hw 48 rfl) (by decide) own_pd5 rfl rfl at_260 rfl (W := 0) (Nat.le_of_eq rfl) (by decide) (by decide) (by decide) (by decide) (n := 263) rfl ?_
                  rintro T _ _ ⟨rfl, z260, rfl, o260, i260⟩ X
                  refine gIload X w at_263 rfl (n := 265) rfl ?_
                  refine gIcmp_ne X w at_265 (n := 272) (n' := 268) (by decide) rfl rfl ?_ ?_
                  · rintro ⟨c265, c265'⟩
                    exact absurd (o260.resolve_right fun q => by have := i260.mp q; omega) c265
                  · rintro ⟨c265, c265'⟩
                    refine gIconst X w at_268 (z := (1 : Int32)) rfl (n := 269) rfl ?_
                    refine gGoto X w at_269 (by decide) (n := 273) rfl ?_
                    exact gRetZ X w rfl (Or.inr rfl) at_273 (by decide) (by decide) (rfl)
                · rintro ⟨c237, c237'⟩
                  exact absurd c237 (by decide)
              · rintro ⟨c220, c220'⟩
                exact absurd c220 (by decide)
        · intro c187
          rw [show (180 : Int32).toInt = 180 from rfl] at c187
          refine gIconst X w at_190 (z := (1 : Int32)) rfl (n := 191) rfl ?_
          refine gGoto X w at_191 (by decide) (n := 195) rfl ?_
          refine gIstore X w at_195 #[.val (.int p1), .val (.int p2), .val (.int p3), .val (.int p4), .val (.int p5), .val (.int p6), .val (.int x11), .val (.int x25), .val (.int x38), .val (.int x51), .val (.int r58), .val (.int r67), .val (.int x84), .val (.int x98), .val (.ref ad101), .val (.int b15), .unset, .val (.int (1 : Int32)), .unset] rfl (n := 197) rfl ?_
          refine gIload X w at_197 rfl (n := 199) rfl ?_
          refine gIload X w at_199 rfl (n := 201) rfl ?_
          refine gIcmp_ge X w at_201 (n := 215) (n' := 204) (by decide) rfl rfl ?_ ?_
          · intro c201
            refine gIconst X w at_215 (z := (0 : Int32)) rfl (n := 216) rfl ?_
            refine gIstore X w at_216 #[.val (.int p1), .val (.int p2), .val (.int p3), .val (.int p4), .val (.int p5), .val (.int p6), .val (.int x11), .val (.int x25), .val (.int x38), .val (.int x51), .val (.int r58), .val (.int r67), .val (.int x84), .val (.int x98), .val (.ref ad101), .val (.int b15), .unset, .val (.int (1 : Int32)), .val (.int (0 : Int32))] rfl (n := 218) rfl ?_
            refine gIload X w at_218 rfl (n := 220) rfl ?_
            refine gIf_eq X w at_220 (n := 232) (n' := 223) (by decide) rfl rfl ?_ ?_
            · rintro ⟨c220, c220'⟩
              exact absurd c220 (by decide)
            · rintro ⟨c220, c220'⟩
              refine gIload X w at_223 rfl (n := 225) rfl ?_
              refine gIf_ne X w at_225 (n := 232) (n' := 228) (by decide) rfl rfl ?_ ?_
              · rintro ⟨c225, c225'⟩
                exact absurd c225 (by decide)
              · rintro ⟨c225, c225'⟩
                refine gIconst X w at_228 (z := (1 : Int32)) rfl (n := 229) rfl ?_
                refine gGoto X w at_229 (by decide) (n := 233) rfl ?_
                refine gIstore X w at_233 #[.val (.int p1), .val (.int p2), .val (.int p3), .val (.int p4), .val (.int p5), .val (.int p6), .val (.int x11), .val (.int x25), .val (.int x38), .val (.int x51), .val (.int r58), .val (.int r67), .val (.int x84), .val (.int x98), .val (.ref ad101), .val (.int b15), .val (.int (1 : Int32)), .val (.int (1 : Int32)), .val (.int (0 : Int32))] rfl (n := 235) rfl ?_
                refine gIload X w at_235 rfl (n := 237) rfl ?_
                refine gIf_eq X w at_237 (n := 249) (n' := 240) (by decide) rfl rfl ?_ ?_
                · rintro ⟨c237, c237'⟩
                  exact absurd c237 (by decide)
                · rintro ⟨c237, c237'⟩
                  refine gIload X w at_240 rfl (n := 242) rfl ?_
                  refine gIf_eq X w at_242 (n := 249) (n' := 245) (by decide) rfl rfl ?_ ?_
                  · rintro ⟨c242, c242'⟩
                    have j242 : ¬ (r58.toInt ≤ x98.toInt ∧ x98.toInt ≤ r67.toInt) := fun q => absurd (i15.mpr q) (by rw [c242]; decide)
                    refine gIconst X w at_249 (z := (0 : Int32)) rfl (n := 250) rfl ?_
                    refine gIstore X w at_250 #[.val (.int p1), .val (.int p2), .val (.int p3), .val (.int p4), .val (.int p5), .val (.int p6), .val (.int x11), .val (.int x25), .val (.int x38), .val (.int x51), .val (.int r58), .val (.int r67), .val (.int x84), .val (.int x98), .val (.ref ad101), .val (.int b15), .val (.int (1 : Int32)), .val (.int (0 : Int32)), .val (.int (0 : Int32))] rfl (n := 252) rfl ?_
                    refine gAload X w at_252 rfl rfl (n := 254) rfl ?_
                    refine gIload X w at_254 rfl (n := 256) rfl ?_
                    obtain ⟨u256, q256⟩ : ∃ zz_ : UInt64, FP.i2d x84 = zz_ := ⟨_, rfl⟩
                    refine gI2d X w at_256 q256 (n := 257) rfl ?_
                    have k256 := own_i2dq (by omega) (by omega) q256
                    refine gIload X w at_257 rfl (n := 259) rfl ?_
                    obtain ⟨u259, q259⟩ : ∃ zz_ : UInt64, FP.i2d x98 = zz_ := ⟨_, rfl⟩
                    refine gI2d X w at_259 q259 (n := 260) rfl ?_
                    have k259 := own_i2dq (by omega) (by omega) q259
                    refine gCallVv X w [(.double u256), (.double u259)] [] A117 (own_contains l Z a0 hw ad101 u107 u110 u113 u116 u256 u259 (4 * x11.toInt) (4 * r58.toInt) (4 * x25.toInt) (4 * r67.toInt) (4 * x84.toInt) (4 * x98.toInt) h117 n0 (Sd.le X) A117 F117 G117 H117 I117 k107 k110 k113 k116 k256 k259) (own_wd hw 44 rfl) (own_wd hw 45 rfl) (fun vm0 hS => notFace_of_selects (args := #[]) (mvT (State.Warmed39.trans w.2.2.1 hS.1) (own_wd hw 47 rfl))) (own_wd hw 47 rfl) (own_wd hw 46 rfl) (own_wd hw 10 rfl) (own_wd hw 48 rfl) (by decide) own_pd5 rfl rfl at_260 rfl (W := 0) (Nat.le_of_eq rfl) (by decide) (by decide) (by decide) (by decide) (n := 263) rfl ?_
                    rintro T _ _ ⟨rfl, z260, rfl, o260, i260⟩ X
                    refine gIload X w at_263 rfl (n := 265) rfl ?_
                    refine gIcmp_ne X w at_265 (n := 272) (n' := 268) (by decide) rfl rfl ?_ ?_
                    · rintro ⟨c265, c265'⟩
                      exact absurd (o260.resolve_right fun q => by have := i260.mp q; omega) c265
                    · rintro ⟨c265, c265'⟩
                      refine gIconst X w at_268 (z := (1 : Int32)) rfl (n := 269) rfl ?_
                      refine gGoto X w at_269 (by decide) (n := 273) rfl ?_
                      exact gRetZ X w rfl (Or.inr rfl) at_273 (by decide) (by decide) (rfl)
                  · rintro ⟨c242, c242'⟩
                    have j242 := i15.mp (o15.resolve_left c242)
                    refine gIconst X w at_245 (z := (1 : Int32)) rfl (n := 246) rfl ?_
                    refine gGoto X w at_246 (by decide) (n := 250) rfl ?_
                    refine gIstore X w at_250 #[.val (.int p1), .val (.int p2), .val (.int p3), .val (.int p4), .val (.int p5), .val (.int p6), .val (.int x11), .val (.int x25), .val (.int x38), .val (.int x51), .val (.int r58), .val (.int r67), .val (.int x84), .val (.int x98), .val (.ref ad101), .val (.int b15), .val (.int (1 : Int32)), .val (.int (1 : Int32)), .val (.int (0 : Int32))] rfl (n := 252) rfl ?_
                    refine gAload X w at_252 rfl rfl (n := 254) rfl ?_
                    refine gIload X w at_254 rfl (n := 256) rfl ?_
                    obtain ⟨u256, q256⟩ : ∃ zz_ : UInt64, FP.i2d x84 = zz_ := ⟨_, rfl⟩
                    refine gI2d X w at_256 q256 (n := 257) rfl ?_
                    have k256 := own_i2dq (by omega) (by omega) q256
                    refine gIload X w at_257 rfl (n := 259) rfl ?_
                    obtain ⟨u259, q259⟩ : ∃ zz_ : UInt64, FP.i2d x98 = zz_ := ⟨_, rfl⟩
                    refine gI2d X w at_259 q259 (n := 260) rfl ?_
                    have k259 := own_i2dq (by omega) (by omega) q259
                    refine gCallVv X w [(.double u256), (.double u259)] [] A117 (own_contains l Z a0 hw ad101 u107 u110 u113 u116 u256 u259 (4 * x11.toInt) (4 * r58.toInt) (4 * x25.toInt) (4 * r67.toInt) (4 * x84.toInt) (4 * x98.toInt) h117 n0 (Sd.le X) A117 F117 G117 H117 I117 k107 k110 k113 k116 k256 k259) (own_wd hw 44 rfl) (own_wd hw 45 rfl) (fun vm0 hS => notFace_of_selects (args := #[]) (mvT (State.Warmed39.trans w.2.2.1 hS.1) (own_wd hw 47 rfl))) (own_wd hw 47 rfl) (own_wd hw 46 rfl) (own_wd hw 10 rfl) (own_wd hw 48 rfl) (by decide) own_pd5 rfl rfl at_260 rfl (W := 0) (Nat.le_of_eq rfl) (by decide) (by decide) (by decide) (by decide) (n := 263) rfl ?_
                    rintro T _ _ ⟨rfl, z260, rfl, o260, i260⟩ X
                    refine gIload X w at_263 rfl (n := 265) rfl ?_
                    refine gIcmp_ne X w at_265 (n := 272) (n' := 268) (by decide) rfl rfl ?_ ?_
                    · rintro ⟨c265, c265'⟩
                      exact absurd (i260.mpr (by omega)) c265
                    · rintro ⟨c265, c265'⟩
                      refine gIconst X w at_268 (z := (1 : Int32)) rfl (n := 269) rfl ?_
                      refine gGoto X w at_269 (by decide) (n := 273) rfl ?_
                      exact gRetZ X w rfl (Or.inr rfl) at_273 (by decide) (by decide) (rfl)
          · intro c201
            refine gIload X w at_204 rfl (n := 206) rfl ?_
            refine gIload X w at_206 rfl (n := 208) rfl ?_
            refine gIcmp_ge X w at_208 (n := 215) (n' := 211) (by decide) rfl rfl ?_ ?_
            · intro c208
              refine gIconst X w at_215 (z := (0 : Int32)) rfl (n := 216) rfl ?_
              refine gIstore X w at_216 #[.val (.int p1), .val (.int p2), .val (.int p3), .val (.int p4), .val (.int p5), .val (.int p6), .val (.int x11), .val (.int x25), .val (.int x38), .val (.int x51), .val (.int r58), .val (.int r67), .val (.int x84), .val (.int x98), .val (.ref ad101), .val (.int b15), .unset, .val (.int (1 : Int32)), .val (.int (0 : Int32))] rfl (n := 218) rfl ?_
              refine gIload X w at_218 rfl (n := 220) rfl ?_
              refine gIf_eq X w at_220 (n := 232) (n' := 223) (by decide) rfl rfl ?_ ?_
              · rintro ⟨c220, c220'⟩
                exact absurd c220 (by decide)
              · rintro ⟨c220, c220'⟩
                refine gIload X w at_223 rfl (n := 225) rfl ?_
                refine gIf_ne X w at_225 (n := 232) (n' := 228) (by decide) rfl rfl ?_ ?_
                · rintro ⟨c225, c225'⟩
                  exact absurd c225 (by decide)
                · rintro ⟨c225, c225'⟩
                  refine gIconst X w at_228 (z := (1 : Int32)) rfl (n := 229) rfl ?_
                  refine gGoto X w at_229 (by decide) (n := 233) rfl ?_
                  refine gIstore X w at_233 #[.val (.int p1), .val (.int p2), .val (.int p3), .val (.int p4), .val (.int p5), .val (.int p6), .val (.int x11), .val (.int x25), .val (.int x38), .val (.int x51), .val (.int r58), .val (.int r67), .val (.int x84), .val (.int x98), .val (.ref ad101), .val (.int b15), .val (.int (1 : Int32)), .val (.int (1 : Int32)), .val (.int (0 : Int32))] rfl (n := 235) rfl ?_
                  refine gIload X w at_235 rfl (n := 237) rfl ?_
                  refine gIf_eq X w at_237 (n := 249) (n' := 240) (by decide) rfl rfl ?_ ?_
                  · rintro ⟨c237, c237'⟩
                    exact absurd c237 (by decide)
                  · rintro ⟨c237, c237'⟩
                    refine gIload X w at_240 rfl (n := 242) rfl ?_
                    refine gIf_eq X w at_242 (n := 249) (n' := 245) (by decide) rfl rfl ?_ ?_
                    · rintro ⟨c242, c242'⟩
                      have j242 : ¬ (r58.toInt ≤ x98.toInt ∧ x98.toInt ≤ r67.toInt) := fun q => absurd (i15.mpr q) (by rw [c242]; decide)
                      refine gIconst X w at_249 (z := (0 : Int32)) rfl (n := 250) rfl ?_
                      refine gIstore X w at_250 #[.val (.int p1), .val (.int p2), .val (.int p3), .val (.int p4), .val (.int p5), .val (.int p6), .val (.int x11), .val (.int x25), .val (.int x38), .val (.int x51), .val (.int r58), .val (.int r67), .val (.int x84), .val (.int x98), .val (.ref ad101), .val (.int b15), .val (.int (1 : Int32)), .val (.int (0 : Int32)), .val (.int (0 : Int32))] rfl (n := 252) rfl ?_
                      refine gAload X w at_252 rfl rfl (n := 254) rfl ?_
                      refine gIload X w at_254 rfl (n := 256) rfl ?_
                      obtain ⟨u256, q256⟩ : ∃ zz_ : UInt64, FP.i2d x84 = zz_ := ⟨_, rfl⟩
                      refine gI2d X w at_256 q256 (n := 257) rfl ?_
                      have k256 := own_i2dq (by omega) (by omega) q256
                      refine gIload X w at_257 rfl (n := 259) rfl ?_
                      obtain ⟨u259, q259⟩ : ∃ zz_ : UInt64, FP.i2d x98 = zz_ := ⟨_, rfl⟩
                      refine gI2d X w at_259 q259 (n := 260) rfl ?_
                      have k259 := own_i2dq (by omega) (by omega) q259
                      refine gCallVv X w [(.double u256), (.double u259)] [] A117 (own_contains l Z a0 hw ad101 u107 u110 u113 u116 u256 u259 (4 * x11.toInt) (4 * r58.toInt) (4 * x25.toInt) (4 * r67.toInt) (4 * x84.toInt) (4 * x98.toInt) h117 n0 (Sd.le X) A117 F117 G117 H117 I117 k107 k110 k113 k116 k256 k259) (own_wd hw 44 rfl) (own_wd hw 45 rfl) (fun vm0 hS => notFace_of_selects (args := #[]) (mvT (State.Warmed39.trans w.2.2.1 hS.1) (own_wd hw 47 rfl))) (own_wd hw 47 rfl) (own_wd hw 46 rfl) (own_wd hw 10 rfl) (own_wd hw 48 rfl) (by decide) own_pd5 rfl rfl at_260 rfl (W := 0) (Nat.le_of_eq rfl) (by decide) (by decide) (by decide) (by decide) (n := 263) rfl ?_
                      rintro T _ _ ⟨rfl, z260, rfl, o260, i260⟩ X
                      refine gIload X w at_263 rfl (n := 265) rfl ?_
                      refine gIcmp_ne X w at_265 (n := 272) (n' := 268) (by decide) rfl rfl ?_ ?_
                      · rintro ⟨c265, c265'⟩
                        exact absurd (o260.resolve_right fun q => by have := i260.mp q; omega) c265
                      · rintro ⟨c265, c265'⟩
                        refine gIconst X w at_268 (z := (1 : Int32)) rfl (n := 269) rfl ?_
                        refine gGoto X w at_269 (by decide) (n := 273) rfl ?_
                        exact gRetZ X w rfl (Or.inr rfl) at_273 (by decide) (by decide) (rfl)
                    · rintro ⟨c242, c242'⟩
                      have j242 := i15.mp (o15.resolve_left c242)
                      refine gIconst X w at_245 (z := (1 : Int32)) rfl (n := 246) rfl ?_
                      refine gGoto X w at_246 (by decide) (n := 250) rfl ?_
                      refine gIstore X w at_250 #[.val (.int p1), .val (.int p2), .val (.int p3), .val (.int p4), .val (.int p5), .val (.int p6), .val (.int x11), .val (.int x25), .val (.int x38), .val (.int x51), .val (.int r58), .val (.int r67), .val (.int x84), .val (.int x98), .val (.ref ad101), .val (.int b15), .val (.int (1 : Int32)), .val (.int (1 : Int32)), .val (.int (0 : Int32))] rfl (n := 252) rfl ?_
                      refine gAload X w at_252 rfl rfl (n := 254) rfl ?_
                      refine gIload X w at_254 rfl (n := 256) rfl ?_
                      obtain ⟨u256, q256⟩ : ∃ zz_ : UInt64, FP.i2d x84 = zz_ := ⟨_, rfl⟩
                      refine gI2d X w at_256 q256 (n := 257) rfl ?_
                      have k256 := own_i2dq (by omega) (by omega) q256
                      refine gIload X w at_257 rfl (n := 259) rfl ?_
                      obtain ⟨u259, q259⟩ : ∃ zz_ : UInt64, FP.i2d x98 = zz_ := ⟨_, rfl⟩
                      refine gI2d X w at_259 q259 (n := 260) rfl ?_
                      have k259 := own_i2dq (by omega) (by omega) q259
                      refine gCallVv X w [(.double u256), (.double u259)] [] A117 (own_contains l Z a0 hw ad101 u107 u110 u113 u116 u256 u259 (4 * x11.toInt) (4 * r58.toInt) (4 * x25.toInt) (4 * r67.toInt) (4 * x84.toInt) (4 * x98.toInt) h117 n0 (Sd.le X) A117 F117 G117 H117 I117 k107 k110 k113 k116 k256 k259) (own_wd hw 44 rfl) (own_wd hw 45 rfl) (fun vm0 hS => notFace_of_selects (args := #[]) (mvT (State.Warmed39.trans w.2.2.1 hS.1) (own_wd hw 47 rfl))) (own_wd hw 47 rfl) (own_wd hw 46 rfl) (own_wd hw 10 rfl) (own_wd hw 48 rfl) (by decide) own_pd5 rfl rfl at_260 rfl (W := 0) (Nat.le_of_eq rfl) (by decide) (by decide) (by decide) (by decide) (n := 263) rfl ?_
                      rintro T _ _ ⟨rfl, z260, rfl, o260, i260⟩ X
                      refine gIload X w at_263 rfl (n := 265) rfl ?_
                      refine gIcmp_ne X w at_265 (n := 272) (n' := 268) (by decide) rfl rfl ?_ ?_
                      · rintro ⟨c265, c265'⟩
                        exact absurd (i260.mpr (by omega)) c265
                      · rintro ⟨c265, c265'⟩
                        refine gIconst X w at_268 (z := (1 : Int32)) rfl (n := 269) rfl ?_
                        refine gGoto X w at_269 (by decide) (n := 273) rfl ?_
                        exact gRetZ X w rfl (Or.inr rfl) at_273 (by decide) (by decide) (rfl)
            · intro c208
              refine gIconst X w at_211 (z := (1 : Int32)) rfl (n := 212) rfl ?_
              refine gGoto X w at_212 (by decide) (n := 216) rfl ?_
              refine gIstore X w at_216 #[.val (.int p1), .val (.int p2), .val (.int p3), .val (.int p4), .val (.int p5), .val (.int p6), .val (.int x11), .val (.int x25), .val (.int x38), .val (.int x51), .val (.int r58), .val (.int r67), .val (.int x84), .val (.int x98), .val (.ref ad101), .val (.int b15), .unset, .val (.int (1 : Int32)), .val (.int (1 : Int32))] rfl (n := 218) rfl ?_
              refine gIload X w at_218 rfl (n := 220) rfl ?_
              refine gIf_eq X w at_220 (n := 232) (n' := 223) (by decide) rfl rfl ?_ ?_
              · rintro ⟨c220, c220'⟩
                exact absurd c220 (by decide)
              · rintro ⟨c220, c220'⟩
                refine gIload X w at_223 rfl (n := 225) rfl ?_
                refine gIf_ne X w at_225 (n := 232) (n' := 228) (by decide) rfl rfl ?_ ?_
                · rintro ⟨c225, c225'⟩
                  refine gIconst X w at_232 (z := (0 : Int32)) rfl (n := 233) rfl ?_
                  refine gIstore X w at_233 #[.val (.int p1), .val (.int p2), .val (.int p3), .val (.int p4), .val (.int p5), .val (.int p6), .val (.int x11), .val (.int x25), .val (.int x38), .val (.int x51), .val (.int r58), .val (.int r67), .val (.int x84), .val (.int x98), .val (.ref ad101), .val (.int b15), .val (.int (0 : Int32)), .val (.int (1 : Int32)), .val (.int (1 : Int32))] rfl (n := 235) rfl ?_
                  refine gIload X w at_235 rfl (n := 237) rfl ?_
                  refine gIf_eq X w at_237 (n := 249) (n' := 240) (by decide) rfl rfl ?_ ?_
                  · rintro ⟨c237, c237'⟩
                    refine gIconst X w at_249 (z := (0 : Int32)) rfl (n := 250) rfl ?_
                    refine gIstore X w at_250 #[.val (.int p1), .val (.int p2), .val (.int p3), .val (.int p4), .val (.int p5), .val (.int p6), .val (.int x11), .val (.int x25), .val (.int x38), .val (.int x51), .val (.int r58), .val (.int r67), .val (.int x84), .val (.int x98), .val (.ref ad101), .val (.int b15), .val (.int (0 : Int32)), .val (.int (0 : Int32)), .val (.int (1 : Int32))] rfl (n := 252) rfl ?_
                    refine gAload X w at_252 rfl rfl (n := 254) rfl ?_
                    refine gIload X w at_254 rfl (n := 256) rfl ?_
                    obtain ⟨u256, q256⟩ : ∃ zz_ : UInt64, FP.i2d x84 = zz_ := ⟨_, rfl⟩
                    refine gI2d X w at_256 q256 (n := 257) rfl ?_
                    have k256 := own_i2dq (by omega) (by omega) q256
                    refine gIload X w at_257 rfl (n := 259) rfl ?_
                    obtain ⟨u259, q259⟩ : ∃ zz_ : UInt64, FP.i2d x98 = zz_ := ⟨_, rfl⟩
                    refine gI2d X w at_259 q259 (n := 260) rfl ?_
                    have k259 := own_i2dq (by omega) (by omega) q259
                    refine gCallVv X w [(.double u256), (.double u259)] [] A117 (own_contains l Z a0 hw ad101 u107 u110 u113 u116 u256 u259 (4 * x11.toInt) (4 * r58.toInt) (4 * x25.toInt) (4 * r67.toInt) (4 * x84.toInt) (4 * x98.toInt) h117 n0 (Sd.le X) A117 F117 G117 H117 I117 k107 k110 k113 k116 k256 k259) (own_wd hw 44 rfl) (own_wd hw 45 rfl) (fun vm0 hS => notFace_of_selects (args := #[]) (mvT (State.Warmed39.trans w.2.2.1 hS.1) (own_wd hw 47 rfl))) (own_wd hw 47 rfl) (own_wd hw 46 rfl) (own_wd hw 10 rfl) (own_wd hw 48 rfl) (by decide) own_pd5 rfl rfl at_260 rfl (W := 0) (Nat.le_of_eq rfl) (by decide) (by decide) (by decide) (by decide) (n := 263) rfl ?_
                    rintro T _ _ ⟨rfl, z260, rfl, o260, i260⟩ X
                    refine gIload X w at_263 rfl (n := 265) rfl ?_
                    refine gIcmp_ne X w at_265 (n := 272) (n' := 268) (by decide) rfl rfl ?_ ?_
                    · rintro ⟨c265, c265'⟩
                      exact absurd (o260.resolve_right fun q => by have := i260.mp q; omega) c265
                    · rintro ⟨c265, c265'⟩
                      refine gIconst X w at_268 (z := (1 : Int32)) rfl (n := 269) rfl ?_
                      refine gGoto X w at_269 (by decide) (n := 273) rfl ?_
                      exact gRetZ X w rfl (Or.inr rfl) at_273 (by decide) (by decide) (rfl)
                  · rintro ⟨c237, c237'⟩
                    exact absurd c237 (by decide)
                · rintro ⟨c225, c225'⟩
                  exact absurd c225 (by decide)
    · intro c147
      refine gIload X w at_150 rfl (n := 152) rfl ?_
      refine gIload X w at_152 rfl (n := 154) rfl ?_
      refine gIcmp_gt X w at_154 (n := 168) (n' := 157) (by decide) rfl rfl ?_ ?_
      · intro c154
        refine gIconst X w at_168 (z := (0 : Int32)) rfl (n := 169) rfl ?_
        refine gIstore X w at_169 #[.val (.int p1), .val (.int p2), .val (.int p3), .val (.int p4), .val (.int p5), .val (.int p6), .val (.int x11), .val (.int x25), .val (.int x38), .val (.int x51), .val (.int r58), .val (.int r67), .val (.int x84), .val (.int x98), .val (.ref ad101), .val (.int b15), .val (.int (0 : Int32)), .unset, .unset] rfl (n := 171) rfl ?_
        refine gGoto X w at_171 (by decide) (n := 235) rfl ?_
        refine gIload X w at_235 rfl (n := 237) rfl ?_
        refine gIf_eq X w at_237 (n := 249) (n' := 240) (by decide) rfl rfl ?_ ?_
        · rintro ⟨c237, c237'⟩
          refine gIconst X w at_249 (z := (0 : Int32)) rfl (n := 250) rfl ?_
          refine gIstore X w at_250 #[.val (.int p1), .val (.int p2), .val (.int p3), .val (.int p4), .val (.int p5), .val (.int p6), .val (.int x11), .val (.int x25), .val (.int x38), .val (.int x51), .val (.int r58), .val (.int r67), .val (.int x84), .val (.int x98), .val (.ref ad101), .val (.int b15), .val (.int (0 : Int32)), .val (.int (0 : Int32)), .unset] rfl (n := 252) rfl ?_
          refine gAload X w at_252 rfl rfl (n := 254) rfl ?_
          refine gIload X w at_254 rfl (n := 256) rfl ?_
          obtain ⟨u256, q256⟩ : ∃ zz_ : UInt64, FP.i2d x84 = zz_ := ⟨_, rfl⟩
          refine gI2d X w at_256 q256 (n := 257) rfl ?_
          have k256 := own_i2dq (by omega) (by omega) q256
          refine gIload X w at_257 rfl (n := 259) rfl ?_
          obtain ⟨u259, q259⟩ : ∃ zz_ : UInt64, FP.i2d x98 = zz_ := ⟨_, rfl⟩
          refine gI2d X w at_259 q259 (n := 260) rfl ?_
          have k259 := own_i2dq (by omega) (by omega) q259
          refine gCallVv X w [(.double u256), (.double u259)] [] A117 (own_contains l Z a0 hw ad101 u107 u110 u113 u116 u256 u259 (4 * x11.toInt) (4 * r58.toInt) (4 * x25.toInt) (4 * r67.toInt) (4 * x84.toInt) (4 * x98.toInt) h117 n0 (Sd.le X) A117 F117 G117 H117 I117 k107 k110 k113 k116 k256 k259) (own_wd hw 44 rfl) (own_wd hw 45 rfl) (fun vm0 hS => notFace_of_selects (args := #[]) (mvT (State.Warmed39.trans w.2.2.1 hS.1) (own_wd hw 47 rfl))) (own_wd hw 47 rfl) (own_wd hw 46 rfl) (own_wd hw 10 rfl) (own_wd hw 48 rfl) (by decide) own_pd5 rfl rfl at_260 rfl (W := 0) (Nat.le_of_eq rfl) (by decide) (by decide) (by decide) (by decide) (n := 263) rfl ?_
          rintro T _ _ ⟨rfl, z260, rfl, o260, i260⟩ X
          refine gIload X w at_263 rfl (n := 265) rfl ?_
          refine gIcmp_ne X w at_265 (n := 272) (n' := 268) (by decide) rfl rfl ?_ ?_
          · rintro ⟨c265, c265'⟩
            exact absurd (o260.resolve_right fun q => by have := i260.mp q; omega) c265
          · rintro ⟨c265, c265'⟩
            refine gIconst X w at_268 (z := (1 : Int32)) rfl (n := 269) rfl ?_
            refine gGoto X w at_269 (by decide) (n := 273) rfl ?_
            exact gRetZ X w rfl (Or.inr rfl) at_273 (by decide) (by decide) (rfl)
        · rintro ⟨c237, c237'⟩
          exact absurd c237 (by decide)
      · intro c154
        refine gIload X w at_157 rfl (n := 159) rfl ?_
        refine gIload X w at_159 rfl (n := 161) rfl ?_
        refine gIcmp_gt X w at_161 (n := 168) (n' := 164) (by decide) rfl rfl ?_ ?_
        · intro c161
          refine gIconst X w at_168 (z := (0 : Int32)) rfl (n := 169) rfl ?_
          refine gIstore X w at_169 #[.val (.int p1), .val (.int p2), .val (.int p3), .val (.int p4), .val (.int p5), .val (.int p6), .val (.int x11), .val (.int x25), .val (.int x38), .val (.int x51), .val (.int r58), .val (.int r67), .val (.int x84), .val (.int x98), .val (.ref ad101), .val (.int b15), .val (.int (0 : Int32)), .unset, .unset] rfl (n := 171) rfl ?_
          refine gGoto X w at_171 (by decide) (n := 235) rfl ?_
          refine gIload X w at_235 rfl (n := 237) rfl ?_
          refine gIf_eq X w at_237 (n := 249) (n' := 240) (by decide) rfl rfl ?_ ?_
          · rintro ⟨c237, c237'⟩
            refine gIconst X w at_249 (z := (0 : Int32)) rfl (n := 250) rfl ?_
            refine gIstore X w at_250 #[.val (.int p1), .val (.int p2), .val (.int p3), .val (.int p4), .val (.int p5), .val (.int p6), .val (.int x11), .val (.int x25), .val (.int x38), .val (.int x51), .val (.int r58), .val (.int r67), .val (.int x84), .val (.int x98), .val (.ref ad101), .val (.int b15), .val (.int (0 : Int32)), .val (.int (0 : Int32)), .unset] rfl (n := 252) rfl ?_
            refine gAload X w at_252 rfl rfl (n := 254) rfl ?_
            refine gIload X w at_254 rfl (n := 256) rfl ?_
            obtain ⟨u256, q256⟩ : ∃ zz_ : UInt64, FP.i2d x84 = zz_ := ⟨_, rfl⟩
            refine gI2d X w at_256 q256 (n := 257) rfl ?_
            have k256 := own_i2dq (by omega) (by omega) q256
            refine gIload X w at_257 rfl (n := 259) rfl ?_
            obtain ⟨u259, q259⟩ : ∃ zz_ : UInt64, FP.i2d x98 = zz_ := ⟨_, rfl⟩
            refine gI2d X w at_259 q259 (n := 260) rfl ?_
            have k259 := own_i2dq (by omega) (by omega) q259
            refine gCallVv X w [(.double u256), (.double u259)] [] A117 (own_contains l Z a0 hw ad101 u107 u110 u113 u116 u256 u259 (4 * x11.toInt) (4 * r58.toInt) (4 * x25.toInt) (4 * r67.toInt) (4 * x84.toInt) (4 * x98.toInt) h117 n0 (Sd.le X) A117 F117 G117 H117 I117 k107 k110 k113 k116 k256 k259) (own_wd hw 44 rfl) (own_wd hw 45 rfl) (fun vm0 hS => notFace_of_selects (args := #[]) (mvT (State.Warmed39.trans w.2.2.1 hS.1) (own_wd hw 47 rfl))) (own_wd hw 47 rfl) (own_wd hw 46 rfl) (own_wd hw 10 rfl) (own_wd hw 48 rfl) (by decide) own_pd5 rfl rfl at_260 rfl (W := 0) (Nat.le_of_eq rfl) (by decide) (by decide) (by decide) (by decide) (n := 263) rfl ?_
            rintro T _ _ ⟨rfl, z260, rfl, o260, i260⟩ X
            refine gIload X w at_263 rfl (n := 265) rfl ?_
            refine gIcmp_ne X w at_265 (n := 272) (n' := 268) (by decide) rfl rfl ?_ ?_
            · rintro ⟨c265, c265'⟩
              exact absurd (o260.resolve_right fun q => by have := i260.mp q; omega) c265
            · rintro ⟨c265, c265'⟩
              refine gIconst X w at_268 (z := (1 : Int32)) rfl (n := 269) rfl ?_
              refine gGoto X w at_269 (by decide) (n := 273) rfl ?_
              exact gRetZ X w rfl (Or.inr rfl) at_273 (by decide) (by decide) (rfl)
          · rintro ⟨c237, c237'⟩
            exact absurd c237 (by decide)
        · intro c161
          refine gIconst X w at_164 (z := (1 : Int32)) rfl (n := 165) rfl ?_
          refine gGoto X w at_165 (by decide) (n := 169) rfl ?_
          refine gIstore X w at_169 #[.val (.int p1), .val (.int p2), .val (.int p3), .val (.int p4), .val (.int p5), .val (.int p6), .val (.int x11), .val (.int x25), .val (.int x38), .val (.int x51), .val (.int r58), .val (.int r67), .val (.int x84), .val (.int x98), .val (.ref ad101), .val (.int b15), .val (.int (1 : Int32)), .unset, .unset] rfl (n := 171) rfl ?_
          refine gGoto X w at_171 (by decide) (n := 235) rfl ?_
          refine gIload X w at_235 rfl (n := 237) rfl ?_
          refine gIf_eq X w at_237 (n := 249) (n' := 240) (by decide) rfl rfl ?_ ?_
          · rintro ⟨c237, c237'⟩
            exact absurd c237 (by decide)
          · rintro ⟨c237, c237'⟩
            refine gIload X w at_240 rfl (n := 242) rfl ?_
            refine gIf_eq X w at_242 (n := 249) (n' := 245) (by decide) rfl rfl ?_ ?_
            · rintro ⟨c242, c242'⟩
              have j242 : ¬ (r58.toInt ≤ x98.toInt ∧ x98.toInt ≤ r67.toInt) := fun q => absurd (i15.mpr q) (by rw [c242]; decide)
              refine gIconst X w at_249 (z := (0 : Int32)) rfl (n := 250) rfl ?_
              refine gIstore X w at_250 #[.val (.int p1), .val (.int p2), .val (.int p3), .val (.int p4), .val (.int p5), .val (.int p6), .val (.int x11), .val (.int x25), .val (.int x38), .val (.int x51), .val (.int r58), .val (.int r67), .val (.int x84), .val (.int x98), .val (.ref ad101), .val (.int b15), .val (.int (1 : Int32)), .val (.int (0 : Int32)), .unset] rfl (n := 252) rfl ?_
              refine gAload X w at_252 rfl rfl (n := 254) rfl ?_
              refine gIload X w at_254 rfl (n := 256) rfl ?_
              obtain ⟨u256, q256⟩ : ∃ zz_ : UInt64, FP.i2d x84 = zz_ := ⟨_, rfl⟩
              refine gI2d X w at_256 q256 (n := 257) rfl ?_
              have k256 := own_i2dq (by omega) (by omega) q256
              refine gIload X w at_257 rfl (n := 259) rfl ?_
              obtain ⟨u259, q259⟩ : ∃ zz_ : UInt64, FP.i2d x98 = zz_ := ⟨_, rfl⟩
              refine gI2d X w at_259 q259 (n := 260) rfl ?_
              have k259 := own_i2dq (by omega) (by omega) q259
              refine gCallVv X w [(.double u256), (.double u259)] [] A117 (own_contains l Z a0 hw ad101 u107 u110 u113 u116 u256 u259 (4 * x11.toInt) (4 * r58.toInt) (4 * x25.toInt) (4 * r67.toInt) (4 * x84.toInt) (4 * x98.toInt) h117 n0 (Sd.le X) A117 F117 G117 H117 I117 k107 k110 k113 k116 k256 k259) (own_wd hw 44 rfl) (own_wd hw 45 rfl) (fun vm0 hS => notFace_of_selects (args := #[]) (mvT (State.Warmed39.trans w.2.2.1 hS.1) (own_wd hw 47 rfl))) (own_wd hw 47 rfl) (own_wd hw 46 rfl) (own_wd hw 10 rfl) (own_wd hw 48 rfl) (by decide) own_pd5 rfl rfl at_260 rfl (W := 0) (Nat.le_of_eq rfl) (by decide) (by decide) (by decide) (by decide) (n := 263) rfl ?_
              rintro T _ _ ⟨rfl, z260, rfl, o260, i260⟩ X
              refine gIload X w at_263 rfl (n := 265) rfl ?_
              refine gIcmp_ne X w at_265 (n := 272) (n' := 268) (by decide) rfl rfl ?_ ?_
              · rintro ⟨c265, c265'⟩
                exact absurd (o260.resolve_right fun q => by have := i260.mp q; omega) c265
              · rintro ⟨c265, c265'⟩
                refine gIconst X w at_268 (z := (1 : Int32)) rfl (n := 269) rfl ?_
                refine gGoto X w at_269 (by decide) (n := 273) rfl ?_
                exact gRetZ X w rfl (Or.inr rfl) at_273 (by decide) (by decide) (rfl)
            · rintro ⟨c242, c242'⟩
              have j242 := i15.mp (o15.resolve_left c242)
              refine gIconst X w at_245 (z := (1 : Int32)) rfl (n := 246) rfl ?_
              refine gGoto X w at_246 (by decide) (n := 250) rfl ?_
              refine gIstore X w at_250 #[.val (.int p1), .val (.int p2), .val (.int p3), .val (.int p4), .val (.int p5), .val (.int p6), .val (.int x11), .val (.int x25), .val (.int x38), .val (.int x51), .val (.int r58), .val (.int r67), .val (.int x84), .val (.int x98), .val (.ref ad101), .val (.int b15), .val (.int (1 : Int32)), .val (.int (1 : Int32)), .unset] rfl (n := 252) rfl ?_
              refine gAload X w at_252 rfl rfl (n := 254) rfl ?_
              refine gIload X w at_254 rfl (n := 256) rfl ?_
              obtain ⟨u256, q256⟩ : ∃ zz_ : UInt64, FP.i2d x84 = zz_ := ⟨_, rfl⟩
              refine gI2d X w at_256 q256 (n := 257) rfl ?_
              have k256 := own_i2dq (by omega) (by omega) q256
              refine gIload X w at_257 rfl (n := 259) rfl ?_
              obtain ⟨u259, q259⟩ : ∃ zz_ : UInt64, FP.i2d x98 = zz_ := ⟨_, rfl⟩
              refine gI2d X w at_259 q259 (n := 260) rfl ?_
              have k259 := own_i2dq (by omega) (by omega) q259
              refine gCallVv X w [(.double u256), (.double u259)] [] A117 (own_contains l Z a0 hw ad101 u107 u110 u113 u116 u256 u259 (4 * x11.toInt) (4 * r58.toInt) (4 * x25.toInt) (4 * r67.toInt) (4 * x84.toInt) (4 * x98.toInt) h117 n0 (Sd.le X) A117 F117 G117 H117 I117 k107 k110 k113 k116 k256 k259) (own_wd hw 44 rfl) (own_wd hw 45 rfl) (fun vm0 hS => notFace_of_selects (args := #[]) (mvT (State.Warmed39.trans w.2.2.1 hS.1) (own_wd hw 47 rfl))) (own_wd hw 47 rfl) (own_wd hw 46 rfl) (own_wd hw 10 rfl) (own_wd hw 48 rfl) (by decide) own_pd5 rfl rfl at_260 rfl (W := 0) (Nat.le_of_eq rfl) (by decide) (by decide) (by decide) (by decide) (n := 263) rfl ?_
              rintro T _ _ ⟨rfl, z260, rfl, o260, i260⟩ X
              refine gIload X w at_263 rfl (n := 265) rfl ?_
              refine gIcmp_ne X w at_265 (n := 272) (n' := 268) (by decide) rfl rfl ?_ ?_
              · rintro ⟨c265, c265'⟩
                exact absurd (i260.mpr (by omega)) c265
              · rintro ⟨c265, c265'⟩
                refine gIconst X w at_268 (z := (1 : Int32)) rfl (n := 269) rfl ?_
                refine gGoto X w at_269 (by decide) (n := 273) rfl ?_
                exact gRetZ X w rfl (Or.inr rfl) at_273 (by decide) (by decide) (rfl)
  refine gIload X w at_122 rfl (n := 124) rfl ?_
  refine gIload X w at_124 rfl (n := 126) rfl ?_
  refine gIcmp_lt X w at_126 (n := 140) (n' := 129) (by decide) rfl rfl ?_ ?_
  · intro c126
    refine gIconst X w at_140 (z := (0 : Int32)) rfl (n := 141) rfl ?_
    exact k141 _ (by decide) ⟨fun q => absurd q (by decide), fun _ => by exfalso; omega⟩
  · intro c126
    refine gIload X w at_129 rfl (n := 131) rfl ?_
    refine gIload X w at_131 rfl (n := 133) rfl ?_
    refine gIcmp_gt X w at_133 (n := 140) (n' := 136) (by decide) rfl rfl ?_ ?_
    · intro c133
      refine gIconst X w at_140 (z := (0 : Int32)) rfl (n := 141) rfl ?_
      exact k141 _ (by decide) ⟨fun q => absurd q (by decide), fun _ => by exfalso; omega⟩
    · intro c133
      refine gIconst X w at_136 (z := (1 : Int32)) rfl (n := 137) rfl ?_
      refine gGoto X w at_137 (by decide) (n := 141) rfl ?_
      exact k141 _ (by decide) ⟨fun _ => by omega, fun _ => rfl⟩
set_option maxRecDepth 65536 in
set_option maxHeartbeats 40000000 in
theorem comes_1 {Post : Tables → Env → Array Value → State → Outcome → State → Prop} (hpost : ∀ tb e args s v u, (limb_1_1.after args s (.returned v) u = true ∧ limb_1_2.after args s (.returned v) u = true ∧ True) → ReturnedEndW s (.returned v) u (Jvm.fieldLocs frame_1_writes args s ++ Jvm.arrayLocs frame_1_arrays args s ++ Jvm.staticLocs frame_1_statics s) 16 2176 → Post tb e args s (.returned v) u) :
    ArmFor flags0 classFile x code maxLocals ret World_1 tables_1 room_1 Calls_1 rest_1 Pre_1 Post := by
  intro l hfl _ _ p e ha hc hk s m args below hf hA hF happ hP
  obtain ⟨hcalls, hrest, hpre⟩ := hP
  obtain ⟨-, -, -, hnamed, -, -, -, hat⟩ := (Spec.applies_iff hf).mp happ
  obtain ⟨hg, hn⟩ := and_e (Cond.before_iff.mp (show (Jvm.Cond.and given_1 narrow_1).before args s = true from hpre))
  obtain ⟨hcnt, g0⟩ := and_e hg
  obtain ⟨w0, w1, w2, w3, w4, w5, rfl⟩ : ∃ w0 w1 w2 w3 w4 w5 : Value, args = #[w0, w1, w2, w3, w4, w5] := by
    have hs : args.size = 6 := by simpa [Cond.value, given_1] using hcnt
    obtain ⟨L⟩ := args
    match L, hs with
    | [w0, w1, w2, w3, w4, w5], _ => exact ⟨w0, w1, w2, w3, w4, w5, rfl⟩
  have hw := fun d (hd : d ∈ tables_1) => atoms_spec (ws := Jvm.Cond.code x code maxLocals ret :: tables_1) hat d (List.mem_cons_of_mem _ hd)
  have hfit : Fit s := fun {y c} hc i hi => by
    obtain ⟨ha, rfl⟩ := Array.getElem?_eq_some_iff.mp hc
    have q := List.all_eq_true.mp ((Array.all_eq_true_iff_forall_mem.mp hF) _ (Array.getElem_mem ha)) i (List.mem_range.mpr hi)
    simpa [Array.getElem?_eq_getElem hi] using q
  obtain ⟨k0, g1⟩ := and_e g0
  obtain ⟨k1, g2⟩ := and_e g1
  obtain ⟨k2, g3⟩ := and_e g2
  obtain ⟨k3, g4⟩ := and_e g3
  obtain ⟨k4, g5⟩ := and_e g4
  obtain ⟨i0, e0⟩ := is_v k0
  obtain rfl : w0 = (.int i0) := Option.some.inj e0
  obtain ⟨i1, e1⟩ := is_v k1
  obtain rfl : w1 = (.int i1) := Option.some.inj e1
  obtain ⟨i2, e2⟩ := is_v k2
  obtain rfl : w2 = (.int i2) := Option.some.inj e2
  obtain ⟨i3, e3⟩ := is_v k3
  obtain rfl : w3 = (.int i3) := Option.some.inj e3
  obtain ⟨i4, e4⟩ := is_v k4
  obtain rfl : w4 = (.int i4) := Option.some.inj e4
  obtain ⟨i5, e5⟩ := is_v g5
  obtain rfl : w5 = (.int i5) := Option.some.inj e5
  obtain ⟨n, o, h1, h2, h3, _, L, rfl, ⟨rfl, N⟩, hq⟩ := own_law l s _ hw i0 i1 i2 i3 i4 i5 s.heap s.heap.size (Nat.le_refl _)  p e ha hc hk s m _ below hf ((Spec.applies_iff_loose hf).mp happ).1 ⟨rfl, State.Warmed39.refl s, rfl⟩ trivial
  refine ⟨n, _, h1, h2, h3, hpost _ _ _ _ _ _ ⟨Cond.after_iff.mpr rfl, Cond.after_iff.mpr (eq_i res_at (Term.int_eval (1)) rfl), trivial⟩ ⟨hq.1, hq.2.1, hq.2.2.1, (hq.2.2.2.sift fun y hy => Or.inr (N y hy)).mono (by decide) (by decide)⟩⟩
theorem main_1_1 : Claimed_1_1 := comes_1 fun _ _ _ _ _ _ h hF => ⟨h.1, hF⟩
theorem main_1_2 : Claimed_1_2 := comes_1 fun _ _ _ _ _ _ h hF => ⟨h.2.1, hF⟩
end Jvm.Pilot.@@N@@
namespace Jvm.Pilot.@@N@@
open Jvm Jvm.ClassFile Sem Op Lib Jvm.Free Jvm.Stand Jvm.Pilot.@@N@@.Jvm.D
/-! MADE BY PROGRAM (witnessworld.py) out of the Statement's table words and the real class files: 16 classes; the members and pool entries that the words name. The judged class is class 1, her method 1. -/
namespace start1
open Jvm.ClassFile
def u (s : String) : CpInfo := .utf8 (stringToUtf16 s)
/-- a pool by its gaps: so many unusable entries, then the entry; so many at the end -/
def gap : Nat → List CpInfo → List CpInfo
  | 0, r => r
  | n + 1, r => .unusable :: gap n r
def poolList (es : List (Nat × CpInfo)) (last : Nat) : List CpInfo := es.foldr (fun e r => gap e.1 (e.2 :: r)) (gap last [])
def pool (es : List (Nat × CpInfo)) (last : Nat) : Array CpInfo := ⟨poolList es last⟩
def fileOf (pool : Array CpInfo) (this : Nat) (attrs : Array Attribute := #[]) (ms : Array MethodInfo := #[]) (fl : Nat := 33) (sup : Nat := 0) (ifs : Array Nat := #[]) (fds : Array FieldInfo := #[]) : ClassFile where
  minorVersion := 0
  majorVersion := 65
  constantPool := pool
  accessFlags := fl
  thisClass := this
  superClass := sup
  interfaces := ifs
  fields := fds
  methods := ms
  attributes := attrs
def plain (name : String) (sup : Option ClassId) : Class where
  name := name
  kind := .ordinary
  loader := none
  accessFlags := 33
  super := sup
  interfaces := #[]
  cf := none
  fields := #[]
  methods := #[]
  instanceTypes := #[]
  staticTypes := #[]
  resolved := #[]
  callSites := []
  init := .initialized
  statics := none
  mirror := none

def pool0 : Array CpInfo := pool [(5, u "<init>"), (0, u "()V"), (1, .class_ 10), (1, u "java/lang/Object")] 113

def k0c0 : Code := { maxStack := 0, maxLocals := 1, code := object_method_1_code, exceptionTable := #[], attributes := #[] }
def k0m0 : Method := { name := "<init>", desc := "()V", sig := { parameters := [], returnType := none }, accessFlags := 1, code := some k0c0 }
/-- java/lang/Object -/
def k0 : Class := { plain "java/lang/Object" none with
  accessFlags := 33
  interfaces := #[]
  cf := some (fileOf pool0 8 #[] #[{ accessFlags := 1, nameIndex := 5, descriptorIndex := 6, attributes := #[] }] 33 0 #[] #[])
  fields := #[]
  methods := #[k0m0]
  instanceTypes := #[]
  staticTypes := #[]
  resolved := Array.replicate 124 none
  statics := none }

def pool1 : Array CpInfo := pool [(2, .class_ 4), (1, u "java/lang/Object"), (0, u "<init>"), (0, u "()V"), (0, .integer 2147483647), (0, .methodref 9 10), (0, .class_ 11), (0, .nameAndType 12 13), (0, u "java/lang/Math"), (0, u "min"), (0, u "(II)I"), (0, .methodref 9 15), (0, .nameAndType 16 13), (0, u "max"), (0, .class_ 18), (0, u "com/example/gridshard/gridshard/core/BoundingBox"), (0, .methodref 17 20), (0, .nameAndType 5 21), (0, u "(DDDD)V"), (0, .methodref 17 23), (0, .nameAndType 24 25), (0, u "contains"), (0, u "(DD)Z"), (0, .class_ 27), (0, u "com/example/gridshard/gridshard/core/BoundingBoxContainsPinLaw"), (2, u "law"), (0, u "(IIIIII)Z")] 3

def k1m0 : Method := { name := "<init>", desc := "()V", sig := { parameters := [], returnType := none }, accessFlags := 1, code := none }
def k1c1 : Code := { maxStack := 10, maxLocals := 19, code := code, exceptionTable := #[], attributes := #[] }
def k1m1 : Method := { name := "law", desc := "(IIIIII)Z", sig := { parameters := [.int, .int, .int, .int, .int, .int], returnType := some .boolean }, accessFlags := 9, code := some k1c1 }
/-- com/example/gridshard/gridshard/core/BoundingBoxContainsPinLaw -/
def k1 : Class := { plain "com/example/gridshard/gridshard/core/BoundingBoxContainsPinLaw" (some 0) with
  accessFlags := 49
  interfaces := #[]
  cf := some (fileOf pool1 26 #[] #[{ accessFlags := 1, nameIndex := 5, descriptorIndex := 6, attributes := #[] }, { accessFlags := 9, nameIndex := 30, descriptorIndex := 31, attributes := #[] }] 49 2 #[] #[])
  fields := #[]
  methods := #[k1m0, k1m1]
  instanceTypes := #[]
  staticTypes := #[]
  resolved := Array.replicate 35 none
  statics := none }

def pool2 : Array CpInfo := pool [(1, .class_ 2), (0, u "java/lang/Math"), (1, .class_ 6), (1, u "java/lang/Object"), (0, u "<init>"), (0, u "()V"), (89, .class_ 100), (1, u "java/lang/Math$RandomNumberGeneratorHolder"), (71, u "negativeZeroFloatBits"), (0, u "J"), (2, u "negativeZeroDoubleBits"), (21, u "max"), (2, u "min"), (43, u "$assertionsDisabled"), (0, u "Z"), (88, u "(II)I"), (2, u "twoToTheDoubleScaleDown"), (0, u "D"), (4, u "twoToTheDoubleScaleUp"), (9, u "E"), (3, u "PI"), (2, u "TAU"), (2, u "DEGREES_TO_RADIANS"), (0, u "RADIANS_TO_DEGREES")] 94

def k2m0 : Method := { name := "<init>", desc := "()V", sig := { parameters := [], returnType := none }, accessFlags := 2, code := none }
def k2c1 : Code := { maxStack := 2, maxLocals := 2, code := jdk_29_method_65_code, exceptionTable := #[], attributes := #[] }
def k2m1 : Method := { name := "max", desc := "(II)I", sig := { parameters := [.int, .int], returnType := some .int }, accessFlags := 9, code := some k2c1 }
def k2c2 : Code := { maxStack := 2, maxLocals := 2, code := jdk_29_method_69_code, exceptionTable := #[], attributes := #[] }
def k2m2 : Method := { name := "min", desc := "(II)I", sig := { parameters := [.int, .int], returnType := some .int }, accessFlags := 9, code := some k2c2 }
/-- java/lang/Math -/
def k2 : Class := { plain "java/lang/Math" (some 0) with
  accessFlags := 49
  interfaces := #[]
  cf := some (fileOf pool2 1 #[.nestMembers #[98]] #[{ accessFlags := 2, nameIndex := 7, descriptorIndex := 8, attributes := #[] }, { accessFlags := 9, nameIndex := 198, descriptorIndex := 335, attributes := #[] }, { accessFlags := 9, nameIndex := 201, descriptorIndex := 335, attributes := #[] }] 49 4 #[] #[{ accessFlags := 25, nameIndex := 354, descriptorIndex := 339, attributes := #[] }, { accessFlags := 25, nameIndex := 358, descriptorIndex := 339, attributes := #[] }, { accessFlags := 25, nameIndex := 361, descriptorIndex := 339, attributes := #[] }, { accessFlags := 26, nameIndex := 364, descriptorIndex := 339, attributes := #[] }, { accessFlags := 26, nameIndex := 365, descriptorIndex := 339, attributes := #[] }, { accessFlags := 26, nameIndex := 172, descriptorIndex := 173, attributes := #[] }, { accessFlags := 26, nameIndex := 176, descriptorIndex := 173, attributes := #[] }, { accessFlags := 8, nameIndex := 344, descriptorIndex := 339, attributes := #[] }, { accessFlags := 8, nameIndex := 338, descriptorIndex := 339, attributes := #[] }, { accessFlags := 4120, nameIndex := 245, descriptorIndex := 246, attributes := #[] }])
  fields := #[{ name := "E", type := .double, accessFlags := 25, slot := 0, constantValue := 0 }, { name := "PI", type := .double, accessFlags := 25, slot := 1, constantValue := 0 }, { name := "TAU", type := .double, accessFlags := 25, slot := 2, constantValue := 0 }, { name := "DEGREES_TO_RADIANS", type := .double, accessFlags := 26, slot := 3, constantValue := 0 }, { name := "RADIANS_TO_DEGREES", type := .double, accessFlags := 26, slot := 4, constantValue := 0 }, { name := "negativeZeroFloatBits", type := .long, accessFlags := 26, slot := 5, constantValue := 0 }, { name := "negativeZeroDoubleBits", type := .long, accessFlags := 26, slot := 6, constantValue := 0 }, { name := "twoToTheDoubleScaleUp", type := .double, accessFlags := 8, slot := 7, constantValue := 0 }, { name := "twoToTheDoubleScaleDown", type := .double, accessFlags := 8, slot := 8, constantValue := 0 }, { name := "$assertionsDisabled", type := .boolean, accessFlags := 4120, slot := 9, constantValue := 0 }]
  methods := #[k2m0, k2m1, k2m2]
  instanceTypes := #[]
  staticTypes := #[.double, .double, .double, .double, .double, .long, .long, .double, .double, .boolean]
  resolved := Array.replicate 460 none
  statics := none }

def pool3 : Array CpInfo := pool [(1, .methodref 2 3), (0, .class_ 4), (0, .nameAndType 5 6), (0, u "java/lang/Object"), (0, u "<init>"), (0, u "()V"), (0, .class_ 8), (0, u "java/lang/Record")] 13

def k3c0 : Code := { maxStack := 1, maxLocals := 1, code := jdk_30_method_1_code, exceptionTable := #[], attributes := #[] }
def k3m0 : Method := { name := "<init>", desc := "()V", sig := { parameters := [], returnType := none }, accessFlags := 4, code := some k3c0 }
/-- java/lang/Record -/
def k3 : Class := { plain "java/lang/Record" (some 0) with
  accessFlags := 1057
  interfaces := #[]
  cf := some (fileOf pool3 7 #[] #[{ accessFlags := 4, nameIndex := 5, descriptorIndex := 6, attributes := #[] }] 1057 2 #[] #[])
  fields := #[]
  methods := #[k3m0]
  instanceTypes := #[]
  staticTypes := #[]
  resolved := Array.replicate 22 none
  statics := none }

def pool4 : Array CpInfo := pool [(1, .methodref 2 3), (0, .class_ 4), (0, .nameAndType 5 6), (0, u "java/lang/Record"), (0, u "<init>"), (0, u "()V"), (0, .string 8), (0, u "longitude"), (0, .double 4640537203540230144), (1, .methodref 12 13), (0, .class_ 14), (0, .nameAndType 15 16), (0, u "com/example/gridshard/gridshard/core/BoundingBox"), (0, u "requireWithin"), (0, u "(Ljava/lang/String;DD)V"), (0, .string 18), (0, u "latitude"), (0, .double 4636033603912859648), (10, .fieldref 12 31), (0, .nameAndType 32 33), (0, u "west"), (0, u "D"), (0, .fieldref 12 35), (0, .nameAndType 36 33), (0, u "south"), (0, .fieldref 12 38), (0, .nameAndType 39 33), (0, u "east"), (0, .fieldref 12 41), (0, .nameAndType 42 33), (0, u "north"), (10, u "(DDDD)V"), (0, .methodref 12 55), (0, .nameAndType 56 57), (0, u "crossesAntimeridian"), (0, u "()Z"), (0, .double 13863909240395005952), (35, u "contains"), (0, u "(DD)Z")] 37

def k4c0 : Code := { maxStack := 6, maxLocals := 9, code := prog_4_method_1_code, exceptionTable := #[], attributes := #[] }
def k4m0 : Method := { name := "<init>", desc := "(DDDD)V", sig := { parameters := [.double, .double, .double, .double], returnType := none }, accessFlags := 1, code := some k4c0 }
def k4c1 : Code := { maxStack := 4, maxLocals := 1, code := prog_4_method_3_code, exceptionTable := #[], attributes := #[] }
def k4m1 : Method := { name := "crossesAntimeridian", desc := "()Z", sig := { parameters := [], returnType := some .boolean }, accessFlags := 1, code := some k4c1 }
def k4c2 : Code := { maxStack := 4, maxLocals := 6, code := prog_4_method_5_code, exceptionTable := #[], attributes := #[] }
def k4m2 : Method := { name := "contains", desc := "(DD)Z", sig := { parameters := [.double, .double], returnType := some .boolean }, accessFlags := 1, code := some k4c2 }
def k4c3 : Code := { maxStack := 8, maxLocals := 5, code := prog_4_method_6_code, exceptionTable := #[], attributes := #[] }
def k4m3 : Method := { name := "requireWithin", desc := "(Ljava/lang/String;DD)V", sig := { parameters := [(.object "java/lang/String"), .double, .double], returnType := none }, accessFlags := 10, code := some k4c3 }
/-- com/example/gridshard/gridshard/core/BoundingBox -/
def k4 : Class := { plain "com/example/gridshard/gridshard/core/BoundingBox" (some 3) with
  accessFlags := 49
  interfaces := #[]
  cf := some (fileOf pool4 12 #[] #[{ accessFlags := 1, nameIndex := 5, descriptorIndex := 53, attributes := #[] }, { accessFlags := 1, nameIndex := 56, descriptorIndex := 57, attributes := #[] }, { accessFlags := 1, nameIndex := 94, descriptorIndex := 95, attributes := #[] }, { accessFlags := 10, nameIndex := 15, descriptorIndex := 16, attributes := #[] }] 49 2 #[] #[{ accessFlags := 18, nameIndex := 32, descriptorIndex := 33, attributes := #[] }, { accessFlags := 18, nameIndex := 36, descriptorIndex := 33, attributes := #[] }, { accessFlags := 18, nameIndex := 39, descriptorIndex := 33, attributes := #[] }, { accessFlags := 18, nameIndex := 42, descriptorIndex := 33, attributes := #[] }])
  fields := #[{ name := "west", type := .double, accessFlags := 18, slot := 0, constantValue := 0 }, { name := "south", type := .double, accessFlags := 18, slot := 1, constantValue := 0 }, { name := "east", type := .double, accessFlags := 18, slot := 2, constantValue := 0 }, { name := "north", type := .double, accessFlags := 18, slot := 3, constantValue := 0 }]
  methods := #[k4m0, k4m1, k4m2, k4m3]
  instanceTypes := #[.double, .double, .double, .double]
  staticTypes := #[]
  resolved := Array.replicate 133 none
  statics := none }

def pool5 : Array CpInfo := pool [(1, .class_ 2), (0, u "java/io/Serializable"), (0, .class_ 4), (0, u "java/lang/Object")] 2

/-- java/io/Serializable -/
def k5 : Class := { plain "java/io/Serializable" (some 0) with
  accessFlags := 1537
  interfaces := #[]
  cf := some (fileOf pool5 1 #[] #[] 1537 3 #[] #[])
  fields := #[]
  methods := #[]
  instanceTypes := #[]
  staticTypes := #[]
  resolved := Array.replicate 7 none
  statics := none }

def pool6 : Array CpInfo := pool [(1, .class_ 2), (0, u "java/lang/Comparable"), (0, .class_ 4), (0, u "java/lang/Object")] 7

/-- java/lang/Comparable -/
def k6 : Class := { plain "java/lang/Comparable" (some 0) with
  accessFlags := 1537
  interfaces := #[]
  cf := some (fileOf pool6 1 #[] #[] 1537 3 #[] #[])
  fields := #[]
  methods := #[]
  instanceTypes := #[]
  staticTypes := #[]
  resolved := Array.replicate 12 none
  statics := none }

def pool7 : Array CpInfo := pool [(2, .class_ 4), (1, u "java/lang/CharSequence"), (42, .class_ 48), (0, u "java/lang/CharSequence$1CodePointIterator"), (10, .class_ 60), (0, u "java/lang/CharSequence$1CharIterator"), (5, .class_ 67), (0, u "java/lang/Object")] 63

/-- java/lang/CharSequence -/
def k7 : Class := { plain "java/lang/CharSequence" (some 0) with
  accessFlags := 1537
  interfaces := #[]
  cf := some (fileOf pool7 2 #[.nestMembers #[47, 59]] #[] 1537 66 #[] #[])
  fields := #[]
  methods := #[]
  instanceTypes := #[]
  staticTypes := #[]
  resolved := Array.replicate 131 none
  statics := none }

def pool8 : Array CpInfo := pool [(1, .class_ 2), (0, u "java/lang/constant/Constable"), (0, .class_ 4), (0, u "java/lang/Object")] 6

/-- java/lang/constant/Constable -/
def k8 : Class := { plain "java/lang/constant/Constable" (some 0) with
  accessFlags := 1537
  interfaces := #[]
  cf := some (fileOf pool8 1 #[] #[] 1537 3 #[] #[])
  fields := #[]
  methods := #[]
  instanceTypes := #[]
  staticTypes := #[]
  resolved := Array.replicate 11 none
  statics := none }

def pool9 : Array CpInfo := pool [(1, .class_ 2), (0, u "java/lang/constant/ConstantDesc"), (0, .class_ 4), (0, u "java/lang/Object")] 32

/-- java/lang/constant/ConstantDesc -/
def k9 : Class := { plain "java/lang/constant/ConstantDesc" (some 0) with
  accessFlags := 1537
  interfaces := #[]
  cf := some (fileOf pool9 1 #[] #[] 1537 3 #[] #[])
  fields := #[]
  methods := #[]
  instanceTypes := #[]
  staticTypes := #[]
  resolved := Array.replicate 37 none
  statics := none }

def pool10 : Array CpInfo := pool [(2, .class_ 4), (1, u "java/lang/Object"), (0, u "<init>"), (0, u "()V"), (3, .class_ 12), (1, u "java/lang/String"), (0, u "value"), (0, u "[B"), (2, u "coder"), (0, u "B"), (2, u "hash"), (0, u "I"), (2, u "hashIsZero"), (0, u "Z"), (13, u "COMPACT_STRINGS"), (534, .class_ 576), (0, u "java/lang/CharSequence"), (22, u "CASE_INSENSITIVE_ORDER"), (0, u "Ljava/util/Comparator;"), (500, u "serialPersistentFields"), (0, u "[Ljava/io/ObjectStreamField;"), (0, .class_ 1104), (0, u "java/lang/String$CaseInsensitiveComparator"), (1, .class_ 1107), (0, u "java/io/Serializable"), (0, .class_ 1109), (0, u "java/lang/Comparable"), (0, .class_ 1111), (0, u "java/lang/constant/Constable"), (0, .class_ 1113), (0, u "java/lang/constant/ConstantDesc"), (2, u "serialVersionUID"), (0, u "J"), (3, u "REPL"), (0, u "C"), (2, u "LATIN1"), (1, u "UTF16")] 323

def k10m0 : Method := { name := "<init>", desc := "()V", sig := { parameters := [], returnType := none }, accessFlags := 1, code := none }
/-- java/lang/String -/
def k10 : Class := { plain "java/lang/String" (some 0) with
  accessFlags := 49
  interfaces := #[5, 6, 7, 8, 9]
  cf := some (fileOf pool10 10 #[.nestMembers #[1103]] #[{ accessFlags := 1, nameIndex := 5, descriptorIndex := 6, attributes := #[] }] 49 2 #[1106, 1108, 575, 1110, 1112] #[{ accessFlags := 18, nameIndex := 13, descriptorIndex := 14, attributes := #[] }, { accessFlags := 18, nameIndex := 17, descriptorIndex := 18, attributes := #[] }, { accessFlags := 2, nameIndex := 21, descriptorIndex := 22, attributes := #[] }, { accessFlags := 2, nameIndex := 25, descriptorIndex := 26, attributes := #[] }, { accessFlags := 26, nameIndex := 1116, descriptorIndex := 1117, attributes := #[] }, { accessFlags := 24, nameIndex := 40, descriptorIndex := 26, attributes := #[] }, { accessFlags := 26, nameIndex := 1101, descriptorIndex := 1102, attributes := #[] }, { accessFlags := 26, nameIndex := 1121, descriptorIndex := 1122, attributes := #[] }, { accessFlags := 25, nameIndex := 599, descriptorIndex := 600, attributes := #[] }, { accessFlags := 24, nameIndex := 1125, descriptorIndex := 18, attributes := #[] }, { accessFlags := 24, nameIndex := 1127, descriptorIndex := 18, attributes := #[] }])
  fields := #[{ name := "value", type := (.array .byte), accessFlags := 18, slot := 0, constantValue := 0 }, { name := "coder", type := .byte, accessFlags := 18, slot := 1, constantValue := 0 }, { name := "hash", type := .int, accessFlags := 2, slot := 2, constantValue := 0 }, { name := "hashIsZero", type := .boolean, accessFlags := 2, slot := 3, constantValue := 0 }, { name := "serialVersionUID", type := .long, accessFlags := 26, slot := 0, constantValue := 0 }, { name := "COMPACT_STRINGS", type := .boolean, accessFlags := 24, slot := 1, constantValue := 0 }, { name := "serialPersistentFields", type := (.array (.object "java/io/ObjectStreamField")), accessFlags := 26, slot := 2, constantValue := 0 }, { name := "REPL", type := .char, accessFlags := 26, slot := 3, constantValue := 0 }, { name := "CASE_INSENSITIVE_ORDER", type := (.object "java/util/Comparator"), accessFlags := 25, slot := 4, constantValue := 0 }, { name := "LATIN1", type := .byte, accessFlags := 24, slot := 5, constantValue := 0 }, { name := "UTF16", type := .byte, accessFlags := 24, slot := 6, constantValue := 0 }]
  methods := #[k10m0]
  instanceTypes := #[(.array .byte), .byte, .int, .boolean]
  staticTypes := #[.long, .boolean, (.array (.object "java/io/ObjectStreamField")), .char, (.object "java/util/Comparator"), .byte, .byte]
  resolved := Array.replicate 1451 none
  statics := none }

def pool11 : Array CpInfo := pool [(1, u "java/lang/Cloneable"), (0, .class_ 1), (0, u "java/lang/Object"), (0, .class_ 3)] 3

/-- java/lang/Cloneable -/
def k11 : Class := { plain "java/lang/Cloneable" (some 0) with
  accessFlags := 1537
  interfaces := #[]
  cf := some (fileOf pool11 2 #[] #[] 1537 4 #[] #[])
  fields := #[]
  methods := #[]
  instanceTypes := #[]
  staticTypes := #[]
  resolved := Array.replicate 8 none
  statics := none }

/-- the primitive byte -/
def k12 : Class := { plain "byte" none with kind := .primitive 'B', accessFlags := 0x411 }
/-- [B -/
def k13 : Class := { plain "[B" (some 0) with kind := .array 12 .byte, interfaces := #[11, 5], accessFlags := 1041 }

/-- the primitive int -/
def k14 : Class := { plain "int" none with kind := .primitive 'I', accessFlags := 0x411 }
/-- [I -/
def k15 : Class := { plain "[I" (some 0) with kind := .array 14 .int, interfaces := #[11, 5], accessFlags := 1041 }

def heap : Heap := #[]
def classes : Array Class := #[k0, k1, k2, k3, k4, k5, k6, k7, k8, k9, k10, k11, k12, k13, k14, k15]
def interned : List (Array UInt16 × Addr) := []
def slotsUsed : Nat := 0
def theMethod : MethodId := ⟨1, 1⟩
def args0 : Array Value := #[.int 5, .int 300, .int 7, .int 9, .int 11, .int 13]
def aboutOver (below : List Frame) : State where
  vm := { classes := classes, interned := interned.toArray }
  heap := heap
  slotsUsed := slotsUsed
  threads := #[{ frames := .invoking theMethod args0 :: below }]
def below0 : List Frame := [.native { method := ⟨0, 0⟩, args := #[] }]
def about1 : State := aboutOver below0
def p0 : Program := .bare "" "" ""
def e0 : Env := launch0.env 0 0 0
theorem w_frames : about1.frames = Frame.invoking theMethod args0 :: below0 := rfl
set_option maxRecDepth 65536 in
theorem w_args : argsFit about1.vm theMethod args0 = true := by decide +kernel
set_option maxRecDepth 65536 in
theorem w_heap : heapFits about1 = true := by decide +kernel
set_option maxRecDepth 65536 in
theorem w_runnable : about1.curStatus? = some .runnable := by decide +kernel
set_option maxRecDepth 65536 in
theorem w_alone : about1.alone = true := by decide +kernel
set_option maxRecDepth 65536 in
theorem w_named : about1.methodNamed? x = some theMethod := by decide +kernel
set_option maxRecDepth 65536 in
theorem w_hears : about1.hears theMethod below0 = true := by decide +kernel
set_option maxRecDepth 65536 in
theorem w_ripe : about1.ripe theMethod args0 below0 = true := by decide +kernel
theorem w_running : about1.status = .running := rfl
set_option maxRecDepth 65536 in
theorem w_room : about1.hasRoom e0.platform room_1 = true :=
  launch0.hasRoom_least _ room_1 (by decide +kernel) (by decide +kernel) (by decide +kernel) (by decide +kernel) (by decide +kernel) (by decide +kernel)
theorem allAtoms_all (ts : List Jvm.Cond) (a : Array Jvm.Value) (st : Jvm.State) : (allAtoms ts).before a st = ts.all (fun c => c.before a st) := by
  induction ts with
  | nil => rfl
  | cons c t ih =>
    show (Jvm.Cond.and c (allAtoms t)).before a st = _
    rw [Jvm.Cond.before_and, ih, List.all_cons]
def words1 : List Jvm.Cond := Jvm.Cond.code x code maxLocals ret :: tables_1
/-- a 'code' word, met by the world's own term for the bytes: nothing is compared byte by byte -/
theorem code_word {y : MethodName} {bytes : ByteArray} {mx : Nat} {rt : Option FieldType} {a : Array Value} {s : State} {m : MethodId} {meth : Method} {c : Code} (h1 : s.methodNamed? y = some m) (h2 : s.vm.method? m = some meth) (h3 : meth.code = some c) (h4 : c.code = bytes)
    (h5 : (c.maxLocals == mx && c.exceptionTable.isEmpty && decide (c.maxStack ≤ mostOperands) && decide (meth.sig.returnType = rt) && !meth.locks && decide (parseMethodDescriptor y.desc = some meth.sig)) = true) : (Jvm.Cond.code y bytes mx rt).before a s = true := by
  simp only [Bool.and_eq_true, beq_iff_eq, Bool.not_eq_true', decide_eq_true_eq] at h5
  obtain ⟨⟨⟨⟨⟨g1, g2⟩, g3⟩, g4⟩, g5⟩, g6⟩ := h5
  simp [Cond.before, Cond.holds, Cond.value, h1, h2, h3, h4, g1, g2, g3, g4, g5, g6]
def isCode : Jvm.Cond → Bool
  | .code _ _ _ _ => true
  | _ => false
theorem all_split {L : List Jvm.Cond} {P : Jvm.Cond → Bool} (h1 : L.all (fun c => isCode c || P c) = true) (h2 : ∀ c ∈ L.filter isCode, P c = true) : L.all P = true := by
  refine List.all_eq_true.mpr fun c hc => ?_
  have h := List.all_eq_true.mp h1 c hc
  rcases Bool.eq_false_or_eq_true (isCode c) with hi | hi
  · exact h2 c (List.mem_filter.mpr ⟨hc, hi⟩)
  · simpa [hi] using h
set_option maxRecDepth 65536 in
theorem w_c0 : (Jvm.Cond.code x code maxLocals ret).before args0 about1 = true := code_word (m := ⟨1, 1⟩) (meth := k1m1) (c := k1c1) (by decide +kernel) rfl rfl rfl (by decide +kernel)
set_option maxRecDepth 65536 in
theorem w_c1 : (Jvm.Cond.code ({ cls := "java/lang/Math", name := "min", desc := "(II)I" } : Jvm.MethodName) jdk_29_method_69_code (2 : Nat) (Option.some Jvm.ClassFile.FieldType.int)).before args0 about1 = true := code_word (m := ⟨2, 2⟩) (meth := k2m2) (c := k2c2) (by decide +kernel) rfl rfl rfl (by decide +kernel)
set_option maxRecDepth 65536 in
theorem w_c2 : (Jvm.Cond.code ({ cls := "java/lang/Math", name := "max", desc := "(II)I" } : Jvm.MethodName) jdk_29_method_65_code (2 : Nat) (Option.some Jvm.ClassFile.FieldType.int)).before args0 about1 = true := code_word (m := ⟨2, 1⟩) (meth := k2m1) (c := k2c1) (by decide +kernel) rfl rfl rfl (by decide +kernel)
set_option maxRecDepth 65536 in
theorem w_c3 : (Jvm.Cond.code ({ cls := "com/example/gridshard/gridshard/core/BoundingBox", name := "<init>", desc := "(DDDD)V" } : Jvm.MethodName) prog_4_method_1_code (9 : Nat) (Option.none : Option Jvm.ClassFile.FieldType)).before args0 about1 = true := code_word (m := ⟨4, 0⟩) (meth := k4m0) (c := k4c0) (by decide +kernel) rfl rfl rfl (by decide +kernel)
set_option maxRecDepth 65536 in
theorem w_c4 : (Jvm.Cond.code ({ cls := "java/lang/Record", name := "<init>", desc := "()V" } : Jvm.MethodName) jdk_30_method_1_code (1 : Nat) (Option.none : Option Jvm.ClassFile.FieldType)).before args0 about1 = true := code_word (m := ⟨3, 0⟩) (meth := k3m0) (c := k3c0) (by decide +kernel) rfl rfl rfl (by decide +kernel)
set_option maxRecDepth 65536 in
theorem w_c5 : (Jvm.Cond.code ({ cls := "java/lang/Object", name := "<init>", desc := "()V" } : Jvm.MethodName) object_method_1_code (1 : Nat) (Option.none : Option Jvm.ClassFile.FieldType)).before args0 about1 = true := code_word (m := ⟨0, 0⟩) (meth := k0m0) (c := k0c0) (by decide +kernel) rfl rfl rfl (by decide +kernel)
set_option maxRecDepth 65536 in
theorem w_c6 : (Jvm.Cond.code ({ cls := "com/example/gridshard/gridshard/core/BoundingBox", name := "requireWithin", desc := "(Ljava/lang/String;DD)V" } : Jvm.MethodName) prog_4_method_6_code (5 : Nat) (Option.none : Option Jvm.ClassFile.FieldType)).before args0 about1 = true := code_word (m := ⟨4, 3⟩) (meth := k4m3) (c := k4c3) (by decide +kernel) rfl rfl rfl (by decide +kernel)
set_option maxRecDepth 65536 in
theorem w_c7 : (Jvm.Cond.code ({ cls := "com/example/gridshard/gridshard/core/BoundingBox", name := "contains", desc := "(DD)Z" } : Jvm.MethodName) prog_4_method_5_code (6 : Nat) (Option.some Jvm.ClassFile.FieldType.boolean)).before args0 about1 = true := code_word (m := ⟨4, 2⟩) (meth := k4m2) (c := k4c2) (by decide +kernel) rfl rfl rfl (by decide +kernel)
set_option maxRecDepth 65536 in
theorem w_c8 : (Jvm.Cond.code ({ cls := "com/example/gridshard/gridshard/core/BoundingBox", name := "crossesAntimeridian", desc := "()Z" } : Jvm.MethodName) prog_4_method_3_code (1 : Nat) (Option.some Jvm.ClassFile.FieldType.boolean)).before args0 about1 = true := code_word (m := ⟨4, 1⟩) (meth := k4m1) (c := k4c1) (by decide +kernel) rfl rfl rfl (by decide +kernel)
def codes1 : List Jvm.Cond := [Jvm.Cond.code x code maxLocals ret, Jvm.Cond.code ({ cls := "java/lang/Math", name := "min", desc := "(II)I" } : Jvm.MethodName) jdk_29_method_69_code (2 : Nat) (Option.some Jvm.ClassFile.FieldType.int), Jvm.Cond.code ({ cls := "java/lang/Math", name := "max", desc := "(II)I" } : Jvm.MethodName) jdk_29_method_65_code (2 : Nat) (Option.some Jvm.ClassFile.FieldType.int), Jvm.Cond.code ({ cls := "com/example/gridshard/gridshard/core/BoundingBox", name := "<init>", desc := "(DDDD)V" } : Jvm.MethodName) prog_4_method_1_code (9 : Nat) (Option.none : Option Jvm.ClassFile.FieldType), Jvm.Cond.code ({ cls := "java/lang/Record", name := "<init>", desc := "()V" } : Jvm.MethodName) jdk_30_method_1_code (1 : Nat) (Option.none : Option Jvm.ClassFile.FieldType), Jvm.Cond.code ({ cls := "java/lang/Object", name := "<init>", desc := "()V" } : Jvm.MethodName) object_method_1_code (1 : Nat) (Option.none : Option Jvm.ClassFile.FieldType), Jvm.Cond.code ({ cls := "com/example/gridshard/gridshard/core/BoundingBox", name := "requireWithin", desc := "(Ljava/lang/String;DD)V" } : Jvm.MethodName) prog_4_method_6_code (5 : Nat) (Option.none : Option Jvm.ClassFile.FieldType), Jvm.Cond.code ({ cls := "com/example/gridshard/gridshard/core/BoundingBox", name := "contains", desc := "(DD)Z" } : Jvm.MethodName) prog_4_method_5_code (6 : Nat) (Option.some Jvm.ClassFile.FieldType.boolean), Jvm.Cond.code ({ cls := "com/example/gridshard/gridshard/core/BoundingBox", name := "crossesAntimeridian", desc := "()Z" } : Jvm.MethodName) prog_4_method_3_code (1 : Nat) (Option.some Jvm.ClassFile.FieldType.boolean)]
set_option maxRecDepth 65536 in
theorem codes_eq : words1.filter isCode = codes1 := rfl
theorem w_codes : ∀ c ∈ words1.filter isCode, c.before args0 about1 = true := by
  rw [codes_eq]
  intro c hc
  simp only [codes1, List.mem_cons, List.not_mem_nil, or_false] at hc
  rcases hc with rfl | rfl | rfl | rfl | rfl | rfl | rfl | rfl | rfl
  · exact w_c0
  · exact w_c1
  · exact w_c2
  · exact w_c3
  · exact w_c4
  · exact w_c5
  · exact w_c6
  · exact w_c7
  · exact w_c8
set_option maxRecDepth 65536 in
theorem w_t1 : (words1.take 24).all (fun c => isCode c || c.before args0 about1) = true := by decide +kernel
set_option maxRecDepth 65536 in
theorem w_t2 : ((words1.drop 24).take 24).all (fun c => isCode c || c.before args0 about1) = true := by decide +kernel
set_option maxRecDepth 65536 in
theorem w_t3 : ((words1.drop 24).drop 24).all (fun c => isCode c || c.before args0 about1) = true := by decide +kernel
theorem w_tables : (allAtoms (Jvm.Cond.code x code maxLocals ret :: tables_1)).before args0 about1 = true := by
  rw [allAtoms_all]
  show words1.all (fun c => c.before args0 about1) = true
  refine all_split ?_ w_codes
  rw [← List.take_append_drop 24 words1, List.all_append, w_t1, ← List.take_append_drop 24 (words1.drop 24), List.all_append, w_t2, w_t3]
  rfl
set_option maxRecDepth 65536 in
theorem w_case : (Jvm.Cond.and given_1 narrow_1).before args0 about1 = true := by decide +kernel
theorem w_applies : (headSpec (Jvm.Cond.code x code maxLocals ret :: tables_1) room_1).applies x e0.platform about1 = true :=
  (Spec.applies_iff w_frames).mpr ⟨w_running, w_runnable, w_alone, w_named, w_hears, w_ripe, w_room, w_tables⟩
theorem atStart : AtStart classFile x code maxLocals ret World_1 tables_1 room_1 Calls_1 rest_1 Pre_1 launch0 p0 e0 about1 theMethod args0 below0 :=
  ⟨lists_1, trivial, launch0.admits_env _ _ _, launch0.least_env, fairChoices_fair.cas, fairChoices_fair.clock, w_frames, w_args, w_heap, w_applies, trivial, trivial, w_case⟩
end start1
theorem witness_1 : WitnessClaimed_1 := ⟨start1.p0, start1.e0, start1.about1, start1.theMethod, start1.args0, start1.below0, start1.atStart⟩
end Jvm.Pilot.@@N@@
