import JvmDerived
import JvmDerived.Pilot.@@N@@Statement
import JvmDerived.Pilot.@@N@@Code
set_option linter.unusedVariables false
set_option linter.unusedSimpArgs false
namespace Jvm.OwnWalk
open Sem ClassFile Op Lib Jvm.Stand Jvm.Free Jvm.LawKit Jvm.RoadKit
/-- the literals of the claim; what is kept of them: they say their texts (CHv), and whatever is booked lies below n0 or in D -/
abbrev EL : List (String × Nat) := Jvm.Pilot.@@N@@.consts_1
def Hd (Z : State) (n0 : Nat) (D : Addr → Prop) (vm : Vm) (h : Heap) : Prop := (∃ a0, EW Z a0 EL) ∧ CHv Z EL vm h ∧ (∀ y, Bk Z EL vm h y → y < n0 ∨ D y) ∧ ∀ y, D y → y < h.size
theorem Hd.nd {Z : State} {n0 : Nat} {D : Addr → Prop} {vm : Vm} {h : Heap} (H : Hd Z n0 D vm h) {a : Addr} (ha : h.size ≤ a) : ¬ D a := fun d => Nat.lt_irrefl _ (Nat.lt_of_lt_of_le (H.2.2.2 a d) ha)
theorem Hd.safe {Z : State} {n0 : Nat} {D : Addr → Prop} {vm : Vm} {h : Heap} (H : Hd Z n0 D vm h) {a : Addr} (ha : n0 ≤ a ∧ ¬ D a) : Safe Z EL vm h a := fun B => (H.2.2.1 a B).elim (fun q => Nat.lt_irrefl _ (Nat.lt_of_lt_of_le q ha.1)) ha.2
theorem Hd.ext {Z : State} {n0 : Nat} {D : Addr → Prop} {vm : Vm} {h h' : Heap} (H : Hd Z n0 D vm h) (E : Ext h h') : Hd Z n0 D vm h' := by
  have q := H.2.1.step (h' := h') fun _ _ _ q => E.2 _ _ q
  exact ⟨H.1, q.1, fun y b => H.2.2.1 y (q.2 y b), fun y d => Nat.lt_of_lt_of_le (H.2.2.2 y d) E.1⟩
theorem Hd.wr {Z : State} {n0 : Nat} {D : Addr → Prop} {vm : Vm} {h h' : Heap} {a : Addr} {sl : Nat} {v : Value} (H : Hd Z n0 D vm h) (W : Wr h h' a sl v) (ha : n0 ≤ a ∧ ¬ D a) : Hd Z n0 D vm h' := by
  have q := H.2.1.wrStep W (H.safe ha)
  exact ⟨H.1, q.1, fun y b => H.2.2.1 y (q.2 y b), fun y d => by rw [W.size]; exact H.2.2.2 y d⟩
theorem Hd.keep {Z : State} {n0 : Nat} {D : Addr → Prop} {vm : Vm} {h h' : Heap} {b : Addr} (H : Hd Z n0 D vm h) (K : Keep h h' [b]) (ha : n0 ≤ b ∧ ¬ D b) : Hd Z n0 D vm h' := by
  have q := H.2.1.keepStep K (fun x hx => by cases List.mem_singleton.mp hx; exact H.safe ha)
  exact ⟨H.1, q.1, fun y b => H.2.2.1 y (q.2 y b), fun y d => Nat.lt_of_lt_of_le (H.2.2.2 y d) K.1⟩
theorem Hd.at {Z : State} {n0 : Nat} {D : Addr → Prop} {vm0 : Vm} {h : Heap} {p : Program} {l : Launch} {e : Env} {R : Room} {s : State} {m : MethodId} {args : Array Value} {below : List Frame} {meth : Method} {c : Code} {T : State} {locs : List Loc} {cells slots : Nat} (H : Hd Z n0 D vm0 h) (X : Stand p l e R (s.setVm vm0) m args below meth c T locs cells slots) (hZ : Z.Warmed39 vm0) : Hd Z n0 D T.vm h := by
  obtain ⟨⟨a0, w⟩, H1, H2, H3⟩ := H
  have q := CHv.at X hZ w H1
  refine ⟨⟨a0, w⟩, q.1, fun y b => ?_, H3⟩
  rcases q.2.2 y b with r | r
  · exact H2 y r
  · obtain ⟨cell, e⟩ := b.there
    exact absurd (Array.getElem?_eq_some_iff.mp e).1 (Nat.not_lt.mpr r)
theorem Hd.start {s : State} {a0 : Array Value} (E : EW s a0 EL) (hh : ∀ p ∈ EL, Jvm.Lit.constHeld s p.1 p.2) (hcw : Jvm.Lit.compactW.before a0 s = true) (wa : (Jvm.Cond.arrayClass .byte).before a0 s = true) (wi : (Jvm.Cond.instantiable "java/lang/String" 4).before a0 s = true) : Hd s s.heap.size (fun _ => False) s.vm s.heap :=
  ⟨⟨a0, E⟩, CHv.start E hh hcw wa wi, fun y b => by obtain ⟨cell, e⟩ := b.there; exact Or.inl (Array.getElem?_eq_some_iff.mp e).1, fun _ d => d.elim⟩
/-- where a run stands: the library's Stand, its written places new, its heap -/
def Sd (Z : State) (D : Addr → Prop) (p : Program) (l : Launch) (e : Env) (R : Room) (s : State) (m : MethodId) (args : Array Value) (below : List Frame) (meth : Method) (c : Code) (n0 : Nat) (T : State) (h : Heap) (cells slots : Nat) : Prop :=
  ∃ (locs : List Loc) (vm0 : Vm) (k0 : Nat), Stand p l e R (s.setVm vm0) m args below meth c T locs cells slots ∧ Fr n0 locs ∧ T.heap = h ∧ n0 ≤ s.heap.size ∧ s.Since vm0 k0 ∧ k0 ≤ h.size ∧ Hd Z n0 D vm0 h
/-- what stays through a walk -/
def Cx (Z : State) (own nm : String) (bytes : ByteArray) (maxL : Nat) (ret : Option FieldType) (p : Program) (s : State) (m : MethodId) (meth : Method) (c : Code) : Prop :=
  p.tables.exec = Jvm.exec ∧ c.code = bytes ∧ Z.Warmed39 s.vm ∧ s.vm.findClass own = some m.cls ∧ meth.name = nm ∧ c.maxLocals = maxL ∧ meth.sig.returnType = ret ∧ meth.locks = false
/-- from A the body returns, and P holds of what it returns and of the heap -/
def Gl (Z : State) (p : Program) (e : Env) (below : List Frame) (s : State) (n0 : Nat) (P : Option Value → Heap → (Addr → Prop) → Prop) (C S : Nat) (A : State) : Prop :=
  ∃ t o, Steps p.tables e below A t ∧ t.status = .running ∧ Ended t below o ∧ ∃ v L D', o = .returned v ∧ (P v t.heap D' ∧ Fr n0 L ∧ Hd Z n0 D' t.vm t.heap) ∧ ReturnedEndW s o t L C S
/-- a method's contract -/
def Con (l : Launch) (Z : State) (y : MethodName) (bytes : ByteArray) (maxL : Nat) (ret : Option FieldType) (ws : List Jvm.Cond) (rm : Room) (C S : Nat) (as' : Array Value) (h0 : Heap) (n0 : Nat) (D : Addr → Prop) (P : Option Value → Heap → (Addr → Prop) → Prop) : Prop :=
  MetFree l y (head1 (Jvm.Cond.code y bytes maxL ret :: ws) rm) (fun a U => a = as' ∧ Z.Warmed39 U.vm ∧ U.heap = h0 ∧ Hd Z n0 D U.vm h0) (fun _ _ _ _ _ => True) (fun _ U o U' => ∃ v L D', o = .returned v ∧ (P v U'.heap D' ∧ Fr n0 L ∧ Hd Z n0 D' U'.vm U'.heap) ∧ ReturnedEndW U o U' L C S)
theorem Con.met {l : Launch} {Z : State} {y : MethodName} {bytes : ByteArray} {maxL : Nat} {ret : Option FieldType} {ws : List Jvm.Cond} {rm : Room} {C S : Nat} {as' : Array Value} {h0 : Heap} {n0 : Nat} {D : Addr → Prop} {P : Option Value → Heap → (Addr → Prop) → Prop} (h : Con l Z y bytes maxL ret ws rm C S as' h0 n0 D P) :
  MetFree l y (head1 (Jvm.Cond.code y bytes maxL ret :: ws) rm) (fun a U => a = as' ∧ Z.Warmed39 U.vm ∧ U.heap = h0 ∧ Hd Z n0 D U.vm h0) (fun _ _ _ _ _ => True) (fun _ U o U' => ∃ v L D', o = .returned v ∧ (P v U'.heap D' ∧ Fr n0 L ∧ Hd Z n0 D' U'.vm U'.heap) ∧ ReturnedEndW U o U' L C S) := h
theorem Con.of {l : Launch} {Z : State} {y : MethodName} {bytes : ByteArray} {maxL : Nat} {ret : Option FieldType} {ws : List Jvm.Cond} {rm : Room} {C S : Nat} {as' : Array Value} {h0 : Heap} {n0 : Nat} {D : Addr → Prop} {P : Option Value → Heap → (Addr → Prop) → Prop} (hpl : plainFor y = true) (hn : n0 ≤ h0.size)
    (hb : ∀ p e s m below meth c T, Cx Z y.cls y.name bytes maxL ret p s m meth c → Sd Z D p l e rm s m as' below meth c n0 T h0 0 0 → Gl Z p e below s n0 P C S (T.setTop (entryFrame m as' maxL))) : Con l Z y bytes maxL ret ws rm C S as' h0 n0 D P := by
  refine MetFree.of_bodySF hpl hisR ?_
  intro p e s m args below meth c s₁ Bd hml0 hP hK
  obtain ⟨rfl, hZ, hh, hHd⟩ := hP
  have hlk : meth.locks = false := Bd.notSynchronized
  exact hb p e s m below meth c s₁ ⟨Bd.exec, Bd.bytes, hZ, findClass_of_methodNamed Bd.named, (name_of_methodNamed Bd.named Bd.method).1, hml0, Bd.returns, hlk⟩ ⟨[], s.vm, 0, Stand.of_body Bd, Fr.nil n0, by rw [← hh, Bd.state]; rfl, by rw [hh]; exact hn, (State.WarmedH.refl s).since 0, Nat.zero_le _, hHd⟩
/-- the contract of a method that returns a value; of one that returns nothing; L: of one that loads literals -/
abbrev ConV (l : Launch) (Z : State) (y : MethodName) (bytes : ByteArray) (maxL : Nat) (ret : Option FieldType) (rm : Room) (as' : Array Value) (h0 : Heap) (n0 : Nat) (D : Addr → Prop) (Q : Value → Heap → Prop) : Prop := Con l Z y bytes maxL ret [] rm rm.cells rm.slots as' h0 n0 D (fun r h D' => D' = D ∧ ∃ v, r = some v ∧ Q v h)
abbrev ConN (l : Launch) (Z : State) (y : MethodName) (bytes : ByteArray) (maxL : Nat) (rm : Room) (as' : Array Value) (h0 : Heap) (n0 : Nat) (D : Addr → Prop) (Q : Heap → Prop) : Prop := Con l Z y bytes maxL none [] rm rm.cells rm.slots as' h0 n0 D (fun r h D' => D' = D ∧ r = none ∧ Q h)
abbrev ConVL (l : Launch) (Z : State) (y : MethodName) (bytes : ByteArray) (maxL : Nat) (ret : Option FieldType) (rm : Room) (as' : Array Value) (h0 : Heap) (n0 : Nat) (D : Addr → Prop) (Q : Value → Heap → (Addr → Prop) → Prop) : Prop := Con l Z y bytes maxL ret [] rm rm.cells rm.slots as' h0 n0 D (fun r h D' => ∃ v, r = some v ∧ Q v h D')
abbrev ConNL (l : Launch) (Z : State) (y : MethodName) (bytes : ByteArray) (maxL : Nat) (rm : Room) (as' : Array Value) (h0 : Heap) (n0 : Nat) (D : Addr → Prop) (Q : Heap → (Addr → Prop) → Prop) : Prop := Con l Z y bytes maxL none [] rm rm.cells rm.slots as' h0 n0 D (fun r h D' => r = none ∧ Q h D')
section Walk
variable {p : Program} {l : Launch} {e : Env} {R : Room} {s : State} {m : MethodId} {args : Array Value} {below : List Frame} {meth : Method} {c : Code} {T A B : State} {h : Heap} {cells slots n0 C S : Nat} {P : Option Value → Heap → (Addr → Prop) → Prop}
variable {Z : State} {a0 : Array Value} {own nm : String} {bytes : ByteArray} {maxL : Nat} {ret : Option FieldType}
variable {pc n : Nat} {ls : Array Slot} {st : List Value} {D : Addr → Prop}
theorem Con.mono {y : MethodName} {yb : ByteArray} {yl : Nat} {yr : Option FieldType} {ws : List Jvm.Cond} {rm : Room} {C S : Nat} {as' : Array Value} {P P' : Option Value → Heap → (Addr → Prop) → Prop} (M : Con l Z y yb yl yr ws rm C S as' h n0 D P) (i : ∀ v h D', P v h D' → P' v h D') : Con l Z y yb yl yr ws rm C S as' h n0 D P' := by
  unfold Con at M ⊢
  intro p e h1 h2 h3 s m args below h4 h5 h6 h7
  obtain ⟨t, o, k1, k2, k3, v, L, D', k4, ⟨k5, k6⟩, k7⟩ := M p e h1 h2 h3 s m args below h4 h5 h6 h7
  exact ⟨t, o, k1, k2, k3, v, L, D', k4, ⟨i _ _ _ k5, k6⟩, k7⟩
theorem Sd.mono {c' s' : Nat} (X : Sd Z D p l e R s m args below meth c n0 T h cells slots) (h1 : cells ≤ c') (h2 : slots ≤ s') : Sd Z D p l e R s m args below meth c n0 T h c' s' := by
  obtain ⟨locs, vm0, k0, X, r⟩ := X
  exact ⟨locs, vm0, k0, X.mono h1 h2, r⟩
theorem backOfSD {Q : Option Value → Heap → (Addr → Prop) → Prop} {vm0 : Vm} {y : MethodName} {yb : ByteArray} {yl : Nat} {yr : Option FieldType} {rm : Room} {len W : Nat} {as' : Array Value} (hM : Con l Z y yb yl yr [] rm rm.cells rm.slots as' h n0 D Q) (hZ : Z.Warmed39 vm0) (wc : (Jvm.Cond.code y yb yl yr).before a0 Z = true) (wz : (Jvm.Cond.initialized y.cls).before a0 Z = true) (hf : rm.frames + 1 ≤ R.frames) (hl : W + (yl + 11) + rm.locals ≤ R.locals) (H : Hd Z n0 D vm0 h) :
    BackS l R p e below (s.setVm vm0) args y len W (fun A a => a = as' ∧ A.U.heap = h ∧ A.cells + rm.cells ≤ R.cells ∧ A.slots + rm.slots ≤ R.slots)
      (fun A _ v B => ∃ L D', (Q v B.U.heap D' ∧ Fr n0 L ∧ Hd Z n0 D' B.U.vm B.U.heap) ∧ B.locs = A.locs ++ L ∧ B.cells = A.cells + rm.cells ∧ B.slots = A.slots + rm.slots) :=
  BackS.of_freeW (bytes := yb) (maxL := yl) (ret := yr) (E := fun _ first o t L k n => k = rm.cells ∧ n = rm.slots ∧ ∃ v D', o = .returned v ∧ Q v t.heap D' ∧ Fr n0 L ∧ Hd Z n0 D' t.vm t.heap) (Con.met hM) hf hl
    (fun m meth c A a Y hp => have hU : Z.Warmed39 A.U.vm := wtrans (s := s.setVm vm0) hZ Y.warmed
      ⟨by show (Jvm.Cond.and _ .tt).before a A.U = true; rw [Cond.before_and, mv hU wc]; rfl, mv hU wc, mv hU wz, hp.2.2.1, hp.2.2.2⟩)
    (fun m meth c A a g mk Y hp => ⟨hp.1, wtrans (s := s.setVm vm0) hZ Y.warmed, hp.2.1, (show Hd Z n0 D A.U.vm h from H.at Y hZ)⟩) (fun _ _ _ _ _ _ _ _ _ => trivial)
    (fun _ _ _ _ ⟨v, L, D', h1, h2, h4⟩ => ⟨L, _, _, h4, rfl, rfl, v, D', h1, h2⟩)
    (fun m meth c A a g mk v t L k n Y hp _ _ ⟨e1, e2, v', D', e3, e4⟩ => by
      cases e3; subst e1 e2
      exact ⟨L, D', e4, rfl, rfl, rfl⟩)
theorem Gl.of (hst : ∀ t, Steps p.tables e below B t → Steps p.tables e below A t) (k : Gl Z p e below s n0 P C S B) : Gl Z p e below s n0 P C S A := by
  obtain ⟨t, o, h1, r⟩ := k; exact ⟨t, o, hst t h1, r⟩
theorem Sd.le (X : Sd Z D p l e R s m args below meth c n0 T h cells slots) : n0 ≤ h.size := by
  obtain ⟨_, _, _, X, -, eh, hn, -⟩ := X
  have q : s.heap.size ≤ T.heap.size := X.same.2.1
  rw [← eh]; omega
theorem Gl.enter {as' : Array Value} (ef : entryFrame m as' maxL = mkF m 0 ls []) (k : Gl Z p e below s n0 P C S (T.setTop (mkF m 0 ls []))) : Gl Z p e below s n0 P C S (T.setTop (entryFrame m as' maxL)) := by rw [ef]; exact k
theorem gIload (X : Sd Z D p l e R s m args below meth c n0 T h cells slots) (w : Cx Z own nm bytes maxL ret p s m meth c) {k : Nat} {v : Int32} (hd : decode bytes pc = .ok (.iload k, 2)) (hl : ls[k]? = some (.val (.int v))) (hn : pc + 2 = n) (K : Gl Z p e below s n0 P C S (T.setTop (mkF m n ls (.int v :: st)))) : Gl Z p e below s n0 P C S (T.setTop (mkF m pc ls st)) := by
  obtain ⟨_, vm0, k0, X, -, -, -, hS, -⟩ := X; obtain ⟨hx, hby, hZ, hown, -⟩ := w; have hZ := State.Warmed39.trans hZ hS.1; have hown := (hS.1.alike.findClass _ _).trans hown; subst hn
  exact Gl.of (fun t k => XS.iload X.here hx rfl (hb hby hd) hl k) K
theorem gIloadN (X : Sd Z D p l e R s m args below meth c n0 T h cells slots) (w : Cx Z own nm bytes maxL ret p s m meth c) {k : Fin 4} {v : Int32} (hd : decode bytes pc = .ok (.iload_n k, 1)) (hl : ls[k.val]? = some (.val (.int v))) (hn : pc + 1 = n) (K : Gl Z p e below s n0 P C S (T.setTop (mkF m n ls (.int v :: st)))) : Gl Z p e below s n0 P C S (T.setTop (mkF m pc ls st)) := by
  obtain ⟨_, vm0, k0, X, -, -, -, hS, -⟩ := X; obtain ⟨hx, hby, hZ, hown, -⟩ := w; have hZ := State.Warmed39.trans hZ hS.1; have hown := (hS.1.alike.findClass _ _).trans hown; subst hn
  exact Gl.of (fun t k => XS.iloadN X.here hx rfl (hb hby hd) hl k) K
theorem gJload (X : Sd Z D p l e R s m args below meth c n0 T h cells slots) (w : Cx Z own nm bytes maxL ret p s m meth c) {k : Nat} {v : Int64} (hd : decode bytes pc = .ok (.lload k, 2)) (hl : ls[k]? = some (.val (.long v))) (hn : pc + 2 = n) (K : Gl Z p e below s n0 P C S (T.setTop (mkF m n ls (.long v :: st)))) : Gl Z p e below s n0 P C S (T.setTop (mkF m pc ls st)) := by
  obtain ⟨_, vm0, k0, X, -, -, -, hS, -⟩ := X; obtain ⟨hx, hby, hZ, hown, -⟩ := w; have hZ := State.Warmed39.trans hZ hS.1; have hown := (hS.1.alike.findClass _ _).trans hown; subst hn
  exact Gl.of (fun t k => XT.lload X.here hx rfl (hb hby hd) hl k) K
theorem gJloadN (X : Sd Z D p l e R s m args below meth c n0 T h cells slots) (w : Cx Z own nm bytes maxL ret p s m meth c) {k : Fin 4} {v : Int64} (hd : decode bytes pc = .ok (.lload_n k, 1)) (hl : ls[k.val]? = some (.val (.long v))) (hn : pc + 1 = n) (K : Gl Z p e below s n0 P C S (T.setTop (mkF m n ls (.long v :: st)))) : Gl Z p e below s n0 P C S (T.setTop (mkF m pc ls st)) := by
  obtain ⟨_, vm0, k0, X, -, -, -, hS, -⟩ := X; obtain ⟨hx, hby, hZ, hown, -⟩ := w; have hZ := State.Warmed39.trans hZ hS.1; have hown := (hS.1.alike.findClass _ _).trans hown; subst hn
  exact Gl.of (fun t k => XT.lloadN X.here hx rfl (hb hby hd) hl k) K
theorem gAload (X : Sd Z D p l e R s m args below meth c n0 T h cells slots) (w : Cx Z own nm bytes maxL ret p s m meth c) {k : Nat} {v : Value} (hd : decode bytes pc = .ok (.aload k, 2)) (hl : ls[k]? = some (.val v)) (hv : v.isRef = true) (hn : pc + 2 = n) (K : Gl Z p e below s n0 P C S (T.setTop (mkF m n ls (v :: st)))) : Gl Z p e below s n0 P C S (T.setTop (mkF m pc ls st)) := by
  obtain ⟨_, vm0, k0, X, -, -, -, hS, -⟩ := X; obtain ⟨hx, hby, hZ, hown, -⟩ := w; have hZ := State.Warmed39.trans hZ hS.1; have hown := (hS.1.alike.findClass _ _).trans hown; subst hn
  exact Gl.of (fun t k => XS.aload X.here hx rfl (hb hby hd) hl hv k) K
theorem gAloadN (X : Sd Z D p l e R s m args below meth c n0 T h cells slots) (w : Cx Z own nm bytes maxL ret p s m meth c) {k : Fin 4} {v : Value} (hd : decode bytes pc = .ok (.aload_n k, 1)) (hl : ls[k.val]? = some (.val v)) (hv : v.isRef = true) (hn : pc + 1 = n) (K : Gl Z p e below s n0 P C S (T.setTop (mkF m n ls (v :: st)))) : Gl Z p e below s n0 P C S (T.setTop (mkF m pc ls st)) := by
  obtain ⟨_, vm0, k0, X, -, -, -, hS, -⟩ := X; obtain ⟨hx, hby, hZ, hown, -⟩ := w; have hZ := State.Warmed39.trans hZ hS.1; have hown := (hS.1.alike.findClass _ _).trans hown; subst hn
  exact Gl.of (fun t k => XS.aloadN X.here hx rfl (hb hby hd) hl hv k) K
theorem gDload (X : Sd Z D p l e R s m args below meth c n0 T h cells slots) (w : Cx Z own nm bytes maxL ret p s m meth c) {k : Nat} {v : UInt64} (hd : decode bytes pc = .ok (.dload k, 2)) (hl : ls[k]? = some (.val (.double v))) (hn : pc + 2 = n) (K : Gl Z p e below s n0 P C S (T.setTop (mkF m n ls (.double v :: st)))) : Gl Z p e below s n0 P C S (T.setTop (mkF m pc ls st)) := by
  obtain ⟨_, vm0, k0, X, -, -, -, hS, -⟩ := X; obtain ⟨hx, hby, hZ, hown, -⟩ := w; have hZ := State.Warmed39.trans hZ hS.1; have hown := (hS.1.alike.findClass _ _).trans hown; subst hn
  exact Gl.of (fun t k => XS.dload X.here hx rfl (hb hby hd) hl k) K
theorem gDloadN (X : Sd Z D p l e R s m args below meth c n0 T h cells slots) (w : Cx Z own nm bytes maxL ret p s m meth c) {k : Fin 4} {v : UInt64} (hd : decode bytes pc = .ok (.dload_n k, 1)) (hl : ls[k.val]? = some (.val (.double v))) (hn : pc + 1 = n) (K : Gl Z p e below s n0 P C S (T.setTop (mkF m n ls (.double v :: st)))) : Gl Z p e below s n0 P C S (T.setTop (mkF m pc ls st)) := by
  obtain ⟨_, vm0, k0, X, -, -, -, hS, -⟩ := X; obtain ⟨hx, hby, hZ, hown, -⟩ := w; have hZ := State.Warmed39.trans hZ hS.1; have hown := (hS.1.alike.findClass _ _).trans hown; subst hn
  exact Gl.of (fun t k => XS.dloadN X.here hx rfl (hb hby hd) hl k) K
theorem gDstore (X : Sd Z D p l e R s m args below meth c n0 T h cells slots) (w : Cx Z own nm bytes maxL ret p s m meth c) {k : Nat} {x : UInt64} (hd : decode bytes pc = .ok (.dstore k, 2)) (l' : Array Slot) (hl : storeLocals ls k (.double x) = some l') (hn : pc + 2 = n) (K : Gl Z p e below s n0 P C S (T.setTop (mkF m n l' st))) : Gl Z p e below s n0 P C S (T.setTop (mkF m pc ls (.double x :: st))) := by
  obtain ⟨_, vm0, k0, X, -, -, -, hS, -⟩ := X; obtain ⟨hx, hby, hZ, hown, -⟩ := w; have hZ := State.Warmed39.trans hZ hS.1; have hown := (hS.1.alike.findClass _ _).trans hown; subst hn
  exact Gl.of (fun t k => XS.dstore X.here hx rfl (hb hby hd) rfl hl k) K
theorem gDstoreN (X : Sd Z D p l e R s m args below meth c n0 T h cells slots) (w : Cx Z own nm bytes maxL ret p s m meth c) {k : Fin 4} {x : UInt64} (hd : decode bytes pc = .ok (.dstore_n k, 1)) (l' : Array Slot) (hl : storeLocals ls k.val (.double x) = some l') (hn : pc + 1 = n) (K : Gl Z p e below s n0 P C S (T.setTop (mkF m n l' st))) : Gl Z p e below s n0 P C S (T.setTop (mkF m pc ls (.double x :: st))) := by
  obtain ⟨_, vm0, k0, X, -, -, -, hS, -⟩ := X; obtain ⟨hx, hby, hZ, hown, -⟩ := w; have hZ := State.Warmed39.trans hZ hS.1; have hown := (hS.1.alike.findClass _ _).trans hown; subst hn
  exact Gl.of (fun t k => XS.dstoreN X.here hx rfl (hb hby hd) rfl hl k) K
theorem gI2d (X : Sd Z D p l e R s m args below meth c n0 T h cells slots) (w : Cx Z own nm bytes maxL ret p s m meth c) {x : Int32} {z : UInt64} (hd : decode bytes pc = .ok (.i2d, 1)) (hz : FP.i2d x = z) (hn : pc + 1 = n) (K : Gl Z p e below s n0 P C S (T.setTop (mkF m n ls (.double z :: st)))) : Gl Z p e below s n0 P C S (T.setTop (mkF m pc ls (.int x :: st))) := by
  obtain ⟨_, vm0, k0, X, -, -, -, hS, -⟩ := X; obtain ⟨hx, hby, hZ, hown, -⟩ := w; have hZ := State.Warmed39.trans hZ hS.1; have hown := (hS.1.alike.findClass _ _).trans hown; subst hn
  exact Gl.of (fun t k => XS.i2dS X.here hx rfl (hb hby hd) rfl hz k) K
theorem gL2d (X : Sd Z D p l e R s m args below meth c n0 T h cells slots) (w : Cx Z own nm bytes maxL ret p s m meth c) {x : Int64} {z : UInt64} (hd : decode bytes pc = .ok (.l2d, 1)) (hz : FP.l2d x = z) (hn : pc + 1 = n) (K : Gl Z p e below s n0 P C S (T.setTop (mkF m n ls (.double z :: st)))) : Gl Z p e below s n0 P C S (T.setTop (mkF m pc ls (.long x :: st))) := by
  obtain ⟨_, vm0, k0, X, -, -, -, hS, -⟩ := X; obtain ⟨hx, hby, hZ, hown, -⟩ := w; have hZ := State.Warmed39.trans hZ hS.1; have hown := (hS.1.alike.findClass _ _).trans hown; subst hn
  exact Gl.of (fun t k => XS.l2dS X.here hx rfl (hb hby hd) rfl hz k) K
theorem gDneg (X : Sd Z D p l e R s m args below meth c n0 T h cells slots) (w : Cx Z own nm bytes maxL ret p s m meth c) {x z : UInt64} (hd : decode bytes pc = .ok (.dneg, 1)) (hz : FP.dneg x = z) (hn : pc + 1 = n) (K : Gl Z p e below s n0 P C S (T.setTop (mkF m n ls (.double z :: st)))) : Gl Z p e below s n0 P C S (T.setTop (mkF m pc ls (.double x :: st))) := by
  obtain ⟨_, vm0, k0, X, -, -, -, hS, -⟩ := X; obtain ⟨hx, hby, hZ, hown, -⟩ := w; have hZ := State.Warmed39.trans hZ hS.1; have hown := (hS.1.alike.findClass _ _).trans hown; subst hn
  exact Gl.of (fun t k => XS.dnegS X.here hx rfl (hb hby hd) rfl hz k) K
theorem gDcmp (X : Sd Z D p l e R s m args below meth c n0 T h cells slots) (w : Cx Z own nm bytes maxL ret p s m meth c) {x y : UInt64} {o : CmpOp} {z : Int32} (hd : decode bytes pc = .ok (.dcmp o, 1)) (hz : cmpValue (FP.dcmp x y) o = z) (hn : pc + 1 = n) (K : Gl Z p e below s n0 P C S (T.setTop (mkF m n ls (.int z :: st)))) : Gl Z p e below s n0 P C S (T.setTop (mkF m pc ls (.double y :: .double x :: st))) := by
  obtain ⟨_, vm0, k0, X, -, -, -, hS, -⟩ := X; obtain ⟨hx, hby, hZ, hown, -⟩ := w; have hZ := State.Warmed39.trans hZ hS.1; have hown := (hS.1.alike.findClass _ _).trans hown; subst hn
  exact Gl.of (fun t k => XS.dcmpS X.here hx rfl (hb hby hd) rfl hz k) K
theorem gDadd (X : Sd Z D p l e R s m args below meth c n0 T h cells slots) (w : Cx Z own nm bytes maxL ret p s m meth c) {x y z : UInt64} (hd : decode bytes pc = .ok (.dadd, 1)) (hnn : Jvm.Free.Fl.NoNaN64 (FP.dadd x y)) (hz : FP.dadd x y = z) (hn : pc + 1 = n) (K : Gl Z p e below s n0 P C S (T.setTop (mkF m n ls (.double z :: st)))) : Gl Z p e below s n0 P C S (T.setTop (mkF m pc ls (.double y :: .double x :: st))) := by
  obtain ⟨_, vm0, k0, X, -, -, -, hS, -⟩ := X; obtain ⟨hx, hby, hZ, hown, -⟩ := w; have hZ := State.Warmed39.trans hZ hS.1; have hown := (hS.1.alike.findClass _ _).trans hown; subst hn
  exact Gl.of (fun t k => XS.daddS X.here hx rfl (hb hby hd) rfl hnn hz k) K
theorem gDsub (X : Sd Z D p l e R s m args below meth c n0 T h cells slots) (w : Cx Z own nm bytes maxL ret p s m meth c) {x y z : UInt64} (hd : decode bytes pc = .ok (.dsub, 1)) (hnn : Jvm.Free.Fl.NoNaN64 (FP.dsub x y)) (hz : FP.dsub x y = z) (hn : pc + 1 = n) (K : Gl Z p e below s n0 P C S (T.setTop (mkF m n ls (.double z :: st)))) : Gl Z p e below s n0 P C S (T.setTop (mkF m pc ls (.double y :: .double x :: st))) := by
  obtain ⟨_, vm0, k0, X, -, -, -, hS, -⟩ := X; obtain ⟨hx, hby, hZ, hown, -⟩ := w; have hZ := State.Warmed39.trans hZ hS.1; have hown := (hS.1.alike.findClass _ _).trans hown; subst hn
  exact Gl.of (fun t k => XS.dsubS X.here hx rfl (hb hby hd) rfl hnn hz k) K
theorem gDmul (X : Sd Z D p l e R s m args below meth c n0 T h cells slots) (w : Cx Z own nm bytes maxL ret p s m meth c) {x y z : UInt64} (hd : decode bytes pc = .ok (.dmul, 1)) (hnn : Jvm.Free.Fl.NoNaN64 (FP.dmul x y)) (hz : FP.dmul x y = z) (hn : pc + 1 = n) (K : Gl Z p e below s n0 P C S (T.setTop (mkF m n ls (.double z :: st)))) : Gl Z p e below s n0 P C S (T.setTop (mkF m pc ls (.double y :: .double x :: st))) := by
  obtain ⟨_, vm0, k0, X, -, -, -, hS, -⟩ := X; obtain ⟨hx, hby, hZ, hown, -⟩ := w; have hZ := State.Warmed39.trans hZ hS.1; have hown := (hS.1.alike.findClass _ _).trans hown; subst hn
  exact Gl.of (fun t k => XS.dmulS X.here hx rfl (hb hby hd) rfl hnn hz k) K
theorem gDdiv (X : Sd Z D p l e R s m args below meth c n0 T h cells slots) (w : Cx Z own nm bytes maxL ret p s m meth c) {x y z : UInt64} (hd : decode bytes pc = .ok (.ddiv, 1)) (hnn : Jvm.Free.Fl.NoNaN64 (FP.ddiv x y)) (hz : FP.ddiv x y = z) (hn : pc + 1 = n) (K : Gl Z p e below s n0 P C S (T.setTop (mkF m n ls (.double z :: st)))) : Gl Z p e below s n0 P C S (T.setTop (mkF m pc ls (.double y :: .double x :: st))) := by
  obtain ⟨_, vm0, k0, X, -, -, -, hS, -⟩ := X; obtain ⟨hx, hby, hZ, hown, -⟩ := w; have hZ := State.Warmed39.trans hZ hS.1; have hown := (hS.1.alike.findClass _ _).trans hown; subst hn
  exact Gl.of (fun t k => XS.ddivS X.here hx rfl (hb hby hd) rfl hnn hz k) K
theorem gDconst0 (X : Sd Z D p l e R s m args below meth c n0 T h cells slots) (w : Cx Z own nm bytes maxL ret p s m meth c) {z : UInt64} (hd : decode bytes pc = .ok (.dconst 0, 1)) (hz : FP.dconst0 = z) (hn : pc + 1 = n) (K : Gl Z p e below s n0 P C S (T.setTop (mkF m n ls (.double z :: st)))) : Gl Z p e below s n0 P C S (T.setTop (mkF m pc ls st)) := by
  obtain ⟨_, vm0, k0, X, -, -, -, hS, -⟩ := X; obtain ⟨hx, hby, hZ, hown, -⟩ := w; have hZ := State.Warmed39.trans hZ hS.1; have hown := (hS.1.alike.findClass _ _).trans hown; subst hn
  exact Gl.of (fun t k => XS.dconst0 X.here hx rfl (hb hby hd) hz k) K
theorem gDconst1 (X : Sd Z D p l e R s m args below meth c n0 T h cells slots) (w : Cx Z own nm bytes maxL ret p s m meth c) {z : UInt64} (hd : decode bytes pc = .ok (.dconst 1, 1)) (hz : FP.dconst1 = z) (hn : pc + 1 = n) (K : Gl Z p e below s n0 P C S (T.setTop (mkF m n ls (.double z :: st)))) : Gl Z p e below s n0 P C S (T.setTop (mkF m pc ls st)) := by
  obtain ⟨_, vm0, k0, X, -, -, -, hS, -⟩ := X; obtain ⟨hx, hby, hZ, hown, -⟩ := w; have hZ := State.Warmed39.trans hZ hS.1; have hown := (hS.1.alike.findClass _ _).trans hown; subst hn
  exact Gl.of (fun t k => XS.dconst1 X.here hx rfl (hb hby hd) hz k) K
theorem gLdc2D (X : Sd Z D p l e R s m args below meth c n0 T h cells slots) (w : Cx Z own nm bytes maxL ret p s m meth c) {i : Nat} {z : UInt64} (wc : (Jvm.Cond.constantDouble own i z).before a0 Z = true) (hd : decode bytes pc = .ok (.ldc2_w i, 3)) (hn : pc + 3 = n) (K : Gl Z p e below s n0 P C S (T.setTop (mkF m n ls (.double z :: st)))) : Gl Z p e below s n0 P C S (T.setTop (mkF m pc ls st)) := by
  obtain ⟨_, vm0, k0, X, -, -, -, hS, -⟩ := X; obtain ⟨hx, hby, hZ, hown, -⟩ := w; have hZ := State.Warmed39.trans hZ hS.1; have hown := (hS.1.alike.findClass _ _).trans hown; subst hn
  exact Gl.of (fun t k => X.ldc2DoubleC hx hown (mvT hZ wc (by simp [Cond.onTables, Cond.keepsFace, Cond.keeps, Cond.steady])) (g := mkF m pc ls st) rfl (hb hby hd) t k) K
theorem gIconst (X : Sd Z D p l e R s m args below meth c n0 T h cells slots) (w : Cx Z own nm bytes maxL ret p s m meth c) {i : Int} {z : Int32} (hd : decode bytes pc = .ok (.iconst i, 1)) (hz : Int32.ofInt i = z) (hn : pc + 1 = n) (K : Gl Z p e below s n0 P C S (T.setTop (mkF m n ls (.int z :: st)))) : Gl Z p e below s n0 P C S (T.setTop (mkF m pc ls st)) := by
  obtain ⟨_, vm0, k0, X, -, -, -, hS, -⟩ := X; obtain ⟨hx, hby, hZ, hown, -⟩ := w; have hZ := State.Warmed39.trans hZ hS.1; have hown := (hS.1.alike.findClass _ _).trans hown; subst hn hz
  exact Gl.of (fun t k => XS.iconst X.here hx rfl (hb hby hd) k) K
theorem gBipush (X : Sd Z D p l e R s m args below meth c n0 T h cells slots) (w : Cx Z own nm bytes maxL ret p s m meth c) {i : Int} {z : Int32} (hd : decode bytes pc = .ok (.bipush i, 2)) (hz : (Int8.ofInt i).toInt32 = z) (hn : pc + 2 = n) (K : Gl Z p e below s n0 P C S (T.setTop (mkF m n ls (.int z :: st)))) : Gl Z p e below s n0 P C S (T.setTop (mkF m pc ls st)) := by
  obtain ⟨_, vm0, k0, X, -, -, -, hS, -⟩ := X; obtain ⟨hx, hby, hZ, hown, -⟩ := w; have hZ := State.Warmed39.trans hZ hS.1; have hown := (hS.1.alike.findClass _ _).trans hown; subst hn hz
  exact Gl.of (fun t k => XS.bipush X.here hx rfl (hb hby hd) k) K
theorem gSipush (X : Sd Z D p l e R s m args below meth c n0 T h cells slots) (w : Cx Z own nm bytes maxL ret p s m meth c) {i : Int} {z : Int32} (hd : decode bytes pc = .ok (.sipush i, 3)) (hz : (Int16.ofInt i).toInt32 = z) (hn : pc + 3 = n) (K : Gl Z p e below s n0 P C S (T.setTop (mkF m n ls (.int z :: st)))) : Gl Z p e below s n0 P C S (T.setTop (mkF m pc ls st)) := by
  obtain ⟨_, vm0, k0, X, -, -, -, hS, -⟩ := X; obtain ⟨hx, hby, hZ, hown, -⟩ := w; have hZ := State.Warmed39.trans hZ hS.1; have hown := (hS.1.alike.findClass _ _).trans hown; subst hn hz
  exact Gl.of (fun t k => XS.sipush X.here hx rfl (hb hby hd) k) K
theorem gLconst (X : Sd Z D p l e R s m args below meth c n0 T h cells slots) (w : Cx Z own nm bytes maxL ret p s m meth c) {i : Fin 2} {z : Int64} (hd : decode bytes pc = .ok (.lconst i, 1)) (hz : Int64.ofNat i = z) (hn : pc + 1 = n) (K : Gl Z p e below s n0 P C S (T.setTop (mkF m n ls (.long z :: st)))) : Gl Z p e below s n0 P C S (T.setTop (mkF m pc ls st)) := by
  obtain ⟨_, vm0, k0, X, -, -, -, hS, -⟩ := X; obtain ⟨hx, hby, hZ, hown, -⟩ := w; have hZ := State.Warmed39.trans hZ hS.1; have hown := (hS.1.alike.findClass _ _).trans hown; subst hn hz
  exact Gl.of (fun t k => XT.lconst X.here hx rfl (hb hby hd) k) K
theorem gNull (X : Sd Z D p l e R s m args below meth c n0 T h cells slots) (w : Cx Z own nm bytes maxL ret p s m meth c)  (hd : decode bytes pc = .ok (.aconst_null, 1)) (hn : pc + 1 = n) (K : Gl Z p e below s n0 P C S (T.setTop (mkF m n ls (.null :: st)))) : Gl Z p e below s n0 P C S (T.setTop (mkF m pc ls st)) := by
  obtain ⟨_, vm0, k0, X, -, -, -, hS, -⟩ := X; obtain ⟨hx, hby, hZ, hown, -⟩ := w; have hZ := State.Warmed39.trans hZ hS.1; have hown := (hS.1.alike.findClass _ _).trans hown; subst hn
  exact Gl.of (fun t k => XS.aconstNull X.here hx rfl (hb hby hd) k) K
theorem gLdc (X : Sd Z D p l e R s m args below meth c n0 T h cells slots) (w : Cx Z own nm bytes maxL ret p s m meth c) {i : Nat} {z : Int32} (wc : (Jvm.Cond.constant own i z).before a0 Z = true) (hd : decode bytes pc = .ok (.ldc i, 2)) (hn : pc + 2 = n) (K : Gl Z p e below s n0 P C S (T.setTop (mkF m n ls (.int z :: st)))) : Gl Z p e below s n0 P C S (T.setTop (mkF m pc ls st)) := by
  obtain ⟨_, vm0, k0, X, -, -, -, hS, -⟩ := X; obtain ⟨hx, hby, hZ, hown, -⟩ := w; have hZ := State.Warmed39.trans hZ hS.1; have hown := (hS.1.alike.findClass _ _).trans hown; subst hn
  exact Gl.of (fun t k => X.ldcI hx hown (mvT hZ wc) rfl (hb hby hd) k) K
theorem gLdc2 (X : Sd Z D p l e R s m args below meth c n0 T h cells slots) (w : Cx Z own nm bytes maxL ret p s m meth c) {i : Nat} {z : Int64} (wc : (Jvm.Cond.constantLong own i z).before a0 Z = true) (hd : decode bytes pc = .ok (.ldc2_w i, 3)) (hn : pc + 3 = n) (K : Gl Z p e below s n0 P C S (T.setTop (mkF m n ls (.long z :: st)))) : Gl Z p e below s n0 P C S (T.setTop (mkF m pc ls st)) := by
  obtain ⟨_, vm0, k0, X, -, -, -, hS, -⟩ := X; obtain ⟨hx, hby, hZ, hown, -⟩ := w; have hZ := State.Warmed39.trans hZ hS.1; have hown := (hS.1.alike.findClass _ _).trans hown; subst hn
  exact Gl.of (fun t k => X.ldc2J hx hown (mvT hZ wc) rfl (hb hby hd) k) K
theorem gIadd (X : Sd Z D p l e R s m args below meth c n0 T h cells slots) (w : Cx Z own nm bytes maxL ret p s m meth c) {x y z : Int32} (hd : decode bytes pc = .ok (.iadd, 1)) (hz : x + y = z) (hn : pc + 1 = n) (K : Gl Z p e below s n0 P C S (T.setTop (mkF m n ls (.int z :: st)))) : Gl Z p e below s n0 P C S (T.setTop (mkF m pc ls (.int y :: .int x :: st))) := by
  obtain ⟨_, vm0, k0, X, -, -, -, hS, -⟩ := X; obtain ⟨hx, hby, hZ, hown, -⟩ := w; have hZ := State.Warmed39.trans hZ hS.1; have hown := (hS.1.alike.findClass _ _).trans hown; subst hn hz
  exact Gl.of (fun t k => XS.iadd X.here hx rfl (hb hby hd) rfl k) K
theorem gIsub (X : Sd Z D p l e R s m args below meth c n0 T h cells slots) (w : Cx Z own nm bytes maxL ret p s m meth c) {x y z : Int32} (hd : decode bytes pc = .ok (.isub, 1)) (hz : x - y = z) (hn : pc + 1 = n) (K : Gl Z p e below s n0 P C S (T.setTop (mkF m n ls (.int z :: st)))) : Gl Z p e below s n0 P C S (T.setTop (mkF m pc ls (.int y :: .int x :: st))) := by
  obtain ⟨_, vm0, k0, X, -, -, -, hS, -⟩ := X; obtain ⟨hx, hby, hZ, hown, -⟩ := w; have hZ := State.Warmed39.trans hZ hS.1; have hown := (hS.1.alike.findClass _ _).trans hown; subst hn hz
  exact Gl.of (fun t k => XS.isub X.here hx rfl (hb hby hd) rfl k) K
theorem gImul (X : Sd Z D p l e R s m args below meth c n0 T h cells slots) (w : Cx Z own nm bytes maxL ret p s m meth c) {x y z : Int32} (hd : decode bytes pc = .ok (.imul, 1)) (hz : x * y = z) (hn : pc + 1 = n) (K : Gl Z p e below s n0 P C S (T.setTop (mkF m n ls (.int z :: st)))) : Gl Z p e below s n0 P C S (T.setTop (mkF m pc ls (.int y :: .int x :: st))) := by
  obtain ⟨_, vm0, k0, X, -, -, -, hS, -⟩ := X; obtain ⟨hx, hby, hZ, hown, -⟩ := w; have hZ := State.Warmed39.trans hZ hS.1; have hown := (hS.1.alike.findClass _ _).trans hown; subst hn hz
  exact Gl.of (fun t k => XS.imul X.here hx rfl (hb hby hd) rfl k) K
theorem gIand (X : Sd Z D p l e R s m args below meth c n0 T h cells slots) (w : Cx Z own nm bytes maxL ret p s m meth c) {x y z : Int32} (hd : decode bytes pc = .ok (.iand, 1)) (hz : x &&& y = z) (hn : pc + 1 = n) (K : Gl Z p e below s n0 P C S (T.setTop (mkF m n ls (.int z :: st)))) : Gl Z p e below s n0 P C S (T.setTop (mkF m pc ls (.int y :: .int x :: st))) := by
  obtain ⟨_, vm0, k0, X, -, -, -, hS, -⟩ := X; obtain ⟨hx, hby, hZ, hown, -⟩ := w; have hZ := State.Warmed39.trans hZ hS.1; have hown := (hS.1.alike.findClass _ _).trans hown; subst hn hz
  exact Gl.of (fun t k => XS.iand X.here hx rfl (hb hby hd) rfl k) K
theorem gIor (X : Sd Z D p l e R s m args below meth c n0 T h cells slots) (w : Cx Z own nm bytes maxL ret p s m meth c) {x y z : Int32} (hd : decode bytes pc = .ok (.ior, 1)) (hz : x ||| y = z) (hn : pc + 1 = n) (K : Gl Z p e below s n0 P C S (T.setTop (mkF m n ls (.int z :: st)))) : Gl Z p e below s n0 P C S (T.setTop (mkF m pc ls (.int y :: .int x :: st))) := by
  obtain ⟨_, vm0, k0, X, -, -, -, hS, -⟩ := X; obtain ⟨hx, hby, hZ, hown, -⟩ := w; have hZ := State.Warmed39.trans hZ hS.1; have hown := (hS.1.alike.findClass _ _).trans hown; subst hn hz
  exact Gl.of (fun t k => XT.ior X.here hx rfl (hb hby hd) rfl k) K
theorem gIxor (X : Sd Z D p l e R s m args below meth c n0 T h cells slots) (w : Cx Z own nm bytes maxL ret p s m meth c) {x y z : Int32} (hd : decode bytes pc = .ok (.ixor, 1)) (hz : x ^^^ y = z) (hn : pc + 1 = n) (K : Gl Z p e below s n0 P C S (T.setTop (mkF m n ls (.int z :: st)))) : Gl Z p e below s n0 P C S (T.setTop (mkF m pc ls (.int y :: .int x :: st))) := by
  obtain ⟨_, vm0, k0, X, -, -, -, hS, -⟩ := X; obtain ⟨hx, hby, hZ, hown, -⟩ := w; have hZ := State.Warmed39.trans hZ hS.1; have hown := (hS.1.alike.findClass _ _).trans hown; subst hn hz
  exact Gl.of (fun t k => XT.ixor X.here hx rfl (hb hby hd) rfl k) K
theorem gIshl (X : Sd Z D p l e R s m args below meth c n0 T h cells slots) (w : Cx Z own nm bytes maxL ret p s m meth c) {x y z : Int32} (hd : decode bytes pc = .ok (.ishl, 1)) (hz : x <<< (y &&& 31) = z) (hn : pc + 1 = n) (K : Gl Z p e below s n0 P C S (T.setTop (mkF m n ls (.int z :: st)))) : Gl Z p e below s n0 P C S (T.setTop (mkF m pc ls (.int y :: .int x :: st))) := by
  obtain ⟨_, vm0, k0, X, -, -, -, hS, -⟩ := X; obtain ⟨hx, hby, hZ, hown, -⟩ := w; have hZ := State.Warmed39.trans hZ hS.1; have hown := (hS.1.alike.findClass _ _).trans hown; subst hn hz
  exact Gl.of (fun t k => XT.ishl X.here hx rfl (hb hby hd) rfl k) K
theorem gIshr (X : Sd Z D p l e R s m args below meth c n0 T h cells slots) (w : Cx Z own nm bytes maxL ret p s m meth c) {x y z : Int32} (hd : decode bytes pc = .ok (.ishr, 1)) (hz : x >>> (y &&& 31) = z) (hn : pc + 1 = n) (K : Gl Z p e below s n0 P C S (T.setTop (mkF m n ls (.int z :: st)))) : Gl Z p e below s n0 P C S (T.setTop (mkF m pc ls (.int y :: .int x :: st))) := by
  obtain ⟨_, vm0, k0, X, -, -, -, hS, -⟩ := X; obtain ⟨hx, hby, hZ, hown, -⟩ := w; have hZ := State.Warmed39.trans hZ hS.1; have hown := (hS.1.alike.findClass _ _).trans hown; subst hn hz
  exact Gl.of (fun t k => XT.ishr X.here hx rfl (hb hby hd) rfl k) K
theorem gIushr (X : Sd Z D p l e R s m args below meth c n0 T h cells slots) (w : Cx Z own nm bytes maxL ret p s m meth c) {x y z : Int32} (hd : decode bytes pc = .ok (.iushr, 1)) (hz : XT.ushr x y = z) (hn : pc + 1 = n) (K : Gl Z p e below s n0 P C S (T.setTop (mkF m n ls (.int z :: st)))) : Gl Z p e below s n0 P C S (T.setTop (mkF m pc ls (.int y :: .int x :: st))) := by
  obtain ⟨_, vm0, k0, X, -, -, -, hS, -⟩ := X; obtain ⟨hx, hby, hZ, hown, -⟩ := w; have hZ := State.Warmed39.trans hZ hS.1; have hown := (hS.1.alike.findClass _ _).trans hown; subst hn hz
  exact Gl.of (fun t k => XT.iushr X.here hx rfl (hb hby hd) rfl k) K
theorem gIdiv (X : Sd Z D p l e R s m args below meth c n0 T h cells slots) (w : Cx Z own nm bytes maxL ret p s m meth c) {x y z : Int32} (hd : decode bytes pc = .ok (.idiv, 1)) (hy : y ≠ 0) (hz : x / y = z) (hn : pc + 1 = n) (K : Gl Z p e below s n0 P C S (T.setTop (mkF m n ls (.int z :: st)))) : Gl Z p e below s n0 P C S (T.setTop (mkF m pc ls (.int y :: .int x :: st))) := by
  obtain ⟨_, vm0, k0, X, -, -, -, hS, -⟩ := X; obtain ⟨hx, hby, hZ, hown, -⟩ := w; have hZ := State.Warmed39.trans hZ hS.1; have hown := (hS.1.alike.findClass _ _).trans hown; subst hn hz
  exact Gl.of (fun t k => XS.idiv X.here hx rfl (hb hby hd) rfl hy k) K
theorem gIrem (X : Sd Z D p l e R s m args below meth c n0 T h cells slots) (w : Cx Z own nm bytes maxL ret p s m meth c) {x y z : Int32} (hd : decode bytes pc = .ok (.irem, 1)) (hy : y ≠ 0) (hz : x % y = z) (hn : pc + 1 = n) (K : Gl Z p e below s n0 P C S (T.setTop (mkF m n ls (.int z :: st)))) : Gl Z p e below s n0 P C S (T.setTop (mkF m pc ls (.int y :: .int x :: st))) := by
  obtain ⟨_, vm0, k0, X, -, -, -, hS, -⟩ := X; obtain ⟨hx, hby, hZ, hown, -⟩ := w; have hZ := State.Warmed39.trans hZ hS.1; have hown := (hS.1.alike.findClass _ _).trans hown; subst hn hz
  exact Gl.of (fun t k => iremM X hx rfl (hb hby hd) rfl hy k) K
theorem gIneg (X : Sd Z D p l e R s m args below meth c n0 T h cells slots) (w : Cx Z own nm bytes maxL ret p s m meth c) {x z : Int32} (hd : decode bytes pc = .ok (.ineg, 1)) (hz : -x = z) (hn : pc + 1 = n) (K : Gl Z p e below s n0 P C S (T.setTop (mkF m n ls (.int z :: st)))) : Gl Z p e below s n0 P C S (T.setTop (mkF m pc ls (.int x :: st))) := by
  obtain ⟨_, vm0, k0, X, -, -, -, hS, -⟩ := X; obtain ⟨hx, hby, hZ, hown, -⟩ := w; have hZ := State.Warmed39.trans hZ hS.1; have hown := (hS.1.alike.findClass _ _).trans hown; subst hn hz
  exact Gl.of (fun t k => XS.ineg X.here hx rfl (hb hby hd) rfl k) K
theorem gLadd (X : Sd Z D p l e R s m args below meth c n0 T h cells slots) (w : Cx Z own nm bytes maxL ret p s m meth c) {x y z : Int64} (hd : decode bytes pc = .ok (.ladd, 1)) (hz : x + y = z) (hn : pc + 1 = n) (K : Gl Z p e below s n0 P C S (T.setTop (mkF m n ls (.long z :: st)))) : Gl Z p e below s n0 P C S (T.setTop (mkF m pc ls (.long y :: .long x :: st))) := by
  obtain ⟨_, vm0, k0, X, -, -, -, hS, -⟩ := X; obtain ⟨hx, hby, hZ, hown, -⟩ := w; have hZ := State.Warmed39.trans hZ hS.1; have hown := (hS.1.alike.findClass _ _).trans hown; subst hn hz
  exact Gl.of (fun t k => XT.ladd X.here hx rfl (hb hby hd) rfl k) K
theorem gLsub (X : Sd Z D p l e R s m args below meth c n0 T h cells slots) (w : Cx Z own nm bytes maxL ret p s m meth c) {x y z : Int64} (hd : decode bytes pc = .ok (.lsub, 1)) (hz : x - y = z) (hn : pc + 1 = n) (K : Gl Z p e below s n0 P C S (T.setTop (mkF m n ls (.long z :: st)))) : Gl Z p e below s n0 P C S (T.setTop (mkF m pc ls (.long y :: .long x :: st))) := by
  obtain ⟨_, vm0, k0, X, -, -, -, hS, -⟩ := X; obtain ⟨hx, hby, hZ, hown, -⟩ := w; have hZ := State.Warmed39.trans hZ hS.1; have hown := (hS.1.alike.findClass _ _).trans hown; subst hn hz
  exact Gl.of (fun t k => XT.lsub X.here hx rfl (hb hby hd) rfl k) K
theorem gLmul (X : Sd Z D p l e R s m args below meth c n0 T h cells slots) (w : Cx Z own nm bytes maxL ret p s m meth c) {x y z : Int64} (hd : decode bytes pc = .ok (.lmul, 1)) (hz : x * y = z) (hn : pc + 1 = n) (K : Gl Z p e below s n0 P C S (T.setTop (mkF m n ls (.long z :: st)))) : Gl Z p e below s n0 P C S (T.setTop (mkF m pc ls (.long y :: .long x :: st))) := by
  obtain ⟨_, vm0, k0, X, -, -, -, hS, -⟩ := X; obtain ⟨hx, hby, hZ, hown, -⟩ := w; have hZ := State.Warmed39.trans hZ hS.1; have hown := (hS.1.alike.findClass _ _).trans hown; subst hn hz
  exact Gl.of (fun t k => XT.lmul X.here hx rfl (hb hby hd) rfl k) K
theorem gLand (X : Sd Z D p l e R s m args below meth c n0 T h cells slots) (w : Cx Z own nm bytes maxL ret p s m meth c) {x y z : Int64} (hd : decode bytes pc = .ok (.land, 1)) (hz : x &&& y = z) (hn : pc + 1 = n) (K : Gl Z p e below s n0 P C S (T.setTop (mkF m n ls (.long z :: st)))) : Gl Z p e below s n0 P C S (T.setTop (mkF m pc ls (.long y :: .long x :: st))) := by
  obtain ⟨_, vm0, k0, X, -, -, -, hS, -⟩ := X; obtain ⟨hx, hby, hZ, hown, -⟩ := w; have hZ := State.Warmed39.trans hZ hS.1; have hown := (hS.1.alike.findClass _ _).trans hown; subst hn hz
  exact Gl.of (fun t k => XT.land X.here hx rfl (hb hby hd) rfl k) K
theorem gLor (X : Sd Z D p l e R s m args below meth c n0 T h cells slots) (w : Cx Z own nm bytes maxL ret p s m meth c) {x y z : Int64} (hd : decode bytes pc = .ok (.lor, 1)) (hz : x ||| y = z) (hn : pc + 1 = n) (K : Gl Z p e below s n0 P C S (T.setTop (mkF m n ls (.long z :: st)))) : Gl Z p e below s n0 P C S (T.setTop (mkF m pc ls (.long y :: .long x :: st))) := by
  obtain ⟨_, vm0, k0, X, -, -, -, hS, -⟩ := X; obtain ⟨hx, hby, hZ, hown, -⟩ := w; have hZ := State.Warmed39.trans hZ hS.1; have hown := (hS.1.alike.findClass _ _).trans hown; subst hn hz
  exact Gl.of (fun t k => XT.lor X.here hx rfl (hb hby hd) rfl k) K
theorem gLxor (X : Sd Z D p l e R s m args below meth c n0 T h cells slots) (w : Cx Z own nm bytes maxL ret p s m meth c) {x y z : Int64} (hd : decode bytes pc = .ok (.lxor, 1)) (hz : x ^^^ y = z) (hn : pc + 1 = n) (K : Gl Z p e below s n0 P C S (T.setTop (mkF m n ls (.long z :: st)))) : Gl Z p e below s n0 P C S (T.setTop (mkF m pc ls (.long y :: .long x :: st))) := by
  obtain ⟨_, vm0, k0, X, -, -, -, hS, -⟩ := X; obtain ⟨hx, hby, hZ, hown, -⟩ := w; have hZ := State.Warmed39.trans hZ hS.1; have hown := (hS.1.alike.findClass _ _).trans hown; subst hn hz
  exact Gl.of (fun t k => XT.lxor X.here hx rfl (hb hby hd) rfl k) K
theorem gLshl (X : Sd Z D p l e R s m args below meth c n0 T h cells slots) (w : Cx Z own nm bytes maxL ret p s m meth c) {x z : Int64} {y : Int32} (hd : decode bytes pc = .ok (.lshl, 1)) (hz : x <<< (y.toInt64 &&& 63) = z) (hn : pc + 1 = n) (K : Gl Z p e below s n0 P C S (T.setTop (mkF m n ls (.long z :: st)))) : Gl Z p e below s n0 P C S (T.setTop (mkF m pc ls (.int y :: .long x :: st))) := by
  obtain ⟨_, vm0, k0, X, -, -, -, hS, -⟩ := X; obtain ⟨hx, hby, hZ, hown, -⟩ := w; have hZ := State.Warmed39.trans hZ hS.1; have hown := (hS.1.alike.findClass _ _).trans hown; subst hn hz
  exact Gl.of (fun t k => XT.lshl X.here hx rfl (hb hby hd) rfl k) K
theorem gLshr (X : Sd Z D p l e R s m args below meth c n0 T h cells slots) (w : Cx Z own nm bytes maxL ret p s m meth c) {x z : Int64} {y : Int32} (hd : decode bytes pc = .ok (.lshr, 1)) (hz : x >>> (y.toInt64 &&& 63) = z) (hn : pc + 1 = n) (K : Gl Z p e below s n0 P C S (T.setTop (mkF m n ls (.long z :: st)))) : Gl Z p e below s n0 P C S (T.setTop (mkF m pc ls (.int y :: .long x :: st))) := by
  obtain ⟨_, vm0, k0, X, -, -, -, hS, -⟩ := X; obtain ⟨hx, hby, hZ, hown, -⟩ := w; have hZ := State.Warmed39.trans hZ hS.1; have hown := (hS.1.alike.findClass _ _).trans hown; subst hn hz
  exact Gl.of (fun t k => XT.lshr X.here hx rfl (hb hby hd) rfl k) K
theorem gLushr (X : Sd Z D p l e R s m args below meth c n0 T h cells slots) (w : Cx Z own nm bytes maxL ret p s m meth c) {x z : Int64} {y : Int32} (hd : decode bytes pc = .ok (.lushr, 1)) (hz : XT.ushrL x y = z) (hn : pc + 1 = n) (K : Gl Z p e below s n0 P C S (T.setTop (mkF m n ls (.long z :: st)))) : Gl Z p e below s n0 P C S (T.setTop (mkF m pc ls (.int y :: .long x :: st))) := by
  obtain ⟨_, vm0, k0, X, -, -, -, hS, -⟩ := X; obtain ⟨hx, hby, hZ, hown, -⟩ := w; have hZ := State.Warmed39.trans hZ hS.1; have hown := (hS.1.alike.findClass _ _).trans hown; subst hn hz
  exact Gl.of (fun t k => XT.lushr X.here hx rfl (hb hby hd) rfl k) K
theorem gLneg (X : Sd Z D p l e R s m args below meth c n0 T h cells slots) (w : Cx Z own nm bytes maxL ret p s m meth c) {x z : Int64} (hd : decode bytes pc = .ok (.lneg, 1)) (hz : -x = z) (hn : pc + 1 = n) (K : Gl Z p e below s n0 P C S (T.setTop (mkF m n ls (.long z :: st)))) : Gl Z p e below s n0 P C S (T.setTop (mkF m pc ls (.long x :: st))) := by
  obtain ⟨_, vm0, k0, X, -, -, -, hS, -⟩ := X; obtain ⟨hx, hby, hZ, hown, -⟩ := w; have hZ := State.Warmed39.trans hZ hS.1; have hown := (hS.1.alike.findClass _ _).trans hown; subst hn hz
  exact Gl.of (fun t k => XT.lneg X.here hx rfl (hb hby hd) rfl k) K
theorem gLdiv (X : Sd Z D p l e R s m args below meth c n0 T h cells slots) (w : Cx Z own nm bytes maxL ret p s m meth c) {x y z : Int64} (hd : decode bytes pc = .ok (.ldiv, 1)) (hy : y ≠ 0) (hz : x / y = z) (hn : pc + 1 = n) (K : Gl Z p e below s n0 P C S (T.setTop (mkF m n ls (.long z :: st)))) : Gl Z p e below s n0 P C S (T.setTop (mkF m pc ls (.long y :: .long x :: st))) := by
  obtain ⟨_, vm0, k0, X, -, -, -, hS, -⟩ := X; obtain ⟨hx, hby, hZ, hown, -⟩ := w; have hZ := State.Warmed39.trans hZ hS.1; have hown := (hS.1.alike.findClass _ _).trans hown; subst hn hz
  exact Gl.of (fun t k => XT.ldiv X.here hx rfl (hb hby hd) rfl hy k) K
theorem gLrem (X : Sd Z D p l e R s m args below meth c n0 T h cells slots) (w : Cx Z own nm bytes maxL ret p s m meth c) {x y z : Int64} (hd : decode bytes pc = .ok (.lrem, 1)) (hy : y ≠ 0) (hz : x % y = z) (hn : pc + 1 = n) (K : Gl Z p e below s n0 P C S (T.setTop (mkF m n ls (.long z :: st)))) : Gl Z p e below s n0 P C S (T.setTop (mkF m pc ls (.long y :: .long x :: st))) := by
  obtain ⟨_, vm0, k0, X, -, -, -, hS, -⟩ := X; obtain ⟨hx, hby, hZ, hown, -⟩ := w; have hZ := State.Warmed39.trans hZ hS.1; have hown := (hS.1.alike.findClass _ _).trans hown; subst hn; rw [← lrem_mod] at hz; subst hz
  exact Gl.of (fun t k => XT.lrem X.here hx rfl (hb hby hd) rfl hy k) K
theorem gLcmp (X : Sd Z D p l e R s m args below meth c n0 T h cells slots) (w : Cx Z own nm bytes maxL ret p s m meth c) {x y : Int64} {z : Int32} (hd : decode bytes pc = .ok (.lcmp, 1)) (hz : XT.cmpL x y = z) (hn : pc + 1 = n) (K : Gl Z p e below s n0 P C S (T.setTop (mkF m n ls (.int z :: st)))) : Gl Z p e below s n0 P C S (T.setTop (mkF m pc ls (.long y :: .long x :: st))) := by
  obtain ⟨_, vm0, k0, X, -, -, -, hS, -⟩ := X; obtain ⟨hx, hby, hZ, hown, -⟩ := w; have hZ := State.Warmed39.trans hZ hS.1; have hown := (hS.1.alike.findClass _ _).trans hown; subst hn hz
  exact Gl.of (fun t k => XT.lcmp X.here hx rfl (hb hby hd) rfl k) K
theorem gI2l (X : Sd Z D p l e R s m args below meth c n0 T h cells slots) (w : Cx Z own nm bytes maxL ret p s m meth c) {x : Int32} {z : Int64} (hd : decode bytes pc = .ok (.i2l, 1)) (hz : x.toInt64 = z) (hn : pc + 1 = n) (K : Gl Z p e below s n0 P C S (T.setTop (mkF m n ls (.long z :: st)))) : Gl Z p e below s n0 P C S (T.setTop (mkF m pc ls (.int x :: st))) := by
  obtain ⟨_, vm0, k0, X, -, -, -, hS, -⟩ := X; obtain ⟨hx, hby, hZ, hown, -⟩ := w; have hZ := State.Warmed39.trans hZ hS.1; have hown := (hS.1.alike.findClass _ _).trans hown; subst hn hz
  exact Gl.of (fun t k => XT.i2l X.here hx rfl (hb hby hd) rfl k) K
theorem gL2i (X : Sd Z D p l e R s m args below meth c n0 T h cells slots) (w : Cx Z own nm bytes maxL ret p s m meth c) {x : Int64} {z : Int32} (hd : decode bytes pc = .ok (.l2i, 1)) (hz : x.toInt32 = z) (hn : pc + 1 = n) (K : Gl Z p e below s n0 P C S (T.setTop (mkF m n ls (.int z :: st)))) : Gl Z p e below s n0 P C S (T.setTop (mkF m pc ls (.long x :: st))) := by
  obtain ⟨_, vm0, k0, X, -, -, -, hS, -⟩ := X; obtain ⟨hx, hby, hZ, hown, -⟩ := w; have hZ := State.Warmed39.trans hZ hS.1; have hown := (hS.1.alike.findClass _ _).trans hown; subst hn hz
  exact Gl.of (fun t k => XT.l2i X.here hx rfl (hb hby hd) rfl k) K
theorem gI2b (X : Sd Z D p l e R s m args below meth c n0 T h cells slots) (w : Cx Z own nm bytes maxL ret p s m meth c) {x : Int32} {z : Int32} (hd : decode bytes pc = .ok (.i2b, 1)) (hz : x.toInt8.toInt32 = z) (hn : pc + 1 = n) (K : Gl Z p e below s n0 P C S (T.setTop (mkF m n ls (.int z :: st)))) : Gl Z p e below s n0 P C S (T.setTop (mkF m pc ls (.int x :: st))) := by
  obtain ⟨_, vm0, k0, X, -, -, -, hS, -⟩ := X; obtain ⟨hx, hby, hZ, hown, -⟩ := w; have hZ := State.Warmed39.trans hZ hS.1; have hown := (hS.1.alike.findClass _ _).trans hown; subst hn hz
  exact Gl.of (fun t k => XT.i2b X.here hx rfl (hb hby hd) rfl k) K
theorem gI2c (X : Sd Z D p l e R s m args below meth c n0 T h cells slots) (w : Cx Z own nm bytes maxL ret p s m meth c) {x : Int32} {z : Int32} (hd : decode bytes pc = .ok (.i2c, 1)) (hz : x.toUInt32.toUInt16.toUInt32.toInt32 = z) (hn : pc + 1 = n) (K : Gl Z p e below s n0 P C S (T.setTop (mkF m n ls (.int z :: st)))) : Gl Z p e below s n0 P C S (T.setTop (mkF m pc ls (.int x :: st))) := by
  obtain ⟨_, vm0, k0, X, -, -, -, hS, -⟩ := X; obtain ⟨hx, hby, hZ, hown, -⟩ := w; have hZ := State.Warmed39.trans hZ hS.1; have hown := (hS.1.alike.findClass _ _).trans hown; subst hn hz
  exact Gl.of (fun t k => XT.i2c X.here hx rfl (hb hby hd) rfl k) K
theorem gI2s (X : Sd Z D p l e R s m args below meth c n0 T h cells slots) (w : Cx Z own nm bytes maxL ret p s m meth c) {x : Int32} {z : Int32} (hd : decode bytes pc = .ok (.i2s, 1)) (hz : x.toInt16.toInt32 = z) (hn : pc + 1 = n) (K : Gl Z p e below s n0 P C S (T.setTop (mkF m n ls (.int z :: st)))) : Gl Z p e below s n0 P C S (T.setTop (mkF m pc ls (.int x :: st))) := by
  obtain ⟨_, vm0, k0, X, -, -, -, hS, -⟩ := X; obtain ⟨hx, hby, hZ, hown, -⟩ := w; have hZ := State.Warmed39.trans hZ hS.1; have hown := (hS.1.alike.findClass _ _).trans hown; subst hn hz
  exact Gl.of (fun t k => XT.i2s X.here hx rfl (hb hby hd) rfl k) K
theorem gIstore (X : Sd Z D p l e R s m args below meth c n0 T h cells slots) (w : Cx Z own nm bytes maxL ret p s m meth c) {k : Nat} {x : Int32} (hd : decode bytes pc = .ok (.istore k, 2)) (l' : Array Slot) (hl : storeLocals ls k (.int x) = some l') (hn : pc + 2 = n) (K : Gl Z p e below s n0 P C S (T.setTop (mkF m n l' st))) : Gl Z p e below s n0 P C S (T.setTop (mkF m pc ls (.int x :: st))) := by
  obtain ⟨_, vm0, k0, X, -, -, -, hS, -⟩ := X; obtain ⟨hx, hby, hZ, hown, -⟩ := w; have hZ := State.Warmed39.trans hZ hS.1; have hown := (hS.1.alike.findClass _ _).trans hown; subst hn
  exact Gl.of (fun t k => XS.istore X.here hx rfl (hb hby hd) rfl hl k) K
theorem gIstoreN (X : Sd Z D p l e R s m args below meth c n0 T h cells slots) (w : Cx Z own nm bytes maxL ret p s m meth c) {k : Fin 4} {x : Int32} (hd : decode bytes pc = .ok (.istore_n k, 1)) (l' : Array Slot) (hl : storeLocals ls k.val (.int x) = some l') (hn : pc + 1 = n) (K : Gl Z p e below s n0 P C S (T.setTop (mkF m n l' st))) : Gl Z p e below s n0 P C S (T.setTop (mkF m pc ls (.int x :: st))) := by
  obtain ⟨_, vm0, k0, X, -, -, -, hS, -⟩ := X; obtain ⟨hx, hby, hZ, hown, -⟩ := w; have hZ := State.Warmed39.trans hZ hS.1; have hown := (hS.1.alike.findClass _ _).trans hown; subst hn
  exact Gl.of (fun t k => XS.istoreN X.here hx rfl (hb hby hd) rfl hl k) K
theorem gJstore (X : Sd Z D p l e R s m args below meth c n0 T h cells slots) (w : Cx Z own nm bytes maxL ret p s m meth c) {k : Nat} {x : Int64} (hd : decode bytes pc = .ok (.lstore k, 2)) (l' : Array Slot) (hl : storeLocals ls k (.long x) = some l') (hn : pc + 2 = n) (K : Gl Z p e below s n0 P C S (T.setTop (mkF m n l' st))) : Gl Z p e below s n0 P C S (T.setTop (mkF m pc ls (.long x :: st))) := by
  obtain ⟨_, vm0, k0, X, -, -, -, hS, -⟩ := X; obtain ⟨hx, hby, hZ, hown, -⟩ := w; have hZ := State.Warmed39.trans hZ hS.1; have hown := (hS.1.alike.findClass _ _).trans hown; subst hn
  exact Gl.of (fun t k => XT.lstore X.here hx rfl (hb hby hd) rfl hl k) K
theorem gJstoreN (X : Sd Z D p l e R s m args below meth c n0 T h cells slots) (w : Cx Z own nm bytes maxL ret p s m meth c) {k : Fin 4} {x : Int64} (hd : decode bytes pc = .ok (.lstore_n k, 1)) (l' : Array Slot) (hl : storeLocals ls k.val (.long x) = some l') (hn : pc + 1 = n) (K : Gl Z p e below s n0 P C S (T.setTop (mkF m n l' st))) : Gl Z p e below s n0 P C S (T.setTop (mkF m pc ls (.long x :: st))) := by
  obtain ⟨_, vm0, k0, X, -, -, -, hS, -⟩ := X; obtain ⟨hx, hby, hZ, hown, -⟩ := w; have hZ := State.Warmed39.trans hZ hS.1; have hown := (hS.1.alike.findClass _ _).trans hown; subst hn
  exact Gl.of (fun t k => XT.lstoreN X.here hx rfl (hb hby hd) rfl hl k) K
theorem gAstore (X : Sd Z D p l e R s m args below meth c n0 T h cells slots) (w : Cx Z own nm bytes maxL ret p s m meth c) {k : Nat} {x : Value} (hd : decode bytes pc = .ok (.astore k, 2)) (hv : x.isRef = true) (l' : Array Slot) (hl : storeLocals ls k x = some l') (hn : pc + 2 = n) (K : Gl Z p e below s n0 P C S (T.setTop (mkF m n l' st))) : Gl Z p e below s n0 P C S (T.setTop (mkF m pc ls (x :: st))) := by
  obtain ⟨_, vm0, k0, X, -, -, -, hS, -⟩ := X; obtain ⟨hx, hby, hZ, hown, -⟩ := w; have hZ := State.Warmed39.trans hZ hS.1; have hown := (hS.1.alike.findClass _ _).trans hown; subst hn
  exact Gl.of (fun t k => XS.astore X.here hx rfl (hb hby hd) rfl hv hl k) K
theorem gAstoreN (X : Sd Z D p l e R s m args below meth c n0 T h cells slots) (w : Cx Z own nm bytes maxL ret p s m meth c) {k : Fin 4} {x : Value} (hd : decode bytes pc = .ok (.astore_n k, 1)) (hv : x.isRef = true) (l' : Array Slot) (hl : storeLocals ls k.val x = some l') (hn : pc + 1 = n) (K : Gl Z p e below s n0 P C S (T.setTop (mkF m n l' st))) : Gl Z p e below s n0 P C S (T.setTop (mkF m pc ls (x :: st))) := by
  obtain ⟨_, vm0, k0, X, -, -, -, hS, -⟩ := X; obtain ⟨hx, hby, hZ, hown, -⟩ := w; have hZ := State.Warmed39.trans hZ hS.1; have hown := (hS.1.alike.findClass _ _).trans hown; subst hn
  exact Gl.of (fun t k => XS.astoreN X.here hx rfl (hb hby hd) rfl hv hl k) K
theorem gIinc (X : Sd Z D p l e R s m args below meth c n0 T h cells slots) (w : Cx Z own nm bytes maxL ret p s m meth c) {k : Nat} {i : Int} {x z : Int32} (hd : decode bytes pc = .ok (.iinc k i, 3)) (hl0 : ls[k]? = some (.val (.int x))) (hz : x + Int32.ofInt i = z) (l' : Array Slot) (hl : storeLocals ls k (.int z) = some l') (hn : pc + 3 = n) (K : Gl Z p e below s n0 P C S (T.setTop (mkF m n l' st))) : Gl Z p e below s n0 P C S (T.setTop (mkF m pc ls st)) := by
  obtain ⟨_, vm0, k0, X, -, -, -, hS, -⟩ := X; obtain ⟨hx, hby, hZ, hown, -⟩ := w; have hZ := State.Warmed39.trans hZ hS.1; have hown := (hS.1.alike.findClass _ _).trans hown; subst hn hz
  exact Gl.of (fun t k => XS.iinc X.here hx rfl (hb hby hd) hl0 hl k) K
theorem gDup (X : Sd Z D p l e R s m args below meth c n0 T h cells slots) (w : Cx Z own nm bytes maxL ret p s m meth c) {x : Value} (hd : decode bytes pc = .ok (.dup, 1)) (hc : x.category = 1) (hn : pc + 1 = n) (K : Gl Z p e below s n0 P C S (T.setTop (mkF m n ls (x :: x :: st)))) : Gl Z p e below s n0 P C S (T.setTop (mkF m pc ls (x :: st))) := by
  obtain ⟨_, vm0, k0, X, -, -, -, hS, -⟩ := X; obtain ⟨hx, hby, hZ, hown, -⟩ := w; have hZ := State.Warmed39.trans hZ hS.1; have hown := (hS.1.alike.findClass _ _).trans hown; subst hn
  exact Gl.of (fun t k => XS.dup X.here hx rfl (hb hby hd) rfl hc k) K
theorem gPop (X : Sd Z D p l e R s m args below meth c n0 T h cells slots) (w : Cx Z own nm bytes maxL ret p s m meth c) {x : Value} (hd : decode bytes pc = .ok (.pop, 1)) (hc : x.category = 1) (hn : pc + 1 = n) (K : Gl Z p e below s n0 P C S (T.setTop (mkF m n ls st))) : Gl Z p e below s n0 P C S (T.setTop (mkF m pc ls (x :: st))) := by
  obtain ⟨_, vm0, k0, X, -, -, -, hS, -⟩ := X; obtain ⟨hx, hby, hZ, hown, -⟩ := w; have hZ := State.Warmed39.trans hZ hS.1; have hown := (hS.1.alike.findClass _ _).trans hown; subst hn
  exact Gl.of (fun t k => XT.pop X.here hx rfl (hb hby hd) rfl hc k) K
theorem gDupX1 (X : Sd Z D p l e R s m args below meth c n0 T h cells slots) (w : Cx Z own nm bytes maxL ret p s m meth c) {x y : Value} (hd : decode bytes pc = .ok (.dup_x1, 1)) (hc : x.category = 1) (hc' : y.category = 1) (hn : pc + 1 = n) (K : Gl Z p e below s n0 P C S (T.setTop (mkF m n ls (x :: y :: x :: st)))) : Gl Z p e below s n0 P C S (T.setTop (mkF m pc ls (x :: y :: st))) := by
  obtain ⟨_, vm0, k0, X, -, -, -, hS, -⟩ := X; obtain ⟨hx, hby, hZ, hown, -⟩ := w; have hZ := State.Warmed39.trans hZ hS.1; have hown := (hS.1.alike.findClass _ _).trans hown; subst hn
  exact Gl.of (fun t k => XT.dupX1 X.here hx rfl (hb hby hd) rfl hc hc' k) K
theorem gDup2 (X : Sd Z D p l e R s m args below meth c n0 T h cells slots) (w : Cx Z own nm bytes maxL ret p s m meth c) {x y : Value} (hd : decode bytes pc = .ok (.dup2, 1)) (hc : x.category = 1) (hc' : y.category = 1) (hn : pc + 1 = n) (K : Gl Z p e below s n0 P C S (T.setTop (mkF m n ls (x :: y :: x :: y :: st)))) : Gl Z p e below s n0 P C S (T.setTop (mkF m pc ls (x :: y :: st))) := by
  obtain ⟨_, vm0, k0, X, -, -, -, hS, -⟩ := X; obtain ⟨hx, hby, hZ, hown, -⟩ := w; have hZ := State.Warmed39.trans hZ hS.1; have hown := (hS.1.alike.findClass _ _).trans hown; subst hn
  exact Gl.of (fun t k => XT.dup2 X.here hx rfl (hb hby hd) rfl hc hc' k) K
theorem gDup2L (X : Sd Z D p l e R s m args below meth c n0 T h cells slots) (w : Cx Z own nm bytes maxL ret p s m meth c) {x : Int64} (hd : decode bytes pc = .ok (.dup2, 1)) (hn : pc + 1 = n) (K : Gl Z p e below s n0 P C S (T.setTop (mkF m n ls (.long x :: .long x :: st)))) : Gl Z p e below s n0 P C S (T.setTop (mkF m pc ls (.long x :: st))) := by
  obtain ⟨_, vm0, k0, X, -, -, -, hS, -⟩ := X; obtain ⟨hx, hby, hZ, hown, -⟩ := w; have hZ := State.Warmed39.trans hZ hS.1; have hown := (hS.1.alike.findClass _ _).trans hown; subst hn
  exact Gl.of (fun t k => XT.dup2L X.here hx rfl (hb hby hd) rfl k) K
theorem gGoto (X : Sd Z D p l e R s m args below meth c n0 T h cells slots) (w : Cx Z own nm bytes maxL ret p s m meth c) {o : Int} (hd : decode bytes pc = .ok (.goto o, 3)) (ho : 0 ≤ (pc : Int) + o) (hp : ((pc : Int) + o).toNat = n) (K : Gl Z p e below s n0 P C S (T.setTop (mkF m n ls st))) : Gl Z p e below s n0 P C S (T.setTop (mkF m pc ls st)) := by
  obtain ⟨_, vm0, k0, X, -, -, -, hS, -⟩ := X; obtain ⟨hx, hby, hZ, hown, -⟩ := w; have hZ := State.Warmed39.trans hZ hS.1; have hown := (hS.1.alike.findClass _ _).trans hown; 
  exact Gl.of (fun t k => XS.goto X.here hx rfl rfl (hb hby hd) ho hp k) K
theorem gIf_eq (X : Sd Z D p l e R s m args below meth c n0 T h cells slots) (w : Cx Z own nm bytes maxL ret p s m meth c) {x : Int32} {o : Int} (hd : decode bytes pc = .ok (.ifCond .eq o, 3)) (ho : 0 ≤ (pc : Int) + o) {n' : Nat} (hp : ((pc : Int) + o).toNat = n) (hn : pc + 3 = n') (K1 : x = (0 : Int32) ∧ x.toInt = 0 → Gl Z p e below s n0 P C S (T.setTop (mkF m n ls st))) (K2 : ¬ x = (0 : Int32) ∧ ¬ x.toInt = 0 → Gl Z p e below s n0 P C S (T.setTop (mkF m n' ls st))) : Gl Z p e below s n0 P C S (T.setTop (mkF m pc ls (.int x :: st))) := by
  obtain ⟨_, vm0, k0, X, -, -, -, hS, -⟩ := X; obtain ⟨hx, hby, -⟩ := w; subst hn
  by_cases q : x = (0 : Int32)
  · exact Gl.of (fun t k => XS.ifYes X.here hx rfl rfl (hb hby hd) rfl (XT.i0_eq_t q) ho hp k) (K1 ⟨q, by rw [q]; rfl⟩)
  · exact Gl.of (fun t k => XS.ifNo X.here hx rfl (hb hby hd) rfl (XT.i0_eq_f q) k) (K2 ⟨q, fun q' => q (Int32.toInt_inj.mp q')⟩)
theorem gIcmp_eq (X : Sd Z D p l e R s m args below meth c n0 T h cells slots) (w : Cx Z own nm bytes maxL ret p s m meth c) {x y : Int32} {o : Int} (hd : decode bytes pc = .ok (.if_icmp .eq o, 3)) (ho : 0 ≤ (pc : Int) + o) {n' : Nat} (hp : ((pc : Int) + o).toNat = n) (hn : pc + 3 = n') (K1 : x = y ∧ x.toInt = y.toInt → Gl Z p e below s n0 P C S (T.setTop (mkF m n ls st))) (K2 : ¬ x = y ∧ ¬ x.toInt = y.toInt → Gl Z p e below s n0 P C S (T.setTop (mkF m n' ls st))) : Gl Z p e below s n0 P C S (T.setTop (mkF m pc ls (.int y :: .int x :: st))) := by
  obtain ⟨_, vm0, k0, X, -, -, -, hS, -⟩ := X; obtain ⟨hx, hby, -⟩ := w; subst hn
  by_cases q : x = y
  · exact Gl.of (fun t k => XS.icmpYes X.here hx rfl rfl (hb hby hd) rfl (XT.ii_eq_t q) ho hp k) (K1 ⟨q, by rw [q]⟩)
  · exact Gl.of (fun t k => XS.icmpNo X.here hx rfl (hb hby hd) rfl (XT.ii_eq_f q) k) (K2 ⟨q, fun q' => q (Int32.toInt_inj.mp q')⟩)
theorem gIfL_eq (X : Sd Z D p l e R s m args below meth c n0 T h cells slots) (w : Cx Z own nm bytes maxL ret p s m meth c) {x y : Int64} {o : Int} (hd : decode bytes pc = .ok (.ifCond .eq o, 3)) (ho : 0 ≤ (pc : Int) + o) {n' : Nat} (hp : ((pc : Int) + o).toNat = n) (hn : pc + 3 = n') (K1 : x = y ∧ x.toInt = y.toInt → Gl Z p e below s n0 P C S (T.setTop (mkF m n ls st))) (K2 : ¬ x = y ∧ ¬ x.toInt = y.toInt → Gl Z p e below s n0 P C S (T.setTop (mkF m n' ls st))) : Gl Z p e below s n0 P C S (T.setTop (mkF m pc ls (.int (XT.cmpL x y) :: st))) := by
  obtain ⟨_, vm0, k0, X, -, -, -, hS, -⟩ := X; obtain ⟨hx, hby, -⟩ := w; subst hn
  by_cases q : x = y
  · exact Gl.of (fun t k => XS.ifYes X.here hx rfl rfl (hb hby hd) rfl (XT.ll_eq_t q) ho hp k) (K1 ⟨q, by rw [q]⟩)
  · exact Gl.of (fun t k => XS.ifNo X.here hx rfl (hb hby hd) rfl (XT.ll_eq_f q) k) (K2 ⟨q, fun q' => q (Int64.toInt_inj.mp q')⟩)
theorem gIf_ne (X : Sd Z D p l e R s m args below meth c n0 T h cells slots) (w : Cx Z own nm bytes maxL ret p s m meth c) {x : Int32} {o : Int} (hd : decode bytes pc = .ok (.ifCond .ne o, 3)) (ho : 0 ≤ (pc : Int) + o) {n' : Nat} (hp : ((pc : Int) + o).toNat = n) (hn : pc + 3 = n') (K1 : ¬ x = (0 : Int32) ∧ ¬ x.toInt = 0 → Gl Z p e below s n0 P C S (T.setTop (mkF m n ls st))) (K2 : x = (0 : Int32) ∧ x.toInt = 0 → Gl Z p e below s n0 P C S (T.setTop (mkF m n' ls st))) : Gl Z p e below s n0 P C S (T.setTop (mkF m pc ls (.int x :: st))) := by
  obtain ⟨_, vm0, k0, X, -, -, -, hS, -⟩ := X; obtain ⟨hx, hby, -⟩ := w; subst hn
  by_cases q : x = (0 : Int32)
  · exact Gl.of (fun t k => XS.ifNo X.here hx rfl (hb hby hd) rfl (XT.i0_ne_f q) k) (K2 ⟨q, by rw [q]; rfl⟩)
  · exact Gl.of (fun t k => XS.ifYes X.here hx rfl rfl (hb hby hd) rfl (XT.i0_ne_t q) ho hp k) (K1 ⟨q, fun q' => q (Int32.toInt_inj.mp q')⟩)
theorem gIcmp_ne (X : Sd Z D p l e R s m args below meth c n0 T h cells slots) (w : Cx Z own nm bytes maxL ret p s m meth c) {x y : Int32} {o : Int} (hd : decode bytes pc = .ok (.if_icmp .ne o, 3)) (ho : 0 ≤ (pc : Int) + o) {n' : Nat} (hp : ((pc : Int) + o).toNat = n) (hn : pc + 3 = n') (K1 : ¬ x = y ∧ ¬ x.toInt = y.toInt → Gl Z p e below s n0 P C S (T.setTop (mkF m n ls st))) (K2 : x = y ∧ x.toInt = y.toInt → Gl Z p e below s n0 P C S (T.setTop (mkF m n' ls st))) : Gl Z p e below s n0 P C S (T.setTop (mkF m pc ls (.int y :: .int x :: st))) := by
  obtain ⟨_, vm0, k0, X, -, -, -, hS, -⟩ := X; obtain ⟨hx, hby, -⟩ := w; subst hn
  by_cases q : x = y
  · exact Gl.of (fun t k => XS.icmpNo X.here hx rfl (hb hby hd) rfl (XT.ii_ne_f q) k) (K2 ⟨q, by rw [q]⟩)
  · exact Gl.of (fun t k => XS.icmpYes X.here hx rfl rfl (hb hby hd) rfl (XT.ii_ne_t q) ho hp k) (K1 ⟨q, fun q' => q (Int32.toInt_inj.mp q')⟩)
theorem gIfL_ne (X : Sd Z D p l e R s m args below meth c n0 T h cells slots) (w : Cx Z own nm bytes maxL ret p s m meth c) {x y : Int64} {o : Int} (hd : decode bytes pc = .ok (.ifCond .ne o, 3)) (ho : 0 ≤ (pc : Int) + o) {n' : Nat} (hp : ((pc : Int) + o).toNat = n) (hn : pc + 3 = n') (K1 : ¬ x = y ∧ ¬ x.toInt = y.toInt → Gl Z p e below s n0 P C S (T.setTop (mkF m n ls st))) (K2 : x = y ∧ x.toInt = y.toInt → Gl Z p e below s n0 P C S (T.setTop (mkF m n' ls st))) : Gl Z p e below s n0 P C S (T.setTop (mkF m pc ls (.int (XT.cmpL x y) :: st))) := by
  obtain ⟨_, vm0, k0, X, -, -, -, hS, -⟩ := X; obtain ⟨hx, hby, -⟩ := w; subst hn
  by_cases q : x = y
  · exact Gl.of (fun t k => XS.ifNo X.here hx rfl (hb hby hd) rfl (XT.ll_ne_f q) k) (K2 ⟨q, by rw [q]⟩)
  · exact Gl.of (fun t k => XS.ifYes X.here hx rfl rfl (hb hby hd) rfl (XT.ll_ne_t q) ho hp k) (K1 ⟨q, fun q' => q (Int64.toInt_inj.mp q')⟩)
theorem gIf_lt (X : Sd Z D p l e R s m args below meth c n0 T h cells slots) (w : Cx Z own nm bytes maxL ret p s m meth c) {x : Int32} {o : Int} (hd : decode bytes pc = .ok (.ifCond .lt o, 3)) (ho : 0 ≤ (pc : Int) + o) {n' : Nat} (hp : ((pc : Int) + o).toNat = n) (hn : pc + 3 = n') (K1 : x.toInt < 0 → Gl Z p e below s n0 P C S (T.setTop (mkF m n ls st))) (K2 : 0 ≤ x.toInt → Gl Z p e below s n0 P C S (T.setTop (mkF m n' ls st))) : Gl Z p e below s n0 P C S (T.setTop (mkF m pc ls (.int x :: st))) := by
  obtain ⟨_, vm0, k0, X, -, -, -, hS, -⟩ := X; obtain ⟨hx, hby, -⟩ := w; subst hn
  by_cases q : x < (0 : Int32)
  · exact Gl.of (fun t k => XS.ifYes X.here hx rfl rfl (hb hby hd) rfl (XT.i0_lt_t q) ho hp k) (K1 (Int32.lt_iff_toInt_lt.mp q))
  · exact Gl.of (fun t k => XS.ifNo X.here hx rfl (hb hby hd) rfl (XT.i0_lt_f q) k) (K2 (Int.not_lt.mp fun q' => q (Int32.lt_iff_toInt_lt.mpr q')))
theorem gIcmp_lt (X : Sd Z D p l e R s m args below meth c n0 T h cells slots) (w : Cx Z own nm bytes maxL ret p s m meth c) {x y : Int32} {o : Int} (hd : decode bytes pc = .ok (.if_icmp .lt o, 3)) (ho : 0 ≤ (pc : Int) + o) {n' : Nat} (hp : ((pc : Int) + o).toNat = n) (hn : pc + 3 = n') (K1 : x.toInt < y.toInt → Gl Z p e below s n0 P C S (T.setTop (mkF m n ls st))) (K2 : y.toInt ≤ x.toInt → Gl Z p e below s n0 P C S (T.setTop (mkF m n' ls st))) : Gl Z p e below s n0 P C S (T.setTop (mkF m pc ls (.int y :: .int x :: st))) := by
  obtain ⟨_, vm0, k0, X, -, -, -, hS, -⟩ := X; obtain ⟨hx, hby, -⟩ := w; subst hn
  by_cases q : x < y
  · exact Gl.of (fun t k => XS.icmpYes X.here hx rfl rfl (hb hby hd) rfl (XT.ii_lt_t q) ho hp k) (K1 (Int32.lt_iff_toInt_lt.mp q))
  · exact Gl.of (fun t k => XS.icmpNo X.here hx rfl (hb hby hd) rfl (XT.ii_lt_f q) k) (K2 (Int.not_lt.mp fun q' => q (Int32.lt_iff_toInt_lt.mpr q')))
theorem gIfL_lt (X : Sd Z D p l e R s m args below meth c n0 T h cells slots) (w : Cx Z own nm bytes maxL ret p s m meth c) {x y : Int64} {o : Int} (hd : decode bytes pc = .ok (.ifCond .lt o, 3)) (ho : 0 ≤ (pc : Int) + o) {n' : Nat} (hp : ((pc : Int) + o).toNat = n) (hn : pc + 3 = n') (K1 : x.toInt < y.toInt → Gl Z p e below s n0 P C S (T.setTop (mkF m n ls st))) (K2 : y.toInt ≤ x.toInt → Gl Z p e below s n0 P C S (T.setTop (mkF m n' ls st))) : Gl Z p e below s n0 P C S (T.setTop (mkF m pc ls (.int (XT.cmpL x y) :: st))) := by
  obtain ⟨_, vm0, k0, X, -, -, -, hS, -⟩ := X; obtain ⟨hx, hby, -⟩ := w; subst hn
  by_cases q : x < y
  · exact Gl.of (fun t k => XS.ifYes X.here hx rfl rfl (hb hby hd) rfl (XT.ll_lt_t q) ho hp k) (K1 (Int64.lt_iff_toInt_lt.mp q))
  · exact Gl.of (fun t k => XS.ifNo X.here hx rfl (hb hby hd) rfl (XT.ll_lt_f q) k) (K2 (Int.not_lt.mp fun q' => q (Int64.lt_iff_toInt_lt.mpr q')))
theorem gIf_ge (X : Sd Z D p l e R s m args below meth c n0 T h cells slots) (w : Cx Z own nm bytes maxL ret p s m meth c) {x : Int32} {o : Int} (hd : decode bytes pc = .ok (.ifCond .ge o, 3)) (ho : 0 ≤ (pc : Int) + o) {n' : Nat} (hp : ((pc : Int) + o).toNat = n) (hn : pc + 3 = n') (K1 : 0 ≤ x.toInt → Gl Z p e below s n0 P C S (T.setTop (mkF m n ls st))) (K2 : x.toInt < 0 → Gl Z p e below s n0 P C S (T.setTop (mkF m n' ls st))) : Gl Z p e below s n0 P C S (T.setTop (mkF m pc ls (.int x :: st))) := by
  obtain ⟨_, vm0, k0, X, -, -, -, hS, -⟩ := X; obtain ⟨hx, hby, -⟩ := w; subst hn
  by_cases q : x < (0 : Int32)
  · exact Gl.of (fun t k => XS.ifNo X.here hx rfl (hb hby hd) rfl (XT.i0_ge_f q) k) (K2 (Int32.lt_iff_toInt_lt.mp q))
  · exact Gl.of (fun t k => XS.ifYes X.here hx rfl rfl (hb hby hd) rfl (XT.i0_ge_t q) ho hp k) (K1 (Int.not_lt.mp fun q' => q (Int32.lt_iff_toInt_lt.mpr q')))
theorem gIcmp_ge (X : Sd Z D p l e R s m args below meth c n0 T h cells slots) (w : Cx Z own nm bytes maxL ret p s m meth c) {x y : Int32} {o : Int} (hd : decode bytes pc = .ok (.if_icmp .ge o, 3)) (ho : 0 ≤ (pc : Int) + o) {n' : Nat} (hp : ((pc : Int) + o).toNat = n) (hn : pc + 3 = n') (K1 : y.toInt ≤ x.toInt → Gl Z p e below s n0 P C S (T.setTop (mkF m n ls st))) (K2 : x.toInt < y.toInt → Gl Z p e below s n0 P C S (T.setTop (mkF m n' ls st))) : Gl Z p e below s n0 P C S (T.setTop (mkF m pc ls (.int y :: .int x :: st))) := by
  obtain ⟨_, vm0, k0, X, -, -, -, hS, -⟩ := X; obtain ⟨hx, hby, -⟩ := w; subst hn
  by_cases q : x < y
  · exact Gl.of (fun t k => XS.icmpNo X.here hx rfl (hb hby hd) rfl (XT.ii_ge_f q) k) (K2 (Int32.lt_iff_toInt_lt.mp q))
  · exact Gl.of (fun t k => XS.icmpYes X.here hx rfl rfl (hb hby hd) rfl (XT.ii_ge_t q) ho hp k) (K1 (Int.not_lt.mp fun q' => q (Int32.lt_iff_toInt_lt.mpr q')))
theorem gIfL_ge (X : Sd Z D p l e R s m args below meth c n0 T h cells slots) (w : Cx Z own nm bytes maxL ret p s m meth c) {x y : Int64} {o : Int} (hd : decode bytes pc = .ok (.ifCond .ge o, 3)) (ho : 0 ≤ (pc : Int) + o) {n' : Nat} (hp : ((pc : Int) + o).toNat = n) (hn : pc + 3 = n') (K1 : y.toInt ≤ x.toInt → Gl Z p e below s n0 P C S (T.setTop (mkF m n ls st))) (K2 : x.toInt < y.toInt → Gl Z p e below s n0 P C S (T.setTop (mkF m n' ls st))) : Gl Z p e below s n0 P C S (T.setTop (mkF m pc ls (.int (XT.cmpL x y) :: st))) := by
  obtain ⟨_, vm0, k0, X, -, -, -, hS, -⟩ := X; obtain ⟨hx, hby, -⟩ := w; subst hn
  by_cases q : x < y
  · exact Gl.of (fun t k => XS.ifNo X.here hx rfl (hb hby hd) rfl (XT.ll_ge_f q) k) (K2 (Int64.lt_iff_toInt_lt.mp q))
  · exact Gl.of (fun t k => XS.ifYes X.here hx rfl rfl (hb hby hd) rfl (XT.ll_ge_t q) ho hp k) (K1 (Int.not_lt.mp fun q' => q (Int64.lt_iff_toInt_lt.mpr q')))
theorem gIf_gt (X : Sd Z D p l e R s m args below meth c n0 T h cells slots) (w : Cx Z own nm bytes maxL ret p s m meth c) {x : Int32} {o : Int} (hd : decode bytes pc = .ok (.ifCond .gt o, 3)) (ho : 0 ≤ (pc : Int) + o) {n' : Nat} (hp : ((pc : Int) + o).toNat = n) (hn : pc + 3 = n') (K1 : 0 < x.toInt → Gl Z p e below s n0 P C S (T.setTop (mkF m n ls st))) (K2 : x.toInt ≤ 0 → Gl Z p e below s n0 P C S (T.setTop (mkF m n' ls st))) : Gl Z p e below s n0 P C S (T.setTop (mkF m pc ls (.int x :: st))) := by
  obtain ⟨_, vm0, k0, X, -, -, -, hS, -⟩ := X; obtain ⟨hx, hby, -⟩ := w; subst hn
  by_cases q : (0 : Int32) < x
  · exact Gl.of (fun t k => XS.ifYes X.here hx rfl rfl (hb hby hd) rfl (XT.i0_gt_t q) ho hp k) (K1 (Int32.lt_iff_toInt_lt.mp q))
  · exact Gl.of (fun t k => XS.ifNo X.here hx rfl (hb hby hd) rfl (XT.i0_gt_f q) k) (K2 (Int.not_lt.mp fun q' => q (Int32.lt_iff_toInt_lt.mpr q')))
theorem gIcmp_gt (X : Sd Z D p l e R s m args below meth c n0 T h cells slots) (w : Cx Z own nm bytes maxL ret p s m meth c) {x y : Int32} {o : Int} (hd : decode bytes pc = .ok (.if_icmp .gt o, 3)) (ho : 0 ≤ (pc : Int) + o) {n' : Nat} (hp : ((pc : Int) + o).toNat = n) (hn : pc + 3 = n') (K1 : y.toInt < x.toInt → Gl Z p e below s n0 P C S (T.setTop (mkF m n ls st))) (K2 : x.toInt ≤ y.toInt → Gl Z p e below s n0 P C S (T.setTop (mkF m n' ls st))) : Gl Z p e below s n0 P C S (T.setTop (mkF m pc ls (.int y :: .int x :: st))) := by
  obtain ⟨_, vm0, k0, X, -, -, -, hS, -⟩ := X; obtain ⟨hx, hby, -⟩ := w; subst hn
  by_cases q : y < x
  · exact Gl.of (fun t k => XS.icmpYes X.here hx rfl rfl (hb hby hd) rfl (XT.ii_gt_t q) ho hp k) (K1 (Int32.lt_iff_toInt_lt.mp q))
  · exact Gl.of (fun t k => XS.icmpNo X.here hx rfl (hb hby hd) rfl (XT.ii_gt_f q) k) (K2 (Int.not_lt.mp fun q' => q (Int32.lt_iff_toInt_lt.mpr q')))
theorem gIfL_gt (X : Sd Z D p l e R s m args below meth c n0 T h cells slots) (w : Cx Z own nm bytes maxL ret p s m meth c) {x y : Int64} {o : Int} (hd : decode bytes pc = .ok (.ifCond .gt o, 3)) (ho : 0 ≤ (pc : Int) + o) {n' : Nat} (hp : ((pc : Int) + o).toNat = n) (hn : pc + 3 = n') (K1 : y.toInt < x.toInt → Gl Z p e below s n0 P C S (T.setTop (mkF m n ls st))) (K2 : x.toInt ≤ y.toInt → Gl Z p e below s n0 P C S (T.setTop (mkF m n' ls st))) : Gl Z p e below s n0 P C S (T.setTop (mkF m pc ls (.int (XT.cmpL x y) :: st))) := by
  obtain ⟨_, vm0, k0, X, -, -, -, hS, -⟩ := X; obtain ⟨hx, hby, -⟩ := w; subst hn
  by_cases q : y < x
  · exact Gl.of (fun t k => XS.ifYes X.here hx rfl rfl (hb hby hd) rfl (XT.ll_gt_t q) ho hp k) (K1 (Int64.lt_iff_toInt_lt.mp q))
  · exact Gl.of (fun t k => XS.ifNo X.here hx rfl (hb hby hd) rfl (XT.ll_gt_f q) k) (K2 (Int.not_lt.mp fun q' => q (Int64.lt_iff_toInt_lt.mpr q')))
theorem gIf_le (X : Sd Z D p l e R s m args below meth c n0 T h cells slots) (w : Cx Z own nm bytes maxL ret p s m meth c) {x : Int32} {o : Int} (hd : decode bytes pc = .ok (.ifCond .le o, 3)) (ho : 0 ≤ (pc : Int) + o) {n' : Nat} (hp : ((pc : Int) + o).toNat = n) (hn : pc + 3 = n') (K1 : x.toInt ≤ 0 → Gl Z p e below s n0 P C S (T.setTop (mkF m n ls st))) (K2 : 0 < x.toInt → Gl Z p e below s n0 P C S (T.setTop (mkF m n' ls st))) : Gl Z p e below s n0 P C S (T.setTop (mkF m pc ls (.int x :: st))) := by
  obtain ⟨_, vm0, k0, X, -, -, -, hS, -⟩ := X; obtain ⟨hx, hby, -⟩ := w; subst hn
  by_cases q : (0 : Int32) < x
  · exact Gl.of (fun t k => XS.ifNo X.here hx rfl (hb hby hd) rfl (XT.i0_le_f q) k) (K2 (Int32.lt_iff_toInt_lt.mp q))
  · exact Gl.of (fun t k => XS.ifYes X.here hx rfl rfl (hb hby hd) rfl (XT.i0_le_t q) ho hp k) (K1 (Int.not_lt.mp fun q' => q (Int32.lt_iff_toInt_lt.mpr q')))
theorem gIcmp_le (X : Sd Z D p l e R s m args below meth c n0 T h cells slots) (w : Cx Z own nm bytes maxL ret p s m meth c) {x y : Int32} {o : Int} (hd : decode bytes pc = .ok (.if_icmp .le o, 3)) (ho : 0 ≤ (pc : Int) + o) {n' : Nat} (hp : ((pc : Int) + o).toNat = n) (hn : pc + 3 = n') (K1 : x.toInt ≤ y.toInt → Gl Z p e below s n0 P C S (T.setTop (mkF m n ls st))) (K2 : y.toInt < x.toInt → Gl Z p e below s n0 P C S (T.setTop (mkF m n' ls st))) : Gl Z p e below s n0 P C S (T.setTop (mkF m pc ls (.int y :: .int x :: st))) := by
  obtain ⟨_, vm0, k0, X, -, -, -, hS, -⟩ := X; obtain ⟨hx, hby, -⟩ := w; subst hn
  by_cases q : y < x
  · exact Gl.of (fun t k => XS.icmpNo X.here hx rfl (hb hby hd) rfl (XT.ii_le_f q) k) (K2 (Int32.lt_iff_toInt_lt.mp q))
  · exact Gl.of (fun t k => XS.icmpYes X.here hx rfl rfl (hb hby hd) rfl (XT.ii_le_t q) ho hp k) (K1 (Int.not_lt.mp fun q' => q (Int32.lt_iff_toInt_lt.mpr q')))
theorem gIfL_le (X : Sd Z D p l e R s m args below meth c n0 T h cells slots) (w : Cx Z own nm bytes maxL ret p s m meth c) {x y : Int64} {o : Int} (hd : decode bytes pc = .ok (.ifCond .le o, 3)) (ho : 0 ≤ (pc : Int) + o) {n' : Nat} (hp : ((pc : Int) + o).toNat = n) (hn : pc + 3 = n') (K1 : x.toInt ≤ y.toInt → Gl Z p e below s n0 P C S (T.setTop (mkF m n ls st))) (K2 : y.toInt < x.toInt → Gl Z p e below s n0 P C S (T.setTop (mkF m n' ls st))) : Gl Z p e below s n0 P C S (T.setTop (mkF m pc ls (.int (XT.cmpL x y) :: st))) := by
  obtain ⟨_, vm0, k0, X, -, -, -, hS, -⟩ := X; obtain ⟨hx, hby, -⟩ := w; subst hn
  by_cases q : y < x
  · exact Gl.of (fun t k => XS.ifNo X.here hx rfl (hb hby hd) rfl (XT.ll_le_f q) k) (K2 (Int64.lt_iff_toInt_lt.mp q))
  · exact Gl.of (fun t k => XS.ifYes X.here hx rfl rfl (hb hby hd) rfl (XT.ll_le_t q) ho hp k) (K1 (Int.not_lt.mp fun q' => q (Int64.lt_iff_toInt_lt.mpr q')))
theorem gAcmp_eq (X : Sd Z D p l e R s m args below meth c n0 T h cells slots) (w : Cx Z own nm bytes maxL ret p s m meth c) {x y : Value} {o : Int} (hd : decode bytes pc = .ok (.if_acmp .eq o, 3)) (hx' : x.isRef = true) (hy' : y.isRef = true) (ho : 0 ≤ (pc : Int) + o) {n' : Nat} (hp : ((pc : Int) + o).toNat = n) (hn : pc + 3 = n') (K1 : x = y → Gl Z p e below s n0 P C S (T.setTop (mkF m n ls st))) (K2 : ¬ x = y → Gl Z p e below s n0 P C S (T.setTop (mkF m n' ls st))) : Gl Z p e below s n0 P C S (T.setTop (mkF m pc ls (y :: x :: st))) := by
  obtain ⟨_, vm0, k0, X, -, -, -, hS, -⟩ := X; obtain ⟨hx, hby, -⟩ := w; subst hn
  by_cases q : x = y
  · exact Gl.of (fun t k => XT.acmpYes X.here hx rfl rfl (hb hby hd) rfl hx' hy' (XT.aa_eq_t q) ho hp k) (K1 q)
  · exact Gl.of (fun t k => XT.acmpNo X.here hx rfl (hb hby hd) rfl hx' hy' (XT.aa_eq_f q) k) (K2 q)
theorem gAcmp_ne (X : Sd Z D p l e R s m args below meth c n0 T h cells slots) (w : Cx Z own nm bytes maxL ret p s m meth c) {x y : Value} {o : Int} (hd : decode bytes pc = .ok (.if_acmp .ne o, 3)) (hx' : x.isRef = true) (hy' : y.isRef = true) (ho : 0 ≤ (pc : Int) + o) {n' : Nat} (hp : ((pc : Int) + o).toNat = n) (hn : pc + 3 = n') (K1 : ¬ x = y → Gl Z p e below s n0 P C S (T.setTop (mkF m n ls st))) (K2 : x = y → Gl Z p e below s n0 P C S (T.setTop (mkF m n' ls st))) : Gl Z p e below s n0 P C S (T.setTop (mkF m pc ls (y :: x :: st))) := by
  obtain ⟨_, vm0, k0, X, -, -, -, hS, -⟩ := X; obtain ⟨hx, hby, -⟩ := w; subst hn
  by_cases q : x = y
  · exact Gl.of (fun t k => XT.acmpNo X.here hx rfl (hb hby hd) rfl hx' hy' (XT.aa_ne_f q) k) (K2 q)
  · exact Gl.of (fun t k => XT.acmpYes X.here hx rfl rfl (hb hby hd) rfl hx' hy' (XT.aa_ne_t q) ho hp k) (K1 q)
theorem gIfnullY (X : Sd Z D p l e R s m args below meth c n0 T h cells slots) (w : Cx Z own nm bytes maxL ret p s m meth c) {o : Int} (hd : decode bytes pc = .ok (.ifnull o, 3)) (ho : 0 ≤ (pc : Int) + o) (hp : ((pc : Int) + o).toNat = n) (K : Gl Z p e below s n0 P C S (T.setTop (mkF m n ls st))) : Gl Z p e below s n0 P C S (T.setTop (mkF m pc ls (.null :: st))) := by
  obtain ⟨_, vm0, k0, X, -, -, -, hS, -⟩ := X; obtain ⟨hx, hby, hZ, hown, -⟩ := w; have hZ := State.Warmed39.trans hZ hS.1; have hown := (hS.1.alike.findClass _ _).trans hown; 
  exact Gl.of (fun t k => XS.ifnullYes X.here hx rfl rfl (hb hby hd) rfl ho hp k) K
theorem gIfnullN (X : Sd Z D p l e R s m args below meth c n0 T h cells slots) (w : Cx Z own nm bytes maxL ret p s m meth c) {o : Int} {b : Addr} (hd : decode bytes pc = .ok (.ifnull o, 3)) (hn : pc + 3 = n) (K : Gl Z p e below s n0 P C S (T.setTop (mkF m n ls st))) : Gl Z p e below s n0 P C S (T.setTop (mkF m pc ls (.ref b :: st))) := by
  obtain ⟨_, vm0, k0, X, -, -, -, hS, -⟩ := X; obtain ⟨hx, hby, hZ, hown, -⟩ := w; have hZ := State.Warmed39.trans hZ hS.1; have hown := (hS.1.alike.findClass _ _).trans hown; subst hn
  exact Gl.of (fun t k => XS.ifnullNo X.here hx rfl (hb hby hd) rfl k) K
theorem gIfnonnullY (X : Sd Z D p l e R s m args below meth c n0 T h cells slots) (w : Cx Z own nm bytes maxL ret p s m meth c) {o : Int} {b : Addr} (hd : decode bytes pc = .ok (.ifnonnull o, 3)) (ho : 0 ≤ (pc : Int) + o) (hp : ((pc : Int) + o).toNat = n) (K : Gl Z p e below s n0 P C S (T.setTop (mkF m n ls st))) : Gl Z p e below s n0 P C S (T.setTop (mkF m pc ls (.ref b :: st))) := by
  obtain ⟨_, vm0, k0, X, -, -, -, hS, -⟩ := X; obtain ⟨hx, hby, hZ, hown, -⟩ := w; have hZ := State.Warmed39.trans hZ hS.1; have hown := (hS.1.alike.findClass _ _).trans hown; 
  exact Gl.of (fun t k => XT.ifnonnullYes X.here hx rfl rfl (hb hby hd) rfl ho hp k) K
theorem gIfnonnullN (X : Sd Z D p l e R s m args below meth c n0 T h cells slots) (w : Cx Z own nm bytes maxL ret p s m meth c) {o : Int} (hd : decode bytes pc = .ok (.ifnonnull o, 3)) (hn : pc + 3 = n) (K : Gl Z p e below s n0 P C S (T.setTop (mkF m n ls st))) : Gl Z p e below s n0 P C S (T.setTop (mkF m pc ls (.null :: st))) := by
  obtain ⟨_, vm0, k0, X, -, -, -, hS, -⟩ := X; obtain ⟨hx, hby, hZ, hown, -⟩ := w; have hZ := State.Warmed39.trans hZ hS.1; have hown := (hS.1.alike.findClass _ _).trans hown; subst hn
  exact Gl.of (fun t k => XT.ifnonnullNo X.here hx rfl (hb hby hd) rfl k) K
theorem gRet (X : Sd Z D p l e R s m args below meth c n0 T h cells slots) (w : Cx Z own nm bytes maxL ret p s m meth c) {v : Value} {t : FieldType} {i : Instr} (hret : ret = some t) (hn : narrow t v = v) (hi : (i = .ireturn ∧ (t = .int ∨ t = .boolean ∨ t = .byte ∨ t = .char ∨ t = .short) ∧ ∃ z, v = .int z) ∨ (i = .lreturn ∧ t = .long ∧ ∃ z, v = .long z) ∨ (i = .dreturn ∧ t = .double ∧ ∃ z, v = .double z) ∨ (i = .freturn ∧ t = .float ∧ ∃ z, v = .float z) ∨ (i = .areturn ∧ t.isReference = true ∧ v.isRef = true))
    (hd : decode bytes pc = .ok (i, 1)) (hc : cells ≤ C) (hs : slots ≤ S) (hP : P (some v) h D) : Gl Z p e below s n0 P C S (T.setTop (mkF m pc ls (v :: st))) := by
  obtain ⟨locs, vm0, k0, X, N, eh, -, hS, hk0, hH⟩ := X; obtain ⟨hx, hby, hZ, hown, -, -, hr', hlk⟩ := w
  obtain ⟨fs, hr, hrun, hended, hW, hsame⟩ := X.leave (v := some v) (fun q => by rw [hr', hret] at q; cases q) hlk
  refine ⟨_, _, retOut X hx (hr'.trans hret) hn hi (hb hby hd) hr, hrun, hended, _, _, D, rfl, ⟨?_, N, ?_⟩, ⟨_, rfl⟩, (hS.ended hW (by show k0 ≤ T.heap.size; rw [eh]; exact hk0) (hsame.mono hc hs)).1, (hS.ended hW (by show k0 ≤ T.heap.size; rw [eh]; exact hk0) (hsame.mono hc hs)).2.1, (hS.ended hW (by show k0 ≤ T.heap.size; rw [eh]; exact hk0) (hsame.mono hc hs)).2.2⟩
  · show P (some v) T.heap D
    rw [eh]; exact hP
  · show Hd Z n0 D T.vm T.heap
    rw [eh]; exact hH.at X (State.Warmed39.trans hZ hS.1)
theorem gRetI (X : Sd Z D p l e R s m args below meth c n0 T h cells slots) (w : Cx Z own nm bytes maxL ret p s m meth c) {z : Int32} (hret : ret = some .int) (hd : decode bytes pc = .ok (.ireturn, 1)) (hc : cells ≤ C) (hs : slots ≤ S) (hP : P (some (.int z)) h D) : Gl Z p e below s n0 P C S (T.setTop (mkF m pc ls (.int z :: st))) := gRet X w hret rfl (Or.inl ⟨rfl, Or.inl rfl, z, rfl⟩) hd hc hs hP
theorem gRetZ (X : Sd Z D p l e R s m args below meth c n0 T h cells slots) (w : Cx Z own nm bytes maxL ret p s m meth c) {z : Int32} (hret : ret = some .boolean) (hz : z = 0 ∨ z = 1) (hd : decode bytes pc = .ok (.ireturn, 1)) (hc : cells ≤ C) (hs : slots ≤ S) (hP : P (some (.int z)) h D) : Gl Z p e below s n0 P C S (T.setTop (mkF m pc ls (.int z :: st))) := gRet X w hret (by rcases hz with rfl | rfl <;> rfl) (Or.inl ⟨rfl, Or.inr (Or.inl rfl), z, rfl⟩) hd hc hs hP
theorem gRetJ (X : Sd Z D p l e R s m args below meth c n0 T h cells slots) (w : Cx Z own nm bytes maxL ret p s m meth c) {z : Int64} (hret : ret = some .long) (hd : decode bytes pc = .ok (.lreturn, 1)) (hc : cells ≤ C) (hs : slots ≤ S) (hP : P (some (.long z)) h D) : Gl Z p e below s n0 P C S (T.setTop (mkF m pc ls (.long z :: st))) := gRet X w hret rfl (Or.inr (Or.inl ⟨rfl, rfl, z, rfl⟩)) hd hc hs hP
theorem gRetD (X : Sd Z D p l e R s m args below meth c n0 T h cells slots) (w : Cx Z own nm bytes maxL ret p s m meth c) {z : UInt64} (hret : ret = some .double) (hd : decode bytes pc = .ok (.dreturn, 1)) (hc : cells ≤ C) (hs : slots ≤ S) (hP : P (some (.double z)) h D) : Gl Z p e below s n0 P C S (T.setTop (mkF m pc ls (.double z :: st))) := gRet X w hret rfl (Or.inr (Or.inr (Or.inl ⟨rfl, rfl, z, rfl⟩))) hd hc hs hP
theorem gRetA (X : Sd Z D p l e R s m args below meth c n0 T h cells slots) (w : Cx Z own nm bytes maxL ret p s m meth c) {v : Value} {t : FieldType} (hret : ret = some t) (ht : t.isReference = true) (hv : v.isRef = true) (hd : decode bytes pc = .ok (.areturn, 1)) (hc : cells ≤ C) (hs : slots ≤ S) (hP : P (some v) h D) : Gl Z p e below s n0 P C S (T.setTop (mkF m pc ls (v :: st))) := gRet X w hret (by rcases ref_cases hv with rfl | ⟨a, rfl⟩ <;> cases t <;> first | rfl | cases ht) (Or.inr (Or.inr (Or.inr (Or.inr ⟨rfl, ht, hv⟩)))) hd hc hs hP
theorem gRetV (X : Sd Z D p l e R s m args below meth c n0 T h cells slots) (w : Cx Z own nm bytes maxL ret p s m meth c) (hret : ret = none) (hd : decode bytes pc = .ok (.return_, 1)) (hc : cells ≤ C) (hs : slots ≤ S) (hP : P none h D) : Gl Z p e below s n0 P C S (T.setTop (mkF m pc ls [])) := by
  obtain ⟨locs, vm0, k0, X, N, eh, -, hS, hk0, hH⟩ := X; obtain ⟨hx, hby, hZ, hown, -, -, hr', hlk⟩ := w
  obtain ⟨fs, hr, hrun, hended, hW, hsame⟩ := X.leave (v := none) (fun q => rfl) hlk
  refine ⟨_, _, X.returnOut hx (hr'.trans hret) (hb hby hd) hr, hrun, hended, _, _, D, rfl, ⟨?_, N, ?_⟩, ⟨_, rfl⟩, (hS.ended hW (by show k0 ≤ T.heap.size; rw [eh]; exact hk0) (hsame.mono hc hs)).1, (hS.ended hW (by show k0 ≤ T.heap.size; rw [eh]; exact hk0) (hsame.mono hc hs)).2.1, (hS.ended hW (by show k0 ≤ T.heap.size; rw [eh]; exact hk0) (hsame.mono hc hs)).2.2⟩
  · show P none T.heap D
    rw [eh]; exact hP
  · show Hd Z n0 D T.vm T.heap
    rw [eh]; exact hH.at X (State.Warmed39.trans hZ hS.1)
theorem gCallS (X : Sd Z D p l e R s m args below meth c n0 T h cells slots) (w : Cx Z own nm bytes maxL ret p s m meth c) {y : MethodName} {yb : ByteArray} {yl : Nat} {yr : Option FieldType} {rm : Room} {Q : Option Value → Heap → (Addr → Prop) → Prop} {idx W : Nat} (aL rest : List Value) {ps : List FieldType} {r : Option FieldType}
    (hM : Con l Z y yb yl yr [] rm rm.cells rm.slots aL.toArray h n0 D Q) (w1 : (Jvm.Cond.methodLink own idx y).before a0 Z = true) (w2 : (Jvm.Cond.static y).before a0 Z = true) (w3 : (Jvm.Cond.initialized y.cls).before a0 Z = true) (w4 : (Jvm.Cond.code y yb yl yr).before a0 Z = true) (hy : y.cls ≠ "java/lang/invoke/MethodHandle" ∧ y.cls ≠ "java/lang/invoke/VarHandle")
    (hpd : parseMethodDescriptor y.desc = some ⟨ps, r⟩) (hlen : aL.length = ps.length) (hstk : st = aL.reverse ++ rest) (hd : decode bytes pc = .ok (.invokestatic idx, 3)) (hsz : ls.size = maxL) (hW : (rest.map fun v => v.category).sum ≤ W)
    (hf : rm.frames + 1 ≤ R.frames) (hl : W + (yl + 11) + rm.locals ≤ R.locals) (hcc : cells + rm.cells ≤ R.cells) (hss : slots + rm.slots ≤ R.slots) (hn : pc + 3 = n)
    (K : ∀ T' h' v (D' : Addr → Prop), Q v h' D' → Sd Z D' p l e R s m args below meth c n0 T' h' (cells + rm.cells) (slots + rm.slots) → Gl Z p e below s n0 P C S (T'.setTop (mkF m n ls (v.toList ++ rest)))) : Gl Z p e below s n0 P C S (T.setTop (mkF m pc ls st)) := by
  obtain ⟨locs, vm0, k0, X, N, eh, hn0, hS, hk0, hH⟩ := X; obtain ⟨hx, hby, hZ, hown, -, hml, -⟩ := w; have hZ := State.Warmed39.trans hZ hS.1; have hown := (hS.1.alike.findClass _ _).trans hown; subst hn
  obtain ⟨v, vm, ⟨T', L, k, sl⟩, -, X', hS2, hgr, ⟨Lc, D', ⟨hQ, NL, hH'⟩, l1, y1, z1⟩, st'⟩ := callSS X hx (y := y) hown (mvT hZ w1) (mvT hZ w2) (mvT hZ w3) (mvT hZ w4) hy (backOfSD (W := W) hM hZ w4 w3 hf hl hH) (g := mkF m pc ls st) rfl (by rw [hml]; exact hsz) (argsL := aL) (rest := rest) (lenOf hpd hlen) hstk (by show 2 * 0 + _ ≤ _; rw [Nat.mul_zero, Nat.zero_add]; exact hW) (hb hby hd) (fun _ _ => ⟨rfl, eh, hcc, hss⟩)
  dsimp only [Pt.U, Pt.locs, Pt.cells, Pt.slots] at X' l1 y1 z1 st' hQ hS2 hgr hH'
  subst l1 y1 z1
  exact Gl.of (fun t k => st'.trans k) (K T' T'.heap v D' hQ ⟨_, T'.vm, T'.heap.size, X', Fr.app N NL, rfl, hn0, hS.trans hS2 (Nat.le_trans hk0 (by rw [← eh]; exact hgr)), Nat.le_refl _, hH'⟩)
theorem gCallV (X : Sd Z D p l e R s m args below meth c n0 T h cells slots) (w : Cx Z own nm bytes maxL ret p s m meth c) {y z : MethodName} {yb : ByteArray} {yl : Nat} {yr : Option FieldType} {rm : Room} {Q : Option Value → Heap → (Addr → Prop) → Prop} {idx W : Nat} {b : Addr} {C0 : String} (aL rest : List Value) {ps : List FieldType} {r : Option FieldType} (E : Exa Z h b C0)
    (hM : Con l Z z yb yl yr [] rm rm.cells rm.slots (.ref b :: aL).toArray h n0 D Q) (w1 : (Jvm.Cond.methodLink own idx y).before a0 Z = true) (w2 : (Jvm.Cond.declares y).before a0 Z = true) (hnf : ∀ vm0, s.Since vm0 h.size → NotFace (s.setVm vm0) y) (w5 : (Jvm.Cond.selects C0 y z).before a0 Z = true) (w6 : (Jvm.Cond.instanceMethod z).before a0 Z = true) (w3 : (Jvm.Cond.initialized z.cls).before a0 Z = true) (w4 : (Jvm.Cond.code z yb yl yr).before a0 Z = true) (hy : y.cls ≠ "java/lang/invoke/MethodHandle" ∧ y.cls ≠ "java/lang/invoke/VarHandle")
    (hpd : parseMethodDescriptor y.desc = some ⟨ps, r⟩) (hlen : aL.length = ps.length) (hstk : st = aL.reverse ++ .ref b :: rest) (hd : decode bytes pc = .ok (.invokevirtual idx, 3)) (hsz : ls.size = maxL) (hW : (rest.map fun v => v.category).sum ≤ W)
    (hf : rm.frames + 1 ≤ R.frames) (hl : W + (yl + 11) + rm.locals ≤ R.locals) (hcc : cells + rm.cells ≤ R.cells) (hss : slots + rm.slots ≤ R.slots) (hn : pc + 3 = n)
    (K : ∀ T' h' v (D' : Addr → Prop), Q v h' D' → Sd Z D' p l e R s m args below meth c n0 T' h' (cells + rm.cells) (slots + rm.slots) → Gl Z p e below s n0 P C S (T'.setTop (mkF m n ls (v.toList ++ rest)))) : Gl Z p e below s n0 P C S (T.setTop (mkF m pc ls st)) := by
  obtain ⟨locs, vm0, k0, X, N, eh, hn0, hS, hk0, hH⟩ := X; obtain ⟨hx, hby, hZ, hown, -, hml, -⟩ := w; have hZ := State.Warmed39.trans hZ hS.1; have hown := (hS.1.alike.findClass _ _).trans hown; subst hn
  obtain ⟨cq, kq, qa, qb, qc⟩ := isOf (s := s.setVm vm0) hZ eh E
  obtain ⟨v, vm, ⟨T', L, k, sl⟩, -, X', hS2, hgr, ⟨Lc, D', ⟨hQ, NL, hH'⟩, l1, y1, z1⟩, st'⟩ := X.virtualBackS hx (y := y) (z := z) hown (mvT hZ w1) (mvT hZ w2) (hnf vm0 ⟨hS.1, hS.2.mono hk0⟩) (mvT hZ w5) (mvT hZ w6) hy (backOfSD (W := W) hM hZ w4 w3 hf hl hH) qa qc (g := mkF m pc ls st) rfl (by rw [hml]; exact hsz) (Steps.refl _) (argsL := aL) (rest := rest) (lenOf hpd hlen) hstk (by show 2 * 0 + _ ≤ _; rw [Nat.mul_zero, Nat.zero_add]; exact hW) (hb hby hd) (fun _ _ => ⟨rfl, eh, hcc, hss⟩)
  dsimp only [Pt.U, Pt.locs, Pt.cells, Pt.slots] at X' l1 y1 z1 st' hQ hS2 hgr hH'
  subst l1 y1 z1
  exact Gl.of (fun t k => st'.trans k) (K T' T'.heap v D' hQ ⟨_, T'.vm, T'.heap.size, X', Fr.app N NL, rfl, hn0, hS.trans hS2 (Nat.le_trans hk0 (by rw [← eh]; exact hgr)), Nat.le_refl _, hH'⟩)
theorem gCallI (X : Sd Z D p l e R s m args below meth c n0 T h cells slots) (w : Cx Z own nm bytes maxL ret p s m meth c) {y : MethodName} {yb : ByteArray} {yl : Nat} {rm : Room} {Q : Option Value → Heap → (Addr → Prop) → Prop} {idx W : Nat} {b : Addr} (aL rest : List Value) {ps : List FieldType} {r : Option FieldType} (hy1 : y.name = "<init>")
    (hM : Con l Z y yb yl none [] rm rm.cells rm.slots (.ref b :: aL).toArray h n0 D Q) (w1 : (Jvm.Cond.methodLink own idx y).before a0 Z = true) (w2 : (Jvm.Cond.instanceMethod y).before a0 Z = true) (w3 : (Jvm.Cond.initialized y.cls).before a0 Z = true) (w4 : (Jvm.Cond.code y yb yl none).before a0 Z = true) (hy : y.cls ≠ "java/lang/invoke/MethodHandle" ∧ y.cls ≠ "java/lang/invoke/VarHandle")
    (hpd : parseMethodDescriptor y.desc = some ⟨ps, r⟩) (hlen : aL.length = ps.length) (hstk : st = aL.reverse ++ .ref b :: rest) (hd : decode bytes pc = .ok (.invokespecial idx, 3)) (hsz : ls.size = maxL) (hW : (rest.map fun v => v.category).sum ≤ W)
    (hf : rm.frames + 1 ≤ R.frames) (hl : W + (yl + 11) + rm.locals ≤ R.locals) (hcc : cells + rm.cells ≤ R.cells) (hss : slots + rm.slots ≤ R.slots) (hn : pc + 3 = n)
    (K : ∀ T' h' v (D' : Addr → Prop), Q v h' D' → Sd Z D' p l e R s m args below meth c n0 T' h' (cells + rm.cells) (slots + rm.slots) → Gl Z p e below s n0 P C S (T'.setTop (mkF m n ls (v.toList ++ rest)))) : Gl Z p e below s n0 P C S (T.setTop (mkF m pc ls st)) := by
  obtain ⟨locs, vm0, k0, X, N, eh, hn0, hS, hk0, hH⟩ := X; obtain ⟨hx, hby, hZ, hown, -, hml, -⟩ := w; have hZ := State.Warmed39.trans hZ hS.1; have hown := (hS.1.alike.findClass _ _).trans hown; subst hn
  obtain ⟨v, vm, ⟨T', L, k, sl⟩, -, X', hS2, hgr, ⟨Lc, D', ⟨hQ, NL, hH'⟩, l1, y1, z1⟩, st'⟩ := X.specialBackS hx (y := y) hy1 hown (mvT hZ w1) (mvT hZ w2) (mvT hZ w4) hy (backOfSD (W := W) hM hZ w4 w3 hf hl hH) (g := mkF m pc ls st) rfl (by rw [hml]; exact hsz) (Steps.refl _) (a := b) (argsL := aL) (rest := rest) (lenOf hpd hlen) hstk (by show 2 * 0 + _ ≤ _; rw [Nat.mul_zero, Nat.zero_add]; exact hW) (hb hby hd) (fun _ _ => ⟨rfl, eh, hcc, hss⟩)
  dsimp only [Pt.U, Pt.locs, Pt.cells, Pt.slots] at X' l1 y1 z1 st' hQ hS2 hgr hH'
  subst l1 y1 z1
  exact Gl.of (fun t k => st'.trans k) (K T' T'.heap v D' hQ ⟨_, T'.vm, T'.heap.size, X', Fr.app N NL, rfl, hn0, hS.trans hS2 (Nat.le_trans hk0 (by rw [← eh]; exact hgr)), Nat.le_refl _, hH'⟩)
theorem gCallSv (X : Sd Z D p l e R s m args below meth c n0 T h cells slots) (w : Cx Z own nm bytes maxL ret p s m meth c) {y : MethodName} {yb : ByteArray} {yl : Nat} {yr : Option FieldType} {rm : Room} {Q : Value → Heap → Prop} {idx W : Nat} (aL rest : List Value) {ps : List FieldType} {r : Option FieldType}
    (hM : ConV l Z y yb yl yr rm aL.toArray h n0 D Q) (w1 : (Jvm.Cond.methodLink own idx y).before a0 Z = true) (w2 : (Jvm.Cond.static y).before a0 Z = true) (w3 : (Jvm.Cond.initialized y.cls).before a0 Z = true) (w4 : (Jvm.Cond.code y yb yl yr).before a0 Z = true) (hy : y.cls ≠ "java/lang/invoke/MethodHandle" ∧ y.cls ≠ "java/lang/invoke/VarHandle")
    (hpd : parseMethodDescriptor y.desc = some ⟨ps, r⟩) (hlen : aL.length = ps.length) (hstk : st = aL.reverse ++ rest) (hd : decode bytes pc = .ok (.invokestatic idx, 3)) (hsz : ls.size = maxL) (hW : (rest.map fun v => v.category).sum ≤ W)
    (hf : rm.frames + 1 ≤ R.frames) (hl : W + (yl + 11) + rm.locals ≤ R.locals) (hcc : cells + rm.cells ≤ R.cells) (hss : slots + rm.slots ≤ R.slots) (hn : pc + 3 = n)
    (K : ∀ T' h' v, Q v h' → Sd Z D p l e R s m args below meth c n0 T' h' (cells + rm.cells) (slots + rm.slots) → Gl Z p e below s n0 P C S (T'.setTop (mkF m n ls (v :: rest)))) : Gl Z p e below s n0 P C S (T.setTop (mkF m pc ls st)) :=
  gCallS X w aL rest hM w1 w2 w3 w4 hy hpd hlen hstk hd hsz hW hf hl hcc hss hn (fun T' h' v D' q X2 => by obtain ⟨e_, v', rfl, q⟩ := q; exact K T' h' v' q (by rw [← e_]; exact X2))
theorem gCallSvL (X : Sd Z D p l e R s m args below meth c n0 T h cells slots) (w : Cx Z own nm bytes maxL ret p s m meth c) {y : MethodName} {yb : ByteArray} {yl : Nat} {yr : Option FieldType} {rm : Room} {Q : Value → Heap → (Addr → Prop) → Prop} {idx W : Nat} (aL rest : List Value) {ps : List FieldType} {r : Option FieldType}
    (hM : ConVL l Z y yb yl yr rm aL.toArray h n0 D Q) (w1 : (Jvm.Cond.methodLink own idx y).before a0 Z = true) (w2 : (Jvm.Cond.static y).before a0 Z = true) (w3 : (Jvm.Cond.initialized y.cls).before a0 Z = true) (w4 : (Jvm.Cond.code y yb yl yr).before a0 Z = true) (hy : y.cls ≠ "java/lang/invoke/MethodHandle" ∧ y.cls ≠ "java/lang/invoke/VarHandle")
    (hpd : parseMethodDescriptor y.desc = some ⟨ps, r⟩) (hlen : aL.length = ps.length) (hstk : st = aL.reverse ++ rest) (hd : decode bytes pc = .ok (.invokestatic idx, 3)) (hsz : ls.size = maxL) (hW : (rest.map fun v => v.category).sum ≤ W)
    (hf : rm.frames + 1 ≤ R.frames) (hl : W + (yl + 11) + rm.locals ≤ R.locals) (hcc : cells + rm.cells ≤ R.cells) (hss : slots + rm.slots ≤ R.slots) (hn : pc + 3 = n)
    (K : ∀ T' h' v (D' : Addr → Prop), Q v h' D' → Sd Z D' p l e R s m args below meth c n0 T' h' (cells + rm.cells) (slots + rm.slots) → Gl Z p e below s n0 P C S (T'.setTop (mkF m n ls (v :: rest)))) : Gl Z p e below s n0 P C S (T.setTop (mkF m pc ls st)) :=
  gCallS X w aL rest hM w1 w2 w3 w4 hy hpd hlen hstk hd hsz hW hf hl hcc hss hn (fun T' h' v D' q X => by obtain ⟨v', rfl, q⟩ := q; exact K T' h' v' D' q X)
theorem gCallSn (X : Sd Z D p l e R s m args below meth c n0 T h cells slots) (w : Cx Z own nm bytes maxL ret p s m meth c) {y : MethodName} {yb : ByteArray} {yl : Nat} {rm : Room} {Q : Heap → Prop} {idx W : Nat} (aL rest : List Value) {ps : List FieldType} {r : Option FieldType}
    (hM : ConN l Z y yb yl rm aL.toArray h n0 D Q) (w1 : (Jvm.Cond.methodLink own idx y).before a0 Z = true) (w2 : (Jvm.Cond.static y).before a0 Z = true) (w3 : (Jvm.Cond.initialized y.cls).before a0 Z = true) (w4 : (Jvm.Cond.code y yb yl none).before a0 Z = true) (hy : y.cls ≠ "java/lang/invoke/MethodHandle" ∧ y.cls ≠ "java/lang/invoke/VarHandle")
    (hpd : parseMethodDescriptor y.desc = some ⟨ps, r⟩) (hlen : aL.length = ps.length) (hstk : st = aL.reverse ++ rest) (hd : decode bytes pc = .ok (.invokestatic idx, 3)) (hsz : ls.size = maxL) (hW : (rest.map fun v => v.category).sum ≤ W)
    (hf : rm.frames + 1 ≤ R.frames) (hl : W + (yl + 11) + rm.locals ≤ R.locals) (hcc : cells + rm.cells ≤ R.cells) (hss : slots + rm.slots ≤ R.slots) (hn : pc + 3 = n)
    (K : ∀ T' h', Q h' → Sd Z D p l e R s m args below meth c n0 T' h' (cells + rm.cells) (slots + rm.slots) → Gl Z p e below s n0 P C S (T'.setTop (mkF m n ls rest))) : Gl Z p e below s n0 P C S (T.setTop (mkF m pc ls st)) :=
  gCallS X w aL rest hM w1 w2 w3 w4 hy hpd hlen hstk hd hsz hW hf hl hcc hss hn (fun T' h' v D' q X2 => by obtain ⟨e_, rfl, q⟩ := q; exact K T' h' q (by rw [← e_]; exact X2))
theorem gCallSnL (X : Sd Z D p l e R s m args below meth c n0 T h cells slots) (w : Cx Z own nm bytes maxL ret p s m meth c) {y : MethodName} {yb : ByteArray} {yl : Nat} {rm : Room} {Q : Heap → (Addr → Prop) → Prop} {idx W : Nat} (aL rest : List Value) {ps : List FieldType} {r : Option FieldType}
    (hM : ConNL l Z y yb yl rm aL.toArray h n0 D Q) (w1 : (Jvm.Cond.methodLink own idx y).before a0 Z = true) (w2 : (Jvm.Cond.static y).before a0 Z = true) (w3 : (Jvm.Cond.initialized y.cls).before a0 Z = true) (w4 : (Jvm.Cond.code y yb yl none).before a0 Z = true) (hy : y.cls ≠ "java/lang/invoke/MethodHandle" ∧ y.cls ≠ "java/lang/invoke/VarHandle")
    (hpd : parseMethodDescriptor y.desc = some ⟨ps, r⟩) (hlen : aL.length = ps.length) (hstk : st = aL.reverse ++ rest) (hd : decode bytes pc = .ok (.invokestatic idx, 3)) (hsz : ls.size = maxL) (hW : (rest.map fun v => v.category).sum ≤ W)
    (hf : rm.frames + 1 ≤ R.frames) (hl : W + (yl + 11) + rm.locals ≤ R.locals) (hcc : cells + rm.cells ≤ R.cells) (hss : slots + rm.slots ≤ R.slots) (hn : pc + 3 = n)
    (K : ∀ T' h' (D' : Addr → Prop), Q h' D' → Sd Z D' p l e R s m args below meth c n0 T' h' (cells + rm.cells) (slots + rm.slots) → Gl Z p e below s n0 P C S (T'.setTop (mkF m n ls rest))) : Gl Z p e below s n0 P C S (T.setTop (mkF m pc ls st)) :=
  gCallS X w aL rest hM w1 w2 w3 w4 hy hpd hlen hstk hd hsz hW hf hl hcc hss hn (fun T' h' v D' q X => by obtain ⟨rfl, q⟩ := q; exact K T' h' D' q X)
theorem gCallVv (X : Sd Z D p l e R s m args below meth c n0 T h cells slots) (w : Cx Z own nm bytes maxL ret p s m meth c) {y z : MethodName} {yb : ByteArray} {yl : Nat} {yr : Option FieldType} {rm : Room} {Q : Value → Heap → Prop} {idx W : Nat} {b : Addr} {C0 : String} (aL rest : List Value) {ps : List FieldType} {r : Option FieldType} (E : Exa Z h b C0)
    (hM : ConV l Z z yb yl yr rm (.ref b :: aL).toArray h n0 D Q) (w1 : (Jvm.Cond.methodLink own idx y).before a0 Z = true) (w2 : (Jvm.Cond.declares y).before a0 Z = true) (hnf : ∀ vm0, s.Since vm0 h.size → NotFace (s.setVm vm0) y) (w5 : (Jvm.Cond.selects C0 y z).before a0 Z = true) (w6 : (Jvm.Cond.instanceMethod z).before a0 Z = true) (w3 : (Jvm.Cond.initialized z.cls).before a0 Z = true) (w4 : (Jvm.Cond.code z yb yl yr).before a0 Z = true) (hy : y.cls ≠ "java/lang/invoke/MethodHandle" ∧ y.cls ≠ "java/lang/invoke/VarHandle")
    (hpd : parseMethodDescriptor y.desc = some ⟨ps, r⟩) (hlen : aL.length = ps.length) (hstk : st = aL.reverse ++ .ref b :: rest) (hd : decode bytes pc = .ok (.invokevirtual idx, 3)) (hsz : ls.size = maxL) (hW : (rest.map fun v => v.category).sum ≤ W)
    (hf : rm.frames + 1 ≤ R.frames) (hl : W + (yl + 11) + rm.locals ≤ R.locals) (hcc : cells + rm.cells ≤ R.cells) (hss : slots + rm.slots ≤ R.slots) (hn : pc + 3 = n)
    (K : ∀ T' h' v, Q v h' → Sd Z D p l e R s m args below meth c n0 T' h' (cells + rm.cells) (slots + rm.slots) → Gl Z p e below s n0 P C S (T'.setTop (mkF m n ls (v :: rest)))) : Gl Z p e below s n0 P C S (T.setTop (mkF m pc ls st)) :=
  gCallV X w aL rest E hM w1 w2 hnf w5 w6 w3 w4 hy hpd hlen hstk hd hsz hW hf hl hcc hss hn (fun T' h' v D' q X2 => by obtain ⟨e_, v', rfl, q⟩ := q; exact K T' h' v' q (by rw [← e_]; exact X2))
theorem gCallVvL (X : Sd Z D p l e R s m args below meth c n0 T h cells slots) (w : Cx Z own nm bytes maxL ret p s m meth c) {y z : MethodName} {yb : ByteArray} {yl : Nat} {yr : Option FieldType} {rm : Room} {Q : Value → Heap → (Addr → Prop) → Prop} {idx W : Nat} {b : Addr} {C0 : String} (aL rest : List Value) {ps : List FieldType} {r : Option FieldType} (E : Exa Z h b C0)
    (hM : ConVL l Z z yb yl yr rm (.ref b :: aL).toArray h n0 D Q) (w1 : (Jvm.Cond.methodLink own idx y).before a0 Z = true) (w2 : (Jvm.Cond.declares y).before a0 Z = true) (hnf : ∀ vm0, s.Since vm0 h.size → NotFace (s.setVm vm0) y) (w5 : (Jvm.Cond.selects C0 y z).before a0 Z = true) (w6 : (Jvm.Cond.instanceMethod z).before a0 Z = true) (w3 : (Jvm.Cond.initialized z.cls).before a0 Z = true) (w4 : (Jvm.Cond.code z yb yl yr).before a0 Z = true) (hy : y.cls ≠ "java/lang/invoke/MethodHandle" ∧ y.cls ≠ "java/lang/invoke/VarHandle")
    (hpd : parseMethodDescriptor y.desc = some ⟨ps, r⟩) (hlen : aL.length = ps.length) (hstk : st = aL.reverse ++ .ref b :: rest) (hd : decode bytes pc = .ok (.invokevirtual idx, 3)) (hsz : ls.size = maxL) (hW : (rest.map fun v => v.category).sum ≤ W)
    (hf : rm.frames + 1 ≤ R.frames) (hl : W + (yl + 11) + rm.locals ≤ R.locals) (hcc : cells + rm.cells ≤ R.cells) (hss : slots + rm.slots ≤ R.slots) (hn : pc + 3 = n)
    (K : ∀ T' h' v (D' : Addr → Prop), Q v h' D' → Sd Z D' p l e R s m args below meth c n0 T' h' (cells + rm.cells) (slots + rm.slots) → Gl Z p e below s n0 P C S (T'.setTop (mkF m n ls (v :: rest)))) : Gl Z p e below s n0 P C S (T.setTop (mkF m pc ls st)) :=
  gCallV X w aL rest E hM w1 w2 hnf w5 w6 w3 w4 hy hpd hlen hstk hd hsz hW hf hl hcc hss hn (fun T' h' v D' q X => by obtain ⟨v', rfl, q⟩ := q; exact K T' h' v' D' q X)
theorem gCallIn (X : Sd Z D p l e R s m args below meth c n0 T h cells slots) (w : Cx Z own nm bytes maxL ret p s m meth c) {y : MethodName} {yb : ByteArray} {yl : Nat} {rm : Room} {Q : Heap → Prop} {idx W : Nat} {b : Addr} (aL rest : List Value) {ps : List FieldType} {r : Option FieldType} (hy1 : y.name = "<init>")
    (hM : ConN l Z y yb yl rm (.ref b :: aL).toArray h n0 D Q) (w1 : (Jvm.Cond.methodLink own idx y).before a0 Z = true) (w2 : (Jvm.Cond.instanceMethod y).before a0 Z = true) (w3 : (Jvm.Cond.initialized y.cls).before a0 Z = true) (w4 : (Jvm.Cond.code y yb yl none).before a0 Z = true) (hy : y.cls ≠ "java/lang/invoke/MethodHandle" ∧ y.cls ≠ "java/lang/invoke/VarHandle")
    (hpd : parseMethodDescriptor y.desc = some ⟨ps, r⟩) (hlen : aL.length = ps.length) (hstk : st = aL.reverse ++ .ref b :: rest) (hd : decode bytes pc = .ok (.invokespecial idx, 3)) (hsz : ls.size = maxL) (hW : (rest.map fun v => v.category).sum ≤ W)
    (hf : rm.frames + 1 ≤ R.frames) (hl : W + (yl + 11) + rm.locals ≤ R.locals) (hcc : cells + rm.cells ≤ R.cells) (hss : slots + rm.slots ≤ R.slots) (hn : pc + 3 = n)
    (K : ∀ T' h', Q h' → Sd Z D p l e R s m args below meth c n0 T' h' (cells + rm.cells) (slots + rm.slots) → Gl Z p e below s n0 P C S (T'.setTop (mkF m n ls rest))) : Gl Z p e below s n0 P C S (T.setTop (mkF m pc ls st)) :=
  gCallI X w aL rest hy1 hM w1 w2 w3 w4 hy hpd hlen hstk hd hsz hW hf hl hcc hss hn (fun T' h' v D' q X2 => by obtain ⟨e_, rfl, q⟩ := q; exact K T' h' q (by rw [← e_]; exact X2))
theorem gCallInL (X : Sd Z D p l e R s m args below meth c n0 T h cells slots) (w : Cx Z own nm bytes maxL ret p s m meth c) {y : MethodName} {yb : ByteArray} {yl : Nat} {rm : Room} {Q : Heap → (Addr → Prop) → Prop} {idx W : Nat} {b : Addr} (aL rest : List Value) {ps : List FieldType} {r : Option FieldType} (hy1 : y.name = "<init>")
    (hM : ConNL l Z y yb yl rm (.ref b :: aL).toArray h n0 D Q) (w1 : (Jvm.Cond.methodLink own idx y).before a0 Z = true) (w2 : (Jvm.Cond.instanceMethod y).before a0 Z = true) (w3 : (Jvm.Cond.initialized y.cls).before a0 Z = true) (w4 : (Jvm.Cond.code y yb yl none).before a0 Z = true) (hy : y.cls ≠ "java/lang/invoke/MethodHandle" ∧ y.cls ≠ "java/lang/invoke/VarHandle")
    (hpd : parseMethodDescriptor y.desc = some ⟨ps, r⟩) (hlen : aL.length = ps.length) (hstk : st = aL.reverse ++ .ref b :: rest) (hd : decode bytes pc = .ok (.invokespecial idx, 3)) (hsz : ls.size = maxL) (hW : (rest.map fun v => v.category).sum ≤ W)
    (hf : rm.frames + 1 ≤ R.frames) (hl : W + (yl + 11) + rm.locals ≤ R.locals) (hcc : cells + rm.cells ≤ R.cells) (hss : slots + rm.slots ≤ R.slots) (hn : pc + 3 = n)
    (K : ∀ T' h' (D' : Addr → Prop), Q h' D' → Sd Z D' p l e R s m args below meth c n0 T' h' (cells + rm.cells) (slots + rm.slots) → Gl Z p e below s n0 P C S (T'.setTop (mkF m n ls rest))) : Gl Z p e below s n0 P C S (T.setTop (mkF m pc ls st)) :=
  gCallI X w aL rest hy1 hM w1 w2 w3 w4 hy hpd hlen hstk hd hsz hW hf hl hcc hss hn (fun T' h' v D' q X => by obtain ⟨rfl, q⟩ := q; exact K T' h' D' q X)
theorem gInitO (X : Sd Z D p l e R s m args below meth c n0 T h cells slots) (w : Cx Z own nm bytes maxL ret p s m meth c) {idx W : Nat} {a : Addr} (w1 : (Jvm.Cond.methodLink own idx Lib.objectInit).before a0 Z = true) (w2 : (Jvm.Cond.instanceMethod Lib.objectInit).before a0 Z = true) (w3 : (Jvm.Cond.code Lib.objectInit ⟨#[0xb1]⟩ 1 none).before a0 Z = true) (hd : decode bytes pc = .ok (.invokespecial idx, 3)) (hsz : ls.size = maxL) (hf : 1 ≤ R.frames) (hW : (st.map fun v => v.category).sum ≤ W) (hl : W + 12 ≤ R.locals) (hn : pc + 3 = n)
    (K : ∀ T', Sd Z D p l e R s m args below meth c n0 T' h cells slots → Gl Z p e below s n0 P C S (T'.setTop (mkF m n ls st))) : Gl Z p e below s n0 P C S (T.setTop (mkF m pc ls (.ref a :: st))) := by
  obtain ⟨locs, vm0, k0, X, N, eh, hn0, hS, hk0, hH⟩ := X; obtain ⟨hx, hby, hZ, hown, -, hml, -⟩ := w; have hZ := State.Warmed39.trans hZ hS.1; have hown := (hS.1.alike.findClass _ _).trans hown; subst hn
  obtain ⟨T', X', e', st'⟩ := initO X hx hZ hown w1 w2 w3 eh (g := mkF m pc ls (.ref a :: st)) rfl (by rw [hml]; exact hsz) rfl (hb hby hd) hf (W := W) (by show 2 * 0 + _ ≤ _; rw [Nat.mul_zero, Nat.zero_add]; exact hW) hl
  exact Gl.of st' (K T' ⟨_, vm0, k0, X', N, e', hn0, hS, hk0, hH⟩)
theorem gNew (X : Sd Z D p l e R s m args below meth c n0 T h cells slots) (w : Cx Z own nm bytes maxL ret p s m meth c) {C0 : String} {idx k : Nat} (w1 : (Jvm.Cond.classLink own idx C0).before a0 Z = true) (w2 : (Jvm.Cond.instantiable C0 k).before a0 Z = true) (w3 : (Jvm.Cond.initialized C0).before a0 Z = true) (hd : decode bytes pc = .ok (.new idx, 3)) (hc : cells + 1 ≤ R.cells) (hl : slots + k ≤ R.slots) (hn : pc + 3 = n)
    (K : ∀ T' h' a, a = h.size → (n0 ≤ a ∧ ¬ D a) → Sd Z D p l e R s m args below meth c n0 T' h' (cells + 1) (slots + k) → Ext h h' → Exa Z h' a C0 → (∀ {O nm d : String} {ty : FieldType}, Laid Z a0 C0 O nm d → parseFieldDescriptor d = some ty → Fld Z h' a O nm d (defaultValue ty)) → Gl Z p e below s n0 P C S (T'.setTop (mkF m n ls (.ref a :: st)))) : Gl Z p e below s n0 P C S (T.setTop (mkF m pc ls st)) := by
  obtain ⟨locs, vm0, k0, X, N, eh, hn0, hS, hk0, hH⟩ := X; obtain ⟨hx, hby, hZ, hown, -, hml, -⟩ := w; have hZ := State.Warmed39.trans hZ hS.1; have hown := (hS.1.alike.findClass _ _).trans hown; subst hn
  obtain ⟨T', h', X', e', E', A', D', -, st'⟩ := newO X hx hZ hown w1 w2 w3 eh (g := mkF m pc ls st) rfl (hb hby hd) hc hl
  exact Gl.of st' (K T' h' h.size rfl ⟨Sd.le ⟨_, vm0, k0, X, N, eh, hn0, hS, hk0, hH⟩, hH.nd (Nat.le_refl _)⟩ ⟨_, vm0, k0, X', N, e', hn0, hS, Nat.le_trans hk0 E'.1, hH.ext E'⟩ E' A' D')
theorem gGetF (X : Sd Z D p l e R s m args below meth c n0 T h cells slots) (w : Cx Z own nm bytes maxL ret p s m meth c) {R0 O fn d : String} {idx : Nat} {a : Addr} {v : Value} (w1 : (Jvm.Cond.fieldLink own idx R0 fn d).before a0 Z = true) (via : Via Z R0 O fn d) (F : Fld Z h a O fn d v) (hd : decode bytes pc = .ok (.getfield idx, 3)) (hn : pc + 3 = n)
    (K : ∀ T', Sd Z D p l e R s m args below meth c n0 T' h cells slots → Gl Z p e below s n0 P C S (T'.setTop (mkF m n ls (v :: st)))) : Gl Z p e below s n0 P C S (T.setTop (mkF m pc ls (.ref a :: st))) := by
  obtain ⟨locs, vm0, k0, X, N, eh, hn0, hS, hk0, hH⟩ := X; obtain ⟨hx, hby, hZ, hown, -, hml, -⟩ := w; have hZ := State.Warmed39.trans hZ hS.1; have hown := (hS.1.alike.findClass _ _).trans hown; subst hn
  obtain ⟨T', X', e', st'⟩ := getF X hx hZ hown (host := "") (Or.inl w1) via eh F (g := mkF m pc ls (.ref a :: st)) rfl rfl (hb hby hd)
  exact Gl.of st' (K T' ⟨_, vm0, k0, X', N, e', hn0, hS, hk0, hH⟩)
theorem gGetS (X : Sd Z D p l e R s m args below meth c n0 T h cells slots) (w : Cx Z own nm bytes maxL ret p s m meth c) {R0 O fn d : String} {idx : Nat} {v : Value} (w1 : (Jvm.Cond.fieldLink own idx R0 fn d).before a0 Z = true) (via : Via Z R0 O fn d) (F : Sta Z h O fn d v) (hd : decode bytes pc = .ok (.getstatic idx, 3)) (hn : pc + 3 = n)
    (K : ∀ T', Sd Z D p l e R s m args below meth c n0 T' h cells slots → Gl Z p e below s n0 P C S (T'.setTop (mkF m n ls (v :: st)))) : Gl Z p e below s n0 P C S (T.setTop (mkF m pc ls st)) := by
  obtain ⟨locs, vm0, k0, X, N, eh, hn0, hS, hk0, hH⟩ := X; obtain ⟨hx, hby, hZ, hown, -, hml, -⟩ := w; have hZ := State.Warmed39.trans hZ hS.1; have hown := (hS.1.alike.findClass _ _).trans hown; subst hn
  obtain ⟨T', X', e', st'⟩ := getS X hx hZ hown (host := "") w1 via eh F (g := mkF m pc ls st) rfl (hb hby hd)
  exact Gl.of st' (K T' ⟨_, vm0, k0, X', N, e', hn0, hS, hk0, hH⟩)
theorem gPutF (X : Sd Z D p l e R s m args below meth c n0 T h cells slots) (w : Cx Z own nm bytes maxL ret p s m meth c) {R0 O fn d C0 : String} {idx k : Nat} {ty : FieldType} {a : Addr} {v old : Value} (w1 : (Jvm.Cond.fieldLink own idx R0 fn d).before a0 Z = true) (via : Via Z R0 O fn d) (F : Fld Z h a O fn d old) (E : Exa Z h a C0) (hL : (Jvm.Cond.lays C0 O fn d).before a0 Z = true ∨ ((Jvm.Cond.laysFinal C0 O fn d).before a0 Z = true ∧ own = O ∧ nm = "<init>")) (w2 : (Jvm.Cond.instantiable C0 k).before a0 Z = true) (ha : n0 ≤ a ∧ ¬ D a)
    (hty : parseFieldDescriptor d = some ty) (hnar : narrow ty v = v) (hfit : fits ty v = true) (hd : decode bytes pc = .ok (.putfield idx, 3)) (hn : pc + 3 = n)
    (K : ∀ T' h', Sd Z D p l e R s m args below meth c n0 T' h' cells slots → Wr h h' a (Jvm.RoadKit.slotOf Z O fn d) v → Gl Z p e below s n0 P C S (T'.setTop (mkF m n ls st))) : Gl Z p e below s n0 P C S (T.setTop (mkF m pc ls (v :: .ref a :: st))) := by
  obtain ⟨locs, vm0, k0, X, N, eh, hn0, hS, hk0, hH⟩ := X; obtain ⟨hx, hby, hZ, hown, hnm, hml, -⟩ := w; have hZ := State.Warmed39.trans hZ hS.1; have hown := (hS.1.alike.findClass _ _).trans hown; subst hn
  obtain ⟨T', h', X', e', W', st'⟩ := putF X hx hZ hown (host := "") (Or.inl w1) via eh F E (hL.imp id fun q => ⟨q.1, q.2.1, hnm.trans q.2.2⟩) w2 hty hnar hfit (g := mkF m pc ls (v :: .ref a :: st)) rfl rfl (hb hby hd)
  exact Gl.of st' (K T' h' ⟨_, vm0, k0, X', Fr.snoc X' N ha.1, e', hn0, hS, by rw [W'.size]; exact hk0, hH.wr W' ha⟩ W')
/-- an array with its values -/
def Av (Z : State) (h : Heap) (a : Addr) (ty : FieldType) (vs : List Value) : Prop := ∃ c : Cell, Arr Z h a c ty ∧ c.slots = vs.toArray
theorem Av.lt {a : Addr} {ty : FieldType} {vs : List Value} (F : Av Z h a ty vs) : a < h.size := by obtain ⟨c, A, -⟩ := F; exact A.lt
theorem Av.nostat {a : Addr} {ty : FieldType} {vs : List Value} (F : Av Z h a ty vs) : ∀ cell : Cell, h[a]? = some cell → cell.vm.isStatics = false := fun cell q => by
  obtain ⟨c, A, -⟩ := F
  have e0 : c = cell := Option.some.inj (A.1.symm.trans q)
  rw [← e0]
  cases e : c.vm with
  | statics k => exact absurd e (A.2.1.1 k)
  | _ => rfl
theorem Av.ext {h' : Heap} {a : Addr} {ty : FieldType} {vs : List Value} (F : Av Z h a ty vs) (E : Ext h h') : Av Z h' a ty vs := by obtain ⟨c, A, q⟩ := F; exact ⟨c, A.ext E, q⟩
theorem Av.other {h' : Heap} {a b : Addr} {sl : Nat} {v : Value} {ty : FieldType} {vs : List Value} (F : Av Z h b ty vs) (W : Wr h h' a sl v) (ne : b ≠ a) : Av Z h' b ty vs := by obtain ⟨c, A, q⟩ := F; exact ⟨c, A.other W ne, q⟩
theorem Av.keep {h' : Heap} {a : Addr} {ty : FieldType} {vs : List Value} {ws : List Addr} (F : Av Z h a ty vs) (K : Keep h h' ws) (ne : a ∉ ws) : Av Z h' a ty vs := by obtain ⟨c, A, q⟩ := F; exact ⟨c, ⟨K.2.1 a c A.1 ne, A.2⟩, q⟩
theorem Av.set {h' : Heap} {a : Addr} {sl : Nat} {v : Value} {ty : FieldType} {vs : List Value} (F : Av Z h a ty vs) (W : Wr h h' a sl v) : Av Z h' a ty (vs.set sl v) := by
  obtain ⟨c, A, q⟩ := F
  exact ⟨_, A.same W, by show c.slots.setIfInBounds sl v = _; rw [q]; simp⟩
theorem neOf {x a : Addr} {h : Heap} (h1 : x < h.size) (h2 : h.size ≤ a) : x ≠ a := fun e => absurd (Nat.lt_of_lt_of_le h1 h2) (by rw [e]; exact Nat.lt_irrefl _)
theorem staKeep {h' : Heap} {O fn d : String} {v : Value} {ws : List Addr} (F : Sta Z h O fn d v) (K : Keep h h' ws) (hp : ∀ x ∈ ws, ∀ c : Cell, h[x]? = some c → c.vm.isStatics = false) : Sta Z h' O fn d v := by
  obtain ⟨cf, i, k, f, st, cell, h1, h2, h3, h4, h5, h6, h7⟩ := F
  exact ⟨cf, i, k, f, st, cell, h1, h2, h3, h4, K.2.1 _ _ h5 (fun q => by rw [hp _ q _ h5] at h6; cases h6), h6, h7⟩
theorem idxIn {j : Int32} {vs : List Value} {c : Cell} (q : c.slots = vs.toArray) (hj : 0 ≤ j.toInt) (hv : j.toInt < vs.length) : ¬ (j < 0 ∨ c.slots.size ≤ j.toNatClampNeg) := by
  have e := XT.negI32 j
  have hc : j.toNatClampNeg = j.toInt.toNat := rfl
  rintro (g | g)
  · have := e.mp g; omega
  · rw [q] at g; simp only [List.size_toArray] at g; omega
theorem gNewP (X : Sd Z D p l e R s m args below meth c n0 T h cells slots) (w : Cx Z own nm bytes maxL ret p s m meth c) {aty : ArrayType} {k : Int32} {cap : Nat} (w1 : (Jvm.Cond.arrayClass (newarray.typeOf aty)).before a0 Z = true) (hd : decode bytes pc = .ok (.newarray aty, 2)) (hk : 0 ≤ k.toInt) (hcap : k.toInt ≤ cap) (hb' : cap * 8 ≤ 536870912) (hc : cells + 1 ≤ R.cells) (hl : slots + cap ≤ R.slots) {vs : List Value} {ty : FieldType} (hvs : List.replicate k.toInt.toNat (defaultValue (newarray.typeOf aty)) = vs) (hty : newarray.typeOf aty = ty) {ad : String} (had : "[" ++ (newarray.typeOf aty).toString = ad) (hn : pc + 2 = n)
    (K : ∀ T' h' a, a = h.size → (n0 ≤ a ∧ ¬ D a) → Sd Z D p l e R s m args below meth c n0 T' h' (cells + 1) (slots + cap) → Ext h h' → Av Z h' a ty vs → Exa Z h' a ad → Gl Z p e below s n0 P C S (T'.setTop (mkF m n ls (.ref a :: st)))) : Gl Z p e below s n0 P C S (T.setTop (mkF m pc ls (.int k :: st))) := by
  obtain ⟨locs, vm0, k0, X, N, eh, hn0, hS, hk0, hH⟩ := X; obtain ⟨hx, hby, hZ, hown, -, hml, -⟩ := w; have hZ := State.Warmed39.trans hZ hS.1; have hown := (hS.1.alike.findClass _ _).trans hown; subst hn hvs hty
  have e := XT.negI32 k
  have hkc : k.toNatClampNeg = k.toInt.toNat := rfl
  obtain ⟨T', h', cA, X', e', E', A', Ex', st'⟩ := newPE X hx hZ w1 eh (g := mkF m pc ls (.int k :: st)) rfl (hb hby hd) rfl (fun g => by have := e.mp g; omega) (cap := cap) (by omega) hb' hc hl had
  exact Gl.of st' (K T' h' h.size rfl ⟨Sd.le ⟨_, vm0, k0, X, N, eh, hn0, hS, hk0, hH⟩, hH.nd (Nat.le_refl _)⟩ ⟨_, vm0, k0, X', N, e', hn0, hS, Nat.le_trans hk0 E'.1, hH.ext E'⟩ E' ⟨_, A', by show Array.replicate _ _ = _; rw [hkc]; simp⟩ Ex')
theorem gClone (X : Sd Z D p l e R s m args below meth c n0 T h cells slots) (w : Cx Z own nm bytes maxL ret p s m meth c) {idx W cap : Nat} {a : Addr} {ad : String} {ty : FieldType} {vs : List Value} (F : Av Z h a ty vs) (E : Exa Z h a ad) (hfit : ∀ v ∈ vs, fits ty v = true) (w1 : (Jvm.Cond.methodLink own idx ⟨ad, "clone", "()Ljava/lang/Object;"⟩).before a0 Z = true) (w2 : (Jvm.Cond.sameMethod ad "java/lang/Object" "clone" "()Ljava/lang/Object;").before a0 Z = true) (w3 : (Jvm.Cond.native ⟨"java/lang/Object", "clone", "()Ljava/lang/Object;"⟩).before a0 Z = true) (w4 : (Jvm.Cond.instanceMethod ⟨"java/lang/Object", "clone", "()Ljava/lang/Object;"⟩).before a0 Z = true) (w5 : (Jvm.Cond.selects ad ⟨ad, "clone", "()Ljava/lang/Object;"⟩ ⟨"java/lang/Object", "clone", "()Ljava/lang/Object;"⟩).before a0 Z = true) (w6 : (Jvm.Cond.castable ad "java/lang/Cloneable").before a0 Z = true)
    (hd : decode bytes pc = .ok (.invokevirtual idx, 3)) (hsz : ls.size = maxL) (hf : 1 ≤ R.frames) (hW : (st.map fun v => v.category).sum ≤ W) (hl : W + 14 ≤ R.locals) (hcap : vs.length ≤ cap) (hc : cells + 1 ≤ R.cells) (hss : slots + cap ≤ R.slots) (hn : pc + 3 = n)
    (K : ∀ T' h' b, b = h.size → (n0 ≤ b ∧ ¬ D b) → Sd Z D p l e R s m args below meth c n0 T' h' (cells + 1) (slots + cap) → Ext h h' → Av Z h' b ty vs → Exa Z h' b ad → Gl Z p e below s n0 P C S (T'.setTop (mkF m n ls (.ref b :: st)))) : Gl Z p e below s n0 P C S (T.setTop (mkF m pc ls (.ref a :: st))) := by
  obtain ⟨locs, vm0, k0, X, N, eh, hn0, hS, hk0, hH⟩ := X; obtain ⟨hx, hby, hZ, hown, -, hml, -⟩ := w; have hZ := State.Warmed39.trans hZ hS.1; have hown := (hS.1.alike.findClass _ _).trans hown; subst hn
  obtain ⟨cl, A, q⟩ := F
  have FC : FitC Z cl := fitC_of A fun i hi v hv => hfit v (by rw [q] at hv; simp only [List.getElem?_toArray] at hv; exact List.mem_of_getElem? hv)
  obtain ⟨T', h', X', e', E', A', Ex', st'⟩ := cloneA X hx hZ hown w1 w2 w3 w4 w5 w6 eh A E FC (g := mkF m pc ls (.ref a :: st)) rfl (by rw [hml]; exact hsz) rfl (hb hby hd) hf (W := W) (cap := cap) (by show 2 * 0 + _ ≤ _; rw [Nat.mul_zero, Nat.zero_add]; exact hW) hl (by rw [q]; simpa using hcap) hc hss
  exact Gl.of st' (K T' h' h.size rfl ⟨Sd.le ⟨_, vm0, k0, X, N, eh, hn0, hS, hk0, hH⟩, hH.nd (Nat.le_refl _)⟩ ⟨_, vm0, k0, X', N, e', hn0, hS, Nat.le_trans hk0 E'.1, hH.ext E'⟩ E' ⟨_, A', q⟩ Ex')
theorem gCast (X : Sd Z D p l e R s m args below meth c n0 T h cells slots) (w : Cx Z own nm bytes maxL ret p s m meth c) {K0 : String} {idx : Nat} {a : Addr} (w1 : (Jvm.Cond.classLink own idx K0).before a0 Z = true) (F : Ins Z h a K0 true) (hd : decode bytes pc = .ok (.checkcast idx, 3)) (hn : pc + 3 = n)
    (K : ∀ T', Sd Z D p l e R s m args below meth c n0 T' h cells slots → Gl Z p e below s n0 P C S (T'.setTop (mkF m n ls (.ref a :: st)))) : Gl Z p e below s n0 P C S (T.setTop (mkF m pc ls (.ref a :: st))) := by
  obtain ⟨locs, vm0, k0, X, N, eh, hn0, hS, hk0, hH⟩ := X; obtain ⟨hx, hby, hZ, hown, -, hml, -⟩ := w; have hZ := State.Warmed39.trans hZ hS.1; have hown := (hS.1.alike.findClass _ _).trans hown; subst hn
  obtain ⟨T', X', e', st'⟩ := castY X hx hZ hown w1 eh F (g := mkF m pc ls (.ref a :: st)) rfl rfl (hb hby hd)
  exact Gl.of st' (K T' ⟨_, vm0, k0, X', N, e', hn0, hS, hk0, hH⟩)
theorem nsRoot {O K : String} {k : Nat} (w : (Jvm.Cond.noSuperclass O).before a0 Z = true) (wk : (Jvm.Cond.instantiable K k).before a0 Z = true) (hn : O ≠ K) : NS Z O K := by
  obtain ⟨c, kc, h1, h2, h3, -, -⟩ := Cond.noSuperclass_spec w
  obtain ⟨t, kt, g1, g2, -⟩ := Cond.instantiable_spec wk
  have ne := ids_ne h1 g1 hn
  refine ⟨c, t, h1, g1, fun fuel => ?_⟩
  cases fuel with
  | zero => rfl
  | succ f => simp [Vm.isSubclassAux, ne, h2, h3]
theorem nsNo {C S K : String} {k : Nat} (w : (Jvm.Cond.superclass C S).before a0 Z = true) (wk : (Jvm.Cond.instantiable K k).before a0 Z = true) (N : NS Z C K) (hn : C ≠ K) : ∃ c t, Z.vm.findClass C = some c ∧ Z.vm.findClass K = some t ∧ Z.vm.assignable c t = false := by
  obtain ⟨c, t, h0, g0, n3⟩ := N
  obtain ⟨p, kc, kp, h1, h2, h3, h4, h5, -, h7⟩ := Cond.superclass_spec h0 w
  obtain ⟨t', kt, g1, g2, g5, g7, -⟩ := Cond.instantiable_spec wk
  cases g0.symm.trans g1
  have g8 : kt.isInterface = false := by cases q : kt.isInterface with | false => rfl | true => rw [q] at g7; cases g7
  have ne := ids_ne h0 g0 hn
  refine ⟨c, t, h0, g0, ?_⟩
  show Z.vm.assignableAux (255 + 1) c t = false
  simp [Vm.assignableAux, ne, h2, g2, h5, g5, g8, Vm.isSubclass, n3]
theorem gInstN (X : Sd Z D p l e R s m args below meth c n0 T h cells slots) (w : Cx Z own nm bytes maxL ret p s m meth c) {K0 C0 : String} {idx : Nat} {a : Addr} (w1 : (Jvm.Cond.classLink own idx K0).before a0 Z = true) (E : Exa Z h a C0) (F : ∃ c t, Z.vm.findClass C0 = some c ∧ Z.vm.findClass K0 = some t ∧ Z.vm.assignable c t = false) (hd : decode bytes pc = .ok (.instanceof idx, 3)) (hn : pc + 3 = n)
    (K : ∀ T', Sd Z D p l e R s m args below meth c n0 T' h cells slots → Gl Z p e below s n0 P C S (T'.setTop (mkF m n ls (.int 0 :: st)))) : Gl Z p e below s n0 P C S (T.setTop (mkF m pc ls (.ref a :: st))) := by
  obtain ⟨locs, vm0, k0, X, N, eh, hn0, hS, hk0, hH⟩ := X; obtain ⟨hx, hby, hZ, hown, -, hml, -⟩ := w; have hZ := State.Warmed39.trans hZ hS.1; have hown := (hS.1.alike.findClass _ _).trans hown; subst hn
  obtain ⟨T', X', e', st'⟩ := instNo X hx hZ hown w1 eh E F (g := mkF m pc ls (.ref a :: st)) rfl rfl (hb hby hd)
  exact Gl.of st' (K T' ⟨_, vm0, k0, X', N, e', hn0, hS, hk0, hH⟩)
theorem gInstY (X : Sd Z D p l e R s m args below meth c n0 T h cells slots) (w : Cx Z own nm bytes maxL ret p s m meth c) {K0 : String} {idx : Nat} {a : Addr} (w1 : (Jvm.Cond.classLink own idx K0).before a0 Z = true) (F : Ins Z h a K0 true) (hd : decode bytes pc = .ok (.instanceof idx, 3)) (hn : pc + 3 = n)
    (K : ∀ T', Sd Z D p l e R s m args below meth c n0 T' h cells slots → Gl Z p e below s n0 P C S (T'.setTop (mkF m n ls (.int 1 :: st)))) : Gl Z p e below s n0 P C S (T.setTop (mkF m pc ls (.ref a :: st))) := by
  obtain ⟨locs, vm0, k0, X, N, eh, hn0, hS, hk0, hH⟩ := X; obtain ⟨hx, hby, hZ, hown, -, hml, -⟩ := w; have hZ := State.Warmed39.trans hZ hS.1; have hown := (hS.1.alike.findClass _ _).trans hown; subst hn
  obtain ⟨T', X', e', st'⟩ := instY X hx hZ hown w1 eh F (g := mkF m pc ls (.ref a :: st)) rfl rfl (hb hby hd)
  exact Gl.of st' (K T' ⟨_, vm0, k0, X', N, e', hn0, hS, hk0, hH⟩)
theorem gIastore (X : Sd Z D p l e R s m args below meth c n0 T h cells slots) (w : Cx Z own nm bytes maxL ret p s m meth c) {a : Addr} {j : Int32} {x : Int32} {z : Value} {vs : List Value} (F : Av Z h a .int vs) (hj : 0 ≤ j.toInt) (hjv : j.toInt < vs.length) (ha : n0 ≤ a ∧ ¬ D a) (hz : Value.int x = z) {vs' : List Value} (hvs : vs.set j.toInt.toNat z = vs') (hd : decode bytes pc = .ok (.iastore, 1)) (hn : pc + 1 = n)
    (K : ∀ T' h', Sd Z D p l e R s m args below meth c n0 T' h' cells slots → Wr h h' a j.toInt.toNat z → Av Z h' a .int vs' → Gl Z p e below s n0 P C S (T'.setTop (mkF m n ls st))) : Gl Z p e below s n0 P C S (T.setTop (mkF m pc ls (.int x :: .int j :: .ref a :: st))) := by
  obtain ⟨locs, vm0, k0, X, N, eh, hn0, hS, hk0, hH⟩ := X; obtain ⟨hx, hby, hZ, hown, hnm, hml, -⟩ := w; have hZ := State.Warmed39.trans hZ hS.1; have hown := (hS.1.alike.findClass _ _).trans hown; subst hn hz hvs
  obtain ⟨cl, A, q⟩ := F
  obtain ⟨T', h', X', e', W', st'⟩ := stI X hx hZ eh A (j := j) (idxIn q hj hjv) (g := mkF m pc ls (.int x :: .int j :: .ref a :: st)) rfl rfl (hb hby hd)
  exact Gl.of st' (K T' h' ⟨_, vm0, k0, X', Fr.snoc X' N ha.1, e', hn0, hS, by rw [W'.size]; exact hk0, hH.wr W' ha⟩ W' (Av.set ⟨cl, A, q⟩ W'))
theorem gLastore (X : Sd Z D p l e R s m args below meth c n0 T h cells slots) (w : Cx Z own nm bytes maxL ret p s m meth c) {a : Addr} {j : Int32} {x : Int64} {z : Value} {vs : List Value} (F : Av Z h a .long vs) (hj : 0 ≤ j.toInt) (hjv : j.toInt < vs.length) (ha : n0 ≤ a ∧ ¬ D a) (hz : Value.long x = z) {vs' : List Value} (hvs : vs.set j.toInt.toNat z = vs') (hd : decode bytes pc = .ok (.lastore, 1)) (hn : pc + 1 = n)
    (K : ∀ T' h', Sd Z D p l e R s m args below meth c n0 T' h' cells slots → Wr h h' a j.toInt.toNat z → Av Z h' a .long vs' → Gl Z p e below s n0 P C S (T'.setTop (mkF m n ls st))) : Gl Z p e below s n0 P C S (T.setTop (mkF m pc ls (.long x :: .int j :: .ref a :: st))) := by
  obtain ⟨locs, vm0, k0, X, N, eh, hn0, hS, hk0, hH⟩ := X; obtain ⟨hx, hby, hZ, hown, hnm, hml, -⟩ := w; have hZ := State.Warmed39.trans hZ hS.1; have hown := (hS.1.alike.findClass _ _).trans hown; subst hn hz hvs
  obtain ⟨cl, A, q⟩ := F
  obtain ⟨T', h', X', e', W', st'⟩ := stJ X hx hZ eh A (j := j) (idxIn q hj hjv) (g := mkF m pc ls (.long x :: .int j :: .ref a :: st)) rfl rfl (hb hby hd)
  exact Gl.of st' (K T' h' ⟨_, vm0, k0, X', Fr.snoc X' N ha.1, e', hn0, hS, by rw [W'.size]; exact hk0, hH.wr W' ha⟩ W' (Av.set ⟨cl, A, q⟩ W'))
theorem gCastore (X : Sd Z D p l e R s m args below meth c n0 T h cells slots) (w : Cx Z own nm bytes maxL ret p s m meth c) {a : Addr} {j : Int32} {x : Int32} {z : Value} {vs : List Value} (F : Av Z h a .char vs) (hj : 0 ≤ j.toInt) (hjv : j.toInt < vs.length) (ha : n0 ≤ a ∧ ¬ D a) (hz : Value.int (nar .char x) = z) {vs' : List Value} (hvs : vs.set j.toInt.toNat z = vs') (hd : decode bytes pc = .ok (.castore, 1)) (hn : pc + 1 = n)
    (K : ∀ T' h', Sd Z D p l e R s m args below meth c n0 T' h' cells slots → Wr h h' a j.toInt.toNat z → Av Z h' a .char vs' → Gl Z p e below s n0 P C S (T'.setTop (mkF m n ls st))) : Gl Z p e below s n0 P C S (T.setTop (mkF m pc ls (.int x :: .int j :: .ref a :: st))) := by
  obtain ⟨locs, vm0, k0, X, N, eh, hn0, hS, hk0, hH⟩ := X; obtain ⟨hx, hby, hZ, hown, hnm, hml, -⟩ := w; have hZ := State.Warmed39.trans hZ hS.1; have hown := (hS.1.alike.findClass _ _).trans hown; subst hn hz hvs
  obtain ⟨cl, A, q⟩ := F
  obtain ⟨T', h', X', e', W', st'⟩ := stC X hx hZ eh A (j := j) (idxIn q hj hjv) (g := mkF m pc ls (.int x :: .int j :: .ref a :: st)) rfl rfl (hb hby hd)
  exact Gl.of st' (K T' h' ⟨_, vm0, k0, X', Fr.snoc X' N ha.1, e', hn0, hS, by rw [W'.size]; exact hk0, hH.wr W' ha⟩ W' (Av.set ⟨cl, A, q⟩ W'))
theorem gBastore (X : Sd Z D p l e R s m args below meth c n0 T h cells slots) (w : Cx Z own nm bytes maxL ret p s m meth c) {a : Addr} {j : Int32} {x : Int32} {z : Value} {vs : List Value} (F : Av Z h a .byte vs) (hj : 0 ≤ j.toInt) (hjv : j.toInt < vs.length) (ha : n0 ≤ a ∧ ¬ D a) (hz : Value.int (nar .byte x) = z) {vs' : List Value} (hvs : vs.set j.toInt.toNat z = vs') (hd : decode bytes pc = .ok (.bastore, 1)) (hn : pc + 1 = n)
    (K : ∀ T' h', Sd Z D p l e R s m args below meth c n0 T' h' cells slots → Wr h h' a j.toInt.toNat z → Av Z h' a .byte vs' → Gl Z p e below s n0 P C S (T'.setTop (mkF m n ls st))) : Gl Z p e below s n0 P C S (T.setTop (mkF m pc ls (.int x :: .int j :: .ref a :: st))) := by
  obtain ⟨locs, vm0, k0, X, N, eh, hn0, hS, hk0, hH⟩ := X; obtain ⟨hx, hby, hZ, hown, hnm, hml, -⟩ := w; have hZ := State.Warmed39.trans hZ hS.1; have hown := (hS.1.alike.findClass _ _).trans hown; subst hn hz hvs
  obtain ⟨cl, A, q⟩ := F
  obtain ⟨T', h', X', e', W', st'⟩ := stB X hx hZ eh A (j := j) (idxIn q hj hjv) (g := mkF m pc ls (.int x :: .int j :: .ref a :: st)) rfl rfl (hb hby hd)
  exact Gl.of st' (K T' h' ⟨_, vm0, k0, X', Fr.snoc X' N ha.1, e', hn0, hS, by rw [W'.size]; exact hk0, hH.wr W' ha⟩ W' (Av.set ⟨cl, A, q⟩ W'))
theorem gIaload (X : Sd Z D p l e R s m args below meth c n0 T h cells slots) (w : Cx Z own nm bytes maxL ret p s m meth c) {a : Addr} {j : Int32} {v : Value} {vs : List Value} (F : Av Z h a .int vs) (hj : 0 ≤ j.toInt) (hv : vs[j.toInt.toNat]? = some v) (hd : decode bytes pc = .ok (.iaload, 1)) (hn : pc + 1 = n) (K : Gl Z p e below s n0 P C S (T.setTop (mkF m n ls (v :: st)))) : Gl Z p e below s n0 P C S (T.setTop (mkF m pc ls (.int j :: .ref a :: st))) := by
  obtain ⟨locs, vm0, k0, X, N, eh, hn0, hS, hk0, hH⟩ := X; obtain ⟨hx, hby, hZ, hown, hnm, hml, -⟩ := w; have hZ := State.Warmed39.trans hZ hS.1; have hown := (hS.1.alike.findClass _ _).trans hown; subst hn
  obtain ⟨cl, A, q⟩ := F
  have hlt : j.toInt.toNat < vs.length := (List.getElem?_eq_some_iff.mp hv).1
  exact Gl.of (fun t k => X.iaload hx (j := j) (v := v) (by rw [eh]; exact A.1) (State.isArrayOf_alike hZ.alike A.2.1) A.2.2 (idxIn q hj (by omega)) (by rw [q]; show vs.toArray[j.toInt.toNat]? = _; simpa using hv) (g := mkF m pc ls (.int j :: .ref a :: st)) rfl rfl (hb hby hd) _ k) K
theorem gCaload (X : Sd Z D p l e R s m args below meth c n0 T h cells slots) (w : Cx Z own nm bytes maxL ret p s m meth c) {a : Addr} {j : Int32} {v : Value} {vs : List Value} (F : Av Z h a .char vs) (hj : 0 ≤ j.toInt) (hv : vs[j.toInt.toNat]? = some v) (hd : decode bytes pc = .ok (.caload, 1)) (hn : pc + 1 = n) (K : Gl Z p e below s n0 P C S (T.setTop (mkF m n ls (v :: st)))) : Gl Z p e below s n0 P C S (T.setTop (mkF m pc ls (.int j :: .ref a :: st))) := by
  obtain ⟨locs, vm0, k0, X, N, eh, hn0, hS, hk0, hH⟩ := X; obtain ⟨hx, hby, hZ, hown, hnm, hml, -⟩ := w; have hZ := State.Warmed39.trans hZ hS.1; have hown := (hS.1.alike.findClass _ _).trans hown; subst hn
  obtain ⟨cl, A, q⟩ := F
  have hlt : j.toInt.toNat < vs.length := (List.getElem?_eq_some_iff.mp hv).1
  exact Gl.of (fun t k => X.caload hx (j := j) (v := v) (by rw [eh]; exact A.1) (State.isArrayOf_alike hZ.alike A.2.1) A.2.2 (idxIn q hj (by omega)) (by rw [q]; show vs.toArray[j.toInt.toNat]? = _; simpa using hv) (g := mkF m pc ls (.int j :: .ref a :: st)) rfl rfl (hb hby hd) _ k) K
theorem gBaload (X : Sd Z D p l e R s m args below meth c n0 T h cells slots) (w : Cx Z own nm bytes maxL ret p s m meth c) {a : Addr} {j : Int32} {v : Value} {vs : List Value} (F : Av Z h a .byte vs) (hj : 0 ≤ j.toInt) (hv : vs[j.toInt.toNat]? = some v) (hd : decode bytes pc = .ok (.baload, 1)) (hn : pc + 1 = n) (K : Gl Z p e below s n0 P C S (T.setTop (mkF m n ls (v :: st)))) : Gl Z p e below s n0 P C S (T.setTop (mkF m pc ls (.int j :: .ref a :: st))) := by
  obtain ⟨locs, vm0, k0, X, N, eh, hn0, hS, hk0, hH⟩ := X; obtain ⟨hx, hby, hZ, hown, hnm, hml, -⟩ := w; have hZ := State.Warmed39.trans hZ hS.1; have hown := (hS.1.alike.findClass _ _).trans hown; subst hn
  obtain ⟨cl, A, q⟩ := F
  have hlt : j.toInt.toNat < vs.length := (List.getElem?_eq_some_iff.mp hv).1
  exact Gl.of (fun t k => X.baloadBytes hx (j := j) (v := v) (by rw [eh]; exact A.1) (State.isArrayOf_alike hZ.alike A.2.1) A.2.2 (idxIn q hj (by omega)) (by rw [q]; show vs.toArray[j.toInt.toNat]? = _; simpa using hv) (g := mkF m pc ls (.int j :: .ref a :: st)) rfl rfl (hb hby hd) _ k) K
theorem gLaload (X : Sd Z D p l e R s m args below meth c n0 T h cells slots) (w : Cx Z own nm bytes maxL ret p s m meth c) {a : Addr} {j : Int32} {v : Value} {vs : List Value} (F : Av Z h a .long vs) (hj : 0 ≤ j.toInt) (hv : vs[j.toInt.toNat]? = some v) (hd : decode bytes pc = .ok (.laload, 1)) (hn : pc + 1 = n) (K : Gl Z p e below s n0 P C S (T.setTop (mkF m n ls (v :: st)))) : Gl Z p e below s n0 P C S (T.setTop (mkF m pc ls (.int j :: .ref a :: st))) := by
  obtain ⟨locs, vm0, k0, X, N, eh, hn0, hS, hk0, hH⟩ := X; obtain ⟨hx, hby, hZ, hown, hnm, hml, -⟩ := w; have hZ := State.Warmed39.trans hZ hS.1; have hown := (hS.1.alike.findClass _ _).trans hown; subst hn
  obtain ⟨cl, A, q⟩ := F
  have hlt : j.toInt.toNat < vs.length := (List.getElem?_eq_some_iff.mp hv).1
  exact Gl.of (fun t k => X.laload hx (j := j) (v := v) (by rw [eh]; exact A.1) (State.isArrayOf_alike hZ.alike A.2.1) A.2.2 (idxIn q hj (by omega)) (by rw [q]; show vs.toArray[j.toInt.toNat]? = _; simpa using hv) (g := mkF m pc ls (.int j :: .ref a :: st)) rfl rfl (hb hby hd) _ k) K
theorem gAaload (X : Sd Z D p l e R s m args below meth c n0 T h cells slots) (w : Cx Z own nm bytes maxL ret p s m meth c) {a : Addr} {j : Int32} {v : Value} {ty : FieldType} {vs : List Value} (F : Av Z h a ty vs) (hty : ty.isReference = true) (hj : 0 ≤ j.toInt) (hv : vs[j.toInt.toNat]? = some v) (hd : decode bytes pc = .ok (.aaload, 1)) (hn : pc + 1 = n) (K : Gl Z p e below s n0 P C S (T.setTop (mkF m n ls (v :: st)))) : Gl Z p e below s n0 P C S (T.setTop (mkF m pc ls (.int j :: .ref a :: st))) := by
  obtain ⟨locs, vm0, k0, X, N, eh, hn0, hS, hk0, hH⟩ := X; obtain ⟨hx, hby, hZ, hown, hnm, hml, -⟩ := w; have hZ := State.Warmed39.trans hZ hS.1; have hown := (hS.1.alike.findClass _ _).trans hown; subst hn
  obtain ⟨cl, A, q⟩ := F
  have hlt : j.toInt.toNat < vs.length := (List.getElem?_eq_some_iff.mp hv).1
  exact Gl.of (fun t k => X.aaload hx (j := j) (v := v) (by rw [eh]; exact A.1) (State.isArrayOf_alike hZ.alike A.2.1) hty A.2.2 (idxIn q hj (by omega)) (by rw [q]; show vs.toArray[j.toInt.toNat]? = _; simpa using hv) (g := mkF m pc ls (.int j :: .ref a :: st)) rfl rfl (hb hby hd) _ k) K
theorem Av.arv {a : Addr} {ty : FieldType} {vs : List Value} (dv : Value) (F : Av Z h a ty vs) (hf : ∀ v ∈ vs, fits ty v = true) (hl : vs.length < 2 ^ 31) : ∃ k, Arv Z h a k ty vs.length.toInt32 vs dv := by
  obtain ⟨c, A, q⟩ := F
  have hz : vs.length.toInt32.toInt = vs.length := len_toInt hl
  have hc : vs.length.toInt32.toNatClampNeg = vs.length := by show vs.length.toInt32.toInt.toNat = _; rw [hz]; rfl
  have hs : c.slots.size = vs.length := by rw [q]; simp
  refine ⟨c.cls, c, A, rfl, by rw [hc, hs], fun g => by have := (XT.negI32 _).mp g; omega, fun i hi => ?_, fun i hi => ?_⟩
  · rw [hs] at hi; rw [q]; simp [hi]
  · rw [hs] at hi; rw [List.getD_eq_getElem?_getD, List.getElem?_eq_getElem hi]; exact hf _ (List.getElem_mem hi)
theorem avOf {a : Addr} {k : ClassId} {ty : FieldType} {z : Int32} {vs : List Value} {dv : Value} (F : Arv Z h a k ty z vs dv) (hl : z.toNatClampNeg = vs.length) : Av Z h a ty vs := by
  obtain ⟨c, A, -, S, -, H, -⟩ := F
  refine ⟨c, A, Array.ext_getElem? fun i => ?_⟩
  by_cases hi : i < c.slots.size
  · rw [H i hi]; rw [S, hl] at hi; simp [hi]
  · rw [Array.getElem?_eq_none (by omega)]; rw [S, hl] at hi; simp; omega
theorem gAcopy (X : Sd Z D p l e R s m args below meth c n0 T h cells slots) (w : Cx Z own nm bytes maxL ret p s m meth c) {idx W : Nat} {a b : Addr} {ty : FieldType} {va vb vs' : List Value} {sp dp nn : Int32} (dv : Value) (A : Av Z h a ty va) (B : Av Z h b ty vb) (hty : refKind ty = false) (fa : ∀ v ∈ va, fits ty v = true) (fb : ∀ v ∈ vb, fits ty v = true) (la : va.length < 2 ^ 31) (lb : vb.length < 2 ^ 31)
    (w1 : (Jvm.Cond.methodLink own idx Jvm.Stand.acN).before a0 Z = true) (w2 : (Jvm.Cond.native Jvm.Stand.acN).before a0 Z = true) (w3 : (Jvm.Cond.static Jvm.Stand.acN).before a0 Z = true) (w4 : (Jvm.Cond.initialized "java/lang/System").before a0 Z = true)
    (h1 : 0 ≤ sp.toInt) (h2 : 0 ≤ dp.toInt) (h3 : 0 ≤ nn.toInt) (h4 : sp.toInt + nn.toInt ≤ va.length) (h5 : dp.toInt + nn.toInt ≤ vb.length) (hvs : vb.take dp.toInt.toNat ++ ((List.range nn.toInt.toNat).map fun i => va.getD (sp.toInt.toNat + i) dv) ++ vb.drop (dp.toInt.toNat + nn.toInt.toNat) = vs') (ge : n0 ≤ b ∧ ¬ D b)
    (hd : decode bytes pc = .ok (.invokestatic idx, 3)) (hsz : ls.size = maxL) (hf : 1 ≤ R.frames) (hW : (st.map fun v => v.category).sum ≤ W) (hl : W + (nativeFrameWords "java/lang/System" "arraycopy" 5 + 11) ≤ R.locals) (hn : pc + 3 = n)
    (K : ∀ T' h', Sd Z D p l e R s m args below meth c n0 T' h' cells slots → Keep h h' [b] → Av Z h' b ty vs' → Gl Z p e below s n0 P C S (T'.setTop (mkF m n ls st))) : Gl Z p e below s n0 P C S (T.setTop (mkF m pc ls (.int nn :: .int dp :: .ref b :: .int sp :: .ref a :: st))) := by
  obtain ⟨locs, vm0, k0, X, N, eh, hn0, hS, hk0, hH⟩ := X; obtain ⟨hx, hby, hZ, hown, -, hml, -⟩ := w; have hZ := State.Warmed39.trans hZ hS.1; have hown := (hS.1.alike.findClass _ _).trans hown; subst hn hvs
  obtain ⟨ka, A⟩ := A.arv dv fa la
  obtain ⟨kb, B⟩ := B.arv dv fb lb
  have za : va.length.toInt32.toNatClampNeg = va.length := by show va.length.toInt32.toInt.toNat = _; rw [len_toInt la]; rfl
  have zb : vb.length.toInt32.toNatClampNeg = vb.length := by show vb.length.toInt32.toInt.toNat = _; rw [len_toInt lb]; rfl
  have n1 : ¬ sp < 0 := fun g => by have := (XT.negI32 _).mp g; omega
  have n2 : ¬ dp < 0 := fun g => by have := (XT.negI32 _).mp g; omega
  have n3 : ¬ nn < 0 := fun g => by have := (XT.negI32 _).mp g; omega
  have e1 : sp.toNatClampNeg = sp.toInt.toNat := rfl
  have e2 : dp.toNatClampNeg = dp.toInt.toNat := rfl
  have e3 : nn.toNatClampNeg = nn.toInt.toNat := rfl
  obtain ⟨T', h', L, X', e', N', K', B', st'⟩ := cpA X hx hZ hown w1 w2 w3 w4 eh A B (Or.inl ⟨rfl, hty⟩) n1 n2 n3 (by rw [za, e1, e3]; omega) (by rw [zb, e2, e3]; omega) rfl (by rw [e2, e3]; omega) N ge.1 (g := mkF m pc ls (.int nn :: .int dp :: .ref b :: .int sp :: .ref a :: st)) rfl (by rw [hml]; exact hsz) rfl (hb hby hd) hf (W := W) (by show 2 * 0 + _ ≤ _; rw [Nat.mul_zero, Nat.zero_add]; exact hW) hl
  exact Gl.of st' (K T' h' ⟨L, vm0, k0, X', N', e', hn0, hS, Nat.le_trans hk0 K'.1, hH.keep K' ge⟩ K' (avOf B' (by rw [zb, List.length_append, List.length_append, List.length_take, List.length_map, List.length_range, List.length_drop]; omega)))
theorem gLdcH (X : Sd Z D p l e R s m args below meth c n0 T h cells slots) (w : Cx Z own nm bytes maxL ret p s m meth c) {text : String} {i k : Nat} {vs : List Value} (wl : (Jvm.Cond.stringLink own i text).before a0 Z = true) (wS : ∀ a ∈ Bundle.stringAtoms, a.before a0 Z = true) (hE : EW Z a0 EL) (hm : (own, i) ∈ EL) (ht : (∀ c ∈ text.toList, c.toNat < 256) ∧ text.toList.map (fun c => Value.int (Jvm.Lit.byteI c.toNat.toUInt16)) = vs) (hvl : vs.length < 2 ^ 31) (hd : decode bytes pc = .ok (.ldc i, 2)) (hk : 4 * text.toList.length ≤ k) (hbig : k ≤ 536870912) (hc : cells + 2 ≤ R.cells) (hl : slots + (k + 4) ≤ R.slots) (hn : pc + 2 = n)
    (K : ∀ T' h' a b (D' : Addr → Prop), Sd Z D' p l e R s m args below meth c n0 T' h' (cells + 2) (slots + (k + 4)) → Ext h h' → Exa Z h' a "java/lang/String" → Fld Z h' a "java/lang/String" "coder" "B" (.int 0) → Fld Z h' a "java/lang/String" "value" "[B" (.ref b) → Av Z h' b .byte vs → (∀ {x : Addr}, (n0 ≤ x ∧ ¬ D x) → x < h.size → (n0 ≤ x ∧ ¬ D' x) ∧ x ≠ a ∧ x ≠ b) → Gl Z p e below s n0 P C S (T'.setTop (mkF m n ls (.ref a :: st)))) : Gl Z p e below s n0 P C S (T.setTop (mkF m pc ls st)) := by
  obtain ⟨locs, vm0, k0, X, N, eh, hn0, hS, hk0, hH⟩ := X; obtain ⟨hx, hby, hZ, hown, -⟩ := w; subst hn
  have hzi : vs.length.toInt32.toInt = vs.length := len_toInt hvl
  have hzc : vs.length.toInt32.toNatClampNeg = vs.length := by show vs.length.toInt32.toInt.toNat = _; rw [hzi]; rfl
  obtain ⟨a, T', h', k1, b, kk, X', e', E', S', hk1, -, -, Ea, Fc, Fv, Ab, la, lb, hr, -, hne, st'⟩ := ldcCH X hx (State.Warmed39.trans hZ hS.1) ((hS.1.alike.findClass _ _).trans hown) wl wS eh hS hk0 hE hm hH.2.1 (z := vs.length.toInt32) ht (fun g => by have := (XT.negI32 _).mp g; omega) hzc (g := mkF m pc ls st) rfl (hb hby hd) hk hbig hc hl
  refine Gl.of st' (K T' h' a b (fun y => D y ∨ (h.size ≤ y ∧ y < h'.size)) ⟨_, T'.vm, k1, X', N, e', hn0, S', hk1, ⟨hH.1, hr.1, fun y B => ?_, fun y d => ?_⟩⟩ E' Ea Fc Fv (avOf Ab hzc) ?_)
  · rcases hr.2.2 y B with r | r
    · exact (hH.2.2.1 y r).imp id Or.inl
    · obtain ⟨cell, ec⟩ := B.there
      exact Or.inr (Or.inr ⟨r, (Array.getElem?_eq_some_iff.mp ec).1⟩)
  · rcases d with d | d
    · exact Nat.lt_of_lt_of_le (hH.2.2.2 y d) E'.1
    · exact d.2
  · intro x hx' hlt
    exact ⟨⟨hx'.1, fun d => d.elim hx'.2 (fun q => absurd hlt (Nat.not_lt.mpr q.1))⟩, hne x (hr.safe hlt (hH.safe hx'))⟩
theorem declOf {y : MethodName} {yb : ByteArray} {yl : Nat} {yr : Option FieldType} (w6 : (Jvm.Cond.instanceMethod y).before a0 Z = true) (w4 : (Jvm.Cond.code y yb yl yr).before a0 Z = true) : (Jvm.Cond.declares y).before a0 Z = true := by
  obtain ⟨mk, methM, hnamed, hmethM, hst, -⟩ := Cond.instanceMethod_spec w6
  obtain ⟨m2, cM, q1, -, -, -, -, -, -, hsig⟩ := Cond.code_spec hnamed w4
  cases hmethM.symm.trans q1
  simp [Cond.before, Cond.holds, Cond.value, hnamed, hmethM, hst, hsig]
theorem sameOf {y z : MethodName} {C0 : String} (w6 : (Jvm.Cond.instanceMethod y).before a0 Z = true) (ws : (Jvm.Cond.selects C0 z z).before a0 Z = true) (hz : z.cls = y.cls) (hy : y.cls ≠ "java/lang/invoke/MethodHandle" ∧ y.cls ≠ "java/lang/invoke/VarHandle") : (Jvm.Cond.sameMethod y.cls y.cls y.name y.desc).before a0 Z = true := by
  obtain ⟨mk, methM, hnamed, hmethM, -, -⟩ := Cond.instanceMethod_spec w6
  obtain ⟨c, r, mz, -, -, hz2, -, k, hk, hi⟩ := Cond.selects_spec ws
  have f1 := findClass_of_methodNamed hnamed
  have f2 := findClass_of_methodNamed hz2
  rw [hz] at f2
  have e1 : mk.cls = mz.cls := Option.some.inj (f1.symm.trans f2)
  have hf := State.methodFound?_of_named hnamed hy
  rw [← e1] at hk
  simp [Cond.before, Cond.holds, Cond.value, f1, hf, hnamed, hk, hi]
theorem nfOf {args : Array Value} {y z : MethodName} {C0 : String} (ws : (Jvm.Cond.selects C0 z z).before args s = true) (hz : z.cls = y.cls) : NotFace s y := fun r0 h0 => by
  obtain ⟨c, r, mz, -, -, hz2, -, k, hk, hi⟩ := Cond.selects_spec ws
  have f1 := findClass_of_methodNamed h0
  have f2 := findClass_of_methodNamed hz2
  rw [hz] at f2
  have e1 : r0.cls = mz.cls := Option.some.inj (f1.symm.trans f2)
  exact ⟨k, by rw [e1]; exact hk, hi⟩
theorem gCallU (X : Sd Z D p l e R s m args below meth c n0 T h cells slots) (w : Cx Z own nm bytes maxL ret p s m meth c) {y : MethodName} {yb : ByteArray} {yl : Nat} {yr : Option FieldType} {rm : Room} {Q : Option Value → Heap → (Addr → Prop) → Prop} {idx W : Nat} {b : Addr} {K0 : String} (aL rest : List Value) {ps : List FieldType} {r : Option FieldType} (F : Ins Z h b K0 true)
    (hM : Con l Z y yb yl yr [] rm rm.cells rm.slots (.ref b :: aL).toArray h n0 D Q) (w1 : (Jvm.Cond.methodLink own idx y).before a0 Z = true) (w2 : (Jvm.Cond.sameMethod y.cls y.cls y.name y.desc).before a0 Z = true) (w6 : (Jvm.Cond.instanceMethod y).before a0 Z = true) (w5 : (Jvm.Cond.superclass own y.cls).before a0 Z = true) (hni : y.name ≠ "<init>") (w3 : (Jvm.Cond.initialized y.cls).before a0 Z = true) (w4 : (Jvm.Cond.code y yb yl yr).before a0 Z = true)
    (hpd : parseMethodDescriptor y.desc = some ⟨ps, r⟩) (hlen : aL.length = ps.length) (hstk : st = aL.reverse ++ .ref b :: rest) (hd : decode bytes pc = .ok (.invokespecial idx, 3)) (hsz : ls.size = maxL) (hW : (rest.map fun v => v.category).sum ≤ W)
    (hf : rm.frames + 1 ≤ R.frames) (hl : W + (yl + 11) + rm.locals ≤ R.locals) (hcc : cells + rm.cells ≤ R.cells) (hss : slots + rm.slots ≤ R.slots) (hn : pc + 3 = n)
    (K : ∀ T' h' v (D' : Addr → Prop), Q v h' D' → Sd Z D' p l e R s m args below meth c n0 T' h' (cells + rm.cells) (slots + rm.slots) → Gl Z p e below s n0 P C S (T'.setTop (mkF m n ls (v.toList ++ rest)))) : Gl Z p e below s n0 P C S (T.setTop (mkF m pc ls st)) := by
  obtain ⟨locs, vm0, k0, X, N, eh, hn0, hS, hk0, hH⟩ := X; obtain ⟨hx, hby, hZ, hown, -, hml, -⟩ := w; have hZ := State.Warmed39.trans hZ hS.1; have hown := (hS.1.alike.findClass _ _).trans hown; subst hn
  obtain ⟨v, vm, ⟨T', L, k, sl⟩, -, X', hS2, hgr, ⟨Lc, D', ⟨hQ, NL, hH'⟩, l1, y1, z1⟩, st'⟩ := superBackS X hx hZ hown w1 w2 w6 w5 hni (backOfSD (W := W) hM hZ w4 w3 hf hl hH) eh F (g := mkF m pc ls st) rfl (by rw [hml]; exact hsz) w4 (argsL := aL) (rest := rest) (lenOf hpd hlen) hstk (by show 2 * 0 + _ ≤ _; rw [Nat.mul_zero, Nat.zero_add]; exact hW) (hb hby hd) (fun _ _ => ⟨rfl, eh, hcc, hss⟩)
  dsimp only [Pt.U, Pt.locs, Pt.cells, Pt.slots] at X' l1 y1 z1 st' hQ hS2 hgr hH'
  subst l1 y1 z1
  exact Gl.of (fun t k => st'.trans k) (K T' T'.heap v D' hQ ⟨_, T'.vm, T'.heap.size, X', Fr.app N NL, rfl, hn0, hS.trans hS2 (Nat.le_trans hk0 (by rw [← eh]; exact hgr)), Nat.le_refl _, hH'⟩)
theorem gCallF (X : Sd Z D p l e R s m args below meth c n0 T h cells slots) (w : Cx Z own nm bytes maxL ret p s m meth c) {y z : MethodName} {yb : ByteArray} {yl : Nat} {yr : Option FieldType} {rm : Room} {Q : Option Value → Heap → (Addr → Prop) → Prop} {idx cnt W : Nat} {b : Addr} {C0 : String} (aL rest : List Value) {ps : List FieldType} {r : Option FieldType} (E : Exa Z h b C0)
    (hM : Con l Z z yb yl yr [] rm rm.cells rm.slots (.ref b :: aL).toArray h n0 D Q) (w1 : (Jvm.Cond.methodLink own idx y).before a0 Z = true) (w2 : (Jvm.Cond.declares y).before a0 Z = true) (wf : (Jvm.Cond.interfaceMethod y.cls y.cls y.name y.desc).before a0 Z = true) (w5 : (Jvm.Cond.selects C0 y z).before a0 Z = true) (w6 : (Jvm.Cond.instanceMethod z).before a0 Z = true) (wp : (Jvm.Cond.publicMethod z).before a0 Z = true) (wu : (Jvm.Cond.unhidden C0 y.name y.desc).before a0 Z = true) (wk : (Jvm.Cond.castable C0 y.cls).before a0 Z = true) (w3 : (Jvm.Cond.initialized z.cls).before a0 Z = true) (w4 : (Jvm.Cond.code z yb yl yr).before a0 Z = true) (hy : y.cls ≠ "java/lang/invoke/MethodHandle" ∧ y.cls ≠ "java/lang/invoke/VarHandle")
    (hpd : parseMethodDescriptor y.desc = some ⟨ps, r⟩) (hlen : aL.length = ps.length) (hstk : st = aL.reverse ++ .ref b :: rest) (hd : decode bytes pc = .ok (.invokeinterface idx cnt, 5)) (hsz : ls.size = maxL) (hW : (rest.map fun v => v.category).sum ≤ W)
    (hf : rm.frames + 1 ≤ R.frames) (hl : W + (yl + 11) + rm.locals ≤ R.locals) (hcc : cells + rm.cells ≤ R.cells) (hss : slots + rm.slots ≤ R.slots) (hn : pc + 5 = n)
    (K : ∀ T' h' v (D' : Addr → Prop), Q v h' D' → Sd Z D' p l e R s m args below meth c n0 T' h' (cells + rm.cells) (slots + rm.slots) → Gl Z p e below s n0 P C S (T'.setTop (mkF m n ls (v.toList ++ rest)))) : Gl Z p e below s n0 P C S (T.setTop (mkF m pc ls st)) := by
  obtain ⟨locs, vm0, k0, X, N, eh, hn0, hS, hk0, hH⟩ := X; obtain ⟨hx, hby, hZ, hown, -, hml, -⟩ := w; have hZ := State.Warmed39.trans hZ hS.1; have hown := (hS.1.alike.findClass _ _).trans hown; subst hn
  obtain ⟨cq, kq, qa, qb, qc⟩ := isOf (s := s.setVm vm0) hZ eh E
  obtain ⟨v, vm, ⟨T', L, k, sl⟩, -, X', hS2, hgr, ⟨Lc, D', ⟨hQ, NL, hH'⟩, l1, y1, z1⟩, st'⟩ := X.interfaceBackS hx (xi := y) (y := z) hown (mvT hZ w1) (mvT hZ w2) (mvT hZ wf (by simp [Cond.onTables, Cond.keepsFace, Cond.keeps, Cond.steady, Cond.faceAtom, hy.1, hy.2])) (mvT hZ w5) (mvT hZ w6) (mvT hZ wp) (mvT hZ wu) (mvT hZ wk) hy (backOfSD (W := W) hM hZ w4 w3 hf hl hH) qa qb qc (g := mkF m pc ls st) rfl (by rw [hml]; exact hsz) (Steps.refl _) (argsL := aL) (rest := rest) (lenOf hpd hlen) hstk (by show 2 * 0 + _ ≤ _; rw [Nat.mul_zero, Nat.zero_add]; exact hW) (hb hby hd) (fun _ _ => ⟨rfl, eh, hcc, hss⟩)
  dsimp only [Pt.U, Pt.locs, Pt.cells, Pt.slots] at X' l1 y1 z1 st' hQ hS2 hgr hH'
  subst l1 y1 z1
  exact Gl.of (fun t k => st'.trans k) (K T' T'.heap v D' hQ ⟨_, T'.vm, T'.heap.size, X', Fr.app N NL, rfl, hn0, hS.trans hS2 (Nat.le_trans hk0 (by rw [← eh]; exact hgr)), Nat.le_refl _, hH'⟩)
theorem gCallUvL (X : Sd Z D p l e R s m args below meth c n0 T h cells slots) (w : Cx Z own nm bytes maxL ret p s m meth c) {y : MethodName} {yb : ByteArray} {yl : Nat} {yr : Option FieldType} {rm : Room} {Q : Value → Heap → (Addr → Prop) → Prop} {idx W : Nat} {b : Addr} {K0 : String} (aL rest : List Value) {ps : List FieldType} {r : Option FieldType} (F : Ins Z h b K0 true)
    (hM : ConVL l Z y yb yl yr rm (.ref b :: aL).toArray h n0 D Q) (w1 : (Jvm.Cond.methodLink own idx y).before a0 Z = true) (w2 : (Jvm.Cond.sameMethod y.cls y.cls y.name y.desc).before a0 Z = true) (w6 : (Jvm.Cond.instanceMethod y).before a0 Z = true) (w5 : (Jvm.Cond.superclass own y.cls).before a0 Z = true) (hni : y.name ≠ "<init>") (w3 : (Jvm.Cond.initialized y.cls).before a0 Z = true) (w4 : (Jvm.Cond.code y yb yl yr).before a0 Z = true)
    (hpd : parseMethodDescriptor y.desc = some ⟨ps, r⟩) (hlen : aL.length = ps.length) (hstk : st = aL.reverse ++ .ref b :: rest) (hd : decode bytes pc = .ok (.invokespecial idx, 3)) (hsz : ls.size = maxL) (hW : (rest.map fun v => v.category).sum ≤ W)
    (hf : rm.frames + 1 ≤ R.frames) (hl : W + (yl + 11) + rm.locals ≤ R.locals) (hcc : cells + rm.cells ≤ R.cells) (hss : slots + rm.slots ≤ R.slots) (hn : pc + 3 = n)
    (K : ∀ T' h' v (D' : Addr → Prop), Q v h' D' → Sd Z D' p l e R s m args below meth c n0 T' h' (cells + rm.cells) (slots + rm.slots) → Gl Z p e below s n0 P C S (T'.setTop (mkF m n ls (v :: rest)))) : Gl Z p e below s n0 P C S (T.setTop (mkF m pc ls st)) :=
  gCallU X w aL rest F hM w1 w2 w6 w5 hni w3 w4 hpd hlen hstk hd hsz hW hf hl hcc hss hn (fun T' h' v D' q X2 => by obtain ⟨v', rfl, q⟩ := q; exact K T' h' v' D' q X2)
theorem gCallUv (X : Sd Z D p l e R s m args below meth c n0 T h cells slots) (w : Cx Z own nm bytes maxL ret p s m meth c) {y : MethodName} {yb : ByteArray} {yl : Nat} {yr : Option FieldType} {rm : Room} {Q : Value → Heap → Prop} {idx W : Nat} {b : Addr} {K0 : String} (aL rest : List Value) {ps : List FieldType} {r : Option FieldType} (F : Ins Z h b K0 true)
    (hM : ConV l Z y yb yl yr rm (.ref b :: aL).toArray h n0 D Q) (w1 : (Jvm.Cond.methodLink own idx y).before a0 Z = true) (w2 : (Jvm.Cond.sameMethod y.cls y.cls y.name y.desc).before a0 Z = true) (w6 : (Jvm.Cond.instanceMethod y).before a0 Z = true) (w5 : (Jvm.Cond.superclass own y.cls).before a0 Z = true) (hni : y.name ≠ "<init>") (w3 : (Jvm.Cond.initialized y.cls).before a0 Z = true) (w4 : (Jvm.Cond.code y yb yl yr).before a0 Z = true)
    (hpd : parseMethodDescriptor y.desc = some ⟨ps, r⟩) (hlen : aL.length = ps.length) (hstk : st = aL.reverse ++ .ref b :: rest) (hd : decode bytes pc = .ok (.invokespecial idx, 3)) (hsz : ls.size = maxL) (hW : (rest.map fun v => v.category).sum ≤ W)
    (hf : rm.frames + 1 ≤ R.frames) (hl : W + (yl + 11) + rm.locals ≤ R.locals) (hcc : cells + rm.cells ≤ R.cells) (hss : slots + rm.slots ≤ R.slots) (hn : pc + 3 = n)
    (K : ∀ T' h' v, Q v h' → Sd Z D p l e R s m args below meth c n0 T' h' (cells + rm.cells) (slots + rm.slots) → Gl Z p e below s n0 P C S (T'.setTop (mkF m n ls (v :: rest)))) : Gl Z p e below s n0 P C S (T.setTop (mkF m pc ls st)) :=
  gCallU X w aL rest F hM w1 w2 w6 w5 hni w3 w4 hpd hlen hstk hd hsz hW hf hl hcc hss hn (fun T' h' v D' q X2 => by obtain ⟨e_, v', rfl, q⟩ := q; exact K T' h' v' q (by rw [← e_]; exact X2))
theorem gCallUnL (X : Sd Z D p l e R s m args below meth c n0 T h cells slots) (w : Cx Z own nm bytes maxL ret p s m meth c) {y : MethodName} {yb : ByteArray} {yl : Nat} {rm : Room} {Q : Heap → (Addr → Prop) → Prop} {idx W : Nat} {b : Addr} {K0 : String} (aL rest : List Value) {ps : List FieldType} {r : Option FieldType} (F : Ins Z h b K0 true)
    (hM : ConNL l Z y yb yl rm (.ref b :: aL).toArray h n0 D Q) (w1 : (Jvm.Cond.methodLink own idx y).before a0 Z = true) (w2 : (Jvm.Cond.sameMethod y.cls y.cls y.name y.desc).before a0 Z = true) (w6 : (Jvm.Cond.instanceMethod y).before a0 Z = true) (w5 : (Jvm.Cond.superclass own y.cls).before a0 Z = true) (hni : y.name ≠ "<init>") (w3 : (Jvm.Cond.initialized y.cls).before a0 Z = true) (w4 : (Jvm.Cond.code y yb yl none).before a0 Z = true)
    (hpd : parseMethodDescriptor y.desc = some ⟨ps, r⟩) (hlen : aL.length = ps.length) (hstk : st = aL.reverse ++ .ref b :: rest) (hd : decode bytes pc = .ok (.invokespecial idx, 3)) (hsz : ls.size = maxL) (hW : (rest.map fun v => v.category).sum ≤ W)
    (hf : rm.frames + 1 ≤ R.frames) (hl : W + (yl + 11) + rm.locals ≤ R.locals) (hcc : cells + rm.cells ≤ R.cells) (hss : slots + rm.slots ≤ R.slots) (hn : pc + 3 = n)
    (K : ∀ T' h' (D' : Addr → Prop), Q h' D' → Sd Z D' p l e R s m args below meth c n0 T' h' (cells + rm.cells) (slots + rm.slots) → Gl Z p e below s n0 P C S (T'.setTop (mkF m n ls rest))) : Gl Z p e below s n0 P C S (T.setTop (mkF m pc ls st)) :=
  gCallU X w aL rest F hM w1 w2 w6 w5 hni w3 w4 hpd hlen hstk hd hsz hW hf hl hcc hss hn (fun T' h' v D' q X2 => by obtain ⟨rfl, q⟩ := q; exact K T' h' D' q X2)
theorem gCallUn (X : Sd Z D p l e R s m args below meth c n0 T h cells slots) (w : Cx Z own nm bytes maxL ret p s m meth c) {y : MethodName} {yb : ByteArray} {yl : Nat} {rm : Room} {Q : Heap → Prop} {idx W : Nat} {b : Addr} {K0 : String} (aL rest : List Value) {ps : List FieldType} {r : Option FieldType} (F : Ins Z h b K0 true)
    (hM : ConN l Z y yb yl rm (.ref b :: aL).toArray h n0 D Q) (w1 : (Jvm.Cond.methodLink own idx y).before a0 Z = true) (w2 : (Jvm.Cond.sameMethod y.cls y.cls y.name y.desc).before a0 Z = true) (w6 : (Jvm.Cond.instanceMethod y).before a0 Z = true) (w5 : (Jvm.Cond.superclass own y.cls).before a0 Z = true) (hni : y.name ≠ "<init>") (w3 : (Jvm.Cond.initialized y.cls).before a0 Z = true) (w4 : (Jvm.Cond.code y yb yl none).before a0 Z = true)
    (hpd : parseMethodDescriptor y.desc = some ⟨ps, r⟩) (hlen : aL.length = ps.length) (hstk : st = aL.reverse ++ .ref b :: rest) (hd : decode bytes pc = .ok (.invokespecial idx, 3)) (hsz : ls.size = maxL) (hW : (rest.map fun v => v.category).sum ≤ W)
    (hf : rm.frames + 1 ≤ R.frames) (hl : W + (yl + 11) + rm.locals ≤ R.locals) (hcc : cells + rm.cells ≤ R.cells) (hss : slots + rm.slots ≤ R.slots) (hn : pc + 3 = n)
    (K : ∀ T' h', Q h' → Sd Z D p l e R s m args below meth c n0 T' h' (cells + rm.cells) (slots + rm.slots) → Gl Z p e below s n0 P C S (T'.setTop (mkF m n ls rest))) : Gl Z p e below s n0 P C S (T.setTop (mkF m pc ls st)) :=
  gCallU X w aL rest F hM w1 w2 w6 w5 hni w3 w4 hpd hlen hstk hd hsz hW hf hl hcc hss hn (fun T' h' v D' q X2 => by obtain ⟨e_, rfl, q⟩ := q; exact K T' h' q (by rw [← e_]; exact X2))
theorem gCallFvL (X : Sd Z D p l e R s m args below meth c n0 T h cells slots) (w : Cx Z own nm bytes maxL ret p s m meth c) {y z : MethodName} {yb : ByteArray} {yl : Nat} {yr : Option FieldType} {rm : Room} {Q : Value → Heap → (Addr → Prop) → Prop} {idx cnt W : Nat} {b : Addr} {C0 : String} (aL rest : List Value) {ps : List FieldType} {r : Option FieldType} (E : Exa Z h b C0)
    (hM : ConVL l Z z yb yl yr rm (.ref b :: aL).toArray h n0 D Q) (w1 : (Jvm.Cond.methodLink own idx y).before a0 Z = true) (w2 : (Jvm.Cond.declares y).before a0 Z = true) (wf : (Jvm.Cond.interfaceMethod y.cls y.cls y.name y.desc).before a0 Z = true) (w5 : (Jvm.Cond.selects C0 y z).before a0 Z = true) (w6 : (Jvm.Cond.instanceMethod z).before a0 Z = true) (wp : (Jvm.Cond.publicMethod z).before a0 Z = true) (wu : (Jvm.Cond.unhidden C0 y.name y.desc).before a0 Z = true) (wk : (Jvm.Cond.castable C0 y.cls).before a0 Z = true) (w3 : (Jvm.Cond.initialized z.cls).before a0 Z = true) (w4 : (Jvm.Cond.code z yb yl yr).before a0 Z = true) (hy : y.cls ≠ "java/lang/invoke/MethodHandle" ∧ y.cls ≠ "java/lang/invoke/VarHandle")
    (hpd : parseMethodDescriptor y.desc = some ⟨ps, r⟩) (hlen : aL.length = ps.length) (hstk : st = aL.reverse ++ .ref b :: rest) (hd : decode bytes pc = .ok (.invokeinterface idx cnt, 5)) (hsz : ls.size = maxL) (hW : (rest.map fun v => v.category).sum ≤ W)
    (hf : rm.frames + 1 ≤ R.frames) (hl : W + (yl + 11) + rm.locals ≤ R.locals) (hcc : cells + rm.cells ≤ R.cells) (hss : slots + rm.slots ≤ R.slots) (hn : pc + 5 = n)
    (K : ∀ T' h' v (D' : Addr → Prop), Q v h' D' → Sd Z D' p l e R s m args below meth c n0 T' h' (cells + rm.cells) (slots + rm.slots) → Gl Z p e below s n0 P C S (T'.setTop (mkF m n ls (v :: rest)))) : Gl Z p e below s n0 P C S (T.setTop (mkF m pc ls st)) :=
  gCallF X w aL rest E hM w1 w2 wf w5 w6 wp wu wk w3 w4 hy hpd hlen hstk hd hsz hW hf hl hcc hss hn (fun T' h' v D' q X2 => by obtain ⟨v', rfl, q⟩ := q; exact K T' h' v' D' q X2)
theorem gCallFv (X : Sd Z D p l e R s m args below meth c n0 T h cells slots) (w : Cx Z own nm bytes maxL ret p s m meth c) {y z : MethodName} {yb : ByteArray} {yl : Nat} {yr : Option FieldType} {rm : Room} {Q : Value → Heap → Prop} {idx cnt W : Nat} {b : Addr} {C0 : String} (aL rest : List Value) {ps : List FieldType} {r : Option FieldType} (E : Exa Z h b C0)
    (hM : ConV l Z z yb yl yr rm (.ref b :: aL).toArray h n0 D Q) (w1 : (Jvm.Cond.methodLink own idx y).before a0 Z = true) (w2 : (Jvm.Cond.declares y).before a0 Z = true) (wf : (Jvm.Cond.interfaceMethod y.cls y.cls y.name y.desc).before a0 Z = true) (w5 : (Jvm.Cond.selects C0 y z).before a0 Z = true) (w6 : (Jvm.Cond.instanceMethod z).before a0 Z = true) (wp : (Jvm.Cond.publicMethod z).before a0 Z = true) (wu : (Jvm.Cond.unhidden C0 y.name y.desc).before a0 Z = true) (wk : (Jvm.Cond.castable C0 y.cls).before a0 Z = true) (w3 : (Jvm.Cond.initialized z.cls).before a0 Z = true) (w4 : (Jvm.Cond.code z yb yl yr).before a0 Z = true) (hy : y.cls ≠ "java/lang/invoke/MethodHandle" ∧ y.cls ≠ "java/lang/invoke/VarHandle")
    (hpd : parseMethodDescriptor y.desc = some ⟨ps, r⟩) (hlen : aL.length = ps.length) (hstk : st = aL.reverse ++ .ref b :: rest) (hd : decode bytes pc = .ok (.invokeinterface idx cnt, 5)) (hsz : ls.size = maxL) (hW : (rest.map fun v => v.category).sum ≤ W)
    (hf : rm.frames + 1 ≤ R.frames) (hl : W + (yl + 11) + rm.locals ≤ R.locals) (hcc : cells + rm.cells ≤ R.cells) (hss : slots + rm.slots ≤ R.slots) (hn : pc + 5 = n)
    (K : ∀ T' h' v, Q v h' → Sd Z D p l e R s m args below meth c n0 T' h' (cells + rm.cells) (slots + rm.slots) → Gl Z p e below s n0 P C S (T'.setTop (mkF m n ls (v :: rest)))) : Gl Z p e below s n0 P C S (T.setTop (mkF m pc ls st)) :=
  gCallF X w aL rest E hM w1 w2 wf w5 w6 wp wu wk w3 w4 hy hpd hlen hstk hd hsz hW hf hl hcc hss hn (fun T' h' v D' q X2 => by obtain ⟨e_, v', rfl, q⟩ := q; exact K T' h' v' q (by rw [← e_]; exact X2))
theorem gCallFnL (X : Sd Z D p l e R s m args below meth c n0 T h cells slots) (w : Cx Z own nm bytes maxL ret p s m meth c) {y z : MethodName} {yb : ByteArray} {yl : Nat} {rm : Room} {Q : Heap → (Addr → Prop) → Prop} {idx cnt W : Nat} {b : Addr} {C0 : String} (aL rest : List Value) {ps : List FieldType} {r : Option FieldType} (E : Exa Z h b C0)
    (hM : ConNL l Z z yb yl rm (.ref b :: aL).toArray h n0 D Q) (w1 : (Jvm.Cond.methodLink own idx y).before a0 Z = true) (w2 : (Jvm.Cond.declares y).before a0 Z = true) (wf : (Jvm.Cond.interfaceMethod y.cls y.cls y.name y.desc).before a0 Z = true) (w5 : (Jvm.Cond.selects C0 y z).before a0 Z = true) (w6 : (Jvm.Cond.instanceMethod z).before a0 Z = true) (wp : (Jvm.Cond.publicMethod z).before a0 Z = true) (wu : (Jvm.Cond.unhidden C0 y.name y.desc).before a0 Z = true) (wk : (Jvm.Cond.castable C0 y.cls).before a0 Z = true) (w3 : (Jvm.Cond.initialized z.cls).before a0 Z = true) (w4 : (Jvm.Cond.code z yb yl none).before a0 Z = true) (hy : y.cls ≠ "java/lang/invoke/MethodHandle" ∧ y.cls ≠ "java/lang/invoke/VarHandle")
    (hpd : parseMethodDescriptor y.desc = some ⟨ps, r⟩) (hlen : aL.length = ps.length) (hstk : st = aL.reverse ++ .ref b :: rest) (hd : decode bytes pc = .ok (.invokeinterface idx cnt, 5)) (hsz : ls.size = maxL) (hW : (rest.map fun v => v.category).sum ≤ W)
    (hf : rm.frames + 1 ≤ R.frames) (hl : W + (yl + 11) + rm.locals ≤ R.locals) (hcc : cells + rm.cells ≤ R.cells) (hss : slots + rm.slots ≤ R.slots) (hn : pc + 5 = n)
    (K : ∀ T' h' (D' : Addr → Prop), Q h' D' → Sd Z D' p l e R s m args below meth c n0 T' h' (cells + rm.cells) (slots + rm.slots) → Gl Z p e below s n0 P C S (T'.setTop (mkF m n ls rest))) : Gl Z p e below s n0 P C S (T.setTop (mkF m pc ls st)) :=
  gCallF X w aL rest E hM w1 w2 wf w5 w6 wp wu wk w3 w4 hy hpd hlen hstk hd hsz hW hf hl hcc hss hn (fun T' h' v D' q X2 => by obtain ⟨rfl, q⟩ := q; exact K T' h' D' q X2)
theorem gCallFn (X : Sd Z D p l e R s m args below meth c n0 T h cells slots) (w : Cx Z own nm bytes maxL ret p s m meth c) {y z : MethodName} {yb : ByteArray} {yl : Nat} {rm : Room} {Q : Heap → Prop} {idx cnt W : Nat} {b : Addr} {C0 : String} (aL rest : List Value) {ps : List FieldType} {r : Option FieldType} (E : Exa Z h b C0)
    (hM : ConN l Z z yb yl rm (.ref b :: aL).toArray h n0 D Q) (w1 : (Jvm.Cond.methodLink own idx y).before a0 Z = true) (w2 : (Jvm.Cond.declares y).before a0 Z = true) (wf : (Jvm.Cond.interfaceMethod y.cls y.cls y.name y.desc).before a0 Z = true) (w5 : (Jvm.Cond.selects C0 y z).before a0 Z = true) (w6 : (Jvm.Cond.instanceMethod z).before a0 Z = true) (wp : (Jvm.Cond.publicMethod z).before a0 Z = true) (wu : (Jvm.Cond.unhidden C0 y.name y.desc).before a0 Z = true) (wk : (Jvm.Cond.castable C0 y.cls).before a0 Z = true) (w3 : (Jvm.Cond.initialized z.cls).before a0 Z = true) (w4 : (Jvm.Cond.code z yb yl none).before a0 Z = true) (hy : y.cls ≠ "java/lang/invoke/MethodHandle" ∧ y.cls ≠ "java/lang/invoke/VarHandle")
    (hpd : parseMethodDescriptor y.desc = some ⟨ps, r⟩) (hlen : aL.length = ps.length) (hstk : st = aL.reverse ++ .ref b :: rest) (hd : decode bytes pc = .ok (.invokeinterface idx cnt, 5)) (hsz : ls.size = maxL) (hW : (rest.map fun v => v.category).sum ≤ W)
    (hf : rm.frames + 1 ≤ R.frames) (hl : W + (yl + 11) + rm.locals ≤ R.locals) (hcc : cells + rm.cells ≤ R.cells) (hss : slots + rm.slots ≤ R.slots) (hn : pc + 5 = n)
    (K : ∀ T' h', Q h' → Sd Z D p l e R s m args below meth c n0 T' h' (cells + rm.cells) (slots + rm.slots) → Gl Z p e below s n0 P C S (T'.setTop (mkF m n ls rest))) : Gl Z p e below s n0 P C S (T.setTop (mkF m pc ls st)) :=
  gCallF X w aL rest E hM w1 w2 wf w5 w6 wp wu wk w3 w4 hy hpd hlen hstk hd hsz hW hf hl hcc hss hn (fun T' h' v D' q X2 => by obtain ⟨e_, rfl, q⟩ := q; exact K T' h' q (by rw [← e_]; exact X2))
theorem gCallVnL (X : Sd Z D p l e R s m args below meth c n0 T h cells slots) (w : Cx Z own nm bytes maxL ret p s m meth c) {y z : MethodName} {yb : ByteArray} {yl : Nat} {rm : Room} {Q : Heap → (Addr → Prop) → Prop} {idx W : Nat} {b : Addr} {C0 : String} (aL rest : List Value) {ps : List FieldType} {r : Option FieldType} (E : Exa Z h b C0)
    (hM : ConNL l Z z yb yl rm (.ref b :: aL).toArray h n0 D Q) (w1 : (Jvm.Cond.methodLink own idx y).before a0 Z = true) (w2 : (Jvm.Cond.declares y).before a0 Z = true) (hnf : ∀ vm0, s.Since vm0 h.size → NotFace (s.setVm vm0) y) (w5 : (Jvm.Cond.selects C0 y z).before a0 Z = true) (w6 : (Jvm.Cond.instanceMethod z).before a0 Z = true) (w3 : (Jvm.Cond.initialized z.cls).before a0 Z = true) (w4 : (Jvm.Cond.code z yb yl none).before a0 Z = true) (hy : y.cls ≠ "java/lang/invoke/MethodHandle" ∧ y.cls ≠ "java/lang/invoke/VarHandle")
    (hpd : parseMethodDescriptor y.desc = some ⟨ps, r⟩) (hlen : aL.length = ps.length) (hstk : st = aL.reverse ++ .ref b :: rest) (hd : decode bytes pc = .ok (.invokevirtual idx, 3)) (hsz : ls.size = maxL) (hW : (rest.map fun v => v.category).sum ≤ W)
    (hf : rm.frames + 1 ≤ R.frames) (hl : W + (yl + 11) + rm.locals ≤ R.locals) (hcc : cells + rm.cells ≤ R.cells) (hss : slots + rm.slots ≤ R.slots) (hn : pc + 3 = n)
    (K : ∀ T' h' (D' : Addr → Prop), Q h' D' → Sd Z D' p l e R s m args below meth c n0 T' h' (cells + rm.cells) (slots + rm.slots) → Gl Z p e below s n0 P C S (T'.setTop (mkF m n ls rest))) : Gl Z p e below s n0 P C S (T.setTop (mkF m pc ls st)) :=
  gCallV X w aL rest E hM w1 w2 hnf w5 w6 w3 w4 hy hpd hlen hstk hd hsz hW hf hl hcc hss hn (fun T' h' v D' q X2 => by obtain ⟨rfl, q⟩ := q; exact K T' h' D' q X2)
theorem gCallVn (X : Sd Z D p l e R s m args below meth c n0 T h cells slots) (w : Cx Z own nm bytes maxL ret p s m meth c) {y z : MethodName} {yb : ByteArray} {yl : Nat} {rm : Room} {Q : Heap → Prop} {idx W : Nat} {b : Addr} {C0 : String} (aL rest : List Value) {ps : List FieldType} {r : Option FieldType} (E : Exa Z h b C0)
    (hM : ConN l Z z yb yl rm (.ref b :: aL).toArray h n0 D Q) (w1 : (Jvm.Cond.methodLink own idx y).before a0 Z = true) (w2 : (Jvm.Cond.declares y).before a0 Z = true) (hnf : ∀ vm0, s.Since vm0 h.size → NotFace (s.setVm vm0) y) (w5 : (Jvm.Cond.selects C0 y z).before a0 Z = true) (w6 : (Jvm.Cond.instanceMethod z).before a0 Z = true) (w3 : (Jvm.Cond.initialized z.cls).before a0 Z = true) (w4 : (Jvm.Cond.code z yb yl none).before a0 Z = true) (hy : y.cls ≠ "java/lang/invoke/MethodHandle" ∧ y.cls ≠ "java/lang/invoke/VarHandle")
    (hpd : parseMethodDescriptor y.desc = some ⟨ps, r⟩) (hlen : aL.length = ps.length) (hstk : st = aL.reverse ++ .ref b :: rest) (hd : decode bytes pc = .ok (.invokevirtual idx, 3)) (hsz : ls.size = maxL) (hW : (rest.map fun v => v.category).sum ≤ W)
    (hf : rm.frames + 1 ≤ R.frames) (hl : W + (yl + 11) + rm.locals ≤ R.locals) (hcc : cells + rm.cells ≤ R.cells) (hss : slots + rm.slots ≤ R.slots) (hn : pc + 3 = n)
    (K : ∀ T' h', Q h' → Sd Z D p l e R s m args below meth c n0 T' h' (cells + rm.cells) (slots + rm.slots) → Gl Z p e below s n0 P C S (T'.setTop (mkF m n ls rest))) : Gl Z p e below s n0 P C S (T.setTop (mkF m pc ls st)) :=
  gCallV X w aL rest E hM w1 w2 hnf w5 w6 w3 w4 hy hpd hlen hstk hd hsz hW hf hl hcc hss hn (fun T' h' v D' q X2 => by obtain ⟨e_, rfl, q⟩ := q; exact K T' h' q (by rw [← e_]; exact X2))
theorem gAbsD (X : Sd Z D p l e R s m args below meth c n0 T h cells slots) (w : Cx Z own nm bytes maxL ret p s m meth c) {idx W : Nat} {u : UInt64} {rest : List Value} (hu : Jvm.Free.Fl.NoNaN64 u) (w1 : (Jvm.Cond.methodLink own idx Jvm.Free.Fl.Abs.absDN).before a0 Z = true) (w2 : (Jvm.Cond.static Jvm.Free.Fl.Abs.absDN).before a0 Z = true) (w3 : (Jvm.Cond.initialized "java/lang/Math").before a0 Z = true) (w4 : (Jvm.Cond.code Jvm.Free.Fl.Abs.absDN Jvm.Free.Fl.Abs.absDCode 2 (some .double)).before a0 Z = true)
    (hd : decode bytes pc = .ok (.invokestatic idx, 3)) (hsz : ls.size = maxL) (hf : 1 ≤ R.frames) (hW : (rest.map fun v => v.category).sum ≤ W) (hl : W + 13 ≤ R.locals) (hcc : cells ≤ R.cells) (hss : slots ≤ R.slots) (hn : pc + 3 = n)
    (K : ∀ T', Sd Z D p l e R s m args below meth c n0 T' h cells slots → Gl Z p e below s n0 P C S (T'.setTop (mkF m n ls (.double (u &&& 0x7fffffffffffffff) :: rest)))) : Gl Z p e below s n0 P C S (T.setTop (mkF m pc ls (.double u :: rest))) := by
  obtain ⟨locs, vm0, k0, X, N, eh, hn0, hS, hk0, hH⟩ := X; obtain ⟨hx, hby, hZ, hown, -, hml, -⟩ := w; have hZ := State.Warmed39.trans hZ hS.1; have hown := (hS.1.alike.findClass _ _).trans hown; subst hn
  have hpd : parseMethodDescriptor "(D)D" = some ⟨[.double], some .double⟩ := by decide +kernel
  obtain ⟨v, vm, ⟨T', L, k, sl⟩, -, X', ⟨hv, hB⟩, st'⟩ := Jvm.LawKit.callS X hx (y := Jvm.Free.Fl.Abs.absDN) hown (mvT hZ w1) (mvT hZ w2) (mvT hZ w3) (mvT hZ w4) (by decide) (Jvm.Free.Fl.Abs.absD_pays (W := W) u (mvT hZ w4) hf hl) (g := mkF m pc ls (.double u :: rest)) rfl (by rw [hml]; exact hsz) (argsL := [.double u]) (rest := rest) (lenOf hpd rfl) rfl (by show 2 * 0 + _ ≤ _; rw [Nat.mul_zero, Nat.zero_add]; exact hW) (hb hby hd) (fun _ _ => ⟨hcc, hss, rfl, hu⟩)
  dsimp only [Pt.U, Pt.locs, Pt.cells, Pt.slots] at X' st' hv hB
  cases hB; subst hv
  have e' : (T.setVm vm).heap = h := eh
  exact Gl.of st' (K _ ⟨_, vm0, k0, X', N, e', hn0, hS, hk0, hH⟩)
theorem gAlen (X : Sd Z D p l e R s m args below meth c n0 T h cells slots) (w : Cx Z own nm bytes maxL ret p s m meth c) {a : Addr} {ty : FieldType} {vs : List Value} {z : Int32} (F : Av Z h a ty vs) (hz : vs.length.toInt32 = z) (hd : decode bytes pc = .ok (.arraylength, 1)) (hn : pc + 1 = n) (K : Gl Z p e below s n0 P C S (T.setTop (mkF m n ls (.int z :: st)))) : Gl Z p e below s n0 P C S (T.setTop (mkF m pc ls (.ref a :: st))) := by
  obtain ⟨locs, vm0, k0, X, N, eh, hn0, hS, hk0, hH⟩ := X; obtain ⟨hx, hby, hZ, hown, hnm, hml, -⟩ := w; have hZ := State.Warmed39.trans hZ hS.1; have hown := (hS.1.alike.findClass _ _).trans hown; subst hn hz
  obtain ⟨cl, A, q⟩ := F
  have hs : cl.slots.size = vs.length := by rw [q]; simp
  rw [← hs] at K
  exact Gl.of (fun t k => X.arraylength hx (by rw [eh]; exact A.1) (State.isArrayOf_alike hZ.alike A.2.1) (g := mkF m pc ls (.ref a :: st)) rfl rfl (hb hby hd) _ k) K
theorem eqR {args : Array Value} {s : State} {t u : Term} {b : Addr} (hu : u.eval args s none [] s = some (.ref b)) (h : (Jvm.Cond.eq t u).value args s none s [] = some true) : t.eval args s none [] s = some (.ref b) := by
  obtain ⟨x, y, hx, hy, k1, k2⟩ := cmp_v (Or.inl h)
  cases hu.symm.trans hy
  obtain ⟨-, q⟩ := (k2 : (Value.ref b).isRef = true ∧ x.isRef = true)
  have e := gotT (eq_R hx hy q rfl) h
  rw [hx, e]
theorem eqI {args : Array Value} {s : State} {t u : Term} {z : Int32} (hu : u.eval args s none [] s = some (.int z)) (h : (Jvm.Cond.eq t u).value args s none s [] = some true) : t.eval args s none [] s = some (.int z) := by
  obtain ⟨x, y, hx, hy, k1, k2⟩ := cmp_v (Or.inl h)
  cases hu.symm.trans hy
  obtain ⟨x', rfl⟩ := (k2 : ∃ z', x = .int z')
  have e : some (decide (x' = z)) = some true := by rw [← h]; simp [Cond.value, hx, hy]
  have e' : x' = z := by simpa using e
  rw [hx, e']
theorem mask31 (x : Int32) : (x &&& 2147483647).toInt = x.toInt % 2147483648 := c_mask x 2147483647 31 (by decide) (by decide)
theorem irem_pos {x y : Int32} (hx : 0 ≤ x.toInt) : (x % y).toInt = x.toInt % y.toInt := (c_irem x y _ rfl).1 hx
theorem lrem_pos {x y : Int64} (hx : 0 ≤ x.toInt) : (x % y).toInt = x.toInt % y.toInt := by rw [← lrem_mod]; exact (c_lrem x y _ rfl).1 hx
theorem ne0I {x : Int32} (h : x.toInt ≠ 0) : x ≠ 0 := fun e => h (by rw [e]; rfl)
theorem ne0L {x : Int64} (h : x.toInt ≠ 0) : x ≠ 0 := fun e => h (by rw [e]; rfl)
theorem iadd_toInt {x y : Int32} (h1 : -2147483648 ≤ x.toInt + y.toInt) (h2 : x.toInt + y.toInt < 2147483648) : (x + y).toInt = x.toInt + y.toInt := XT.add32 ⟨by omega, by omega⟩
theorem isub_toInt {x y : Int32} (h1 : -2147483648 ≤ x.toInt - y.toInt) (h2 : x.toInt - y.toInt < 2147483648) : (x - y).toInt = x.toInt - y.toInt := XT.sub32 ⟨by omega, by omega⟩
theorem ladd_toInt {x y : Int64} (h1 : -9223372036854775808 ≤ x.toInt + y.toInt) (h2 : x.toInt + y.toInt < 9223372036854775808) : (x + y).toInt = x.toInt + y.toInt := XT.add64 ⟨by omega, by omega⟩
theorem lsub_toInt {x y : Int64} (h1 : -9223372036854775808 ≤ x.toInt - y.toInt) (h2 : x.toInt - y.toInt < 9223372036854775808) : (x - y).toInt = x.toInt - y.toInt := XT.sub64 ⟨by omega, by omega⟩
theorem l2i_toInt {x : Int64} (h1 : -2147483648 ≤ x.toInt) (h2 : x.toInt < 2147483648) : x.toInt32.toInt = x.toInt := XT.narrowInt ⟨by omega, by omega⟩
end Walk
end Jvm.OwnWalk
namespace Jvm.Pilot.@@N@@
open Jvm Jvm.ClassFile Sem Op Lib Jvm.Free Jvm.Stand Jvm.LawKit Jvm.RoadKit Bundle Jvm.OwnWalk Jvm.Pilot.@@N@@.Jvm.D
theorem own_wd {a0 : Array Value} {Z : State} (hw : ∀ d ∈ tables_1, d.before a0 Z = true) (i : Nat) {d : Jvm.Cond} (q : tables_1[i]? = some d) : d.before a0 Z = true := hw _ (List.mem_of_getElem? q)
theorem own_e255 : (255 : Int32).toInt = 255 := rfl
theorem own_c255 {a y z : Int32} (h1 : a &&& 255 = y) (h2 : y.toUInt32.toUInt16.toUInt32.toInt32 = z) : 0 ≤ z.toInt ∧ z.toInt ≤ 255 := by
  have q1 : (a &&& 255).toInt = a.toInt % 256 := c_mask a 255 8 (by decide) (by decide)
  have q2 := c_i2c y
  rw [h1] at q1; rw [h2] at q2; omega
theorem own_narc {z : Int32} (h : 0 ≤ z.toInt ∧ z.toInt ≤ 255) : nar .char z = z := by
  have q := c_i2c z
  apply Int32.toInt_inj.mp
  show z.toUInt32.toUInt16.toUInt32.toInt32.toInt = _
  omega
/-- the byte that a Latin-1 sign is kept as -/
def own_bt (z : Int32) : Int32 := z.toInt8.toInt32
theorem own_narbt (z : Int32) : nar .byte (own_bt z) = own_bt z := by
  show z.toInt8.toInt32.toInt8.toInt32 = z.toInt8.toInt32; simp
theorem own_fitbt (z : Int32) : fits .byte (.int (own_bt z)) = true := fits_nar_byte z
theorem own_narb {x y : Int32} (h : x.toInt8.toInt32 = y) : nar .byte y = y := by
  subst h; show x.toInt8.toInt32.toInt8.toInt32 = _; simp
theorem own_fitb {x y : Int32} (h : x.toInt8.toInt32 = y) : fits .byte (.int y) = true := h ▸ fits_nar_byte x
theorem own_nz {s : State} {args : Array Value} {t : Term} {z : Int32} (ev : t.eval args s none [] s = some (.int z)) (h : (Jvm.Cond.not (.eq t (.int 0))).value args s none s [] = some true) : ¬ z = 0 := by
  intro e; subst e; simp [Cond.value, Term.eval, ev] at h
theorem own_len {s : State} {args : Array Value} {t : Term} {a : Addr} {c : Cell} {ty : FieldType} {z : Int32} (ev : t.eval args s none [] s = some (.ref a)) (A : Arr s s.heap a c ty) (h : (Term.length t).eval args s none [] s = some (.int z)) : (c.slots.size : Int) = z.toInt := by
  have q := A.fin (U := s) (Vm.Alike.refl _)
  simp only [Term.eval, ev, q, Option.bind_eq_bind, Option.bind_some] at h
  split at h
  · rename_i hl
    have e2 : c.slots.size.toInt32 = z := by simpa using h
    rw [← e2, len_toInt (by omega)]
  · cases h
theorem own_box {Z : State} {args : Array Value} {t : Term} {K : String} {a : Addr} {c : Cell} {G : Jvm.Cond} (et : ∀ idx, t.eval args Z none idx Z = some (.ref a)) (A : Arr Z Z.heap a c (.object K)) (h : (Jvm.Cond.all t (.and (.exactly (.elem t (.index 0)) K) G)).value args Z none Z [] = some true) (j : Int32) (hj : ¬ (j < 0 ∨ c.slots.size ≤ j.toNatClampNeg)) : ∃ b : Addr, c.slots[j.toNatClampNeg]? = some (.ref b) ∧ Exa Z Z.heap b K := by
  have nn : ¬ j < 0 := fun x => hj (Or.inl x)
  obtain ⟨u1, -⟩ := and_e (Cond.all_elim (et []) (A.fin (Vm.Alike.refl _)) h j.toNatClampNeg (Nat.lt_of_not_le fun x => hj (Or.inr x)))
  obtain ⟨box, eb⟩ := exa_v u1
  exact ⟨box, (elem_f (et _) (idx_at nn) (A.fin (Vm.Alike.refl _)) nn).symm.trans eb, exa_at eb u1⟩
theorem own_str {a0 : Array Value} {Z : State} (hw : ∀ d ∈ tables_1, d.before a0 Z = true) : ∀ a ∈ Bundle.stringAtoms, a.before a0 Z = true := by
  intro a ha
  simp only [Bundle.stringAtoms, List.mem_cons, List.not_mem_nil, or_false] at ha
  rcases ha with rfl | rfl | rfl | rfl | rfl | rfl | rfl
  · exact own_wd hw 32 rfl
  · exact own_wd hw 31 rfl
  · exact own_wd hw 46 rfl
  · exact own_wd hw 56 rfl
  · exact own_wd hw 54 rfl
  · exact own_wd hw 118 rfl
  · exact own_wd hw 119 rfl
theorem own_ew {a0 : Array Value} {Z : State} (hw : ∀ d ∈ tables_1, d.before a0 Z = true) : EW Z a0 EL := (EW.cons (own_wd hw 117 rfl) (by decide) EW.nil)
theorem d1_0 : decode jdk_35_method_24_code 0 = .ok (.sipush 128, 3) := by decide +kernel
theorem d1_3 : decode jdk_35_method_24_code 3 = .ok (.istore_n 2, 1) := by decide +kernel
theorem d1_4 : decode jdk_35_method_24_code 4 = .ok (.lload_n 0, 1) := by decide +kernel
theorem d1_5 : decode jdk_35_method_24_code 5 = .ok (.ldc2_w 230, 3) := by decide +kernel
theorem d1_8 : decode jdk_35_method_24_code 8 = .ok (.lcmp, 1) := by decide +kernel
theorem d1_9 : decode jdk_35_method_24_code 9 = .ok (.ifCond .lt 22, 3) := by decide +kernel
theorem d1_12 : decode jdk_35_method_24_code 12 = .ok (.lload_n 0, 1) := by decide +kernel
theorem d1_13 : decode jdk_35_method_24_code 13 = .ok (.ldc2_w 232, 3) := by decide +kernel
theorem d1_16 : decode jdk_35_method_24_code 16 = .ok (.lcmp, 1) := by decide +kernel
theorem d1_17 : decode jdk_35_method_24_code 17 = .ok (.ifCond .gt 14, 3) := by decide +kernel
theorem d1_20 : decode jdk_35_method_24_code 20 = .ok (.getstatic 234, 3) := by decide +kernel
theorem d1_23 : decode jdk_35_method_24_code 23 = .ok (.lload_n 0, 1) := by decide +kernel
theorem d1_24 : decode jdk_35_method_24_code 24 = .ok (.l2i, 1) := by decide +kernel
theorem d1_25 : decode jdk_35_method_24_code 25 = .ok (.sipush 128, 3) := by decide +kernel
theorem d1_28 : decode jdk_35_method_24_code 28 = .ok (.iadd, 1) := by decide +kernel
theorem d1_29 : decode jdk_35_method_24_code 29 = .ok (.aaload, 1) := by decide +kernel
theorem d1_30 : decode jdk_35_method_24_code 30 = .ok (.areturn, 1) := by decide +kernel
theorem d1_31 : decode jdk_35_method_24_code 31 = .ok (.new 1, 3) := by decide +kernel
theorem d1_34 : decode jdk_35_method_24_code 34 = .ok (.dup, 1) := by decide +kernel
theorem d1_35 : decode jdk_35_method_24_code 35 = .ok (.lload_n 0, 1) := by decide +kernel
theorem d1_36 : decode jdk_35_method_24_code 36 = .ok (.invokespecial 240, 3) := by decide +kernel
theorem d1_39 : decode jdk_35_method_24_code 39 = .ok (.areturn, 1) := by decide +kernel
theorem d2_0 : decode jdk_117_method_4_code 0 = .ok (.new 1, 3) := by decide +kernel
theorem d2_3 : decode jdk_117_method_4_code 3 = .ok (.dup, 1) := by decide +kernel
theorem d2_4 : decode jdk_117_method_4_code 4 = .ok (.dload_n 0, 1) := by decide +kernel
theorem d2_5 : decode jdk_117_method_4_code 5 = .ok (.invokespecial 105, 3) := by decide +kernel
theorem d2_8 : decode jdk_117_method_4_code 8 = .ok (.areturn, 1) := by decide +kernel
theorem d3_0 : decode jdk_117_method_9_code 0 = .ok (.aload_n 0, 1) := by decide +kernel
theorem d3_1 : decode jdk_117_method_9_code 1 = .ok (.invokespecial 113, 3) := by decide +kernel
theorem d3_4 : decode jdk_117_method_9_code 4 = .ok (.aload_n 0, 1) := by decide +kernel
theorem d3_5 : decode jdk_117_method_9_code 5 = .ok (.dload_n 1, 1) := by decide +kernel
theorem d3_6 : decode jdk_117_method_9_code 6 = .ok (.putfield 118, 3) := by decide +kernel
theorem d3_9 : decode jdk_117_method_9_code 9 = .ok (.return_, 1) := by decide +kernel
theorem d4_0 : decode jdk_18_method_1_code 0 = .ok (.aload_n 0, 1) := by decide +kernel
theorem d4_1 : decode jdk_18_method_1_code 1 = .ok (.invokespecial 1, 3) := by decide +kernel
theorem d4_4 : decode jdk_18_method_1_code 4 = .ok (.return_, 1) := by decide +kernel
theorem d6_0 : decode jdk_42_method_3_code 0 = .ok (.aload_n 0, 1) := by decide +kernel
theorem d6_1 : decode jdk_42_method_3_code 1 = .ok (.aload_n 1, 1) := by decide +kernel
theorem d6_2 : decode jdk_42_method_3_code 2 = .ok (.iconst 0, 1) := by decide +kernel
theorem d6_3 : decode jdk_42_method_3_code 3 = .ok (.aload_n 1, 1) := by decide +kernel
theorem d6_4 : decode jdk_42_method_3_code 4 = .ok (.arraylength, 1) := by decide +kernel
theorem d6_5 : decode jdk_42_method_3_code 5 = .ok (.aconst_null, 1) := by decide +kernel
theorem d6_6 : decode jdk_42_method_3_code 6 = .ok (.invokespecial 27, 3) := by decide +kernel
theorem d6_9 : decode jdk_42_method_3_code 9 = .ok (.return_, 1) := by decide +kernel
theorem d7_0 : decode jdk_42_method_149_code 0 = .ok (.aload_n 0, 1) := by decide +kernel
theorem d7_1 : decode jdk_42_method_149_code 1 = .ok (.invokespecial 1, 3) := by decide +kernel
theorem d7_4 : decode jdk_42_method_149_code 4 = .ok (.iload_n 3, 1) := by decide +kernel
theorem d7_5 : decode jdk_42_method_149_code 5 = .ok (.ifCond .ne 22, 3) := by decide +kernel
theorem d7_8 : decode jdk_42_method_149_code 8 = .ok (.aload_n 0, 1) := by decide +kernel
theorem d7_9 : decode jdk_42_method_149_code 9 = .ok (.ldc 7, 2) := by decide +kernel
theorem d7_11 : decode jdk_42_method_149_code 11 = .ok (.getfield 9, 3) := by decide +kernel
theorem d7_14 : decode jdk_42_method_149_code 14 = .ok (.putfield 9, 3) := by decide +kernel
theorem d7_17 : decode jdk_42_method_149_code 17 = .ok (.aload_n 0, 1) := by decide +kernel
theorem d7_18 : decode jdk_42_method_149_code 18 = .ok (.ldc 7, 2) := by decide +kernel
theorem d7_20 : decode jdk_42_method_149_code 20 = .ok (.getfield 15, 3) := by decide +kernel
theorem d7_23 : decode jdk_42_method_149_code 23 = .ok (.putfield 15, 3) := by decide +kernel
theorem d7_26 : decode jdk_42_method_149_code 26 = .ok (.return_, 1) := by decide +kernel
theorem d7_27 : decode jdk_42_method_149_code 27 = .ok (.getstatic 38, 3) := by decide +kernel
theorem d7_30 : decode jdk_42_method_149_code 30 = .ok (.ifCond .eq 28, 3) := by decide +kernel
theorem d7_33 : decode jdk_42_method_149_code 33 = .ok (.aload_n 1, 1) := by decide +kernel
theorem d7_34 : decode jdk_42_method_149_code 34 = .ok (.iload_n 2, 1) := by decide +kernel
theorem d7_35 : decode jdk_42_method_149_code 35 = .ok (.iload_n 3, 1) := by decide +kernel
theorem d7_36 : decode jdk_42_method_149_code 36 = .ok (.invokestatic 177, 3) := by decide +kernel
theorem d7_39 : decode jdk_42_method_149_code 39 = .ok (.astore 5, 2) := by decide +kernel
theorem d7_41 : decode jdk_42_method_149_code 41 = .ok (.aload_n 0, 1) := by decide +kernel
theorem d7_42 : decode jdk_42_method_149_code 42 = .ok (.aload 5, 2) := by decide +kernel
theorem d7_44 : decode jdk_42_method_149_code 44 = .ok (.iload_n 3, 1) := by decide +kernel
theorem d7_45 : decode jdk_42_method_149_code 45 = .ok (.invokestatic 47, 3) := by decide +kernel
theorem d7_48 : decode jdk_42_method_149_code 48 = .ok (.putfield 15, 3) := by decide +kernel
theorem d7_51 : decode jdk_42_method_149_code 51 = .ok (.aload_n 0, 1) := by decide +kernel
theorem d7_52 : decode jdk_42_method_149_code 52 = .ok (.aload 5, 2) := by decide +kernel
theorem d7_54 : decode jdk_42_method_149_code 54 = .ok (.putfield 9, 3) := by decide +kernel
theorem d7_57 : decode jdk_42_method_149_code 57 = .ok (.return_, 1) := by decide +kernel
theorem d8_0 : decode jdk_52_method_16_code 0 = .ok (.iload_n 2, 1) := by decide +kernel
theorem d8_1 : decode jdk_52_method_16_code 1 = .ok (.newarray .byte, 2) := by decide +kernel
theorem d8_3 : decode jdk_52_method_16_code 3 = .ok (.astore_n 3, 1) := by decide +kernel
theorem d8_4 : decode jdk_52_method_16_code 4 = .ok (.aload_n 0, 1) := by decide +kernel
theorem d8_5 : decode jdk_52_method_16_code 5 = .ok (.iload_n 1, 1) := by decide +kernel
theorem d8_6 : decode jdk_52_method_16_code 6 = .ok (.aload_n 3, 1) := by decide +kernel
theorem d8_7 : decode jdk_52_method_16_code 7 = .ok (.iconst 0, 1) := by decide +kernel
theorem d8_8 : decode jdk_52_method_16_code 8 = .ok (.iload_n 2, 1) := by decide +kernel
theorem d8_9 : decode jdk_52_method_16_code 9 = .ok (.invokestatic 115, 3) := by decide +kernel
theorem d8_12 : decode jdk_52_method_16_code 12 = .ok (.istore 4, 2) := by decide +kernel
theorem d8_14 : decode jdk_52_method_16_code 14 = .ok (.iload 4, 2) := by decide +kernel
theorem d8_16 : decode jdk_52_method_16_code 16 = .ok (.iload_n 2, 1) := by decide +kernel
theorem d8_17 : decode jdk_52_method_16_code 17 = .ok (.if_icmp .eq 40, 3) := by decide +kernel
theorem d8_57 : decode jdk_52_method_16_code 57 = .ok (.aload_n 3, 1) := by decide +kernel
theorem d8_58 : decode jdk_52_method_16_code 58 = .ok (.areturn, 1) := by decide +kernel
theorem d9_0 : decode jdk_52_method_21_code 0 = .ok (.iconst 0, 1) := by decide +kernel
theorem d9_1 : decode jdk_52_method_21_code 1 = .ok (.istore 5, 2) := by decide +kernel
theorem d9_3 : decode jdk_52_method_21_code 3 = .ok (.iload 5, 2) := by decide +kernel
theorem d9_5 : decode jdk_52_method_21_code 5 = .ok (.iload 4, 2) := by decide +kernel
theorem d9_7 : decode jdk_52_method_21_code 7 = .ok (.if_icmp .ge 37, 3) := by decide +kernel
theorem d9_10 : decode jdk_52_method_21_code 10 = .ok (.aload_n 0, 1) := by decide +kernel
theorem d9_11 : decode jdk_52_method_21_code 11 = .ok (.iload_n 1, 1) := by decide +kernel
theorem d9_12 : decode jdk_52_method_21_code 12 = .ok (.caload, 1) := by decide +kernel
theorem d9_13 : decode jdk_52_method_21_code 13 = .ok (.istore 6, 2) := by decide +kernel
theorem d9_15 : decode jdk_52_method_21_code 15 = .ok (.iload 6, 2) := by decide +kernel
theorem d9_17 : decode jdk_52_method_21_code 17 = .ok (.sipush 255, 3) := by decide +kernel
theorem d9_20 : decode jdk_52_method_21_code 20 = .ok (.if_icmp .le 6, 3) := by decide +kernel
theorem d9_26 : decode jdk_52_method_21_code 26 = .ok (.aload_n 2, 1) := by decide +kernel
theorem d9_27 : decode jdk_52_method_21_code 27 = .ok (.iload_n 3, 1) := by decide +kernel
theorem d9_28 : decode jdk_52_method_21_code 28 = .ok (.iload 6, 2) := by decide +kernel
theorem d9_30 : decode jdk_52_method_21_code 30 = .ok (.i2b, 1) := by decide +kernel
theorem d9_31 : decode jdk_52_method_21_code 31 = .ok (.bastore, 1) := by decide +kernel
theorem d9_32 : decode jdk_52_method_21_code 32 = .ok (.iinc 1 1, 3) := by decide +kernel
theorem d9_35 : decode jdk_52_method_21_code 35 = .ok (.iinc 3 1, 3) := by decide +kernel
theorem d9_38 : decode jdk_52_method_21_code 38 = .ok (.iinc 5 1, 3) := by decide +kernel
theorem d9_41 : decode jdk_52_method_21_code 41 = .ok (.goto (-38), 3) := by decide +kernel
theorem d9_44 : decode jdk_52_method_21_code 44 = .ok (.iload 4, 2) := by decide +kernel
theorem d9_46 : decode jdk_52_method_21_code 46 = .ok (.ireturn, 1) := by decide +kernel
theorem d10_0 : decode jdk_52_method_15_code 0 = .ok (.iload_n 1, 1) := by decide +kernel
theorem d10_1 : decode jdk_52_method_15_code 1 = .ok (.aload_n 0, 1) := by decide +kernel
theorem d10_2 : decode jdk_52_method_15_code 2 = .ok (.arraylength, 1) := by decide +kernel
theorem d10_3 : decode jdk_52_method_15_code 3 = .ok (.isub, 1) := by decide +kernel
theorem d10_4 : decode jdk_52_method_15_code 4 = .ok (.bipush 31, 2) := by decide +kernel
theorem d10_6 : decode jdk_52_method_15_code 6 = .ok (.iushr, 1) := by decide +kernel
theorem d10_7 : decode jdk_52_method_15_code 7 = .ok (.i2b, 1) := by decide +kernel
theorem d10_8 : decode jdk_52_method_15_code 8 = .ok (.ireturn, 1) := by decide +kernel
theorem d11_0 : decode prog_15_method_2_code 0 = .ok (.new 8, 3) := by decide +kernel
theorem d11_3 : decode prog_15_method_2_code 3 = .ok (.dup, 1) := by decide +kernel
theorem d11_4 : decode prog_15_method_2_code 4 = .ok (.aload_n 0, 1) := by decide +kernel
theorem d11_5 : decode prog_15_method_2_code 5 = .ok (.invokevirtual 13, 3) := by decide +kernel
theorem d11_8 : decode prog_15_method_2_code 8 = .ok (.checkcast 14, 3) := by decide +kernel
theorem d11_11 : decode prog_15_method_2_code 11 = .ok (.invokespecial 18, 3) := by decide +kernel
theorem d11_14 : decode prog_15_method_2_code 14 = .ok (.areturn, 1) := by decide +kernel
theorem d12_0 : decode prog_15_method_1_code 0 = .ok (.aload_n 0, 1) := by decide +kernel
theorem d12_1 : decode prog_15_method_1_code 1 = .ok (.invokespecial 1, 3) := by decide +kernel
theorem d12_4 : decode prog_15_method_1_code 4 = .ok (.aload_n 0, 1) := by decide +kernel
theorem d12_5 : decode prog_15_method_1_code 5 = .ok (.aload_n 1, 1) := by decide +kernel
theorem d12_6 : decode prog_15_method_1_code 6 = .ok (.putfield 7, 3) := by decide +kernel
theorem d12_9 : decode prog_15_method_1_code 9 = .ok (.return_, 1) := by decide +kernel
theorem d13_0 : decode prog_18_method_4_code 0 = .ok (.aload_n 0, 1) := by decide +kernel
theorem d13_1 : decode prog_18_method_4_code 1 = .ok (.ifnonnull 10, 3) := by decide +kernel
theorem d13_4 : decode prog_18_method_4_code 4 = .ok (.getstatic 3, 3) := by decide +kernel
theorem d13_7 : decode prog_18_method_4_code 7 = .ok (.astore_n 1, 1) := by decide +kernel
theorem d13_8 : decode prog_18_method_4_code 8 = .ok (.goto 79, 3) := by decide +kernel
theorem d13_11 : decode prog_18_method_4_code 11 = .ok (.aload_n 0, 1) := by decide +kernel
theorem d13_12 : decode prog_18_method_4_code 12 = .ok (.instanceof 38, 3) := by decide +kernel
theorem d13_15 : decode prog_18_method_4_code 15 = .ok (.ifCond .eq 10, 3) := by decide +kernel
theorem d13_18 : decode prog_18_method_4_code 18 = .ok (.getstatic 7, 3) := by decide +kernel
theorem d13_21 : decode prog_18_method_4_code 21 = .ok (.astore_n 1, 1) := by decide +kernel
theorem d13_22 : decode prog_18_method_4_code 22 = .ok (.goto 65, 3) := by decide +kernel
theorem d13_25 : decode prog_18_method_4_code 25 = .ok (.aload_n 0, 1) := by decide +kernel
theorem d13_26 : decode prog_18_method_4_code 26 = .ok (.instanceof 40, 3) := by decide +kernel
theorem d13_29 : decode prog_18_method_4_code 29 = .ok (.ifCond .eq 10, 3) := by decide +kernel
theorem d13_32 : decode prog_18_method_4_code 32 = .ok (.getstatic 10, 3) := by decide +kernel
theorem d13_35 : decode prog_18_method_4_code 35 = .ok (.astore_n 1, 1) := by decide +kernel
theorem d13_36 : decode prog_18_method_4_code 36 = .ok (.goto 51, 3) := by decide +kernel
theorem d13_39 : decode prog_18_method_4_code 39 = .ok (.aload_n 0, 1) := by decide +kernel
theorem d13_40 : decode prog_18_method_4_code 40 = .ok (.instanceof 42, 3) := by decide +kernel
theorem d13_43 : decode prog_18_method_4_code 43 = .ok (.ifCond .eq 10, 3) := by decide +kernel
theorem d13_46 : decode prog_18_method_4_code 46 = .ok (.getstatic 13, 3) := by decide +kernel
theorem d13_49 : decode prog_18_method_4_code 49 = .ok (.astore_n 1, 1) := by decide +kernel
theorem d13_50 : decode prog_18_method_4_code 50 = .ok (.goto 37, 3) := by decide +kernel
theorem d13_53 : decode prog_18_method_4_code 53 = .ok (.aload_n 0, 1) := by decide +kernel
theorem d13_54 : decode prog_18_method_4_code 54 = .ok (.instanceof 44, 3) := by decide +kernel
theorem d13_57 : decode prog_18_method_4_code 57 = .ok (.ifCond .eq 10, 3) := by decide +kernel
theorem d13_60 : decode prog_18_method_4_code 60 = .ok (.getstatic 16, 3) := by decide +kernel
theorem d13_63 : decode prog_18_method_4_code 63 = .ok (.astore_n 1, 1) := by decide +kernel
theorem d13_64 : decode prog_18_method_4_code 64 = .ok (.goto 23, 3) := by decide +kernel
theorem d13_87 : decode prog_18_method_4_code 87 = .ok (.aload_n 1, 1) := by decide +kernel
theorem d13_88 : decode prog_18_method_4_code 88 = .ok (.areturn, 1) := by decide +kernel
theorem d14_0 : decode jdk_35_method_26_code 0 = .ok (.aload_n 0, 1) := by decide +kernel
theorem d14_1 : decode jdk_35_method_26_code 1 = .ok (.invokespecial 270, 3) := by decide +kernel
theorem d14_4 : decode jdk_35_method_26_code 4 = .ok (.aload_n 0, 1) := by decide +kernel
theorem d14_5 : decode jdk_35_method_26_code 5 = .ok (.lload_n 1, 1) := by decide +kernel
theorem d14_6 : decode jdk_35_method_26_code 6 = .ok (.putfield 273, 3) := by decide +kernel
theorem d14_9 : decode jdk_35_method_26_code 9 = .ok (.return_, 1) := by decide +kernel
theorem own_pd0 : parseMethodDescriptor "()V" = some ⟨[], none⟩ := by decide +kernel
theorem own_pd1 : parseMethodDescriptor "(D)V" = some ⟨[.double], none⟩ := by decide +kernel
theorem own_pd2 : parseMethodDescriptor "(J)V" = some ⟨[.long], none⟩ := by decide +kernel
theorem own_pd3 : parseMethodDescriptor "([CIILjava/lang/Void;)V" = some ⟨[(.array .char), .int, .int, (.object "java/lang/Void")], none⟩ := by decide +kernel
theorem own_pd4 : parseMethodDescriptor "([CI[BII)I" = some ⟨[(.array .char), .int, (.array .byte), .int, .int], some .int⟩ := by decide +kernel
theorem own_pd5 : parseMethodDescriptor "([CII)[B" = some ⟨[(.array .char), .int, .int], some (.array .byte)⟩ := by decide +kernel
theorem own_pd6 : parseMethodDescriptor "([BI)B" = some ⟨[(.array .byte), .int], some .byte⟩ := by decide +kernel
theorem own_pd7 : parseMethodDescriptor "([B)V" = some ⟨[(.array .byte)], none⟩ := by decide +kernel
theorem own_pd8 : parseMethodDescriptor "(J)Ljava/lang/Long;" = some ⟨[.long], some (.object "java/lang/Long")⟩ := by decide +kernel
theorem own_pd9 : parseMethodDescriptor "(D)Ljava/lang/Double;" = some ⟨[.double], some (.object "java/lang/Double")⟩ := by decide +kernel
theorem own_pd10 : parseMethodDescriptor "([C)V" = some ⟨[(.array .char)], none⟩ := by decide +kernel
theorem own_pd11 : parseMethodDescriptor "([B)Lcom/example/cassalink/cassalink/row/Blob;" = some ⟨[(.array .byte)], some (.object "com/example/cassalink/cassalink/row/Blob")⟩ := by decide +kernel
theorem own_pd12 : parseMethodDescriptor "(Ljava/lang/Object;)Lcom/example/cassalink/cassalink/row/ValueKind;" = some ⟨[(.object "java/lang/Object")], some (.object "com/example/cassalink/cassalink/row/ValueKind")⟩ := by decide +kernel
def own_env (Z : State) (h : Heap) (sNULL sINTEGER sREAL sTEXT sBLOB : Addr) : Prop := Sta Z h "com/example/cassalink/cassalink/row/ValueKind" "NULL" "Lcom/example/cassalink/cassalink/row/ValueKind;" (.ref sNULL) ∧ Exa Z h sNULL "com/example/cassalink/cassalink/row/ValueKind" ∧ Sta Z h "com/example/cassalink/cassalink/row/ValueKind" "INTEGER" "Lcom/example/cassalink/cassalink/row/ValueKind;" (.ref sINTEGER) ∧ Exa Z h sINTEGER "com/example/cassalink/cassalink/row/ValueKind" ∧ Sta Z h "com/example/cassalink/cassalink/row/ValueKind" "REAL" "Lcom/example/cassalink/cassalink/row/ValueKind;" (.ref sREAL) ∧ Exa Z h sREAL "com/example/cassalink/cassalink/row/ValueKind" ∧ Sta Z h "com/example/cassalink/cassalink/row/ValueKind" "TEXT" "Lcom/example/cassalink/cassalink/row/ValueKind;" (.ref sTEXT) ∧ Exa Z h sTEXT "com/example/cassalink/cassalink/row/ValueKind" ∧ Sta Z h "com/example/cassalink/cassalink/row/ValueKind" "BLOB" "Lcom/example/cassalink/cassalink/row/ValueKind;" (.ref sBLOB) ∧ Exa Z h sBLOB "com/example/cassalink/cassalink/row/ValueKind"
set_option maxRecDepth 65536 in
set_option maxHeartbeats 40000000 in
theorem own_num (l : Launch) (Z : State) (a0 : Array Value) (hw : ∀ d ∈ tables_1, d.before a0 Z = true) (a : Addr) (h0 : Heap) (n0 : Nat) {D : Addr → Prop} (hn : n0 ≤ h0.size)  :
    ConN l Z (⟨"java/lang/Number", "<init>", "()V"⟩ : MethodName) jdk_18_method_1_code 1 ({ frames := 1, cells := 0, slots := 0, locals := 12 } : Room) #[(.ref a)] h0 n0 D (fun h => h0 = h ∧ True) := by
  refine Con.of (plainFor_of_name (by first | (simp [plainName, overriddenIn]; done) | decide +kernel)) hn ?_
  intro p e s m below meth c T w X
  refine Gl.enter (ls := #[.val (.ref a)]) (by first | (simp [entryFrame, mkF, argsToLocals, Value.category]; done) | rfl) ?_
  refine gAloadN X w d4_0 rfl rfl (n := 1) rfl ?_
  refine gInitO X w (own_wd hw 24 rfl) (own_wd hw 25 rfl) (own_wd hw 26 rfl) d4_1 rfl (by decide) (W := 0) (Nat.le_of_eq rfl) (by decide) (n := 4) rfl ?_
  intro T X
  exact gRetV X w rfl d4_4 (by decide) (by decide) (⟨rfl, rfl, rfl, trivial⟩)
set_option maxRecDepth 65536 in
set_option maxHeartbeats 40000000 in
theorem own_dinit (l : Launch) (Z : State) (a0 : Array Value) (hw : ∀ d ∈ tables_1, d.before a0 Z = true) (a : Addr) (u : UInt64) (h0 : Heap) (n0 : Nat) {D : Addr → Prop} (hn : n0 ≤ h0.size) (P0 : Exa Z h0 a "java/lang/Double") (P1 : Fld Z h0 a "java/lang/Double" "value" "D" (.double (0 : UInt64))) (na_a : n0 ≤ a ∧ ¬ D a) :
    ConN l Z (⟨"java/lang/Double", "<init>", "(D)V"⟩ : MethodName) jdk_117_method_9_code 3 ({ frames := 2, cells := 0, slots := 0, locals := 26 } : Room) #[(.ref a), (.double u)] h0 n0 D (fun h => Keep h0 h [a] ∧ True) := by
  refine Con.of (plainFor_of_name (by first | (simp [plainName, overriddenIn]; done) | decide +kernel)) hn ?_
  intro p e s m below meth c T w X
  refine Gl.enter (ls := #[.val (.ref a), .val (.double u), .second]) (by first | (simp [entryFrame, mkF, argsToLocals, Value.category]; done) | rfl) ?_
  have K_0 : Keep h0 h0 [a] := Keep.refl _ _
  refine gAloadN X w d3_0 rfl rfl (n := 1) rfl ?_
  refine gCallIn X w [] [] rfl (own_num l Z a0 hw a h0 n0 (Sd.le X) ) (own_wd hw 18 rfl) (own_wd hw 19 rfl) (own_wd hw 22 rfl) (own_wd hw 23 rfl) (by decide) own_pd0 rfl rfl d3_1 rfl (W := 0) (Nat.le_of_eq rfl) (by decide) (by decide) (by decide) (by decide) (n := 4) rfl ?_
  rintro T _ ⟨rfl, -⟩ X
  refine gAloadN X w d3_4 rfl rfl (n := 5) rfl ?_
  refine gDloadN X w d3_5 rfl (n := 6) rfl ?_
  refine gPutF X w (own_wd hw 27 rfl) Via.refl P1 P0 (Or.inr ⟨own_wd hw 28 rfl, rfl, rfl⟩) (own_wd hw 13 rfl) na_a (ty := .double) (by decide) rfl rfl d3_6 (n := 9) rfl ?_
  intro T hp6 X W6
  have F_2 := K_0.wr W6 (Or.inl (by simp))
  have F_3 := P0.wr W6
  have F_4 := P1.same W6
  exact gRetV X w rfl d3_9 (by decide) (by decide) (⟨rfl, rfl, F_2, trivial⟩)
set_option maxRecDepth 65536 in
set_option maxHeartbeats 40000000 in
theorem own_dval (l : Launch) (Z : State) (a0 : Array Value) (hw : ∀ d ∈ tables_1, d.before a0 Z = true) (u : UInt64) (h0 : Heap) (n0 : Nat) {D : Addr → Prop} (hn : n0 ≤ h0.size)  :
    ConV l Z (⟨"java/lang/Double", "valueOf", "(D)Ljava/lang/Double;"⟩ : MethodName) jdk_117_method_4_code 2 (some (.object "java/lang/Double")) ({ frames := 3, cells := 1, slots := 1, locals := 44 } : Room) #[(.double u)] h0 n0 D (fun v h => Keep h0 h [] ∧ ∃ (b : Addr), v = (.ref b) ∧ h0.size ≤ b ∧ (n0 ≤ b ∧ ¬ D b) ∧ Exa Z h b "java/lang/Double") := by
  refine Con.of (plainFor_of_name (by first | (simp [plainName, overriddenIn]; done) | decide +kernel)) hn ?_
  intro p e s m below meth c T w X
  refine Gl.enter (ls := #[.val (.double u), .second]) (by first | (simp [entryFrame, mkF, argsToLocals, Value.category]; done) | rfl) ?_
  have K_0 : Keep h0 h0 [] := Keep.refl _ _
  refine gNew X w (own_wd hw 12 rfl) (own_wd hw 13 rfl) (own_wd hw 10 rfl) d2_0 (by decide) (by decide) (n := 3) rfl ?_
  intro T hp0 ad0 ea0 na0 X E0 A0 D0
  have F_1 := Nat.le_trans K_0.1 (Nat.le_of_eq ea0.symm)
  have F_2 := K_0.ext E0
  have F_3 : Fld Z hp0 ad0 "java/lang/Double" "value" "D" (.double (0 : UInt64)) := D0 (Or.inr (own_wd hw 28 rfl)) (ty := .double) (by decide)
  refine gDup X w d2_3 rfl (n := 4) rfl ?_
  refine gDloadN X w d2_4 rfl (n := 5) rfl ?_
  refine gCallIn X w [(.double u)] [(.ref ad0)] rfl (own_dinit l Z a0 hw ad0 u hp0 n0 (Sd.le X) A0 F_3 na0) (own_wd hw 14 rfl) (own_wd hw 15 rfl) (own_wd hw 10 rfl) (own_wd hw 17 rfl) (by decide) own_pd1 rfl rfl d2_5 rfl (W := 1) (Nat.le_of_eq rfl) (by decide) (by decide) (by decide) (by decide) (n := 8) rfl ?_
  rintro T h_4 ⟨K_4, -⟩ X
  have F_5 := F_2.trans K_4 (allS (Or.inr F_1) all0)
  have F_6 := A0.keep K_4
  exact gRetA X w rfl rfl rfl d2_8 (by decide) (by decide) (⟨rfl, _, rfl, F_5, ad0, rfl, F_1, na0, F_6⟩)
set_option maxRecDepth 65536 in
set_option maxHeartbeats 40000000 in
theorem own_linit (l : Launch) (Z : State) (a0 : Array Value) (hw : ∀ d ∈ tables_1, d.before a0 Z = true) (a : Addr) (u : Int64) (h0 : Heap) (n0 : Nat) {D : Addr → Prop} (hn : n0 ≤ h0.size) (P0 : Exa Z h0 a "java/lang/Long") (P1 : Fld Z h0 a "java/lang/Long" "value" "J" (.long (0 : Int64))) (na_a : n0 ≤ a ∧ ¬ D a) :
    ConN l Z (⟨"java/lang/Long", "<init>", "(J)V"⟩ : MethodName) jdk_35_method_26_code 3 ({ frames := 2, cells := 0, slots := 0, locals := 26 } : Room) #[(.ref a), (.long u)] h0 n0 D (fun h => Keep h0 h [a] ∧ True) := by
  refine Con.of (plainFor_of_name (by first | (simp [plainName, overriddenIn]; done) | decide +kernel)) hn ?_
  intro p e s m below meth c T w X
  refine Gl.enter (ls := #[.val (.ref a), .val (.long u), .second]) (by first | (simp [entryFrame, mkF, argsToLocals, Value.category]; done) | rfl) ?_
  have K_0 : Keep h0 h0 [a] := Keep.refl _ _
  refine gAloadN X w d14_0 rfl rfl (n := 1) rfl ?_
  refine gCallIn X w [] [] rfl (own_num l Z a0 hw a h0 n0 (Sd.le X) ) (own_wd hw 113 rfl) (own_wd hw 19 rfl) (own_wd hw 22 rfl) (own_wd hw 23 rfl) (by decide) own_pd0 rfl rfl d14_1 rfl (W := 0) (Nat.le_of_eq rfl) (by decide) (by decide) (by decide) (by decide) (n := 4) rfl ?_
  rintro T _ ⟨rfl, -⟩ X
  refine gAloadN X w d14_4 rfl rfl (n := 5) rfl ?_
  refine gJloadN X w d14_5 rfl (n := 6) rfl ?_
  refine gPutF X w (own_wd hw 115 rfl) Via.refl P1 P0 (Or.inr ⟨own_wd hw 116 rfl, rfl, rfl⟩) (own_wd hw 109 rfl) na_a (ty := .long) (by decide) rfl rfl d14_6 (n := 9) rfl ?_
  intro T hp6 X W6
  have F_2 := K_0.wr W6 (Or.inl (by simp))
  have F_3 := P0.wr W6
  have F_4 := P1.same W6
  exact gRetV X w rfl d14_9 (by decide) (by decide) (⟨rfl, rfl, F_2, trivial⟩)
set_option maxRecDepth 65536 in
set_option maxHeartbeats 40000000 in
theorem own_lval (l : Launch) (Z : State) (a0 : Array Value) (hw : ∀ d ∈ tables_1, d.before a0 Z = true) (u : Int64) (ca : Addr) (cs : List Value) (h0 : Heap) (n0 : Nat) {D : Addr → Prop} (hn : n0 ≤ h0.size) (P0 : Sta Z h0 "java/lang/Long$LongCache" "cache" "[Ljava/lang/Long;" (.ref ca)) (P1 : Av Z h0 ca (.object "java/lang/Long") cs) (hbx : ∀ j : Int32, 0 ≤ j.toInt → j.toInt < 256 → ∃ b : Addr, cs[j.toInt.toNat]? = some (.ref b) ∧ Exa Z h0 b "java/lang/Long") :
    ConV l Z (⟨"java/lang/Long", "valueOf", "(J)Ljava/lang/Long;"⟩ : MethodName) jdk_35_method_24_code 3 (some (.object "java/lang/Long")) ({ frames := 3, cells := 1, slots := 1, locals := 44 } : Room) #[(.long u)] h0 n0 D (fun v h => Keep h0 h [] ∧ ∃ (b : Addr), v = (.ref b) ∧ Exa Z h b "java/lang/Long") := by
  refine Con.of (plainFor_of_name (by first | (simp [plainName, overriddenIn]; done) | decide +kernel)) hn ?_
  intro p e s m below meth c T w X
  refine Gl.enter (ls := #[.val (.long u), .second, .unset]) (by first | (simp [entryFrame, mkF, argsToLocals, Value.category]; done) | rfl) ?_
  have K_0 : Keep h0 h0 [] := Keep.refl _ _
  refine gSipush X w d1_0 (z := (128 : Int32)) (by decide) (n := 3) rfl ?_
  refine gIstoreN X w d1_3 #[.val (.long u), .second, .val (.int (128 : Int32))] rfl (n := 4) rfl ?_
  refine gJloadN X w d1_4 rfl (n := 5) rfl ?_
  refine gLdc2 X w (own_wd hw 4 rfl) d1_5 (n := 8) rfl ?_
  refine gLcmp X w d1_8 rfl (n := 9) rfl ?_
  refine gIfL_lt X w d1_9 (n := 31) (n' := 12) (by decide) rfl rfl ?_ ?_
  · intro c9
    refine gNew X w (own_wd hw 108 rfl) (own_wd hw 109 rfl) (own_wd hw 2 rfl) d1_31 (by decide) (by decide) (n := 34) rfl ?_
    intro T hp31 ad31 ea31 na31 X E31 A31 D31
    have F_1 := Nat.le_trans K_0.1 (Nat.le_of_eq ea31.symm)
    have ne_ca_ad31 : ca ≠ ad31 := neOf P1.lt (Nat.le_of_eq ea31.symm)
    have F_2 := K_0.ext E31
    have F_3 := P0.ext E31
    have F_4 := P1.ext E31
    have F_5 : Fld Z hp31 ad31 "java/lang/Long" "value" "J" (.long (0 : Int64)) := D31 (Or.inr (own_wd hw 116 rfl)) (ty := .long) (by decide)
    refine gDup X w d1_34 rfl (n := 35) rfl ?_
    refine gJloadN X w d1_35 rfl (n := 36) rfl ?_
    refine gCallIn X w [(.long u)] [(.ref ad31)] rfl (own_linit l Z a0 hw ad31 u hp31 n0 (Sd.le X) A31 F_5 na31) (own_wd hw 110 rfl) (own_wd hw 111 rfl) (own_wd hw 2 rfl) (own_wd hw 112 rfl) (by decide) own_pd2 rfl rfl d1_36 rfl (W := 1) (Nat.le_of_eq rfl) (by decide) (by decide) (by decide) (by decide) (n := 39) rfl ?_
    rintro T h_6 ⟨K_6, -⟩ X
    have F_7 := F_2.trans K_6 (allS (Or.inr F_1) all0)
    have F_8 := staKeep F_3 K_6 (allS (Exa.nostat A31) all0)
    have F_9 := F_4.keep K_6 (ninS ne_ca_ad31 nin0)
    have F_10 := A31.keep K_6
    exact gRetA X w rfl rfl rfl d1_39 (by decide) (by decide) (⟨rfl, _, rfl, F_7, ad31, rfl, F_10⟩)
  · intro c9
    refine gJloadN X w d1_12 rfl (n := 13) rfl ?_
    refine gLdc2 X w (own_wd hw 5 rfl) d1_13 (n := 16) rfl ?_
    refine gLcmp X w d1_16 rfl (n := 17) rfl ?_
    refine gIfL_gt X w d1_17 (n := 31) (n' := 20) (by decide) rfl rfl ?_ ?_
    · intro c17
      refine gNew X w (own_wd hw 108 rfl) (own_wd hw 109 rfl) (own_wd hw 2 rfl) d1_31 (by decide) (by decide) (n := 34) rfl ?_
      intro T hp31 ad31 ea31 na31 X E31 A31 D31
      have F_11 := Nat.le_trans K_0.1 (Nat.le_of_eq ea31.symm)
      have ne_ca_ad31 : ca ≠ ad31 := neOf P1.lt (Nat.le_of_eq ea31.symm)
      have F_12 := K_0.ext E31
      have F_13 := P0.ext E31
      have F_14 := P1.ext E31
      have F_15 : Fld Z hp31 ad31 "java/lang/Long" "value" "J" (.long (0 : Int64)) := D31 (Or.inr (own_wd hw 116 rfl)) (ty := .long) (by decide)
      refine gDup X w d1_34 rfl (n := 35) rfl ?_
      refine gJloadN X w d1_35 rfl (n := 36) rfl ?_
      refine gCallIn X w [(.long u)] [(.ref ad31)] rfl (own_linit l Z a0 hw ad31 u hp31 n0 (Sd.le X) A31 F_15 na31) (own_wd hw 110 rfl) (own_wd hw 111 rfl) (own_wd hw 2 rfl) (own_wd hw 112 rfl) (by decide) own_pd2 rfl rfl d1_36 rfl (W := 1) (Nat.le_of_eq rfl) (by decide) (by decide) (by decide) (by decide) (n := 39) rfl ?_
      rintro T h_16 ⟨K_16, -⟩ X
      have F_17 := F_12.trans K_16 (allS (Or.inr F_11) all0)
      have F_18 := staKeep F_13 K_16 (allS (Exa.nostat A31) all0)
      have F_19 := F_14.keep K_16 (ninS ne_ca_ad31 nin0)
      have F_20 := A31.keep K_16
      exact gRetA X w rfl rfl rfl d1_39 (by decide) (by decide) (⟨rfl, _, rfl, F_17, ad31, rfl, F_20⟩)
    · intro c17
      refine gGetS X w (own_wd hw 6 rfl) Via.refl P0 d1_20 (n := 23) rfl ?_
      intro T X
      refine gJloadN X w d1_23 rfl (n := 24) rfl ?_
      obtain ⟨x24, q24⟩ : ∃ zz_ : Int32, Int64.toInt32 u = zz_ := ⟨_, rfl⟩
      refine gL2i X w d1_24 q24 (n := 25) rfl ?_
      refine gSipush X w d1_25 (z := (128 : Int32)) (by decide) (n := 28) rfl ?_
      obtain ⟨x28, q28⟩ : ∃ zz_ : Int32, x24 + (128 : Int32) = zz_ := ⟨_, rfl⟩
      refine gIadd X w d1_28 q28 (n := 29) rfl ?_
      have e128 : (-128 : Int64).toInt = -128 := rfl
      have e127 : (127 : Int64).toInt = 127 := rfl
      have j24 : x24.toInt = u.toInt := by rw [← q24]; exact l2i_toInt (by omega) (by omega)
      have k128 : (128 : Int32).toInt = 128 := rfl
      have j28 : x28.toInt = u.toInt + 128 := by rw [← q28, iadd_toInt (by omega) (by omega)]; omega
      obtain ⟨b0, hb0, Eb0⟩ := hbx x28 (by omega) (by omega)
      refine gAaload X w P1 rfl (by omega) hb0 d1_29 (n := 30) rfl ?_
      exact gRetA X w rfl rfl rfl d1_30 (by decide) (by decide) (⟨rfl, _, rfl, K_0, b0, rfl, Eb0⟩)
set_option maxRecDepth 65536 in
set_option maxHeartbeats 40000000 in
theorem own_sinit4_0 (l : Launch) (Z : State) (a0 : Array Value) (hw : ∀ d ∈ tables_1, d.before a0 Z = true) (s0 : Addr) (a : Addr) (h0 : Heap) (n0 : Nat) {D : Addr → Prop} (hn : n0 ≤ h0.size) (P0 : Exa Z h0 s0 "java/lang/String") (P1 : Fld Z h0 s0 "java/lang/String" "value" "[B" .null) (P2 : Fld Z h0 s0 "java/lang/String" "coder" "B" (.int (0 : Int32))) (P3 : Av Z h0 a .char []) (ne_a_s0 : a ≠ s0) (na_s0 : n0 ≤ s0 ∧ ¬ D s0) :
    ConNL l Z (⟨"java/lang/String", "<init>", "([CIILjava/lang/Void;)V"⟩ : MethodName) jdk_42_method_149_code 6 ({ frames := 2, cells := 4, slots := 8, locals := 41 } : Room) #[(.ref s0), (.ref a), (.int (0 : Int32)), (.int (0 : Int32)), .null] h0 n0 D (fun h D' => (∀ {x : Addr}, (n0 ≤ x ∧ ¬ D x) → x < h0.size → (n0 ≤ x ∧ ¬ D' x)) ∧ Keep h0 h [s0] ∧ ∃ (b : Addr), Fld Z h s0 "java/lang/String" "value" "[B" (.ref b) ∧ Fld Z h s0 "java/lang/String" "coder" "B" (.int (0 : Int32)) ∧ Av Z h b .byte []) := by
  refine Con.of (plainFor_of_name (by first | (simp [plainName, overriddenIn]; done) | decide +kernel)) hn ?_
  intro p e s m below meth c T w X
  refine Gl.enter (ls := #[.val (.ref s0), .val (.ref a), .val (.int (0 : Int32)), .val (.int (0 : Int32)), .val .null, .unset]) (by first | (simp [entryFrame, mkF, argsToLocals, Value.category]; done) | rfl) ?_
  have K_0 : Keep h0 h0 [s0] := Keep.refl _ _
  refine gAloadN X w d7_0 rfl rfl (n := 1) rfl ?_
  refine gInitO X w (own_wd hw 40 rfl) (own_wd hw 25 rfl) (own_wd hw 26 rfl) d7_1 rfl (by decide) (W := 0) (Nat.le_of_eq rfl) (by decide) (n := 4) rfl ?_
  intro T X
  refine gIloadN X w d7_4 rfl (n := 5) rfl ?_
  refine gIf_ne X w d7_5 (n := 27) (n' := 8) (by decide) rfl rfl ?_ ?_
  · rintro ⟨c5, c5'⟩
    exact absurd c5 (by decide)
  · rintro ⟨c5, c5'⟩
    refine gAloadN X w d7_8 rfl rfl (n := 9) rfl ?_
    refine gLdcH X w (own_wd hw 117 rfl) (own_str hw) (own_ew hw) (List.mem_of_getElem? (i := 0) rfl) (vs := []) ⟨by decide, by first | rfl | decide⟩ (by decide) d7_9 (k := 0) (by decide) (by decide) (by decide) (by decide) (n := 11) rfl ?_
    intro T hp9 as9 bs9 D9 X E9 A9 C9 F9 V9 R9
    obtain ⟨F_1, ne_s0_as9, ne_s0_bs9⟩ := R9 na_s0 P0.lt
    have F_2 : ∀ {x : Addr}, (n0 ≤ x ∧ ¬ D x) → x < h0.size → (n0 ≤ x ∧ ¬ D9 x) := fun hx hl => (R9 hx (Nat.lt_of_lt_of_le hl K_0.1)).1
    have F_3 := K_0.ext E9
    have F_4 := P0.ext E9
    have F_5 := P1.ext E9
    have F_6 := P2.ext E9
    have F_7 := P3.ext E9
    refine gGetF X w (own_wd hw 55 rfl) Via.refl F9 d7_11 (n := 14) rfl ?_
    intro T X
    refine gPutF X w (own_wd hw 55 rfl) Via.refl F_5 F_4 (Or.inr ⟨own_wd hw 56 rfl, rfl, rfl⟩) (own_wd hw 31 rfl) F_1 (ty := (.array .byte)) (by decide) rfl rfl d7_14 (n := 17) rfl ?_
    intro T hp14 X W14
    have F_8 := F_3.wr W14 (Or.inl (by simp))
    have F_9 := F_4.wr W14
    have F_10 := F_5.same W14
    have F_11 := F_6.other W14 (Or.inr (slot_ne (Or.inr (own_wd hw 54 rfl) : Laid Z a0 _ _ _ _) (Or.inr (own_wd hw 56 rfl) : Laid Z a0 _ _ _ _) (by decide) (t := .byte) (t' := (.array .byte)) (by decide) (by decide)))
    have F_12 := F_7.other W14 ne_a_s0
    have F_13 := A9.wr W14
    have F_14 := C9.other W14 (Or.inl (Ne.symm ne_s0_as9))
    have F_15 := F9.other W14 (Or.inl (Ne.symm ne_s0_as9))
    have F_16 := V9.other W14 (Ne.symm ne_s0_bs9)
    refine gAloadN X w d7_17 rfl rfl (n := 18) rfl ?_
    refine gLdcH X w (own_wd hw 117 rfl) (own_str hw) (own_ew hw) (List.mem_of_getElem? (i := 0) rfl) (vs := []) ⟨by decide, by first | rfl | decide⟩ (by decide) d7_18 (k := 0) (by decide) (by decide) (by decide) (by decide) (n := 20) rfl ?_
    intro T hp18 as18 bs18 D18 X E18 A18 C18 F18 V18 R18
    obtain ⟨F_17, ne_s0_as18, ne_s0_bs18⟩ := R18 F_1 F_9.lt
    have F_18 : ∀ {x : Addr}, (n0 ≤ x ∧ ¬ D x) → x < h0.size → (n0 ≤ x ∧ ¬ D18 x) := fun hx hl => (R18 (F_2 hx hl) (Nat.lt_of_lt_of_le hl F_8.1)).1
    have F_19 := F_8.ext E18
    have F_20 := F_9.ext E18
    have F_21 := F_10.ext E18
    have F_22 := F_11.ext E18
    have F_23 := F_12.ext E18
    have F_24 := F_13.ext E18
    have F_25 := F_14.ext E18
    have F_26 := F_15.ext E18
    have F_27 := F_16.ext E18
    refine gGetF X w (own_wd hw 53 rfl) Via.refl C18 d7_20 (n := 23) rfl ?_
    intro T X
    refine gPutF X w (own_wd hw 53 rfl) Via.refl F_22 F_20 (Or.inr ⟨own_wd hw 54 rfl, rfl, rfl⟩) (own_wd hw 31 rfl) F_17 (ty := .byte) (by decide) (by first | rfl | decide) (by first | rfl | decide) d7_23 (n := 26) rfl ?_
    intro T hp23 X W23
    have F_28 := F_19.wr W23 (Or.inl (by simp))
    have F_29 := F_20.wr W23
    have F_30 := F_21.other W23 (Or.inr (slot_ne (Or.inr (own_wd hw 56 rfl) : Laid Z a0 _ _ _ _) (Or.inr (own_wd hw 54 rfl) : Laid Z a0 _ _ _ _) (by decide) (t := (.array .byte)) (t' := .byte) (by decide) (by decide)))
    have F_31 := F_22.same W23
    have F_32 := F_23.other W23 ne_a_s0
    have F_33 := F_24.wr W23
    have F_34 := F_25.other W23 (Or.inl (Ne.symm ne_s0_as9))
    have F_35 := F_26.other W23 (Or.inl (Ne.symm ne_s0_as9))
    have F_36 := F_27.other W23 (Ne.symm ne_s0_bs9)
    have F_37 := A18.wr W23
    have F_38 := C18.other W23 (Or.inl (Ne.symm ne_s0_as18))
    have F_39 := F18.other W23 (Or.inl (Ne.symm ne_s0_as18))
    have F_40 := V18.other W23 (Ne.symm ne_s0_bs18)
    exact gRetV X w rfl d7_26 (by decide) (by decide) (⟨rfl, F_18, F_28, bs9, F_30, F_31, F_36⟩)
set_option maxRecDepth 65536 in
set_option maxHeartbeats 40000000 in
theorem own_sinit_0 (l : Launch) (Z : State) (a0 : Array Value) (hw : ∀ d ∈ tables_1, d.before a0 Z = true) (s0 : Addr) (a : Addr) (h0 : Heap) (n0 : Nat) {D : Addr → Prop} (hn : n0 ≤ h0.size) (P0 : Exa Z h0 s0 "java/lang/String") (P1 : Fld Z h0 s0 "java/lang/String" "value" "[B" .null) (P2 : Fld Z h0 s0 "java/lang/String" "coder" "B" (.int (0 : Int32))) (P3 : Av Z h0 a .char []) (ne_a_s0 : a ≠ s0) (na_s0 : n0 ≤ s0 ∧ ¬ D s0) :
    ConNL l Z (⟨"java/lang/String", "<init>", "([C)V"⟩ : MethodName) jdk_42_method_3_code 2 ({ frames := 3, cells := 4, slots := 8, locals := 61 } : Room) #[(.ref s0), (.ref a)] h0 n0 D (fun h D' => (∀ {x : Addr}, (n0 ≤ x ∧ ¬ D x) → x < h0.size → (n0 ≤ x ∧ ¬ D' x)) ∧ Keep h0 h [s0] ∧ ∃ (b : Addr), Fld Z h s0 "java/lang/String" "value" "[B" (.ref b) ∧ Fld Z h s0 "java/lang/String" "coder" "B" (.int (0 : Int32)) ∧ Av Z h b .byte []) := by
  refine Con.of (plainFor_of_name (by first | (simp [plainName, overriddenIn]; done) | decide +kernel)) hn ?_
  intro p e s m below meth c T w X
  refine Gl.enter (ls := #[.val (.ref s0), .val (.ref a)]) (by first | (simp [entryFrame, mkF, argsToLocals, Value.category]; done) | rfl) ?_
  have K_0 : Keep h0 h0 [s0] := Keep.refl _ _
  refine gAloadN X w d6_0 rfl rfl (n := 1) rfl ?_
  refine gAloadN X w d6_1 rfl rfl (n := 2) rfl ?_
  refine gIconst X w d6_2 (z := (0 : Int32)) rfl (n := 3) rfl ?_
  refine gAloadN X w d6_3 rfl rfl (n := 4) rfl ?_
  refine gAlen X w P3 (z := (0 : Int32)) rfl d6_4 (n := 5) rfl ?_
  refine gNull X w d6_5 (n := 6) rfl ?_
  refine gCallInL X w [(.ref a), (.int (0 : Int32)), (.int (0 : Int32)), .null] [] rfl (own_sinit4_0 l Z a0 hw s0 a h0 n0 (Sd.le X) P0 P1 P2 P3 ne_a_s0 na_s0) (own_wd hw 36 rfl) (own_wd hw 37 rfl) (own_wd hw 32 rfl) (own_wd hw 39 rfl) (by decide) own_pd3 rfl rfl d6_6 rfl (W := 0) (Nat.le_of_eq rfl) (by decide) (by decide) (by decide) (by decide) (n := 9) rfl ?_
  rintro T h_1 D_1 ⟨R_1, K_1, b_1, Q0_1, Q1_1, Q2_1⟩ X
  have F_2 := R_1 na_s0 P0.lt
  have F_3 : ∀ {x : Addr}, (n0 ≤ x ∧ ¬ D x) → x < h0.size → (n0 ≤ x ∧ ¬ D_1 x) := fun hx hl => R_1 hx (Nat.lt_of_lt_of_le hl K_0.1)
  have F_4 := K_0.trans K_1 (allS (Or.inl (by simp)) all0)
  have F_5 := P0.keep K_1
  have F_6 := P3.keep K_1 (ninS ne_a_s0 nin0)
  exact gRetV X w rfl d6_9 (by decide) (by decide) (⟨rfl, F_3, F_4, b_1, Q0_1, Q1_1, Q2_1⟩)
set_option maxRecDepth 65536 in
set_option maxHeartbeats 40000000 in
theorem own_comp5_3 (l : Launch) (Z : State) (a0 : Array Value) (hw : ∀ d ∈ tables_1, d.before a0 Z = true) (a : Addr) (b : Addr) (z0 : Int32) (z1 : Int32) (z2 : Int32) (h0 : Heap) (n0 : Nat) {D : Addr → Prop} (hn : n0 ≤ h0.size) (P0 : Av Z h0 a .char [(.int z0), (.int z1), (.int z2)]) (P1 : Av Z h0 b .byte [(.int (0 : Int32)), (.int (0 : Int32)), (.int (0 : Int32))]) (hz0 : 0 ≤ z0.toInt ∧ z0.toInt ≤ 255) (hz1 : 0 ≤ z1.toInt ∧ z1.toInt ≤ 255) (hz2 : 0 ≤ z2.toInt ∧ z2.toInt ≤ 255) (ne_a_b : a ≠ b) (na_b : n0 ≤ b ∧ ¬ D b) :
    ConV l Z (⟨"java/lang/StringUTF16", "compress", "([CI[BII)I"⟩ : MethodName) jdk_52_method_21_code 7 (some .int) ({ frames := 0, cells := 0, slots := 0, locals := 0 } : Room) #[(.ref a), (.int (0 : Int32)), (.ref b), (.int (0 : Int32)), (.int (3 : Int32))] h0 n0 D (fun v h => Keep h0 h [b] ∧ v = (.int (3 : Int32)) ∧ Av Z h b .byte [(.int (own_bt z0)), (.int (own_bt z1)), (.int (own_bt z2))]) := by
  refine Con.of (plainFor_of_name (by first | (simp [plainName, overriddenIn]; done) | decide +kernel)) hn ?_
  intro p e s m below meth c T w X
  refine Gl.enter (ls := #[.val (.ref a), .val (.int (0 : Int32)), .val (.ref b), .val (.int (0 : Int32)), .val (.int (3 : Int32)), .unset, .unset]) (by first | (simp [entryFrame, mkF, argsToLocals, Value.category]; done) | rfl) ?_
  have K_0 : Keep h0 h0 [b] := Keep.refl _ _
  refine gIconst X w d9_0 (z := (0 : Int32)) rfl (n := 1) rfl ?_
  refine gIstore X w d9_1 #[.val (.ref a), .val (.int (0 : Int32)), .val (.ref b), .val (.int (0 : Int32)), .val (.int (3 : Int32)), .val (.int (0 : Int32)), .unset] rfl (n := 3) rfl ?_
  refine gIload X w d9_3 rfl (n := 5) rfl ?_
  refine gIload X w d9_5 rfl (n := 7) rfl ?_
  refine gIcmp_ge X w d9_7 (n := 44) (n' := 10) (by decide) rfl rfl ?_ ?_
  · intro c7
    exact absurd c7 (by decide)
  · intro c7
    refine gAloadN X w d9_10 rfl rfl (n := 11) rfl ?_
    refine gIloadN X w d9_11 rfl (n := 12) rfl ?_
    refine gCaload X w P0 (by decide) rfl d9_12 (n := 13) rfl ?_
    refine gIstore X w d9_13 #[.val (.ref a), .val (.int (0 : Int32)), .val (.ref b), .val (.int (0 : Int32)), .val (.int (3 : Int32)), .val (.int (0 : Int32)), .val (.int z0)] rfl (n := 15) rfl ?_
    refine gIload X w d9_15 rfl (n := 17) rfl ?_
    refine gSipush X w d9_17 (z := (255 : Int32)) (by decide) (n := 20) rfl ?_
    refine gIcmp_le X w d9_20 (n := 26) (n' := 23) (by decide) rfl rfl ?_ ?_
    · intro c20
      refine gAloadN X w d9_26 rfl rfl (n := 27) rfl ?_
      refine gIloadN X w d9_27 rfl (n := 28) rfl ?_
      refine gIload X w d9_28 rfl (n := 30) rfl ?_
      refine gI2b X w d9_30 rfl (n := 31) rfl ?_
      refine gBastore X w (z := (.int (own_bt z0))) P1 (by decide) (show (0 : Int) < ((3 : Nat) : Int) from by decide) na_b (congrArg Value.int (own_narbt z0)) (vs' := [(.int (own_bt z0)), (.int (0 : Int32)), (.int (0 : Int32))]) rfl d9_31 (n := 32) rfl ?_
      intro T hp31 X W31 V31
      have F_1 := K_0.wr W31 (Or.inl (by simp))
      have F_2 := P0.other W31 ne_a_b
      refine gIinc X w d9_32 rfl (z := (1 : Int32)) (by decide) #[.val (.ref a), .val (.int (1 : Int32)), .val (.ref b), .val (.int (0 : Int32)), .val (.int (3 : Int32)), .val (.int (0 : Int32)), .val (.int z0)] rfl (n := 35) rfl ?_
      refine gIinc X w d9_35 rfl (z := (1 : Int32)) (by decide) #[.val (.ref a), .val (.int (1 : Int32)), .val (.ref b), .val (.int (1 : Int32)), .val (.int (3 : Int32)), .val (.int (0 : Int32)), .val (.int z0)] rfl (n := 38) rfl ?_
      refine gIinc X w d9_38 rfl (z := (1 : Int32)) (by decide) #[.val (.ref a), .val (.int (1 : Int32)), .val (.ref b), .val (.int (1 : Int32)), .val (.int (3 : Int32)), .val (.int (1 : Int32)), .val (.int z0)] rfl (n := 41) rfl ?_
      refine gGoto X w d9_41 (by decide) (n := 3) rfl ?_
      refine gIload X w d9_3 rfl (n := 5) rfl ?_
      refine gIload X w d9_5 rfl (n := 7) rfl ?_
      refine gIcmp_ge X w d9_7 (n := 44) (n' := 10) (by decide) rfl rfl ?_ ?_
      · intro c7
        exact absurd c7 (by decide)
      · intro c7
        refine gAloadN X w d9_10 rfl rfl (n := 11) rfl ?_
        refine gIloadN X w d9_11 rfl (n := 12) rfl ?_
        refine gCaload X w F_2 (by decide) rfl d9_12 (n := 13) rfl ?_
        refine gIstore X w d9_13 #[.val (.ref a), .val (.int (1 : Int32)), .val (.ref b), .val (.int (1 : Int32)), .val (.int (3 : Int32)), .val (.int (1 : Int32)), .val (.int z1)] rfl (n := 15) rfl ?_
        refine gIload X w d9_15 rfl (n := 17) rfl ?_
        refine gSipush X w d9_17 (z := (255 : Int32)) (by decide) (n := 20) rfl ?_
        refine gIcmp_le X w d9_20 (n := 26) (n' := 23) (by decide) rfl rfl ?_ ?_
        · intro c20
          refine gAloadN X w d9_26 rfl rfl (n := 27) rfl ?_
          refine gIloadN X w d9_27 rfl (n := 28) rfl ?_
          refine gIload X w d9_28 rfl (n := 30) rfl ?_
          refine gI2b X w d9_30 rfl (n := 31) rfl ?_
          refine gBastore X w (z := (.int (own_bt z1))) V31 (by decide) (show (1 : Int) < ((3 : Nat) : Int) from by decide) na_b (congrArg Value.int (own_narbt z1)) (vs' := [(.int (own_bt z0)), (.int (own_bt z1)), (.int (0 : Int32))]) rfl d9_31 (n := 32) rfl ?_
          intro T hp31 X W31 V31
          have F_3 := F_1.wr W31 (Or.inl (by simp))
          have F_4 := F_2.other W31 ne_a_b
          refine gIinc X w d9_32 rfl (z := (2 : Int32)) (by decide) #[.val (.ref a), .val (.int (2 : Int32)), .val (.ref b), .val (.int (1 : Int32)), .val (.int (3 : Int32)), .val (.int (1 : Int32)), .val (.int z1)] rfl (n := 35) rfl ?_
          refine gIinc X w d9_35 rfl (z := (2 : Int32)) (by decide) #[.val (.ref a), .val (.int (2 : Int32)), .val (.ref b), .val (.int (2 : Int32)), .val (.int (3 : Int32)), .val (.int (1 : Int32)), .val (.int z1)] rfl (n := 38) rfl ?_
          refine gIinc X w d9_38 rfl (z := (2 : Int32)) (by decide) #[.val (.ref a), .val (.int (2 : Int32)), .val (.ref b), .val (.int (2 : Int32)), .val (.int (3 : Int32)), .val (.int (2 : Int32)), .val (.int z1)] rfl (n := 41) rfl ?_
          refine gGoto X w d9_41 (by decide) (n := 3) rfl ?_
          refine gIload X w d9_3 rfl (n := 5) rfl ?_
          refine gIload X w d9_5 rfl (n := 7) rfl ?_
          refine gIcmp_ge X w d9_7 (n := 44) (n' := 10) (by decide) rfl rfl ?_ ?_
          · intro c7
            exact absurd c7 (by decide)
          · intro c7
            refine gAloadN X w d9_10 rfl rfl (n := 11) rfl ?_
            refine gIloadN X w d9_11 rfl (n := 12) rfl ?_
            refine gCaload X w F_4 (by decide) rfl d9_12 (n := 13) rfl ?_
            refine gIstore X w d9_13 #[.val (.ref a), .val (.int (2 : Int32)), .val (.ref b), .val (.int (2 : Int32)), .val (.int (3 : Int32)), .val (.int (2 : Int32)), .val (.int z2)] rfl (n := 15) rfl ?_
            refine gIload X w d9_15 rfl (n := 17) rfl ?_
            refine gSipush X w d9_17 (z := (255 : Int32)) (by decide) (n := 20) rfl ?_
            refine gIcmp_le X w d9_20 (n := 26) (n' := 23) (by decide) rfl rfl ?_ ?_
            · intro c20
              refine gAloadN X w d9_26 rfl rfl (n := 27) rfl ?_
              refine gIloadN X w d9_27 rfl (n := 28) rfl ?_
              refine gIload X w d9_28 rfl (n := 30) rfl ?_
              refine gI2b X w d9_30 rfl (n := 31) rfl ?_
              refine gBastore X w (z := (.int (own_bt z2))) V31 (by decide) (show (2 : Int) < ((3 : Nat) : Int) from by decide) na_b (congrArg Value.int (own_narbt z2)) (vs' := [(.int (own_bt z0)), (.int (own_bt z1)), (.int (own_bt z2))]) rfl d9_31 (n := 32) rfl ?_
              intro T hp31 X W31 V31
              have F_5 := F_3.wr W31 (Or.inl (by simp))
              have F_6 := F_4.other W31 ne_a_b
              refine gIinc X w d9_32 rfl (z := (3 : Int32)) (by decide) #[.val (.ref a), .val (.int (3 : Int32)), .val (.ref b), .val (.int (2 : Int32)), .val (.int (3 : Int32)), .val (.int (2 : Int32)), .val (.int z2)] rfl (n := 35) rfl ?_
              refine gIinc X w d9_35 rfl (z := (3 : Int32)) (by decide) #[.val (.ref a), .val (.int (3 : Int32)), .val (.ref b), .val (.int (3 : Int32)), .val (.int (3 : Int32)), .val (.int (2 : Int32)), .val (.int z2)] rfl (n := 38) rfl ?_
              refine gIinc X w d9_38 rfl (z := (3 : Int32)) (by decide) #[.val (.ref a), .val (.int (3 : Int32)), .val (.ref b), .val (.int (3 : Int32)), .val (.int (3 : Int32)), .val (.int (3 : Int32)), .val (.int z2)] rfl (n := 41) rfl ?_
              refine gGoto X w d9_41 (by decide) (n := 3) rfl ?_
              refine gIload X w d9_3 rfl (n := 5) rfl ?_
              refine gIload X w d9_5 rfl (n := 7) rfl ?_
              refine gIcmp_ge X w d9_7 (n := 44) (n' := 10) (by decide) rfl rfl ?_ ?_
              · intro c7
                refine gIload X w d9_44 rfl (n := 46) rfl ?_
                exact gRetI X w rfl d9_46 (by decide) (by decide) (⟨rfl, _, rfl, F_5, rfl, V31⟩)
              · intro c7
                exact absurd c7 (by decide)
            · intro c20
              exact absurd c20 (by have := own_e255; omega)
        · intro c20
          exact absurd c20 (by have := own_e255; omega)
    · intro c20
      exact absurd c20 (by have := own_e255; omega)
set_option maxRecDepth 65536 in
set_option maxHeartbeats 40000000 in
theorem own_comp4_3 (l : Launch) (Z : State) (a0 : Array Value) (hw : ∀ d ∈ tables_1, d.before a0 Z = true) (a : Addr) (z0 : Int32) (z1 : Int32) (z2 : Int32) (h0 : Heap) (n0 : Nat) {D : Addr → Prop} (hn : n0 ≤ h0.size) (P0 : Av Z h0 a .char [(.int z0), (.int z1), (.int z2)]) (hz0 : 0 ≤ z0.toInt ∧ z0.toInt ≤ 255) (hz1 : 0 ≤ z1.toInt ∧ z1.toInt ≤ 255) (hz2 : 0 ≤ z2.toInt ∧ z2.toInt ≤ 255) :
    ConV l Z (⟨"java/lang/StringUTF16", "compress", "([CII)[B"⟩ : MethodName) jdk_52_method_16_code 6 (some (.array .byte)) ({ frames := 1, cells := 1, slots := 3, locals := 18 } : Room) #[(.ref a), (.int (0 : Int32)), (.int (3 : Int32))] h0 n0 D (fun v h => Keep h0 h [] ∧ ∃ (b : Addr), v = (.ref b) ∧ h0.size ≤ b ∧ (n0 ≤ b ∧ ¬ D b) ∧ Av Z h b .byte [(.int (own_bt z0)), (.int (own_bt z1)), (.int (own_bt z2))] ∧ Exa Z h b "[B") := by
  refine Con.of (plainFor_of_name (by first | (simp [plainName, overriddenIn]; done) | decide +kernel)) hn ?_
  intro p e s m below meth c T w X
  refine Gl.enter (ls := #[.val (.ref a), .val (.int (0 : Int32)), .val (.int (3 : Int32)), .unset, .unset, .unset]) (by first | (simp [entryFrame, mkF, argsToLocals, Value.category]; done) | rfl) ?_
  have K_0 : Keep h0 h0 [] := Keep.refl _ _
  refine gIloadN X w d8_0 rfl (n := 1) rfl ?_
  refine gNewP X w (own_wd hw 46 rfl) d8_1 (by decide) (cap := 3) (by decide) (by decide) (by decide) (by decide) (vs := [(.int (0 : Int32)), (.int (0 : Int32)), (.int (0 : Int32))]) (ty := .byte) rfl rfl (ad := "[B") (by decide) (n := 3) rfl ?_
  intro T hp1 ad1 ea1 na1 X E1 V1 A1
  have F_1 := Nat.le_trans K_0.1 (Nat.le_of_eq ea1.symm)
  have ne_a_ad1 : a ≠ ad1 := neOf P0.lt (Nat.le_of_eq ea1.symm)
  have F_2 := K_0.ext E1
  have F_3 := P0.ext E1
  refine gAstoreN X w d8_3 rfl #[.val (.ref a), .val (.int (0 : Int32)), .val (.int (3 : Int32)), .val (.ref ad1), .unset, .unset] rfl (n := 4) rfl ?_
  refine gAloadN X w d8_4 rfl rfl (n := 5) rfl ?_
  refine gIloadN X w d8_5 rfl (n := 6) rfl ?_
  refine gAloadN X w d8_6 rfl rfl (n := 7) rfl ?_
  refine gIconst X w d8_7 (z := (0 : Int32)) rfl (n := 8) rfl ?_
  refine gIloadN X w d8_8 rfl (n := 9) rfl ?_
  refine gCallSv X w [(.ref a), (.int (0 : Int32)), (.ref ad1), (.int (0 : Int32)), (.int (3 : Int32))] [] (own_comp5_3 l Z a0 hw a ad1 z0 z1 z2 hp1 n0 (Sd.le X) F_3 V1 (by first | assumption | decide | (simp; done) | omega) (by first | assumption | decide | (simp; done) | omega) (by first | assumption | decide | (simp; done) | omega) ne_a_ad1 na1) (own_wd hw 47 rfl) (own_wd hw 48 rfl) (own_wd hw 44 rfl) (own_wd hw 49 rfl) (by decide) own_pd4 rfl rfl d8_9 rfl (W := 0) (Nat.le_of_eq rfl) (by decide) (by decide) (by decide) (by decide) (n := 12) rfl ?_
  rintro T h_4 _ ⟨K_4, rfl, Q0_4⟩ X
  have F_5 := F_2.trans K_4 (allS (Or.inr F_1) all0)
  have F_6 := F_3.keep K_4 (ninS ne_a_ad1 nin0)
  have F_7 := A1.keep K_4
  refine gIstore X w d8_12 #[.val (.ref a), .val (.int (0 : Int32)), .val (.int (3 : Int32)), .val (.ref ad1), .val (.int (3 : Int32)), .unset] rfl (n := 14) rfl ?_
  refine gIload X w d8_14 rfl (n := 16) rfl ?_
  refine gIloadN X w d8_16 rfl (n := 17) rfl ?_
  refine gIcmp_eq X w d8_17 (n := 57) (n' := 20) (by decide) rfl rfl ?_ ?_
  · rintro ⟨c17, c17'⟩
    refine gAloadN X w d8_57 rfl rfl (n := 58) rfl ?_
    exact gRetA X w rfl rfl rfl d8_58 (by decide) (by decide) (⟨rfl, _, rfl, F_5, ad1, rfl, F_1, na1, Q0_4, F_7⟩)
  · rintro ⟨c17, c17'⟩
    exact absurd c17 (by decide)
set_option maxRecDepth 65536 in
set_option maxHeartbeats 40000000 in
theorem own_coder_3 (l : Launch) (Z : State) (a0 : Array Value) (hw : ∀ d ∈ tables_1, d.before a0 Z = true) (b : Addr) (z0 : Int32) (z1 : Int32) (z2 : Int32) (h0 : Heap) (n0 : Nat) {D : Addr → Prop} (hn : n0 ≤ h0.size) (P0 : Av Z h0 b .byte [(.int (own_bt z0)), (.int (own_bt z1)), (.int (own_bt z2))]) :
    ConV l Z (⟨"java/lang/StringUTF16", "coderFromArrayLen", "([BI)B"⟩ : MethodName) jdk_52_method_15_code 2 (some .byte) ({ frames := 0, cells := 0, slots := 0, locals := 0 } : Room) #[(.ref b), (.int (3 : Int32))] h0 n0 D (fun v h => h0 = h ∧ v = (.int (0 : Int32))) := by
  refine Con.of (plainFor_of_name (by first | (simp [plainName, overriddenIn]; done) | decide +kernel)) hn ?_
  intro p e s m below meth c T w X
  refine Gl.enter (ls := #[.val (.ref b), .val (.int (3 : Int32))]) (by first | (simp [entryFrame, mkF, argsToLocals, Value.category]; done) | rfl) ?_
  refine gIloadN X w d10_0 rfl (n := 1) rfl ?_
  refine gAloadN X w d10_1 rfl rfl (n := 2) rfl ?_
  refine gAlen X w P0 (z := (3 : Int32)) rfl d10_2 (n := 3) rfl ?_
  refine gIsub X w d10_3 (z := (0 : Int32)) (by decide) (n := 4) rfl ?_
  refine gBipush X w d10_4 (z := (31 : Int32)) (by decide) (n := 6) rfl ?_
  refine gIushr X w d10_6 (z := (0 : Int32)) (by decide) (n := 7) rfl ?_
  refine gI2b X w d10_7 (z := (0 : Int32)) (by decide) (n := 8) rfl ?_
  exact gRet X w (t := .byte) rfl (by first | rfl | decide) (Or.inl ⟨rfl, Or.inr (Or.inr (Or.inl rfl)), _, rfl⟩) d10_8 (by decide) (by decide) (⟨rfl, _, rfl, rfl, rfl⟩)
set_option maxRecDepth 65536 in
set_option maxHeartbeats 40000000 in
theorem own_sinit4_3 (l : Launch) (Z : State) (a0 : Array Value) (hw : ∀ d ∈ tables_1, d.before a0 Z = true) (s0 : Addr) (a : Addr) (z0 : Int32) (z1 : Int32) (z2 : Int32) (cs : Int32) (h0 : Heap) (n0 : Nat) {D : Addr → Prop} (hn : n0 ≤ h0.size) (P0 : Exa Z h0 s0 "java/lang/String") (P1 : Fld Z h0 s0 "java/lang/String" "value" "[B" .null) (P2 : Fld Z h0 s0 "java/lang/String" "coder" "B" (.int (0 : Int32))) (P3 : Av Z h0 a .char [(.int z0), (.int z1), (.int z2)]) (P4 : Sta Z h0 "java/lang/String" "COMPACT_STRINGS" "Z" (.int cs)) (hz0 : 0 ≤ z0.toInt ∧ z0.toInt ≤ 255) (hz1 : 0 ≤ z1.toInt ∧ z1.toInt ≤ 255) (hz2 : 0 ≤ z2.toInt ∧ z2.toInt ≤ 255) (hcs : ¬ cs = 0) (ne_a_s0 : a ≠ s0) (na_s0 : n0 ≤ s0 ∧ ¬ D s0) :
    ConN l Z (⟨"java/lang/String", "<init>", "([CIILjava/lang/Void;)V"⟩ : MethodName) jdk_42_method_149_code 6 ({ frames := 2, cells := 1, slots := 3, locals := 41 } : Room) #[(.ref s0), (.ref a), (.int (0 : Int32)), (.int (3 : Int32)), .null] h0 n0 D (fun h => Keep h0 h [s0] ∧ ∃ (b : Addr), h0.size ≤ b ∧ (n0 ≤ b ∧ ¬ D b) ∧ Fld Z h s0 "java/lang/String" "value" "[B" (.ref b) ∧ Fld Z h s0 "java/lang/String" "coder" "B" (.int (0 : Int32)) ∧ Av Z h b .byte [(.int (own_bt z0)), (.int (own_bt z1)), (.int (own_bt z2))] ∧ Exa Z h b "[B") := by
  refine Con.of (plainFor_of_name (by first | (simp [plainName, overriddenIn]; done) | decide +kernel)) hn ?_
  intro p e s m below meth c T w X
  refine Gl.enter (ls := #[.val (.ref s0), .val (.ref a), .val (.int (0 : Int32)), .val (.int (3 : Int32)), .val .null, .unset]) (by first | (simp [entryFrame, mkF, argsToLocals, Value.category]; done) | rfl) ?_
  have K_0 : Keep h0 h0 [s0] := Keep.refl _ _
  refine gAloadN X w d7_0 rfl rfl (n := 1) rfl ?_
  refine gInitO X w (own_wd hw 40 rfl) (own_wd hw 25 rfl) (own_wd hw 26 rfl) d7_1 rfl (by decide) (W := 0) (Nat.le_of_eq rfl) (by decide) (n := 4) rfl ?_
  intro T X
  refine gIloadN X w d7_4 rfl (n := 5) rfl ?_
  refine gIf_ne X w d7_5 (n := 27) (n' := 8) (by decide) rfl rfl ?_ ?_
  · rintro ⟨c5, c5'⟩
    refine gGetS X w (own_wd hw 41 rfl) Via.refl P4 d7_27 (n := 30) rfl ?_
    intro T X
    refine gIf_eq X w d7_30 (n := 58) (n' := 33) (by decide) rfl rfl ?_ ?_
    · rintro ⟨c30, c30'⟩
      exact absurd c30 hcs
    · rintro ⟨c30, c30'⟩
      refine gAloadN X w d7_33 rfl rfl (n := 34) rfl ?_
      refine gIloadN X w d7_34 rfl (n := 35) rfl ?_
      refine gIloadN X w d7_35 rfl (n := 36) rfl ?_
      refine gCallSv X w [(.ref a), (.int (0 : Int32)), (.int (3 : Int32))] [] (own_comp4_3 l Z a0 hw a z0 z1 z2 h0 n0 (Sd.le X) P3 (by first | assumption | decide | (simp; done) | omega) (by first | assumption | decide | (simp; done) | omega) (by first | assumption | decide | (simp; done) | omega)) (own_wd hw 42 rfl) (own_wd hw 43 rfl) (own_wd hw 44 rfl) (own_wd hw 45 rfl) (by decide) own_pd5 rfl rfl d7_36 rfl (W := 0) (Nat.le_of_eq rfl) (by decide) (by decide) (by decide) (by decide) (n := 39) rfl ?_
      rintro T h_1 _ ⟨K_1, b_1, rfl, g_b_1, na_b_1, Q0_1, Q1_1⟩ X
      have F_2 := Nat.le_trans K_0.1 g_b_1
      have ne_s0_b_1 : s0 ≠ b_1 := neOf P0.lt g_b_1
      have ne_a_b_1 : a ≠ b_1 := neOf P3.lt g_b_1
      have F_3 := K_0.trans K_1 all0
      have F_4 := P0.keep K_1
      have F_5 := P1.keep K_1 nin0
      have F_6 := P2.keep K_1 nin0
      have F_7 := P3.keep K_1 nin0
      have F_8 := staKeep P4 K_1 all0
      refine gAstore X w d7_39 rfl #[.val (.ref s0), .val (.ref a), .val (.int (0 : Int32)), .val (.int (3 : Int32)), .val .null, .val (.ref b_1)] rfl (n := 41) rfl ?_
      refine gAloadN X w d7_41 rfl rfl (n := 42) rfl ?_
      refine gAload X w d7_42 rfl rfl (n := 44) rfl ?_
      refine gIloadN X w d7_44 rfl (n := 45) rfl ?_
      refine gCallSv X w [(.ref b_1), (.int (3 : Int32))] [(.ref s0)] (own_coder_3 l Z a0 hw b_1 z0 z1 z2 h_1 n0 (Sd.le X) Q0_1) (own_wd hw 50 rfl) (own_wd hw 51 rfl) (own_wd hw 44 rfl) (own_wd hw 52 rfl) (by decide) own_pd6 rfl rfl d7_45 rfl (W := 1) (Nat.le_of_eq rfl) (by decide) (by decide) (by decide) (by decide) (n := 48) rfl ?_
      rintro T _ _ ⟨rfl, rfl⟩ X
      refine gPutF X w (own_wd hw 53 rfl) Via.refl F_6 F_4 (Or.inr ⟨own_wd hw 54 rfl, rfl, rfl⟩) (own_wd hw 31 rfl) na_s0 (ty := .byte) (by decide) (by first | rfl | decide) (by first | rfl | decide) d7_48 (n := 51) rfl ?_
      intro T hp48 X W48
      have F_10 := F_3.wr W48 (Or.inl (by simp))
      have F_11 := F_4.wr W48
      have F_12 := F_5.other W48 (Or.inr (slot_ne (Or.inr (own_wd hw 56 rfl) : Laid Z a0 _ _ _ _) (Or.inr (own_wd hw 54 rfl) : Laid Z a0 _ _ _ _) (by decide) (t := (.array .byte)) (t' := .byte) (by decide) (by decide)))
      have F_13 := F_6.same W48
      have F_14 := F_7.other W48 ne_a_s0
      have F_15 := F_8.wr W48
      have F_16 := Q0_1.other W48 (Ne.symm ne_s0_b_1)
      have F_17 := Q1_1.wr W48
      refine gAloadN X w d7_51 rfl rfl (n := 52) rfl ?_
      refine gAload X w d7_52 rfl rfl (n := 54) rfl ?_
      refine gPutF X w (own_wd hw 55 rfl) Via.refl F_12 F_11 (Or.inr ⟨own_wd hw 56 rfl, rfl, rfl⟩) (own_wd hw 31 rfl) na_s0 (ty := (.array .byte)) (by decide) rfl rfl d7_54 (n := 57) rfl ?_
      intro T hp54 X W54
      have F_18 := F_10.wr W54 (Or.inl (by simp))
      have F_19 := F_11.wr W54
      have F_20 := F_12.same W54
      have F_21 := F_13.other W54 (Or.inr (slot_ne (Or.inr (own_wd hw 54 rfl) : Laid Z a0 _ _ _ _) (Or.inr (own_wd hw 56 rfl) : Laid Z a0 _ _ _ _) (by decide) (t := .byte) (t' := (.array .byte)) (by decide) (by decide)))
      have F_22 := F_14.other W54 ne_a_s0
      have F_23 := F_15.wr W54
      have F_24 := F_16.other W54 (Ne.symm ne_s0_b_1)
      have F_25 := F_17.wr W54
      exact gRetV X w rfl d7_57 (by decide) (by decide) (⟨rfl, rfl, F_18, b_1, F_2, na_b_1, F_20, F_21, F_24, F_25⟩)
  · rintro ⟨c5, c5'⟩
    exact absurd c5 (by decide)
set_option maxRecDepth 65536 in
set_option maxHeartbeats 40000000 in
theorem own_sinit_3 (l : Launch) (Z : State) (a0 : Array Value) (hw : ∀ d ∈ tables_1, d.before a0 Z = true) (s0 : Addr) (a : Addr) (z0 : Int32) (z1 : Int32) (z2 : Int32) (cs : Int32) (h0 : Heap) (n0 : Nat) {D : Addr → Prop} (hn : n0 ≤ h0.size) (P0 : Exa Z h0 s0 "java/lang/String") (P1 : Fld Z h0 s0 "java/lang/String" "value" "[B" .null) (P2 : Fld Z h0 s0 "java/lang/String" "coder" "B" (.int (0 : Int32))) (P3 : Av Z h0 a .char [(.int z0), (.int z1), (.int z2)]) (P4 : Sta Z h0 "java/lang/String" "COMPACT_STRINGS" "Z" (.int cs)) (hz0 : 0 ≤ z0.toInt ∧ z0.toInt ≤ 255) (hz1 : 0 ≤ z1.toInt ∧ z1.toInt ≤ 255) (hz2 : 0 ≤ z2.toInt ∧ z2.toInt ≤ 255) (hcs : ¬ cs = 0) (ne_a_s0 : a ≠ s0) (na_s0 : n0 ≤ s0 ∧ ¬ D s0) :
    ConN l Z (⟨"java/lang/String", "<init>", "([C)V"⟩ : MethodName) jdk_42_method_3_code 2 ({ frames := 3, cells := 1, slots := 3, locals := 61 } : Room) #[(.ref s0), (.ref a)] h0 n0 D (fun h => Keep h0 h [s0] ∧ ∃ (b : Addr), h0.size ≤ b ∧ (n0 ≤ b ∧ ¬ D b) ∧ Fld Z h s0 "java/lang/String" "value" "[B" (.ref b) ∧ Fld Z h s0 "java/lang/String" "coder" "B" (.int (0 : Int32)) ∧ Av Z h b .byte [(.int (own_bt z0)), (.int (own_bt z1)), (.int (own_bt z2))] ∧ Exa Z h b "[B") := by
  refine Con.of (plainFor_of_name (by first | (simp [plainName, overriddenIn]; done) | decide +kernel)) hn ?_
  intro p e s m below meth c T w X
  refine Gl.enter (ls := #[.val (.ref s0), .val (.ref a)]) (by first | (simp [entryFrame, mkF, argsToLocals, Value.category]; done) | rfl) ?_
  have K_0 : Keep h0 h0 [s0] := Keep.refl _ _
  refine gAloadN X w d6_0 rfl rfl (n := 1) rfl ?_
  refine gAloadN X w d6_1 rfl rfl (n := 2) rfl ?_
  refine gIconst X w d6_2 (z := (0 : Int32)) rfl (n := 3) rfl ?_
  refine gAloadN X w d6_3 rfl rfl (n := 4) rfl ?_
  refine gAlen X w P3 (z := (3 : Int32)) rfl d6_4 (n := 5) rfl ?_
  refine gNull X w d6_5 (n := 6) rfl ?_
  refine gCallIn X w [(.ref a), (.int (0 : Int32)), (.int (3 : Int32)), .null] [] rfl (own_sinit4_3 l Z a0 hw s0 a z0 z1 z2 cs h0 n0 (Sd.le X) P0 P1 P2 P3 P4 (by first | assumption | decide | (simp; done) | omega) (by first | assumption | decide | (simp; done) | omega) (by first | assumption | decide | (simp; done) | omega) (by first | assumption | decide | (simp; done) | omega) ne_a_s0 na_s0) (own_wd hw 36 rfl) (own_wd hw 37 rfl) (own_wd hw 32 rfl) (own_wd hw 39 rfl) (by decide) own_pd3 rfl rfl d6_6 rfl (W := 0) (Nat.le_of_eq rfl) (by decide) (by decide) (by decide) (by decide) (n := 9) rfl ?_
  rintro T h_1 ⟨K_1, b_1, g_b_1, na_b_1, Q0_1, Q1_1, Q2_1, Q3_1⟩ X
  have F_2 := Nat.le_trans K_0.1 g_b_1
  have ne_s0_b_1 : s0 ≠ b_1 := neOf P0.lt g_b_1
  have ne_a_b_1 : a ≠ b_1 := neOf P3.lt g_b_1
  have F_3 := K_0.trans K_1 (allS (Or.inl (by simp)) all0)
  have F_4 := P0.keep K_1
  have F_5 := P3.keep K_1 (ninS ne_a_s0 nin0)
  have F_6 := staKeep P4 K_1 (allS (Exa.nostat P0) all0)
  exact gRetV X w rfl d6_9 (by decide) (by decide) (⟨rfl, rfl, F_3, b_1, F_2, na_b_1, Q0_1, Q1_1, Q2_1, Q3_1⟩)
set_option maxRecDepth 65536 in
set_option maxHeartbeats 40000000 in
theorem own_binit (l : Launch) (Z : State) (a0 : Array Value) (hw : ∀ d ∈ tables_1, d.before a0 Z = true) (a : Addr) (b1 : Addr) (h0 : Heap) (n0 : Nat) {D : Addr → Prop} (hn : n0 ≤ h0.size) (P0 : Exa Z h0 a "com/example/cassalink/cassalink/row/Blob") (P1 : Fld Z h0 a "com/example/cassalink/cassalink/row/Blob" "bytes" "[B" .null) (na_a : n0 ≤ a ∧ ¬ D a) :
    ConN l Z (⟨"com/example/cassalink/cassalink/row/Blob", "<init>", "([B)V"⟩ : MethodName) prog_15_method_1_code 2 ({ frames := 1, cells := 0, slots := 0, locals := 12 } : Room) #[(.ref a), (.ref b1)] h0 n0 D (fun h => Keep h0 h [a] ∧ True) := by
  refine Con.of (plainFor_of_name (by first | (simp [plainName, overriddenIn]; done) | decide +kernel)) hn ?_
  intro p e s m below meth c T w X
  refine Gl.enter (ls := #[.val (.ref a), .val (.ref b1)]) (by first | (simp [entryFrame, mkF, argsToLocals, Value.category]; done) | rfl) ?_
  have K_0 : Keep h0 h0 [a] := Keep.refl _ _
  refine gAloadN X w d12_0 rfl rfl (n := 1) rfl ?_
  refine gInitO X w (own_wd hw 75 rfl) (own_wd hw 25 rfl) (own_wd hw 26 rfl) d12_1 rfl (by decide) (W := 0) (Nat.le_of_eq rfl) (by decide) (n := 4) rfl ?_
  intro T X
  refine gAloadN X w d12_4 rfl rfl (n := 5) rfl ?_
  refine gAloadN X w d12_5 rfl rfl (n := 6) rfl ?_
  refine gPutF X w (own_wd hw 76 rfl) Via.refl P1 P0 (Or.inr ⟨own_wd hw 77 rfl, rfl, rfl⟩) (own_wd hw 62 rfl) na_a (ty := (.array .byte)) (by decide) rfl rfl d12_6 (n := 9) rfl ?_
  intro T hp6 X W6
  have F_1 := K_0.wr W6 (Or.inl (by simp))
  have F_2 := P0.wr W6
  have F_3 := P1.same W6
  exact gRetV X w rfl d12_9 (by decide) (by decide) (⟨rfl, rfl, F_1, trivial⟩)
set_option maxRecDepth 65536 in
set_option maxHeartbeats 40000000 in
theorem own_of_0 (l : Launch) (Z : State) (a0 : Array Value) (hw : ∀ d ∈ tables_1, d.before a0 Z = true) (a : Addr) (h0 : Heap) (n0 : Nat) {D : Addr → Prop} (hn : n0 ≤ h0.size) (P0 : Av Z h0 a .byte []) (P1 : Exa Z h0 a "[B") :
    ConV l Z (⟨"com/example/cassalink/cassalink/row/Blob", "of", "([B)Lcom/example/cassalink/cassalink/row/Blob;"⟩ : MethodName) prog_15_method_2_code 1 (some (.object "com/example/cassalink/cassalink/row/Blob")) ({ frames := 2, cells := 2, slots := 1, locals := 26 } : Room) #[(.ref a)] h0 n0 D (fun v h => Keep h0 h [] ∧ ∃ (b : Addr), v = (.ref b) ∧ h0.size ≤ b ∧ (n0 ≤ b ∧ ¬ D b) ∧ Exa Z h b "com/example/cassalink/cassalink/row/Blob") := by
  refine Con.of (plainFor_of_name (by first | (simp [plainName, overriddenIn]; done) | decide +kernel)) hn ?_
  intro p e s m below meth c T w X
  refine Gl.enter (ls := #[.val (.ref a)]) (by first | (simp [entryFrame, mkF, argsToLocals, Value.category]; done) | rfl) ?_
  have K_0 : Keep h0 h0 [] := Keep.refl _ _
  refine gNew X w (own_wd hw 61 rfl) (own_wd hw 62 rfl) (own_wd hw 59 rfl) d11_0 (by decide) (by decide) (n := 3) rfl ?_
  intro T hp0 ad0 ea0 na0 X E0 A0 D0
  have F_1 := Nat.le_trans K_0.1 (Nat.le_of_eq ea0.symm)
  have ne_a_ad0 : a ≠ ad0 := neOf P0.lt (Nat.le_of_eq ea0.symm)
  have F_2 := K_0.ext E0
  have F_3 := P0.ext E0
  have F_4 := P1.ext E0
  have F_5 : Fld Z hp0 ad0 "com/example/cassalink/cassalink/row/Blob" "bytes" "[B" .null := D0 (Or.inr (own_wd hw 77 rfl)) (ty := (.array .byte)) (by decide)
  refine gDup X w d11_3 rfl (n := 4) rfl ?_
  refine gAloadN X w d11_4 rfl rfl (n := 5) rfl ?_
  refine gClone X w F_3 F_4 (by intro v hv; cases hv) (own_wd hw 63 rfl) (own_wd hw 64 rfl) (own_wd hw 68 rfl) (own_wd hw 66 rfl) (own_wd hw 67 rfl) (own_wd hw 69 rfl) d11_5 rfl (by decide) (W := 2) (Nat.le_of_eq rfl) (by decide) (cap := 0) (by show (0 : Nat) ≤ 0; decide) (by decide) (by decide) (n := 8) rfl ?_
  intro T hp5 ad5 ea5 na5 X E5 V5 A5
  have F_6 := Nat.le_trans F_2.1 (Nat.le_of_eq ea5.symm)
  have ne_a_ad5 : a ≠ ad5 := neOf F_3.lt (Nat.le_of_eq ea5.symm)
  have ne_ad0_ad5 : ad0 ≠ ad5 := neOf A0.lt (Nat.le_of_eq ea5.symm)
  have F_7 := F_2.ext E5
  have F_8 := F_3.ext E5
  have F_9 := F_4.ext E5
  have F_10 := A0.ext E5
  have F_11 := F_5.ext E5
  refine gCast X w (own_wd hw 70 rfl) (Ins.self A5) d11_8 (n := 11) rfl ?_
  intro T X
  refine gCallIn X w [(.ref ad5)] [(.ref ad0)] rfl (own_binit l Z a0 hw ad0 ad5 hp5 n0 (Sd.le X) F_10 F_11 na0) (own_wd hw 72 rfl) (own_wd hw 73 rfl) (own_wd hw 59 rfl) (own_wd hw 74 rfl) (by decide) own_pd7 rfl rfl d11_11 rfl (W := 1) (Nat.le_of_eq rfl) (by decide) (by decide) (by decide) (by decide) (n := 14) rfl ?_
  rintro T h_12 ⟨K_12, -⟩ X
  have F_13 := F_7.trans K_12 (allS (Or.inr F_1) all0)
  have F_14 := F_8.keep K_12 (ninS ne_a_ad0 nin0)
  have F_15 := F_9.keep K_12
  have F_16 := F_10.keep K_12
  have F_17 := V5.keep K_12 (ninS (Ne.symm ne_ad0_ad5) nin0)
  have F_18 := A5.keep K_12
  exact gRetA X w rfl rfl rfl d11_14 (by decide) (by decide) (⟨rfl, _, rfl, F_13, ad0, rfl, F_1, na0, F_16⟩)
set_option maxRecDepth 65536 in
set_option maxHeartbeats 40000000 in
theorem own_of_3 (l : Launch) (Z : State) (a0 : Array Value) (hw : ∀ d ∈ tables_1, d.before a0 Z = true) (a : Addr) (z0 : Int32) (z1 : Int32) (z2 : Int32) (h0 : Heap) (n0 : Nat) {D : Addr → Prop} (hn : n0 ≤ h0.size) (P0 : Av Z h0 a .byte [(.int z0), (.int z1), (.int z2)]) (P1 : Exa Z h0 a "[B") (gz0 : fits .byte (.int z0) = true) (gz1 : fits .byte (.int z1) = true) (gz2 : fits .byte (.int z2) = true) :
    ConV l Z (⟨"com/example/cassalink/cassalink/row/Blob", "of", "([B)Lcom/example/cassalink/cassalink/row/Blob;"⟩ : MethodName) prog_15_method_2_code 1 (some (.object "com/example/cassalink/cassalink/row/Blob")) ({ frames := 2, cells := 2, slots := 4, locals := 26 } : Room) #[(.ref a)] h0 n0 D (fun v h => Keep h0 h [] ∧ ∃ (b : Addr), v = (.ref b) ∧ h0.size ≤ b ∧ (n0 ≤ b ∧ ¬ D b) ∧ Exa Z h b "com/example/cassalink/cassalink/row/Blob") := by
  refine Con.of (plainFor_of_name (by first | (simp [plainName, overriddenIn]; done) | decide +kernel)) hn ?_
  intro p e s m below meth c T w X
  refine Gl.enter (ls := #[.val (.ref a)]) (by first | (simp [entryFrame, mkF, argsToLocals, Value.category]; done) | rfl) ?_
  have K_0 : Keep h0 h0 [] := Keep.refl _ _
  refine gNew X w (own_wd hw 61 rfl) (own_wd hw 62 rfl) (own_wd hw 59 rfl) d11_0 (by decide) (by decide) (n := 3) rfl ?_
  intro T hp0 ad0 ea0 na0 X E0 A0 D0
  have F_1 := Nat.le_trans K_0.1 (Nat.le_of_eq ea0.symm)
  have ne_a_ad0 : a ≠ ad0 := neOf P0.lt (Nat.le_of_eq ea0.symm)
  have F_2 := K_0.ext E0
  have F_3 := P0.ext E0
  have F_4 := P1.ext E0
  have F_5 : Fld Z hp0 ad0 "com/example/cassalink/cassalink/row/Blob" "bytes" "[B" .null := D0 (Or.inr (own_wd hw 77 rfl)) (ty := (.array .byte)) (by decide)
  refine gDup X w d11_3 rfl (n := 4) rfl ?_
  refine gAloadN X w d11_4 rfl rfl (n := 5) rfl ?_
  refine gClone X w F_3 F_4 (by intro v hv; simp only [List.mem_cons, List.not_mem_nil, or_false] at hv; rcases hv with rfl | rfl | rfl <;> first | assumption | exact fits_nar_byte _ | exact fits_nar_char _ | decide) (own_wd hw 63 rfl) (own_wd hw 64 rfl) (own_wd hw 68 rfl) (own_wd hw 66 rfl) (own_wd hw 67 rfl) (own_wd hw 69 rfl) d11_5 rfl (by decide) (W := 2) (Nat.le_of_eq rfl) (by decide) (cap := 3) (by show (3 : Nat) ≤ 3; decide) (by decide) (by decide) (n := 8) rfl ?_
  intro T hp5 ad5 ea5 na5 X E5 V5 A5
  have F_6 := Nat.le_trans F_2.1 (Nat.le_of_eq ea5.symm)
  have ne_a_ad5 : a ≠ ad5 := neOf F_3.lt (Nat.le_of_eq ea5.symm)
  have ne_ad0_ad5 : ad0 ≠ ad5 := neOf A0.lt (Nat.le_of_eq ea5.symm)
  have F_7 := F_2.ext E5
  have F_8 := F_3.ext E5
  have F_9 := F_4.ext E5
  have F_10 := A0.ext E5
  have F_11 := F_5.ext E5
  refine gCast X w (own_wd hw 70 rfl) (Ins.self A5) d11_8 (n := 11) rfl ?_
  intro T X
  refine gCallIn X w [(.ref ad5)] [(.ref ad0)] rfl (own_binit l Z a0 hw ad0 ad5 hp5 n0 (Sd.le X) F_10 F_11 na0) (own_wd hw 72 rfl) (own_wd hw 73 rfl) (own_wd hw 59 rfl) (own_wd hw 74 rfl) (by decide) own_pd7 rfl rfl d11_11 rfl (W := 1) (Nat.le_of_eq rfl) (by decide) (by decide) (by decide) (by decide) (n := 14) rfl ?_
  rintro T h_12 ⟨K_12, -⟩ X
  have F_13 := F_7.trans K_12 (allS (Or.inr F_1) all0)
  have F_14 := F_8.keep K_12 (ninS ne_a_ad0 nin0)
  have F_15 := F_9.keep K_12
  have F_16 := F_10.keep K_12
  have F_17 := V5.keep K_12 (ninS (Ne.symm ne_ad0_ad5) nin0)
  have F_18 := A5.keep K_12
  exact gRetA X w rfl rfl rfl d11_14 (by decide) (by decide) (⟨rfl, _, rfl, F_13, ad0, rfl, F_1, na0, F_16⟩)
set_option maxRecDepth 65536 in
set_option maxHeartbeats 40000000 in
theorem own_kind_null (l : Launch) (Z : State) (a0 : Array Value) (hw : ∀ d ∈ tables_1, d.before a0 Z = true) (k : Addr) (h0 : Heap) (n0 : Nat) {D : Addr → Prop} (hn : n0 ≤ h0.size) (P0 : Sta Z h0 "com/example/cassalink/cassalink/row/ValueKind" "NULL" "Lcom/example/cassalink/cassalink/row/ValueKind;" (.ref k)) :
    ConV l Z (⟨"com/example/cassalink/cassalink/row/ValueKind", "of", "(Ljava/lang/Object;)Lcom/example/cassalink/cassalink/row/ValueKind;"⟩ : MethodName) prog_18_method_4_code 2 (some (.object "com/example/cassalink/cassalink/row/ValueKind")) ({ frames := 0, cells := 0, slots := 0, locals := 0 } : Room) #[.null] h0 n0 D (fun v h => h0 = h ∧ v = (.ref k)) := by
  refine Con.of (plainFor_of_name (by first | (simp [plainName, overriddenIn]; done) | decide +kernel)) hn ?_
  intro p e s m below meth c T w X
  refine Gl.enter (ls := #[.val .null, .unset]) (by first | (simp [entryFrame, mkF, argsToLocals, Value.category]; done) | rfl) ?_
  refine gAloadN X w d13_0 rfl rfl (n := 1) rfl ?_
  refine gIfnonnullN X w d13_1 (n := 4) rfl ?_
  refine gGetS X w (own_wd hw 82 rfl) Via.refl P0 d13_4 (n := 7) rfl ?_
  intro T X
  refine gAstoreN X w d13_7 rfl #[.val .null, .val (.ref k)] rfl (n := 8) rfl ?_
  refine gGoto X w d13_8 (by decide) (n := 87) rfl ?_
  refine gAloadN X w d13_87 rfl rfl (n := 88) rfl ?_
  exact gRetA X w rfl rfl rfl d13_88 (by decide) (by decide) (⟨rfl, _, rfl, rfl, rfl⟩)
set_option maxRecDepth 65536 in
set_option maxHeartbeats 40000000 in
theorem own_kind_INTEGER (l : Launch) (Z : State) (a0 : Array Value) (hw : ∀ d ∈ tables_1, d.before a0 Z = true) (a : Addr) (k : Addr) (h0 : Heap) (n0 : Nat) {D : Addr → Prop} (hn : n0 ≤ h0.size) (P0 : Exa Z h0 a "java/lang/Long") (P1 : Sta Z h0 "com/example/cassalink/cassalink/row/ValueKind" "INTEGER" "Lcom/example/cassalink/cassalink/row/ValueKind;" (.ref k)) :
    ConV l Z (⟨"com/example/cassalink/cassalink/row/ValueKind", "of", "(Ljava/lang/Object;)Lcom/example/cassalink/cassalink/row/ValueKind;"⟩ : MethodName) prog_18_method_4_code 2 (some (.object "com/example/cassalink/cassalink/row/ValueKind")) ({ frames := 0, cells := 0, slots := 0, locals := 0 } : Room) #[(.ref a)] h0 n0 D (fun v h => h0 = h ∧ v = (.ref k)) := by
  refine Con.of (plainFor_of_name (by first | (simp [plainName, overriddenIn]; done) | decide +kernel)) hn ?_
  intro p e s m below meth c T w X
  refine Gl.enter (ls := #[.val (.ref a), .unset]) (by first | (simp [entryFrame, mkF, argsToLocals, Value.category]; done) | rfl) ?_
  refine gAloadN X w d13_0 rfl rfl (n := 1) rfl ?_
  refine gIfnonnullY X w d13_1 (by decide) (n := 11) rfl ?_
  refine gAloadN X w d13_11 rfl rfl (n := 12) rfl ?_
  refine gInstY X w (own_wd hw 85 rfl) (Ins.self P0) d13_12 (n := 15) rfl ?_
  intro T X
  refine gIf_eq X w d13_15 (n := 25) (n' := 18) (by decide) rfl rfl ?_ ?_
  · rintro ⟨c15, c15'⟩
    exact absurd c15 (by decide)
  · rintro ⟨c15, c15'⟩
    refine gGetS X w (own_wd hw 87 rfl) Via.refl P1 d13_18 (n := 21) rfl ?_
    intro T X
    refine gAstoreN X w d13_21 rfl #[.val (.ref a), .val (.ref k)] rfl (n := 22) rfl ?_
    refine gGoto X w d13_22 (by decide) (n := 87) rfl ?_
    refine gAloadN X w d13_87 rfl rfl (n := 88) rfl ?_
    exact gRetA X w rfl rfl rfl d13_88 (by decide) (by decide) (⟨rfl, _, rfl, rfl, rfl⟩)
set_option maxRecDepth 65536 in
set_option maxHeartbeats 40000000 in
theorem own_kind_REAL (l : Launch) (Z : State) (a0 : Array Value) (hw : ∀ d ∈ tables_1, d.before a0 Z = true) (a : Addr) (k : Addr) (h0 : Heap) (n0 : Nat) {D : Addr → Prop} (hn : n0 ≤ h0.size) (P0 : Exa Z h0 a "java/lang/Double") (P1 : Sta Z h0 "com/example/cassalink/cassalink/row/ValueKind" "REAL" "Lcom/example/cassalink/cassalink/row/ValueKind;" (.ref k)) :
    ConV l Z (⟨"com/example/cassalink/cassalink/row/ValueKind", "of", "(Ljava/lang/Object;)Lcom/example/cassalink/cassalink/row/ValueKind;"⟩ : MethodName) prog_18_method_4_code 2 (some (.object "com/example/cassalink/cassalink/row/ValueKind")) ({ frames := 0, cells := 0, slots := 0, locals := 0 } : Room) #[(.ref a)] h0 n0 D (fun v h => h0 = h ∧ v = (.ref k)) := by
  refine Con.of (plainFor_of_name (by first | (simp [plainName, overriddenIn]; done) | decide +kernel)) hn ?_
  intro p e s m below meth c T w X
  refine Gl.enter (ls := #[.val (.ref a), .unset]) (by first | (simp [entryFrame, mkF, argsToLocals, Value.category]; done) | rfl) ?_
  refine gAloadN X w d13_0 rfl rfl (n := 1) rfl ?_
  refine gIfnonnullY X w d13_1 (by decide) (n := 11) rfl ?_
  refine gAloadN X w d13_11 rfl rfl (n := 12) rfl ?_
  refine gInstN X w (own_wd hw 85 rfl) P0 (nsNo (own_wd hw 90 rfl) (own_wd hw 109 rfl) (NS.step (own_wd hw 90 rfl) (NS.step (own_wd hw 91 rfl) (nsRoot (own_wd hw 92 rfl) (own_wd hw 109 rfl) (by decide)) (by decide)) (by decide)) (by decide)) d13_12 (n := 15) rfl ?_
  intro T X
  refine gIf_eq X w d13_15 (n := 25) (n' := 18) (by decide) rfl rfl ?_ ?_
  · rintro ⟨c15, c15'⟩
    refine gAloadN X w d13_25 rfl rfl (n := 26) rfl ?_
    refine gInstY X w (own_wd hw 93 rfl) (Ins.self P0) d13_26 (n := 29) rfl ?_
    intro T X
    refine gIf_eq X w d13_29 (n := 39) (n' := 32) (by decide) rfl rfl ?_ ?_
    · rintro ⟨c29, c29'⟩
      exact absurd c29 (by decide)
    · rintro ⟨c29, c29'⟩
      refine gGetS X w (own_wd hw 94 rfl) Via.refl P1 d13_32 (n := 35) rfl ?_
      intro T X
      refine gAstoreN X w d13_35 rfl #[.val (.ref a), .val (.ref k)] rfl (n := 36) rfl ?_
      refine gGoto X w d13_36 (by decide) (n := 87) rfl ?_
      refine gAloadN X w d13_87 rfl rfl (n := 88) rfl ?_
      exact gRetA X w rfl rfl rfl d13_88 (by decide) (by decide) (⟨rfl, _, rfl, rfl, rfl⟩)
  · rintro ⟨c15, c15'⟩
    exact absurd c15 (by decide)
set_option maxRecDepth 65536 in
set_option maxHeartbeats 40000000 in
theorem own_kind_TEXT (l : Launch) (Z : State) (a0 : Array Value) (hw : ∀ d ∈ tables_1, d.before a0 Z = true) (a : Addr) (k : Addr) (h0 : Heap) (n0 : Nat) {D : Addr → Prop} (hn : n0 ≤ h0.size) (P0 : Exa Z h0 a "java/lang/String") (P1 : Sta Z h0 "com/example/cassalink/cassalink/row/ValueKind" "TEXT" "Lcom/example/cassalink/cassalink/row/ValueKind;" (.ref k)) :
    ConV l Z (⟨"com/example/cassalink/cassalink/row/ValueKind", "of", "(Ljava/lang/Object;)Lcom/example/cassalink/cassalink/row/ValueKind;"⟩ : MethodName) prog_18_method_4_code 2 (some (.object "com/example/cassalink/cassalink/row/ValueKind")) ({ frames := 0, cells := 0, slots := 0, locals := 0 } : Room) #[(.ref a)] h0 n0 D (fun v h => h0 = h ∧ v = (.ref k)) := by
  refine Con.of (plainFor_of_name (by first | (simp [plainName, overriddenIn]; done) | decide +kernel)) hn ?_
  intro p e s m below meth c T w X
  refine Gl.enter (ls := #[.val (.ref a), .unset]) (by first | (simp [entryFrame, mkF, argsToLocals, Value.category]; done) | rfl) ?_
  refine gAloadN X w d13_0 rfl rfl (n := 1) rfl ?_
  refine gIfnonnullY X w d13_1 (by decide) (n := 11) rfl ?_
  refine gAloadN X w d13_11 rfl rfl (n := 12) rfl ?_
  refine gInstN X w (own_wd hw 85 rfl) P0 (nsNo (own_wd hw 97 rfl) (own_wd hw 109 rfl) (NS.step (own_wd hw 97 rfl) (nsRoot (own_wd hw 92 rfl) (own_wd hw 109 rfl) (by decide)) (by decide)) (by decide)) d13_12 (n := 15) rfl ?_
  intro T X
  refine gIf_eq X w d13_15 (n := 25) (n' := 18) (by decide) rfl rfl ?_ ?_
  · rintro ⟨c15, c15'⟩
    refine gAloadN X w d13_25 rfl rfl (n := 26) rfl ?_
    refine gInstN X w (own_wd hw 93 rfl) P0 (nsNo (own_wd hw 97 rfl) (own_wd hw 13 rfl) (NS.step (own_wd hw 97 rfl) (nsRoot (own_wd hw 92 rfl) (own_wd hw 13 rfl) (by decide)) (by decide)) (by decide)) d13_26 (n := 29) rfl ?_
    intro T X
    refine gIf_eq X w d13_29 (n := 39) (n' := 32) (by decide) rfl rfl ?_ ?_
    · rintro ⟨c29, c29'⟩
      refine gAloadN X w d13_39 rfl rfl (n := 40) rfl ?_
      refine gInstY X w (own_wd hw 98 rfl) (Ins.self P0) d13_40 (n := 43) rfl ?_
      intro T X
      refine gIf_eq X w d13_43 (n := 53) (n' := 46) (by decide) rfl rfl ?_ ?_
      · rintro ⟨c43, c43'⟩
        exact absurd c43 (by decide)
      · rintro ⟨c43, c43'⟩
        refine gGetS X w (own_wd hw 99 rfl) Via.refl P1 d13_46 (n := 49) rfl ?_
        intro T X
        refine gAstoreN X w d13_49 rfl #[.val (.ref a), .val (.ref k)] rfl (n := 50) rfl ?_
        refine gGoto X w d13_50 (by decide) (n := 87) rfl ?_
        refine gAloadN X w d13_87 rfl rfl (n := 88) rfl ?_
        exact gRetA X w rfl rfl rfl d13_88 (by decide) (by decide) (⟨rfl, _, rfl, rfl, rfl⟩)
    · rintro ⟨c29, c29'⟩
      exact absurd c29 (by decide)
  · rintro ⟨c15, c15'⟩
    exact absurd c15 (by decide)
set_option maxRecDepth 65536 in
set_option maxHeartbeats 40000000 in
theorem own_kind_BLOB (l : Launch) (Z : State) (a0 : Array Value) (hw : ∀ d ∈ tables_1, d.before a0 Z = true) (a : Addr) (k : Addr) (h0 : Heap) (n0 : Nat) {D : Addr → Prop} (hn : n0 ≤ h0.size) (P0 : Exa Z h0 a "com/example/cassalink/cassalink/row/Blob") (P1 : Sta Z h0 "com/example/cassalink/cassalink/row/ValueKind" "BLOB" "Lcom/example/cassalink/cassalink/row/ValueKind;" (.ref k)) :
    ConV l Z (⟨"com/example/cassalink/cassalink/row/ValueKind", "of", "(Ljava/lang/Object;)Lcom/example/cassalink/cassalink/row/ValueKind;"⟩ : MethodName) prog_18_method_4_code 2 (some (.object "com/example/cassalink/cassalink/row/ValueKind")) ({ frames := 0, cells := 0, slots := 0, locals := 0 } : Room) #[(.ref a)] h0 n0 D (fun v h => h0 = h ∧ v = (.ref k)) := by
  refine Con.of (plainFor_of_name (by first | (simp [plainName, overriddenIn]; done) | decide +kernel)) hn ?_
  intro p e s m below meth c T w X
  refine Gl.enter (ls := #[.val (.ref a), .unset]) (by first | (simp [entryFrame, mkF, argsToLocals, Value.category]; done) | rfl) ?_
  refine gAloadN X w d13_0 rfl rfl (n := 1) rfl ?_
  refine gIfnonnullY X w d13_1 (by decide) (n := 11) rfl ?_
  refine gAloadN X w d13_11 rfl rfl (n := 12) rfl ?_
  refine gInstN X w (own_wd hw 85 rfl) P0 (nsNo (own_wd hw 102 rfl) (own_wd hw 109 rfl) (NS.step (own_wd hw 102 rfl) (nsRoot (own_wd hw 92 rfl) (own_wd hw 109 rfl) (by decide)) (by decide)) (by decide)) d13_12 (n := 15) rfl ?_
  intro T X
  refine gIf_eq X w d13_15 (n := 25) (n' := 18) (by decide) rfl rfl ?_ ?_
  · rintro ⟨c15, c15'⟩
    refine gAloadN X w d13_25 rfl rfl (n := 26) rfl ?_
    refine gInstN X w (own_wd hw 93 rfl) P0 (nsNo (own_wd hw 102 rfl) (own_wd hw 13 rfl) (NS.step (own_wd hw 102 rfl) (nsRoot (own_wd hw 92 rfl) (own_wd hw 13 rfl) (by decide)) (by decide)) (by decide)) d13_26 (n := 29) rfl ?_
    intro T X
    refine gIf_eq X w d13_29 (n := 39) (n' := 32) (by decide) rfl rfl ?_ ?_
    · rintro ⟨c29, c29'⟩
      refine gAloadN X w d13_39 rfl rfl (n := 40) rfl ?_
      refine gInstN X w (own_wd hw 98 rfl) P0 (nsNo (own_wd hw 102 rfl) (own_wd hw 31 rfl) (NS.step (own_wd hw 102 rfl) (nsRoot (own_wd hw 92 rfl) (own_wd hw 31 rfl) (by decide)) (by decide)) (by decide)) d13_40 (n := 43) rfl ?_
      intro T X
      refine gIf_eq X w d13_43 (n := 53) (n' := 46) (by decide) rfl rfl ?_ ?_
      · rintro ⟨c43, c43'⟩
        refine gAloadN X w d13_53 rfl rfl (n := 54) rfl ?_
        refine gInstY X w (own_wd hw 103 rfl) (Ins.self P0) d13_54 (n := 57) rfl ?_
        intro T X
        refine gIf_eq X w d13_57 (n := 67) (n' := 60) (by decide) rfl rfl ?_ ?_
        · rintro ⟨c57, c57'⟩
          exact absurd c57 (by decide)
        · rintro ⟨c57, c57'⟩
          refine gGetS X w (own_wd hw 105 rfl) Via.refl P1 d13_60 (n := 63) rfl ?_
          intro T X
          refine gAstoreN X w d13_63 rfl #[.val (.ref a), .val (.ref k)] rfl (n := 64) rfl ?_
          refine gGoto X w d13_64 (by decide) (n := 87) rfl ?_
          refine gAloadN X w d13_87 rfl rfl (n := 88) rfl ?_
          exact gRetA X w rfl rfl rfl d13_88 (by decide) (by decide) (⟨rfl, _, rfl, rfl, rfl⟩)
      · rintro ⟨c43, c43'⟩
        exact absurd c43 (by decide)
    · rintro ⟨c29, c29'⟩
      exact absurd c29 (by decide)
  · rintro ⟨c15, c15'⟩
    exact absurd c15 (by decide)
set_option maxRecDepth 65536 in
set_option maxHeartbeats 40000000 in
theorem own_law (l : Launch) (Z : State) (a0 : Array Value) (hw : ∀ d ∈ tables_1, d.before a0 Z = true) (p1 : Int64) (p2 p3 p4 : Int32) (sNULL sINTEGER sREAL sTEXT sBLOB : Addr) (ca : Addr) (cs : List Value) (ccs : Int32) (h0 : Heap) (n0 : Nat) {D : Addr → Prop} (hn : n0 ≤ h0.size) (G : own_env Z h0 sNULL sINTEGER sREAL sTEXT sBLOB) (Sca : Sta Z h0 "java/lang/Long$LongCache" "cache" "[Ljava/lang/Long;" (.ref ca)) (Vca : Av Z h0 ca (.object "java/lang/Long") cs) (hbx : ∀ j : Int32, 0 ≤ j.toInt → j.toInt < 256 → ∃ b : Addr, cs[j.toInt.toNat]? = some (.ref b) ∧ Exa Z h0 b "java/lang/Long") (Scs : Sta Z h0 "java/lang/String" "COMPACT_STRINGS" "Z" (.int ccs)) (hcs : ¬ ccs = 0) :
    Con l Z x code maxLocals ret tables_1 room_1 32 1152 #[(.long p1), (.int p2), (.int p3), (.int p4)] h0 n0 D (fun r h _ => r = some (.int 1)) := by
  refine Con.of (plainFor_of_name (by first | (simp [plainName, overriddenIn]; done) | decide +kernel)) hn ?_
  intro p e s m below meth c T w X
  refine Gl.enter (ls := #[.val (.long p1), .second, .val (.int p2), .val (.int p3), .val (.int p4), .unset, .unset, .unset, .unset, .unset, .unset, .unset, .unset, .unset, .unset, .unset, .unset, .unset]) (by first | (simp [entryFrame, mkF, argsToLocals, Value.category, maxLocals]; done) | rfl) ?_
  obtain ⟨S_sNULL, E_sNULL, S_sINTEGER, E_sINTEGER, S_sREAL, E_sREAL, S_sTEXT, E_sTEXT, S_sBLOB, E_sBLOB⟩ := id G
  refine gIloadN X w at_0 rfl (n := 1) rfl ?_
  refine gBipush X w at_1 (z := (24 : Int32)) (by decide) (n := 3) rfl ?_
  obtain ⟨x3, q3⟩ : ∃ zz_ : Int32, Jvm.Free.XT.ushr p3 (24 : Int32) = zz_ := ⟨_, rfl⟩
  refine gIushr X w at_3 q3 (n := 4) rfl ?_
  refine gIconst X w at_4 (z := (1 : Int32)) rfl (n := 5) rfl ?_
  obtain ⟨x5, q5⟩ : ∃ zz_ : Int32, x3 &&& (1 : Int32) = zz_ := ⟨_, rfl⟩
  refine gIand X w at_5 q5 (n := 6) rfl ?_
  refine gIf_eq X w at_6 (n := 13) (n' := 9) (by decide) rfl rfl ?_ ?_
  · rintro ⟨c6, c6'⟩
    refine gIconst X w at_13 (z := (0 : Int32)) rfl (n := 14) rfl ?_
    refine gIstore X w at_14 #[.val (.long p1), .second, .val (.int p2), .val (.int p3), .val (.int p4), .val (.int (0 : Int32)), .unset, .unset, .unset, .unset, .unset, .unset, .unset, .unset, .unset, .unset, .unset, .unset] rfl (n := 16) rfl ?_
    refine gIload X w at_16 rfl (n := 18) rfl ?_
    refine gBipush X w at_18 (z := (24 : Int32)) (by decide) (n := 20) rfl ?_
    obtain ⟨x20, q20⟩ : ∃ zz_ : Int32, Jvm.Free.XT.ushr p4 (24 : Int32) = zz_ := ⟨_, rfl⟩
    refine gIushr X w at_20 q20 (n := 21) rfl ?_
    refine gIconst X w at_21 (z := (1 : Int32)) rfl (n := 22) rfl ?_
    obtain ⟨x22, q22⟩ : ∃ zz_ : Int32, x20 &&& (1 : Int32) = zz_ := ⟨_, rfl⟩
    refine gIand X w at_22 q22 (n := 23) rfl ?_
    refine gIf_eq X w at_23 (n := 30) (n' := 26) (by decide) rfl rfl ?_ ?_
    · rintro ⟨c23, c23'⟩
      refine gIconst X w at_30 (z := (0 : Int32)) rfl (n := 31) rfl ?_
      refine gIstore X w at_31 #[.val (.long p1), .second, .val (.int p2), .val (.int p3), .val (.int p4), .val (.int (0 : Int32)), .val (.int (0 : Int32)), .unset, .unset, .unset, .unset, .unset, .unset, .unset, .unset, .unset, .unset, .unset] rfl (n := 33) rfl ?_
      refine gJloadN X w at_33 rfl (n := 34) rfl ?_
      refine gCallSv X w [(.long p1)] [] (own_lval l Z a0 hw p1 ca cs h0 n0 (Sd.le X) Sca Vca hbx) (own_wd hw 0 rfl) (own_wd hw 1 rfl) (own_wd hw 2 rfl) (own_wd hw 3 rfl) (by decide) own_pd8 rfl rfl at_34 rfl (W := 0) (Nat.le_of_eq rfl) (by decide) (by decide) (by decide) (by decide) (n := 37) rfl ?_
      rintro T h_1 _ ⟨K_1, b_1, rfl, Q0_1⟩ X
      have F_2 := staKeep S_sNULL K_1 all0
      have F_3 := E_sNULL.keep K_1
      have F_4 := staKeep S_sINTEGER K_1 all0
      have F_5 := E_sINTEGER.keep K_1
      have F_6 := staKeep S_sREAL K_1 all0
      have F_7 := E_sREAL.keep K_1
      have F_8 := staKeep S_sTEXT K_1 all0
      have F_9 := E_sTEXT.keep K_1
      have F_10 := staKeep S_sBLOB K_1 all0
      have F_11 := E_sBLOB.keep K_1
      have F_12 := staKeep Sca K_1 all0
      have F_13 := Vca.keep K_1 nin0
      have F_14 := staKeep Scs K_1 all0
      refine gAstore X w at_37 rfl #[.val (.long p1), .second, .val (.int p2), .val (.int p3), .val (.int p4), .val (.int (0 : Int32)), .val (.int (0 : Int32)), .val (.ref b_1), .unset, .unset, .unset, .unset, .unset, .unset, .unset, .unset, .unset, .unset] rfl (n := 39) rfl ?_
      refine gIloadN X w at_39 rfl (n := 40) rfl ?_
      obtain ⟨u40, q40⟩ : ∃ zz_ : UInt64, FP.i2d p2 = zz_ := ⟨_, rfl⟩
      refine gI2d X w at_40 q40 (n := 41) rfl ?_
      refine gCallSv X w [(.double u40)] [] (own_dval l Z a0 hw u40 h_1 n0 (Sd.le X) ) (own_wd hw 8 rfl) (own_wd hw 9 rfl) (own_wd hw 10 rfl) (own_wd hw 11 rfl) (by decide) own_pd9 rfl rfl at_41 rfl (W := 0) (Nat.le_of_eq rfl) (by decide) (by decide) (by decide) (by decide) (n := 44) rfl ?_
      rintro T h_15 _ ⟨K_15, b_15, rfl, g_b_15, na_b_15, Q0_15⟩ X
      have ne_sNULL_b_15 : sNULL ≠ b_15 := neOf F_3.lt g_b_15
      have ne_sINTEGER_b_15 : sINTEGER ≠ b_15 := neOf F_5.lt g_b_15
      have ne_sREAL_b_15 : sREAL ≠ b_15 := neOf F_7.lt g_b_15
      have ne_sTEXT_b_15 : sTEXT ≠ b_15 := neOf F_9.lt g_b_15
      have ne_sBLOB_b_15 : sBLOB ≠ b_15 := neOf F_11.lt g_b_15
      have ne_ca_b_15 : ca ≠ b_15 := neOf F_13.lt g_b_15
      have ne_b_1_b_15 : b_1 ≠ b_15 := neOf Q0_1.lt g_b_15
      have F_16 := staKeep F_2 K_15 all0
      have F_17 := F_3.keep K_15
      have F_18 := staKeep F_4 K_15 all0
      have F_19 := F_5.keep K_15
      have F_20 := staKeep F_6 K_15 all0
      have F_21 := F_7.keep K_15
      have F_22 := staKeep F_8 K_15 all0
      have F_23 := F_9.keep K_15
      have F_24 := staKeep F_10 K_15 all0
      have F_25 := F_11.keep K_15
      have F_26 := staKeep F_12 K_15 all0
      have F_27 := F_13.keep K_15 nin0
      have F_28 := staKeep F_14 K_15 all0
      have F_29 := Q0_1.keep K_15
      refine gAstore X w at_44 rfl #[.val (.long p1), .second, .val (.int p2), .val (.int p3), .val (.int p4), .val (.int (0 : Int32)), .val (.int (0 : Int32)), .val (.ref b_1), .val (.ref b_15), .unset, .unset, .unset, .unset, .unset, .unset, .unset, .unset, .unset] rfl (n := 46) rfl ?_
      refine gIconst X w at_46 (z := (3 : Int32)) rfl (n := 47) rfl ?_
      refine gNewP X w (own_wd hw 29 rfl) at_47 (by decide) (cap := 3) (by decide) (by decide) (by decide) (by decide) (vs := [(.int (0 : Int32)), (.int (0 : Int32)), (.int (0 : Int32))]) (ty := .char) rfl rfl (ad := "[C") (by decide) (n := 49) rfl ?_
      intro T hp47 ad47 ea47 na47 X E47 V47 A47
      have ne_sNULL_ad47 : sNULL ≠ ad47 := neOf F_17.lt (Nat.le_of_eq ea47.symm)
      have ne_sINTEGER_ad47 : sINTEGER ≠ ad47 := neOf F_19.lt (Nat.le_of_eq ea47.symm)
      have ne_sREAL_ad47 : sREAL ≠ ad47 := neOf F_21.lt (Nat.le_of_eq ea47.symm)
      have ne_sTEXT_ad47 : sTEXT ≠ ad47 := neOf F_23.lt (Nat.le_of_eq ea47.symm)
      have ne_sBLOB_ad47 : sBLOB ≠ ad47 := neOf F_25.lt (Nat.le_of_eq ea47.symm)
      have ne_ca_ad47 : ca ≠ ad47 := neOf F_27.lt (Nat.le_of_eq ea47.symm)
      have ne_b_1_ad47 : b_1 ≠ ad47 := neOf F_29.lt (Nat.le_of_eq ea47.symm)
      have ne_b_15_ad47 : b_15 ≠ ad47 := neOf Q0_15.lt (Nat.le_of_eq ea47.symm)
      have F_30 := F_16.ext E47
      have F_31 := F_17.ext E47
      have F_32 := F_18.ext E47
      have F_33 := F_19.ext E47
      have F_34 := F_20.ext E47
      have F_35 := F_21.ext E47
      have F_36 := F_22.ext E47
      have F_37 := F_23.ext E47
      have F_38 := F_24.ext E47
      have F_39 := F_25.ext E47
      have F_40 := F_26.ext E47
      have F_41 := F_27.ext E47
      have F_42 := F_28.ext E47
      have F_43 := F_29.ext E47
      have F_44 := Q0_15.ext E47
      refine gDup X w at_49 rfl (n := 50) rfl ?_
      refine gIconst X w at_50 (z := (0 : Int32)) rfl (n := 51) rfl ?_
      refine gIloadN X w at_51 rfl (n := 52) rfl ?_
      refine gSipush X w at_52 (z := (255 : Int32)) (by decide) (n := 55) rfl ?_
      obtain ⟨x55, q55⟩ : ∃ zz_ : Int32, p3 &&& (255 : Int32) = zz_ := ⟨_, rfl⟩
      refine gIand X w at_55 q55 (n := 56) rfl ?_
      obtain ⟨x56, q56⟩ : ∃ zz_ : Int32, (Int32.toUInt32 x55).toUInt16.toUInt32.toInt32 = zz_ := ⟨_, rfl⟩
      have hz_x56 := own_c255 q55 q56
      refine gI2c X w at_56 q56 (n := 57) rfl ?_
      refine gCastore X w (z := (.int x56)) V47 (by decide) (show (0 : Int) < ((3 : Nat) : Int) from by decide) na47 (congrArg Value.int (own_narc hz_x56)) (vs' := [(.int x56), (.int (0 : Int32)), (.int (0 : Int32))]) rfl at_57 (n := 58) rfl ?_
      intro T hp57 X W57 V57
      have F_45 := F_30.wr W57
      have F_46 := F_31.wr W57
      have F_47 := F_32.wr W57
      have F_48 := F_33.wr W57
      have F_49 := F_34.wr W57
      have F_50 := F_35.wr W57
      have F_51 := F_36.wr W57
      have F_52 := F_37.wr W57
      have F_53 := F_38.wr W57
      have F_54 := F_39.wr W57
      have F_55 := F_40.wr W57
      have F_56 := F_41.other W57 ne_ca_ad47
      have F_57 := F_42.wr W57
      have F_58 := F_43.wr W57
      have F_59 := F_44.wr W57
      have F_60 := A47.wr W57
      refine gDup X w at_58 rfl (n := 59) rfl ?_
      refine gIconst X w at_59 (z := (1 : Int32)) rfl (n := 60) rfl ?_
      refine gIloadN X w at_60 rfl (n := 61) rfl ?_
      refine gBipush X w at_61 (z := (8 : Int32)) (by decide) (n := 63) rfl ?_
      obtain ⟨x63, q63⟩ : ∃ zz_ : Int32, Jvm.Free.XT.ushr p3 (8 : Int32) = zz_ := ⟨_, rfl⟩
      refine gIushr X w at_63 q63 (n := 64) rfl ?_
      refine gSipush X w at_64 (z := (255 : Int32)) (by decide) (n := 67) rfl ?_
      obtain ⟨x67, q67⟩ : ∃ zz_ : Int32, x63 &&& (255 : Int32) = zz_ := ⟨_, rfl⟩
      refine gIand X w at_67 q67 (n := 68) rfl ?_
      obtain ⟨x68, q68⟩ : ∃ zz_ : Int32, (Int32.toUInt32 x67).toUInt16.toUInt32.toInt32 = zz_ := ⟨_, rfl⟩
      have hz_x68 := own_c255 q67 q68
      refine gI2c X w at_68 q68 (n := 69) rfl ?_
      refine gCastore X w (z := (.int x68)) V57 (by decide) (show (1 : Int) < ((3 : Nat) : Int) from by decide) na47 (congrArg Value.int (own_narc hz_x68)) (vs' := [(.int x56), (.int x68), (.int (0 : Int32))]) rfl at_69 (n := 70) rfl ?_
      intro T hp69 X W69 V69
      have F_61 := F_45.wr W69
      have F_62 := F_46.wr W69
      have F_63 := F_47.wr W69
      have F_64 := F_48.wr W69
      have F_65 := F_49.wr W69
      have F_66 := F_50.wr W69
      have F_67 := F_51.wr W69
      have F_68 := F_52.wr W69
      have F_69 := F_53.wr W69
      have F_70 := F_54.wr W69
      have F_71 := F_55.wr W69
      have F_72 := F_56.other W69 ne_ca_ad47
      have F_73 := F_57.wr W69
      have F_74 := F_58.wr W69
      have F_75 := F_59.wr W69
      have F_76 := F_60.wr W69
      refine gDup X w at_70 rfl (n := 71) rfl ?_
      refine gIconst X w at_71 (z := (2 : Int32)) rfl (n := 72) rfl ?_
      refine gIloadN X w at_72 rfl (n := 73) rfl ?_
      refine gBipush X w at_73 (z := (16 : Int32)) (by decide) (n := 75) rfl ?_
      obtain ⟨x75, q75⟩ : ∃ zz_ : Int32, Jvm.Free.XT.ushr p3 (16 : Int32) = zz_ := ⟨_, rfl⟩
      refine gIushr X w at_75 q75 (n := 76) rfl ?_
      refine gSipush X w at_76 (z := (255 : Int32)) (by decide) (n := 79) rfl ?_
      obtain ⟨x79, q79⟩ : ∃ zz_ : Int32, x75 &&& (255 : Int32) = zz_ := ⟨_, rfl⟩
      refine gIand X w at_79 q79 (n := 80) rfl ?_
      obtain ⟨x80, q80⟩ : ∃ zz_ : Int32, (Int32.toUInt32 x79).toUInt16.toUInt32.toInt32 = zz_ := ⟨_, rfl⟩
      have hz_x80 := own_c255 q79 q80
      refine gI2c X w at_80 q80 (n := 81) rfl ?_
      refine gCastore X w (z := (.int x80)) V69 (by decide) (show (2 : Int) < ((3 : Nat) : Int) from by decide) na47 (congrArg Value.int (own_narc hz_x80)) (vs' := [(.int x56), (.int x68), (.int x80)]) rfl at_81 (n := 82) rfl ?_
      intro T hp81 X W81 V81
      have F_77 := F_61.wr W81
      have F_78 := F_62.wr W81
      have F_79 := F_63.wr W81
      have F_80 := F_64.wr W81
      have F_81 := F_65.wr W81
      have F_82 := F_66.wr W81
      have F_83 := F_67.wr W81
      have F_84 := F_68.wr W81
      have F_85 := F_69.wr W81
      have F_86 := F_70.wr W81
      have F_87 := F_71.wr W81
      have F_88 := F_72.other W81 ne_ca_ad47
      have F_89 := F_73.wr W81
      have F_90 := F_74.wr W81
      have F_91 := F_75.wr W81
      have F_92 := F_76.wr W81
      refine gAstore X w at_82 rfl #[.val (.long p1), .second, .val (.int p2), .val (.int p3), .val (.int p4), .val (.int (0 : Int32)), .val (.int (0 : Int32)), .val (.ref b_1), .val (.ref b_15), .val (.ref ad47), .unset, .unset, .unset, .unset, .unset, .unset, .unset, .unset] rfl (n := 84) rfl ?_
      refine gIload X w at_84 rfl (n := 86) rfl ?_
      refine gIf_eq X w at_86 (n := 102) (n' := 89) (by decide) rfl rfl ?_ ?_
      · rintro ⟨c86, c86'⟩
        refine gNew X w (own_wd hw 30 rfl) (own_wd hw 31 rfl) (own_wd hw 32 rfl) at_102 (by decide) (by decide) (n := 105) rfl ?_
        intro T hp102 ad102 ea102 na102 X E102 A102 D102
        have ne_sNULL_ad102 : sNULL ≠ ad102 := neOf F_78.lt (Nat.le_of_eq ea102.symm)
        have ne_sINTEGER_ad102 : sINTEGER ≠ ad102 := neOf F_80.lt (Nat.le_of_eq ea102.symm)
        have ne_sREAL_ad102 : sREAL ≠ ad102 := neOf F_82.lt (Nat.le_of_eq ea102.symm)
        have ne_sTEXT_ad102 : sTEXT ≠ ad102 := neOf F_84.lt (Nat.le_of_eq ea102.symm)
        have ne_sBLOB_ad102 : sBLOB ≠ ad102 := neOf F_86.lt (Nat.le_of_eq ea102.symm)
        have ne_ca_ad102 : ca ≠ ad102 := neOf F_88.lt (Nat.le_of_eq ea102.symm)
        have ne_b_1_ad102 : b_1 ≠ ad102 := neOf F_90.lt (Nat.le_of_eq ea102.symm)
        have ne_b_15_ad102 : b_15 ≠ ad102 := neOf F_91.lt (Nat.le_of_eq ea102.symm)
        have ne_ad47_ad102 : ad47 ≠ ad102 := neOf F_92.lt (Nat.le_of_eq ea102.symm)
        have F_93 := F_77.ext E102
        have F_94 := F_78.ext E102
        have F_95 := F_79.ext E102
        have F_96 := F_80.ext E102
        have F_97 := F_81.ext E102
        have F_98 := F_82.ext E102
        have F_99 := F_83.ext E102
        have F_100 := F_84.ext E102
        have F_101 := F_85.ext E102
        have F_102 := F_86.ext E102
        have F_103 := F_87.ext E102
        have F_104 := F_88.ext E102
        have F_105 := F_89.ext E102
        have F_106 := F_90.ext E102
        have F_107 := F_91.ext E102
        have F_108 := F_92.ext E102
        have F_109 := V81.ext E102
        have F_110 : Fld Z hp102 ad102 "java/lang/String" "coder" "B" (.int (0 : Int32)) := D102 (Or.inr (own_wd hw 54 rfl)) (ty := .byte) (by decide)
        have F_111 : Fld Z hp102 ad102 "java/lang/String" "value" "[B" .null := D102 (Or.inr (own_wd hw 56 rfl)) (ty := (.array .byte)) (by decide)
        refine gDup X w at_105 rfl (n := 106) rfl ?_
        refine gAload X w at_106 rfl rfl (n := 108) rfl ?_
        refine gCallIn X w [(.ref ad47)] [(.ref ad102)] rfl (own_sinit_3 l Z a0 hw ad102 ad47 x56 x68 x80 ccs hp102 n0 (Sd.le X) A102 F_111 F_110 F_109 F_105 (by first | assumption | decide | (simp; done) | omega) (by first | assumption | decide | (simp; done) | omega) (by first | assumption | decide | (simp; done) | omega) (by first | assumption | decide | (simp; done) | omega) ne_ad47_ad102 na102) (own_wd hw 33 rfl) (own_wd hw 34 rfl) (own_wd hw 32 rfl) (own_wd hw 35 rfl) (by decide) own_pd10 rfl rfl at_108 rfl (W := 1) (Nat.le_of_eq rfl) (by decide) (by decide) (by decide) (by decide) (n := 111) rfl ?_
        rintro T h_112 ⟨K_112, b_112, g_b_112, na_b_112, Q0_112, Q1_112, Q2_112, Q3_112⟩ X
        have ne_sNULL_b_112 : sNULL ≠ b_112 := neOf F_94.lt g_b_112
        have ne_sINTEGER_b_112 : sINTEGER ≠ b_112 := neOf F_96.lt g_b_112
        have ne_sREAL_b_112 : sREAL ≠ b_112 := neOf F_98.lt g_b_112
        have ne_sTEXT_b_112 : sTEXT ≠ b_112 := neOf F_100.lt g_b_112
        have ne_sBLOB_b_112 : sBLOB ≠ b_112 := neOf F_102.lt g_b_112
        have ne_ca_b_112 : ca ≠ b_112 := neOf F_104.lt g_b_112
        have ne_b_1_b_112 : b_1 ≠ b_112 := neOf F_106.lt g_b_112
        have ne_b_15_b_112 : b_15 ≠ b_112 := neOf F_107.lt g_b_112
        have ne_ad47_b_112 : ad47 ≠ b_112 := neOf F_108.lt g_b_112
        have ne_ad102_b_112 : ad102 ≠ b_112 := neOf A102.lt g_b_112
        have F_113 := staKeep F_93 K_112 (allS (Exa.nostat A102) all0)
        have F_114 := F_94.keep K_112
        have F_115 := staKeep F_95 K_112 (allS (Exa.nostat A102) all0)
        have F_116 := F_96.keep K_112
        have F_117 := staKeep F_97 K_112 (allS (Exa.nostat A102) all0)
        have F_118 := F_98.keep K_112
        have F_119 := staKeep F_99 K_112 (allS (Exa.nostat A102) all0)
        have F_120 := F_100.keep K_112
        have F_121 := staKeep F_101 K_112 (allS (Exa.nostat A102) all0)
        have F_122 := F_102.keep K_112
        have F_123 := staKeep F_103 K_112 (allS (Exa.nostat A102) all0)
        have F_124 := F_104.keep K_112 (ninS ne_ca_ad102 nin0)
        have F_125 := staKeep F_105 K_112 (allS (Exa.nostat A102) all0)
        have F_126 := F_106.keep K_112
        have F_127 := F_107.keep K_112
        have F_128 := F_108.keep K_112
        have F_129 := F_109.keep K_112 (ninS ne_ad47_ad102 nin0)
        have F_130 := A102.keep K_112
        refine gAstore X w at_111 rfl #[.val (.long p1), .second, .val (.int p2), .val (.int p3), .val (.int p4), .val (.int (0 : Int32)), .val (.int (0 : Int32)), .val (.ref b_1), .val (.ref b_15), .val (.ref ad47), .val (.ref ad102), .unset, .unset, .unset, .unset, .unset, .unset, .unset] rfl (n := 113) rfl ?_
        refine gIload X w at_113 rfl (n := 115) rfl ?_
        refine gIf_eq X w at_115 (n := 124) (n' := 118) (by decide) rfl rfl ?_ ?_
        · rintro ⟨c115, c115'⟩
          refine gIconst X w at_124 (z := (3 : Int32)) rfl (n := 125) rfl ?_
          refine gNewP X w (own_wd hw 46 rfl) at_125 (by decide) (cap := 3) (by decide) (by decide) (by decide) (by decide) (vs := [(.int (0 : Int32)), (.int (0 : Int32)), (.int (0 : Int32))]) (ty := .byte) rfl rfl (ad := "[B") (by decide) (n := 127) rfl ?_
          intro T hp125 ad125 ea125 na125 X E125 V125 A125
          have ne_sNULL_ad125 : sNULL ≠ ad125 := neOf F_114.lt (Nat.le_of_eq ea125.symm)
          have ne_sINTEGER_ad125 : sINTEGER ≠ ad125 := neOf F_116.lt (Nat.le_of_eq ea125.symm)
          have ne_sREAL_ad125 : sREAL ≠ ad125 := neOf F_118.lt (Nat.le_of_eq ea125.symm)
          have ne_sTEXT_ad125 : sTEXT ≠ ad125 := neOf F_120.lt (Nat.le_of_eq ea125.symm)
          have ne_sBLOB_ad125 : sBLOB ≠ ad125 := neOf F_122.lt (Nat.le_of_eq ea125.symm)
          have ne_ca_ad125 : ca ≠ ad125 := neOf F_124.lt (Nat.le_of_eq ea125.symm)
          have ne_b_1_ad125 : b_1 ≠ ad125 := neOf F_126.lt (Nat.le_of_eq ea125.symm)
          have ne_b_15_ad125 : b_15 ≠ ad125 := neOf F_127.lt (Nat.le_of_eq ea125.symm)
          have ne_ad47_ad125 : ad47 ≠ ad125 := neOf F_128.lt (Nat.le_of_eq ea125.symm)
          have ne_ad102_ad125 : ad102 ≠ ad125 := neOf F_130.lt (Nat.le_of_eq ea125.symm)
          have ne_b_112_ad125 : b_112 ≠ ad125 := neOf Q2_112.lt (Nat.le_of_eq ea125.symm)
          have F_131 := F_113.ext E125
          have F_132 := F_114.ext E125
          have F_133 := F_115.ext E125
          have F_134 := F_116.ext E125
          have F_135 := F_117.ext E125
          have F_136 := F_118.ext E125
          have F_137 := F_119.ext E125
          have F_138 := F_120.ext E125
          have F_139 := F_121.ext E125
          have F_140 := F_122.ext E125
          have F_141 := F_123.ext E125
          have F_142 := F_124.ext E125
          have F_143 := F_125.ext E125
          have F_144 := F_126.ext E125
          have F_145 := F_127.ext E125
          have F_146 := F_128.ext E125
          have F_147 := F_129.ext E125
          have F_148 := F_130.ext E125
          have F_149 := Q0_112.ext E125
          have F_150 := Q1_112.ext E125
          have F_151 := Q2_112.ext E125
          have F_152 := Q3_112.ext E125
          refine gDup X w at_127 rfl (n := 128) rfl ?_
          refine gIconst X w at_128 (z := (0 : Int32)) rfl (n := 129) rfl ?_
          refine gIload X w at_129 rfl (n := 131) rfl ?_
          obtain ⟨x131, q131⟩ : ∃ zz_ : Int32, (Int32.toInt8 p4).toInt32 = zz_ := ⟨_, rfl⟩
          have gz_x131 := own_fitb q131
          refine gI2b X w at_131 q131 (n := 132) rfl ?_
          refine gBastore X w (z := (.int x131)) V125 (by decide) (show (0 : Int) < ((3 : Nat) : Int) from by decide) na125 (congrArg Value.int (own_narb q131)) (vs' := [(.int x131), (.int (0 : Int32)), (.int (0 : Int32))]) rfl at_132 (n := 133) rfl ?_
          intro T hp132 X W132 V132
          have F_153 := F_131.wr W132
          have F_154 := F_132.wr W132
          have F_155 := F_133.wr W132
          have F_156 := F_134.wr W132
          have F_157 := F_135.wr W132
          have F_158 := F_136.wr W132
          have F_159 := F_137.wr W132
          have F_160 := F_138.wr W132
          have F_161 := F_139.wr W132
          have F_162 := F_140.wr W132
          have F_163 := F_141.wr W132
          have F_164 := F_142.other W132 ne_ca_ad125
          have F_165 := F_143.wr W132
          have F_166 := F_144.wr W132
          have F_167 := F_145.wr W132
          have F_168 := F_146.wr W132
          have F_169 := F_147.other W132 ne_ad47_ad125
          have F_170 := F_148.wr W132
          have F_171 := F_149.other W132 (Or.inl ne_ad102_ad125)
          have F_172 := F_150.other W132 (Or.inl ne_ad102_ad125)
          have F_173 := F_151.other W132 ne_b_112_ad125
          have F_174 := F_152.wr W132
          have F_175 := A125.wr W132
          refine gDup X w at_133 rfl (n := 134) rfl ?_
          refine gIconst X w at_134 (z := (1 : Int32)) rfl (n := 135) rfl ?_
          refine gIload X w at_135 rfl (n := 137) rfl ?_
          refine gBipush X w at_137 (z := (8 : Int32)) (by decide) (n := 139) rfl ?_
          obtain ⟨x139, q139⟩ : ∃ zz_ : Int32, Jvm.Free.XT.ushr p4 (8 : Int32) = zz_ := ⟨_, rfl⟩
          refine gIushr X w at_139 q139 (n := 140) rfl ?_
          obtain ⟨x140, q140⟩ : ∃ zz_ : Int32, (Int32.toInt8 x139).toInt32 = zz_ := ⟨_, rfl⟩
          have gz_x140 := own_fitb q140
          refine gI2b X w at_140 q140 (n := 141) rfl ?_
          refine gBastore X w (z := (.int x140)) V132 (by decide) (show (1 : Int) < ((3 : Nat) : Int) from by decide) na125 (congrArg Value.int (own_narb q140)) (vs' := [(.int x131), (.int x140), (.int (0 : Int32))]) rfl at_141 (n := 142) rfl ?_
          intro T hp141 X W141 V141
          have F_176 := F_153.wr W141
          have F_177 := F_154.wr W141
          have F_178 := F_155.wr W141
          have F_179 := F_156.wr W141
          have F_180 := F_157.wr W141
          have F_181 := F_158.wr W141
          have F_182 := F_159.wr W141
          have F_183 := F_160.wr W141
          have F_184 := F_161.wr W141
          have F_185 := F_162.wr W141
          have F_186 := F_163.wr W141
          have F_187 := F_164.other W141 ne_ca_ad125
          have F_188 := F_165.wr W141
          have F_189 := F_166.wr W141
          have F_190 := F_167.wr W141
          have F_191 := F_168.wr W141
          have F_192 := F_169.other W141 ne_ad47_ad125
          have F_193 := F_170.wr W141
          have F_194 := F_171.other W141 (Or.inl ne_ad102_ad125)
          have F_195 := F_172.other W141 (Or.inl ne_ad102_ad125)
          have F_196 := F_173.other W141 ne_b_112_ad125
          have F_197 := F_174.wr W141
          have F_198 := F_175.wr W141
          refine gDup X w at_142 rfl (n := 143) rfl ?_
          refine gIconst X w at_143 (z := (2 : Int32)) rfl (n := 144) rfl ?_
          refine gIload X w at_144 rfl (n := 146) rfl ?_
          refine gBipush X w at_146 (z := (16 : Int32)) (by decide) (n := 148) rfl ?_
          obtain ⟨x148, q148⟩ : ∃ zz_ : Int32, Jvm.Free.XT.ushr p4 (16 : Int32) = zz_ := ⟨_, rfl⟩
          refine gIushr X w at_148 q148 (n := 149) rfl ?_
          obtain ⟨x149, q149⟩ : ∃ zz_ : Int32, (Int32.toInt8 x148).toInt32 = zz_ := ⟨_, rfl⟩
          have gz_x149 := own_fitb q149
          refine gI2b X w at_149 q149 (n := 150) rfl ?_
          refine gBastore X w (z := (.int x149)) V141 (by decide) (show (2 : Int) < ((3 : Nat) : Int) from by decide) na125 (congrArg Value.int (own_narb q149)) (vs' := [(.int x131), (.int x140), (.int x149)]) rfl at_150 (n := 151) rfl ?_
          intro T hp150 X W150 V150
          have F_199 := F_176.wr W150
          have F_200 := F_177.wr W150
          have F_201 := F_178.wr W150
          have F_202 := F_179.wr W150
          have F_203 := F_180.wr W150
          have F_204 := F_181.wr W150
          have F_205 := F_182.wr W150
          have F_206 := F_183.wr W150
          have F_207 := F_184.wr W150
          have F_208 := F_185.wr W150
          have F_209 := F_186.wr W150
          have F_210 := F_187.other W150 ne_ca_ad125
          have F_211 := F_188.wr W150
          have F_212 := F_189.wr W150
          have F_213 := F_190.wr W150
          have F_214 := F_191.wr W150
          have F_215 := F_192.other W150 ne_ad47_ad125
          have F_216 := F_193.wr W150
          have F_217 := F_194.other W150 (Or.inl ne_ad102_ad125)
          have F_218 := F_195.other W150 (Or.inl ne_ad102_ad125)
          have F_219 := F_196.other W150 ne_b_112_ad125
          have F_220 := F_197.wr W150
          have F_221 := F_198.wr W150
          refine gAstore X w at_151 rfl #[.val (.long p1), .second, .val (.int p2), .val (.int p3), .val (.int p4), .val (.int (0 : Int32)), .val (.int (0 : Int32)), .val (.ref b_1), .val (.ref b_15), .val (.ref ad47), .val (.ref ad102), .val (.ref ad125), .unset, .unset, .unset, .unset, .unset, .unset] rfl (n := 153) rfl ?_
          refine gAload X w at_153 rfl rfl (n := 155) rfl ?_
          refine gCallSv X w [(.ref ad125)] [] (own_of_3 l Z a0 hw ad125 x131 x140 x149 hp150 n0 (Sd.le X) V150 F_221 (by first | assumption | decide | (simp; done) | omega) (by first | assumption | decide | (simp; done) | omega) (by first | assumption | decide | (simp; done) | omega)) (own_wd hw 57 rfl) (own_wd hw 58 rfl) (own_wd hw 59 rfl) (own_wd hw 60 rfl) (by decide) own_pd11 rfl rfl at_155 rfl (W := 0) (Nat.le_of_eq rfl) (by decide) (by decide) (by decide) (by decide) (n := 158) rfl ?_
          rintro T h_222 _ ⟨K_222, b_222, rfl, g_b_222, na_b_222, Q0_222⟩ X
          have ne_sNULL_b_222 : sNULL ≠ b_222 := neOf F_200.lt g_b_222
          have ne_sINTEGER_b_222 : sINTEGER ≠ b_222 := neOf F_202.lt g_b_222
          have ne_sREAL_b_222 : sREAL ≠ b_222 := neOf F_204.lt g_b_222
          have ne_sTEXT_b_222 : sTEXT ≠ b_222 := neOf F_206.lt g_b_222
          have ne_sBLOB_b_222 : sBLOB ≠ b_222 := neOf F_208.lt g_b_222
          have ne_ca_b_222 : ca ≠ b_222 := neOf F_210.lt g_b_222
          have ne_b_1_b_222 : b_1 ≠ b_222 := neOf F_212.lt g_b_222
          have ne_b_15_b_222 : b_15 ≠ b_222 := neOf F_213.lt g_b_222
          have ne_ad47_b_222 : ad47 ≠ b_222 := neOf F_214.lt g_b_222
          have ne_ad102_b_222 : ad102 ≠ b_222 := neOf F_216.lt g_b_222
          have ne_b_112_b_222 : b_112 ≠ b_222 := neOf F_219.lt g_b_222
          have ne_ad125_b_222 : ad125 ≠ b_222 := neOf F_221.lt g_b_222
          have F_223 := staKeep F_199 K_222 all0
          have F_224 := F_200.keep K_222
          have F_225 := staKeep F_201 K_222 all0
          have F_226 := F_202.keep K_222
          have F_227 := staKeep F_203 K_222 all0
          have F_228 := F_204.keep K_222
          have F_229 := staKeep F_205 K_222 all0
          have F_230 := F_206.keep K_222
          have F_231 := staKeep F_207 K_222 all0
          have F_232 := F_208.keep K_222
          have F_233 := staKeep F_209 K_222 all0
          have F_234 := F_210.keep K_222 nin0
          have F_235 := staKeep F_211 K_222 all0
          have F_236 := F_212.keep K_222
          have F_237 := F_213.keep K_222
          have F_238 := F_214.keep K_222
          have F_239 := F_215.keep K_222 nin0
          have F_240 := F_216.keep K_222
          have F_241 := F_217.keep K_222 nin0
          have F_242 := F_218.keep K_222 nin0
          have F_243 := F_219.keep K_222 nin0
          have F_244 := F_220.keep K_222
          have F_245 := F_221.keep K_222
          have F_246 := V150.keep K_222 nin0
          refine gAstore X w at_158 rfl #[.val (.long p1), .second, .val (.int p2), .val (.int p3), .val (.int p4), .val (.int (0 : Int32)), .val (.int (0 : Int32)), .val (.ref b_1), .val (.ref b_15), .val (.ref ad47), .val (.ref ad102), .val (.ref ad125), .val (.ref b_222), .unset, .unset, .unset, .unset, .unset] rfl (n := 160) rfl ?_
          refine gNull X w at_160 (n := 161) rfl ?_
          refine gCallSv X w [.null] [] (own_kind_null l Z a0 hw sNULL h_222 n0 (Sd.le X) F_223) (own_wd hw 78 rfl) (own_wd hw 79 rfl) (own_wd hw 80 rfl) (own_wd hw 81 rfl) (by decide) own_pd12 rfl rfl at_161 rfl (W := 0) (Nat.le_of_eq rfl) (by decide) (by decide) (by decide) (by decide) (n := 164) rfl ?_
          rintro T _ _ ⟨rfl, rfl⟩ X
          refine gGetS X w (own_wd hw 84 rfl) Via.refl F_223 at_164 (n := 167) rfl ?_
          intro T X
          refine gAcmp_ne X w at_167 rfl rfl (n := 174) (n' := 170) (by decide) rfl rfl ?_ ?_
          · intro c167
            exact absurd rfl c167
          · intro c167
            refine gIconst X w at_170 (z := (1 : Int32)) rfl (n := 171) rfl ?_
            refine gGoto X w at_171 (by decide) (n := 175) rfl ?_
            refine gIstore X w at_175 #[.val (.long p1), .second, .val (.int p2), .val (.int p3), .val (.int p4), .val (.int (0 : Int32)), .val (.int (0 : Int32)), .val (.ref b_1), .val (.ref b_15), .val (.ref ad47), .val (.ref ad102), .val (.ref ad125), .val (.ref b_222), .val (.int (1 : Int32)), .unset, .unset, .unset, .unset] rfl (n := 177) rfl ?_
            refine gAload X w at_177 rfl rfl (n := 179) rfl ?_
            refine gCallSv X w [(.ref b_1)] [] (own_kind_INTEGER l Z a0 hw b_1 sINTEGER h_222 n0 (Sd.le X) F_236 F_225) (own_wd hw 78 rfl) (own_wd hw 79 rfl) (own_wd hw 80 rfl) (own_wd hw 81 rfl) (by decide) own_pd12 rfl rfl at_179 rfl (W := 0) (Nat.le_of_eq rfl) (by decide) (by decide) (by decide) (by decide) (n := 182) rfl ?_
            rintro T _ _ ⟨rfl, rfl⟩ X
            refine gGetS X w (own_wd hw 89 rfl) Via.refl F_225 at_182 (n := 185) rfl ?_
            intro T X
            refine gAcmp_ne X w at_185 rfl rfl (n := 192) (n' := 188) (by decide) rfl rfl ?_ ?_
            · intro c185
              exact absurd rfl c185
            · intro c185
              refine gIconst X w at_188 (z := (1 : Int32)) rfl (n := 189) rfl ?_
              refine gGoto X w at_189 (by decide) (n := 193) rfl ?_
              refine gIstore X w at_193 #[.val (.long p1), .second, .val (.int p2), .val (.int p3), .val (.int p4), .val (.int (0 : Int32)), .val (.int (0 : Int32)), .val (.ref b_1), .val (.ref b_15), .val (.ref ad47), .val (.ref ad102), .val (.ref ad125), .val (.ref b_222), .val (.int (1 : Int32)), .val (.int (1 : Int32)), .unset, .unset, .unset] rfl (n := 195) rfl ?_
              refine gAload X w at_195 rfl rfl (n := 197) rfl ?_
              refine gCallSv X w [(.ref b_15)] [] (own_kind_REAL l Z a0 hw b_15 sREAL h_222 n0 (Sd.le X) F_237 F_227) (own_wd hw 78 rfl) (own_wd hw 79 rfl) (own_wd hw 80 rfl) (own_wd hw 81 rfl) (by decide) own_pd12 rfl rfl at_197 rfl (W := 0) (Nat.le_of_eq rfl) (by decide) (by decide) (by decide) (by decide) (n := 200) rfl ?_
              rintro T _ _ ⟨rfl, rfl⟩ X
              refine gGetS X w (own_wd hw 96 rfl) Via.refl F_227 at_200 (n := 203) rfl ?_
              intro T X
              refine gAcmp_ne X w at_203 rfl rfl (n := 210) (n' := 206) (by decide) rfl rfl ?_ ?_
              · intro c203
                exact absurd rfl c203
              · intro c203
                refine gIconst X w at_206 (z := (1 : Int32)) rfl (n := 207) rfl ?_
                refine gGoto X w at_207 (by decide) (n := 211) rfl ?_
                refine gIstore X w at_211 #[.val (.long p1), .second, .val (.int p2), .val (.int p3), .val (.int p4), .val (.int (0 : Int32)), .val (.int (0 : Int32)), .val (.ref b_1), .val (.ref b_15), .val (.ref ad47), .val (.ref ad102), .val (.ref ad125), .val (.ref b_222), .val (.int (1 : Int32)), .val (.int (1 : Int32)), .val (.int (1 : Int32)), .unset, .unset] rfl (n := 213) rfl ?_
                refine gAload X w at_213 rfl rfl (n := 215) rfl ?_
                refine gCallSv X w [(.ref ad102)] [] (own_kind_TEXT l Z a0 hw ad102 sTEXT h_222 n0 (Sd.le X) F_240 F_229) (own_wd hw 78 rfl) (own_wd hw 79 rfl) (own_wd hw 80 rfl) (own_wd hw 81 rfl) (by decide) own_pd12 rfl rfl at_215 rfl (W := 0) (Nat.le_of_eq rfl) (by decide) (by decide) (by decide) (by decide) (n := 218) rfl ?_
                rintro T _ _ ⟨rfl, rfl⟩ X
                refine gGetS X w (own_wd hw 101 rfl) Via.refl F_229 at_218 (n := 221) rfl ?_
                intro T X
                refine gAcmp_ne X w at_221 rfl rfl (n := 228) (n' := 224) (by decide) rfl rfl ?_ ?_
                · intro c221
                  exact absurd rfl c221
                · intro c221
                  refine gIconst X w at_224 (z := (1 : Int32)) rfl (n := 225) rfl ?_
                  refine gGoto X w at_225 (by decide) (n := 229) rfl ?_
                  refine gIstore X w at_229 #[.val (.long p1), .second, .val (.int p2), .val (.int p3), .val (.int p4), .val (.int (0 : Int32)), .val (.int (0 : Int32)), .val (.ref b_1), .val (.ref b_15), .val (.ref ad47), .val (.ref ad102), .val (.ref ad125), .val (.ref b_222), .val (.int (1 : Int32)), .val (.int (1 : Int32)), .val (.int (1 : Int32)), .val (.int (1 : Int32)), .unset] rfl (n := 231) rfl ?_
                  refine gAload X w at_231 rfl rfl (n := 233) rfl ?_
                  refine gCallSv X w [(.ref b_222)] [] (own_kind_BLOB l Z a0 hw b_222 sBLOB h_222 n0 (Sd.le X) Q0_222 F_231) (own_wd hw 78 rfl) (own_wd hw 79 rfl) (own_wd hw 80 rfl) (own_wd hw 81 rfl) (by decide) own_pd12 rfl rfl at_233 rfl (W := 0) (Nat.le_of_eq rfl) (by decide) (by decide) (by decide) (by decide) (n := 236) rfl ?_
                  rintro T _ _ ⟨rfl, rfl⟩ X
                  refine gGetS X w (own_wd hw 107 rfl) Via.refl F_231 at_236 (n := 239) rfl ?_
                  intro T X
                  refine gAcmp_ne X w at_239 rfl rfl (n := 246) (n' := 242) (by decide) rfl rfl ?_ ?_
                  · intro c239
                    exact absurd rfl c239
                  · intro c239
                    refine gIconst X w at_242 (z := (1 : Int32)) rfl (n := 243) rfl ?_
                    refine gGoto X w at_243 (by decide) (n := 247) rfl ?_
                    refine gIstore X w at_247 #[.val (.long p1), .second, .val (.int p2), .val (.int p3), .val (.int p4), .val (.int (0 : Int32)), .val (.int (0 : Int32)), .val (.ref b_1), .val (.ref b_15), .val (.ref ad47), .val (.ref ad102), .val (.ref ad125), .val (.ref b_222), .val (.int (1 : Int32)), .val (.int (1 : Int32)), .val (.int (1 : Int32)), .val (.int (1 : Int32)), .val (.int (1 : Int32))] rfl (n := 249) rfl ?_
                    refine gIload X w at_249 rfl (n := 251) rfl ?_
                    refine gIf_eq X w at_251 (n := 278) (n' := 254) (by decide) rfl rfl ?_ ?_
                    · rintro ⟨c251, c251'⟩
                      exact absurd c251 (by decide)
                    · rintro ⟨c251, c251'⟩
                      refine gIload X w at_254 rfl (n := 256) rfl ?_
                      refine gIf_eq X w at_256 (n := 278) (n' := 259) (by decide) rfl rfl ?_ ?_
                      · rintro ⟨c256, c256'⟩
                        exact absurd c256 (by decide)
                      · rintro ⟨c256, c256'⟩
                        refine gIload X w at_259 rfl (n := 261) rfl ?_
                        refine gIf_eq X w at_261 (n := 278) (n' := 264) (by decide) rfl rfl ?_ ?_
                        · rintro ⟨c261, c261'⟩
                          exact absurd c261 (by decide)
                        · rintro ⟨c261, c261'⟩
                          refine gIload X w at_264 rfl (n := 266) rfl ?_
                          refine gIf_eq X w at_266 (n := 278) (n' := 269) (by decide) rfl rfl ?_ ?_
                          · rintro ⟨c266, c266'⟩
                            exact absurd c266 (by decide)
                          · rintro ⟨c266, c266'⟩
                            refine gIload X w at_269 rfl (n := 271) rfl ?_
                            refine gIf_eq X w at_271 (n := 278) (n' := 274) (by decide) rfl rfl ?_ ?_
                            · rintro ⟨c271, c271'⟩
                              exact absurd c271 (by decide)
                            · rintro ⟨c271, c271'⟩
                              refine gIconst X w at_274 (z := (1 : Int32)) rfl (n := 275) rfl ?_
                              refine gGoto X w at_275 (by decide) (n := 279) rfl ?_
                              exact gRetZ X w rfl (Or.inr rfl) at_279 (by decide) (by decide) (rfl)
        · rintro ⟨c115, c115'⟩
          exact absurd c115 (by decide)
      · rintro ⟨c86, c86'⟩
        exact absurd c86 (by decide)
    · rintro ⟨c23, c23'⟩
      refine gIconst X w at_26 (z := (1 : Int32)) rfl (n := 27) rfl ?_
      refine gGoto X w at_27 (by decide) (n := 31) rfl ?_
      refine gIstore X w at_31 #[.val (.long p1), .second, .val (.int p2), .val (.int p3), .val (.int p4), .val (.int (0 : Int32)), .val (.int (1 : Int32)), .unset, .unset, .unset, .unset, .unset, .unset, .unset, .unset, .unset, .unset, .unset] rfl (n := 33) rfl ?_
      refine gJloadN X w at_33 rfl (n := 34) rfl ?_
      refine gCallSv X w [(.long p1)] [] (own_lval l Z a0 hw p1 ca cs h0 n0 (Sd.le X) Sca Vca hbx) (own_wd hw 0 rfl) (own_wd hw 1 rfl) (own_wd hw 2 rfl) (own_wd hw 3 rfl) (by decide) own_pd8 rfl rfl at_34 rfl (W := 0) (Nat.le_of_eq rfl) (by decide) (by decide) (by decide) (by decide) (n := 37) rfl ?_
      rintro T h_252 _ ⟨K_252, b_252, rfl, Q0_252⟩ X
      have F_253 := staKeep S_sNULL K_252 all0
      have F_254 := E_sNULL.keep K_252
      have F_255 := staKeep S_sINTEGER K_252 all0
      have F_256 := E_sINTEGER.keep K_252
      have F_257 := staKeep S_sREAL K_252 all0
      have F_258 := E_sREAL.keep K_252
      have F_259 := staKeep S_sTEXT K_252 all0
      have F_260 := E_sTEXT.keep K_252
      have F_261 := staKeep S_sBLOB K_252 all0
      have F_262 := E_sBLOB.keep K_252
      have F_263 := staKeep Sca K_252 all0
      have F_264 := Vca.keep K_252 nin0
      have F_265 := staKeep Scs K_252 all0
      refine gAstore X w at_37 rfl #[.val (.long p1), .second, .val (.int p2), .val (.int p3), .val (.int p4), .val (.int (0 : Int32)), .val (.int (1 : Int32)), .val (.ref b_252), .unset, .unset, .unset, .unset, .unset, .unset, .unset, .unset, .unset, .unset] rfl (n := 39) rfl ?_
      refine gIloadN X w at_39 rfl (n := 40) rfl ?_
      obtain ⟨u40, q40⟩ : ∃ zz_ : UInt64, FP.i2d p2 = zz_ := ⟨_, rfl⟩
      refine gI2d X w at_40 q40 (n := 41) rfl ?_
      refine gCallSv X w [(.double u40)] [] (own_dval l Z a0 hw u40 h_252 n0 (Sd.le X) ) (own_wd hw 8 rfl) (own_wd hw 9 rfl) (own_wd hw 10 rfl) (own_wd hw 11 rfl) (by decide) own_pd9 rfl rfl at_41 rfl (W := 0) (Nat.le_of_eq rfl) (by decide) (by decide) (by decide) (by decide) (n := 44) rfl ?_
      rintro T h_266 _ ⟨K_266, b_266, rfl, g_b_266, na_b_266, Q0_266⟩ X
      have ne_sNULL_b_266 : sNULL ≠ b_266 := neOf F_254.lt g_b_266
      have ne_sINTEGER_b_266 : sINTEGER ≠ b_266 := neOf F_256.lt g_b_266
      have ne_sREAL_b_266 : sREAL ≠ b_266 := neOf F_258.lt g_b_266
      have ne_sTEXT_b_266 : sTEXT ≠ b_266 := neOf F_260.lt g_b_266
      have ne_sBLOB_b_266 : sBLOB ≠ b_266 := neOf F_262.lt g_b_266
      have ne_ca_b_266 : ca ≠ b_266 := neOf F_264.lt g_b_266
      have ne_b_252_b_266 : b_252 ≠ b_266 := neOf Q0_252.lt g_b_266
      have F_267 := staKeep F_253 K_266 all0
      have F_268 := F_254.keep K_266
      have F_269 := staKeep F_255 K_266 all0
      have F_270 := F_256.keep K_266
      have F_271 := staKeep F_257 K_266 all0
      have F_272 := F_258.keep K_266
      have F_273 := staKeep F_259 K_266 all0
      have F_274 := F_260.keep K_266
      have F_275 := staKeep F_261 K_266 all0
      have F_276 := F_262.keep K_266
      have F_277 := staKeep F_263 K_266 all0
      have F_278 := F_264.keep K_266 nin0
      have F_279 := staKeep F_265 K_266 all0
      have F_280 := Q0_252.keep K_266
      refine gAstore X w at_44 rfl #[.val (.long p1), .second, .val (.int p2), .val (.int p3), .val (.int p4), .val (.int (0 : Int32)), .val (.int (1 : Int32)), .val (.ref b_252), .val (.ref b_266), .unset, .unset, .unset, .unset, .unset, .unset, .unset, .unset, .unset] rfl (n := 46) rfl ?_
      refine gIconst X w at_46 (z := (3 : Int32)) rfl (n := 47) rfl ?_
      refine gNewP X w (own_wd hw 29 rfl) at_47 (by decide) (cap := 3) (by decide) (by decide) (by decide) (by decide) (vs := [(.int (0 : Int32)), (.int (0 : Int32)), (.int (0 : Int32))]) (ty := .char) rfl rfl (ad := "[C") (by decide) (n := 49) rfl ?_
      intro T hp47 ad47 ea47 na47 X E47 V47 A47
      have ne_sNULL_ad47 : sNULL ≠ ad47 := neOf F_268.lt (Nat.le_of_eq ea47.symm)
      have ne_sINTEGER_ad47 : sINTEGER ≠ ad47 := neOf F_270.lt (Nat.le_of_eq ea47.symm)
      have ne_sREAL_ad47 : sREAL ≠ ad47 := neOf F_272.lt (Nat.le_of_eq ea47.symm)
      have ne_sTEXT_ad47 : sTEXT ≠ ad47 := neOf F_274.lt (Nat.le_of_eq ea47.symm)
      have ne_sBLOB_ad47 : sBLOB ≠ ad47 := neOf F_276.lt (Nat.le_of_eq ea47.symm)
      have ne_ca_ad47 : ca ≠ ad47 := neOf F_278.lt (Nat.le_of_eq ea47.symm)
      have ne_b_252_ad47 : b_252 ≠ ad47 := neOf F_280.lt (Nat.le_of_eq ea47.symm)
      have ne_b_266_ad47 : b_266 ≠ ad47 := neOf Q0_266.lt (Nat.le_of_eq ea47.symm)
      have F_281 := F_267.ext E47
      have F_282 := F_268.ext E47
      have F_283 := F_269.ext E47
      have F_284 := F_270.ext E47
      have F_285 := F_271.ext E47
      have F_286 := F_272.ext E47
      have F_287 := F_273.ext E47
      have F_288 := F_274.ext E47
      have F_289 := F_275.ext E47
      have F_290 := F_276.ext E47
      have F_291 := F_277.ext E47
      have F_292 := F_278.ext E47
      have F_293 := F_279.ext E47
      have F_294 := F_280.ext E47
      have F_295 := Q0_266.ext E47
      refine gDup X w at_49 rfl (n := 50) rfl ?_
      refine gIconst X w at_50 (z := (0 : Int32)) rfl (n := 51) rfl ?_
      refine gIloadN X w at_51 rfl (n := 52) rfl ?_
      refine gSipush X w at_52 (z := (255 : Int32)) (by decide) (n := 55) rfl ?_
      obtain ⟨x55, q55⟩ : ∃ zz_ : Int32, p3 &&& (255 : Int32) = zz_ := ⟨_, rfl⟩
      refine gIand X w at_55 q55 (n := 56) rfl ?_
      obtain ⟨x56, q56⟩ : ∃ zz_ : Int32, (Int32.toUInt32 x55).toUInt16.toUInt32.toInt32 = zz_ := ⟨_, rfl⟩
      have hz_x56 := own_c255 q55 q56
      refine gI2c X w at_56 q56 (n := 57) rfl ?_
      refine gCastore X w (z := (.int x56)) V47 (by decide) (show (0 : Int) < ((3 : Nat) : Int) from by decide) na47 (congrArg Value.int (own_narc hz_x56)) (vs' := [(.int x56), (.int (0 : Int32)), (.int (0 : Int32))]) rfl at_57 (n := 58) rfl ?_
      intro T hp57 X W57 V57
      have F_296 := F_281.wr W57
      have F_297 := F_282.wr W57
      have F_298 := F_283.wr W57
      have F_299 := F_284.wr W57
      have F_300 := F_285.wr W57
      have F_301 := F_286.wr W57
      have F_302 := F_287.wr W57
      have F_303 := F_288.wr W57
      have F_304 := F_289.wr W57
      have F_305 := F_290.wr W57
      have F_306 := F_291.wr W57
      have F_307 := F_292.other W57 ne_ca_ad47
      have F_308 := F_293.wr W57
      have F_309 := F_294.wr W57
      have F_310 := F_295.wr W57
      have F_311 := A47.wr W57
      refine gDup X w at_58 rfl (n := 59) rfl ?_
      refine gIconst X w at_59 (z := (1 : Int32)) rfl (n := 60) rfl ?_
      refine gIloadN X w at_60 rfl (n := 61) rfl ?_
      refine gBipush X w at_61 (z := (8 : Int32)) (by decide) (n := 63) rfl ?_
      obtain ⟨x63, q63⟩ : ∃ zz_ : Int32, Jvm.Free.XT.ushr p3 (8 : Int32) = zz_ := ⟨_, rfl⟩
      refine gIushr X w at_63 q63 (n := 64) rfl ?_
      refine gSipush X w at_64 (z := (255 : Int32)) (by decide) (n := 67) rfl ?_
      obtain ⟨x67, q67⟩ : ∃ zz_ : Int32, x63 &&& (255 : Int32) = zz_ := ⟨_, rfl⟩
      refine gIand X w at_67 q67 (n := 68) rfl ?_
      obtain ⟨x68, q68⟩ : ∃ zz_ : Int32, (Int32.toUInt32 x67).toUInt16.toUInt32.toInt32 = zz_ := ⟨_, rfl⟩
      have hz_x68 := own_c255 q67 q68
      refine gI2c X w at_68 q68 (n := 69) rfl ?_
      refine gCastore X w (z := (.int x68)) V57 (by decide) (show (1 : Int) < ((3 : Nat) : Int) from by decide) na47 (congrArg Value.int (own_narc hz_x68)) (vs' := [(.int x56), (.int x68), (.int (0 : Int32))]) rfl at_69 (n := 70) rfl ?_
      intro T hp69 X W69 V69
      have F_312 := F_296.wr W69
      have F_313 := F_297.wr W69
      have F_314 := F_298.wr W69
      have F_315 := F_299.wr W69
      have F_316 := F_300.wr W69
      have F_317 := F_301.wr W69
      have F_318 := F_302.wr W69
      have F_319 := F_303.wr W69
      have F_320 := F_304.wr W69
      have F_321 := F_305.wr W69
      have F_322 := F_306.wr W69
      have F_323 := F_307.other W69 ne_ca_ad47
      have F_324 := F_308.wr W69
      have F_325 := F_309.wr W69
      have F_326 := F_310.wr W69
      have F_327 := F_311.wr W69
      refine gDup X w at_70 rfl (n := 71) rfl ?_
      refine gIconst X w at_71 (z := (2 : Int32)) rfl (n := 72) rfl ?_
      refine gIloadN X w at_72 rfl (n := 73) rfl ?_
      refine gBipush X w at_73 (z := (16 : Int32)) (by decide) (n := 75) rfl ?_
      obtain ⟨x75, q75⟩ : ∃ zz_ : Int32, Jvm.Free.XT.ushr p3 (16 : Int32) = zz_ := ⟨_, rfl⟩
      refine gIushr X w at_75 q75 (n := 76) rfl ?_
      refine gSipush X w at_76 (z := (255 : Int32)) (by decide) (n := 79) rfl ?_
      obtain ⟨x79, q79⟩ : ∃ zz_ : Int32, x75 &&& (255 : Int32) = zz_ := ⟨_, rfl⟩
      refine gIand X w at_79 q79 (n := 80) rfl ?_
      obtain ⟨x80, q80⟩ : ∃ zz_ : Int32, (Int32.toUInt32 x79).toUInt16.toUInt32.toInt32 = zz_ := ⟨_, rfl⟩
      have hz_x80 := own_c255 q79 q80
      refine gI2c X w at_80 q80 (n := 81) rfl ?_
      refine gCastore X w (z := (.int x80)) V69 (by decide) (show (2 : Int) < ((3 : Nat) : Int) from by decide) na47 (congrArg Value.int (own_narc hz_x80)) (vs' := [(.int x56), (.int x68), (.int x80)]) rfl at_81 (n := 82) rfl ?_
      intro T hp81 X W81 V81
      have F_328 := F_312.wr W81
      have F_329 := F_313.wr W81
      have F_330 := F_314.wr W81
      have F_331 := F_315.wr W81
      have F_332 := F_316.wr W81
      have F_333 := F_317.wr W81
      have F_334 := F_318.wr W81
      have F_335 := F_319.wr W81
      have F_336 := F_320.wr W81
      have F_337 := F_321.wr W81
      have F_338 := F_322.wr W81
      have F_339 := F_323.other W81 ne_ca_ad47
      have F_340 := F_324.wr W81
      have F_341 := F_325.wr W81
      have F_342 := F_326.wr W81
      have F_343 := F_327.wr W81
      refine gAstore X w at_82 rfl #[.val (.long p1), .second, .val (.int p2), .val (.int p3), .val (.int p4), .val (.int (0 : Int32)), .val (.int (1 : Int32)), .val (.ref b_252), .val (.ref b_266), .val (.ref ad47), .unset, .unset, .unset, .unset, .unset, .unset, .unset, .unset] rfl (n := 84) rfl ?_
      refine gIload X w at_84 rfl (n := 86) rfl ?_
      refine gIf_eq X w at_86 (n := 102) (n' := 89) (by decide) rfl rfl ?_ ?_
      · rintro ⟨c86, c86'⟩
        refine gNew X w (own_wd hw 30 rfl) (own_wd hw 31 rfl) (own_wd hw 32 rfl) at_102 (by decide) (by decide) (n := 105) rfl ?_
        intro T hp102 ad102 ea102 na102 X E102 A102 D102
        have ne_sNULL_ad102 : sNULL ≠ ad102 := neOf F_329.lt (Nat.le_of_eq ea102.symm)
        have ne_sINTEGER_ad102 : sINTEGER ≠ ad102 := neOf F_331.lt (Nat.le_of_eq ea102.symm)
        have ne_sREAL_ad102 : sREAL ≠ ad102 := neOf F_333.lt (Nat.le_of_eq ea102.symm)
        have ne_sTEXT_ad102 : sTEXT ≠ ad102 := neOf F_335.lt (Nat.le_of_eq ea102.symm)
        have ne_sBLOB_ad102 : sBLOB ≠ ad102 := neOf F_337.lt (Nat.le_of_eq ea102.symm)
        have ne_ca_ad102 : ca ≠ ad102 := neOf F_339.lt (Nat.le_of_eq ea102.symm)
        have ne_b_252_ad102 : b_252 ≠ ad102 := neOf F_341.lt (Nat.le_of_eq ea102.symm)
        have ne_b_266_ad102 : b_266 ≠ ad102 := neOf F_342.lt (Nat.le_of_eq ea102.symm)
        have ne_ad47_ad102 : ad47 ≠ ad102 := neOf F_343.lt (Nat.le_of_eq ea102.symm)
        have F_344 := F_328.ext E102
        have F_345 := F_329.ext E102
        have F_346 := F_330.ext E102
        have F_347 := F_331.ext E102
        have F_348 := F_332.ext E102
        have F_349 := F_333.ext E102
        have F_350 := F_334.ext E102
        have F_351 := F_335.ext E102
        have F_352 := F_336.ext E102
        have F_353 := F_337.ext E102
        have F_354 := F_338.ext E102
        have F_355 := F_339.ext E102
        have F_356 := F_340.ext E102
        have F_357 := F_341.ext E102
        have F_358 := F_342.ext E102
        have F_359 := F_343.ext E102
        have F_360 := V81.ext E102
        have F_361 : Fld Z hp102 ad102 "java/lang/String" "coder" "B" (.int (0 : Int32)) := D102 (Or.inr (own_wd hw 54 rfl)) (ty := .byte) (by decide)
        have F_362 : Fld Z hp102 ad102 "java/lang/String" "value" "[B" .null := D102 (Or.inr (own_wd hw 56 rfl)) (ty := (.array .byte)) (by decide)
        refine gDup X w at_105 rfl (n := 106) rfl ?_
        refine gAload X w at_106 rfl rfl (n := 108) rfl ?_
        refine gCallIn X w [(.ref ad47)] [(.ref ad102)] rfl (own_sinit_3 l Z a0 hw ad102 ad47 x56 x68 x80 ccs hp102 n0 (Sd.le X) A102 F_362 F_361 F_360 F_356 (by first | assumption | decide | (simp; done) | omega) (by first | assumption | decide | (simp; done) | omega) (by first | assumption | decide | (simp; done) | omega) (by first | assumption | decide | (simp; done) | omega) ne_ad47_ad102 na102) (own_wd hw 33 rfl) (own_wd hw 34 rfl) (own_wd hw 32 rfl) (own_wd hw 35 rfl) (by decide) own_pd10 rfl rfl at_108 rfl (W := 1) (Nat.le_of_eq rfl) (by decide) (by decide) (by decide) (by decide) (n := 111) rfl ?_
        rintro T h_363 ⟨K_363, b_363, g_b_363, na_b_363, Q0_363, Q1_363, Q2_363, Q3_363⟩ X
        have ne_sNULL_b_363 : sNULL ≠ b_363 := neOf F_345.lt g_b_363
        have ne_sINTEGER_b_363 : sINTEGER ≠ b_363 := neOf F_347.lt g_b_363
        have ne_sREAL_b_363 : sREAL ≠ b_363 := neOf F_349.lt g_b_363
        have ne_sTEXT_b_363 : sTEXT ≠ b_363 := neOf F_351.lt g_b_363
        have ne_sBLOB_b_363 : sBLOB ≠ b_363 := neOf F_353.lt g_b_363
        have ne_ca_b_363 : ca ≠ b_363 := neOf F_355.lt g_b_363
        have ne_b_252_b_363 : b_252 ≠ b_363 := neOf F_357.lt g_b_363
        have ne_b_266_b_363 : b_266 ≠ b_363 := neOf F_358.lt g_b_363
        have ne_ad47_b_363 : ad47 ≠ b_363 := neOf F_359.lt g_b_363
        have ne_ad102_b_363 : ad102 ≠ b_363 := neOf A102.lt g_b_363
        have F_364 := staKeep F_344 K_363 (allS (Exa.nostat A102) all0)
        have F_365 := F_345.keep K_363
        have F_366 := staKeep F_346 K_363 (allS (Exa.nostat A102) all0)
        have F_367 := F_347.keep K_363
        have F_368 := staKeep F_348 K_363 (allS (Exa.nostat A102) all0)
        have F_369 := F_349.keep K_363
        have F_370 := staKeep F_350 K_363 (allS (Exa.nostat A102) all0)
        have F_371 := F_351.keep K_363
        have F_372 := staKeep F_352 K_363 (allS (Exa.nostat A102) all0)
        have F_373 := F_353.keep K_363
        have F_374 := staKeep F_354 K_363 (allS (Exa.nostat A102) all0)
        have F_375 := F_355.keep K_363 (ninS ne_ca_ad102 nin0)
        have F_376 := staKeep F_356 K_363 (allS (Exa.nostat A102) all0)
        have F_377 := F_357.keep K_363
        have F_378 := F_358.keep K_363
        have F_379 := F_359.keep K_363
        have F_380 := F_360.keep K_363 (ninS ne_ad47_ad102 nin0)
        have F_381 := A102.keep K_363
        refine gAstore X w at_111 rfl #[.val (.long p1), .second, .val (.int p2), .val (.int p3), .val (.int p4), .val (.int (0 : Int32)), .val (.int (1 : Int32)), .val (.ref b_252), .val (.ref b_266), .val (.ref ad47), .val (.ref ad102), .unset, .unset, .unset, .unset, .unset, .unset, .unset] rfl (n := 113) rfl ?_
        refine gIload X w at_113 rfl (n := 115) rfl ?_
        refine gIf_eq X w at_115 (n := 124) (n' := 118) (by decide) rfl rfl ?_ ?_
        · rintro ⟨c115, c115'⟩
          exact absurd c115 (by decide)
        · rintro ⟨c115, c115'⟩
          refine gIconst X w at_118 (z := (0 : Int32)) rfl (n := 119) rfl ?_
          refine gNewP X w (own_wd hw 46 rfl) at_119 (by decide) (cap := 0) (by decide) (by decide) (by decide) (by decide) (vs := []) (ty := .byte) rfl rfl (ad := "[B") (by decide) (n := 121) rfl ?_
          intro T hp119 ad119 ea119 na119 X E119 V119 A119
          have ne_sNULL_ad119 : sNULL ≠ ad119 := neOf F_365.lt (Nat.le_of_eq ea119.symm)
          have ne_sINTEGER_ad119 : sINTEGER ≠ ad119 := neOf F_367.lt (Nat.le_of_eq ea119.symm)
          have ne_sREAL_ad119 : sREAL ≠ ad119 := neOf F_369.lt (Nat.le_of_eq ea119.symm)
          have ne_sTEXT_ad119 : sTEXT ≠ ad119 := neOf F_371.lt (Nat.le_of_eq ea119.symm)
          have ne_sBLOB_ad119 : sBLOB ≠ ad119 := neOf F_373.lt (Nat.le_of_eq ea119.symm)
          have ne_ca_ad119 : ca ≠ ad119 := neOf F_375.lt (Nat.le_of_eq ea119.symm)
          have ne_b_252_ad119 : b_252 ≠ ad119 := neOf F_377.lt (Nat.le_of_eq ea119.symm)
          have ne_b_266_ad119 : b_266 ≠ ad119 := neOf F_378.lt (Nat.le_of_eq ea119.symm)
          have ne_ad47_ad119 : ad47 ≠ ad119 := neOf F_379.lt (Nat.le_of_eq ea119.symm)
          have ne_ad102_ad119 : ad102 ≠ ad119 := neOf F_381.lt (Nat.le_of_eq ea119.symm)
          have ne_b_363_ad119 : b_363 ≠ ad119 := neOf Q2_363.lt (Nat.le_of_eq ea119.symm)
          have F_382 := F_364.ext E119
          have F_383 := F_365.ext E119
          have F_384 := F_366.ext E119
          have F_385 := F_367.ext E119
          have F_386 := F_368.ext E119
          have F_387 := F_369.ext E119
          have F_388 := F_370.ext E119
          have F_389 := F_371.ext E119
          have F_390 := F_372.ext E119
          have F_391 := F_373.ext E119
          have F_392 := F_374.ext E119
          have F_393 := F_375.ext E119
          have F_394 := F_376.ext E119
          have F_395 := F_377.ext E119
          have F_396 := F_378.ext E119
          have F_397 := F_379.ext E119
          have F_398 := F_380.ext E119
          have F_399 := F_381.ext E119
          have F_400 := Q0_363.ext E119
          have F_401 := Q1_363.ext E119
          have F_402 := Q2_363.ext E119
          have F_403 := Q3_363.ext E119
          refine gGoto X w at_121 (by decide) (n := 151) rfl ?_
          refine gAstore X w at_151 rfl #[.val (.long p1), .second, .val (.int p2), .val (.int p3), .val (.int p4), .val (.int (0 : Int32)), .val (.int (1 : Int32)), .val (.ref b_252), .val (.ref b_266), .val (.ref ad47), .val (.ref ad102), .val (.ref ad119), .unset, .unset, .unset, .unset, .unset, .unset] rfl (n := 153) rfl ?_
          refine gAload X w at_153 rfl rfl (n := 155) rfl ?_
          refine gCallSv X w [(.ref ad119)] [] (own_of_0 l Z a0 hw ad119 hp119 n0 (Sd.le X) V119 A119) (own_wd hw 57 rfl) (own_wd hw 58 rfl) (own_wd hw 59 rfl) (own_wd hw 60 rfl) (by decide) own_pd11 rfl rfl at_155 rfl (W := 0) (Nat.le_of_eq rfl) (by decide) (by decide) (by decide) (by decide) (n := 158) rfl ?_
          rintro T h_404 _ ⟨K_404, b_404, rfl, g_b_404, na_b_404, Q0_404⟩ X
          have ne_sNULL_b_404 : sNULL ≠ b_404 := neOf F_383.lt g_b_404
          have ne_sINTEGER_b_404 : sINTEGER ≠ b_404 := neOf F_385.lt g_b_404
          have ne_sREAL_b_404 : sREAL ≠ b_404 := neOf F_387.lt g_b_404
          have ne_sTEXT_b_404 : sTEXT ≠ b_404 := neOf F_389.lt g_b_404
          have ne_sBLOB_b_404 : sBLOB ≠ b_404 := neOf F_391.lt g_b_404
          have ne_ca_b_404 : ca ≠ b_404 := neOf F_393.lt g_b_404
          have ne_b_252_b_404 : b_252 ≠ b_404 := neOf F_395.lt g_b_404
          have ne_b_266_b_404 : b_266 ≠ b_404 := neOf F_396.lt g_b_404
          have ne_ad47_b_404 : ad47 ≠ b_404 := neOf F_397.lt g_b_404
          have ne_ad102_b_404 : ad102 ≠ b_404 := neOf F_399.lt g_b_404
          have ne_b_363_b_404 : b_363 ≠ b_404 := neOf F_402.lt g_b_404
          have ne_ad119_b_404 : ad119 ≠ b_404 := neOf A119.lt g_b_404
          have F_405 := staKeep F_382 K_404 all0
          have F_406 := F_383.keep K_404
          have F_407 := staKeep F_384 K_404 all0
          have F_408 := F_385.keep K_404
          have F_409 := staKeep F_386 K_404 all0
          have F_410 := F_387.keep K_404
          have F_411 := staKeep F_388 K_404 all0
          have F_412 := F_389.keep K_404
          have F_413 := staKeep F_390 K_404 all0
          have F_414 := F_391.keep K_404
          have F_415 := staKeep F_392 K_404 all0
          have F_416 := F_393.keep K_404 nin0
          have F_417 := staKeep F_394 K_404 all0
          have F_418 := F_395.keep K_404
          have F_419 := F_396.keep K_404
          have F_420 := F_397.keep K_404
          have F_421 := F_398.keep K_404 nin0
          have F_422 := F_399.keep K_404
          have F_423 := F_400.keep K_404 nin0
          have F_424 := F_401.keep K_404 nin0
          have F_425 := F_402.keep K_404 nin0
          have F_426 := F_403.keep K_404
          have F_427 := A119.keep K_404
          have F_428 := V119.keep K_404 nin0
          refine gAstore X w at_158 rfl #[.val (.long p1), .second, .val (.int p2), .val (.int p3), .val (.int p4), .val (.int (0 : Int32)), .val (.int (1 : Int32)), .val (.ref b_252), .val (.ref b_266), .val (.ref ad47), .val (.ref ad102), .val (.ref ad119), .val (.ref b_404), .unset, .unset, .unset, .unset, .unset] rfl (n := 160) rfl ?_
          refine gNull X w at_160 (n := 161) rfl ?_
          refine gCallSv X w [.null] [] (own_kind_null l Z a0 hw sNULL h_404 n0 (Sd.le X) F_405) (own_wd hw 78 rfl) (own_wd hw 79 rfl) (own_wd hw 80 rfl) (own_wd hw 81 rfl) (by decide) own_pd12 rfl rfl at_161 rfl (W := 0) (Nat.le_of_eq rfl) (by decide) (by decide) (by decide) (by decide) (n := 164) rfl ?_
          rintro T _ _ ⟨rfl, rfl⟩ X
          refine gGetS X w (own_wd hw 84 rfl) Via.refl F_405 at_164 (n := 167) rfl ?_
          intro T X
          refine gAcmp_ne X w at_167 rfl rfl (n := 174) (n' := 170) (by decide) rfl rfl ?_ ?_
          · intro c167
            exact absurd rfl c167
          · intro c167
            refine gIconst X w at_170 (z := (1 : Int32)) rfl (n := 171) rfl ?_
            refine gGoto X w at_171 (by decide) (n := 175) rfl ?_
            refine gIstore X w at_175 #[.val (.long p1), .second, .val (.int p2), .val (.int p3), .val (.int p4), .val (.int (0 : Int32)), .val (.int (1 : Int32)), .val (.ref b_252), .val (.ref b_266), .val (.ref ad47), .val (.ref ad102), .val (.ref ad119), .val (.ref b_404), .val (.int (1 : Int32)), .unset, .unset, .unset, .unset] rfl (n := 177) rfl ?_
            refine gAload X w at_177 rfl rfl (n := 179) rfl ?_
            refine gCallSv X w [(.ref b_252)] [] (own_kind_INTEGER l Z a0 hw b_252 sINTEGER h_404 n0 (Sd.le X) F_418 F_407) (own_wd hw 78 rfl) (own_wd hw 79 rfl) (own_wd hw 80 rfl) (own_wd hw 81 rfl) (by decide) own_pd12 rfl rfl at_179 rfl (W := 0) (Nat.le_of_eq rfl) (by decide) (by decide) (by decide) (by decide) (n := 182) rfl ?_
            rintro T _ _ ⟨rfl, rfl⟩ X
            refine gGetS X w (own_wd hw 89 rfl) Via.refl F_407 at_182 (n := 185) rfl ?_
            intro T X
            refine gAcmp_ne X w at_185 rfl rfl (n := 192) (n' := 188) (by decide) rfl rfl ?_ ?_
            · intro c185
              exact absurd rfl c185
            · intro c185
              refine gIconst X w at_188 (z := (1 : Int32)) rfl (n := 189) rfl ?_
              refine gGoto X w at_189 (by decide) (n := 193) rfl ?_
              refine gIstore X w at_193 #[.val (.long p1), .second, .val (.int p2), .val (.int p3), .val (.int p4), .val (.int (0 : Int32)), .val (.int (1 : Int32)), .val (.ref b_252), .val (.ref b_266), .val (.ref ad47), .val (.ref ad102), .val (.ref ad119), .val (.ref b_404), .val (.int (1 : Int32)), .val (.int (1 : Int32)), .unset, .unset, .unset] rfl (n := 195) rfl ?_
              refine gAload X w at_195 rfl rfl (n := 197) rfl ?_
              refine gCallSv X w [(.ref b_266)] [] (own_kind_REAL l Z a0 hw b_266 sREAL h_404 n0 (Sd.le X) F_419 F_409) (own_wd hw 78 rfl) (own_wd hw 79 rfl) (own_wd hw 80 rfl) (own_wd hw 81 rfl) (by decide) own_pd12 rfl rfl at_197 rfl (W := 0) (Nat.le_of_eq rfl) (by decide) (by decide) (by decide) (by decide) (n := 200) rfl ?_
              rintro T _ _ ⟨rfl, rfl⟩ X
              refine gGetS X w (own_wd hw 96 rfl) Via.refl F_409 at_200 (n := 203) rfl ?_
              intro T X
              refine gAcmp_ne X w at_203 rfl rfl (n := 210) (n' := 206) (by decide) rfl rfl ?_ ?_
              · intro c203
                exact absurd rfl c203
              · intro c203
                refine gIconst X w at_206 (z := (1 : Int32)) rfl (n := 207) rfl ?_
                refine gGoto X w at_207 (by decide) (n := 211) rfl ?_
                refine gIstore X w at_211 #[.val (.long p1), .second, .val (.int p2), .val (.int p3), .val (.int p4), .val (.int (0 : Int32)), .val (.int (1 : Int32)), .val (.ref b_252), .val (.ref b_266), .val (.ref ad47), .val (.ref ad102), .val (.ref ad119), .val (.ref b_404), .val (.int (1 : Int32)), .val (.int (1 : Int32)), .val (.int (1 : Int32)), .unset, .unset] rfl (n := 213) rfl ?_
                refine gAload X w at_213 rfl rfl (n := 215) rfl ?_
                refine gCallSv X w [(.ref ad102)] [] (own_kind_TEXT l Z a0 hw ad102 sTEXT h_404 n0 (Sd.le X) F_422 F_411) (own_wd hw 78 rfl) (own_wd hw 79 rfl) (own_wd hw 80 rfl) (own_wd hw 81 rfl) (by decide) own_pd12 rfl rfl at_215 rfl (W := 0) (Nat.le_of_eq rfl) (by decide) (by decide) (by decide) (by decide) (n := 218) rfl ?_
                rintro T _ _ ⟨rfl, rfl⟩ X
                refine gGetS X w (own_wd hw 101 rfl) Via.refl F_411 at_218 (n := 221) rfl ?_
                intro T X
                refine gAcmp_ne X w at_221 rfl rfl (n := 228) (n' := 224) (by decide) rfl rfl ?_ ?_
                · intro c221
                  exact absurd rfl c221
                · intro c221
                  refine gIconst X w at_224 (z := (1 : Int32)) rfl (n := 225) rfl ?_
                  refine gGoto X w at_225 (by decide) (n := 229) rfl ?_
                  refine gIstore X w at_229 #[.val (.long p1), .second, .val (.int p2), .val (.int p3), .val (.int p4), .val (.int (0 : Int32)), .val (.int (1 : Int32)), .val (.ref b_252), .val (.ref b_266), .val (.ref ad47), .val (.ref ad102), .val (.ref ad119), .val (.ref b_404), .val (.int (1 : Int32)), .val (.int (1 : Int32)), .val (.int (1 : Int32)), .val (.int (1 : Int32)), .unset] rfl (n := 231) rfl ?_
                  refine gAload X w at_231 rfl rfl (n := 233) rfl ?_
                  refine gCallSv X w [(.ref b_404)] [] (own_kind_BLOB l Z a0 hw b_404 sBLOB h_404 n0 (Sd.le X) Q0_404 F_413) (own_wd hw 78 rfl) (own_wd hw 79 rfl) (own_wd hw 80 rfl) (own_wd hw 81 rfl) (by decide) own_pd12 rfl rfl at_233 rfl (W := 0) (Nat.le_of_eq rfl) (by decide) (by decide) (by decide) (by decide) (n := 236) rfl ?_
                  rintro T _ _ ⟨rfl, rfl⟩ X
                  refine gGetS X w (own_wd hw 107 rfl) Via.refl F_413 at_236 (n := 239) rfl ?_
                  intro T X
                  refine gAcmp_ne X w at_239 rfl rfl (n := 246) (n' := 242) (by decide) rfl rfl ?_ ?_
                  · intro c239
                    exact absurd rfl c239
                  · intro c239
                    refine gIconst X w at_242 (z := (1 : Int32)) rfl (n := 243) rfl ?_
                    refine gGoto X w at_243 (by decide) (n := 247) rfl ?_
                    refine gIstore X w at_247 #[.val (.long p1), .second, .val (.int p2), .val (.int p3), .val (.int p4), .val (.int (0 : Int32)), .val (.int (1 : Int32)), .val (.ref b_252), .val (.ref b_266), .val (.ref ad47), .val (.ref ad102), .val (.ref ad119), .val (.ref b_404), .val (.int (1 : Int32)), .val (.int (1 : Int32)), .val (.int (1 : Int32)), .val (.int (1 : Int32)), .val (.int (1 : Int32))] rfl (n := 249) rfl ?_
                    refine gIload X w at_249 rfl (n := 251) rfl ?_
                    refine gIf_eq X w at_251 (n := 278) (n' := 254) (by decide) rfl rfl ?_ ?_
                    · rintro ⟨c251, c251'⟩
                      exact absurd c251 (by decide)
                    · rintro ⟨c251, c251'⟩
                      refine gIload X w at_254 rfl (n := 256) rfl ?_
                      refine gIf_eq X w at_256 (n := 278) (n' := 259) (by decide) rfl rfl ?_ ?_
                      · rintro ⟨c256, c256'⟩
                        exact absurd c256 (by decide)
                      · rintro ⟨c256, c256'⟩
                        refine gIload X w at_259 rfl (n := 261) rfl ?_
                        refine gIf_eq X w at_261 (n := 278) (n' := 264) (by decide) rfl rfl ?_ ?_
                        · rintro ⟨c261, c261'⟩
                          exact absurd c261 (by decide)
                        · rintro ⟨c261, c261'⟩
                          refine gIload X w at_264 rfl (n := 266) rfl ?_
                          refine gIf_eq X w at_266 (n := 278) (n' := 269) (by decide) rfl rfl ?_ ?_
                          · rintro ⟨c266, c266'⟩
                            exact absurd c266 (by decide)
                          · rintro ⟨c266, c266'⟩
                            refine gIload X w at_269 rfl (n := 271) rfl ?_
                            refine gIf_eq X w at_271 (n := 278) (n' := 274) (by decide) rfl rfl ?_ ?_
                            · rintro ⟨c271, c271'⟩
                              exact absurd c271 (by decide)
                            · rintro ⟨c271, c271'⟩
                              refine gIconst X w at_274 (z := (1 : Int32)) rfl (n := 275) rfl ?_
                              refine gGoto X w at_275 (by decide) (n := 279) rfl ?_
                              exact gRetZ X w rfl (Or.inr rfl) at_279 (by decide) (by decide) (rfl)
      · rintro ⟨c86, c86'⟩
        exact absurd c86 (by decide)
  · rintro ⟨c6, c6'⟩
    refine gIconst X w at_9 (z := (1 : Int32)) rfl (n := 10) rfl ?_
    refine gGoto X w at_10 (by decide) (n := 14) rfl ?_
    refine gIstore X w at_14 #[.val (.long p1), .second, .val (.int p2), .val (.int p3), .val (.int p4), .val (.int (1 : Int32)), .unset, .unset, .unset, .unset, .unset, .unset, .unset, .unset, .unset, .unset, .unset, .unset] rfl (n := 16) rfl ?_
    refine gIload X w at_16 rfl (n := 18) rfl ?_
    refine gBipush X w at_18 (z := (24 : Int32)) (by decide) (n := 20) rfl ?_
    obtain ⟨x20, q20⟩ : ∃ zz_ : Int32, Jvm.Free.XT.ushr p4 (24 : Int32) = zz_ := ⟨_, rfl⟩
    refine gIushr X w at_20 q20 (n := 21) rfl ?_
    refine gIconst X w at_21 (z := (1 : Int32)) rfl (n := 22) rfl ?_
    obtain ⟨x22, q22⟩ : ∃ zz_ : Int32, x20 &&& (1 : Int32) = zz_ := ⟨_, rfl⟩
    refine gIand X w at_22 q22 (n := 23) rfl ?_
    refine gIf_eq X w at_23 (n := 30) (n' := 26) (by decide) rfl rfl ?_ ?_
    · rintro ⟨c23, c23'⟩
      refine gIconst X w at_30 (z := (0 : Int32)) rfl (n := 31) rfl ?_
      refine gIstore X w at_31 #[.val (.long p1), .second, .val (.int p2), .val (.int p3), .val (.int p4), .val (.int (1 : Int32)), .val (.int (0 : Int32)), .unset, .unset, .unset, .unset, .unset, .unset, .unset, .unset, .unset, .unset, .unset] rfl (n := 33) rfl ?_
      refine gJloadN X w at_33 rfl (n := 34) rfl ?_
      refine gCallSv X w [(.long p1)] [] (own_lval l Z a0 hw p1 ca cs h0 n0 (Sd.le X) Sca Vca hbx) (own_wd hw 0 rfl) (own_wd hw 1 rfl) (own_wd hw 2 rfl) (own_wd hw 3 rfl) (by decide) own_pd8 rfl rfl at_34 rfl (W := 0) (Nat.le_of_eq rfl) (by decide) (by decide) (by decide) (by decide) (n := 37) rfl ?_
      rintro T h_434 _ ⟨K_434, b_434, rfl, Q0_434⟩ X
      have F_435 := staKeep S_sNULL K_434 all0
      have F_436 := E_sNULL.keep K_434
      have F_437 := staKeep S_sINTEGER K_434 all0
      have F_438 := E_sINTEGER.keep K_434
      have F_439 := staKeep S_sREAL K_434 all0
      have F_440 := E_sREAL.keep K_434
      have F_441 := staKeep S_sTEXT K_434 all0
      have F_442 := E_sTEXT.keep K_434
      have F_443 := staKeep S_sBLOB K_434 all0
      have F_444 := E_sBLOB.keep K_434
      have F_445 := staKeep Sca K_434 all0
      have F_446 := Vca.keep K_434 nin0
      have F_447 := staKeep Scs K_434 all0
      refine gAstore X w at_37 rfl #[.val (.long p1), .second, .val (.int p2), .val (.int p3), .val (.int p4), .val (.int (1 : Int32)), .val (.int (0 : Int32)), .val (.ref b_434), .unset, .unset, .unset, .unset, .unset, .unset, .unset, .unset, .unset, .unset] rfl (n := 39) rfl ?_
      refine gIloadN X w at_39 rfl (n := 40) rfl ?_
      obtain ⟨u40, q40⟩ : ∃ zz_ : UInt64, FP.i2d p2 = zz_ := ⟨_, rfl⟩
      refine gI2d X w at_40 q40 (n := 41) rfl ?_
      refine gCallSv X w [(.double u40)] [] (own_dval l Z a0 hw u40 h_434 n0 (Sd.le X) ) (own_wd hw 8 rfl) (own_wd hw 9 rfl) (own_wd hw 10 rfl) (own_wd hw 11 rfl) (by decide) own_pd9 rfl rfl at_41 rfl (W := 0) (Nat.le_of_eq rfl) (by decide) (by decide) (by decide) (by decide) (n := 44) rfl ?_
      rintro T h_448 _ ⟨K_448, b_448, rfl, g_b_448, na_b_448, Q0_448⟩ X
      have ne_sNULL_b_448 : sNULL ≠ b_448 := neOf F_436.lt g_b_448
      have ne_sINTEGER_b_448 : sINTEGER ≠ b_448 := neOf F_438.lt g_b_448
      have ne_sREAL_b_448 : sREAL ≠ b_448 := neOf F_440.lt g_b_448
      have ne_sTEXT_b_448 : sTEXT ≠ b_448 := neOf F_442.lt g_b_448
      have ne_sBLOB_b_448 : sBLOB ≠ b_448 := neOf F_444.lt g_b_448
      have ne_ca_b_448 : ca ≠ b_448 := neOf F_446.lt g_b_448
      have ne_b_434_b_448 : b_434 ≠ b_448 := neOf Q0_434.lt g_b_448
      have F_449 := staKeep F_435 K_448 all0
      have F_450 := F_436.keep K_448
      have F_451 := staKeep F_437 K_448 all0
      have F_452 := F_438.keep K_448
      have F_453 := staKeep F_439 K_448 all0
      have F_454 := F_440.keep K_448
      have F_455 := staKeep F_441 K_448 all0
      have F_456 := F_442.keep K_448
      have F_457 := staKeep F_443 K_448 all0
      have F_458 := F_444.keep K_448
      have F_459 := staKeep F_445 K_448 all0
      have F_460 := F_446.keep K_448 nin0
      have F_461 := staKeep F_447 K_448 all0
      have F_462 := Q0_434.keep K_448
      refine gAstore X w at_44 rfl #[.val (.long p1), .second, .val (.int p2), .val (.int p3), .val (.int p4), .val (.int (1 : Int32)), .val (.int (0 : Int32)), .val (.ref b_434), .val (.ref b_448), .unset, .unset, .unset, .unset, .unset, .unset, .unset, .unset, .unset] rfl (n := 46) rfl ?_
      refine gIconst X w at_46 (z := (3 : Int32)) rfl (n := 47) rfl ?_
      refine gNewP X w (own_wd hw 29 rfl) at_47 (by decide) (cap := 3) (by decide) (by decide) (by decide) (by decide) (vs := [(.int (0 : Int32)), (.int (0 : Int32)), (.int (0 : Int32))]) (ty := .char) rfl rfl (ad := "[C") (by decide) (n := 49) rfl ?_
      intro T hp47 ad47 ea47 na47 X E47 V47 A47
      have ne_sNULL_ad47 : sNULL ≠ ad47 := neOf F_450.lt (Nat.le_of_eq ea47.symm)
      have ne_sINTEGER_ad47 : sINTEGER ≠ ad47 := neOf F_452.lt (Nat.le_of_eq ea47.symm)
      have ne_sREAL_ad47 : sREAL ≠ ad47 := neOf F_454.lt (Nat.le_of_eq ea47.symm)
      have ne_sTEXT_ad47 : sTEXT ≠ ad47 := neOf F_456.lt (Nat.le_of_eq ea47.symm)
      have ne_sBLOB_ad47 : sBLOB ≠ ad47 := neOf F_458.lt (Nat.le_of_eq ea47.symm)
      have ne_ca_ad47 : ca ≠ ad47 := neOf F_460.lt (Nat.le_of_eq ea47.symm)
      have ne_b_434_ad47 : b_434 ≠ ad47 := neOf F_462.lt (Nat.le_of_eq ea47.symm)
      have ne_b_448_ad47 : b_448 ≠ ad47 := neOf Q0_448.lt (Nat.le_of_eq ea47.symm)
      have F_463 := F_449.ext E47
      have F_464 := F_450.ext E47
      have F_465 := F_451.ext E47
      have F_466 := F_452.ext E47
      have F_467 := F_453.ext E47
      have F_468 := F_454.ext E47
      have F_469 := F_455.ext E47
      have F_470 := F_456.ext E47
      have F_471 := F_457.ext E47
      have F_472 := F_458.ext E47
      have F_473 := F_459.ext E47
      have F_474 := F_460.ext E47
      have F_475 := F_461.ext E47
      have F_476 := F_462.ext E47
      have F_477 := Q0_448.ext E47
      refine gDup X w at_49 rfl (n := 50) rfl ?_
      refine gIconst X w at_50 (z := (0 : Int32)) rfl (n := 51) rfl ?_
      refine gIloadN X w at_51 rfl (n := 52) rfl ?_
      refine gSipush X w at_52 (z := (255 : Int32)) (by decide) (n := 55) rfl ?_
      obtain ⟨x55, q55⟩ : ∃ zz_ : Int32, p3 &&& (255 : Int32) = zz_ := ⟨_, rfl⟩
      refine gIand X w at_55 q55 (n := 56) rfl ?_
      obtain ⟨x56, q56⟩ : ∃ zz_ : Int32, (Int32.toUInt32 x55).toUInt16.toUInt32.toInt32 = zz_ := ⟨_, rfl⟩
      have hz_x56 := own_c255 q55 q56
      refine gI2c X w at_56 q56 (n := 57) rfl ?_
      refine gCastore X w (z := (.int x56)) V47 (by decide) (show (0 : Int) < ((3 : Nat) : Int) from by decide) na47 (congrArg Value.int (own_narc hz_x56)) (vs' := [(.int x56), (.int (0 : Int32)), (.int (0 : Int32))]) rfl at_57 (n := 58) rfl ?_
      intro T hp57 X W57 V57
      have F_478 := F_463.wr W57
      have F_479 := F_464.wr W57
      have F_480 := F_465.wr W57
      have F_481 := F_466.wr W57
      have F_482 := F_467.wr W57
      have F_483 := F_468.wr W57
      have F_484 := F_469.wr W57
      have F_485 := F_470.wr W57
      have F_486 := F_471.wr W57
      have F_487 := F_472.wr W57
      have F_488 := F_473.wr W57
      have F_489 := F_474.other W57 ne_ca_ad47
      have F_490 := F_475.wr W57
      have F_491 := F_476.wr W57
      have F_492 := F_477.wr W57
      have F_493 := A47.wr W57
      refine gDup X w at_58 rfl (n := 59) rfl ?_
      refine gIconst X w at_59 (z := (1 : Int32)) rfl (n := 60) rfl ?_
      refine gIloadN X w at_60 rfl (n := 61) rfl ?_
      refine gBipush X w at_61 (z := (8 : Int32)) (by decide) (n := 63) rfl ?_
      obtain ⟨x63, q63⟩ : ∃ zz_ : Int32, Jvm.Free.XT.ushr p3 (8 : Int32) = zz_ := ⟨_, rfl⟩
      refine gIushr X w at_63 q63 (n := 64) rfl ?_
      refine gSipush X w at_64 (z := (255 : Int32)) (by decide) (n := 67) rfl ?_
      obtain ⟨x67, q67⟩ : ∃ zz_ : Int32, x63 &&& (255 : Int32) = zz_ := ⟨_, rfl⟩
      refine gIand X w at_67 q67 (n := 68) rfl ?_
      obtain ⟨x68, q68⟩ : ∃ zz_ : Int32, (Int32.toUInt32 x67).toUInt16.toUInt32.toInt32 = zz_ := ⟨_, rfl⟩
      have hz_x68 := own_c255 q67 q68
      refine gI2c X w at_68 q68 (n := 69) rfl ?_
      refine gCastore X w (z := (.int x68)) V57 (by decide) (show (1 : Int) < ((3 : Nat) : Int) from by decide) na47 (congrArg Value.int (own_narc hz_x68)) (vs' := [(.int x56), (.int x68), (.int (0 : Int32))]) rfl at_69 (n := 70) rfl ?_
      intro T hp69 X W69 V69
      have F_494 := F_478.wr W69
      have F_495 := F_479.wr W69
      have F_496 := F_480.wr W69
      have F_497 := F_481.wr W69
      have F_498 := F_482.wr W69
      have F_499 := F_483.wr W69
      have F_500 := F_484.wr W69
      have F_501 := F_485.wr W69
      have F_502 := F_486.wr W69
      have F_503 := F_487.wr W69
      have F_504 := F_488.wr W69
      have F_505 := F_489.other W69 ne_ca_ad47
      have F_506 := F_490.wr W69
      have F_507 := F_491.wr W69
      have F_508 := F_492.wr W69
      have F_509 := F_493.wr W69
      refine gDup X w at_70 rfl (n := 71) rfl ?_
      refine gIconst X w at_71 (z := (2 : Int32)) rfl (n := 72) rfl ?_
      refine gIloadN X w at_72 rfl (n := 73) rfl ?_
      refine gBipush X w at_73 (z := (16 : Int32)) (by decide) (n := 75) rfl ?_
      obtain ⟨x75, q75⟩ : ∃ zz_ : Int32, Jvm.Free.XT.ushr p3 (16 : Int32) = zz_ := ⟨_, rfl⟩
      refine gIushr X w at_75 q75 (n := 76) rfl ?_
      refine gSipush X w at_76 (z := (255 : Int32)) (by decide) (n := 79) rfl ?_
      obtain ⟨x79, q79⟩ : ∃ zz_ : Int32, x75 &&& (255 : Int32) = zz_ := ⟨_, rfl⟩
      refine gIand X w at_79 q79 (n := 80) rfl ?_
      obtain ⟨x80, q80⟩ : ∃ zz_ : Int32, (Int32.toUInt32 x79).toUInt16.toUInt32.toInt32 = zz_ := ⟨_, rfl⟩
      have hz_x80 := own_c255 q79 q80
      refine gI2c X w at_80 q80 (n := 81) rfl ?_
      refine gCastore X w (z := (.int x80)) V69 (by decide) (show (2 : Int) < ((3 : Nat) : Int) from by decide) na47 (congrArg Value.int (own_narc hz_x80)) (vs' := [(.int x56), (.int x68), (.int x80)]) rfl at_81 (n := 82) rfl ?_
      intro T hp81 X W81 V81
      have F_510 := F_494.wr W81
      have F_511 := F_495.wr W81
      have F_512 := F_496.wr W81
      have F_513 := F_497.wr W81
      have F_514 := F_498.wr W81
      have F_515 := F_499.wr W81
      have F_516 := F_500.wr W81
      have F_517 := F_501.wr W81
      have F_518 := F_502.wr W81
      have F_519 := F_503.wr W81
      have F_520 := F_504.wr W81
      have F_521 := F_505.other W81 ne_ca_ad47
      have F_522 := F_506.wr W81
      have F_523 := F_507.wr W81
      have F_524 := F_508.wr W81
      have F_525 := F_509.wr W81
      refine gAstore X w at_82 rfl #[.val (.long p1), .second, .val (.int p2), .val (.int p3), .val (.int p4), .val (.int (1 : Int32)), .val (.int (0 : Int32)), .val (.ref b_434), .val (.ref b_448), .val (.ref ad47), .unset, .unset, .unset, .unset, .unset, .unset, .unset, .unset] rfl (n := 84) rfl ?_
      refine gIload X w at_84 rfl (n := 86) rfl ?_
      refine gIf_eq X w at_86 (n := 102) (n' := 89) (by decide) rfl rfl ?_ ?_
      · rintro ⟨c86, c86'⟩
        exact absurd c86 (by decide)
      · rintro ⟨c86, c86'⟩
        refine gNew X w (own_wd hw 30 rfl) (own_wd hw 31 rfl) (own_wd hw 32 rfl) at_89 (by decide) (by decide) (n := 92) rfl ?_
        intro T hp89 ad89 ea89 na89 X E89 A89 D89
        have ne_sNULL_ad89 : sNULL ≠ ad89 := neOf F_511.lt (Nat.le_of_eq ea89.symm)
        have ne_sINTEGER_ad89 : sINTEGER ≠ ad89 := neOf F_513.lt (Nat.le_of_eq ea89.symm)
        have ne_sREAL_ad89 : sREAL ≠ ad89 := neOf F_515.lt (Nat.le_of_eq ea89.symm)
        have ne_sTEXT_ad89 : sTEXT ≠ ad89 := neOf F_517.lt (Nat.le_of_eq ea89.symm)
        have ne_sBLOB_ad89 : sBLOB ≠ ad89 := neOf F_519.lt (Nat.le_of_eq ea89.symm)
        have ne_ca_ad89 : ca ≠ ad89 := neOf F_521.lt (Nat.le_of_eq ea89.symm)
        have ne_b_434_ad89 : b_434 ≠ ad89 := neOf F_523.lt (Nat.le_of_eq ea89.symm)
        have ne_b_448_ad89 : b_448 ≠ ad89 := neOf F_524.lt (Nat.le_of_eq ea89.symm)
        have ne_ad47_ad89 : ad47 ≠ ad89 := neOf F_525.lt (Nat.le_of_eq ea89.symm)
        have F_526 := F_510.ext E89
        have F_527 := F_511.ext E89
        have F_528 := F_512.ext E89
        have F_529 := F_513.ext E89
        have F_530 := F_514.ext E89
        have F_531 := F_515.ext E89
        have F_532 := F_516.ext E89
        have F_533 := F_517.ext E89
        have F_534 := F_518.ext E89
        have F_535 := F_519.ext E89
        have F_536 := F_520.ext E89
        have F_537 := F_521.ext E89
        have F_538 := F_522.ext E89
        have F_539 := F_523.ext E89
        have F_540 := F_524.ext E89
        have F_541 := F_525.ext E89
        have F_542 := V81.ext E89
        have F_543 : Fld Z hp89 ad89 "java/lang/String" "coder" "B" (.int (0 : Int32)) := D89 (Or.inr (own_wd hw 54 rfl)) (ty := .byte) (by decide)
        have F_544 : Fld Z hp89 ad89 "java/lang/String" "value" "[B" .null := D89 (Or.inr (own_wd hw 56 rfl)) (ty := (.array .byte)) (by decide)
        refine gDup X w at_92 rfl (n := 93) rfl ?_
        refine gIconst X w at_93 (z := (0 : Int32)) rfl (n := 94) rfl ?_
        refine gNewP X w (own_wd hw 29 rfl) at_94 (by decide) (cap := 0) (by decide) (by decide) (by decide) (by decide) (vs := []) (ty := .char) rfl rfl (ad := "[C") (by decide) (n := 96) rfl ?_
        intro T hp94 ad94 ea94 na94 X E94 V94 A94
        have ne_sNULL_ad94 : sNULL ≠ ad94 := neOf F_527.lt (Nat.le_of_eq ea94.symm)
        have ne_sINTEGER_ad94 : sINTEGER ≠ ad94 := neOf F_529.lt (Nat.le_of_eq ea94.symm)
        have ne_sREAL_ad94 : sREAL ≠ ad94 := neOf F_531.lt (Nat.le_of_eq ea94.symm)
        have ne_sTEXT_ad94 : sTEXT ≠ ad94 := neOf F_533.lt (Nat.le_of_eq ea94.symm)
        have ne_sBLOB_ad94 : sBLOB ≠ ad94 := neOf F_535.lt (Nat.le_of_eq ea94.symm)
        have ne_ca_ad94 : ca ≠ ad94 := neOf F_537.lt (Nat.le_of_eq ea94.symm)
        have ne_b_434_ad94 : b_434 ≠ ad94 := neOf F_539.lt (Nat.le_of_eq ea94.symm)
        have ne_b_448_ad94 : b_448 ≠ ad94 := neOf F_540.lt (Nat.le_of_eq ea94.symm)
        have ne_ad47_ad94 : ad47 ≠ ad94 := neOf F_541.lt (Nat.le_of_eq ea94.symm)
        have ne_ad89_ad94 : ad89 ≠ ad94 := neOf A89.lt (Nat.le_of_eq ea94.symm)
        have F_545 := F_526.ext E94
        have F_546 := F_527.ext E94
        have F_547 := F_528.ext E94
        have F_548 := F_529.ext E94
        have F_549 := F_530.ext E94
        have F_550 := F_531.ext E94
        have F_551 := F_532.ext E94
        have F_552 := F_533.ext E94
        have F_553 := F_534.ext E94
        have F_554 := F_535.ext E94
        have F_555 := F_536.ext E94
        have F_556 := F_537.ext E94
        have F_557 := F_538.ext E94
        have F_558 := F_539.ext E94
        have F_559 := F_540.ext E94
        have F_560 := F_541.ext E94
        have F_561 := F_542.ext E94
        have F_562 := A89.ext E94
        have F_563 := F_543.ext E94
        have F_564 := F_544.ext E94
        refine gCallInL X w [(.ref ad94)] [(.ref ad89)] rfl (own_sinit_0 l Z a0 hw ad89 ad94 hp94 n0 (Sd.le X) F_562 F_564 F_563 V94 (Ne.symm ne_ad89_ad94) na89) (own_wd hw 33 rfl) (own_wd hw 34 rfl) (own_wd hw 32 rfl) (own_wd hw 35 rfl) (by decide) own_pd10 rfl rfl at_96 rfl (W := 1) (Nat.le_of_eq rfl) (by decide) (by decide) (by decide) (by decide) (n := 99) rfl ?_
        rintro T h_565 D_565 ⟨R_565, K_565, b_565, Q0_565, Q1_565, Q2_565⟩ X
        have F_566 := R_565 na_b_448 F_559.lt
        have F_567 := R_565 na47 F_560.lt
        have F_568 := R_565 na89 F_562.lt
        have F_569 := R_565 na94 A94.lt
        have F_570 := staKeep F_545 K_565 (allS (Exa.nostat F_562) all0)
        have F_571 := F_546.keep K_565
        have F_572 := staKeep F_547 K_565 (allS (Exa.nostat F_562) all0)
        have F_573 := F_548.keep K_565
        have F_574 := staKeep F_549 K_565 (allS (Exa.nostat F_562) all0)
        have F_575 := F_550.keep K_565
        have F_576 := staKeep F_551 K_565 (allS (Exa.nostat F_562) all0)
        have F_577 := F_552.keep K_565
        have F_578 := staKeep F_553 K_565 (allS (Exa.nostat F_562) all0)
        have F_579 := F_554.keep K_565
        have F_580 := staKeep F_555 K_565 (allS (Exa.nostat F_562) all0)
        have F_581 := F_556.keep K_565 (ninS ne_ca_ad89 nin0)
        have F_582 := staKeep F_557 K_565 (allS (Exa.nostat F_562) all0)
        have F_583 := F_558.keep K_565
        have F_584 := F_559.keep K_565
        have F_585 := F_560.keep K_565
        have F_586 := F_561.keep K_565 (ninS ne_ad47_ad89 nin0)
        have F_587 := F_562.keep K_565
        have F_588 := A94.keep K_565
        have F_589 := V94.keep K_565 (ninS (Ne.symm ne_ad89_ad94) nin0)
        refine gGoto X w at_99 (by decide) (n := 111) rfl ?_
        refine gAstore X w at_111 rfl #[.val (.long p1), .second, .val (.int p2), .val (.int p3), .val (.int p4), .val (.int (1 : Int32)), .val (.int (0 : Int32)), .val (.ref b_434), .val (.ref b_448), .val (.ref ad47), .val (.ref ad89), .unset, .unset, .unset, .unset, .unset, .unset, .unset] rfl (n := 113) rfl ?_
        refine gIload X w at_113 rfl (n := 115) rfl ?_
        refine gIf_eq X w at_115 (n := 124) (n' := 118) (by decide) rfl rfl ?_ ?_
        · rintro ⟨c115, c115'⟩
          refine gIconst X w at_124 (z := (3 : Int32)) rfl (n := 125) rfl ?_
          refine gNewP X w (own_wd hw 46 rfl) at_125 (by decide) (cap := 3) (by decide) (by decide) (by decide) (by decide) (vs := [(.int (0 : Int32)), (.int (0 : Int32)), (.int (0 : Int32))]) (ty := .byte) rfl rfl (ad := "[B") (by decide) (n := 127) rfl ?_
          intro T hp125 ad125 ea125 na125 X E125 V125 A125
          have ne_sNULL_ad125 : sNULL ≠ ad125 := neOf F_571.lt (Nat.le_of_eq ea125.symm)
          have ne_sINTEGER_ad125 : sINTEGER ≠ ad125 := neOf F_573.lt (Nat.le_of_eq ea125.symm)
          have ne_sREAL_ad125 : sREAL ≠ ad125 := neOf F_575.lt (Nat.le_of_eq ea125.symm)
          have ne_sTEXT_ad125 : sTEXT ≠ ad125 := neOf F_577.lt (Nat.le_of_eq ea125.symm)
          have ne_sBLOB_ad125 : sBLOB ≠ ad125 := neOf F_579.lt (Nat.le_of_eq ea125.symm)
          have ne_ca_ad125 : ca ≠ ad125 := neOf F_581.lt (Nat.le_of_eq ea125.symm)
          have ne_b_434_ad125 : b_434 ≠ ad125 := neOf F_583.lt (Nat.le_of_eq ea125.symm)
          have ne_b_448_ad125 : b_448 ≠ ad125 := neOf F_584.lt (Nat.le_of_eq ea125.symm)
          have ne_ad47_ad125 : ad47 ≠ ad125 := neOf F_585.lt (Nat.le_of_eq ea125.symm)
          have ne_ad89_ad125 : ad89 ≠ ad125 := neOf F_587.lt (Nat.le_of_eq ea125.symm)
          have ne_ad94_ad125 : ad94 ≠ ad125 := neOf F_588.lt (Nat.le_of_eq ea125.symm)
          have ne_b_565_ad125 : b_565 ≠ ad125 := neOf Q2_565.lt (Nat.le_of_eq ea125.symm)
          have F_590 := F_570.ext E125
          have F_591 := F_571.ext E125
          have F_592 := F_572.ext E125
          have F_593 := F_573.ext E125
          have F_594 := F_574.ext E125
          have F_595 := F_575.ext E125
          have F_596 := F_576.ext E125
          have F_597 := F_577.ext E125
          have F_598 := F_578.ext E125
          have F_599 := F_579.ext E125
          have F_600 := F_580.ext E125
          have F_601 := F_581.ext E125
          have F_602 := F_582.ext E125
          have F_603 := F_583.ext E125
          have F_604 := F_584.ext E125
          have F_605 := F_585.ext E125
          have F_606 := F_586.ext E125
          have F_607 := F_587.ext E125
          have F_608 := F_588.ext E125
          have F_609 := F_589.ext E125
          have F_610 := Q0_565.ext E125
          have F_611 := Q1_565.ext E125
          have F_612 := Q2_565.ext E125
          refine gDup X w at_127 rfl (n := 128) rfl ?_
          refine gIconst X w at_128 (z := (0 : Int32)) rfl (n := 129) rfl ?_
          refine gIload X w at_129 rfl (n := 131) rfl ?_
          obtain ⟨x131, q131⟩ : ∃ zz_ : Int32, (Int32.toInt8 p4).toInt32 = zz_ := ⟨_, rfl⟩
          have gz_x131 := own_fitb q131
          refine gI2b X w at_131 q131 (n := 132) rfl ?_
          refine gBastore X w (z := (.int x131)) V125 (by decide) (show (0 : Int) < ((3 : Nat) : Int) from by decide) na125 (congrArg Value.int (own_narb q131)) (vs' := [(.int x131), (.int (0 : Int32)), (.int (0 : Int32))]) rfl at_132 (n := 133) rfl ?_
          intro T hp132 X W132 V132
          have F_613 := F_590.wr W132
          have F_614 := F_591.wr W132
          have F_615 := F_592.wr W132
          have F_616 := F_593.wr W132
          have F_617 := F_594.wr W132
          have F_618 := F_595.wr W132
          have F_619 := F_596.wr W132
          have F_620 := F_597.wr W132
          have F_621 := F_598.wr W132
          have F_622 := F_599.wr W132
          have F_623 := F_600.wr W132
          have F_624 := F_601.other W132 ne_ca_ad125
          have F_625 := F_602.wr W132
          have F_626 := F_603.wr W132
          have F_627 := F_604.wr W132
          have F_628 := F_605.wr W132
          have F_629 := F_606.other W132 ne_ad47_ad125
          have F_630 := F_607.wr W132
          have F_631 := F_608.wr W132
          have F_632 := F_609.other W132 ne_ad94_ad125
          have F_633 := F_610.other W132 (Or.inl ne_ad89_ad125)
          have F_634 := F_611.other W132 (Or.inl ne_ad89_ad125)
          have F_635 := F_612.other W132 ne_b_565_ad125
          have F_636 := A125.wr W132
          refine gDup X w at_133 rfl (n := 134) rfl ?_
          refine gIconst X w at_134 (z := (1 : Int32)) rfl (n := 135) rfl ?_
          refine gIload X w at_135 rfl (n := 137) rfl ?_
          refine gBipush X w at_137 (z := (8 : Int32)) (by decide) (n := 139) rfl ?_
          obtain ⟨x139, q139⟩ : ∃ zz_ : Int32, Jvm.Free.XT.ushr p4 (8 : Int32) = zz_ := ⟨_, rfl⟩
          refine gIushr X w at_139 q139 (n := 140) rfl ?_
          obtain ⟨x140, q140⟩ : ∃ zz_ : Int32, (Int32.toInt8 x139).toInt32 = zz_ := ⟨_, rfl⟩
          have gz_x140 := own_fitb q140
          refine gI2b X w at_140 q140 (n := 141) rfl ?_
          refine gBastore X w (z := (.int x140)) V132 (by decide) (show (1 : Int) < ((3 : Nat) : Int) from by decide) na125 (congrArg Value.int (own_narb q140)) (vs' := [(.int x131), (.int x140), (.int (0 : Int32))]) rfl at_141 (n := 142) rfl ?_
          intro T hp141 X W141 V141
          have F_637 := F_613.wr W141
          have F_638 := F_614.wr W141
          have F_639 := F_615.wr W141
          have F_640 := F_616.wr W141
          have F_641 := F_617.wr W141
          have F_642 := F_618.wr W141
          have F_643 := F_619.wr W141
          have F_644 := F_620.wr W141
          have F_645 := F_621.wr W141
          have F_646 := F_622.wr W141
          have F_647 := F_623.wr W141
          have F_648 := F_624.other W141 ne_ca_ad125
          have F_649 := F_625.wr W141
          have F_650 := F_626.wr W141
          have F_651 := F_627.wr W141
          have F_652 := F_628.wr W141
          have F_653 := F_629.other W141 ne_ad47_ad125
          have F_654 := F_630.wr W141
          have F_655 := F_631.wr W141
          have F_656 := F_632.other W141 ne_ad94_ad125
          have F_657 := F_633.other W141 (Or.inl ne_ad89_ad125)
          have F_658 := F_634.other W141 (Or.inl ne_ad89_ad125)
          have F_659 := F_635.other W141 ne_b_565_ad125
          have F_660 := F_636.wr W141
          refine gDup X w at_142 rfl (n := 143) rfl ?_
          refine gIconst X w at_143 (z := (2 : Int32)) rfl (n := 144) rfl ?_
          refine gIload X w at_144 rfl (n := 146) rfl ?_
          refine gBipush X w at_146 (z := (16 : Int32)) (by decide) (n := 148) rfl ?_
          obtain ⟨x148, q148⟩ : ∃ zz_ : Int32, Jvm.Free.XT.ushr p4 (16 : Int32) = zz_ := ⟨_, rfl⟩
          refine gIushr X w at_148 q148 (n := 149) rfl ?_
          obtain ⟨x149, q149⟩ : ∃ zz_ : Int32, (Int32.toInt8 x148).toInt32 = zz_ := ⟨_, rfl⟩
          have gz_x149 := own_fitb q149
          refine gI2b X w at_149 q149 (n := 150) rfl ?_
          refine gBastore X w (z := (.int x149)) V141 (by decide) (show (2 : Int) < ((3 : Nat) : Int) from by decide) na125 (congrArg Value.int (own_narb q149)) (vs' := [(.int x131), (.int x140), (.int x149)]) rfl at_150 (n := 151) rfl ?_
          intro T hp150 X W150 V150
          have F_661 := F_637.wr W150
          have F_662 := F_638.wr W150
          have F_663 := F_639.wr W150
          have F_664 := F_640.wr W150
          have F_665 := F_641.wr W150
          have F_666 := F_642.wr W150
          have F_667 := F_643.wr W150
          have F_668 := F_644.wr W150
          have F_669 := F_645.wr W150
          have F_670 := F_646.wr W150
          have F_671 := F_647.wr W150
          have F_672 := F_648.other W150 ne_ca_ad125
          have F_673 := F_649.wr W150
          have F_674 := F_650.wr W150
          have F_675 := F_651.wr W150
          have F_676 := F_652.wr W150
          have F_677 := F_653.other W150 ne_ad47_ad125
          have F_678 := F_654.wr W150
          have F_679 := F_655.wr W150
          have F_680 := F_656.other W150 ne_ad94_ad125
          have F_681 := F_657.other W150 (Or.inl ne_ad89_ad125)
          have F_682 := F_658.other W150 (Or.inl ne_ad89_ad125)
          have F_683 := F_659.other W150 ne_b_565_ad125
          have F_684 := F_660.wr W150
          refine gAstore X w at_151 rfl #[.val (.long p1), .second, .val (.int p2), .val (.int p3), .val (.int p4), .val (.int (1 : Int32)), .val (.int (0 : Int32)), .val (.ref b_434), .val (.ref b_448), .val (.ref ad47), .val (.ref ad89), .val (.ref ad125), .unset, .unset, .unset, .unset, .unset, .unset] rfl (n := 153) rfl ?_
          refine gAload X w at_153 rfl rfl (n := 155) rfl ?_
          refine gCallSv X w [(.ref ad125)] [] (own_of_3 l Z a0 hw ad125 x131 x140 x149 hp150 n0 (Sd.le X) V150 F_684 (by first | assumption | decide | (simp; done) | omega) (by first | assumption | decide | (simp; done) | omega) (by first | assumption | decide | (simp; done) | omega)) (own_wd hw 57 rfl) (own_wd hw 58 rfl) (own_wd hw 59 rfl) (own_wd hw 60 rfl) (by decide) own_pd11 rfl rfl at_155 rfl (W := 0) (Nat.le_of_eq rfl) (by decide) (by decide) (by decide) (by decide) (n := 158) rfl ?_
          rintro T h_685 _ ⟨K_685, b_685, rfl, g_b_685, na_b_685, Q0_685⟩ X
          have ne_sNULL_b_685 : sNULL ≠ b_685 := neOf F_662.lt g_b_685
          have ne_sINTEGER_b_685 : sINTEGER ≠ b_685 := neOf F_664.lt g_b_685
          have ne_sREAL_b_685 : sREAL ≠ b_685 := neOf F_666.lt g_b_685
          have ne_sTEXT_b_685 : sTEXT ≠ b_685 := neOf F_668.lt g_b_685
          have ne_sBLOB_b_685 : sBLOB ≠ b_685 := neOf F_670.lt g_b_685
          have ne_ca_b_685 : ca ≠ b_685 := neOf F_672.lt g_b_685
          have ne_b_434_b_685 : b_434 ≠ b_685 := neOf F_674.lt g_b_685
          have ne_b_448_b_685 : b_448 ≠ b_685 := neOf F_675.lt g_b_685
          have ne_ad47_b_685 : ad47 ≠ b_685 := neOf F_676.lt g_b_685
          have ne_ad89_b_685 : ad89 ≠ b_685 := neOf F_678.lt g_b_685
          have ne_ad94_b_685 : ad94 ≠ b_685 := neOf F_679.lt g_b_685
          have ne_b_565_b_685 : b_565 ≠ b_685 := neOf F_683.lt g_b_685
          have ne_ad125_b_685 : ad125 ≠ b_685 := neOf F_684.lt g_b_685
          have F_686 := staKeep F_661 K_685 all0
          have F_687 := F_662.keep K_685
          have F_688 := staKeep F_663 K_685 all0
          have F_689 := F_664.keep K_685
          have F_690 := staKeep F_665 K_685 all0
          have F_691 := F_666.keep K_685
          have F_692 := staKeep F_667 K_685 all0
          have F_693 := F_668.keep K_685
          have F_694 := staKeep F_669 K_685 all0
          have F_695 := F_670.keep K_685
          have F_696 := staKeep F_671 K_685 all0
          have F_697 := F_672.keep K_685 nin0
          have F_698 := staKeep F_673 K_685 all0
          have F_699 := F_674.keep K_685
          have F_700 := F_675.keep K_685
          have F_701 := F_676.keep K_685
          have F_702 := F_677.keep K_685 nin0
          have F_703 := F_678.keep K_685
          have F_704 := F_679.keep K_685
          have F_705 := F_680.keep K_685 nin0
          have F_706 := F_681.keep K_685 nin0
          have F_707 := F_682.keep K_685 nin0
          have F_708 := F_683.keep K_685 nin0
          have F_709 := F_684.keep K_685
          have F_710 := V150.keep K_685 nin0
          refine gAstore X w at_158 rfl #[.val (.long p1), .second, .val (.int p2), .val (.int p3), .val (.int p4), .val (.int (1 : Int32)), .val (.int (0 : Int32)), .val (.ref b_434), .val (.ref b_448), .val (.ref ad47), .val (.ref ad89), .val (.ref ad125), .val (.ref b_685), .unset, .unset, .unset, .unset, .unset] rfl (n := 160) rfl ?_
          refine gNull X w at_160 (n := 161) rfl ?_
          refine gCallSv X w [.null] [] (own_kind_null l Z a0 hw sNULL h_685 n0 (Sd.le X) F_686) (own_wd hw 78 rfl) (own_wd hw 79 rfl) (own_wd hw 80 rfl) (own_wd hw 81 rfl) (by decide) own_pd12 rfl rfl at_161 rfl (W := 0) (Nat.le_of_eq rfl) (by decide) (by decide) (by decide) (by decide) (n := 164) rfl ?_
          rintro T _ _ ⟨rfl, rfl⟩ X
          refine gGetS X w (own_wd hw 84 rfl) Via.refl F_686 at_164 (n := 167) rfl ?_
          intro T X
          refine gAcmp_ne X w at_167 rfl rfl (n := 174) (n' := 170) (by decide) rfl rfl ?_ ?_
          · intro c167
            exact absurd rfl c167
          · intro c167
            refine gIconst X w at_170 (z := (1 : Int32)) rfl (n := 171) rfl ?_
            refine gGoto X w at_171 (by decide) (n := 175) rfl ?_
            refine gIstore X w at_175 #[.val (.long p1), .second, .val (.int p2), .val (.int p3), .val (.int p4), .val (.int (1 : Int32)), .val (.int (0 : Int32)), .val (.ref b_434), .val (.ref b_448), .val (.ref ad47), .val (.ref ad89), .val (.ref ad125), .val (.ref b_685), .val (.int (1 : Int32)), .unset, .unset, .unset, .unset] rfl (n := 177) rfl ?_
            refine gAload X w at_177 rfl rfl (n := 179) rfl ?_
            refine gCallSv X w [(.ref b_434)] [] (own_kind_INTEGER l Z a0 hw b_434 sINTEGER h_685 n0 (Sd.le X) F_699 F_688) (own_wd hw 78 rfl) (own_wd hw 79 rfl) (own_wd hw 80 rfl) (own_wd hw 81 rfl) (by decide) own_pd12 rfl rfl at_179 rfl (W := 0) (Nat.le_of_eq rfl) (by decide) (by decide) (by decide) (by decide) (n := 182) rfl ?_
            rintro T _ _ ⟨rfl, rfl⟩ X
            refine gGetS X w (own_wd hw 89 rfl) Via.refl F_688 at_182 (n := 185) rfl ?_
            intro T X
            refine gAcmp_ne X w at_185 rfl rfl (n := 192) (n' := 188) (by decide) rfl rfl ?_ ?_
            · intro c185
              exact absurd rfl c185
            · intro c185
              refine gIconst X w at_188 (z := (1 : Int32)) rfl (n := 189) rfl ?_
              refine gGoto X w at_189 (by decide) (n := 193) rfl ?_
              refine gIstore X w at_193 #[.val (.long p1), .second, .val (.int p2), .val (.int p3), .val (.int p4), .val (.int (1 : Int32)), .val (.int (0 : Int32)), .val (.ref b_434), .val (.ref b_448), .val (.ref ad47), .val (.ref ad89), .val (.ref ad125), .val (.ref b_685), .val (.int (1 : Int32)), .val (.int (1 : Int32)), .unset, .unset, .unset] rfl (n := 195) rfl ?_
              refine gAload X w at_195 rfl rfl (n := 197) rfl ?_
              refine gCallSv X w [(.ref b_448)] [] (own_kind_REAL l Z a0 hw b_448 sREAL h_685 n0 (Sd.le X) F_700 F_690) (own_wd hw 78 rfl) (own_wd hw 79 rfl) (own_wd hw 80 rfl) (own_wd hw 81 rfl) (by decide) own_pd12 rfl rfl at_197 rfl (W := 0) (Nat.le_of_eq rfl) (by decide) (by decide) (by decide) (by decide) (n := 200) rfl ?_
              rintro T _ _ ⟨rfl, rfl⟩ X
              refine gGetS X w (own_wd hw 96 rfl) Via.refl F_690 at_200 (n := 203) rfl ?_
              intro T X
              refine gAcmp_ne X w at_203 rfl rfl (n := 210) (n' := 206) (by decide) rfl rfl ?_ ?_
              · intro c203
                exact absurd rfl c203
              · intro c203
                refine gIconst X w at_206 (z := (1 : Int32)) rfl (n := 207) rfl ?_
                refine gGoto X w at_207 (by decide) (n := 211) rfl ?_
                refine gIstore X w at_211 #[.val (.long p1), .second, .val (.int p2), .val (.int p3), .val (.int p4), .val (.int (1 : Int32)), .val (.int (0 : Int32)), .val (.ref b_434), .val (.ref b_448), .val (.ref ad47), .val (.ref ad89), .val (.ref ad125), .val (.ref b_685), .val (.int (1 : Int32)), .val (.int (1 : Int32)), .val (.int (1 : Int32)), .unset, .unset] rfl (n := 213) rfl ?_
                refine gAload X w at_213 rfl rfl (n := 215) rfl ?_
                refine gCallSv X w [(.ref ad89)] [] (own_kind_TEXT l Z a0 hw ad89 sTEXT h_685 n0 (Sd.le X) F_703 F_692) (own_wd hw 78 rfl) (own_wd hw 79 rfl) (own_wd hw 80 rfl) (own_wd hw 81 rfl) (by decide) own_pd12 rfl rfl at_215 rfl (W := 0) (Nat.le_of_eq rfl) (by decide) (by decide) (by decide) (by decide) (n := 218) rfl ?_
                rintro T _ _ ⟨rfl, rfl⟩ X
                refine gGetS X w (own_wd hw 101 rfl) Via.refl F_692 at_218 (n := 221) rfl ?_
                intro T X
                refine gAcmp_ne X w at_221 rfl rfl (n := 228) (n' := 224) (by decide) rfl rfl ?_ ?_
                · intro c221
                  exact absurd rfl c221
                · intro c221
                  refine gIconst X w at_224 (z := (1 : Int32)) rfl (n := 225) rfl ?_
                  refine gGoto X w at_225 (by decide) (n := 229) rfl ?_
                  refine gIstore X w at_229 #[.val (.long p1), .second, .val (.int p2), .val (.int p3), .val (.int p4), .val (.int (1 : Int32)), .val (.int (0 : Int32)), .val (.ref b_434), .val (.ref b_448), .val (.ref ad47), .val (.ref ad89), .val (.ref ad125), .val (.ref b_685), .val (.int (1 : Int32)), .val (.int (1 : Int32)), .val (.int (1 : Int32)), .val (.int (1 : Int32)), .unset] rfl (n := 231) rfl ?_
                  refine gAload X w at_231 rfl rfl (n := 233) rfl ?_
                  refine gCallSv X w [(.ref b_685)] [] (own_kind_BLOB l Z a0 hw b_685 sBLOB h_685 n0 (Sd.le X) Q0_685 F_694) (own_wd hw 78 rfl) (own_wd hw 79 rfl) (own_wd hw 80 rfl) (own_wd hw 81 rfl) (by decide) own_pd12 rfl rfl at_233 rfl (W := 0) (Nat.le_of_eq rfl) (by decide) (by decide) (by decide) (by decide) (n := 236) rfl ?_
                  rintro T _ _ ⟨rfl, rfl⟩ X
                  refine gGetS X w (own_wd hw 107 rfl) Via.refl F_694 at_236 (n := 239) rfl ?_
                  intro T X
                  refine gAcmp_ne X w at_239 rfl rfl (n := 246) (n' := 242) (by decide) rfl rfl ?_ ?_
                  · intro c239
                    exact absurd rfl c239
                  · intro c239
                    refine gIconst X w at_242 (z := (1 : Int32)) rfl (n := 243) rfl ?_
                    refine gGoto X w at_243 (by decide) (n := 247) rfl ?_
                    refine gIstore X w at_247 #[.val (.long p1), .second, .val (.int p2), .val (.int p3), .val (.int p4), .val (.int (1 : Int32)), .val (.int (0 : Int32)), .val (.ref b_434), .val (.ref b_448), .val (.ref ad47), .val (.ref ad89), .val (.ref ad125), .val (.ref b_685), .val (.int (1 : Int32)), .val (.int (1 : Int32)), .val (.int (1 : Int32)), .val (.int (1 : Int32)), .val (.int (1 : Int32))] rfl (n := 249) rfl ?_
                    refine gIload X w at_249 rfl (n := 251) rfl ?_
                    refine gIf_eq X w at_251 (n := 278) (n' := 254) (by decide) rfl rfl ?_ ?_
                    · rintro ⟨c251, c251'⟩
                      exact absurd c251 (by decide)
                    · rintro ⟨c251, c251'⟩
                      refine gIload X w at_254 rfl (n := 256) rfl ?_
                      refine gIf_eq X w at_256 (n := 278) (n' := 259) (by decide) rfl rfl ?_ ?_
                      · rintro ⟨c256, c256'⟩
                        exact absurd c256 (by decide)
                      · rintro ⟨c256, c256'⟩
                        refine gIload X w at_259 rfl (n := 261) rfl ?_
                        refine gIf_eq X w at_261 (n := 278) (n' := 264) (by decide) rfl rfl ?_ ?_
                        · rintro ⟨c261, c261'⟩
                          exact absurd c261 (by decide)
                        · rintro ⟨c261, c261'⟩
                          refine gIload X w at_264 rfl (n := 266) rfl ?_
                          refine gIf_eq X w at_266 (n := 278) (n' := 269) (by decide) rfl rfl ?_ ?_
                          · rintro ⟨c266, c266'⟩
                            exact absurd c266 (by decide)
                          · rintro ⟨c266, c266'⟩
                            refine gIload X w at_269 rfl (n := 271) rfl ?_
                            refine gIf_eq X w at_271 (n := 278) (n' := 274) (by decide) rfl rfl ?_ ?_
                            · rintro ⟨c271, c271'⟩
                              exact absurd c271 (by decide)
                            · rintro ⟨c271, c271'⟩
                              refine gIconst X w at_274 (z := (1 : Int32)) rfl (n := 275) rfl ?_
                              refine gGoto X w at_275 (by decide) (n := 279) rfl ?_
                              exact gRetZ X w rfl (Or.inr rfl) at_279 (by decide) (by decide) (rfl)
        · rintro ⟨c115, c115'⟩
          exact absurd c115 (by decide)
    · rintro ⟨c23, c23'⟩
      refine gIconst X w at_26 (z := (1 : Int32)) rfl (n := 27) rfl ?_
      refine gGoto X w at_27 (by decide) (n := 31) rfl ?_
      refine gIstore X w at_31 #[.val (.long p1), .second, .val (.int p2), .val (.int p3), .val (.int p4), .val (.int (1 : Int32)), .val (.int (1 : Int32)), .unset, .unset, .unset, .unset, .unset, .unset, .unset, .unset, .unset, .unset, .unset] rfl (n := 33) rfl ?_
      refine gJloadN X w at_33 rfl (n := 34) rfl ?_
      refine gCallSv X w [(.long p1)] [] (own_lval l Z a0 hw p1 ca cs h0 n0 (Sd.le X) Sca Vca hbx) (own_wd hw 0 rfl) (own_wd hw 1 rfl) (own_wd hw 2 rfl) (own_wd hw 3 rfl) (by decide) own_pd8 rfl rfl at_34 rfl (W := 0) (Nat.le_of_eq rfl) (by decide) (by decide) (by decide) (by decide) (n := 37) rfl ?_
      rintro T h_716 _ ⟨K_716, b_716, rfl, Q0_716⟩ X
      have F_717 := staKeep S_sNULL K_716 all0
      have F_718 := E_sNULL.keep K_716
      have F_719 := staKeep S_sINTEGER K_716 all0
      have F_720 := E_sINTEGER.keep K_716
      have F_721 := staKeep S_sREAL K_716 all0
      have F_722 := E_sREAL.keep K_716
      have F_723 := staKeep S_sTEXT K_716 all0
      have F_724 := E_sTEXT.keep K_716
      have F_725 := staKeep S_sBLOB K_716 all0
      have F_726 := E_sBLOB.keep K_716
      have F_727 := staKeep Sca K_716 all0
      have F_728 := Vca.keep K_716 nin0
      have F_729 := staKeep Scs K_716 all0
      refine gAstore X w at_37 rfl #[.val (.long p1), .second, .val (.int p2), .val (.int p3), .val (.int p4), .val (.int (1 : Int32)), .val (.int (1 : Int32)), .val (.ref b_716), .unset, .unset, .unset, .unset, .unset, .unset, .unset, .unset, .unset, .unset] rfl (n := 39) rfl ?_
      refine gIloadN X w at_39 rfl (n := 40) rfl ?_
      obtain ⟨u40, q40⟩ : ∃ zz_ : UInt64, FP.i2d p2 = zz_ := ⟨_, rfl⟩
      refine gI2d X w at_40 q40 (n := 41) rfl ?_
      refine gCallSv X w [(.double u40)] [] (own_dval l Z a0 hw u40 h_716 n0 (Sd.le X) ) (own_wd hw 8 rfl) (own_wd hw 9 rfl) (own_wd hw 10 rfl) (own_wd hw 11 rfl) (by decide) own_pd9 rfl rfl at_41 rfl (W := 0) (Nat.le_of_eq rfl) (by decide) (by decide) (by decide) (by decide) (n := 44) rfl ?_
      rintro T h_730 _ ⟨K_730, b_730, rfl, g_b_730, na_b_730, Q0_730⟩ X
      have ne_sNULL_b_730 : sNULL ≠ b_730 := neOf F_718.lt g_b_730
      have ne_sINTEGER_b_730 : sINTEGER ≠ b_730 := neOf F_720.lt g_b_730
      have ne_sREAL_b_730 : sREAL ≠ b_730 := neOf F_722.lt g_b_730
      have ne_sTEXT_b_730 : sTEXT ≠ b_730 := neOf F_724.lt g_b_730
      have ne_sBLOB_b_730 : sBLOB ≠ b_730 := neOf F_726.lt g_b_730
      have ne_ca_b_730 : ca ≠ b_730 := neOf F_728.lt g_b_730
      have ne_b_716_b_730 : b_716 ≠ b_730 := neOf Q0_716.lt g_b_730
      have F_731 := staKeep F_717 K_730 all0
      have F_732 := F_718.keep K_730
      have F_733 := staKeep F_719 K_730 all0
      have F_734 := F_720.keep K_730
      have F_735 := staKeep F_721 K_730 all0
      have F_736 := F_722.keep K_730
      have F_737 := staKeep F_723 K_730 all0
      have F_738 := F_724.keep K_730
      have F_739 := staKeep F_725 K_730 all0
      have F_740 := F_726.keep K_730
      have F_741 := staKeep F_727 K_730 all0
      have F_742 := F_728.keep K_730 nin0
      have F_743 := staKeep F_729 K_730 all0
      have F_744 := Q0_716.keep K_730
      refine gAstore X w at_44 rfl #[.val (.long p1), .second, .val (.int p2), .val (.int p3), .val (.int p4), .val (.int (1 : Int32)), .val (.int (1 : Int32)), .val (.ref b_716), .val (.ref b_730), .unset, .unset, .unset, .unset, .unset, .unset, .unset, .unset, .unset] rfl (n := 46) rfl ?_
      refine gIconst X w at_46 (z := (3 : Int32)) rfl (n := 47) rfl ?_
      refine gNewP X w (own_wd hw 29 rfl) at_47 (by decide) (cap := 3) (by decide) (by decide) (by decide) (by decide) (vs := [(.int (0 : Int32)), (.int (0 : Int32)), (.int (0 : Int32))]) (ty := .char) rfl rfl (ad := "[C") (by decide) (n := 49) rfl ?_
      intro T hp47 ad47 ea47 na47 X E47 V47 A47
      have ne_sNULL_ad47 : sNULL ≠ ad47 := neOf F_732.lt (Nat.le_of_eq ea47.symm)
      have ne_sINTEGER_ad47 : sINTEGER ≠ ad47 := neOf F_734.lt (Nat.le_of_eq ea47.symm)
      have ne_sREAL_ad47 : sREAL ≠ ad47 := neOf F_736.lt (Nat.le_of_eq ea47.symm)
      have ne_sTEXT_ad47 : sTEXT ≠ ad47 := neOf F_738.lt (Nat.le_of_eq ea47.symm)
      have ne_sBLOB_ad47 : sBLOB ≠ ad47 := neOf F_740.lt (Nat.le_of_eq ea47.symm)
      have ne_ca_ad47 : ca ≠ ad47 := neOf F_742.lt (Nat.le_of_eq ea47.symm)
      have ne_b_716_ad47 : b_716 ≠ ad47 := neOf F_744.lt (Nat.le_of_eq ea47.symm)
      have ne_b_730_ad47 : b_730 ≠ ad47 := neOf Q0_730.lt (Nat.le_of_eq ea47.symm)
      have F_745 := F_731.ext E47
      have F_746 := F_732.ext E47
      have F_747 := F_733.ext E47
      have F_748 := F_734.ext E47
      have F_749 := F_735.ext E47
      have F_750 := F_736.ext E47
      have F_751 := F_737.ext E47
      have F_752 := F_738.ext E47
      have F_753 := F_739.ext E47
      have F_754 := F_740.ext E47
      have F_755 := F_741.ext E47
      have F_756 := F_742.ext E47
      have F_757 := F_743.ext E47
      have F_758 := F_744.ext E47
      have F_759 := Q0_730.ext E47
      refine gDup X w at_49 rfl (n := 50) rfl ?_
      refine gIconst X w at_50 (z := (0 : Int32)) rfl (n := 51) rfl ?_
      refine gIloadN X w at_51 rfl (n := 52) rfl ?_
      refine gSipush X w at_52 (z := (255 : Int32)) (by decide) (n := 55) rfl ?_
      obtain ⟨x55, q55⟩ : ∃ zz_ : Int32, p3 &&& (255 : Int32) = zz_ := ⟨_, rfl⟩
      refine gIand X w at_55 q55 (n := 56) rfl ?_
      obtain ⟨x56, q56⟩ : ∃ zz_ : Int32, (Int32.toUInt32 x55).toUInt16.toUInt32.toInt32 = zz_ := ⟨_, rfl⟩
      have hz_x56 := own_c255 q55 q56
      refine gI2c X w at_56 q56 (n := 57) rfl ?_
      refine gCastore X w (z := (.int x56)) V47 (by decide) (show (0 : Int) < ((3 : Nat) : Int) from by decide) na47 (congrArg Value.int (own_narc hz_x56)) (vs' := [(.int x56), (.int (0 : Int32)), (.int (0 : Int32))]) rfl at_57 (n := 58) rfl ?_
      intro T hp57 X W57 V57
      have F_760 := F_745.wr W57
      have F_761 := F_746.wr W57
      have F_762 := F_747.wr W57
      have F_763 := F_748.wr W57
      have F_764 := F_749.wr W57
      have F_765 := F_750.wr W57
      have F_766 := F_751.wr W57
      have F_767 := F_752.wr W57
      have F_768 := F_753.wr W57
      have F_769 := F_754.wr W57
      have F_770 := F_755.wr W57
      have F_771 := F_756.other W57 ne_ca_ad47
      have F_772 := F_757.wr W57
      have F_773 := F_758.wr W57
      have F_774 := F_759.wr W57
      have F_775 := A47.wr W57
      refine gDup X w at_58 rfl (n := 59) rfl ?_
      refine gIconst X w at_59 (z := (1 : Int32)) rfl (n := 60) rfl ?_
      refine gIloadN X w at_60 rfl (n := 61) rfl ?_
      refine gBipush X w at_61 (z := (8 : Int32)) (by decide) (n := 63) rfl ?_
      obtain ⟨x63, q63⟩ : ∃ zz_ : Int32, Jvm.Free.XT.ushr p3 (8 : Int32) = zz_ := ⟨_, rfl⟩
      refine gIushr X w at_63 q63 (n := 64) rfl ?_
      refine gSipush X w at_64 (z := (255 : Int32)) (by decide) (n := 67) rfl ?_
      obtain ⟨x67, q67⟩ : ∃ zz_ : Int32, x63 &&& (255 : Int32) = zz_ := ⟨_, rfl⟩
      refine gIand X w at_67 q67 (n := 68) rfl ?_
      obtain ⟨x68, q68⟩ : ∃ zz_ : Int32, (Int32.toUInt32 x67).toUInt16.toUInt32.toInt32 = zz_ := ⟨_, rfl⟩
      have hz_x68 := own_c255 q67 q68
      refine gI2c X w at_68 q68 (n := 69) rfl ?_
      refine gCastore X w (z := (.int x68)) V57 (by decide) (show (1 : Int) < ((3 : Nat) : Int) from by decide) na47 (congrArg Value.int (own_narc hz_x68)) (vs' := [(.int x56), (.int x68), (.int (0 : Int32))]) rfl at_69 (n := 70) rfl ?_
      intro T hp69 X W69 V69
      have F_776 := F_760.wr W69
      have F_777 := F_761.wr W69
      have F_778 := F_762.wr W69
      have F_779 := F_763.wr W69
      have F_780 := F_764.wr W69
      have F_781 := F_765.wr W69
      have F_782 := F_766.wr W69
      have F_783 := F_767.wr W69
      have F_784 := F_768.wr W69
      have F_785 := F_769.wr W69
      have F_786 := F_770.wr W69
      have F_787 := F_771.other W69 ne_ca_ad47
      have F_788 := F_772.wr W69
      have F_789 := F_773.wr W69
      have F_790 := F_774.wr W69
      have F_791 := F_775.wr W69
      refine gDup X w at_70 rfl (n := 71) rfl ?_
      refine gIconst X w at_71 (z := (2 : Int32)) rfl (n := 72) rfl ?_
      refine gIloadN X w at_72 rfl (n := 73) rfl ?_
      refine gBipush X w at_73 (z := (16 : Int32)) (by decide) (n := 75) rfl ?_
      obtain ⟨x75, q75⟩ : ∃ zz_ : Int32, Jvm.Free.XT.ushr p3 (16 : Int32) = zz_ := ⟨_, rfl⟩
      refine gIushr X w at_75 q75 (n := 76) rfl ?_
      refine gSipush X w at_76 (z := (255 : Int32)) (by decide) (n := 79) rfl ?_
      obtain ⟨x79, q79⟩ : ∃ zz_ : Int32, x75 &&& (255 : Int32) = zz_ := ⟨_, rfl⟩
      refine gIand X w at_79 q79 (n := 80) rfl ?_
      obtain ⟨x80, q80⟩ : ∃ zz_ : Int32, (Int32.toUInt32 x79).toUInt16.toUInt32.toInt32 = zz_ := ⟨_, rfl⟩
      have hz_x80 := own_c255 q79 q80
      refine gI2c X w at_80 q80 (n := 81) rfl ?_
      refine gCastore X w (z := (.int x80)) V69 (by decide) (show (2 : Int) < ((3 : Nat) : Int) from by decide) na47 (congrArg Value.int (own_narc hz_x80)) (vs' := [(.int x56), (.int x68), (.int x80)]) rfl at_81 (n := 82) rfl ?_
      intro T hp81 X W81 V81
      have F_792 := F_776.wr W81
      have F_793 := F_777.wr W81
      have F_794 := F_778.wr W81
      have F_795 := F_779.wr W81
      have F_796 := F_780.wr W81
      have F_797 := F_781.wr W81
      have F_798 := F_782.wr W81
      have F_799 := F_783.wr W81
      have F_800 := F_784.wr W81
      have F_801 := F_785.wr W81
      have F_802 := F_786.wr W81
      have F_803 := F_787.other W81 ne_ca_ad47
      have F_804 := F_788.wr W81
      have F_805 := F_789.wr W81
      have F_806 := F_790.wr W81
      have F_807 := F_791.wr W81
      refine gAstore X w at_82 rfl #[.val (.long p1), .second, .val (.int p2), .val (.int p3), .val (.int p4), .val (.int (1 : Int32)), .val (.int (1 : Int32)), .val (.ref b_716), .val (.ref b_730), .val (.ref ad47), .unset, .unset, .unset, .unset, .unset, .unset, .unset, .unset] rfl (n := 84) rfl ?_
      refine gIload X w at_84 rfl (n := 86) rfl ?_
      refine gIf_eq X w at_86 (n := 102) (n' := 89) (by decide) rfl rfl ?_ ?_
      · rintro ⟨c86, c86'⟩
        exact absurd c86 (by decide)
      · rintro ⟨c86, c86'⟩
        refine gNew X w (own_wd hw 30 rfl) (own_wd hw 31 rfl) (own_wd hw 32 rfl) at_89 (by decide) (by decide) (n := 92) rfl ?_
        intro T hp89 ad89 ea89 na89 X E89 A89 D89
        have ne_sNULL_ad89 : sNULL ≠ ad89 := neOf F_793.lt (Nat.le_of_eq ea89.symm)
        have ne_sINTEGER_ad89 : sINTEGER ≠ ad89 := neOf F_795.lt (Nat.le_of_eq ea89.symm)
        have ne_sREAL_ad89 : sREAL ≠ ad89 := neOf F_797.lt (Nat.le_of_eq ea89.symm)
        have ne_sTEXT_ad89 : sTEXT ≠ ad89 := neOf F_799.lt (Nat.le_of_eq ea89.symm)
        have ne_sBLOB_ad89 : sBLOB ≠ ad89 := neOf F_801.lt (Nat.le_of_eq ea89.symm)
        have ne_ca_ad89 : ca ≠ ad89 := neOf F_803.lt (Nat.le_of_eq ea89.symm)
        have ne_b_716_ad89 : b_716 ≠ ad89 := neOf F_805.lt (Nat.le_of_eq ea89.symm)
        have ne_b_730_ad89 : b_730 ≠ ad89 := neOf F_806.lt (Nat.le_of_eq ea89.symm)
        have ne_ad47_ad89 : ad47 ≠ ad89 := neOf F_807.lt (Nat.le_of_eq ea89.symm)
        have F_808 := F_792.ext E89
        have F_809 := F_793.ext E89
        have F_810 := F_794.ext E89
        have F_811 := F_795.ext E89
        have F_812 := F_796.ext E89
        have F_813 := F_797.ext E89
        have F_814 := F_798.ext E89
        have F_815 := F_799.ext E89
        have F_816 := F_800.ext E89
        have F_817 := F_801.ext E89
        have F_818 := F_802.ext E89
        have F_819 := F_803.ext E89
        have F_820 := F_804.ext E89
        have F_821 := F_805.ext E89
        have F_822 := F_806.ext E89
        have F_823 := F_807.ext E89
        have F_824 := V81.ext E89
        have F_825 : Fld Z hp89 ad89 "java/lang/String" "coder" "B" (.int (0 : Int32)) := D89 (Or.inr (own_wd hw 54 rfl)) (ty := .byte) (by decide)
        have F_826 : Fld Z hp89 ad89 "java/lang/String" "value" "[B" .null := D89 (Or.inr (own_wd hw 56 rfl)) (ty := (.array .byte)) (by decide)
        refine gDup X w at_92 rfl (n := 93) rfl ?_
        refine gIconst X w at_93 (z := (0 : Int32)) rfl (n := 94) rfl ?_
        refine gNewP X w (own_wd hw 29 rfl) at_94 (by decide) (cap := 0) (by decide) (by decide) (by decide) (by decide) (vs := []) (ty := .char) rfl rfl (ad := "[C") (by decide) (n := 96) rfl ?_
        intro T hp94 ad94 ea94 na94 X E94 V94 A94
        have ne_sNULL_ad94 : sNULL ≠ ad94 := neOf F_809.lt (Nat.le_of_eq ea94.symm)
        have ne_sINTEGER_ad94 : sINTEGER ≠ ad94 := neOf F_811.lt (Nat.le_of_eq ea94.symm)
        have ne_sREAL_ad94 : sREAL ≠ ad94 := neOf F_813.lt (Nat.le_of_eq ea94.symm)
        have ne_sTEXT_ad94 : sTEXT ≠ ad94 := neOf F_815.lt (Nat.le_of_eq ea94.symm)
        have ne_sBLOB_ad94 : sBLOB ≠ ad94 := neOf F_817.lt (Nat.le_of_eq ea94.symm)
        have ne_ca_ad94 : ca ≠ ad94 := neOf F_819.lt (Nat.le_of_eq ea94.symm)
        have ne_b_716_ad94 : b_716 ≠ ad94 := neOf F_821.lt (Nat.le_of_eq ea94.symm)
        have ne_b_730_ad94 : b_730 ≠ ad94 := neOf F_822.lt (Nat.le_of_eq ea94.symm)
        have ne_ad47_ad94 : ad47 ≠ ad94 := neOf F_823.lt (Nat.le_of_eq ea94.symm)
        have ne_ad89_ad94 : ad89 ≠ ad94 := neOf A89.lt (Nat.le_of_eq ea94.symm)
        have F_827 := F_808.ext E94
        have F_828 := F_809.ext E94
        have F_829 := F_810.ext E94
        have F_830 := F_811.ext E94
        have F_831 := F_812.ext E94
        have F_832 := F_813.ext E94
        have F_833 := F_814.ext E94
        have F_834 := F_815.ext E94
        have F_835 := F_816.ext E94
        have F_836 := F_817.ext E94
        have F_837 := F_818.ext E94
        have F_838 := F_819.ext E94
        have F_839 := F_820.ext E94
        have F_840 := F_821.ext E94
        have F_841 := F_822.ext E94
        have F_842 := F_823.ext E94
        have F_843 := F_824.ext E94
        have F_844 := A89.ext E94
        have F_845 := F_825.ext E94
        have F_846 := F_826.ext E94
        refine gCallInL X w [(.ref ad94)] [(.ref ad89)] rfl (own_sinit_0 l Z a0 hw ad89 ad94 hp94 n0 (Sd.le X) F_844 F_846 F_845 V94 (Ne.symm ne_ad89_ad94) na89) (own_wd hw 33 rfl) (own_wd hw 34 rfl) (own_wd hw 32 rfl) (own_wd hw 35 rfl) (by decide) own_pd10 rfl rfl at_96 rfl (W := 1) (Nat.le_of_eq rfl) (by decide) (by decide) (by decide) (by decide) (n := 99) rfl ?_
        rintro T h_847 D_847 ⟨R_847, K_847, b_847, Q0_847, Q1_847, Q2_847⟩ X
        have F_848 := R_847 na_b_730 F_841.lt
        have F_849 := R_847 na47 F_842.lt
        have F_850 := R_847 na89 F_844.lt
        have F_851 := R_847 na94 A94.lt
        have F_852 := staKeep F_827 K_847 (allS (Exa.nostat F_844) all0)
        have F_853 := F_828.keep K_847
        have F_854 := staKeep F_829 K_847 (allS (Exa.nostat F_844) all0)
        have F_855 := F_830.keep K_847
        have F_856 := staKeep F_831 K_847 (allS (Exa.nostat F_844) all0)
        have F_857 := F_832.keep K_847
        have F_858 := staKeep F_833 K_847 (allS (Exa.nostat F_844) all0)
        have F_859 := F_834.keep K_847
        have F_860 := staKeep F_835 K_847 (allS (Exa.nostat F_844) all0)
        have F_861 := F_836.keep K_847
        have F_862 := staKeep F_837 K_847 (allS (Exa.nostat F_844) all0)
        have F_863 := F_838.keep K_847 (ninS ne_ca_ad89 nin0)
        have F_864 := staKeep F_839 K_847 (allS (Exa.nostat F_844) all0)
        have F_865 := F_840.keep K_847
        have F_866 := F_841.keep K_847
        have F_867 := F_842.keep K_847
        have F_868 := F_843.keep K_847 (ninS ne_ad47_ad89 nin0)
        have F_869 := F_844.keep K_847
        have F_870 := A94.keep K_847
        have F_871 := V94.keep K_847 (ninS (Ne.symm ne_ad89_ad94) nin0)
        refine gGoto X w at_99 (by decide) (n := 111) rfl ?_
        refine gAstore X w at_111 rfl #[.val (.long p1), .second, .val (.int p2), .val (.int p3), .val (.int p4), .val (.int (1 : Int32)), .val (.int (1 : Int32)), .val (.ref b_716), .val (.ref b_730), .val (.ref ad47), .val (.ref ad89), .unset, .unset, .unset, .unset, .unset, .unset, .unset] rfl (n := 113) rfl ?_
        refine gIload X w at_113 rfl (n := 115) rfl ?_
        refine gIf_eq X w at_115 (n := 124) (n' := 118) (by decide) rfl rfl ?_ ?_
        · rintro ⟨c115, c115'⟩
          exact absurd c115 (by decide)
        · rintro ⟨c115, c115'⟩
          refine gIconst X w at_118 (z := (0 : Int32)) rfl (n := 119) rfl ?_
          refine gNewP X w (own_wd hw 46 rfl) at_119 (by decide) (cap := 0) (by decide) (by decide) (by decide) (by decide) (vs := []) (ty := .byte) rfl rfl (ad := "[B") (by decide) (n := 121) rfl ?_
          intro T hp119 ad119 ea119 na119 X E119 V119 A119
          have ne_sNULL_ad119 : sNULL ≠ ad119 := neOf F_853.lt (Nat.le_of_eq ea119.symm)
          have ne_sINTEGER_ad119 : sINTEGER ≠ ad119 := neOf F_855.lt (Nat.le_of_eq ea119.symm)
          have ne_sREAL_ad119 : sREAL ≠ ad119 := neOf F_857.lt (Nat.le_of_eq ea119.symm)
          have ne_sTEXT_ad119 : sTEXT ≠ ad119 := neOf F_859.lt (Nat.le_of_eq ea119.symm)
          have ne_sBLOB_ad119 : sBLOB ≠ ad119 := neOf F_861.lt (Nat.le_of_eq ea119.symm)
          have ne_ca_ad119 : ca ≠ ad119 := neOf F_863.lt (Nat.le_of_eq ea119.symm)
          have ne_b_716_ad119 : b_716 ≠ ad119 := neOf F_865.lt (Nat.le_of_eq ea119.symm)
          have ne_b_730_ad119 : b_730 ≠ ad119 := neOf F_866.lt (Nat.le_of_eq ea119.symm)
          have ne_ad47_ad119 : ad47 ≠ ad119 := neOf F_867.lt (Nat.le_of_eq ea119.symm)
          have ne_ad89_ad119 : ad89 ≠ ad119 := neOf F_869.lt (Nat.le_of_eq ea119.symm)
          have ne_ad94_ad119 : ad94 ≠ ad119 := neOf F_870.lt (Nat.le_of_eq ea119.symm)
          have ne_b_847_ad119 : b_847 ≠ ad119 := neOf Q2_847.lt (Nat.le_of_eq ea119.symm)
          have F_872 := F_852.ext E119
          have F_873 := F_853.ext E119
          have F_874 := F_854.ext E119
          have F_875 := F_855.ext E119
          have F_876 := F_856.ext E119
          have F_877 := F_857.ext E119
          have F_878 := F_858.ext E119
          have F_879 := F_859.ext E119
          have F_880 := F_860.ext E119
          have F_881 := F_861.ext E119
          have F_882 := F_862.ext E119
          have F_883 := F_863.ext E119
          have F_884 := F_864.ext E119
          have F_885 := F_865.ext E119
          have F_886 := F_866.ext E119
          have F_887 := F_867.ext E119
          have F_888 := F_868.ext E119
          have F_889 := F_869.ext E119
          have F_890 := F_870.ext E119
          have F_891 := F_871.ext E119
          have F_892 := Q0_847.ext E119
          have F_893 := Q1_847.ext E119
          have F_894 := Q2_847.ext E119
          refine gGoto X w at_121 (by decide) (n := 151) rfl ?_
          refine gAstore X w at_151 rfl #[.val (.long p1), .second, .val (.int p2), .val (.int p3), .val (.int p4), .val (.int (1 : Int32)), .val (.int (1 : Int32)), .val (.ref b_716), .val (.ref b_730), .val (.ref ad47), .val (.ref ad89), .val (.ref ad119), .unset, .unset, .unset, .unset, .unset, .unset] rfl (n := 153) rfl ?_
          refine gAload X w at_153 rfl rfl (n := 155) rfl ?_
          refine gCallSv X w [(.ref ad119)] [] (own_of_0 l Z a0 hw ad119 hp119 n0 (Sd.le X) V119 A119) (own_wd hw 57 rfl) (own_wd hw 58 rfl) (own_wd hw 59 rfl) (own_wd hw 60 rfl) (by decide) own_pd11 rfl rfl at_155 rfl (W := 0) (Nat.le_of_eq rfl) (by decide) (by decide) (by decide) (by decide) (n := 158) rfl ?_
          rintro T h_895 _ ⟨K_895, b_895, rfl, g_b_895, na_b_895, Q0_895⟩ X
          have ne_sNULL_b_895 : sNULL ≠ b_895 := neOf F_873.lt g_b_895
          have ne_sINTEGER_b_895 : sINTEGER ≠ b_895 := neOf F_875.lt g_b_895
          have ne_sREAL_b_895 : sREAL ≠ b_895 := neOf F_877.lt g_b_895
          have ne_sTEXT_b_895 : sTEXT ≠ b_895 := neOf F_879.lt g_b_895
          have ne_sBLOB_b_895 : sBLOB ≠ b_895 := neOf F_881.lt g_b_895
          have ne_ca_b_895 : ca ≠ b_895 := neOf F_883.lt g_b_895
          have ne_b_716_b_895 : b_716 ≠ b_895 := neOf F_885.lt g_b_895
          have ne_b_730_b_895 : b_730 ≠ b_895 := neOf F_886.lt g_b_895
          have ne_ad47_b_895 : ad47 ≠ b_895 := neOf F_887.lt g_b_895
          have ne_ad89_b_895 : ad89 ≠ b_895 := neOf F_889.lt g_b_895
          have ne_ad94_b_895 : ad94 ≠ b_895 := neOf F_890.lt g_b_895
          have ne_b_847_b_895 : b_847 ≠ b_895 := neOf F_894.lt g_b_895
          have ne_ad119_b_895 : ad119 ≠ b_895 := neOf A119.lt g_b_895
          have F_896 := staKeep F_872 K_895 all0
          have F_897 := F_873.keep K_895
          have F_898 := staKeep F_874 K_895 all0
          have F_899 := F_875.keep K_895
          have F_900 := staKeep F_876 K_895 all0
          have F_901 := F_877.keep K_895
          have F_902 := staKeep F_878 K_895 all0
          have F_903 := F_879.keep K_895
          have F_904 := staKeep F_880 K_895 all0
          have F_905 := F_881.keep K_895
          have F_906 := staKeep F_882 K_895 all0
          have F_907 := F_883.keep K_895 nin0
          have F_908 := staKeep F_884 K_895 all0
          have F_909 := F_885.keep K_895
          have F_910 := F_886.keep K_895
          have F_911 := F_887.keep K_895
          have F_912 := F_888.keep K_895 nin0
          have F_913 := F_889.keep K_895
          have F_914 := F_890.keep K_895
          have F_915 := F_891.keep K_895 nin0
          have F_916 := F_892.keep K_895 nin0
          have F_917 := F_893.keep K_895 nin0
          have F_918 := F_894.keep K_895 nin0
          have F_919 := A119.keep K_895
          have F_920 := V119.keep K_895 nin0
          refine gAstore X w at_158 rfl #[.val (.long p1), .second, .val (.int p2), .val (.int p3), .val (.int p4), .val (.int (1 : Int32)), .val (.int (1 : Int32)), .val (.ref b_716), .val (.ref b_730), .val (.ref ad47), .val (.ref ad89), .val (.ref ad119), .val (.ref b_895), .unset, .unset, .unset, .unset, .unset] rfl (n := 160) rfl ?_
          refine gNull X w at_160 (n := 161) rfl ?_
          refine gCallSv X w [.null] [] (own_kind_null l Z a0 hw sNULL h_895 n0 (Sd.le X) F_896) (own_wd hw 78 rfl) (own_wd hw 79 rfl) (own_wd hw 80 rfl) (own_wd hw 81 rfl) (by decide) own_pd12 rfl rfl at_161 rfl (W := 0) (Nat.le_of_eq rfl) (by decide) (by decide) (by decide) (by decide) (n := 164) rfl ?_
          rintro T _ _ ⟨rfl, rfl⟩ X
          refine gGetS X w (own_wd hw 84 rfl) Via.refl F_896 at_164 (n := 167) rfl ?_
          intro T X
          refine gAcmp_ne X w at_167 rfl rfl (n := 174) (n' := 170) (by decide) rfl rfl ?_ ?_
          · intro c167
            exact absurd rfl c167
          · intro c167
            refine gIconst X w at_170 (z := (1 : Int32)) rfl (n := 171) rfl ?_
            refine gGoto X w at_171 (by decide) (n := 175) rfl ?_
            refine gIstore X w at_175 #[.val (.long p1), .second, .val (.int p2), .val (.int p3), .val (.int p4), .val (.int (1 : Int32)), .val (.int (1 : Int32)), .val (.ref b_716), .val (.ref b_730), .val (.ref ad47), .val (.ref ad89), .val (.ref ad119), .val (.ref b_895), .val (.int (1 : Int32)), .unset, .unset, .unset, .unset] rfl (n := 177) rfl ?_
            refine gAload X w at_177 rfl rfl (n := 179) rfl ?_
            refine gCallSv X w [(.ref b_716)] [] (own_kind_INTEGER l Z a0 hw b_716 sINTEGER h_895 n0 (Sd.le X) F_909 F_898) (own_wd hw 78 rfl) (own_wd hw 79 rfl) (own_wd hw 80 rfl) (own_wd hw 81 rfl) (by decide) own_pd12 rfl rfl at_179 rfl (W := 0) (Nat.le_of_eq rfl) (by decide) (by decide) (by decide) (by decide) (n := 182) rfl ?_
            rintro T _ _ ⟨rfl, rfl⟩ X
            refine gGetS X w (own_wd hw 89 rfl) Via.refl F_898 at_182 (n := 185) rfl ?_
            intro T X
            refine gAcmp_ne X w at_185 rfl rfl (n := 192) (n' := 188) (by decide) rfl rfl ?_ ?_
            · intro c185
              exact absurd rfl c185
            · intro c185
              refine gIconst X w at_188 (z := (1 : Int32)) rfl (n := 189) rfl ?_
              refine gGoto X w at_189 (by decide) (n := 193) rfl ?_
              refine gIstore X w at_193 #[.val (.long p1), .second, .val (.int p2), .val (.int p3), .val (.int p4), .val (.int (1 : Int32)), .val (.int (1 : Int32)), .val (.ref b_716), .val (.ref b_730), .val (.ref ad47), .val (.ref ad89), .val (.ref ad119), .val (.ref b_895), .val (.int (1 : Int32)), .val (.int (1 : Int32)), .unset, .unset, .unset] rfl (n := 195) rfl ?_
              refine gAload X w at_195 rfl rfl (n := 197) rfl ?_
              refine gCallSv X w [(.ref b_730)] [] (own_kind_REAL l Z a0 hw b_730 sREAL h_895 n0 (Sd.le X) F_910 F_900) (own_wd hw 78 rfl) (own_wd hw 79 rfl) (own_wd hw 80 rfl) (own_wd hw 81 rfl) (by decide) own_pd12 rfl rfl at_197 rfl (W := 0) (Nat.le_of_eq rfl) (by decide) (by decide) (by decide) (by decide) (n := 200) rfl ?_
              rintro T _ _ ⟨rfl, rfl⟩ X
              refine gGetS X w (own_wd hw 96 rfl) Via.refl F_900 at_200 (n := 203) rfl ?_
              intro T X
              refine gAcmp_ne X w at_203 rfl rfl (n := 210) (n' := 206) (by decide) rfl rfl ?_ ?_
              · intro c203
                exact absurd rfl c203
              · intro c203
                refine gIconst X w at_206 (z := (1 : Int32)) rfl (n := 207) rfl ?_
                refine gGoto X w at_207 (by decide) (n := 211) rfl ?_
                refine gIstore X w at_211 #[.val (.long p1), .second, .val (.int p2), .val (.int p3), .val (.int p4), .val (.int (1 : Int32)), .val (.int (1 : Int32)), .val (.ref b_716), .val (.ref b_730), .val (.ref ad47), .val (.ref ad89), .val (.ref ad119), .val (.ref b_895), .val (.int (1 : Int32)), .val (.int (1 : Int32)), .val (.int (1 : Int32)), .unset, .unset] rfl (n := 213) rfl ?_
                refine gAload X w at_213 rfl rfl (n := 215) rfl ?_
                refine gCallSv X w [(.ref ad89)] [] (own_kind_TEXT l Z a0 hw ad89 sTEXT h_895 n0 (Sd.le X) F_913 F_902) (own_wd hw 78 rfl) (own_wd hw 79 rfl) (own_wd hw 80 rfl) (own_wd hw 81 rfl) (by decide) own_pd12 rfl rfl at_215 rfl (W := 0) (Nat.le_of_eq rfl) (by decide) (by decide) (by decide) (by decide) (n := 218) rfl ?_
                rintro T _ _ ⟨rfl, rfl⟩ X
                refine gGetS X w (own_wd hw 101 rfl) Via.refl F_902 at_218 (n := 221) rfl ?_
                intro T X
                refine gAcmp_ne X w at_221 rfl rfl (n := 228) (n' := 224) (by decide) rfl rfl ?_ ?_
                · intro c221
                  exact absurd rfl c221
                · intro c221
                  refine gIconst X w at_224 (z := (1 : Int32)) rfl (n := 225) rfl ?_
                  refine gGoto X w at_225 (by decide) (n := 229) rfl ?_
                  refine gIstore X w at_229 #[.val (.long p1), .second, .val (.int p2), .val (.int p3), .val (.int p4), .val (.int (1 : Int32)), .val (.int (1 : Int32)), .val (.ref b_716), .val (.ref b_730), .val (.ref ad47), .val (.ref ad89), .val (.ref ad119), .val (.ref b_895), .val (.int (1 : Int32)), .val (.int (1 : Int32)), .val (.int (1 : Int32)), .val (.int (1 : Int32)), .unset] rfl (n := 231) rfl ?_
                  refine gAload X w at_231 rfl rfl (n := 233) rfl ?_
                  refine gCallSv X w [(.ref b_895)] [] (own_kind_BLOB l Z a0 hw b_895 sBLOB h_895 n0 (Sd.le X) Q0_895 F_904) (own_wd hw 78 rfl) (own_wd hw 79 rfl) (own_wd hw 80 rfl) (own_wd hw 81 rfl) (by decide) own_pd12 rfl rfl at_233 rfl (W := 0) (Nat.le_of_eq rfl) (by decide) (by decide) (by decide) (by decide) (n := 236) rfl ?_
                  rintro T _ _ ⟨rfl, rfl⟩ X
                  refine gGetS X w (own_wd hw 107 rfl) Via.refl F_904 at_236 (n := 239) rfl ?_
                  intro T X
                  refine gAcmp_ne X w at_239 rfl rfl (n := 246) (n' := 242) (by decide) rfl rfl ?_ ?_
                  · intro c239
                    exact absurd rfl c239
                  · intro c239
                    refine gIconst X w at_242 (z := (1 : Int32)) rfl (n := 243) rfl ?_
                    refine gGoto X w at_243 (by decide) (n := 247) rfl ?_
                    refine gIstore X w at_247 #[.val (.long p1), .second, .val (.int p2), .val (.int p3), .val (.int p4), .val (.int (1 : Int32)), .val (.int (1 : Int32)), .val (.ref b_716), .val (.ref b_730), .val (.ref ad47), .val (.ref ad89), .val (.ref ad119), .val (.ref b_895), .val (.int (1 : Int32)), .val (.int (1 : Int32)), .val (.int (1 : Int32)), .val (.int (1 : Int32)), .val (.int (1 : Int32))] rfl (n := 249) rfl ?_
                    refine gIload X w at_249 rfl (n := 251) rfl ?_
                    refine gIf_eq X w at_251 (n := 278) (n' := 254) (by decide) rfl rfl ?_ ?_
                    · rintro ⟨c251, c251'⟩
                      exact absurd c251 (by decide)
                    · rintro ⟨c251, c251'⟩
                      refine gIload X w at_254 rfl (n := 256) rfl ?_
                      refine gIf_eq X w at_256 (n := 278) (n' := 259) (by decide) rfl rfl ?_ ?_
                      · rintro ⟨c256, c256'⟩
                        exact absurd c256 (by decide)
                      · rintro ⟨c256, c256'⟩
                        refine gIload X w at_259 rfl (n := 261) rfl ?_
                        refine gIf_eq X w at_261 (n := 278) (n' := 264) (by decide) rfl rfl ?_ ?_
                        · rintro ⟨c261, c261'⟩
                          exact absurd c261 (by decide)
                        · rintro ⟨c261, c261'⟩
                          refine gIload X w at_264 rfl (n := 266) rfl ?_
                          refine gIf_eq X w at_266 (n := 278) (n' := 269) (by decide) rfl rfl ?_ ?_
                          · rintro ⟨c266, c266'⟩
                            exact absurd c266 (by decide)
                          · rintro ⟨c266, c266'⟩
                            refine gIload X w at_269 rfl (n := 271) rfl ?_
                            refine gIf_eq X w at_271 (n := 278) (n' := 274) (by decide) rfl rfl ?_ ?_
                            · rintro ⟨c271, c271'⟩
                              exact absurd c271 (by decide)
                            · rintro ⟨c271, c271'⟩
                              refine gIconst X w at_274 (z := (1 : Int32)) rfl (n := 275) rfl ?_
                              refine gGoto X w at_275 (by decide) (n := 279) rfl ?_
                              exact gRetZ X w rfl (Or.inr rfl) at_279 (by decide) (by decide) (rfl)
set_option maxRecDepth 65536 in
set_option maxHeartbeats 40000000 in
theorem comes_1 {Post : Tables → Env → Array Value → State → Outcome → State → Prop} (hpost : ∀ tb e args s v u, (limb_1_1.after args s (.returned v) u = true ∧ limb_1_2.after args s (.returned v) u = true ∧ True) → ReturnedEndW s (.returned v) u (Jvm.fieldLocs frame_1_writes args s ++ Jvm.arrayLocs frame_1_arrays args s ++ Jvm.staticLocs frame_1_statics s) 32 1152 → Post tb e args s (.returned v) u) :
    ArmFor flags0 classFile x code maxLocals ret World_1 tables_1 room_1 Calls_1 rest_1 Pre_1 Post := by
  intro l hfl _ _ p e ha hc hk s m args below hf hA hF happ hP
  obtain ⟨hcalls, hrest, hpre⟩ := hP
  obtain ⟨-, -, -, hnamed, -, -, -, hat⟩ := (Spec.applies_iff hf).mp happ
  obtain ⟨hg, hn⟩ := and_e (Cond.before_iff.mp (show (Jvm.Cond.and given_1 narrow_1).before args s = true from hpre))
  obtain ⟨hcnt, g0⟩ := and_e hg
  obtain ⟨w0, w1, w2, w3, rfl⟩ : ∃ w0 w1 w2 w3 : Value, args = #[w0, w1, w2, w3] := by
    have hs : args.size = 4 := by simpa [Cond.value, given_1] using hcnt
    obtain ⟨L⟩ := args
    match L, hs with
    | [w0, w1, w2, w3], _ => exact ⟨w0, w1, w2, w3, rfl⟩
  have hw := fun d (hd : d ∈ tables_1) => atoms_spec (ws := Jvm.Cond.code x code maxLocals ret :: tables_1) hat d (List.mem_cons_of_mem _ hd)
  have hfit : Fit s := fun {y c} hc i hi => by
    obtain ⟨ha, rfl⟩ := Array.getElem?_eq_some_iff.mp hc
    have q := List.all_eq_true.mp ((Array.all_eq_true_iff_forall_mem.mp hF) _ (Array.getElem_mem ha)) i (List.mem_range.mpr hi)
    simpa [Array.getElem?_eq_getElem hi] using q
  obtain ⟨k0, g1⟩ := and_e g0
  obtain ⟨k1, g2⟩ := and_e g1
  obtain ⟨k2, g3⟩ := and_e g2
  obtain ⟨i0, e0⟩ := isL_v k0
  obtain rfl : w0 = (.long i0) := Option.some.inj e0
  obtain ⟨i1, e1⟩ := is_v k1
  obtain rfl : w1 = (.int i1) := Option.some.inj e1
  obtain ⟨i2, e2⟩ := is_v k2
  obtain rfl : w2 = (.int i2) := Option.some.inj e2
  obtain ⟨i3, e3⟩ := is_v g3
  obtain rfl : w3 = (.int i3) := Option.some.inj e3
  obtain ⟨c0, r0⟩ := and_e hn
  obtain ⟨c1, r1⟩ := and_e r0
  obtain ⟨c2, r2⟩ := and_e r1
  obtain ⟨c3, r3⟩ := and_e r2
  have c4 := r3
  obtain ⟨sNULL, v_sNULL⟩ := exa_v c0
  have E_sNULL := Exa.start v_sNULL c0
  have S_sNULL := Sta.start v_sNULL (Or.inr ⟨(own_wd hw 80 rfl), (own_wd hw 83 rfl)⟩)
  obtain ⟨sINTEGER, v_sINTEGER⟩ := exa_v c1
  have E_sINTEGER := Exa.start v_sINTEGER c1
  have S_sINTEGER := Sta.start v_sINTEGER (Or.inr ⟨(own_wd hw 80 rfl), (own_wd hw 88 rfl)⟩)
  obtain ⟨sREAL, v_sREAL⟩ := exa_v c2
  have E_sREAL := Exa.start v_sREAL c2
  have S_sREAL := Sta.start v_sREAL (Or.inr ⟨(own_wd hw 80 rfl), (own_wd hw 95 rfl)⟩)
  obtain ⟨sTEXT, v_sTEXT⟩ := exa_v c3
  have E_sTEXT := Exa.start v_sTEXT c3
  have S_sTEXT := Sta.start v_sTEXT (Or.inr ⟨(own_wd hw 80 rfl), (own_wd hw 100 rfl)⟩)
  obtain ⟨sBLOB, v_sBLOB⟩ := exa_v c4
  have E_sBLOB := Exa.start v_sBLOB c4
  have S_sBLOB := Sta.start v_sBLOB (Or.inr ⟨(own_wd hw 80 rfl), (own_wd hw 106 rfl)⟩)
  have G : own_env s s.heap sNULL sINTEGER sREAL sTEXT sBLOB := ⟨S_sNULL, E_sNULL, S_sINTEGER, E_sINTEGER, S_sREAL, E_sREAL, S_sTEXT, E_sTEXT, S_sBLOB, E_sBLOB⟩
  have hr_ := Cond.before_iff.mp (show rest_1_c.before _ s = true from hrest)
  obtain ⟨r_0, hr_0⟩ := and_e hr_
  obtain ⟨r_1, hr_1⟩ := and_e hr_0
  obtain ⟨r_2, hr_2⟩ := and_e hr_1
  obtain ⟨r_3, hr_3⟩ := and_e hr_2
  obtain ⟨r_4, hr_4⟩ := and_e hr_3
  obtain ⟨r_5, hr_5⟩ := and_e hr_4
  obtain ⟨r_6, hr_6⟩ := and_e hr_5
  obtain ⟨r_7, hr_7⟩ := and_e hr_6
  obtain ⟨r_8, hr_8⟩ := and_e hr_7
  obtain ⟨ca, eca⟩ := arr_v r_2
  obtain ⟨cc, Aca⟩ := Arr.start eca r_2
  have eca' : ∀ idx, (Jvm.Term.static "java/lang/Long$LongCache" "cache" "[Ljava/lang/Long;").eval #[.long i0, .int i1, .int i2, .int i3] s none idx s = some (.ref ca) := fun idx => eca
  have Sca := Sta.start eca (Or.inl (Cond.before_iff.mpr r_1))
  have hlen := eqI rfl r_4
  have hsz : (cc.slots.size : Int) = 256 := own_len eca Aca hlen
  obtain ⟨ccs, eccs⟩ := is_v r_7
  have Scs := Sta.start eccs (Or.inl (Cond.before_iff.mpr r_6))
  have cwp := r_8
  have hcs : ¬ ccs = 0 := own_nz eccs r_8
  have hbx : ∀ j : Int32, 0 ≤ j.toInt → j.toInt < 256 → ∃ b : Addr, cc.slots.toList[j.toInt.toNat]? = some (.ref b) ∧ Exa s s.heap b "java/lang/Long" := fun j h1 h2 => by
    obtain ⟨b, e1, e2⟩ := own_box eca' Aca r_5 j (by rintro (g | g); · have := (Jvm.Free.XT.negI32 j).mp g; omega
                                                     · have hc : j.toNatClampNeg = j.toInt.toNat := rfl; omega)
    exact ⟨b, by simpa using e1, e2⟩
  have HD := Hd.start (own_ew hw) (fun p hp => hcalls.1 p hp) (Cond.before_iff.mpr cwp) (own_wd hw 46 rfl) (own_wd hw 31 rfl)
  obtain ⟨n, o, h1, h2, h3, _, L, _, rfl, ⟨rfl, N, -⟩, hq⟩ := own_law l s _ hw i0 i1 i2 i3 sNULL sINTEGER sREAL sTEXT sBLOB ca cc.slots.toList ccs s.heap s.heap.size (Nat.le_refl _) G Sca ⟨cc, Aca, by simp⟩ hbx Scs hcs p e ha hc hk s m _ below hf ((Spec.applies_iff_loose hf).mp happ).1 ⟨rfl, State.Warmed39.refl s, rfl, HD⟩ trivial
  refine ⟨n, _, h1, h2, h3, hpost _ _ _ _ _ _ ⟨Cond.after_iff.mpr rfl, Cond.after_iff.mpr (eq_i res_at (Term.int_eval (1)) rfl), trivial⟩ ⟨hq.1, hq.2.1, hq.2.2.1, (hq.2.2.2.sift fun y hy => Or.inr (N y hy)).mono (by decide) (by decide)⟩⟩
theorem main_1_1 : Claimed_1_1 := comes_1 fun _ _ _ _ _ _ h hF => ⟨h.1, hF⟩
theorem main_1_2 : Claimed_1_2 := comes_1 fun _ _ _ _ _ _ h hF => ⟨h.2.1, hF⟩
end Jvm.Pilot.@@N@@
namespace Jvm.Pilot.@@N@@
open Jvm Jvm.ClassFile Sem Op Lib Jvm.Free Jvm.Stand Jvm.Pilot.@@N@@.Jvm.D
/-! MADE BY PROGRAM (witnessworld.py) out of the Statement's table words and the real class files: 25 classes; the members and pool entries that the words name. The judged class is class 1, her method 1. -/
namespace start1
open Jvm.ClassFile
def u (s : String) : CpInfo := .utf8 (stringToUtf16 s)
/-- a pool by its gaps: so many unusable entries, then the entry; so many at the end -/
def gap : Nat → List CpInfo → List CpInfo
  | 0, r => r
  | n + 1, r => .unusable :: gap n r
def poolList (es : List (Nat × CpInfo)) (last : Nat) : List CpInfo := es.foldr (fun e r => gap e.1 (e.2 :: r)) (gap last [])
def pool (es : List (Nat × CpInfo)) (last : Nat) : Array CpInfo := ⟨poolList es last⟩
def fileOf (pool : Array CpInfo) (this : Nat) (attrs : Array Attribute := #[]) (ms : Array MethodInfo := #[]) (fl : Nat := 33) (sup : Nat := 0) (ifs : Array Nat := #[]) (fds : Array FieldInfo := #[]) : ClassFile where
  minorVersion := 0
  majorVersion := 65
  constantPool := pool
  accessFlags := fl
  thisClass := this
  superClass := sup
  interfaces := ifs
  fields := fds
  methods := ms
  attributes := attrs
def plain (name : String) (sup : Option ClassId) : Class where
  name := name
  kind := .ordinary
  loader := none
  accessFlags := 33
  super := sup
  interfaces := #[]
  cf := none
  fields := #[]
  methods := #[]
  instanceTypes := #[]
  staticTypes := #[]
  resolved := #[]
  callSites := []
  init := .initialized
  statics := none
  mirror := none

def pool0 : Array CpInfo := pool [(5, u "<init>"), (0, u "()V"), (1, .class_ 10), (1, u "java/lang/Object"), (85, u "clone"), (0, u "()Ljava/lang/Object;")] 26

def k0c0 : Code := { maxStack := 0, maxLocals := 1, code := object_method_1_code, exceptionTable := #[], attributes := #[] }
def k0m0 : Method := { name := "<init>", desc := "()V", sig := { parameters := [], returnType := none }, accessFlags := 1, code := some k0c0 }
def k0m1 : Method := { name := "clone", desc := "()Ljava/lang/Object;", sig := { parameters := [], returnType := some (.object "java/lang/Object") }, accessFlags := 260, code := none }
/-- java/lang/Object -/
def k0 : Class := { plain "java/lang/Object" none with
  accessFlags := 33
  interfaces := #[]
  cf := some (fileOf pool0 8 #[] #[{ accessFlags := 1, nameIndex := 5, descriptorIndex := 6, attributes := #[] }, { accessFlags := 260, nameIndex := 96, descriptorIndex := 97, attributes := #[] }] 33 0 #[] #[])
  fields := #[]
  methods := #[k0m0, k0m1]
  instanceTypes := #[]
  staticTypes := #[]
  resolved := Array.replicate 124 none
  statics := none }

def pool1 : Array CpInfo := pool [(2, .class_ 4), (1, u "java/lang/Object"), (0, u "<init>"), (0, u "()V"), (0, .methodref 8 9), (0, .class_ 10), (0, .nameAndType 11 12), (0, u "java/lang/Long"), (0, u "valueOf"), (0, u "(J)Ljava/lang/Long;"), (0, .methodref 14 15), (0, .class_ 16), (0, .nameAndType 11 17), (0, u "java/lang/Double"), (0, u "(D)Ljava/lang/Double;"), (0, .class_ 19), (0, u "java/lang/String"), (0, .methodref 18 21), (0, .nameAndType 5 22), (0, u "([C)V"), (0, .methodref 24 25), (0, .class_ 26), (0, .nameAndType 27 28), (0, u "com/example/cassalink/cassalink/row/Blob"), (0, u "of"), (0, u "([B)Lcom/example/cassalink/cassalink/row/Blob;"), (0, .methodref 30 31), (0, .class_ 32), (0, .nameAndType 27 33), (0, u "com/example/cassalink/cassalink/row/ValueKind"), (0, u "(Ljava/lang/Object;)Lcom/example/cassalink/cassalink/row/ValueKind;"), (0, .fieldref 30 35), (0, .nameAndType 36 37), (0, u "NULL"), (0, u "Lcom/example/cassalink/cassalink/row/ValueKind;"), (0, .fieldref 30 39), (0, .nameAndType 40 37), (0, u "INTEGER"), (0, .fieldref 30 42), (0, .nameAndType 43 37), (0, u "REAL"), (0, .fieldref 30 45), (0, .nameAndType 46 37), (0, u "TEXT"), (0, .fieldref 30 48), (0, .nameAndType 49 37), (0, u "BLOB"), (0, .class_ 51), (0, u "com/example/cassalink/cassalink/row/ValueKindOfPinLaw"), (2, u "law"), (0, u "(JIII)Z")] 7

def k1m0 : Method := { name := "<init>", desc := "()V", sig := { parameters := [], returnType := none }, accessFlags := 2, code := none }
def k1c1 : Code := { maxStack := 5, maxLocals := 18, code := code, exceptionTable := #[], attributes := #[] }
def k1m1 : Method := { name := "law", desc := "(JIII)Z", sig := { parameters := [.long, .int, .int, .int], returnType := some .boolean }, accessFlags := 9, code := some k1c1 }
/-- com/example/cassalink/cassalink/row/ValueKindOfPinLaw -/
def k1 : Class := { plain "com/example/cassalink/cassalink/row/ValueKindOfPinLaw" (some 0) with
  accessFlags := 49
  interfaces := #[]
  cf := some (fileOf pool1 50 #[] #[{ accessFlags := 2, nameIndex := 5, descriptorIndex := 6, attributes := #[] }, { accessFlags := 9, nameIndex := 54, descriptorIndex := 55, attributes := #[] }] 49 2 #[] #[])
  fields := #[]
  methods := #[k1m0, k1m1]
  instanceTypes := #[]
  staticTypes := #[]
  resolved := Array.replicate 63 none
  statics := none }

def pool2 : Array CpInfo := pool [(1, .class_ 2), (0, u "java/io/Serializable"), (0, .class_ 4), (0, u "java/lang/Object")] 2

/-- java/io/Serializable -/
def k2 : Class := { plain "java/io/Serializable" (some 0) with
  accessFlags := 1537
  interfaces := #[]
  cf := some (fileOf pool2 1 #[] #[] 1537 3 #[] #[])
  fields := #[]
  methods := #[]
  instanceTypes := #[]
  staticTypes := #[]
  resolved := Array.replicate 7 none
  statics := none }

def pool3 : Array CpInfo := pool [(1, .methodref 2 3), (0, .class_ 4), (0, .nameAndType 5 6), (0, u "java/lang/Object"), (0, u "<init>"), (0, u "()V"), (1, .class_ 10), (1, u "java/lang/Number"), (2, .class_ 14), (0, u "java/io/Serializable"), (0, u "serialVersionUID"), (0, u "J")] 20

def k3c0 : Code := { maxStack := 1, maxLocals := 1, code := jdk_18_method_1_code, exceptionTable := #[], attributes := #[] }
def k3m0 : Method := { name := "<init>", desc := "()V", sig := { parameters := [], returnType := none }, accessFlags := 1, code := some k3c0 }
/-- java/lang/Number -/
def k3 : Class := { plain "java/lang/Number" (some 0) with
  accessFlags := 1057
  interfaces := #[2]
  cf := some (fileOf pool3 8 #[] #[{ accessFlags := 1, nameIndex := 5, descriptorIndex := 6, attributes := #[] }] 1057 2 #[13] #[{ accessFlags := 26, nameIndex := 15, descriptorIndex := 16, attributes := #[] }])
  fields := #[{ name := "serialVersionUID", type := .long, accessFlags := 26, slot := 0, constantValue := 0 }]
  methods := #[k3m0]
  instanceTypes := #[]
  staticTypes := #[.long]
  resolved := Array.replicate 37 none
  statics := none }

def pool4 : Array CpInfo := pool [(1, .class_ 2), (0, u "java/lang/Comparable"), (0, .class_ 4), (0, u "java/lang/Object")] 7

/-- java/lang/Comparable -/
def k4 : Class := { plain "java/lang/Comparable" (some 0) with
  accessFlags := 1537
  interfaces := #[]
  cf := some (fileOf pool4 1 #[] #[] 1537 3 #[] #[])
  fields := #[]
  methods := #[]
  instanceTypes := #[]
  staticTypes := #[]
  resolved := Array.replicate 12 none
  statics := none }

def pool5 : Array CpInfo := pool [(1, .class_ 2), (0, u "java/lang/constant/Constable"), (0, .class_ 4), (0, u "java/lang/Object")] 6

/-- java/lang/constant/Constable -/
def k5 : Class := { plain "java/lang/constant/Constable" (some 0) with
  accessFlags := 1537
  interfaces := #[]
  cf := some (fileOf pool5 1 #[] #[] 1537 3 #[] #[])
  fields := #[]
  methods := #[]
  instanceTypes := #[]
  staticTypes := #[]
  resolved := Array.replicate 11 none
  statics := none }

def pool6 : Array CpInfo := pool [(1, .class_ 2), (0, u "java/lang/constant/ConstantDesc"), (0, .class_ 4), (0, u "java/lang/Object")] 32

/-- java/lang/constant/ConstantDesc -/
def k6 : Class := { plain "java/lang/constant/ConstantDesc" (some 0) with
  accessFlags := 1537
  interfaces := #[]
  cf := some (fileOf pool6 1 #[] #[] 1537 3 #[] #[])
  fields := #[]
  methods := #[]
  instanceTypes := #[]
  staticTypes := #[]
  resolved := Array.replicate 37 none
  statics := none }

def pool7 : Array CpInfo := pool [(1, .class_ 2), (0, u "java/lang/Long"), (55, .nameAndType 59 60), (0, u "<init>"), (0, u "()V"), (24, u "valueOf"), (143, u "(J)Ljava/lang/Long;"), (0, .long 18446744073709551488), (1, .long 127), (1, .fieldref 235 236), (0, .class_ 237), (0, .nameAndType 238 239), (0, u "java/lang/Long$LongCache"), (0, u "cache"), (0, u "[Ljava/lang/Long;"), (0, .methodref 1 241), (0, .nameAndType 59 242), (0, u "(J)V"), (27, .methodref 271 58), (0, .class_ 272), (0, u "java/lang/Number"), (0, .fieldref 1 274), (0, .nameAndType 275 276), (0, u "value"), (0, u "J"), (84, u "TYPE"), (0, u "Ljava/lang/Class;"), (0, .class_ 364), (0, u "java/lang/Comparable"), (0, .class_ 366), (0, u "java/lang/constant/Constable"), (0, .class_ 368), (0, u "java/lang/constant/ConstantDesc"), (0, u "MIN_VALUE"), (1, u "MAX_VALUE"), (4, u "SIZE"), (0, u "I"), (1, u "BYTES"), (1, u "serialVersionUID")] 142

def k7c0 : Code := { maxStack := 4, maxLocals := 3, code := jdk_35_method_24_code, exceptionTable := #[], attributes := #[] }
def k7m0 : Method := { name := "valueOf", desc := "(J)Ljava/lang/Long;", sig := { parameters := [.long], returnType := some (.object "java/lang/Long") }, accessFlags := 9, code := some k7c0 }
def k7c1 : Code := { maxStack := 3, maxLocals := 3, code := jdk_35_method_26_code, exceptionTable := #[], attributes := #[] }
def k7m1 : Method := { name := "<init>", desc := "(J)V", sig := { parameters := [.long], returnType := none }, accessFlags := 1, code := some k7c1 }
/-- java/lang/Long -/
def k7 : Class := { plain "java/lang/Long" (some 3) with
  accessFlags := 49
  interfaces := #[4, 5, 6]
  cf := some (fileOf pool7 1 #[.nestMembers #[235]] #[{ accessFlags := 9, nameIndex := 85, descriptorIndex := 229, attributes := #[] }, { accessFlags := 1, nameIndex := 59, descriptorIndex := 242, attributes := #[] }] 49 271 #[363, 365, 367] #[{ accessFlags := 25, nameIndex := 369, descriptorIndex := 276, attributes := #[] }, { accessFlags := 25, nameIndex := 371, descriptorIndex := 276, attributes := #[] }, { accessFlags := 25, nameIndex := 361, descriptorIndex := 362, attributes := #[] }, { accessFlags := 18, nameIndex := 275, descriptorIndex := 276, attributes := #[] }, { accessFlags := 25, nameIndex := 376, descriptorIndex := 377, attributes := #[] }, { accessFlags := 25, nameIndex := 379, descriptorIndex := 377, attributes := #[] }, { accessFlags := 26, nameIndex := 381, descriptorIndex := 276, attributes := #[] }])
  fields := #[{ name := "MIN_VALUE", type := .long, accessFlags := 25, slot := 0, constantValue := 0 }, { name := "MAX_VALUE", type := .long, accessFlags := 25, slot := 1, constantValue := 0 }, { name := "TYPE", type := (.object "java/lang/Class"), accessFlags := 25, slot := 2, constantValue := 0 }, { name := "value", type := .long, accessFlags := 18, slot := 0, constantValue := 0 }, { name := "SIZE", type := .int, accessFlags := 25, slot := 3, constantValue := 0 }, { name := "BYTES", type := .int, accessFlags := 25, slot := 4, constantValue := 0 }, { name := "serialVersionUID", type := .long, accessFlags := 26, slot := 5, constantValue := 0 }]
  methods := #[k7m0, k7m1]
  instanceTypes := #[.long]
  staticTypes := #[.long, .long, (.object "java/lang/Class"), .int, .int, .long]
  resolved := Array.replicate 524 none
  statics := none }

def pool8 : Array CpInfo := pool [(2, .class_ 4), (1, u "java/lang/Object"), (0, u "<init>"), (0, u "()V"), (0, .class_ 8), (0, u "java/lang/Long"), (7, .class_ 18), (1, u "java/lang/Long$LongCache"), (0, u "$assertionsDisabled"), (0, u "Z"), (8, u "archivedCache"), (0, u "[Ljava/lang/Long;"), (7, u "cache")] 24

def k8m0 : Method := { name := "<init>", desc := "()V", sig := { parameters := [], returnType := none }, accessFlags := 2, code := none }
/-- java/lang/Long$LongCache -/
def k8 : Class := { plain "java/lang/Long$LongCache" (some 0) with
  accessFlags := 48
  interfaces := #[]
  cf := some (fileOf pool8 16 #[.nestHost 7] #[{ accessFlags := 2, nameIndex := 5, descriptorIndex := 6, attributes := #[] }] 48 2 #[] #[{ accessFlags := 24, nameIndex := 38, descriptorIndex := 30, attributes := #[] }, { accessFlags := 8, nameIndex := 29, descriptorIndex := 30, attributes := #[] }, { accessFlags := 4120, nameIndex := 19, descriptorIndex := 20, attributes := #[] }])
  fields := #[{ name := "cache", type := (.array (.object "java/lang/Long")), accessFlags := 24, slot := 0, constantValue := 0 }, { name := "archivedCache", type := (.array (.object "java/lang/Long")), accessFlags := 8, slot := 1, constantValue := 0 }, { name := "$assertionsDisabled", type := .boolean, accessFlags := 4120, slot := 2, constantValue := 0 }]
  methods := #[k8m0]
  instanceTypes := #[]
  staticTypes := #[(.array (.object "java/lang/Long")), (.array (.object "java/lang/Long")), .boolean]
  resolved := Array.replicate 63 none
  statics := some 0 }

def pool9 : Array CpInfo := pool [(1, .class_ 2), (0, u "java/lang/Double"), (17, u "<init>"), (84, .methodref 1 106), (0, .nameAndType 20 107), (0, u "(D)V"), (5, .methodref 114 115), (0, .class_ 116), (0, .nameAndType 20 117), (0, u "java/lang/Number"), (0, u "()V"), (0, .fieldref 1 119), (0, .nameAndType 120 121), (0, u "value"), (0, u "D"), (51, u "TYPE"), (0, u "Ljava/lang/Class;"), (0, .class_ 176), (0, u "java/lang/Comparable"), (0, .class_ 178), (0, u "java/lang/constant/Constable"), (0, .class_ 180), (0, u "java/lang/constant/ConstantDesc"), (0, u "POSITIVE_INFINITY"), (3, u "NEGATIVE_INFINITY"), (2, u "NaN"), (2, u "MAX_VALUE"), (0, u "MIN_NORMAL"), (0, u "MIN_VALUE"), (2, u "SIZE"), (0, u "I"), (1, u "PRECISION"), (1, u "MAX_EXPONENT"), (1, u "MIN_EXPONENT"), (1, u "BYTES"), (3, u "serialVersionUID"), (0, u "J"), (14, u "valueOf"), (5, u "(D)Ljava/lang/Double;")] 58

def k9c0 : Code := { maxStack := 4, maxLocals := 2, code := jdk_117_method_4_code, exceptionTable := #[], attributes := #[] }
def k9m0 : Method := { name := "valueOf", desc := "(D)Ljava/lang/Double;", sig := { parameters := [.double], returnType := some (.object "java/lang/Double") }, accessFlags := 9, code := some k9c0 }
def k9c1 : Code := { maxStack := 3, maxLocals := 3, code := jdk_117_method_9_code, exceptionTable := #[], attributes := #[] }
def k9m1 : Method := { name := "<init>", desc := "(D)V", sig := { parameters := [.double], returnType := none }, accessFlags := 1, code := some k9c1 }
/-- java/lang/Double -/
def k9 : Class := { plain "java/lang/Double" (some 3) with
  accessFlags := 49
  interfaces := #[4, 5, 6]
  cf := some (fileOf pool9 1 #[] #[{ accessFlags := 9, nameIndex := 225, descriptorIndex := 231, attributes := #[] }, { accessFlags := 1, nameIndex := 20, descriptorIndex := 107, attributes := #[] }] 49 114 #[175, 177, 179] #[{ accessFlags := 25, nameIndex := 181, descriptorIndex := 121, attributes := #[] }, { accessFlags := 25, nameIndex := 185, descriptorIndex := 121, attributes := #[] }, { accessFlags := 25, nameIndex := 188, descriptorIndex := 121, attributes := #[] }, { accessFlags := 25, nameIndex := 191, descriptorIndex := 121, attributes := #[] }, { accessFlags := 25, nameIndex := 192, descriptorIndex := 121, attributes := #[] }, { accessFlags := 25, nameIndex := 193, descriptorIndex := 121, attributes := #[] }, { accessFlags := 25, nameIndex := 196, descriptorIndex := 197, attributes := #[] }, { accessFlags := 25, nameIndex := 199, descriptorIndex := 197, attributes := #[] }, { accessFlags := 25, nameIndex := 201, descriptorIndex := 197, attributes := #[] }, { accessFlags := 25, nameIndex := 203, descriptorIndex := 197, attributes := #[] }, { accessFlags := 25, nameIndex := 205, descriptorIndex := 197, attributes := #[] }, { accessFlags := 25, nameIndex := 173, descriptorIndex := 174, attributes := #[] }, { accessFlags := 18, nameIndex := 120, descriptorIndex := 121, attributes := #[] }, { accessFlags := 26, nameIndex := 209, descriptorIndex := 210, attributes := #[] }])
  fields := #[{ name := "POSITIVE_INFINITY", type := .double, accessFlags := 25, slot := 0, constantValue := 0 }, { name := "NEGATIVE_INFINITY", type := .double, accessFlags := 25, slot := 1, constantValue := 0 }, { name := "NaN", type := .double, accessFlags := 25, slot := 2, constantValue := 0 }, { name := "MAX_VALUE", type := .double, accessFlags := 25, slot := 3, constantValue := 0 }, { name := "MIN_NORMAL", type := .double, accessFlags := 25, slot := 4, constantValue := 0 }, { name := "MIN_VALUE", type := .double, accessFlags := 25, slot := 5, constantValue := 0 }, { name := "SIZE", type := .int, accessFlags := 25, slot := 6, constantValue := 0 }, { name := "PRECISION", type := .int, accessFlags := 25, slot := 7, constantValue := 0 }, { name := "MAX_EXPONENT", type := .int, accessFlags := 25, slot := 8, constantValue := 0 }, { name := "MIN_EXPONENT", type := .int, accessFlags := 25, slot := 9, constantValue := 0 }, { name := "BYTES", type := .int, accessFlags := 25, slot := 10, constantValue := 0 }, { name := "TYPE", type := (.object "java/lang/Class"), accessFlags := 25, slot := 11, constantValue := 0 }, { name := "value", type := .double, accessFlags := 18, slot := 0, constantValue := 0 }, { name := "serialVersionUID", type := .long, accessFlags := 26, slot := 12, constantValue := 0 }]
  methods := #[k9m0, k9m1]
  instanceTypes := #[.double]
  staticTypes := #[.double, .double, .double, .double, .double, .double, .int, .int, .int, .int, .int, (.object "java/lang/Class"), .long]
  resolved := Array.replicate 290 none
  statics := none }

def pool10 : Array CpInfo := pool [(2, .class_ 4), (1, u "java/lang/CharSequence"), (42, .class_ 48), (0, u "java/lang/CharSequence$1CodePointIterator"), (10, .class_ 60), (0, u "java/lang/CharSequence$1CharIterator"), (5, .class_ 67), (0, u "java/lang/Object")] 63

/-- java/lang/CharSequence -/
def k10 : Class := { plain "java/lang/CharSequence" (some 0) with
  accessFlags := 1537
  interfaces := #[]
  cf := some (fileOf pool10 2 #[.nestMembers #[47, 59]] #[] 1537 66 #[] #[])
  fields := #[]
  methods := #[]
  instanceTypes := #[]
  staticTypes := #[]
  resolved := Array.replicate 131 none
  statics := none }

def pool11 : Array CpInfo := pool [(1, .methodref 2 3), (0, .class_ 4), (0, .nameAndType 5 6), (0, u "java/lang/Object"), (0, u "<init>"), (0, u "()V"), (0, .string 8), (0, u ""), (0, .fieldref 10 11), (0, .class_ 12), (0, .nameAndType 13 14), (0, u "java/lang/String"), (0, u "value"), (0, u "[B"), (0, .fieldref 10 16), (0, .nameAndType 17 18), (0, u "coder"), (0, u "B"), (2, u "hash"), (0, u "I"), (2, u "hashIsZero"), (0, u "Z"), (0, .methodref 10 28), (0, .nameAndType 5 29), (0, u "([CIILjava/lang/Void;)V"), (8, .fieldref 10 39), (0, .nameAndType 40 26), (0, u "COMPACT_STRINGS"), (1, .class_ 44), (1, u "java/lang/StringUTF16"), (0, u "compress"), (1, .methodref 42 48), (0, .nameAndType 49 50), (0, u "coderFromArrayLen"), (0, u "([BI)B"), (126, .methodref 42 178), (0, .nameAndType 45 179), (0, u "([CII)[B"), (395, .class_ 576), (0, u "java/lang/CharSequence"), (22, u "CASE_INSENSITIVE_ORDER"), (0, u "Ljava/util/Comparator;"), (409, u "([C)V"), (90, u "serialPersistentFields"), (0, u "[Ljava/io/ObjectStreamField;"), (0, .class_ 1104), (0, u "java/lang/String$CaseInsensitiveComparator"), (1, .class_ 1107), (0, u "java/io/Serializable"), (0, .class_ 1109), (0, u "java/lang/Comparable"), (0, .class_ 1111), (0, u "java/lang/constant/Constable"), (0, .class_ 1113), (0, u "java/lang/constant/ConstantDesc"), (2, u "serialVersionUID"), (0, u "J"), (3, u "REPL"), (0, u "C"), (2, u "LATIN1"), (1, u "UTF16")] 323

def k11m0 : Method := { name := "<init>", desc := "()V", sig := { parameters := [], returnType := none }, accessFlags := 1, code := none }
def k11c1 : Code := { maxStack := 5, maxLocals := 2, code := jdk_42_method_3_code, exceptionTable := #[], attributes := #[] }
def k11m1 : Method := { name := "<init>", desc := "([C)V", sig := { parameters := [(.array .char)], returnType := none }, accessFlags := 1, code := some k11c1 }
def k11c2 : Code := { maxStack := 4, maxLocals := 6, code := jdk_42_method_149_code, exceptionTable := #[], attributes := #[] }
def k11m2 : Method := { name := "<init>", desc := "([CIILjava/lang/Void;)V", sig := { parameters := [(.array .char), .int, .int, (.object "java/lang/Void")], returnType := none }, accessFlags := 2, code := some k11c2 }
/-- java/lang/String -/
def k11 : Class := { plain "java/lang/String" (some 0) with
  accessFlags := 49
  interfaces := #[2, 4, 10, 5, 6]
  cf := some (fileOf pool11 10 #[.nestMembers #[1103]] #[{ accessFlags := 1, nameIndex := 5, descriptorIndex := 6, attributes := #[] }, { accessFlags := 1, nameIndex := 5, descriptorIndex := 1010, attributes := #[] }, { accessFlags := 2, nameIndex := 5, descriptorIndex := 29, attributes := #[] }] 49 2 #[1106, 1108, 575, 1110, 1112] #[{ accessFlags := 18, nameIndex := 13, descriptorIndex := 14, attributes := #[] }, { accessFlags := 18, nameIndex := 17, descriptorIndex := 18, attributes := #[] }, { accessFlags := 2, nameIndex := 21, descriptorIndex := 22, attributes := #[] }, { accessFlags := 2, nameIndex := 25, descriptorIndex := 26, attributes := #[] }, { accessFlags := 26, nameIndex := 1116, descriptorIndex := 1117, attributes := #[] }, { accessFlags := 24, nameIndex := 40, descriptorIndex := 26, attributes := #[] }, { accessFlags := 26, nameIndex := 1101, descriptorIndex := 1102, attributes := #[] }, { accessFlags := 26, nameIndex := 1121, descriptorIndex := 1122, attributes := #[] }, { accessFlags := 25, nameIndex := 599, descriptorIndex := 600, attributes := #[] }, { accessFlags := 24, nameIndex := 1125, descriptorIndex := 18, attributes := #[] }, { accessFlags := 24, nameIndex := 1127, descriptorIndex := 18, attributes := #[] }])
  fields := #[{ name := "value", type := (.array .byte), accessFlags := 18, slot := 0, constantValue := 0 }, { name := "coder", type := .byte, accessFlags := 18, slot := 1, constantValue := 0 }, { name := "hash", type := .int, accessFlags := 2, slot := 2, constantValue := 0 }, { name := "hashIsZero", type := .boolean, accessFlags := 2, slot := 3, constantValue := 0 }, { name := "serialVersionUID", type := .long, accessFlags := 26, slot := 0, constantValue := 0 }, { name := "COMPACT_STRINGS", type := .boolean, accessFlags := 24, slot := 1, constantValue := 0 }, { name := "serialPersistentFields", type := (.array (.object "java/io/ObjectStreamField")), accessFlags := 26, slot := 2, constantValue := 0 }, { name := "REPL", type := .char, accessFlags := 26, slot := 3, constantValue := 0 }, { name := "CASE_INSENSITIVE_ORDER", type := (.object "java/util/Comparator"), accessFlags := 25, slot := 4, constantValue := 0 }, { name := "LATIN1", type := .byte, accessFlags := 24, slot := 5, constantValue := 0 }, { name := "UTF16", type := .byte, accessFlags := 24, slot := 6, constantValue := 0 }]
  methods := #[k11m0, k11m1, k11m2]
  instanceTypes := #[(.array .byte), .byte, .int, .boolean]
  staticTypes := #[.long, .boolean, (.array (.object "java/io/ObjectStreamField")), .char, (.object "java/util/Comparator"), .byte, .byte]
  resolved := Array.replicate 1451 none
  statics := some 1 }

def pool12 : Array CpInfo := pool [(6, .class_ 8), (1, u "java/lang/Object"), (0, u "<init>"), (0, u "()V"), (1, .class_ 14), (1, u "java/lang/StringUTF16"), (31, u "$assertionsDisabled"), (0, u "Z"), (13, u "HI_BYTE_SHIFT"), (0, u "I"), (2, u "LO_BYTE_SHIFT"), (49, .methodref 12 116), (0, .nameAndType 117 118), (0, u "compress"), (0, u "([CI[BII)I"), (3, u "([CII)[B"), (138, u "coderFromArrayLen"), (0, u "([BI)B"), (106, .class_ 371), (1, u "java/lang/StringUTF16$LinesSpliterator"), (58, u "MAX_LENGTH"), (196, .class_ 628), (0, u "java/lang/StringUTF16$CodePointsSpliterator"), (0, .class_ 630), (0, u "java/lang/StringUTF16$CharsSpliterator")] 4

def k12m0 : Method := { name := "<init>", desc := "()V", sig := { parameters := [], returnType := none }, accessFlags := 0, code := none }
def k12c1 : Code := { maxStack := 2, maxLocals := 2, code := jdk_52_method_15_code, exceptionTable := #[], attributes := #[] }
def k12m1 : Method := { name := "coderFromArrayLen", desc := "([BI)B", sig := { parameters := [(.array .byte), .int], returnType := some .byte }, accessFlags := 8, code := some k12c1 }
def k12c2 : Code := { maxStack := 5, maxLocals := 6, code := jdk_52_method_16_code, exceptionTable := #[], attributes := #[] }
def k12m2 : Method := { name := "compress", desc := "([CII)[B", sig := { parameters := [(.array .char), .int, .int], returnType := some (.array .byte) }, accessFlags := 9, code := some k12c2 }
def k12c3 : Code := { maxStack := 3, maxLocals := 7, code := jdk_52_method_21_code, exceptionTable := #[], attributes := #[] }
def k12m3 : Method := { name := "compress", desc := "([CI[BII)I", sig := { parameters := [(.array .char), .int, (.array .byte), .int, .int], returnType := some .int }, accessFlags := 9, code := some k12c3 }
/-- java/lang/StringUTF16 -/
def k12 : Class := { plain "java/lang/StringUTF16" (some 0) with
  accessFlags := 48
  interfaces := #[]
  cf := some (fileOf pool12 12 #[.nestMembers #[627, 629, 369]] #[{ accessFlags := 0, nameIndex := 9, descriptorIndex := 10, attributes := #[] }, { accessFlags := 8, nameIndex := 261, descriptorIndex := 262, attributes := #[] }, { accessFlags := 9, nameIndex := 117, descriptorIndex := 122, attributes := #[] }, { accessFlags := 9, nameIndex := 117, descriptorIndex := 118, attributes := #[] }] 48 6 #[] #[{ accessFlags := 26, nameIndex := 61, descriptorIndex := 62, attributes := #[] }, { accessFlags := 26, nameIndex := 65, descriptorIndex := 62, attributes := #[] }, { accessFlags := 24, nameIndex := 430, descriptorIndex := 62, attributes := #[] }, { accessFlags := 4120, nameIndex := 46, descriptorIndex := 47, attributes := #[] }])
  fields := #[{ name := "HI_BYTE_SHIFT", type := .int, accessFlags := 26, slot := 0, constantValue := 0 }, { name := "LO_BYTE_SHIFT", type := .int, accessFlags := 26, slot := 1, constantValue := 0 }, { name := "MAX_LENGTH", type := .int, accessFlags := 24, slot := 2, constantValue := 0 }, { name := "$assertionsDisabled", type := .boolean, accessFlags := 4120, slot := 3, constantValue := 0 }]
  methods := #[k12m0, k12m1, k12m2, k12m3]
  instanceTypes := #[]
  staticTypes := #[.int, .int, .int, .boolean]
  resolved := Array.replicate 635 none
  statics := none }

def pool13 : Array CpInfo := pool [(1, .methodref 2 3), (0, .class_ 4), (0, .nameAndType 5 6), (0, u "java/lang/Object"), (0, u "<init>"), (0, u "()V"), (0, .fieldref 8 9), (0, .class_ 10), (0, .nameAndType 11 12), (0, u "com/example/cassalink/cassalink/row/Blob"), (0, u "bytes"), (0, u "[B"), (0, .methodref 14 15), (0, .class_ 12), (0, .nameAndType 16 17), (0, u "clone"), (0, u "()Ljava/lang/Object;"), (0, .methodref 8 19), (0, .nameAndType 5 20), (0, u "([B)V"), (14, u "of"), (11, u "([B)Lcom/example/cassalink/cassalink/row/Blob;")] 23

def k13c0 : Code := { maxStack := 2, maxLocals := 2, code := prog_15_method_1_code, exceptionTable := #[], attributes := #[] }
def k13m0 : Method := { name := "<init>", desc := "([B)V", sig := { parameters := [(.array .byte)], returnType := none }, accessFlags := 2, code := some k13c0 }
def k13c1 : Code := { maxStack := 3, maxLocals := 1, code := prog_15_method_2_code, exceptionTable := #[], attributes := #[] }
def k13m1 : Method := { name := "of", desc := "([B)Lcom/example/cassalink/cassalink/row/Blob;", sig := { parameters := [(.array .byte)], returnType := some (.object "com/example/cassalink/cassalink/row/Blob") }, accessFlags := 9, code := some k13c1 }
/-- com/example/cassalink/cassalink/row/Blob -/
def k13 : Class := { plain "com/example/cassalink/cassalink/row/Blob" (some 0) with
  accessFlags := 49
  interfaces := #[]
  cf := some (fileOf pool13 8 #[] #[{ accessFlags := 2, nameIndex := 5, descriptorIndex := 20, attributes := #[] }, { accessFlags := 9, nameIndex := 35, descriptorIndex := 47, attributes := #[] }] 49 2 #[] #[{ accessFlags := 18, nameIndex := 11, descriptorIndex := 12, attributes := #[] }])
  fields := #[{ name := "bytes", type := (.array .byte), accessFlags := 18, slot := 0, constantValue := 0 }]
  methods := #[k13m0, k13m1]
  instanceTypes := #[(.array .byte)]
  staticTypes := #[]
  resolved := Array.replicate 71 none
  statics := none }

def pool14 : Array CpInfo := pool [(1, .class_ 2), (0, u "java/lang/Cloneable"), (0, .class_ 4), (0, u "java/lang/Object")] 2

/-- java/lang/Cloneable -/
def k14 : Class := { plain "java/lang/Cloneable" (some 0) with
  accessFlags := 1537
  interfaces := #[]
  cf := some (fileOf pool14 1 #[] #[] 1537 3 #[] #[])
  fields := #[]
  methods := #[]
  instanceTypes := #[]
  staticTypes := #[]
  resolved := Array.replicate 7 none
  statics := none }

def pool15 : Array CpInfo := pool [(2, .class_ 4), (1, u "java/lang/Enum"), (0, u "name"), (0, u "Ljava/lang/String;"), (2, u "ordinal"), (0, u "I"), (1, .class_ 14), (1, u "java/lang/Object"), (4, u "hash"), (86, .class_ 108), (1, u "java/lang/Enum$EnumDesc"), (2, .class_ 112), (0, u "java/lang/constant/Constable"), (0, .class_ 114), (0, u "java/lang/Comparable"), (0, .class_ 116), (0, u "java/io/Serializable")] 87

/-- java/lang/Enum -/
def k15 : Class := { plain "java/lang/Enum" (some 0) with
  accessFlags := 1057
  interfaces := #[5, 4, 2]
  cf := some (fileOf pool15 2 #[.nestMembers #[106]] #[] 1057 12 #[111, 113, 115] #[{ accessFlags := 18, nameIndex := 5, descriptorIndex := 6, attributes := #[] }, { accessFlags := 18, nameIndex := 9, descriptorIndex := 10, attributes := #[] }, { accessFlags := 2, nameIndex := 19, descriptorIndex := 10, attributes := #[] }])
  fields := #[{ name := "name", type := (.object "java/lang/String"), accessFlags := 18, slot := 0, constantValue := 0 }, { name := "ordinal", type := .int, accessFlags := 18, slot := 1, constantValue := 0 }, { name := "hash", type := .int, accessFlags := 2, slot := 2, constantValue := 0 }]
  methods := #[]
  instanceTypes := #[(.object "java/lang/String"), .int, .int]
  staticTypes := #[]
  resolved := Array.replicate 204 none
  statics := none }

def pool16 : Array CpInfo := pool [(1, .class_ 2), (0, u "com/example/cassalink/cassalink/row/ValueKind"), (0, .fieldref 1 4), (0, .nameAndType 5 6), (0, u "NULL"), (0, u "Lcom/example/cassalink/cassalink/row/ValueKind;"), (0, .fieldref 1 8), (0, .nameAndType 9 6), (0, u "INTEGER"), (0, .fieldref 1 11), (0, .nameAndType 12 6), (0, u "REAL"), (0, .fieldref 1 14), (0, .nameAndType 15 6), (0, u "TEXT"), (0, .fieldref 1 17), (0, .nameAndType 18 6), (0, u "BLOB"), (2, u "$VALUES"), (0, u "[Lcom/example/cassalink/cassalink/row/ValueKind;"), (6, .class_ 31), (1, u "java/lang/Enum"), (6, .class_ 39), (0, u "java/lang/Long"), (0, .class_ 41), (0, u "java/lang/Double"), (0, .class_ 43), (0, u "java/lang/String"), (0, .class_ 45), (0, u "com/example/cassalink/cassalink/row/Blob"), (38, u "of"), (0, u "(Ljava/lang/Object;)Lcom/example/cassalink/cassalink/row/ValueKind;")] 20

def k16c0 : Code := { maxStack := 3, maxLocals := 2, code := prog_18_method_4_code, exceptionTable := #[], attributes := #[] }
def k16m0 : Method := { name := "of", desc := "(Ljava/lang/Object;)Lcom/example/cassalink/cassalink/row/ValueKind;", sig := { parameters := [(.object "java/lang/Object")], returnType := some (.object "com/example/cassalink/cassalink/row/ValueKind") }, accessFlags := 9, code := some k16c0 }
/-- com/example/cassalink/cassalink/row/ValueKind -/
def k16 : Class := { plain "com/example/cassalink/cassalink/row/ValueKind" (some 15) with
  accessFlags := 16433
  interfaces := #[]
  cf := some (fileOf pool16 1 #[] #[{ accessFlags := 9, nameIndex := 84, descriptorIndex := 85, attributes := #[] }] 16433 29 #[] #[{ accessFlags := 16409, nameIndex := 5, descriptorIndex := 6, attributes := #[] }, { accessFlags := 16409, nameIndex := 9, descriptorIndex := 6, attributes := #[] }, { accessFlags := 16409, nameIndex := 12, descriptorIndex := 6, attributes := #[] }, { accessFlags := 16409, nameIndex := 15, descriptorIndex := 6, attributes := #[] }, { accessFlags := 16409, nameIndex := 18, descriptorIndex := 6, attributes := #[] }, { accessFlags := 4122, nameIndex := 21, descriptorIndex := 22, attributes := #[] }])
  fields := #[{ name := "NULL", type := (.object "com/example/cassalink/cassalink/row/ValueKind"), accessFlags := 16409, slot := 0, constantValue := 0 }, { name := "INTEGER", type := (.object "com/example/cassalink/cassalink/row/ValueKind"), accessFlags := 16409, slot := 1, constantValue := 0 }, { name := "REAL", type := (.object "com/example/cassalink/cassalink/row/ValueKind"), accessFlags := 16409, slot := 2, constantValue := 0 }, { name := "TEXT", type := (.object "com/example/cassalink/cassalink/row/ValueKind"), accessFlags := 16409, slot := 3, constantValue := 0 }, { name := "BLOB", type := (.object "com/example/cassalink/cassalink/row/ValueKind"), accessFlags := 16409, slot := 4, constantValue := 0 }, { name := "$VALUES", type := (.array (.object "com/example/cassalink/cassalink/row/ValueKind")), accessFlags := 4122, slot := 5, constantValue := 0 }]
  methods := #[k16m0]
  instanceTypes := #[(.object "java/lang/String"), .int, .int]
  staticTypes := #[(.object "com/example/cassalink/cassalink/row/ValueKind"), (.object "com/example/cassalink/cassalink/row/ValueKind"), (.object "com/example/cassalink/cassalink/row/ValueKind"), (.object "com/example/cassalink/cassalink/row/ValueKind"), (.object "com/example/cassalink/cassalink/row/ValueKind"), (.array (.object "com/example/cassalink/cassalink/row/ValueKind"))]
  resolved := Array.replicate 106 none
  statics := some 2 }

def pool17 : Array CpInfo := pool [(4, .class_ 6), (1, u "java/lang/Object"), (0, u "<init>"), (0, u "()V"), (5, .class_ 16), (1, u "java/lang/StringLatin1"), (104, u "$assertionsDisabled"), (0, u "Z"), (98, .class_ 223), (1, u "java/lang/StringLatin1$LinesSpliterator"), (166, .class_ 391), (0, u "java/lang/StringLatin1$CharsSpliterator")] 3

def k17m0 : Method := { name := "<init>", desc := "()V", sig := { parameters := [], returnType := none }, accessFlags := 0, code := none }
/-- java/lang/StringLatin1 -/
def k17 : Class := { plain "java/lang/StringLatin1" (some 0) with
  accessFlags := 48
  interfaces := #[]
  cf := some (fileOf pool17 14 #[.nestMembers #[390, 221]] #[{ accessFlags := 0, nameIndex := 7, descriptorIndex := 8, attributes := #[] }] 48 4 #[] #[{ accessFlags := 4120, nameIndex := 121, descriptorIndex := 122, attributes := #[] }])
  fields := #[{ name := "$assertionsDisabled", type := .boolean, accessFlags := 4120, slot := 0, constantValue := 0 }]
  methods := #[k17m0]
  instanceTypes := #[]
  staticTypes := #[.boolean]
  resolved := Array.replicate 395 none
  statics := none }

def pool18 : Array CpInfo := pool [(2, .class_ 4), (1, u "java/lang/Object"), (0, u "<init>"), (0, u "()V"), (17, .class_ 26), (1, u "jdk/internal/util/Preconditions"), (28, .class_ 56), (0, u "jdk/internal/util/Preconditions$4"), (57, .class_ 115), (0, u "jdk/internal/util/Preconditions$1"), (7, u "SIOOBE_FORMATTER"), (0, u "Ljava/util/function/BiFunction;"), (0, .class_ 126), (0, u "jdk/internal/util/Preconditions$2"), (3, u "AIOOBE_FORMATTER"), (0, .class_ 132), (0, u "jdk/internal/util/Preconditions$3"), (3, u "IOOBE_FORMATTER")] 57

def k18m0 : Method := { name := "<init>", desc := "()V", sig := { parameters := [], returnType := none }, accessFlags := 1, code := none }
/-- jdk/internal/util/Preconditions -/
def k18 : Class := { plain "jdk/internal/util/Preconditions" (some 0) with
  accessFlags := 33
  interfaces := #[]
  cf := some (fileOf pool18 24 #[.nestMembers #[55, 131, 125, 114]] #[{ accessFlags := 1, nameIndex := 5, descriptorIndex := 6, attributes := #[] }] 33 2 #[] #[{ accessFlags := 25, nameIndex := 123, descriptorIndex := 124, attributes := #[] }, { accessFlags := 25, nameIndex := 130, descriptorIndex := 124, attributes := #[] }, { accessFlags := 25, nameIndex := 136, descriptorIndex := 124, attributes := #[] }])
  fields := #[{ name := "SIOOBE_FORMATTER", type := (.object "java/util/function/BiFunction"), accessFlags := 25, slot := 0, constantValue := 0 }, { name := "AIOOBE_FORMATTER", type := (.object "java/util/function/BiFunction"), accessFlags := 25, slot := 1, constantValue := 0 }, { name := "IOOBE_FORMATTER", type := (.object "java/util/function/BiFunction"), accessFlags := 25, slot := 2, constantValue := 0 }]
  methods := #[k18m0]
  instanceTypes := #[]
  staticTypes := #[(.object "java/util/function/BiFunction"), (.object "java/util/function/BiFunction"), (.object "java/util/function/BiFunction")]
  resolved := Array.replicate 194 none
  statics := some 3 }

def pool19 : Array CpInfo := pool [(9, u "<init>"), (6, .class_ 18), (1, u "java/lang/Object"), (0, u "()V"), (1, .class_ 23), (1, u "jdk/internal/util/ArraysSupport"), (0, u "LOG2_ARRAY_LONG_INDEX_SCALE"), (0, u "I"), (2, u "U"), (0, u "Ljdk/internal/misc/Unsafe;"), (8, u "BIG_ENDIAN"), (0, u "Z"), (8, u "LOG2_BYTE_BIT_SIZE"), (4, u "LOG2_ARRAY_INT_INDEX_SCALE"), (54, u "JLA"), (0, u "Ljdk/internal/access/JavaLangAccess;"), (11, u "LOG2_ARRAY_BOOLEAN_INDEX_SCALE"), (9, u "LOG2_ARRAY_BYTE_INDEX_SCALE"), (5, u "LOG2_ARRAY_CHAR_INDEX_SCALE"), (5, u "LOG2_ARRAY_SHORT_INDEX_SCALE"), (18, u "LOG2_ARRAY_FLOAT_INDEX_SCALE"), (24, u "LOG2_ARRAY_DOUBLE_INDEX_SCALE"), (89, u "T_BOOLEAN"), (2, u "T_CHAR"), (1, u "T_FLOAT"), (1, u "T_DOUBLE"), (1, u "T_BYTE"), (1, u "T_SHORT"), (1, u "T_INT"), (1, u "T_LONG"), (1, u "SOFT_MAX_ARRAY_LENGTH")] 83

def k19m0 : Method := { name := "<init>", desc := "()V", sig := { parameters := [], returnType := none }, accessFlags := 2, code := none }
/-- jdk/internal/util/ArraysSupport -/
def k19 : Class := { plain "jdk/internal/util/ArraysSupport" (some 0) with
  accessFlags := 33
  interfaces := #[]
  cf := some (fileOf pool19 21 #[] #[{ accessFlags := 2, nameIndex := 9, descriptorIndex := 19, attributes := #[] }] 33 16 #[] #[{ accessFlags := 24, nameIndex := 28, descriptorIndex := 29, attributes := #[] }, { accessFlags := 26, nameIndex := 38, descriptorIndex := 39, attributes := #[] }, { accessFlags := 25, nameIndex := 121, descriptorIndex := 25, attributes := #[] }, { accessFlags := 25, nameIndex := 131, descriptorIndex := 25, attributes := #[] }, { accessFlags := 25, nameIndex := 137, descriptorIndex := 25, attributes := #[] }, { accessFlags := 25, nameIndex := 143, descriptorIndex := 25, attributes := #[] }, { accessFlags := 25, nameIndex := 53, descriptorIndex := 25, attributes := #[] }, { accessFlags := 25, nameIndex := 24, descriptorIndex := 25, attributes := #[] }, { accessFlags := 25, nameIndex := 162, descriptorIndex := 25, attributes := #[] }, { accessFlags := 25, nameIndex := 187, descriptorIndex := 25, attributes := #[] }, { accessFlags := 26, nameIndex := 48, descriptorIndex := 25, attributes := #[] }, { accessFlags := 25, nameIndex := 277, descriptorIndex := 25, attributes := #[] }, { accessFlags := 25, nameIndex := 280, descriptorIndex := 25, attributes := #[] }, { accessFlags := 25, nameIndex := 282, descriptorIndex := 25, attributes := #[] }, { accessFlags := 25, nameIndex := 284, descriptorIndex := 25, attributes := #[] }, { accessFlags := 25, nameIndex := 286, descriptorIndex := 25, attributes := #[] }, { accessFlags := 25, nameIndex := 288, descriptorIndex := 25, attributes := #[] }, { accessFlags := 25, nameIndex := 290, descriptorIndex := 25, attributes := #[] }, { accessFlags := 25, nameIndex := 292, descriptorIndex := 25, attributes := #[] }, { accessFlags := 26, nameIndex := 108, descriptorIndex := 109, attributes := #[] }, { accessFlags := 25, nameIndex := 294, descriptorIndex := 25, attributes := #[] }])
  fields := #[{ name := "U", type := (.object "jdk/internal/misc/Unsafe"), accessFlags := 24, slot := 0, constantValue := 0 }, { name := "BIG_ENDIAN", type := .boolean, accessFlags := 26, slot := 1, constantValue := 0 }, { name := "LOG2_ARRAY_BOOLEAN_INDEX_SCALE", type := .int, accessFlags := 25, slot := 2, constantValue := 0 }, { name := "LOG2_ARRAY_BYTE_INDEX_SCALE", type := .int, accessFlags := 25, slot := 3, constantValue := 0 }, { name := "LOG2_ARRAY_CHAR_INDEX_SCALE", type := .int, accessFlags := 25, slot := 4, constantValue := 0 }, { name := "LOG2_ARRAY_SHORT_INDEX_SCALE", type := .int, accessFlags := 25, slot := 5, constantValue := 0 }, { name := "LOG2_ARRAY_INT_INDEX_SCALE", type := .int, accessFlags := 25, slot := 6, constantValue := 0 }, { name := "LOG2_ARRAY_LONG_INDEX_SCALE", type := .int, accessFlags := 25, slot := 7, constantValue := 0 }, { name := "LOG2_ARRAY_FLOAT_INDEX_SCALE", type := .int, accessFlags := 25, slot := 8, constantValue := 0 }, { name := "LOG2_ARRAY_DOUBLE_INDEX_SCALE", type := .int, accessFlags := 25, slot := 9, constantValue := 0 }, { name := "LOG2_BYTE_BIT_SIZE", type := .int, accessFlags := 26, slot := 10, constantValue := 0 }, { name := "T_BOOLEAN", type := .int, accessFlags := 25, slot := 11, constantValue := 0 }, { name := "T_CHAR", type := .int, accessFlags := 25, slot := 12, constantValue := 0 }, { name := "T_FLOAT", type := .int, accessFlags := 25, slot := 13, constantValue := 0 }, { name := "T_DOUBLE", type := .int, accessFlags := 25, slot := 14, constantValue := 0 }, { name := "T_BYTE", type := .int, accessFlags := 25, slot := 15, constantValue := 0 }, { name := "T_SHORT", type := .int, accessFlags := 25, slot := 16, constantValue := 0 }, { name := "T_INT", type := .int, accessFlags := 25, slot := 17, constantValue := 0 }, { name := "T_LONG", type := .int, accessFlags := 25, slot := 18, constantValue := 0 }, { name := "JLA", type := (.object "jdk/internal/access/JavaLangAccess"), accessFlags := 26, slot := 19, constantValue := 0 }, { name := "SOFT_MAX_ARRAY_LENGTH", type := .int, accessFlags := 25, slot := 20, constantValue := 0 }]
  methods := #[k19m0]
  instanceTypes := #[]
  staticTypes := #[(.object "jdk/internal/misc/Unsafe"), .boolean, .int, .int, .int, .int, .int, .int, .int, .int, .int, .int, .int, .int, .int, .int, .int, .int, .int, (.object "jdk/internal/access/JavaLangAccess"), .int]
  resolved := Array.replicate 378 none
  statics := none }

/-- the primitive byte -/
def k20 : Class := { plain "byte" none with kind := .primitive 'B', accessFlags := 0x411 }
/-- [B -/
def k21 : Class := { plain "[B" (some 0) with kind := .array 20 .byte, interfaces := #[14, 2], accessFlags := 1041 }

/-- the primitive char -/
def k22 : Class := { plain "char" none with kind := .primitive 'C', accessFlags := 0x411 }
/-- [C -/
def k23 : Class := { plain "[C" (some 0) with kind := .array 22 .char, interfaces := #[14, 2], accessFlags := 1041 }

/-- [Ljava/lang/Long; -/
def k24 : Class := { plain "[Ljava/lang/Long;" (some 0) with kind := .array 7 (.object "java/lang/Long"), interfaces := #[14, 2], accessFlags := 1041 }

def heap : Heap := #[{ cls := 8, slots := #[.ref 4, .null, .int 0], vm := .statics 8 },
  { cls := 11, slots := #[.long 0, .int 1, .null, .int 0, .null, .int 0, .int 0], vm := .statics 11 },
  { cls := 16, slots := #[.ref 5, .ref 6, .ref 7, .ref 8, .ref 9, .null], vm := .statics 16 },
  { cls := 18, slots := #[.null, .null, .null], vm := .statics 18 },
  { cls := 24, slots := #[.ref 10, .ref 11, .ref 12, .ref 13, .ref 14, .ref 15, .ref 16, .ref 17, .ref 18, .ref 19, .ref 20, .ref 21, .ref 22, .ref 23, .ref 24, .ref 25, .ref 26, .ref 27, .ref 28, .ref 29, .ref 30, .ref 31, .ref 32, .ref 33, .ref 34, .ref 35, .ref 36, .ref 37, .ref 38, .ref 39, .ref 40, .ref 41, .ref 42, .ref 43, .ref 44, .ref 45, .ref 46, .ref 47, .ref 48, .ref 49, .ref 50, .ref 51, .ref 52, .ref 53, .ref 54, .ref 55, .ref 56, .ref 57, .ref 58, .ref 59, .ref 60, .ref 61, .ref 62, .ref 63, .ref 64, .ref 65, .ref 66, .ref 67, .ref 68, .ref 69, .ref 70, .ref 71, .ref 72, .ref 73, .ref 74, .ref 75, .ref 76, .ref 77, .ref 78, .ref 79, .ref 80, .ref 81, .ref 82, .ref 83, .ref 84, .ref 85, .ref 86, .ref 87, .ref 88, .ref 89, .ref 90, .ref 91, .ref 92, .ref 93, .ref 94, .ref 95, .ref 96, .ref 97, .ref 98, .ref 99, .ref 100, .ref 101, .ref 102, .ref 103, .ref 104, .ref 105, .ref 106, .ref 107, .ref 108, .ref 109, .ref 110, .ref 111, .ref 112, .ref 113, .ref 114, .ref 115, .ref 116, .ref 117, .ref 118, .ref 119, .ref 120, .ref 121, .ref 122, .ref 123, .ref 124, .ref 125, .ref 126, .ref 127, .ref 128, .ref 129, .ref 130, .ref 131, .ref 132, .ref 133, .ref 134, .ref 135, .ref 136, .ref 137, .ref 138, .ref 139, .ref 140, .ref 141, .ref 142, .ref 143, .ref 144, .ref 145, .ref 146, .ref 147, .ref 148, .ref 149, .ref 150, .ref 151, .ref 152, .ref 153, .ref 154, .ref 155, .ref 156, .ref 157, .ref 158, .ref 159, .ref 160, .ref 161, .ref 162, .ref 163, .ref 164, .ref 165, .ref 166, .ref 167, .ref 168, .ref 169, .ref 170, .ref 171, .ref 172, .ref 173, .ref 174, .ref 175, .ref 176, .ref 177, .ref 178, .ref 179, .ref 180, .ref 181, .ref 182, .ref 183, .ref 184, .ref 185, .ref 186, .ref 187, .ref 188, .ref 189, .ref 190, .ref 191, .ref 192, .ref 193, .ref 194, .ref 195, .ref 196, .ref 197, .ref 198, .ref 199, .ref 200, .ref 201, .ref 202, .ref 203, .ref 204, .ref 205, .ref 206, .ref 207, .ref 208, .ref 209, .ref 210, .ref 211, .ref 212, .ref 213, .ref 214, .ref 215, .ref 216, .ref 217, .ref 218, .ref 219, .ref 220, .ref 221, .ref 222, .ref 223, .ref 224, .ref 225, .ref 226, .ref 227, .ref 228, .ref 229, .ref 230, .ref 231, .ref 232, .ref 233, .ref 234, .ref 235, .ref 236, .ref 237, .ref 238, .ref 239, .ref 240, .ref 241, .ref 242, .ref 243, .ref 244, .ref 245, .ref 246, .ref 247, .ref 248, .ref 249, .ref 250, .ref 251, .ref 252, .ref 253, .ref 254, .ref 255, .ref 256, .ref 257, .ref 258, .ref 259, .ref 260, .ref 261, .ref 262, .ref 263, .ref 264, .ref 265], vm := .none },
  { cls := 16, slots := #[.null, .int 0, .int 0], vm := .none },
  { cls := 16, slots := #[.null, .int 0, .int 0], vm := .none },
  { cls := 16, slots := #[.null, .int 0, .int 0], vm := .none },
  { cls := 16, slots := #[.null, .int 0, .int 0], vm := .none },
  { cls := 16, slots := #[.null, .int 0, .int 0], vm := .none },
  { cls := 7, slots := #[.long (-128)], vm := .none },
  { cls := 7, slots := #[.long (-127)], vm := .none },
  { cls := 7, slots := #[.long (-126)], vm := .none },
  { cls := 7, slots := #[.long (-125)], vm := .none },
  { cls := 7, slots := #[.long (-124)], vm := .none },
  { cls := 7, slots := #[.long (-123)], vm := .none },
  { cls := 7, slots := #[.long (-122)], vm := .none },
  { cls := 7, slots := #[.long (-121)], vm := .none },
  { cls := 7, slots := #[.long (-120)], vm := .none },
  { cls := 7, slots := #[.long (-119)], vm := .none },
  { cls := 7, slots := #[.long (-118)], vm := .none },
  { cls := 7, slots := #[.long (-117)], vm := .none },
  { cls := 7, slots := #[.long (-116)], vm := .none },
  { cls := 7, slots := #[.long (-115)], vm := .none },
  { cls := 7, slots := #[.long (-114)], vm := .none },
  { cls := 7, slots := #[.long (-113)], vm := .none },
  { cls := 7, slots := #[.long (-112)], vm := .none },
  { cls := 7, slots := #[.long (-111)], vm := .none },
  { cls := 7, slots := #[.long (-110)], vm := .none },
  { cls := 7, slots := #[.long (-109)], vm := .none },
  { cls := 7, slots := #[.long (-108)], vm := .none },
  { cls := 7, slots := #[.long (-107)], vm := .none },
  { cls := 7, slots := #[.long (-106)], vm := .none },
  { cls := 7, slots := #[.long (-105)], vm := .none },
  { cls := 7, slots := #[.long (-104)], vm := .none },
  { cls := 7, slots := #[.long (-103)], vm := .none },
  { cls := 7, slots := #[.long (-102)], vm := .none },
  { cls := 7, slots := #[.long (-101)], vm := .none },
  { cls := 7, slots := #[.long (-100)], vm := .none },
  { cls := 7, slots := #[.long (-99)], vm := .none },
  { cls := 7, slots := #[.long (-98)], vm := .none },
  { cls := 7, slots := #[.long (-97)], vm := .none },
  { cls := 7, slots := #[.long (-96)], vm := .none },
  { cls := 7, slots := #[.long (-95)], vm := .none },
  { cls := 7, slots := #[.long (-94)], vm := .none },
  { cls := 7, slots := #[.long (-93)], vm := .none },
  { cls := 7, slots := #[.long (-92)], vm := .none },
  { cls := 7, slots := #[.long (-91)], vm := .none },
  { cls := 7, slots := #[.long (-90)], vm := .none },
  { cls := 7, slots := #[.long (-89)], vm := .none },
  { cls := 7, slots := #[.long (-88)], vm := .none },
  { cls := 7, slots := #[.long (-87)], vm := .none },
  { cls := 7, slots := #[.long (-86)], vm := .none },
  { cls := 7, slots := #[.long (-85)], vm := .none },
  { cls := 7, slots := #[.long (-84)], vm := .none },
  { cls := 7, slots := #[.long (-83)], vm := .none },
  { cls := 7, slots := #[.long (-82)], vm := .none },
  { cls := 7, slots := #[.long (-81)], vm := .none },
  { cls := 7, slots := #[.long (-80)], vm := .none },
  { cls := 7, slots := #[.long (-79)], vm := .none },
  { cls := 7, slots := #[.long (-78)], vm := .none },
  { cls := 7, slots := #[.long (-77)], vm := .none },
  { cls := 7, slots := #[.long (-76)], vm := .none },
  { cls := 7, slots := #[.long (-75)], vm := .none },
  { cls := 7, slots := #[.long (-74)], vm := .none },
  { cls := 7, slots := #[.long (-73)], vm := .none },
  { cls := 7, slots := #[.long (-72)], vm := .none },
  { cls := 7, slots := #[.long (-71)], vm := .none },
  { cls := 7, slots := #[.long (-70)], vm := .none },
  { cls := 7, slots := #[.long (-69)], vm := .none },
  { cls := 7, slots := #[.long (-68)], vm := .none },
  { cls := 7, slots := #[.long (-67)], vm := .none },
  { cls := 7, slots := #[.long (-66)], vm := .none },
  { cls := 7, slots := #[.long (-65)], vm := .none },
  { cls := 7, slots := #[.long (-64)], vm := .none },
  { cls := 7, slots := #[.long (-63)], vm := .none },
  { cls := 7, slots := #[.long (-62)], vm := .none },
  { cls := 7, slots := #[.long (-61)], vm := .none },
  { cls := 7, slots := #[.long (-60)], vm := .none },
  { cls := 7, slots := #[.long (-59)], vm := .none },
  { cls := 7, slots := #[.long (-58)], vm := .none },
  { cls := 7, slots := #[.long (-57)], vm := .none },
  { cls := 7, slots := #[.long (-56)], vm := .none },
  { cls := 7, slots := #[.long (-55)], vm := .none },
  { cls := 7, slots := #[.long (-54)], vm := .none },
  { cls := 7, slots := #[.long (-53)], vm := .none },
  { cls := 7, slots := #[.long (-52)], vm := .none },
  { cls := 7, slots := #[.long (-51)], vm := .none },
  { cls := 7, slots := #[.long (-50)], vm := .none },
  { cls := 7, slots := #[.long (-49)], vm := .none },
  { cls := 7, slots := #[.long (-48)], vm := .none },
  { cls := 7, slots := #[.long (-47)], vm := .none },
  { cls := 7, slots := #[.long (-46)], vm := .none },
  { cls := 7, slots := #[.long (-45)], vm := .none },
  { cls := 7, slots := #[.long (-44)], vm := .none },
  { cls := 7, slots := #[.long (-43)], vm := .none },
  { cls := 7, slots := #[.long (-42)], vm := .none },
  { cls := 7, slots := #[.long (-41)], vm := .none },
  { cls := 7, slots := #[.long (-40)], vm := .none },
  { cls := 7, slots := #[.long (-39)], vm := .none },
  { cls := 7, slots := #[.long (-38)], vm := .none },
  { cls := 7, slots := #[.long (-37)], vm := .none },
  { cls := 7, slots := #[.long (-36)], vm := .none },
  { cls := 7, slots := #[.long (-35)], vm := .none },
  { cls := 7, slots := #[.long (-34)], vm := .none },
  { cls := 7, slots := #[.long (-33)], vm := .none },
  { cls := 7, slots := #[.long (-32)], vm := .none },
  { cls := 7, slots := #[.long (-31)], vm := .none },
  { cls := 7, slots := #[.long (-30)], vm := .none },
  { cls := 7, slots := #[.long (-29)], vm := .none },
  { cls := 7, slots := #[.long (-28)], vm := .none },
  { cls := 7, slots := #[.long (-27)], vm := .none },
  { cls := 7, slots := #[.long (-26)], vm := .none },
  { cls := 7, slots := #[.long (-25)], vm := .none },
  { cls := 7, slots := #[.long (-24)], vm := .none },
  { cls := 7, slots := #[.long (-23)], vm := .none },
  { cls := 7, slots := #[.long (-22)], vm := .none },
  { cls := 7, slots := #[.long (-21)], vm := .none },
  { cls := 7, slots := #[.long (-20)], vm := .none },
  { cls := 7, slots := #[.long (-19)], vm := .none },
  { cls := 7, slots := #[.long (-18)], vm := .none },
  { cls := 7, slots := #[.long (-17)], vm := .none },
  { cls := 7, slots := #[.long (-16)], vm := .none },
  { cls := 7, slots := #[.long (-15)], vm := .none },
  { cls := 7, slots := #[.long (-14)], vm := .none },
  { cls := 7, slots := #[.long (-13)], vm := .none },
  { cls := 7, slots := #[.long (-12)], vm := .none },
  { cls := 7, slots := #[.long (-11)], vm := .none },
  { cls := 7, slots := #[.long (-10)], vm := .none },
  { cls := 7, slots := #[.long (-9)], vm := .none },
  { cls := 7, slots := #[.long (-8)], vm := .none },
  { cls := 7, slots := #[.long (-7)], vm := .none },
  { cls := 7, slots := #[.long (-6)], vm := .none },
  { cls := 7, slots := #[.long (-5)], vm := .none },
  { cls := 7, slots := #[.long (-4)], vm := .none },
  { cls := 7, slots := #[.long (-3)], vm := .none },
  { cls := 7, slots := #[.long (-2)], vm := .none },
  { cls := 7, slots := #[.long (-1)], vm := .none },
  { cls := 7, slots := #[.long 0], vm := .none },
  { cls := 7, slots := #[.long 1], vm := .none },
  { cls := 7, slots := #[.long 2], vm := .none },
  { cls := 7, slots := #[.long 3], vm := .none },
  { cls := 7, slots := #[.long 4], vm := .none },
  { cls := 7, slots := #[.long 5], vm := .none },
  { cls := 7, slots := #[.long 6], vm := .none },
  { cls := 7, slots := #[.long 7], vm := .none },
  { cls := 7, slots := #[.long 8], vm := .none },
  { cls := 7, slots := #[.long 9], vm := .none },
  { cls := 7, slots := #[.long 10], vm := .none },
  { cls := 7, slots := #[.long 11], vm := .none },
  { cls := 7, slots := #[.long 12], vm := .none },
  { cls := 7, slots := #[.long 13], vm := .none },
  { cls := 7, slots := #[.long 14], vm := .none },
  { cls := 7, slots := #[.long 15], vm := .none },
  { cls := 7, slots := #[.long 16], vm := .none },
  { cls := 7, slots := #[.long 17], vm := .none },
  { cls := 7, slots := #[.long 18], vm := .none },
  { cls := 7, slots := #[.long 19], vm := .none },
  { cls := 7, slots := #[.long 20], vm := .none },
  { cls := 7, slots := #[.long 21], vm := .none },
  { cls := 7, slots := #[.long 22], vm := .none },
  { cls := 7, slots := #[.long 23], vm := .none },
  { cls := 7, slots := #[.long 24], vm := .none },
  { cls := 7, slots := #[.long 25], vm := .none },
  { cls := 7, slots := #[.long 26], vm := .none },
  { cls := 7, slots := #[.long 27], vm := .none },
  { cls := 7, slots := #[.long 28], vm := .none },
  { cls := 7, slots := #[.long 29], vm := .none },
  { cls := 7, slots := #[.long 30], vm := .none },
  { cls := 7, slots := #[.long 31], vm := .none },
  { cls := 7, slots := #[.long 32], vm := .none },
  { cls := 7, slots := #[.long 33], vm := .none },
  { cls := 7, slots := #[.long 34], vm := .none },
  { cls := 7, slots := #[.long 35], vm := .none },
  { cls := 7, slots := #[.long 36], vm := .none },
  { cls := 7, slots := #[.long 37], vm := .none },
  { cls := 7, slots := #[.long 38], vm := .none },
  { cls := 7, slots := #[.long 39], vm := .none },
  { cls := 7, slots := #[.long 40], vm := .none },
  { cls := 7, slots := #[.long 41], vm := .none },
  { cls := 7, slots := #[.long 42], vm := .none },
  { cls := 7, slots := #[.long 43], vm := .none },
  { cls := 7, slots := #[.long 44], vm := .none },
  { cls := 7, slots := #[.long 45], vm := .none },
  { cls := 7, slots := #[.long 46], vm := .none },
  { cls := 7, slots := #[.long 47], vm := .none },
  { cls := 7, slots := #[.long 48], vm := .none },
  { cls := 7, slots := #[.long 49], vm := .none },
  { cls := 7, slots := #[.long 50], vm := .none },
  { cls := 7, slots := #[.long 51], vm := .none },
  { cls := 7, slots := #[.long 52], vm := .none },
  { cls := 7, slots := #[.long 53], vm := .none },
  { cls := 7, slots := #[.long 54], vm := .none },
  { cls := 7, slots := #[.long 55], vm := .none },
  { cls := 7, slots := #[.long 56], vm := .none },
  { cls := 7, slots := #[.long 57], vm := .none },
  { cls := 7, slots := #[.long 58], vm := .none },
  { cls := 7, slots := #[.long 59], vm := .none },
  { cls := 7, slots := #[.long 60], vm := .none },
  { cls := 7, slots := #[.long 61], vm := .none },
  { cls := 7, slots := #[.long 62], vm := .none },
  { cls := 7, slots := #[.long 63], vm := .none },
  { cls := 7, slots := #[.long 64], vm := .none },
  { cls := 7, slots := #[.long 65], vm := .none },
  { cls := 7, slots := #[.long 66], vm := .none },
  { cls := 7, slots := #[.long 67], vm := .none },
  { cls := 7, slots := #[.long 68], vm := .none },
  { cls := 7, slots := #[.long 69], vm := .none },
  { cls := 7, slots := #[.long 70], vm := .none },
  { cls := 7, slots := #[.long 71], vm := .none },
  { cls := 7, slots := #[.long 72], vm := .none },
  { cls := 7, slots := #[.long 73], vm := .none },
  { cls := 7, slots := #[.long 74], vm := .none },
  { cls := 7, slots := #[.long 75], vm := .none },
  { cls := 7, slots := #[.long 76], vm := .none },
  { cls := 7, slots := #[.long 77], vm := .none },
  { cls := 7, slots := #[.long 78], vm := .none },
  { cls := 7, slots := #[.long 79], vm := .none },
  { cls := 7, slots := #[.long 80], vm := .none },
  { cls := 7, slots := #[.long 81], vm := .none },
  { cls := 7, slots := #[.long 82], vm := .none },
  { cls := 7, slots := #[.long 83], vm := .none },
  { cls := 7, slots := #[.long 84], vm := .none },
  { cls := 7, slots := #[.long 85], vm := .none },
  { cls := 7, slots := #[.long 86], vm := .none },
  { cls := 7, slots := #[.long 87], vm := .none },
  { cls := 7, slots := #[.long 88], vm := .none },
  { cls := 7, slots := #[.long 89], vm := .none },
  { cls := 7, slots := #[.long 90], vm := .none },
  { cls := 7, slots := #[.long 91], vm := .none },
  { cls := 7, slots := #[.long 92], vm := .none },
  { cls := 7, slots := #[.long 93], vm := .none },
  { cls := 7, slots := #[.long 94], vm := .none },
  { cls := 7, slots := #[.long 95], vm := .none },
  { cls := 7, slots := #[.long 96], vm := .none },
  { cls := 7, slots := #[.long 97], vm := .none },
  { cls := 7, slots := #[.long 98], vm := .none },
  { cls := 7, slots := #[.long 99], vm := .none },
  { cls := 7, slots := #[.long 100], vm := .none },
  { cls := 7, slots := #[.long 101], vm := .none },
  { cls := 7, slots := #[.long 102], vm := .none },
  { cls := 7, slots := #[.long 103], vm := .none },
  { cls := 7, slots := #[.long 104], vm := .none },
  { cls := 7, slots := #[.long 105], vm := .none },
  { cls := 7, slots := #[.long 106], vm := .none },
  { cls := 7, slots := #[.long 107], vm := .none },
  { cls := 7, slots := #[.long 108], vm := .none },
  { cls := 7, slots := #[.long 109], vm := .none },
  { cls := 7, slots := #[.long 110], vm := .none },
  { cls := 7, slots := #[.long 111], vm := .none },
  { cls := 7, slots := #[.long 112], vm := .none },
  { cls := 7, slots := #[.long 113], vm := .none },
  { cls := 7, slots := #[.long 114], vm := .none },
  { cls := 7, slots := #[.long 115], vm := .none },
  { cls := 7, slots := #[.long 116], vm := .none },
  { cls := 7, slots := #[.long 117], vm := .none },
  { cls := 7, slots := #[.long 118], vm := .none },
  { cls := 7, slots := #[.long 119], vm := .none },
  { cls := 7, slots := #[.long 120], vm := .none },
  { cls := 7, slots := #[.long 121], vm := .none },
  { cls := 7, slots := #[.long 122], vm := .none },
  { cls := 7, slots := #[.long 123], vm := .none },
  { cls := 7, slots := #[.long 124], vm := .none },
  { cls := 7, slots := #[.long 125], vm := .none },
  { cls := 7, slots := #[.long 126], vm := .none },
  { cls := 7, slots := #[.long 127], vm := .none }]
def classes : Array Class := #[k0, k1, k2, k3, k4, k5, k6, k7, k8, k9, k10, k11, k12, k13, k14, k15, k16, k17, k18, k19, k20, k21, k22, k23, k24]
def interned : List (Array UInt16 × Addr) := []
def slotsUsed : Nat := 546
def theMethod : MethodId := ⟨1, 1⟩
def args0 : Array Value := #[.long 7, .int 3, .int 300, .int 7]
def aboutOver (below : List Frame) : State where
  vm := { classes := classes, interned := interned.toArray }
  heap := heap
  slotsUsed := slotsUsed
  threads := #[{ frames := .invoking theMethod args0 :: below }]
def below0 : List Frame := [.native { method := ⟨0, 0⟩, args := #[] }]
def about1 : State := aboutOver below0
def p0 : Program := .bare "" "" ""
def e0 : Env := launch0.env 0 0 0
theorem w_frames : about1.frames = Frame.invoking theMethod args0 :: below0 := rfl
set_option maxRecDepth 65536 in
theorem w_args : argsFit about1.vm theMethod args0 = true := by decide +kernel
set_option maxRecDepth 65536 in
theorem w_heap : heapFits about1 = true := by decide +kernel
set_option maxRecDepth 65536 in
theorem w_runnable : about1.curStatus? = some .runnable := by decide +kernel
set_option maxRecDepth 65536 in
theorem w_alone : about1.alone = true := by decide +kernel
set_option maxRecDepth 65536 in
theorem w_named : about1.methodNamed? x = some theMethod := by decide +kernel
set_option maxRecDepth 65536 in
theorem w_hears : about1.hears theMethod below0 = true := by decide +kernel
set_option maxRecDepth 65536 in
theorem w_ripe : about1.ripe theMethod args0 below0 = true := by decide +kernel
theorem w_running : about1.status = .running := rfl
set_option maxRecDepth 65536 in
theorem w_room : about1.hasRoom e0.platform room_1 = true :=
  launch0.hasRoom_least _ room_1 (by decide +kernel) (by decide +kernel) (by decide +kernel) (by decide +kernel) (by decide +kernel) (by decide +kernel)
theorem allAtoms_all (ts : List Jvm.Cond) (a : Array Jvm.Value) (st : Jvm.State) : (allAtoms ts).before a st = ts.all (fun c => c.before a st) := by
  induction ts with
  | nil => rfl
  | cons c t ih =>
    show (Jvm.Cond.and c (allAtoms t)).before a st = _
    rw [Jvm.Cond.before_and, ih, List.all_cons]
def words1 : List Jvm.Cond := Jvm.Cond.code x code maxLocals ret :: tables_1
/-- a 'code' word, met by the world's own term for the bytes: nothing is compared byte by byte -/
theorem code_word {y : MethodName} {bytes : ByteArray} {mx : Nat} {rt : Option FieldType} {a : Array Value} {s : State} {m : MethodId} {meth : Method} {c : Code} (h1 : s.methodNamed? y = some m) (h2 : s.vm.method? m = some meth) (h3 : meth.code = some c) (h4 : c.code = bytes)
    (h5 : (c.maxLocals == mx && c.exceptionTable.isEmpty && decide (c.maxStack ≤ mostOperands) && decide (meth.sig.returnType = rt) && !meth.locks && decide (parseMethodDescriptor y.desc = some meth.sig)) = true) : (Jvm.Cond.code y bytes mx rt).before a s = true := by
  simp only [Bool.and_eq_true, beq_iff_eq, Bool.not_eq_true', decide_eq_true_eq] at h5
  obtain ⟨⟨⟨⟨⟨g1, g2⟩, g3⟩, g4⟩, g5⟩, g6⟩ := h5
  simp [Cond.before, Cond.holds, Cond.value, h1, h2, h3, h4, g1, g2, g3, g4, g5, g6]
def isCode : Jvm.Cond → Bool
  | .code _ _ _ _ => true
  | _ => false
theorem all_split {L : List Jvm.Cond} {P : Jvm.Cond → Bool} (h1 : L.all (fun c => isCode c || P c) = true) (h2 : ∀ c ∈ L.filter isCode, P c = true) : L.all P = true := by
  refine List.all_eq_true.mpr fun c hc => ?_
  have h := List.all_eq_true.mp h1 c hc
  rcases Bool.eq_false_or_eq_true (isCode c) with hi | hi
  · exact h2 c (List.mem_filter.mpr ⟨hc, hi⟩)
  · simpa [hi] using h
set_option maxRecDepth 65536 in
theorem w_c0 : (Jvm.Cond.code x code maxLocals ret).before args0 about1 = true := code_word (m := ⟨1, 1⟩) (meth := k1m1) (c := k1c1) (by decide +kernel) rfl rfl rfl (by decide +kernel)
set_option maxRecDepth 65536 in
theorem w_c1 : (Jvm.Cond.code ({ cls := "java/lang/Long", name := "valueOf", desc := "(J)Ljava/lang/Long;" } : Jvm.MethodName) jdk_35_method_24_code (3 : Nat) (Option.some (Jvm.ClassFile.FieldType.object "java/lang/Long"))).before args0 about1 = true := code_word (m := ⟨7, 0⟩) (meth := k7m0) (c := k7c0) (by decide +kernel) rfl rfl rfl (by decide +kernel)
set_option maxRecDepth 65536 in
theorem w_c2 : (Jvm.Cond.code ({ cls := "java/lang/Double", name := "valueOf", desc := "(D)Ljava/lang/Double;" } : Jvm.MethodName) jdk_117_method_4_code (2 : Nat) (Option.some (Jvm.ClassFile.FieldType.object "java/lang/Double"))).before args0 about1 = true := code_word (m := ⟨9, 0⟩) (meth := k9m0) (c := k9c0) (by decide +kernel) rfl rfl rfl (by decide +kernel)
set_option maxRecDepth 65536 in
theorem w_c3 : (Jvm.Cond.code ({ cls := "java/lang/Double", name := "<init>", desc := "(D)V" } : Jvm.MethodName) jdk_117_method_9_code (3 : Nat) (Option.none : Option Jvm.ClassFile.FieldType)).before args0 about1 = true := code_word (m := ⟨9, 1⟩) (meth := k9m1) (c := k9c1) (by decide +kernel) rfl rfl rfl (by decide +kernel)
set_option maxRecDepth 65536 in
theorem w_c4 : (Jvm.Cond.code ({ cls := "java/lang/Number", name := "<init>", desc := "()V" } : Jvm.MethodName) jdk_18_method_1_code (1 : Nat) (Option.none : Option Jvm.ClassFile.FieldType)).before args0 about1 = true := code_word (m := ⟨3, 0⟩) (meth := k3m0) (c := k3c0) (by decide +kernel) rfl rfl rfl (by decide +kernel)
set_option maxRecDepth 65536 in
theorem w_c5 : (Jvm.Cond.code ({ cls := "java/lang/Object", name := "<init>", desc := "()V" } : Jvm.MethodName) object_method_1_code (1 : Nat) (Option.none : Option Jvm.ClassFile.FieldType)).before args0 about1 = true := code_word (m := ⟨0, 0⟩) (meth := k0m0) (c := k0c0) (by decide +kernel) rfl rfl rfl (by decide +kernel)
set_option maxRecDepth 65536 in
theorem w_c6 : (Jvm.Cond.code ({ cls := "java/lang/String", name := "<init>", desc := "([C)V" } : Jvm.MethodName) jdk_42_method_3_code (2 : Nat) (Option.none : Option Jvm.ClassFile.FieldType)).before args0 about1 = true := code_word (m := ⟨11, 1⟩) (meth := k11m1) (c := k11c1) (by decide +kernel) rfl rfl rfl (by decide +kernel)
set_option maxRecDepth 65536 in
theorem w_c7 : (Jvm.Cond.code ({ cls := "java/lang/String", name := "<init>", desc := "([CIILjava/lang/Void;)V" } : Jvm.MethodName) jdk_42_method_149_code (6 : Nat) (Option.none : Option Jvm.ClassFile.FieldType)).before args0 about1 = true := code_word (m := ⟨11, 2⟩) (meth := k11m2) (c := k11c2) (by decide +kernel) rfl rfl rfl (by decide +kernel)
set_option maxRecDepth 65536 in
theorem w_c8 : (Jvm.Cond.code ({ cls := "java/lang/StringUTF16", name := "compress", desc := "([CII)[B" } : Jvm.MethodName) jdk_52_method_16_code (6 : Nat) (Option.some (Jvm.ClassFile.FieldType.array Jvm.ClassFile.FieldType.byte))).before args0 about1 = true := code_word (m := ⟨12, 2⟩) (meth := k12m2) (c := k12c2) (by decide +kernel) rfl rfl rfl (by decide +kernel)
set_option maxRecDepth 65536 in
theorem w_c9 : (Jvm.Cond.code ({ cls := "java/lang/StringUTF16", name := "compress", desc := "([CI[BII)I" } : Jvm.MethodName) jdk_52_method_21_code (7 : Nat) (Option.some Jvm.ClassFile.FieldType.int)).before args0 about1 = true := code_word (m := ⟨12, 3⟩) (meth := k12m3) (c := k12c3) (by decide +kernel) rfl rfl rfl (by decide +kernel)
set_option maxRecDepth 65536 in
theorem w_c10 : (Jvm.Cond.code ({ cls := "java/lang/StringUTF16", name := "coderFromArrayLen", desc := "([BI)B" } : Jvm.MethodName) jdk_52_method_15_code (2 : Nat) (Option.some Jvm.ClassFile.FieldType.byte)).before args0 about1 = true := code_word (m := ⟨12, 1⟩) (meth := k12m1) (c := k12c1) (by decide +kernel) rfl rfl rfl (by decide +kernel)
set_option maxRecDepth 65536 in
theorem w_c11 : (Jvm.Cond.code ({ cls := "com/example/cassalink/cassalink/row/Blob", name := "of", desc := "([B)Lcom/example/cassalink/cassalink/row/Blob;" } : Jvm.MethodName) prog_15_method_2_code (1 : Nat) (Option.some (Jvm.ClassFile.FieldType.object "com/example/cassalink/cassalink/row/Blob"))).before args0 about1 = true := code_word (m := ⟨13, 1⟩) (meth := k13m1) (c := k13c1) (by decide +kernel) rfl rfl rfl (by decide +kernel)
set_option maxRecDepth 65536 in
theorem w_c12 : (Jvm.Cond.code ({ cls := "com/example/cassalink/cassalink/row/Blob", name := "<init>", desc := "([B)V" } : Jvm.MethodName) prog_15_method_1_code (2 : Nat) (Option.none : Option Jvm.ClassFile.FieldType)).before args0 about1 = true := code_word (m := ⟨13, 0⟩) (meth := k13m0) (c := k13c0) (by decide +kernel) rfl rfl rfl (by decide +kernel)
set_option maxRecDepth 65536 in
theorem w_c13 : (Jvm.Cond.code ({ cls := "com/example/cassalink/cassalink/row/ValueKind", name := "of", desc := "(Ljava/lang/Object;)Lcom/example/cassalink/cassalink/row/ValueKind;" } : Jvm.MethodName) prog_18_method_4_code (2 : Nat) (Option.some (Jvm.ClassFile.FieldType.object "com/example/cassalink/cassalink/row/ValueKind"))).before args0 about1 = true := code_word (m := ⟨16, 0⟩) (meth := k16m0) (c := k16c0) (by decide +kernel) rfl rfl rfl (by decide +kernel)
set_option maxRecDepth 65536 in
theorem w_c14 : (Jvm.Cond.code ({ cls := "java/lang/Long", name := "<init>", desc := "(J)V" } : Jvm.MethodName) jdk_35_method_26_code (3 : Nat) (Option.none : Option Jvm.ClassFile.FieldType)).before args0 about1 = true := code_word (m := ⟨7, 1⟩) (meth := k7m1) (c := k7c1) (by decide +kernel) rfl rfl rfl (by decide +kernel)
def codes1 : List Jvm.Cond := [Jvm.Cond.code x code maxLocals ret, Jvm.Cond.code ({ cls := "java/lang/Long", name := "valueOf", desc := "(J)Ljava/lang/Long;" } : Jvm.MethodName) jdk_35_method_24_code (3 : Nat) (Option.some (Jvm.ClassFile.FieldType.object "java/lang/Long")), Jvm.Cond.code ({ cls := "java/lang/Double", name := "valueOf", desc := "(D)Ljava/lang/Double;" } : Jvm.MethodName) jdk_117_method_4_code (2 : Nat) (Option.some (Jvm.ClassFile.FieldType.object "java/lang/Double")), Jvm.Cond.code ({ cls := "java/lang/Double", name := "<init>", desc := "(D)V" } : Jvm.MethodName) jdk_117_method_9_code (3 : Nat) (Option.none : Option Jvm.ClassFile.FieldType), Jvm.Cond.code ({ cls := "java/lang/Number", name := "<init>", desc := "()V" } : Jvm.MethodName) jdk_18_method_1_code (1 : Nat) (Option.none : Option Jvm.ClassFile.FieldType), Jvm.Cond.code ({ cls := "java/lang/Object", name := "<init>", desc := "()V" } : Jvm.MethodName) object_method_1_code (1 : Nat) (Option.none : Option Jvm.ClassFile.FieldType), Jvm.Cond.code ({ cls := "java/lang/String", name := "<init>", desc := "([C)V" } : Jvm.MethodName) jdk_42_method_3_code (2 : Nat) (Option.none : Option Jvm.ClassFile.FieldType), Jvm.Cond.code ({ cls := "java/lang/String", name := "<init>", desc := "([CIILjava/lang/Void;)V" } : Jvm.MethodName) jdk_42_method_149_code (6 : Nat) (Option.none : Option Jvm.ClassFile.FieldType), Jvm.Cond.code ({ cls := "java/lang/StringUTF16", name := "compress", desc := "([CII)[B" } : Jvm.MethodName) jdk_52_method_16_code (6 : Nat) (Option.some (Jvm.ClassFile.FieldType.array Jvm.ClassFile.FieldType.byte)), Jvm.Cond.code ({ cls := "java/lang/StringUTF16", name := "compress", desc := "([CI[BII)I" } : Jvm.MethodName) jdk_52_method_21_code (7 : Nat) (Option.some Jvm.ClassFile.FieldType.int), Jvm.Cond.code ({ cls := "java/lang/StringUTF16", name := "coderFromArrayLen", desc := "([BI)B" } : Jvm.MethodName) jdk_52_method_15_code (2 : Nat) (Option.some Jvm.ClassFile.FieldType.byte), Jvm.Cond.code ({ cls := "com/example/cassalink/cassalink/row/Blob", name := "of", desc := "([B)Lcom/example/cassalink/cassalink/row/Blob;" } : Jvm.MethodName) prog_15_method_2_code (1 : Nat) (Option.some (Jvm.ClassFile.FieldType.object "com/example/cassalink/cassalink/row/Blob")), Jvm.Cond.code ({ cls := "com/example/cassalink/cassalink/row/Blob", name := "<init>", desc := "([B)V" } : Jvm.MethodName) prog_15_method_1_code (2 : Nat) (Option.none : Option Jvm.ClassFile.FieldType), Jvm.Cond.code ({ cls := "com/example/cassalink/cassalink/row/ValueKind", name := "of", desc := "(Ljava/lang/Object;)Lcom/example/cassalink/cassalink/row/ValueKind;" } : Jvm.MethodName) prog_18_method_4_code (2 : Nat) (Option.some (Jvm.ClassFile.FieldType.object "com/example/cassalink/cassalink/row/ValueKind")), Jvm.Cond.code ({ cls := "java/lang/Long", name := "<init>", desc := "(J)V" } : Jvm.MethodName) jdk_35_method_26_code (3 : Nat) (Option.none : Option Jvm.ClassFile.FieldType)]
set_option maxRecDepth 65536 in
theorem codes_eq : words1.filter isCode = codes1 := rfl
theorem w_codes : ∀ c ∈ words1.filter isCode, c.before args0 about1 = true := by
  rw [codes_eq]
  intro c hc
  simp only [codes1, List.mem_cons, List.not_mem_nil, or_false] at hc
  rcases hc with rfl | rfl | rfl | rfl | rfl | rfl | rfl | rfl | rfl | rfl | rfl | rfl | rfl | rfl | rfl
  · exact w_c0
  · exact w_c1
  · exact w_c2
  · exact w_c3
  · exact w_c4
  · exact w_c5
  · exact w_c6
  · exact w_c7
  · exact w_c8
  · exact w_c9
  · exact w_c10
  · exact w_c11
  · exact w_c12
  · exact w_c13
  · exact w_c14
set_option maxRecDepth 65536 in
theorem w_t1 : (words1.take 24).all (fun c => isCode c || c.before args0 about1) = true := by decide +kernel
set_option maxRecDepth 65536 in
theorem w_t2 : ((words1.drop 24).take 24).all (fun c => isCode c || c.before args0 about1) = true := by decide +kernel
set_option maxRecDepth 65536 in
theorem w_t3 : (((words1.drop 24).drop 24).take 24).all (fun c => isCode c || c.before args0 about1) = true := by decide +kernel
set_option maxRecDepth 65536 in
theorem w_t4 : ((((words1.drop 24).drop 24).drop 24).take 24).all (fun c => isCode c || c.before args0 about1) = true := by decide +kernel
set_option maxRecDepth 65536 in
theorem w_t5 : (((((words1.drop 24).drop 24).drop 24).drop 24).take 24).all (fun c => isCode c || c.before args0 about1) = true := by decide +kernel
set_option maxRecDepth 65536 in
theorem w_t6 : (((((words1.drop 24).drop 24).drop 24).drop 24).drop 24).all (fun c => isCode c || c.before args0 about1) = true := by decide +kernel
theorem w_tables : (allAtoms (Jvm.Cond.code x code maxLocals ret :: tables_1)).before args0 about1 = true := by
  rw [allAtoms_all]
  show words1.all (fun c => c.before args0 about1) = true
  refine all_split ?_ w_codes
  rw [← List.take_append_drop 24 words1, List.all_append, w_t1, ← List.take_append_drop 24 (words1.drop 24), List.all_append, w_t2, ← List.take_append_drop 24 ((words1.drop 24).drop 24), List.all_append, w_t3, ← List.take_append_drop 24 (((words1.drop 24).drop 24).drop 24), List.all_append, w_t4, ← List.take_append_drop 24 ((((words1.drop 24).drop 24).drop 24).drop 24), List.all_append, w_t5, w_t6]
  rfl
set_option maxRecDepth 65536 in
theorem w_rest : rest_1_c.before args0 about1 = true := by decide +kernel
set_option maxRecDepth 65536 in
theorem w_case : (Jvm.Cond.and given_1 narrow_1).before args0 about1 = true := by decide +kernel
set_option maxRecDepth 65536 in
theorem w_consts : constsHeld consts_1 about1 := Jvm.Lit.constsHeldB_iff.mp (by decide +kernel)
theorem w_applies : (headSpec (Jvm.Cond.code x code maxLocals ret :: tables_1) room_1).applies x e0.platform about1 = true :=
  (Spec.applies_iff w_frames).mpr ⟨w_running, w_runnable, w_alone, w_named, w_hears, w_ripe, w_room, w_tables⟩
theorem atStart : AtStart classFile x code maxLocals ret World_1 tables_1 room_1 Calls_1 rest_1 Pre_1 launch0 p0 e0 about1 theMethod args0 below0 :=
  ⟨lists_1, trivial, launch0.admits_env _ _ _, launch0.least_env, fairChoices_fair.cas, fairChoices_fair.clock, w_frames, w_args, w_heap, w_applies, ⟨w_consts, trivial⟩, w_rest, w_case⟩
end start1
theorem witness_1 : WitnessClaimed_1 := ⟨start1.p0, start1.e0, start1.about1, start1.theMethod, start1.args0, start1.below0, start1.atStart⟩
end Jvm.Pilot.@@N@@
