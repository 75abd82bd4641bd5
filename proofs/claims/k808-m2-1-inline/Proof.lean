import JvmDerived
import JvmDerived.Pilot.@@N@@Statement
import JvmDerived.Pilot.@@N@@Code
set_option linter.unusedVariables false
set_option linter.unusedSimpArgs false
namespace Jvm.OwnWalk
open Sem ClassFile Op Lib Jvm.Stand Jvm.Free Jvm.LawKit Jvm.RoadKit
/-- the literals of the claim; what is kept of them: they say their texts (CHv), and whatever is booked lies below n0 or in D -/
abbrev EL : List (String × Nat) := Jvm.Pilot.@@N@@.consts_1
def Hd (Z : State) (n0 : Nat) (D : Addr → Prop) (vm : Vm) (h : Heap) : Prop := (∃ a0, EW Z a0 EL) ∧ CHv Z EL vm h ∧ (∀ y, Bk Z EL vm h y → y < n0 ∨ D y) ∧ ∀ y, D y → y < h.size
theorem Hd.nd {Z : State} {n0 : Nat} {D : Addr → Prop} {vm : Vm} {h : Heap} (H : Hd Z n0 D vm h) {a : Addr} (ha : h.size ≤ a) : ¬ D a := fun d => Nat.lt_irrefl _ (Nat.lt_of_lt_of_le (H.2.2.2 a d) ha)
theorem Hd.safe {Z : State} {n0 : Nat} {D : Addr → Prop} {vm : Vm} {h : Heap} (H : Hd Z n0 D vm h) {a : Addr} (ha : n0 ≤ a ∧ ¬ D a) : Safe Z EL vm h a := fun B => (H.2.2.1 a B).elim (fun q => Nat.lt_irrefl _ (Nat.lt_of_lt_of_le q ha.1)) ha.2
theorem Hd.ext {Z : State} {n0 : Nat} {D : Addr → Prop} {vm : Vm} {h h' : Heap} (H : Hd Z n0 D vm h) (E : Ext h h') : Hd Z n0 D vm h' := by
  have q := H.2.1.step (h' := h') fun _ _ _ q => E.2 _ _ q
  exact ⟨H.1, q.1, fun y b => H.2.2.1 y (q.2 y b), fun y d => Nat.lt_of_lt_of_le (H.2.2.2 y d) E.1⟩
theorem Hd.wr {Z : State} {n0 : Nat} {D : Addr → Prop} {vm : Vm} {h h' : Heap} {a : Addr} {sl : Nat} {v : Value} (H : Hd Z n0 D vm h) (W : Wr h h' a sl v) (ha : n0 ≤ a ∧ ¬ D a) : Hd Z n0 D vm h' := by
  have q := H.2.1.wrStep W (H.safe ha)
  exact ⟨H.1, q.1, fun y b => H.2.2.1 y (q.2 y b), fun y d => by rw [W.size]; exact H.2.2.2 y d⟩
theorem Hd.keep {Z : State} {n0 : Nat} {D : Addr → Prop} {vm : Vm} {h h' : Heap} {b : Addr} (H : Hd Z n0 D vm h) (K : Keep h h' [b]) (ha : n0 ≤ b ∧ ¬ D b) : Hd Z n0 D vm h' := by
  have q := H.2.1.keepStep K (fun x hx => by cases List.mem_singleton.mp hx; exact H.safe ha)
  exact ⟨H.1, q.1, fun y b => H.2.2.1 y (q.2 y b), fun y d => Nat.lt_of_lt_of_le (H.2.2.2 y d) K.1⟩
theorem Hd.at {Z : State} {n0 : Nat} {D : Addr → Prop} {vm0 : Vm} {h : Heap} {p : Program} {l : Launch} {e : Env} {R : Room} {s : State} {m : MethodId} {args : Array Value} {below : List Frame} {meth : Method} {c : Code} {T : State} {locs : List Loc} {cells slots : Nat} (H : Hd Z n0 D vm0 h) (X : Stand p l e R (s.setVm vm0) m args below meth c T locs cells slots) (hZ : Z.Warmed39 vm0) : Hd Z n0 D T.vm h := by
  obtain ⟨⟨a0, w⟩, H1, H2, H3⟩ := H
  have q := CHv.at X hZ w H1
  refine ⟨⟨a0, w⟩, q.1, fun y b => ?_, H3⟩
  rcases q.2.2 y b with r | r
  · exact H2 y r
  · obtain ⟨cell, e⟩ := b.there
    exact absurd (Array.getElem?_eq_some_iff.mp e).1 (Nat.not_lt.mpr r)
theorem Hd.start {s : State} {a0 : Array Value} (E : EW s a0 EL) (hh : ∀ p ∈ EL, Jvm.Lit.constHeld s p.1 p.2) (hcw : Jvm.Lit.compactW.before a0 s = true) (wa : (Jvm.Cond.arrayClass .byte).before a0 s = true) (wi : (Jvm.Cond.instantiable "java/lang/String" 4).before a0 s = true) : Hd s s.heap.size (fun _ => False) s.vm s.heap :=
  ⟨⟨a0, E⟩, CHv.start E hh hcw wa wi, fun y b => by obtain ⟨cell, e⟩ := b.there; exact Or.inl (Array.getElem?_eq_some_iff.mp e).1, fun _ d => d.elim⟩
/-- where a run stands: the library's Stand, its written places new, its heap -/
def Sd (Z : State) (D : Addr → Prop) (p : Program) (l : Launch) (e : Env) (R : Room) (s : State) (m : MethodId) (args : Array Value) (below : List Frame) (meth : Method) (c : Code) (n0 : Nat) (T : State) (h : Heap) (cells slots : Nat) : Prop :=
  ∃ (locs : List Loc) (vm0 : Vm) (k0 : Nat), Stand p l e R (s.setVm vm0) m args below meth c T locs cells slots ∧ Fr n0 locs ∧ T.heap = h ∧ n0 ≤ s.heap.size ∧ s.Since vm0 k0 ∧ k0 ≤ h.size ∧ Hd Z n0 D vm0 h
/-- what stays through a walk -/
def Cx (Z : State) (own nm : String) (bytes : ByteArray) (maxL : Nat) (ret : Option FieldType) (p : Program) (s : State) (m : MethodId) (meth : Method) (c : Code) : Prop :=
  p.tables.exec = Jvm.exec ∧ c.code = bytes ∧ Z.Warmed39 s.vm ∧ s.vm.findClass own = some m.cls ∧ meth.name = nm ∧ c.maxLocals = maxL ∧ meth.sig.returnType = ret ∧ meth.locks = false
/-- from A the body returns, and P holds of what it returns and of the heap -/
def Gl (Z : State) (p : Program) (e : Env) (below : List Frame) (s : State) (n0 : Nat) (P : Option Value → Heap → (Addr → Prop) → Prop) (C S : Nat) (A : State) : Prop :=
  ∃ t o, Steps p.tables e below A t ∧ t.status = .running ∧ Ended t below o ∧ ∃ v L D', o = .returned v ∧ (P v t.heap D' ∧ Fr n0 L ∧ Hd Z n0 D' t.vm t.heap) ∧ ReturnedEndW s o t L C S
/-- a method's contract -/
def Con (l : Launch) (Z : State) (y : MethodName) (bytes : ByteArray) (maxL : Nat) (ret : Option FieldType) (ws : List Jvm.Cond) (rm : Room) (C S : Nat) (as' : Array Value) (h0 : Heap) (n0 : Nat) (D : Addr → Prop) (P : Option Value → Heap → (Addr → Prop) → Prop) : Prop :=
  MetFree l y (head1 (Jvm.Cond.code y bytes maxL ret :: ws) rm) (fun a U => a = as' ∧ Z.Warmed39 U.vm ∧ U.heap = h0 ∧ Hd Z n0 D U.vm h0) (fun _ _ _ _ _ => True) (fun _ U o U' => ∃ v L D', o = .returned v ∧ (P v U'.heap D' ∧ Fr n0 L ∧ Hd Z n0 D' U'.vm U'.heap) ∧ ReturnedEndW U o U' L C S)
theorem Con.met {l : Launch} {Z : State} {y : MethodName} {bytes : ByteArray} {maxL : Nat} {ret : Option FieldType} {ws : List Jvm.Cond} {rm : Room} {C S : Nat} {as' : Array Value} {h0 : Heap} {n0 : Nat} {D : Addr → Prop} {P : Option Value → Heap → (Addr → Prop) → Prop} (h : Con l Z y bytes maxL ret ws rm C S as' h0 n0 D P) :
  MetFree l y (head1 (Jvm.Cond.code y bytes maxL ret :: ws) rm) (fun a U => a = as' ∧ Z.Warmed39 U.vm ∧ U.heap = h0 ∧ Hd Z n0 D U.vm h0) (fun _ _ _ _ _ => True) (fun _ U o U' => ∃ v L D', o = .returned v ∧ (P v U'.heap D' ∧ Fr n0 L ∧ Hd Z n0 D' U'.vm U'.heap) ∧ ReturnedEndW U o U' L C S) := h
theorem Con.of {l : Launch} {Z : State} {y : MethodName} {bytes : ByteArray} {maxL : Nat} {ret : Option FieldType} {ws : List Jvm.Cond} {rm : Room} {C S : Nat} {as' : Array Value} {h0 : Heap} {n0 : Nat} {D : Addr → Prop} {P : Option Value → Heap → (Addr → Prop) → Prop} (hpl : plainFor y = true) (hn : n0 ≤ h0.size)
    (hb : ∀ p e s m below meth c T, Cx Z y.cls y.name bytes maxL ret p s m meth c → Sd Z D p l e rm s m as' below meth c n0 T h0 0 0 → Gl Z p e below s n0 P C S (T.setTop (entryFrame m as' maxL))) : Con l Z y bytes maxL ret ws rm C S as' h0 n0 D P := by
  refine MetFree.of_bodySF hpl hisR ?_
  intro p e s m args below meth c s₁ Bd hml0 hP hK
  obtain ⟨rfl, hZ, hh, hHd⟩ := hP
  have hlk : meth.locks = false := Bd.notSynchronized
  exact hb p e s m below meth c s₁ ⟨Bd.exec, Bd.bytes, hZ, findClass_of_methodNamed Bd.named, (name_of_methodNamed Bd.named Bd.method).1, hml0, Bd.returns, hlk⟩ ⟨[], s.vm, 0, Stand.of_body Bd, Fr.nil n0, by rw [← hh, Bd.state]; rfl, by rw [hh]; exact hn, (State.WarmedH.refl s).since 0, Nat.zero_le _, hHd⟩
/-- the contract of a method that returns a value; of one that returns nothing; L: of one that loads literals -/
abbrev ConV (l : Launch) (Z : State) (y : MethodName) (bytes : ByteArray) (maxL : Nat) (ret : Option FieldType) (rm : Room) (as' : Array Value) (h0 : Heap) (n0 : Nat) (D : Addr → Prop) (Q : Value → Heap → Prop) : Prop := Con l Z y bytes maxL ret [] rm rm.cells rm.slots as' h0 n0 D (fun r h D' => D' = D ∧ ∃ v, r = some v ∧ Q v h)
abbrev ConN (l : Launch) (Z : State) (y : MethodName) (bytes : ByteArray) (maxL : Nat) (rm : Room) (as' : Array Value) (h0 : Heap) (n0 : Nat) (D : Addr → Prop) (Q : Heap → Prop) : Prop := Con l Z y bytes maxL none [] rm rm.cells rm.slots as' h0 n0 D (fun r h D' => D' = D ∧ r = none ∧ Q h)
abbrev ConVL (l : Launch) (Z : State) (y : MethodName) (bytes : ByteArray) (maxL : Nat) (ret : Option FieldType) (rm : Room) (as' : Array Value) (h0 : Heap) (n0 : Nat) (D : Addr → Prop) (Q : Value → Heap → (Addr → Prop) → Prop) : Prop := Con l Z y bytes maxL ret [] rm rm.cells rm.slots as' h0 n0 D (fun r h D' => ∃ v, r = some v ∧ Q v h D')
abbrev ConNL (l : Launch) (Z : State) (y : MethodName) (bytes : ByteArray) (maxL : Nat) (rm : Room) (as' : Array Value) (h0 : Heap) (n0 : Nat) (D : Addr → Prop) (Q : Heap → (Addr → Prop) → Prop) : Prop := Con l Z y bytes maxL none [] rm rm.cells rm.slots as' h0 n0 D (fun r h D' => r = none ∧ Q h D')
section Walk
variable {p : Program} {l : Launch} {e : Env} {R : Room} {s : State} {m : MethodId} {args : Array Value} {below : List Frame} {meth : Method} {c : Code} {T A B : State} {h : Heap} {cells slots n0 C S : Nat} {P : Option Value → Heap → (Addr → Prop) → Prop}
variable {Z : State} {a0 : Array Value} {own nm : String} {bytes : ByteArray} {maxL : Nat} {ret : Option FieldType}
variable {pc n : Nat} {ls : Array Slot} {st : List Value} {D : Addr → Prop}
theorem Con.mono {y : MethodName} {yb : ByteArray} {yl : Nat} {yr : Option FieldType} {ws : List Jvm.Cond} {rm : Room} {C S : Nat} {as' : Array Value} {P P' : Option Value → Heap → (Addr → Prop) → Prop} (M : Con l Z y yb yl yr ws rm C S as' h n0 D P) (i : ∀ v h D', P v h D' → P' v h D') : Con l Z y yb yl yr ws rm C S as' h n0 D P' := by
  unfold Con at M ⊢
  intro p e h1 h2 h3 s m args below h4 h5 h6 h7
  obtain ⟨t, o, k1, k2, k3, v, L, D', k4, ⟨k5, k6⟩, k7⟩ := M p e h1 h2 h3 s m args below h4 h5 h6 h7
  exact ⟨t, o, k1, k2, k3, v, L, D', k4, ⟨i _ _ _ k5, k6⟩, k7⟩
theorem Sd.mono {c' s' : Nat} (X : Sd Z D p l e R s m args below meth c n0 T h cells slots) (h1 : cells ≤ c') (h2 : slots ≤ s') : Sd Z D p l e R s m args below meth c n0 T h c' s' := by
  obtain ⟨locs, vm0, k0, X, r⟩ := X
  exact ⟨locs, vm0, k0, X.mono h1 h2, r⟩
theorem backOfSD {Q : Option Value → Heap → (Addr → Prop) → Prop} {vm0 : Vm} {y : MethodName} {yb : ByteArray} {yl : Nat} {yr : Option FieldType} {rm : Room} {len W : Nat} {as' : Array Value} (hM : Con l Z y yb yl yr [] rm rm.cells rm.slots as' h n0 D Q) (hZ : Z.Warmed39 vm0) (wc : (Jvm.Cond.code y yb yl yr).before a0 Z = true) (wz : (Jvm.Cond.initialized y.cls).before a0 Z = true) (hf : rm.frames + 1 ≤ R.frames) (hl : W + (yl + 11) + rm.locals ≤ R.locals) (H : Hd Z n0 D vm0 h) :
    BackS l R p e below (s.setVm vm0) args y len W (fun A a => a = as' ∧ A.U.heap = h ∧ A.cells + rm.cells ≤ R.cells ∧ A.slots + rm.slots ≤ R.slots)
      (fun A _ v B => ∃ L D', (Q v B.U.heap D' ∧ Fr n0 L ∧ Hd Z n0 D' B.U.vm B.U.heap) ∧ B.locs = A.locs ++ L ∧ B.cells = A.cells + rm.cells ∧ B.slots = A.slots + rm.slots) :=
  BackS.of_freeW (bytes := yb) (maxL := yl) (ret := yr) (E := fun _ first o t L k n => k = rm.cells ∧ n = rm.slots ∧ ∃ v D', o = .returned v ∧ Q v t.heap D' ∧ Fr n0 L ∧ Hd Z n0 D' t.vm t.heap) (Con.met hM) hf hl
    (fun m meth c A a Y hp => have hU : Z.Warmed39 A.U.vm := wtrans (s := s.setVm vm0) hZ Y.warmed
      ⟨by show (Jvm.Cond.and _ .tt).before a A.U = true; rw [Cond.before_and, mv hU wc]; rfl, mv hU wc, mv hU wz, hp.2.2.1, hp.2.2.2⟩)
    (fun m meth c A a g mk Y hp => ⟨hp.1, wtrans (s := s.setVm vm0) hZ Y.warmed, hp.2.1, (show Hd Z n0 D A.U.vm h from H.at Y hZ)⟩) (fun _ _ _ _ _ _ _ _ _ => trivial)
    (fun _ _ _ _ ⟨v, L, D', h1, h2, h4⟩ => ⟨L, _, _, h4, rfl, rfl, v, D', h1, h2⟩)
    (fun m meth c A a g mk v t L k n Y hp _ _ ⟨e1, e2, v', D', e3, e4⟩ => by
      cases e3; subst e1 e2
      exact ⟨L, D', e4, rfl, rfl, rfl⟩)
theorem Gl.of (hst : ∀ t, Steps p.tables e below B t → Steps p.tables e below A t) (k : Gl Z p e below s n0 P C S B) : Gl Z p e below s n0 P C S A := by
  obtain ⟨t, o, h1, r⟩ := k; exact ⟨t, o, hst t h1, r⟩
theorem Sd.le (X : Sd Z D p l e R s m args below meth c n0 T h cells slots) : n0 ≤ h.size := by
  obtain ⟨_, _, _, X, -, eh, hn, -⟩ := X
  have q : s.heap.size ≤ T.heap.size := X.same.2.1
  rw [← eh]; omega
theorem Gl.enter {as' : Array Value} (ef : entryFrame m as' maxL = mkF m 0 ls []) (k : Gl Z p e below s n0 P C S (T.setTop (mkF m 0 ls []))) : Gl Z p e below s n0 P C S (T.setTop (entryFrame m as' maxL)) := by rw [ef]; exact k
theorem gIload (X : Sd Z D p l e R s m args below meth c n0 T h cells slots) (w : Cx Z own nm bytes maxL ret p s m meth c) {k : Nat} {v : Int32} (hd : decode bytes pc = .ok (.iload k, 2)) (hl : ls[k]? = some (.val (.int v))) (hn : pc + 2 = n) (K : Gl Z p e below s n0 P C S (T.setTop (mkF m n ls (.int v :: st)))) : Gl Z p e below s n0 P C S (T.setTop (mkF m pc ls st)) := by
  obtain ⟨_, vm0, k0, X, -, -, -, hS, -⟩ := X; obtain ⟨hx, hby, hZ, hown, -⟩ := w; have hZ := State.Warmed39.trans hZ hS.1; have hown := (hS.1.alike.findClass _ _).trans hown; subst hn
  exact Gl.of (fun t k => XS.iload X.here hx rfl (hb hby hd) hl k) K
theorem gIloadN (X : Sd Z D p l e R s m args below meth c n0 T h cells slots) (w : Cx Z own nm bytes maxL ret p s m meth c) {k : Fin 4} {v : Int32} (hd : decode bytes pc = .ok (.iload_n k, 1)) (hl : ls[k.val]? = some (.val (.int v))) (hn : pc + 1 = n) (K : Gl Z p e below s n0 P C S (T.setTop (mkF m n ls (.int v :: st)))) : Gl Z p e below s n0 P C S (T.setTop (mkF m pc ls st)) := by
  obtain ⟨_, vm0, k0, X, -, -, -, hS, -⟩ := X; obtain ⟨hx, hby, hZ, hown, -⟩ := w; have hZ := State.Warmed39.trans hZ hS.1; have hown := (hS.1.alike.findClass _ _).trans hown; subst hn
  exact Gl.of (fun t k => XS.iloadN X.here hx rfl (hb hby hd) hl k) K
theorem gJload (X : Sd Z D p l e R s m args below meth c n0 T h cells slots) (w : Cx Z own nm bytes maxL ret p s m meth c) {k : Nat} {v : Int64} (hd : decode bytes pc = .ok (.lload k, 2)) (hl : ls[k]? = some (.val (.long v))) (hn : pc + 2 = n) (K : Gl Z p e below s n0 P C S (T.setTop (mkF m n ls (.long v :: st)))) : Gl Z p e below s n0 P C S (T.setTop (mkF m pc ls st)) := by
  obtain ⟨_, vm0, k0, X, -, -, -, hS, -⟩ := X; obtain ⟨hx, hby, hZ, hown, -⟩ := w; have hZ := State.Warmed39.trans hZ hS.1; have hown := (hS.1.alike.findClass _ _).trans hown; subst hn
  exact Gl.of (fun t k => XT.lload X.here hx rfl (hb hby hd) hl k) K
theorem gJloadN (X : Sd Z D p l e R s m args below meth c n0 T h cells slots) (w : Cx Z own nm bytes maxL ret p s m meth c) {k : Fin 4} {v : Int64} (hd : decode bytes pc = .ok (.lload_n k, 1)) (hl : ls[k.val]? = some (.val (.long v))) (hn : pc + 1 = n) (K : Gl Z p e below s n0 P C S (T.setTop (mkF m n ls (.long v :: st)))) : Gl Z p e below s n0 P C S (T.setTop (mkF m pc ls st)) := by
  obtain ⟨_, vm0, k0, X, -, -, -, hS, -⟩ := X; obtain ⟨hx, hby, hZ, hown, -⟩ := w; have hZ := State.Warmed39.trans hZ hS.1; have hown := (hS.1.alike.findClass _ _).trans hown; subst hn
  exact Gl.of (fun t k => XT.lloadN X.here hx rfl (hb hby hd) hl k) K
theorem gAload (X : Sd Z D p l e R s m args below meth c n0 T h cells slots) (w : Cx Z own nm bytes maxL ret p s m meth c) {k : Nat} {v : Value} (hd : decode bytes pc = .ok (.aload k, 2)) (hl : ls[k]? = some (.val v)) (hv : v.isRef = true) (hn : pc + 2 = n) (K : Gl Z p e below s n0 P C S (T.setTop (mkF m n ls (v :: st)))) : Gl Z p e below s n0 P C S (T.setTop (mkF m pc ls st)) := by
  obtain ⟨_, vm0, k0, X, -, -, -, hS, -⟩ := X; obtain ⟨hx, hby, hZ, hown, -⟩ := w; have hZ := State.Warmed39.trans hZ hS.1; have hown := (hS.1.alike.findClass _ _).trans hown; subst hn
  exact Gl.of (fun t k => XS.aload X.here hx rfl (hb hby hd) hl hv k) K
theorem gAloadN (X : Sd Z D p l e R s m args below meth c n0 T h cells slots) (w : Cx Z own nm bytes maxL ret p s m meth c) {k : Fin 4} {v : Value} (hd : decode bytes pc = .ok (.aload_n k, 1)) (hl : ls[k.val]? = some (.val v)) (hv : v.isRef = true) (hn : pc + 1 = n) (K : Gl Z p e below s n0 P C S (T.setTop (mkF m n ls (v :: st)))) : Gl Z p e below s n0 P C S (T.setTop (mkF m pc ls st)) := by
  obtain ⟨_, vm0, k0, X, -, -, -, hS, -⟩ := X; obtain ⟨hx, hby, hZ, hown, -⟩ := w; have hZ := State.Warmed39.trans hZ hS.1; have hown := (hS.1.alike.findClass _ _).trans hown; subst hn
  exact Gl.of (fun t k => XS.aloadN X.here hx rfl (hb hby hd) hl hv k) K
theorem gDload (X : Sd Z D p l e R s m args below meth c n0 T h cells slots) (w : Cx Z own nm bytes maxL ret p s m meth c) {k : Nat} {v : UInt64} (hd : decode bytes pc = .ok (.dload k, 2)) (hl : ls[k]? = some (.val (.double v))) (hn : pc + 2 = n) (K : Gl Z p e below s n0 P C S (T.setTop (mkF m n ls (.double v :: st)))) : Gl Z p e below s n0 P C S (T.setTop (mkF m pc ls st)) := by
  obtain ⟨_, vm0, k0, X, -, -, -, hS, -⟩ := X; obtain ⟨hx, hby, hZ, hown, -⟩ := w; have hZ := State.Warmed39.trans hZ hS.1; have hown := (hS.1.alike.findClass _ _).trans hown; subst hn
  exact Gl.of (fun t k => XS.dload X.here hx rfl (hb hby hd) hl k) K
theorem gDloadN (X : Sd Z D p l e R s m args below meth c n0 T h cells slots) (w : Cx Z own nm bytes maxL ret p s m meth c) {k : Fin 4} {v : UInt64} (hd : decode bytes pc = .ok (.dload_n k, 1)) (hl : ls[k.val]? = some (.val (.double v))) (hn : pc + 1 = n) (K : Gl Z p e below s n0 P C S (T.setTop (mkF m n ls (.double v :: st)))) : Gl Z p e below s n0 P C S (T.setTop (mkF m pc ls st)) := by
  obtain ⟨_, vm0, k0, X, -, -, -, hS, -⟩ := X; obtain ⟨hx, hby, hZ, hown, -⟩ := w; have hZ := State.Warmed39.trans hZ hS.1; have hown := (hS.1.alike.findClass _ _).trans hown; subst hn
  exact Gl.of (fun t k => XS.dloadN X.here hx rfl (hb hby hd) hl k) K
theorem gDstore (X : Sd Z D p l e R s m args below meth c n0 T h cells slots) (w : Cx Z own nm bytes maxL ret p s m meth c) {k : Nat} {x : UInt64} (hd : decode bytes pc = .ok (.dstore k, 2)) (l' : Array Slot) (hl : storeLocals ls k (.double x) = some l') (hn : pc + 2 = n) (K : Gl Z p e below s n0 P C S (T.setTop (mkF m n l' st))) : Gl Z p e below s n0 P C S (T.setTop (mkF m pc ls (.double x :: st))) := by
  obtain ⟨_, vm0, k0, X, -, -, -, hS, -⟩ := X; obtain ⟨hx, hby, hZ, hown, -⟩ := w; have hZ := State.Warmed39.trans hZ hS.1; have hown := (hS.1.alike.findClass _ _).trans hown; subst hn
  exact Gl.of (fun t k => XS.dstore X.here hx rfl (hb hby hd) rfl hl k) K
theorem gDstoreN (X : Sd Z D p l e R s m args below meth c n0 T h cells slots) (w : Cx Z own nm bytes maxL ret p s m meth c) {k : Fin 4} {x : UInt64} (hd : decode bytes pc = .ok (.dstore_n k, 1)) (l' : Array Slot) (hl : storeLocals ls k.val (.double x) = some l') (hn : pc + 1 = n) (K : Gl Z p e below s n0 P C S (T.setTop (mkF m n l' st))) : Gl Z p e below s n0 P C S (T.setTop (mkF m pc ls (.double x :: st))) := by
  obtain ⟨_, vm0, k0, X, -, -, -, hS, -⟩ := X; obtain ⟨hx, hby, hZ, hown, -⟩ := w; have hZ := State.Warmed39.trans hZ hS.1; have hown := (hS.1.alike.findClass _ _).trans hown; subst hn
  exact Gl.of (fun t k => XS.dstoreN X.here hx rfl (hb hby hd) rfl hl k) K
theorem gI2d (X : Sd Z D p l e R s m args below meth c n0 T h cells slots) (w : Cx Z own nm bytes maxL ret p s m meth c) {x : Int32} {z : UInt64} (hd : decode bytes pc = .ok (.i2d, 1)) (hz : FP.i2d x = z) (hn : pc + 1 = n) (K : Gl Z p e below s n0 P C S (T.setTop (mkF m n ls (.double z :: st)))) : Gl Z p e below s n0 P C S (T.setTop (mkF m pc ls (.int x :: st))) := by
  obtain ⟨_, vm0, k0, X, -, -, -, hS, -⟩ := X; obtain ⟨hx, hby, hZ, hown, -⟩ := w; have hZ := State.Warmed39.trans hZ hS.1; have hown := (hS.1.alike.findClass _ _).trans hown; subst hn
  exact Gl.of (fun t k => XS.i2dS X.here hx rfl (hb hby hd) rfl hz k) K
theorem gL2d (X : Sd Z D p l e R s m args below meth c n0 T h cells slots) (w : Cx Z own nm bytes maxL ret p s m meth c) {x : Int64} {z : UInt64} (hd : decode bytes pc = .ok (.l2d, 1)) (hz : FP.l2d x = z) (hn : pc + 1 = n) (K : Gl Z p e below s n0 P C S (T.setTop (mkF m n ls (.double z :: st)))) : Gl Z p e below s n0 P C S (T.setTop (mkF m pc ls (.long x :: st))) := by
  obtain ⟨_, vm0, k0, X, -, -, -, hS, -⟩ := X; obtain ⟨hx, hby, hZ, hown, -⟩ := w; have hZ := State.Warmed39.trans hZ hS.1; have hown := (hS.1.alike.findClass _ _).trans hown; subst hn
  exact Gl.of (fun t k => XS.l2dS X.here hx rfl (hb hby hd) rfl hz k) K
theorem gDneg (X : Sd Z D p l e R s m args below meth c n0 T h cells slots) (w : Cx Z own nm bytes maxL ret p s m meth c) {x z : UInt64} (hd : decode bytes pc = .ok (.dneg, 1)) (hz : FP.dneg x = z) (hn : pc + 1 = n) (K : Gl Z p e below s n0 P C S (T.setTop (mkF m n ls (.double z :: st)))) : Gl Z p e below s n0 P C S (T.setTop (mkF m pc ls (.double x :: st))) := by
  obtain ⟨_, vm0, k0, X, -, -, -, hS, -⟩ := X; obtain ⟨hx, hby, hZ, hown, -⟩ := w; have hZ := State.Warmed39.trans hZ hS.1; have hown := (hS.1.alike.findClass _ _).trans hown; subst hn
  exact Gl.of (fun t k => XS.dnegS X.here hx rfl (hb hby hd) rfl hz k) K
theorem gDcmp (X : Sd Z D p l e R s m args below meth c n0 T h cells slots) (w : Cx Z own nm bytes maxL ret p s m meth c) {x y : UInt64} {o : CmpOp} {z : Int32} (hd : decode bytes pc = .ok (.dcmp o, 1)) (hz : cmpValue (FP.dcmp x y) o = z) (hn : pc + 1 = n) (K : Gl Z p e below s n0 P C S (T.setTop (mkF m n ls (.int z :: st)))) : Gl Z p e below s n0 P C S (T.setTop (mkF m pc ls (.double y :: .double x :: st))) := by
  obtain ⟨_, vm0, k0, X, -, -, -, hS, -⟩ := X; obtain ⟨hx, hby, hZ, hown, -⟩ := w; have hZ := State.Warmed39.trans hZ hS.1; have hown := (hS.1.alike.findClass _ _).trans hown; subst hn
  exact Gl.of (fun t k => XS.dcmpS X.here hx rfl (hb hby hd) rfl hz k) K
theorem gDadd (X : Sd Z D p l e R s m args below meth c n0 T h cells slots) (w : Cx Z own nm bytes maxL ret p s m meth c) {x y z : UInt64} (hd : decode bytes pc = .ok (.dadd, 1)) (hnn : Jvm.Free.Fl.NoNaN64 (FP.dadd x y)) (hz : FP.dadd x y = z) (hn : pc + 1 = n) (K : Gl Z p e below s n0 P C S (T.setTop (mkF m n ls (.double z :: st)))) : Gl Z p e below s n0 P C S (T.setTop (mkF m pc ls (.double y :: .double x :: st))) := by
  obtain ⟨_, vm0, k0, X, -, -, -, hS, -⟩ := X; obtain ⟨hx, hby, hZ, hown, -⟩ := w; have hZ := State.Warmed39.trans hZ hS.1; have hown := (hS.1.alike.findClass _ _).trans hown; subst hn
  exact Gl.of (fun t k => XS.daddS X.here hx rfl (hb hby hd) rfl hnn hz k) K
theorem gDsub (X : Sd Z D p l e R s m args below meth c n0 T h cells slots) (w : Cx Z own nm bytes maxL ret p s m meth c) {x y z : UInt64} (hd : decode bytes pc = .ok (.dsub, 1)) (hnn : Jvm.Free.Fl.NoNaN64 (FP.dsub x y)) (hz : FP.dsub x y = z) (hn : pc + 1 = n) (K : Gl Z p e below s n0 P C S (T.setTop (mkF m n ls (.double z :: st)))) : Gl Z p e below s n0 P C S (T.setTop (mkF m pc ls (.double y :: .double x :: st))) := by
  obtain ⟨_, vm0, k0, X, -, -, -, hS, -⟩ := X; obtain ⟨hx, hby, hZ, hown, -⟩ := w; have hZ := State.Warmed39.trans hZ hS.1; have hown := (hS.1.alike.findClass _ _).trans hown; subst hn
  exact Gl.of (fun t k => XS.dsubS X.here hx rfl (hb hby hd) rfl hnn hz k) K
theorem gDmul (X : Sd Z D p l e R s m args below meth c n0 T h cells slots) (w : Cx Z own nm bytes maxL ret p s m meth c) {x y z : UInt64} (hd : decode bytes pc = .ok (.dmul, 1)) (hnn : Jvm.Free.Fl.NoNaN64 (FP.dmul x y)) (hz : FP.dmul x y = z) (hn : pc + 1 = n) (K : Gl Z p e below s n0 P C S (T.setTop (mkF m n ls (.double z :: st)))) : Gl Z p e below s n0 P C S (T.setTop (mkF m pc ls (.double y :: .double x :: st))) := by
  obtain ⟨_, vm0, k0, X, -, -, -, hS, -⟩ := X; obtain ⟨hx, hby, hZ, hown, -⟩ := w; have hZ := State.Warmed39.trans hZ hS.1; have hown := (hS.1.alike.findClass _ _).trans hown; subst hn
  exact Gl.of (fun t k => XS.dmulS X.here hx rfl (hb hby hd) rfl hnn hz k) K
theorem gDdiv (X : Sd Z D p l e R s m args below meth c n0 T h cells slots) (w : Cx Z own nm bytes maxL ret p s m meth c) {x y z : UInt64} (hd : decode bytes pc = .ok (.ddiv, 1)) (hnn : Jvm.Free.Fl.NoNaN64 (FP.ddiv x y)) (hz : FP.ddiv x y = z) (hn : pc + 1 = n) (K : Gl Z p e below s n0 P C S (T.setTop (mkF m n ls (.double z :: st)))) : Gl Z p e below s n0 P C S (T.setTop (mkF m pc ls (.double y :: .double x :: st))) := by
  obtain ⟨_, vm0, k0, X, -, -, -, hS, -⟩ := X; obtain ⟨hx, hby, hZ, hown, -⟩ := w; have hZ := State.Warmed39.trans hZ hS.1; have hown := (hS.1.alike.findClass _ _).trans hown; subst hn
  exact Gl.of (fun t k => XS.ddivS X.here hx rfl (hb hby hd) rfl hnn hz k) K
theorem gDconst0 (X : Sd Z D p l e R s m args below meth c n0 T h cells slots) (w : Cx Z own nm bytes maxL ret p s m meth c) {z : UInt64} (hd : decode bytes pc = .ok (.dconst 0, 1)) (hz : FP.dconst0 = z) (hn : pc + 1 = n) (K : Gl Z p e below s n0 P C S (T.setTop (mkF m n ls (.double z :: st)))) : Gl Z p e below s n0 P C S (T.setTop (mkF m pc ls st)) := by
  obtain ⟨_, vm0, k0, X, -, -, -, hS, -⟩ := X; obtain ⟨hx, hby, hZ, hown, -⟩ := w; have hZ := State.Warmed39.trans hZ hS.1; have hown := (hS.1.alike.findClass _ _).trans hown; subst hn
  exact Gl.of (fun t k => XS.dconst0 X.here hx rfl (hb hby hd) hz k) K
theorem gDconst1 (X : Sd Z D p l e R s m args below meth c n0 T h cells slots) (w : Cx Z own nm bytes maxL ret p s m meth c) {z : UInt64} (hd : decode bytes pc = .ok (.dconst 1, 1)) (hz : FP.dconst1 = z) (hn : pc + 1 = n) (K : Gl Z p e below s n0 P C S (T.setTop (mkF m n ls (.double z :: st)))) : Gl Z p e below s n0 P C S (T.setTop (mkF m pc ls st)) := by
  obtain ⟨_, vm0, k0, X, -, -, -, hS, -⟩ := X; obtain ⟨hx, hby, hZ, hown, -⟩ := w; have hZ := State.Warmed39.trans hZ hS.1; have hown := (hS.1.alike.findClass _ _).trans hown; subst hn
  exact Gl.of (fun t k => XS.dconst1 X.here hx rfl (hb hby hd) hz k) K
theorem gLdc2D (X : Sd Z D p l e R s m args below meth c n0 T h cells slots) (w : Cx Z own nm bytes maxL ret p s m meth c) {i : Nat} {z : UInt64} (wc : (Jvm.Cond.constantDouble own i z).before a0 Z = true) (hd : decode bytes pc = .ok (.ldc2_w i, 3)) (hn : pc + 3 = n) (K : Gl Z p e below s n0 P C S (T.setTop (mkF m n ls (.double z :: st)))) : Gl Z p e below s n0 P C S (T.setTop (mkF m pc ls st)) := by
  obtain ⟨_, vm0, k0, X, -, -, -, hS, -⟩ := X; obtain ⟨hx, hby, hZ, hown, -⟩ := w; have hZ := State.Warmed39.trans hZ hS.1; have hown := (hS.1.alike.findClass _ _).trans hown; subst hn
  exact Gl.of (fun t k => X.ldc2DoubleC hx hown (mvT hZ wc (by simp [Cond.onTables, Cond.keepsFace, Cond.keeps, Cond.steady])) (g := mkF m pc ls st) rfl (hb hby hd) t k) K
theorem gIconst (X : Sd Z D p l e R s m args below meth c n0 T h cells slots) (w : Cx Z own nm bytes maxL ret p s m meth c) {i : Int} {z : Int32} (hd : decode bytes pc = .ok (.iconst i, 1)) (hz : Int32.ofInt i = z) (hn : pc + 1 = n) (K : Gl Z p e below s n0 P C S (T.setTop (mkF m n ls (.int z :: st)))) : Gl Z p e below s n0 P C S (T.setTop (mkF m pc ls st)) := by
  obtain ⟨_, vm0, k0, X, -, -, -, hS, -⟩ := X; obtain ⟨hx, hby, hZ, hown, -⟩ := w; have hZ := State.Warmed39.trans hZ hS.1; have hown := (hS.1.alike.findClass _ _).trans hown; subst hn hz
  exact Gl.of (fun t k => XS.iconst X.here hx rfl (hb hby hd) k) K
theorem gBipush (X : Sd Z D p l e R s m args below meth c n0 T h cells slots) (w : Cx Z own nm bytes maxL ret p s m meth c) {i : Int} {z : Int32} (hd : decode bytes pc = .ok (.bipush i, 2)) (hz : (Int8.ofInt i).toInt32 = z) (hn : pc + 2 = n) (K : Gl Z p e below s n0 P C S (T.setTop (mkF m n ls (.int z :: st)))) : Gl Z p e below s n0 P C S (T.setTop (mkF m pc ls st)) := by
  obtain ⟨_, vm0, k0, X, -, -, -, hS, -⟩ := X; obtain ⟨hx, hby, hZ, hown, -⟩ := w; have hZ := State.Warmed39.trans hZ hS.1; have hown := (hS.1.alike.findClass _ _).trans hown; subst hn hz
  exact Gl.of (fun t k => XS.bipush X.here hx rfl (hb hby hd) k) K
theorem gSipush (X : Sd Z D p l e R s m args below meth c n0 T h cells slots) (w : Cx Z own nm bytes maxL ret p s m meth c) {i : Int} {z : Int32} (hd : decode bytes pc = .ok (.sipush i, 3)) (hz : (Int16.ofInt i).toInt32 = z) (hn : pc + 3 = n) (K : Gl Z p e below s n0 P C S (T.setTop (mkF m n ls (.int z :: st)))) : Gl Z p e below s n0 P C S (T.setTop (mkF m pc ls st)) := by
  obtain ⟨_, vm0, k0, X, -, -, -, hS, -⟩ := X; obtain ⟨hx, hby, hZ, hown, -⟩ := w; have hZ := State.Warmed39.trans hZ hS.1; have hown := (hS.1.alike.findClass _ _).trans hown; subst hn hz
  exact Gl.of (fun t k => XS.sipush X.here hx rfl (hb hby hd) k) K
theorem gLconst (X : Sd Z D p l e R s m args below meth c n0 T h cells slots) (w : Cx Z own nm bytes maxL ret p s m meth c) {i : Fin 2} {z : Int64} (hd : decode bytes pc = .ok (.lconst i, 1)) (hz : Int64.ofNat i = z) (hn : pc + 1 = n) (K : Gl Z p e below s n0 P C S (T.setTop (mkF m n ls (.long z :: st)))) : Gl Z p e below s n0 P C S (T.setTop (mkF m pc ls st)) := by
  obtain ⟨_, vm0, k0, X, -, -, -, hS, -⟩ := X; obtain ⟨hx, hby, hZ, hown, -⟩ := w; have hZ := State.Warmed39.trans hZ hS.1; have hown := (hS.1.alike.findClass _ _).trans hown; subst hn hz
  exact Gl.of (fun t k => XT.lconst X.here hx rfl (hb hby hd) k) K
theorem gNull (X : Sd Z D p l e R s m args below meth c n0 T h cells slots) (w : Cx Z own nm bytes maxL ret p s m meth c)  (hd : decode bytes pc = .ok (.aconst_null, 1)) (hn : pc + 1 = n) (K : Gl Z p e below s n0 P C S (T.setTop (mkF m n ls (.null :: st)))) : Gl Z p e below s n0 P C S (T.setTop (mkF m pc ls st)) := by
  obtain ⟨_, vm0, k0, X, -, -, -, hS, -⟩ := X; obtain ⟨hx, hby, hZ, hown, -⟩ := w; have hZ := State.Warmed39.trans hZ hS.1; have hown := (hS.1.alike.findClass _ _).trans hown; subst hn
  exact Gl.of (fun t k => XS.aconstNull X.here hx rfl (hb hby hd) k) K
theorem gLdc (X : Sd Z D p l e R s m args below meth c n0 T h cells slots) (w : Cx Z own nm bytes maxL ret p s m meth c) {i : Nat} {z : Int32} (wc : (Jvm.Cond.constant own i z).before a0 Z = true) (hd : decode bytes pc = .ok (.ldc i, 2)) (hn : pc + 2 = n) (K : Gl Z p e below s n0 P C S (T.setTop (mkF m n ls (.int z :: st)))) : Gl Z p e below s n0 P C S (T.setTop (mkF m pc ls st)) := by
  obtain ⟨_, vm0, k0, X, -, -, -, hS, -⟩ := X; obtain ⟨hx, hby, hZ, hown, -⟩ := w; have hZ := State.Warmed39.trans hZ hS.1; have hown := (hS.1.alike.findClass _ _).trans hown; subst hn
  exact Gl.of (fun t k => X.ldcI hx hown (mvT hZ wc) rfl (hb hby hd) k) K
theorem gLdc2 (X : Sd Z D p l e R s m args below meth c n0 T h cells slots) (w : Cx Z own nm bytes maxL ret p s m meth c) {i : Nat} {z : Int64} (wc : (Jvm.Cond.constantLong own i z).before a0 Z = true) (hd : decode bytes pc = .ok (.ldc2_w i, 3)) (hn : pc + 3 = n) (K : Gl Z p e below s n0 P C S (T.setTop (mkF m n ls (.long z :: st)))) : Gl Z p e below s n0 P C S (T.setTop (mkF m pc ls st)) := by
  obtain ⟨_, vm0, k0, X, -, -, -, hS, -⟩ := X; obtain ⟨hx, hby, hZ, hown, -⟩ := w; have hZ := State.Warmed39.trans hZ hS.1; have hown := (hS.1.alike.findClass _ _).trans hown; subst hn
  exact Gl.of (fun t k => X.ldc2J hx hown (mvT hZ wc) rfl (hb hby hd) k) K
theorem gIadd (X : Sd Z D p l e R s m args below meth c n0 T h cells slots) (w : Cx Z own nm bytes maxL ret p s m meth c) {x y z : Int32} (hd : decode bytes pc = .ok (.iadd, 1)) (hz : x + y = z) (hn : pc + 1 = n) (K : Gl Z p e below s n0 P C S (T.setTop (mkF m n ls (.int z :: st)))) : Gl Z p e below s n0 P C S (T.setTop (mkF m pc ls (.int y :: .int x :: st))) := by
  obtain ⟨_, vm0, k0, X, -, -, -, hS, -⟩ := X; obtain ⟨hx, hby, hZ, hown, -⟩ := w; have hZ := State.Warmed39.trans hZ hS.1; have hown := (hS.1.alike.findClass _ _).trans hown; subst hn hz
  exact Gl.of (fun t k => XS.iadd X.here hx rfl (hb hby hd) rfl k) K
theorem gIsub (X : Sd Z D p l e R s m args below meth c n0 T h cells slots) (w : Cx Z own nm bytes maxL ret p s m meth c) {x y z : Int32} (hd : decode bytes pc = .ok (.isub, 1)) (hz : x - y = z) (hn : pc + 1 = n) (K : Gl Z p e below s n0 P C S (T.setTop (mkF m n ls (.int z :: st)))) : Gl Z p e below s n0 P C S (T.setTop (mkF m pc ls (.int y :: .int x :: st))) := by
  obtain ⟨_, vm0, k0, X, -, -, -, hS, -⟩ := X; obtain ⟨hx, hby, hZ, hown, -⟩ := w; have hZ := State.Warmed39.trans hZ hS.1; have hown := (hS.1.alike.findClass _ _).trans hown; subst hn hz
  exact Gl.of (fun t k => XS.isub X.here hx rfl (hb hby hd) rfl k) K
theorem gImul (X : Sd Z D p l e R s m args below meth c n0 T h cells slots) (w : Cx Z own nm bytes maxL ret p s m meth c) {x y z : Int32} (hd : decode bytes pc = .ok (.imul, 1)) (hz : x * y = z) (hn : pc + 1 = n) (K : Gl Z p e below s n0 P C S (T.setTop (mkF m n ls (.int z :: st)))) : Gl Z p e below s n0 P C S (T.setTop (mkF m pc ls (.int y :: .int x :: st))) := by
  obtain ⟨_, vm0, k0, X, -, -, -, hS, -⟩ := X; obtain ⟨hx, hby, hZ, hown, -⟩ := w; have hZ := State.Warmed39.trans hZ hS.1; have hown := (hS.1.alike.findClass _ _).trans hown; subst hn hz
  exact Gl.of (fun t k => XS.imul X.here hx rfl (hb hby hd) rfl k) K
theorem gIand (X : Sd Z D p l e R s m args below meth c n0 T h cells slots) (w : Cx Z own nm bytes maxL ret p s m meth c) {x y z : Int32} (hd : decode bytes pc = .ok (.iand, 1)) (hz : x &&& y = z) (hn : pc + 1 = n) (K : Gl Z p e below s n0 P C S (T.setTop (mkF m n ls (.int z :: st)))) : Gl Z p e below s n0 P C S (T.setTop (mkF m pc ls (.int y :: .int x :: st))) := by
  obtain ⟨_, vm0, k0, X, -, -, -, hS, -⟩ := X; obtain ⟨hx, hby, hZ, hown, -⟩ := w; have hZ := State.Warmed39.trans hZ hS.1; have hown := (hS.1.alike.findClass _ _).trans hown; subst hn hz
  exact Gl.of (fun t k => XS.iand X.here hx rfl (hb hby hd) rfl k) K
theorem gIor (X : Sd Z D p l e R s m args below meth c n0 T h cells slots) (w : Cx Z own nm bytes maxL ret p s m meth c) {x y z : Int32} (hd : decode bytes pc = .ok (.ior, 1)) (hz : x ||| y = z) (hn : pc + 1 = n) (K : Gl Z p e below s n0 P C S (T.setTop (mkF m n ls (.int z :: st)))) : Gl Z p e below s n0 P C S (T.setTop (mkF m pc ls (.int y :: .int x :: st))) := by
  obtain ⟨_, vm0, k0, X, -, -, -, hS, -⟩ := X; obtain ⟨hx, hby, hZ, hown, -⟩ := w; have hZ := State.Warmed39.trans hZ hS.1; have hown := (hS.1.alike.findClass _ _).trans hown; subst hn hz
  exact Gl.of (fun t k => XT.ior X.here hx rfl (hb hby hd) rfl k) K
theorem gIxor (X : Sd Z D p l e R s m args below meth c n0 T h cells slots) (w : Cx Z own nm bytes maxL ret p s m meth c) {x y z : Int32} (hd : decode bytes pc = .ok (.ixor, 1)) (hz : x ^^^ y = z) (hn : pc + 1 = n) (K : Gl Z p e below s n0 P C S (T.setTop (mkF m n ls (.int z :: st)))) : Gl Z p e below s n0 P C S (T.setTop (mkF m pc ls (.int y :: .int x :: st))) := by
  obtain ⟨_, vm0, k0, X, -, -, -, hS, -⟩ := X; obtain ⟨hx, hby, hZ, hown, -⟩ := w; have hZ := State.Warmed39.trans hZ hS.1; have hown := (hS.1.alike.findClass _ _).trans hown; subst hn hz
  exact Gl.of (fun t k => XT.ixor X.here hx rfl (hb hby hd) rfl k) K
theorem gIshl (X : Sd Z D p l e R s m args below meth c n0 T h cells slots) (w : Cx Z own nm bytes maxL ret p s m meth c) {x y z : Int32} (hd : decode bytes pc = .ok (.ishl, 1)) (hz : x <<< (y &&& 31) = z) (hn : pc + 1 = n) (K : Gl Z p e below s n0 P C S (T.setTop (mkF m n ls (.int z :: st)))) : Gl Z p e below s n0 P C S (T.setTop (mkF m pc ls (.int y :: .int x :: st))) := by
  obtain ⟨_, vm0, k0, X, -, -, -, hS, -⟩ := X; obtain ⟨hx, hby, hZ, hown, -⟩ := w; have hZ := State.Warmed39.trans hZ hS.1; have hown := (hS.1.alike.findClass _ _).trans hown; subst hn hz
  exact Gl.of (fun t k => XT.ishl X.here hx rfl (hb hby hd) rfl k) K
theorem gIshr (X : Sd Z D p l e R s m args below meth c n0 T h cells slots) (w : Cx Z own nm bytes maxL ret p s m meth c) {x y z : Int32} (hd : decode bytes pc = .ok (.ishr, 1)) (hz : x >>> (y &&& 31) = z) (hn : pc + 1 = n) (K : Gl Z p e below s n0 P C S (T.setTop (mkF m n ls (.int z :: st)))) : Gl Z p e below s n0 P C S (T.setTop (mkF m pc ls (.int y :: .int x :: st))) := by
  obtain ⟨_, vm0, k0, X, -, -, -, hS, -⟩ := X; obtain ⟨hx, hby, hZ, hown, -⟩ := w; have hZ := State.Warmed39.trans hZ hS.1; have hown := (hS.1.alike.findClass _ _).trans hown; subst hn hz
  exact Gl.of (fun t k => XT.ishr X.here hx rfl (hb hby hd) rfl k) K
theorem gIushr (X : Sd Z D p l e R s m args below meth c n0 T h cells slots) (w : Cx Z own nm bytes maxL ret p s m meth c) {x y z : Int32} (hd : decode bytes pc = .ok (.iushr, 1)) (hz : XT.ushr x y = z) (hn : pc + 1 = n) (K : Gl Z p e below s n0 P C S (T.setTop (mkF m n ls (.int z :: st)))) : Gl Z p e below s n0 P C S (T.setTop (mkF m pc ls (.int y :: .int x :: st))) := by
  obtain ⟨_, vm0, k0, X, -, -, -, hS, -⟩ := X; obtain ⟨hx, hby, hZ, hown, -⟩ := w; have hZ := State.Warmed39.trans hZ hS.1; have hown := (hS.1.alike.findClass _ _).trans hown; subst hn hz
  exact Gl.of (fun t k => XT.iushr X.here hx rfl (hb hby hd) rfl k) K
theorem gIdiv (X : Sd Z D p l e R s m args below meth c n0 T h cells slots) (w : Cx Z own nm bytes maxL ret p s m meth c) {x y z : Int32} (hd : decode bytes pc = .ok (.idiv, 1)) (hy : y ≠ 0) (hz : x / y = z) (hn : pc + 1 = n) (K : Gl Z p e below s n0 P C S (T.setTop (mkF m n ls (.int z :: st)))) : Gl Z p e below s n0 P C S (T.setTop (mkF m pc ls (.int y :: .int x :: st))) := by
  obtain ⟨_, vm0, k0, X, -, -, -, hS, -⟩ := X; obtain ⟨hx, hby, hZ, hown, -⟩ := w; have hZ := State.Warmed39.trans hZ hS.1; have hown := (hS.1.alike.findClass _ _).trans hown; subst hn hz
  exact Gl.of (fun t k => XS.idiv X.here hx rfl (hb hby hd) rfl hy k) K
theorem gIrem (X : Sd Z D p l e R s m args below meth c n0 T h cells slots) (w : Cx Z own nm bytes maxL ret p s m meth c) {x y z : Int32} (hd : decode bytes pc = .ok (.irem, 1)) (hy : y ≠ 0) (hz : x % y = z) (hn : pc + 1 = n) (K : Gl Z p e below s n0 P C S (T.setTop (mkF m n ls (.int z :: st)))) : Gl Z p e below s n0 P C S (T.setTop (mkF m pc ls (.int y :: .int x :: st))) := by
  obtain ⟨_, vm0, k0, X, -, -, -, hS, -⟩ := X; obtain ⟨hx, hby, hZ, hown, -⟩ := w; have hZ := State.Warmed39.trans hZ hS.1; have hown := (hS.1.alike.findClass _ _).trans hown; subst hn hz
  exact Gl.of (fun t k => iremM X hx rfl (hb hby hd) rfl hy k) K
theorem gIneg (X : Sd Z D p l e R s m args below meth c n0 T h cells slots) (w : Cx Z own nm bytes maxL ret p s m meth c) {x z : Int32} (hd : decode bytes pc = .ok (.ineg, 1)) (hz : -x = z) (hn : pc + 1 = n) (K : Gl Z p e below s n0 P C S (T.setTop (mkF m n ls (.int z :: st)))) : Gl Z p e below s n0 P C S (T.setTop (mkF m pc ls (.int x :: st))) := by
  obtain ⟨_, vm0, k0, X, -, -, -, hS, -⟩ := X; obtain ⟨hx, hby, hZ, hown, -⟩ := w; have hZ := State.Warmed39.trans hZ hS.1; have hown := (hS.1.alike.findClass _ _).trans hown; subst hn hz
  exact Gl.of (fun t k => XS.ineg X.here hx rfl (hb hby hd) rfl k) K
theorem gLadd (X : Sd Z D p l e R s m args below meth c n0 T h cells slots) (w : Cx Z own nm bytes maxL ret p s m meth c) {x y z : Int64} (hd : decode bytes pc = .ok (.ladd, 1)) (hz : x + y = z) (hn : pc + 1 = n) (K : Gl Z p e below s n0 P C S (T.setTop (mkF m n ls (.long z :: st)))) : Gl Z p e below s n0 P C S (T.setTop (mkF m pc ls (.long y :: .long x :: st))) := by
  obtain ⟨_, vm0, k0, X, -, -, -, hS, -⟩ := X; obtain ⟨hx, hby, hZ, hown, -⟩ := w; have hZ := State.Warmed39.trans hZ hS.1; have hown := (hS.1.alike.findClass _ _).trans hown; subst hn hz
  exact Gl.of (fun t k => XT.ladd X.here hx rfl (hb hby hd) rfl k) K
theorem gLsub (X : Sd Z D p l e R s m args below meth c n0 T h cells slots) (w : Cx Z own nm bytes maxL ret p s m meth c) {x y z : Int64} (hd : decode bytes pc = .ok (.lsub, 1)) (hz : x - y = z) (hn : pc + 1 = n) (K : Gl Z p e below s n0 P C S (T.setTop (mkF m n ls (.long z :: st)))) : Gl Z p e below s n0 P C S (T.setTop (mkF m pc ls (.long y :: .long x :: st))) := by
  obtain ⟨_, vm0, k0, X, -, -, -, hS, -⟩ := X; obtain ⟨hx, hby, hZ, hown, -⟩ := w; have hZ := State.Warmed39.trans hZ hS.1; have hown := (hS.1.alike.findClass _ _).trans hown; subst hn hz
  exact Gl.of (fun t k => XT.lsub X.here hx rfl (hb hby hd) rfl k) K
theorem gLmul (X : Sd Z D p l e R s m args below meth c n0 T h cells slots) (w : Cx Z own nm bytes maxL ret p s m meth c) {x y z : Int64} (hd : decode bytes pc = .ok (.lmul, 1)) (hz : x * y = z) (hn : pc + 1 = n) (K : Gl Z p e below s n0 P C S (T.setTop (mkF m n ls (.long z :: st)))) : Gl Z p e below s n0 P C S (T.setTop (mkF m pc ls (.long y :: .long x :: st))) := by
  obtain ⟨_, vm0, k0, X, -, -, -, hS, -⟩ := X; obtain ⟨hx, hby, hZ, hown, -⟩ := w; have hZ := State.Warmed39.trans hZ hS.1; have hown := (hS.1.alike.findClass _ _).trans hown; subst hn hz
  exact Gl.of (fun t k => XT.lmul X.here hx rfl (hb hby hd) rfl k) K
theorem gLand (X : Sd Z D p l e R s m args below meth c n0 T h cells slots) (w : Cx Z own nm bytes maxL ret p s m meth c) {x y z : Int64} (hd : decode bytes pc = .ok (.land, 1)) (hz : x &&& y = z) (hn : pc + 1 = n) (K : Gl Z p e below s n0 P C S (T.setTop (mkF m n ls (.long z :: st)))) : Gl Z p e below s n0 P C S (T.setTop (mkF m pc ls (.long y :: .long x :: st))) := by
  obtain ⟨_, vm0, k0, X, -, -, -, hS, -⟩ := X; obtain ⟨hx, hby, hZ, hown, -⟩ := w; have hZ := State.Warmed39.trans hZ hS.1; have hown := (hS.1.alike.findClass _ _).trans hown; subst hn hz
  exact Gl.of (fun t k => XT.land X.here hx rfl (hb hby hd) rfl k) K
theorem gLor (X : Sd Z D p l e R s m args below meth c n0 T h cells slots) (w : Cx Z own nm bytes maxL ret p s m meth c) {x y z : Int64} (hd : decode bytes pc = .ok (.lor, 1)) (hz : x ||| y = z) (hn : pc + 1 = n) (K : Gl Z p e below s n0 P C S (T.setTop (mkF m n ls (.long z :: st)))) : Gl Z p e below s n0 P C S (T.setTop (mkF m pc ls (.long y :: .long x :: st))) := by
  obtain ⟨_, vm0, k0, X, -, -, -, hS, -⟩ := X; obtain ⟨hx, hby, hZ, hown, -⟩ := w; have hZ := State.Warmed39.trans hZ hS.1; have hown := (hS.1.alike.findClass _ _).trans hown; subst hn hz
  exact Gl.of (fun t k => XT.lor X.here hx rfl (hb hby hd) rfl k) K
theorem gLxor (X : Sd Z D p l e R s m args below meth c n0 T h cells slots) (w : Cx Z own nm bytes maxL ret p s m meth c) {x y z : Int64} (hd : decode bytes pc = .ok (.lxor, 1)) (hz : x ^^^ y = z) (hn : pc + 1 = n) (K : Gl Z p e below s n0 P C S (T.setTop (mkF m n ls (.long z :: st)))) : Gl Z p e below s n0 P C S (T.setTop (mkF m pc ls (.long y :: .long x :: st))) := by
  obtain ⟨_, vm0, k0, X, -, -, -, hS, -⟩ := X; obtain ⟨hx, hby, hZ, hown, -⟩ := w; have hZ := State.Warmed39.trans hZ hS.1; have hown := (hS.1.alike.findClass _ _).trans hown; subst hn hz
  exact Gl.of (fun t k => XT.lxor X.here hx rfl (hb hby hd) rfl k) K
theorem gLshl (X : Sd Z D p l e R s m args below meth c n0 T h cells slots) (w : Cx Z own nm bytes maxL ret p s m meth c) {x z : Int64} {y : Int32} (hd : decode bytes pc = .ok (.lshl, 1)) (hz : x <<< (y.toInt64 &&& 63) = z) (hn : pc + 1 = n) (K : Gl Z p e below s n0 P C S (T.setTop (mkF m n ls (.long z :: st)))) : Gl Z p e below s n0 P C S (T.setTop (mkF m pc ls (.int y :: .long x :: st))) := by
  obtain ⟨_, vm0, k0, X, -, -, -, hS, -⟩ := X; obtain ⟨hx, hby, hZ, hown, -⟩ := w; have hZ := State.Warmed39.trans hZ hS.1; have hown := (hS.1.alike.findClass _ _).trans hown; subst hn hz
  exact Gl.of (fun t k => XT.lshl X.here hx rfl (hb hby hd) rfl k) K
theorem gLshr (X : Sd Z D p l e R s m args below meth c n0 T h cells slots) (w : Cx Z own nm bytes maxL ret p s m meth c) {x z : Int64} {y : Int32} (hd : decode bytes pc = .ok (.lshr, 1)) (hz : x >>> (y.toInt64 &&& 63) = z) (hn : pc + 1 = n) (K : Gl Z p e below s n0 P C S (T.setTop (mkF m n ls (.long z :: st)))) : Gl Z p e below s n0 P C S (T.setTop (mkF m pc ls (.int y :: .long x :: st))) := by
  obtain ⟨_, vm0, k0, X, -, -, -, hS, -⟩ := X; obtain ⟨hx, hby, hZ, hown, -⟩ := w; have hZ := State.Warmed39.trans hZ hS.1; have hown := (hS.1.alike.findClass _ _).trans hown; subst hn hz
  exact Gl.of (fun t k => XT.lshr X.here hx rfl (hb hby hd) rfl k) K
theorem gLushr (X : Sd Z D p l e R s m args below meth c n0 T h cells slots) (w : Cx Z own nm bytes maxL ret p s m meth c) {x z : Int64} {y : Int32} (hd : decode bytes pc = .ok (.lushr, 1)) (hz : XT.ushrL x y = z) (hn : pc + 1 = n) (K : Gl Z p e below s n0 P C S (T.setTop (mkF m n ls (.long z :: st)))) : Gl Z p e below s n0 P C S (T.setTop (mkF m pc ls (.int y :: .long x :: st))) := by
  obtain ⟨_, vm0, k0, X, -, -, -, hS, -⟩ := X; obtain ⟨hx, hby, hZ, hown, -⟩ := w; have hZ := State.Warmed39.trans hZ hS.1; have hown := (hS.1.alike.findClass _ _).trans hown; subst hn hz
  exact Gl.of (fun t k => XT.lushr X.here hx rfl (hb hby hd) rfl k) K
theorem gLneg (X : Sd Z D p l e R s m args below meth c n0 T h cells slots) (w : Cx Z own nm bytes maxL ret p s m meth c) {x z : Int64} (hd : decode bytes pc = .ok (.lneg, 1)) (hz : -x = z) (hn : pc + 1 = n) (K : Gl Z p e below s n0 P C S (T.setTop (mkF m n ls (.long z :: st)))) : Gl Z p e below s n0 P C S (T.setTop (mkF m pc ls (.long x :: st))) := by
  obtain ⟨_, vm0, k0, X, -, -, -, hS, -⟩ := X; obtain ⟨hx, hby, hZ, hown, -⟩ := w; have hZ := State.Warmed39.trans hZ hS.1; have hown := (hS.1.alike.findClass _ _).trans hown; subst hn hz
  exact Gl.of (fun t k => XT.lneg X.here hx rfl (hb hby hd) rfl k) K
theorem gLdiv (X : Sd Z D p l e R s m args below meth c n0 T h cells slots) (w : Cx Z own nm bytes maxL ret p s m meth c) {x y z : Int64} (hd : decode bytes pc = .ok (.ldiv, 1)) (hy : y ≠ 0) (hz : x / y = z) (hn : pc + 1 = n) (K : Gl Z p e below s n0 P C S (T.setTop (mkF m n ls (.long z :: st)))) : Gl Z p e below s n0 P C S (T.setTop (mkF m pc ls (.long y :: .long x :: st))) := by
  obtain ⟨_, vm0, k0, X, -, -, -, hS, -⟩ := X; obtain ⟨hx, hby, hZ, hown, -⟩ := w; have hZ := State.Warmed39.trans hZ hS.1; have hown := (hS.1.alike.findClass _ _).trans hown; subst hn hz
  exact Gl.of (fun t k => XT.ldiv X.here hx rfl (hb hby hd) rfl hy k) K
theorem gLrem (X : Sd Z D p l e R s m args below meth c n0 T h cells slots) (w : Cx Z own nm bytes maxL ret p s m meth c) {x y z : Int64} (hd : decode bytes pc = .ok (.lrem, 1)) (hy : y ≠ 0) (hz : x % y = z) (hn : pc + 1 = n) (K : Gl Z p e below s n0 P C S (T.setTop (mkF m n ls (.long z :: st)))) : Gl Z p e below s n0 P C S (T.setTop (mkF m pc ls (.long y :: .long x :: st))) := by
  obtain ⟨_, vm0, k0, X, -, -, -, hS, -⟩ := X; obtain ⟨hx, hby, hZ, hown, -⟩ := w; have hZ := State.Warmed39.trans hZ hS.1; have hown := (hS.1.alike.findClass _ _).trans hown; subst hn; rw [← lrem_mod] at hz; subst hz
  exact Gl.of (fun t k => XT.lrem X.here hx rfl (hb hby hd) rfl hy k) K
theorem gLcmp (X : Sd Z D p l e R s m args below meth c n0 T h cells slots) (w : Cx Z own nm bytes maxL ret p s m meth c) {x y : Int64} {z : Int32} (hd : decode bytes pc = .ok (.lcmp, 1)) (hz : XT.cmpL x y = z) (hn : pc + 1 = n) (K : Gl Z p e below s n0 P C S (T.setTop (mkF m n ls (.int z :: st)))) : Gl Z p e below s n0 P C S (T.setTop (mkF m pc ls (.long y :: .long x :: st))) := by
  obtain ⟨_, vm0, k0, X, -, -, -, hS, -⟩ := X; obtain ⟨hx, hby, hZ, hown, -⟩ := w; have hZ := State.Warmed39.trans hZ hS.1; have hown := (hS.1.alike.findClass _ _).trans hown; subst hn hz
  exact Gl.of (fun t k => XT.lcmp X.here hx rfl (hb hby hd) rfl k) K
theorem gI2l (X : Sd Z D p l e R s m args below meth c n0 T h cells slots) (w : Cx Z own nm bytes maxL ret p s m meth c) {x : Int32} {z : Int64} (hd : decode bytes pc = .ok (.i2l, 1)) (hz : x.toInt64 = z) (hn : pc + 1 = n) (K : Gl Z p e below s n0 P C S (T.setTop (mkF m n ls (.long z :: st)))) : Gl Z p e below s n0 P C S (T.setTop (mkF m pc ls (.int x :: st))) := by
  obtain ⟨_, vm0, k0, X, -, -, -, hS, -⟩ := X; obtain ⟨hx, hby, hZ, hown, -⟩ := w; have hZ := State.Warmed39.trans hZ hS.1; have hown := (hS.1.alike.findClass _ _).trans hown; subst hn hz
  exact Gl.of (fun t k => XT.i2l X.here hx rfl (hb hby hd) rfl k) K
theorem gL2i (X : Sd Z D p l e R s m args below meth c n0 T h cells slots) (w : Cx Z own nm bytes maxL ret p s m meth c) {x : Int64} {z : Int32} (hd : decode bytes pc = .ok (.l2i, 1)) (hz : x.toInt32 = z) (hn : pc + 1 = n) (K : Gl Z p e below s n0 P C S (T.setTop (mkF m n ls (.int z :: st)))) : Gl Z p e below s n0 P C S (T.setTop (mkF m pc ls (.long x :: st))) := by
  obtain ⟨_, vm0, k0, X, -, -, -, hS, -⟩ := X; obtain ⟨hx, hby, hZ, hown, -⟩ := w; have hZ := State.Warmed39.trans hZ hS.1; have hown := (hS.1.alike.findClass _ _).trans hown; subst hn hz
  exact Gl.of (fun t k => XT.l2i X.here hx rfl (hb hby hd) rfl k) K
theorem gI2b (X : Sd Z D p l e R s m args below meth c n0 T h cells slots) (w : Cx Z own nm bytes maxL ret p s m meth c) {x : Int32} {z : Int32} (hd : decode bytes pc = .ok (.i2b, 1)) (hz : x.toInt8.toInt32 = z) (hn : pc + 1 = n) (K : Gl Z p e below s n0 P C S (T.setTop (mkF m n ls (.int z :: st)))) : Gl Z p e below s n0 P C S (T.setTop (mkF m pc ls (.int x :: st))) := by
  obtain ⟨_, vm0, k0, X, -, -, -, hS, -⟩ := X; obtain ⟨hx, hby, hZ, hown, -⟩ := w; have hZ := State.Warmed39.trans hZ hS.1; have hown := (hS.1.alike.findClass _ _).trans hown; subst hn hz
  exact Gl.of (fun t k => XT.i2b X.here hx rfl (hb hby hd) rfl k) K
theorem gI2c (X : Sd Z D p l e R s m args below meth c n0 T h cells slots) (w : Cx Z own nm bytes maxL ret p s m meth c) {x : Int32} {z : Int32} (hd : decode bytes pc = .ok (.i2c, 1)) (hz : x.toUInt32.toUInt16.toUInt32.toInt32 = z) (hn : pc + 1 = n) (K : Gl Z p e below s n0 P C S (T.setTop (mkF m n ls (.int z :: st)))) : Gl Z p e below s n0 P C S (T.setTop (mkF m pc ls (.int x :: st))) := by
  obtain ⟨_, vm0, k0, X, -, -, -, hS, -⟩ := X; obtain ⟨hx, hby, hZ, hown, -⟩ := w; have hZ := State.Warmed39.trans hZ hS.1; have hown := (hS.1.alike.findClass _ _).trans hown; subst hn hz
  exact Gl.of (fun t k => XT.i2c X.here hx rfl (hb hby hd) rfl k) K
theorem gI2s (X : Sd Z D p l e R s m args below meth c n0 T h cells slots) (w : Cx Z own nm bytes maxL ret p s m meth c) {x : Int32} {z : Int32} (hd : decode bytes pc = .ok (.i2s, 1)) (hz : x.toInt16.toInt32 = z) (hn : pc + 1 = n) (K : Gl Z p e below s n0 P C S (T.setTop (mkF m n ls (.int z :: st)))) : Gl Z p e below s n0 P C S (T.setTop (mkF m pc ls (.int x :: st))) := by
  obtain ⟨_, vm0, k0, X, -, -, -, hS, -⟩ := X; obtain ⟨hx, hby, hZ, hown, -⟩ := w; have hZ := State.Warmed39.trans hZ hS.1; have hown := (hS.1.alike.findClass _ _).trans hown; subst hn hz
  exact Gl.of (fun t k => XT.i2s X.here hx rfl (hb hby hd) rfl k) K
theorem gIstore (X : Sd Z D p l e R s m args below meth c n0 T h cells slots) (w : Cx Z own nm bytes maxL ret p s m meth c) {k : Nat} {x : Int32} (hd : decode bytes pc = .ok (.istore k, 2)) (l' : Array Slot) (hl : storeLocals ls k (.int x) = some l') (hn : pc + 2 = n) (K : Gl Z p e below s n0 P C S (T.setTop (mkF m n l' st))) : Gl Z p e below s n0 P C S (T.setTop (mkF m pc ls (.int x :: st))) := by
  obtain ⟨_, vm0, k0, X, -, -, -, hS, -⟩ := X; obtain ⟨hx, hby, hZ, hown, -⟩ := w; have hZ := State.Warmed39.trans hZ hS.1; have hown := (hS.1.alike.findClass _ _).trans hown; subst hn
  exact Gl.of (fun t k => XS.istore X.here hx rfl (hb hby hd) rfl hl k) K
theorem gIstoreN (X : Sd Z D p l e R s m args below meth c n0 T h cells slots) (w : Cx Z own nm bytes maxL ret p s m meth c) {k : Fin 4} {x : Int32} (hd : decode bytes pc = .ok (.istore_n k, 1)) (l' : Array Slot) (hl : storeLocals ls k.val (.int x) = some l') (hn : pc + 1 = n) (K : Gl Z p e below s n0 P C S (T.setTop (mkF m n l' st))) : Gl Z p e below s n0 P C S (T.setTop (mkF m pc ls (.int x :: st))) := by
  obtain ⟨_, vm0, k0, X, -, -, -, hS, -⟩ := X; obtain ⟨hx, hby, hZ, hown, -⟩ := w; have hZ := State.Warmed39.trans hZ hS.1; have hown := (hS.1.alike.findClass _ _).trans hown; subst hn
  exact Gl.of (fun t k => XS.istoreN X.here hx rfl (hb hby hd) rfl hl k) K
theorem gJstore (X : Sd Z D p l e R s m args below meth c n0 T h cells slots) (w : Cx Z own nm bytes maxL ret p s m meth c) {k : Nat} {x : Int64} (hd : decode bytes pc = .ok (.lstore k, 2)) (l' : Array Slot) (hl : storeLocals ls k (.long x) = some l') (hn : pc + 2 = n) (K : Gl Z p e below s n0 P C S (T.setTop (mkF m n l' st))) : Gl Z p e below s n0 P C S (T.setTop (mkF m pc ls (.long x :: st))) := by
  obtain ⟨_, vm0, k0, X, -, -, -, hS, -⟩ := X; obtain ⟨hx, hby, hZ, hown, -⟩ := w; have hZ := State.Warmed39.trans hZ hS.1; have hown := (hS.1.alike.findClass _ _).trans hown; subst hn
  exact Gl.of (fun t k => XT.lstore X.here hx rfl (hb hby hd) rfl hl k) K
theorem gJstoreN (X : Sd Z D p l e R s m args below meth c n0 T h cells slots) (w : Cx Z own nm bytes maxL ret p s m meth c) {k : Fin 4} {x : Int64} (hd : decode bytes pc = .ok (.lstore_n k, 1)) (l' : Array Slot) (hl : storeLocals ls k.val (.long x) = some l') (hn : pc + 1 = n) (K : Gl Z p e below s n0 P C S (T.setTop (mkF m n l' st))) : Gl Z p e below s n0 P C S (T.setTop (mkF m pc ls (.long x :: st))) := by
  obtain ⟨_, vm0, k0, X, -, -, -, hS, -⟩ := X; obtain ⟨hx, hby, hZ, hown, -⟩ := w; have hZ := State.Warmed39.trans hZ hS.1; have hown := (hS.1.alike.findClass _ _).trans hown; subst hn
  exact Gl.of (fun t k => XT.lstoreN X.here hx rfl (hb hby hd) rfl hl k) K
theorem gAstore (X : Sd Z D p l e R s m args below meth c n0 T h cells slots) (w : Cx Z own nm bytes maxL ret p s m meth c) {k : Nat} {x : Value} (hd : decode bytes pc = .ok (.astore k, 2)) (hv : x.isRef = true) (l' : Array Slot) (hl : storeLocals ls k x = some l') (hn : pc + 2 = n) (K : Gl Z p e below s n0 P C S (T.setTop (mkF m n l' st))) : Gl Z p e below s n0 P C S (T.setTop (mkF m pc ls (x :: st))) := by
  obtain ⟨_, vm0, k0, X, -, -, -, hS, -⟩ := X; obtain ⟨hx, hby, hZ, hown, -⟩ := w; have hZ := State.Warmed39.trans hZ hS.1; have hown := (hS.1.alike.findClass _ _).trans hown; subst hn
  exact Gl.of (fun t k => XS.astore X.here hx rfl (hb hby hd) rfl hv hl k) K
theorem gAstoreN (X : Sd Z D p l e R s m args below meth c n0 T h cells slots) (w : Cx Z own nm bytes maxL ret p s m meth c) {k : Fin 4} {x : Value} (hd : decode bytes pc = .ok (.astore_n k, 1)) (hv : x.isRef = true) (l' : Array Slot) (hl : storeLocals ls k.val x = some l') (hn : pc + 1 = n) (K : Gl Z p e below s n0 P C S (T.setTop (mkF m n l' st))) : Gl Z p e below s n0 P C S (T.setTop (mkF m pc ls (x :: st))) := by
  obtain ⟨_, vm0, k0, X, -, -, -, hS, -⟩ := X; obtain ⟨hx, hby, hZ, hown, -⟩ := w; have hZ := State.Warmed39.trans hZ hS.1; have hown := (hS.1.alike.findClass _ _).trans hown; subst hn
  exact Gl.of (fun t k => XS.astoreN X.here hx rfl (hb hby hd) rfl hv hl k) K
theorem gIinc (X : Sd Z D p l e R s m args below meth c n0 T h cells slots) (w : Cx Z own nm bytes maxL ret p s m meth c) {k : Nat} {i : Int} {x z : Int32} (hd : decode bytes pc = .ok (.iinc k i, 3)) (hl0 : ls[k]? = some (.val (.int x))) (hz : x + Int32.ofInt i = z) (l' : Array Slot) (hl : storeLocals ls k (.int z) = some l') (hn : pc + 3 = n) (K : Gl Z p e below s n0 P C S (T.setTop (mkF m n l' st))) : Gl Z p e below s n0 P C S (T.setTop (mkF m pc ls st)) := by
  obtain ⟨_, vm0, k0, X, -, -, -, hS, -⟩ := X; obtain ⟨hx, hby, hZ, hown, -⟩ := w; have hZ := State.Warmed39.trans hZ hS.1; have hown := (hS.1.alike.findClass _ _).trans hown; subst hn hz
  exact Gl.of (fun t k => XS.iinc X.here hx rfl (hb hby hd) hl0 hl k) K
theorem gDup (X : Sd Z D p l e R s m args below meth c n0 T h cells slots) (w : Cx Z own nm bytes maxL ret p s m meth c) {x : Value} (hd : decode bytes pc = .ok (.dup, 1)) (hc : x.category = 1) (hn : pc + 1 = n) (K : Gl Z p e below s n0 P C S (T.setTop (mkF m n ls (x :: x :: st)))) : Gl Z p e below s n0 P C S (T.setTop (mkF m pc ls (x :: st))) := by
  obtain ⟨_, vm0, k0, X, -, -, -, hS, -⟩ := X; obtain ⟨hx, hby, hZ, hown, -⟩ := w; have hZ := State.Warmed39.trans hZ hS.1; have hown := (hS.1.alike.findClass _ _).trans hown; subst hn
  exact Gl.of (fun t k => XS.dup X.here hx rfl (hb hby hd) rfl hc k) K
theorem gPop (X : Sd Z D p l e R s m args below meth c n0 T h cells slots) (w : Cx Z own nm bytes maxL ret p s m meth c) {x : Value} (hd : decode bytes pc = .ok (.pop, 1)) (hc : x.category = 1) (hn : pc + 1 = n) (K : Gl Z p e below s n0 P C S (T.setTop (mkF m n ls st))) : Gl Z p e below s n0 P C S (T.setTop (mkF m pc ls (x :: st))) := by
  obtain ⟨_, vm0, k0, X, -, -, -, hS, -⟩ := X; obtain ⟨hx, hby, hZ, hown, -⟩ := w; have hZ := State.Warmed39.trans hZ hS.1; have hown := (hS.1.alike.findClass _ _).trans hown; subst hn
  exact Gl.of (fun t k => XT.pop X.here hx rfl (hb hby hd) rfl hc k) K
theorem gDupX1 (X : Sd Z D p l e R s m args below meth c n0 T h cells slots) (w : Cx Z own nm bytes maxL ret p s m meth c) {x y : Value} (hd : decode bytes pc = .ok (.dup_x1, 1)) (hc : x.category = 1) (hc' : y.category = 1) (hn : pc + 1 = n) (K : Gl Z p e below s n0 P C S (T.setTop (mkF m n ls (x :: y :: x :: st)))) : Gl Z p e below s n0 P C S (T.setTop (mkF m pc ls (x :: y :: st))) := by
  obtain ⟨_, vm0, k0, X, -, -, -, hS, -⟩ := X; obtain ⟨hx, hby, hZ, hown, -⟩ := w; have hZ := State.Warmed39.trans hZ hS.1; have hown := (hS.1.alike.findClass _ _).trans hown; subst hn
  exact Gl.of (fun t k => XT.dupX1 X.here hx rfl (hb hby hd) rfl hc hc' k) K
theorem gDup2 (X : Sd Z D p l e R s m args below meth c n0 T h cells slots) (w : Cx Z own nm bytes maxL ret p s m meth c) {x y : Value} (hd : decode bytes pc = .ok (.dup2, 1)) (hc : x.category = 1) (hc' : y.category = 1) (hn : pc + 1 = n) (K : Gl Z p e below s n0 P C S (T.setTop (mkF m n ls (x :: y :: x :: y :: st)))) : Gl Z p e below s n0 P C S (T.setTop (mkF m pc ls (x :: y :: st))) := by
  obtain ⟨_, vm0, k0, X, -, -, -, hS, -⟩ := X; obtain ⟨hx, hby, hZ, hown, -⟩ := w; have hZ := State.Warmed39.trans hZ hS.1; have hown := (hS.1.alike.findClass _ _).trans hown; subst hn
  exact Gl.of (fun t k => XT.dup2 X.here hx rfl (hb hby hd) rfl hc hc' k) K
theorem gDup2L (X : Sd Z D p l e R s m args below meth c n0 T h cells slots) (w : Cx Z own nm bytes maxL ret p s m meth c) {x : Int64} (hd : decode bytes pc = .ok (.dup2, 1)) (hn : pc + 1 = n) (K : Gl Z p e below s n0 P C S (T.setTop (mkF m n ls (.long x :: .long x :: st)))) : Gl Z p e below s n0 P C S (T.setTop (mkF m pc ls (.long x :: st))) := by
  obtain ⟨_, vm0, k0, X, -, -, -, hS, -⟩ := X; obtain ⟨hx, hby, hZ, hown, -⟩ := w; have hZ := State.Warmed39.trans hZ hS.1; have hown := (hS.1.alike.findClass _ _).trans hown; subst hn
  exact Gl.of (fun t k => XT.dup2L X.here hx rfl (hb hby hd) rfl k) K
theorem gGoto (X : Sd Z D p l e R s m args below meth c n0 T h cells slots) (w : Cx Z own nm bytes maxL ret p s m meth c) {o : Int} (hd : decode bytes pc = .ok (.goto o, 3)) (ho : 0 ≤ (pc : Int) + o) (hp : ((pc : Int) + o).toNat = n) (K : Gl Z p e below s n0 P C S (T.setTop (mkF m n ls st))) : Gl Z p e below s n0 P C S (T.setTop (mkF m pc ls st)) := by
  obtain ⟨_, vm0, k0, X, -, -, -, hS, -⟩ := X; obtain ⟨hx, hby, hZ, hown, -⟩ := w; have hZ := State.Warmed39.trans hZ hS.1; have hown := (hS.1.alike.findClass _ _).trans hown; 
  exact Gl.of (fun t k => XS.goto X.here hx rfl rfl (hb hby hd) ho hp k) K
theorem gIf_eq (X : Sd Z D p l e R s m args below meth c n0 T h cells slots) (w : Cx Z own nm bytes maxL ret p s m meth c) {x : Int32} {o : Int} (hd : decode bytes pc = .ok (.ifCond .eq o, 3)) (ho : 0 ≤ (pc : Int) + o) {n' : Nat} (hp : ((pc : Int) + o).toNat = n) (hn : pc + 3 = n') (K1 : x = (0 : Int32) ∧ x.toInt = 0 → Gl Z p e below s n0 P C S (T.setTop (mkF m n ls st))) (K2 : ¬ x = (0 : Int32) ∧ ¬ x.toInt = 0 → Gl Z p e below s n0 P C S (T.setTop (mkF m n' ls st))) : Gl Z p e below s n0 P C S (T.setTop (mkF m pc ls (.int x :: st))) := by
  obtain ⟨_, vm0, k0, X, -, -, -, hS, -⟩ := X; obtain ⟨hx, hby, -⟩ := w; subst hn
  by_cases q : x = (0 : Int32)
  · exact Gl.of (fun t k => XS.ifYes X.here hx rfl rfl (hb hby hd) rfl (XT.i0_eq_t q) ho hp k) (K1 ⟨q, by rw [q]; rfl⟩)
  · exact Gl.of (fun t k => XS.ifNo X.here hx rfl (hb hby hd) rfl (XT.i0_eq_f q) k) (K2 ⟨q, fun q' => q (Int32.toInt_inj.mp q')⟩)
theorem gIcmp_eq (X : Sd Z D p l e R s m args below meth c n0 T h cells slots) (w : Cx Z own nm bytes maxL ret p s m meth c) {x y : Int32} {o : Int} (hd : decode bytes pc = .ok (.if_icmp .eq o, 3)) (ho : 0 ≤ (pc : Int) + o) {n' : Nat} (hp : ((pc : Int) + o).toNat = n) (hn : pc + 3 = n') (K1 : x = y ∧ x.toInt = y.toInt → Gl Z p e below s n0 P C S (T.setTop (mkF m n ls st))) (K2 : ¬ x = y ∧ ¬ x.toInt = y.toInt → Gl Z p e below s n0 P C S (T.setTop (mkF m n' ls st))) : Gl Z p e below s n0 P C S (T.setTop (mkF m pc ls (.int y :: .int x :: st))) := by
  obtain ⟨_, vm0, k0, X, -, -, -, hS, -⟩ := X; obtain ⟨hx, hby, -⟩ := w; subst hn
  by_cases q : x = y
  · exact Gl.of (fun t k => XS.icmpYes X.here hx rfl rfl (hb hby hd) rfl (XT.ii_eq_t q) ho hp k) (K1 ⟨q, by rw [q]⟩)
  · exact Gl.of (fun t k => XS.icmpNo X.here hx rfl (hb hby hd) rfl (XT.ii_eq_f q) k) (K2 ⟨q, fun q' => q (Int32.toInt_inj.mp q')⟩)
theorem gIfL_eq (X : Sd Z D p l e R s m args below meth c n0 T h cells slots) (w : Cx Z own nm bytes maxL ret p s m meth c) {x y : Int64} {o : Int} (hd : decode bytes pc = .ok (.ifCond .eq o, 3)) (ho : 0 ≤ (pc : Int) + o) {n' : Nat} (hp : ((pc : Int) + o).toNat = n) (hn : pc + 3 = n') (K1 : x = y ∧ x.toInt = y.toInt → Gl Z p e below s n0 P C S (T.setTop (mkF m n ls st))) (K2 : ¬ x = y ∧ ¬ x.toInt = y.toInt → Gl Z p e below s n0 P C S (T.setTop (mkF m n' ls st))) : Gl Z p e below s n0 P C S (T.setTop (mkF m pc ls (.int (XT.cmpL x y) :: st))) := by
  obtain ⟨_, vm0, k0, X, -, -, -, hS, -⟩ := X; obtain ⟨hx, hby, -⟩ := w; subst hn
  by_cases q : x = y
  · exact Gl.of (fun t k => XS.ifYes X.here hx rfl rfl (hb hby hd) rfl (XT.ll_eq_t q) ho hp k) (K1 ⟨q, by rw [q]⟩)
  · exact Gl.of (fun t k => XS.ifNo X.here hx rfl (hb hby hd) rfl (XT.ll_eq_f q) k) (K2 ⟨q, fun q' => q (Int64.toInt_inj.mp q')⟩)
theorem gIf_ne (X : Sd Z D p l e R s m args below meth c n0 T h cells slots) (w : Cx Z own nm bytes maxL ret p s m meth c) {x : Int32} {o : Int} (hd : decode bytes pc = .ok (.ifCond .ne o, 3)) (ho : 0 ≤ (pc : Int) + o) {n' : Nat} (hp : ((pc : Int) + o).toNat = n) (hn : pc + 3 = n') (K1 : ¬ x = (0 : Int32) ∧ ¬ x.toInt = 0 → Gl Z p e below s n0 P C S (T.setTop (mkF m n ls st))) (K2 : x = (0 : Int32) ∧ x.toInt = 0 → Gl Z p e below s n0 P C S (T.setTop (mkF m n' ls st))) : Gl Z p e below s n0 P C S (T.setTop (mkF m pc ls (.int x :: st))) := by
  obtain ⟨_, vm0, k0, X, -, -, -, hS, -⟩ := X; obtain ⟨hx, hby, -⟩ := w; subst hn
  by_cases q : x = (0 : Int32)
  · exact Gl.of (fun t k => XS.ifNo X.here hx rfl (hb hby hd) rfl (XT.i0_ne_f q) k) (K2 ⟨q, by rw [q]; rfl⟩)
  · exact Gl.of (fun t k => XS.ifYes X.here hx rfl rfl (hb hby hd) rfl (XT.i0_ne_t q) ho hp k) (K1 ⟨q, fun q' => q (Int32.toInt_inj.mp q')⟩)
theorem gIcmp_ne (X : Sd Z D p l e R s m args below meth c n0 T h cells slots) (w : Cx Z own nm bytes maxL ret p s m meth c) {x y : Int32} {o : Int} (hd : decode bytes pc = .ok (.if_icmp .ne o, 3)) (ho : 0 ≤ (pc : Int) + o) {n' : Nat} (hp : ((pc : Int) + o).toNat = n) (hn : pc + 3 = n') (K1 : ¬ x = y ∧ ¬ x.toInt = y.toInt → Gl Z p e below s n0 P C S (T.setTop (mkF m n ls st))) (K2 : x = y ∧ x.toInt = y.toInt → Gl Z p e below s n0 P C S (T.setTop (mkF m n' ls st))) : Gl Z p e below s n0 P C S (T.setTop (mkF m pc ls (.int y :: .int x :: st))) := by
  obtain ⟨_, vm0, k0, X, -, -, -, hS, -⟩ := X; obtain ⟨hx, hby, -⟩ := w; subst hn
  by_cases q : x = y
  · exact Gl.of (fun t k => XS.icmpNo X.here hx rfl (hb hby hd) rfl (XT.ii_ne_f q) k) (K2 ⟨q, by rw [q]⟩)
  · exact Gl.of (fun t k => XS.icmpYes X.here hx rfl rfl (hb hby hd) rfl (XT.ii_ne_t q) ho hp k) (K1 ⟨q, fun q' => q (Int32.toInt_inj.mp q')⟩)
theorem gIfL_ne (X : Sd Z D p l e R s m args below meth c n0 T h cells slots) (w : Cx Z own nm bytes maxL ret p s m meth c) {x y : Int64} {o : Int} (hd : decode bytes pc = .ok (.ifCond .ne o, 3)) (ho : 0 ≤ (pc : Int) + o) {n' : Nat} (hp : ((pc : Int) + o).toNat = n) (hn : pc + 3 = n') (K1 : ¬ x = y ∧ ¬ x.toInt = y.toInt → Gl Z p e below s n0 P C S (T.setTop (mkF m n ls st))) (K2 : x = y ∧ x.toInt = y.toInt → Gl Z p e below s n0 P C S (T.setTop (mkF m n' ls st))) : Gl Z p e below s n0 P C S (T.setTop (mkF m pc ls (.int (XT.cmpL x y) :: st))) := by
  obtain ⟨_, vm0, k0, X, -, -, -, hS, -⟩ := X; obtain ⟨hx, hby, -⟩ := w; subst hn
  by_cases q : x = y
  · exact Gl.of (fun t k => XS.ifNo X.here hx rfl (hb hby hd) rfl (XT.ll_ne_f q) k) (K2 ⟨q, by rw [q]⟩)
  · exact Gl.of (fun t k => XS.ifYes X.here hx rfl rfl (hb hby hd) rfl (XT.ll_ne_t q) ho hp k) (K1 ⟨q, fun q' => q (Int64.toInt_inj.mp q')⟩)
theorem gIf_lt (X : Sd Z D p l e R s m args below meth c n0 T h cells slots) (w : Cx Z own nm bytes maxL ret p s m meth c) {x : Int32} {o : Int} (hd : decode bytes pc = .ok (.ifCond .lt o, 3)) (ho : 0 ≤ (pc : Int) + o) {n' : Nat} (hp : ((pc : Int) + o).toNat = n) (hn : pc + 3 = n') (K1 : x.toInt < 0 → Gl Z p e below s n0 P C S (T.setTop (mkF m n ls st))) (K2 : 0 ≤ x.toInt → Gl Z p e below s n0 P C S (T.setTop (mkF m n' ls st))) : Gl Z p e below s n0 P C S (T.setTop (mkF m pc ls (.int x :: st))) := by
  obtain ⟨_, vm0, k0, X, -, -, -, hS, -⟩ := X; obtain ⟨hx, hby, -⟩ := w; subst hn
  by_cases q : x < (0 : Int32)
  · exact Gl.of (fun t k => XS.ifYes X.here hx rfl rfl (hb hby hd) rfl (XT.i0_lt_t q) ho hp k) (K1 (Int32.lt_iff_toInt_lt.mp q))
  · exact Gl.of (fun t k => XS.ifNo X.here hx rfl (hb hby hd) rfl (XT.i0_lt_f q) k) (K2 (Int.not_lt.mp fun q' => q (Int32.lt_iff_toInt_lt.mpr q')))
theorem gIcmp_lt (X : Sd Z D p l e R s m args below meth c n0 T h cells slots) (w : Cx Z own nm bytes maxL ret p s m meth c) {x y : Int32} {o : Int} (hd : decode bytes pc = .ok (.if_icmp .lt o, 3)) (ho : 0 ≤ (pc : Int) + o) {n' : Nat} (hp : ((pc : Int) + o).toNat = n) (hn : pc + 3 = n') (K1 : x.toInt < y.toInt → Gl Z p e below s n0 P C S (T.setTop (mkF m n ls st))) (K2 : y.toInt ≤ x.toInt → Gl Z p e below s n0 P C S (T.setTop (mkF m n' ls st))) : Gl Z p e below s n0 P C S (T.setTop (mkF m pc ls (.int y :: .int x :: st))) := by
  obtain ⟨_, vm0, k0, X, -, -, -, hS, -⟩ := X; obtain ⟨hx, hby, -⟩ := w; subst hn
  by_cases q : x < y
  · exact Gl.of (fun t k => XS.icmpYes X.here hx rfl rfl (hb hby hd) rfl (XT.ii_lt_t q) ho hp k) (K1 (Int32.lt_iff_toInt_lt.mp q))
  · exact Gl.of (fun t k => XS.icmpNo X.here hx rfl (hb hby hd) rfl (XT.ii_lt_f q) k) (K2 (Int.not_lt.mp fun q' => q (Int32.lt_iff_toInt_lt.mpr q')))
theorem gIfL_lt (X : Sd Z D p l e R s m args below meth c n0 T h cells slots) (w : Cx Z own nm bytes maxL ret p s m meth c) {x y : Int64} {o : Int} (hd : decode bytes pc = .ok (.ifCond .lt o, 3)) (ho : 0 ≤ (pc : Int) + o) {n' : Nat} (hp : ((pc : Int) + o).toNat = n) (hn : pc + 3 = n') (K1 : x.toInt < y.toInt → Gl Z p e below s n0 P C S (T.setTop (mkF m n ls st))) (K2 : y.toInt ≤ x.toInt → Gl Z p e below s n0 P C S (T.setTop (mkF m n' ls st))) : Gl Z p e below s n0 P C S (T.setTop (mkF m pc ls (.int (XT.cmpL x y) :: st))) := by
  obtain ⟨_, vm0, k0, X, -, -, -, hS, -⟩ := X; obtain ⟨hx, hby, -⟩ := w; subst hn
  by_cases q : x < y
  · exact Gl.of (fun t k => XS.ifYes X.here hx rfl rfl (hb hby hd) rfl (XT.ll_lt_t q) ho hp k) (K1 (Int64.lt_iff_toInt_lt.mp q))
  · exact Gl.of (fun t k => XS.ifNo X.here hx rfl (hb hby hd) rfl (XT.ll_lt_f q) k) (K2 (Int.not_lt.mp fun q' => q (Int64.lt_iff_toInt_lt.mpr q')))
theorem gIf_ge (X : Sd Z D p l e R s m args below meth c n0 T h cells slots) (w : Cx Z own nm bytes maxL ret p s m meth c) {x : Int32} {o : Int} (hd : decode bytes pc = .ok (.ifCond .ge o, 3)) (ho : 0 ≤ (pc : Int) + o) {n' : Nat} (hp : ((pc : Int) + o).toNat = n) (hn : pc + 3 = n') (K1 : 0 ≤ x.toInt → Gl Z p e below s n0 P C S (T.setTop (mkF m n ls st))) (K2 : x.toInt < 0 → Gl Z p e below s n0 P C S (T.setTop (mkF m n' ls st))) : Gl Z p e below s n0 P C S (T.setTop (mkF m pc ls (.int x :: st))) := by
  obtain ⟨_, vm0, k0, X, -, -, -, hS, -⟩ := X; obtain ⟨hx, hby, -⟩ := w; subst hn
  by_cases q : x < (0 : Int32)
  · exact Gl.of (fun t k => XS.ifNo X.here hx rfl (hb hby hd) rfl (XT.i0_ge_f q) k) (K2 (Int32.lt_iff_toInt_lt.mp q))
  · exact Gl.of (fun t k => XS.ifYes X.here hx rfl rfl (hb hby hd) rfl (XT.i0_ge_t q) ho hp k) (K1 (Int.not_lt.mp fun q' => q (Int32.lt_iff_toInt_lt.mpr q')))
theorem gIcmp_ge (X : Sd Z D p l e R s m args below meth c n0 T h cells slots) (w : Cx Z own nm bytes maxL ret p s m meth c) {x y : Int32} {o : Int} (hd : decode bytes pc = .ok (.if_icmp .ge o, 3)) (ho : 0 ≤ (pc : Int) + o) {n' : Nat} (hp : ((pc : Int) + o).toNat = n) (hn : pc + 3 = n') (K1 : y.toInt ≤ x.toInt → Gl Z p e below s n0 P C S (T.setTop (mkF m n ls st))) (K2 : x.toInt < y.toInt → Gl Z p e below s n0 P C S (T.setTop (mkF m n' ls st))) : Gl Z p e below s n0 P C S (T.setTop (mkF m pc ls (.int y :: .int x :: st))) := by
  obtain ⟨_, vm0, k0, X, -, -, -, hS, -⟩ := X; obtain ⟨hx, hby, -⟩ := w; subst hn
  by_cases q : x < y
  · exact Gl.of (fun t k => XS.icmpNo X.here hx rfl (hb hby hd) rfl (XT.ii_ge_f q) k) (K2 (Int32.lt_iff_toInt_lt.mp q))
  · exact Gl.of (fun t k => XS.icmpYes X.here hx rfl rfl (hb hby hd) rfl (XT.ii_ge_t q) ho hp k) (K1 (Int.not_lt.mp fun q' => q (Int32.lt_iff_toInt_lt.mpr q')))
theorem gIfL_ge (X : Sd Z D p l e R s m args below meth c n0 T h cells slots) (w : Cx Z own nm bytes maxL ret p s m meth c) {x y : Int64} {o : Int} (hd : decode bytes pc = .ok (.ifCond .ge o, 3)) (ho : 0 ≤ (pc : Int) + o) {n' : Nat} (hp : ((pc : Int) + o).toNat = n) (hn : pc + 3 = n') (K1 : y.toInt ≤ x.toInt → Gl Z p e below s n0 P C S (T.setTop (mkF m n ls st))) (K2 : x.toInt < y.toInt → Gl Z p e below s n0 P C S (T.setTop (mkF m n' ls st))) : Gl Z p e below s n0 P C S (T.setTop (mkF m pc ls (.int (XT.cmpL x y) :: st))) := by
  obtain ⟨_, vm0, k0, X, -, -, -, hS, -⟩ := X; obtain ⟨hx, hby, -⟩ := w; subst hn
  by_cases q : x < y
  · exact Gl.of (fun t k => XS.ifNo X.here hx rfl (hb hby hd) rfl (XT.ll_ge_f q) k) (K2 (Int64.lt_iff_toInt_lt.mp q))
  · exact Gl.of (fun t k => XS.ifYes X.here hx rfl rfl (hb hby hd) rfl (XT.ll_ge_t q) ho hp k) (K1 (Int.not_lt.mp fun q' => q (Int64.lt_iff_toInt_lt.mpr q')))
theorem gIf_gt (X : Sd Z D p l e R s m args below meth c n0 T h cells slots) (w : Cx Z own nm bytes maxL ret p s m meth c) {x : Int32} {o : Int} (hd : decode bytes pc = .ok (.ifCond .gt o, 3)) (ho : 0 ≤ (pc : Int) + o) {n' : Nat} (hp : ((pc : Int) + o).toNat = n) (hn : pc + 3 = n') (K1 : 0 < x.toInt → Gl Z p e below s n0 P C S (T.setTop (mkF m n ls st))) (K2 : x.toInt ≤ 0 → Gl Z p e below s n0 P C S (T.setTop (mkF m n' ls st))) : Gl Z p e below s n0 P C S (T.setTop (mkF m pc ls (.int x :: st))) := by
  obtain ⟨_, vm0, k0, X, -, -, -, hS, -⟩ := X; obtain ⟨hx, hby, -⟩ := w; subst hn
  by_cases q : (0 : Int32) < x
  · exact Gl.of (fun t k => XS.ifYes X.here hx rfl rfl (hb hby hd) rfl (XT.i0_gt_t q) ho hp k) (K1 (Int32.lt_iff_toInt_lt.mp q))
  · exact Gl.of (fun t k => XS.ifNo X.here hx rfl (hb hby hd) rfl (XT.i0_gt_f q) k) (K2 (Int.not_lt.mp fun q' => q (Int32.lt_iff_toInt_lt.mpr q')))
theorem gIcmp_gt (X : Sd Z D p l e R s m args below meth c n0 T h cells slots) (w : Cx Z own nm bytes maxL ret p s m meth c) {x y : Int32} {o : Int} (hd : decode bytes pc = .ok (.if_icmp .gt o, 3)) (ho : 0 ≤ (pc : Int) + o) {n' : Nat} (hp : ((pc : Int) + o).toNat = n) (hn : pc + 3 = n') (K1 : y.toInt < x.toInt → Gl Z p e below s n0 P C S (T.setTop (mkF m n ls st))) (K2 : x.toInt ≤ y.toInt → Gl Z p e below s n0 P C S (T.setTop (mkF m n' ls st))) : Gl Z p e below s n0 P C S (T.setTop (mkF m pc ls (.int y :: .int x :: st))) := by
  obtain ⟨_, vm0, k0, X, -, -, -, hS, -⟩ := X; obtain ⟨hx, hby, -⟩ := w; subst hn
  by_cases q : y < x
  · exact Gl.of (fun t k => XS.icmpYes X.here hx rfl rfl (hb hby hd) rfl (XT.ii_gt_t q) ho hp k) (K1 (Int32.lt_iff_toInt_lt.mp q))
  · exact Gl.of (fun t k => XS.icmpNo X.here hx rfl (hb hby hd) rfl (XT.ii_gt_f q) k) (K2 (Int.not_lt.mp fun q' => q (Int32.lt_iff_toInt_lt.mpr q')))
theorem gIfL_gt (X : Sd Z D p l e R s m args below meth c n0 T h cells slots) (w : Cx Z own nm bytes maxL ret p s m meth c) {x y : Int64} {o : Int} (hd : decode bytes pc = .ok (.ifCond .gt o, 3)) (ho : 0 ≤ (pc : Int) + o) {n' : Nat} (hp : ((pc : Int) + o).toNat = n) (hn : pc + 3 = n') (K1 : y.toInt < x.toInt → Gl Z p e below s n0 P C S (T.setTop (mkF m n ls st))) (K2 : x.toInt ≤ y.toInt → Gl Z p e below s n0 P C S (T.setTop (mkF m n' ls st))) : Gl Z p e below s n0 P C S (T.setTop (mkF m pc ls (.int (XT.cmpL x y) :: st))) := by
  obtain ⟨_, vm0, k0, X, -, -, -, hS, -⟩ := X; obtain ⟨hx, hby, -⟩ := w; subst hn
  by_cases q : y < x
  · exact Gl.of (fun t k => XS.ifYes X.here hx rfl rfl (hb hby hd) rfl (XT.ll_gt_t q) ho hp k) (K1 (Int64.lt_iff_toInt_lt.mp q))
  · exact Gl.of (fun t k => XS.ifNo X.here hx rfl (hb hby hd) rfl (XT.ll_gt_f q) k) (K2 (Int.not_lt.mp fun q' => q (Int64.lt_iff_toInt_lt.mpr q')))
theorem gIf_le (X : Sd Z D p l e R s m args below meth c n0 T h cells slots) (w : Cx Z own nm bytes maxL ret p s m meth c) {x : Int32} {o : Int} (hd : decode bytes pc = .ok (.ifCond .le o, 3)) (ho : 0 ≤ (pc : Int) + o) {n' : Nat} (hp : ((pc : Int) + o).toNat = n) (hn : pc + 3 = n') (K1 : x.toInt ≤ 0 → Gl Z p e below s n0 P C S (T.setTop (mkF m n ls st))) (K2 : 0 < x.toInt → Gl Z p e below s n0 P C S (T.setTop (mkF m n' ls st))) : Gl Z p e below s n0 P C S (T.setTop (mkF m pc ls (.int x :: st))) := by
  obtain ⟨_, vm0, k0, X, -, -, -, hS, -⟩ := X; obtain ⟨hx, hby, -⟩ := w; subst hn
  by_cases q : (0 : Int32) < x
  · exact Gl.of (fun t k => XS.ifNo X.here hx rfl (hb hby hd) rfl (XT.i0_le_f q) k) (K2 (Int32.lt_iff_toInt_lt.mp q))
  · exact Gl.of (fun t k => XS.ifYes X.here hx rfl rfl (hb hby hd) rfl (XT.i0_le_t q) ho hp k) (K1 (Int.not_lt.mp fun q' => q (Int32.lt_iff_toInt_lt.mpr q')))
theorem gIcmp_le (X : Sd Z D p l e R s m args below meth c n0 T h cells slots) (w : Cx Z own nm bytes maxL ret p s m meth c) {x y : Int32} {o : Int} (hd : decode bytes pc = .ok (.if_icmp .le o, 3)) (ho : 0 ≤ (pc : Int) + o) {n' : Nat} (hp : ((pc : Int) + o).toNat = n) (hn : pc + 3 = n') (K1 : x.toInt ≤ y.toInt → Gl Z p e below s n0 P C S (T.setTop (mkF m n ls st))) (K2 : y.toInt < x.toInt → Gl Z p e below s n0 P C S (T.setTop (mkF m n' ls st))) : Gl Z p e below s n0 P C S (T.setTop (mkF m pc ls (.int y :: .int x :: st))) := by
  obtain ⟨_, vm0, k0, X, -, -, -, hS, -⟩ := X; obtain ⟨hx, hby, -⟩ := w; subst hn
  by_cases q : y < x
  · exact Gl.of (fun t k => XS.icmpNo X.here hx rfl (hb hby hd) rfl (XT.ii_le_f q) k) (K2 (Int32.lt_iff_toInt_lt.mp q))
  · exact Gl.of (fun t k => XS.icmpYes X.here hx rfl rfl (hb hby hd) rfl (XT.ii_le_t q) ho hp k) (K1 (Int.not_lt.mp fun q' => q (Int32.lt_iff_toInt_lt.mpr q')))
theorem gIfL_le (X : Sd Z D p l e R s m args below meth c n0 T h cells slots) (w : Cx Z own nm bytes maxL ret p s m meth c) {x y : Int64} {o : Int} (hd : decode bytes pc = .ok (.ifCond .le o, 3)) (ho : 0 ≤ (pc : Int) + o) {n' : Nat} (hp : ((pc : Int) + o).toNat = n) (hn : pc + 3 = n') (K1 : x.toInt ≤ y.toInt → Gl Z p e below s n0 P C S (T.setTop (mkF m n ls st))) (K2 : y.toInt < x.toInt → Gl Z p e below s n0 P C S (T.setTop (mkF m n' ls st))) : Gl Z p e below s n0 P C S (T.setTop (mkF m pc ls (.int (XT.cmpL x y) :: st))) := by
  obtain ⟨_, vm0, k0, X, -, -, -, hS, -⟩ := X; obtain ⟨hx, hby, -⟩ := w; subst hn
  by_cases q : y < x
  · exact Gl.of (fun t k => XS.ifNo X.here hx rfl (hb hby hd) rfl (XT.ll_le_f q) k) (K2 (Int64.lt_iff_toInt_lt.mp q))
  · exact Gl.of (fun t k => XS.ifYes X.here hx rfl rfl (hb hby hd) rfl (XT.ll_le_t q) ho hp k) (K1 (Int.not_lt.mp fun q' => q (Int64.lt_iff_toInt_lt.mpr q')))
theorem gAcmp_eq (X : Sd Z D p l e R s m args below meth c n0 T h cells slots) (w : Cx Z own nm bytes maxL ret p s m meth c) {x y : Value} {o : Int} (hd : decode bytes pc = .ok (.if_acmp .eq o, 3)) (hx' : x.isRef = true) (hy' : y.isRef = true) (ho : 0 ≤ (pc : Int) + o) {n' : Nat} (hp : ((pc : Int) + o).toNat = n) (hn : pc + 3 = n') (K1 : x = y → Gl Z p e below s n0 P C S (T.setTop (mkF m n ls st))) (K2 : ¬ x = y → Gl Z p e below s n0 P C S (T.setTop (mkF m n' ls st))) : Gl Z p e below s n0 P C S (T.setTop (mkF m pc ls (y :: x :: st))) := by
  obtain ⟨_, vm0, k0, X, -, -, -, hS, -⟩ := X; obtain ⟨hx, hby, -⟩ := w; subst hn
  by_cases q : x = y
  · exact Gl.of (fun t k => XT.acmpYes X.here hx rfl rfl (hb hby hd) rfl hx' hy' (XT.aa_eq_t q) ho hp k) (K1 q)
  · exact Gl.of (fun t k => XT.acmpNo X.here hx rfl (hb hby hd) rfl hx' hy' (XT.aa_eq_f q) k) (K2 q)
theorem gAcmp_ne (X : Sd Z D p l e R s m args below meth c n0 T h cells slots) (w : Cx Z own nm bytes maxL ret p s m meth c) {x y : Value} {o : Int} (hd : decode bytes pc = .ok (.if_acmp .ne o, 3)) (hx' : x.isRef = true) (hy' : y.isRef = true) (ho : 0 ≤ (pc : Int) + o) {n' : Nat} (hp : ((pc : Int) + o).toNat = n) (hn : pc + 3 = n') (K1 : ¬ x = y → Gl Z p e below s n0 P C S (T.setTop (mkF m n ls st))) (K2 : x = y → Gl Z p e below s n0 P C S (T.setTop (mkF m n' ls st))) : Gl Z p e below s n0 P C S (T.setTop (mkF m pc ls (y :: x :: st))) := by
  obtain ⟨_, vm0, k0, X, -, -, -, hS, -⟩ := X; obtain ⟨hx, hby, -⟩ := w; subst hn
  by_cases q : x = y
  · exact Gl.of (fun t k => XT.acmpNo X.here hx rfl (hb hby hd) rfl hx' hy' (XT.aa_ne_f q) k) (K2 q)
  · exact Gl.of (fun t k => XT.acmpYes X.here hx rfl rfl (hb hby hd) rfl hx' hy' (XT.aa_ne_t q) ho hp k) (K1 q)
theorem gIfnullY (X : Sd Z D p l e R s m args below meth c n0 T h cells slots) (w : Cx Z own nm bytes maxL ret p s m meth c) {o : Int} (hd : decode bytes pc = .ok (.ifnull o, 3)) (ho : 0 ≤ (pc : Int) + o) (hp : ((pc : Int) + o).toNat = n) (K : Gl Z p e below s n0 P C S (T.setTop (mkF m n ls st))) : Gl Z p e below s n0 P C S (T.setTop (mkF m pc ls (.null :: st))) := by
  obtain ⟨_, vm0, k0, X, -, -, -, hS, -⟩ := X; obtain ⟨hx, hby, hZ, hown, -⟩ := w; have hZ := State.Warmed39.trans hZ hS.1; have hown := (hS.1.alike.findClass _ _).trans hown; 
  exact Gl.of (fun t k => XS.ifnullYes X.here hx rfl rfl (hb hby hd) rfl ho hp k) K
theorem gIfnullN (X : Sd Z D p l e R s m args below meth c n0 T h cells slots) (w : Cx Z own nm bytes maxL ret p s m meth c) {o : Int} {b : Addr} (hd : decode bytes pc = .ok (.ifnull o, 3)) (hn : pc + 3 = n) (K : Gl Z p e below s n0 P C S (T.setTop (mkF m n ls st))) : Gl Z p e below s n0 P C S (T.setTop (mkF m pc ls (.ref b :: st))) := by
  obtain ⟨_, vm0, k0, X, -, -, -, hS, -⟩ := X; obtain ⟨hx, hby, hZ, hown, -⟩ := w; have hZ := State.Warmed39.trans hZ hS.1; have hown := (hS.1.alike.findClass _ _).trans hown; subst hn
  exact Gl.of (fun t k => XS.ifnullNo X.here hx rfl (hb hby hd) rfl k) K
theorem gIfnonnullY (X : Sd Z D p l e R s m args below meth c n0 T h cells slots) (w : Cx Z own nm bytes maxL ret p s m meth c) {o : Int} {b : Addr} (hd : decode bytes pc = .ok (.ifnonnull o, 3)) (ho : 0 ≤ (pc : Int) + o) (hp : ((pc : Int) + o).toNat = n) (K : Gl Z p e below s n0 P C S (T.setTop (mkF m n ls st))) : Gl Z p e below s n0 P C S (T.setTop (mkF m pc ls (.ref b :: st))) := by
  obtain ⟨_, vm0, k0, X, -, -, -, hS, -⟩ := X; obtain ⟨hx, hby, hZ, hown, -⟩ := w; have hZ := State.Warmed39.trans hZ hS.1; have hown := (hS.1.alike.findClass _ _).trans hown; 
  exact Gl.of (fun t k => XT.ifnonnullYes X.here hx rfl rfl (hb hby hd) rfl ho hp k) K
theorem gIfnonnullN (X : Sd Z D p l e R s m args below meth c n0 T h cells slots) (w : Cx Z own nm bytes maxL ret p s m meth c) {o : Int} (hd : decode bytes pc = .ok (.ifnonnull o, 3)) (hn : pc + 3 = n) (K : Gl Z p e below s n0 P C S (T.setTop (mkF m n ls st))) : Gl Z p e below s n0 P C S (T.setTop (mkF m pc ls (.null :: st))) := by
  obtain ⟨_, vm0, k0, X, -, -, -, hS, -⟩ := X; obtain ⟨hx, hby, hZ, hown, -⟩ := w; have hZ := State.Warmed39.trans hZ hS.1; have hown := (hS.1.alike.findClass _ _).trans hown; subst hn
  exact Gl.of (fun t k => XT.ifnonnullNo X.here hx rfl (hb hby hd) rfl k) K
theorem gRet (X : Sd Z D p l e R s m args below meth c n0 T h cells slots) (w : Cx Z own nm bytes maxL ret p s m meth c) {v : Value} {t : FieldType} {i : Instr} (hret : ret = some t) (hn : narrow t v = v) (hi : (i = .ireturn ∧ (t = .int ∨ t = .boolean ∨ t = .byte ∨ t = .char ∨ t = .short) ∧ ∃ z, v = .int z) ∨ (i = .lreturn ∧ t = .long ∧ ∃ z, v = .long z) ∨ (i = .dreturn ∧ t = .double ∧ ∃ z, v = .double z) ∨ (i = .freturn ∧ t = .float ∧ ∃ z, v = .float z) ∨ (i = .areturn ∧ t.isReference = true ∧ v.isRef = true))
    (hd : decode bytes pc = .ok (i, 1)) (hc : cells ≤ C) (hs : slots ≤ S) (hP : P (some v) h D) : Gl Z p e below s n0 P C S (T.setTop (mkF m pc ls (v :: st))) := by
  obtain ⟨locs, vm0, k0, X, N, eh, -, hS, hk0, hH⟩ := X; obtain ⟨hx, hby, hZ, hown, -, -, hr', hlk⟩ := w
  obtain ⟨fs, hr, hrun, hended, hW, hsame⟩ := X.leave (v := some v) (fun q => by rw [hr', hret] at q; cases q) hlk
  refine ⟨_, _, retOut X hx (hr'.trans hret) hn hi (hb hby hd) hr, hrun, hended, _, _, D, rfl, ⟨?_, N, ?_⟩, ⟨_, rfl⟩, (hS.ended hW (by show k0 ≤ T.heap.size; rw [eh]; exact hk0) (hsame.mono hc hs)).1, (hS.ended hW (by show k0 ≤ T.heap.size; rw [eh]; exact hk0) (hsame.mono hc hs)).2.1, (hS.ended hW (by show k0 ≤ T.heap.size; rw [eh]; exact hk0) (hsame.mono hc hs)).2.2⟩
  · show P (some v) T.heap D
    rw [eh]; exact hP
  · show Hd Z n0 D T.vm T.heap
    rw [eh]; exact hH.at X (State.Warmed39.trans hZ hS.1)
theorem gRetI (X : Sd Z D p l e R s m args below meth c n0 T h cells slots) (w : Cx Z own nm bytes maxL ret p s m meth c) {z : Int32} (hret : ret = some .int) (hd : decode bytes pc = .ok (.ireturn, 1)) (hc : cells ≤ C) (hs : slots ≤ S) (hP : P (some (.int z)) h D) : Gl Z p e below s n0 P C S (T.setTop (mkF m pc ls (.int z :: st))) := gRet X w hret rfl (Or.inl ⟨rfl, Or.inl rfl, z, rfl⟩) hd hc hs hP
theorem gRetZ (X : Sd Z D p l e R s m args below meth c n0 T h cells slots) (w : Cx Z own nm bytes maxL ret p s m meth c) {z : Int32} (hret : ret = some .boolean) (hz : z = 0 ∨ z = 1) (hd : decode bytes pc = .ok (.ireturn, 1)) (hc : cells ≤ C) (hs : slots ≤ S) (hP : P (some (.int z)) h D) : Gl Z p e below s n0 P C S (T.setTop (mkF m pc ls (.int z :: st))) := gRet X w hret (by rcases hz with rfl | rfl <;> rfl) (Or.inl ⟨rfl, Or.inr (Or.inl rfl), z, rfl⟩) hd hc hs hP
theorem gRetJ (X : Sd Z D p l e R s m args below meth c n0 T h cells slots) (w : Cx Z own nm bytes maxL ret p s m meth c) {z : Int64} (hret : ret = some .long) (hd : decode bytes pc = .ok (.lreturn, 1)) (hc : cells ≤ C) (hs : slots ≤ S) (hP : P (some (.long z)) h D) : Gl Z p e below s n0 P C S (T.setTop (mkF m pc ls (.long z :: st))) := gRet X w hret rfl (Or.inr (Or.inl ⟨rfl, rfl, z, rfl⟩)) hd hc hs hP
theorem gRetD (X : Sd Z D p l e R s m args below meth c n0 T h cells slots) (w : Cx Z own nm bytes maxL ret p s m meth c) {z : UInt64} (hret : ret = some .double) (hd : decode bytes pc = .ok (.dreturn, 1)) (hc : cells ≤ C) (hs : slots ≤ S) (hP : P (some (.double z)) h D) : Gl Z p e below s n0 P C S (T.setTop (mkF m pc ls (.double z :: st))) := gRet X w hret rfl (Or.inr (Or.inr (Or.inl ⟨rfl, rfl, z, rfl⟩))) hd hc hs hP
theorem gRetA (X : Sd Z D p l e R s m args below meth c n0 T h cells slots) (w : Cx Z own nm bytes maxL ret p s m meth c) {v : Value} {t : FieldType} (hret : ret = some t) (ht : t.isReference = true) (hv : v.isRef = true) (hd : decode bytes pc = .ok (.areturn, 1)) (hc : cells ≤ C) (hs : slots ≤ S) (hP : P (some v) h D) : Gl Z p e below s n0 P C S (T.setTop (mkF m pc ls (v :: st))) := gRet X w hret (by rcases ref_cases hv with rfl | ⟨a, rfl⟩ <;> cases t <;> first | rfl | cases ht) (Or.inr (Or.inr (Or.inr (Or.inr ⟨rfl, ht, hv⟩)))) hd hc hs hP
theorem gRetV (X : Sd Z D p l e R s m args below meth c n0 T h cells slots) (w : Cx Z own nm bytes maxL ret p s m meth c) (hret : ret = none) (hd : decode bytes pc = .ok (.return_, 1)) (hc : cells ≤ C) (hs : slots ≤ S) (hP : P none h D) : Gl Z p e below s n0 P C S (T.setTop (mkF m pc ls [])) := by
  obtain ⟨locs, vm0, k0, X, N, eh, -, hS, hk0, hH⟩ := X; obtain ⟨hx, hby, hZ, hown, -, -, hr', hlk⟩ := w
  obtain ⟨fs, hr, hrun, hended, hW, hsame⟩ := X.leave (v := none) (fun q => rfl) hlk
  refine ⟨_, _, X.returnOut hx (hr'.trans hret) (hb hby hd) hr, hrun, hended, _, _, D, rfl, ⟨?_, N, ?_⟩, ⟨_, rfl⟩, (hS.ended hW (by show k0 ≤ T.heap.size; rw [eh]; exact hk0) (hsame.mono hc hs)).1, (hS.ended hW (by show k0 ≤ T.heap.size; rw [eh]; exact hk0) (hsame.mono hc hs)).2.1, (hS.ended hW (by show k0 ≤ T.heap.size; rw [eh]; exact hk0) (hsame.mono hc hs)).2.2⟩
  · show P none T.heap D
    rw [eh]; exact hP
  · show Hd Z n0 D T.vm T.heap
    rw [eh]; exact hH.at X (State.Warmed39.trans hZ hS.1)
theorem gCallS (X : Sd Z D p l e R s m args below meth c n0 T h cells slots) (w : Cx Z own nm bytes maxL ret p s m meth c) {y : MethodName} {yb : ByteArray} {yl : Nat} {yr : Option FieldType} {rm : Room} {Q : Option Value → Heap → (Addr → Prop) → Prop} {idx W : Nat} (aL rest : List Value) {ps : List FieldType} {r : Option FieldType}
    (hM : Con l Z y yb yl yr [] rm rm.cells rm.slots aL.toArray h n0 D Q) (w1 : (Jvm.Cond.methodLink own idx y).before a0 Z = true) (w2 : (Jvm.Cond.static y).before a0 Z = true) (w3 : (Jvm.Cond.initialized y.cls).before a0 Z = true) (w4 : (Jvm.Cond.code y yb yl yr).before a0 Z = true) (hy : y.cls ≠ "java/lang/invoke/MethodHandle" ∧ y.cls ≠ "java/lang/invoke/VarHandle")
    (hpd : parseMethodDescriptor y.desc = some ⟨ps, r⟩) (hlen : aL.length = ps.length) (hstk : st = aL.reverse ++ rest) (hd : decode bytes pc = .ok (.invokestatic idx, 3)) (hsz : ls.size = maxL) (hW : (rest.map fun v => v.category).sum ≤ W)
    (hf : rm.frames + 1 ≤ R.frames) (hl : W + (yl + 11) + rm.locals ≤ R.locals) (hcc : cells + rm.cells ≤ R.cells) (hss : slots + rm.slots ≤ R.slots) (hn : pc + 3 = n)
    (K : ∀ T' h' v (D' : Addr → Prop), Q v h' D' → Sd Z D' p l e R s m args below meth c n0 T' h' (cells + rm.cells) (slots + rm.slots) → Gl Z p e below s n0 P C S (T'.setTop (mkF m n ls (v.toList ++ rest)))) : Gl Z p e below s n0 P C S (T.setTop (mkF m pc ls st)) := by
  obtain ⟨locs, vm0, k0, X, N, eh, hn0, hS, hk0, hH⟩ := X; obtain ⟨hx, hby, hZ, hown, -, hml, -⟩ := w; have hZ := State.Warmed39.trans hZ hS.1; have hown := (hS.1.alike.findClass _ _).trans hown; subst hn
  obtain ⟨v, vm, ⟨T', L, k, sl⟩, -, X', hS2, hgr, ⟨Lc, D', ⟨hQ, NL, hH'⟩, l1, y1, z1⟩, st'⟩ := callSS X hx (y := y) hown (mvT hZ w1) (mvT hZ w2) (mvT hZ w3) (mvT hZ w4) hy (backOfSD (W := W) hM hZ w4 w3 hf hl hH) (g := mkF m pc ls st) rfl (by rw [hml]; exact hsz) (argsL := aL) (rest := rest) (lenOf hpd hlen) hstk (by show 2 * 0 + _ ≤ _; rw [Nat.mul_zero, Nat.zero_add]; exact hW) (hb hby hd) (fun _ _ => ⟨rfl, eh, hcc, hss⟩)
  dsimp only [Pt.U, Pt.locs, Pt.cells, Pt.slots] at X' l1 y1 z1 st' hQ hS2 hgr hH'
  subst l1 y1 z1
  exact Gl.of (fun t k => st'.trans k) (K T' T'.heap v D' hQ ⟨_, T'.vm, T'.heap.size, X', Fr.app N NL, rfl, hn0, hS.trans hS2 (Nat.le_trans hk0 (by rw [← eh]; exact hgr)), Nat.le_refl _, hH'⟩)
theorem gCallV (X : Sd Z D p l e R s m args below meth c n0 T h cells slots) (w : Cx Z own nm bytes maxL ret p s m meth c) {y z : MethodName} {yb : ByteArray} {yl : Nat} {yr : Option FieldType} {rm : Room} {Q : Option Value → Heap → (Addr → Prop) → Prop} {idx W : Nat} {b : Addr} {C0 : String} (aL rest : List Value) {ps : List FieldType} {r : Option FieldType} (E : Exa Z h b C0)
    (hM : Con l Z z yb yl yr [] rm rm.cells rm.slots (.ref b :: aL).toArray h n0 D Q) (w1 : (Jvm.Cond.methodLink own idx y).before a0 Z = true) (w2 : (Jvm.Cond.declares y).before a0 Z = true) (hnf : ∀ vm0, s.Since vm0 h.size → NotFace (s.setVm vm0) y) (w5 : (Jvm.Cond.selects C0 y z).before a0 Z = true) (w6 : (Jvm.Cond.instanceMethod z).before a0 Z = true) (w3 : (Jvm.Cond.initialized z.cls).before a0 Z = true) (w4 : (Jvm.Cond.code z yb yl yr).before a0 Z = true) (hy : y.cls ≠ "java/lang/invoke/MethodHandle" ∧ y.cls ≠ "java/lang/invoke/VarHandle")
    (hpd : parseMethodDescriptor y.desc = some ⟨ps, r⟩) (hlen : aL.length = ps.length) (hstk : st = aL.reverse ++ .ref b :: rest) (hd : decode bytes pc = .ok (.invokevirtual idx, 3)) (hsz : ls.size = maxL) (hW : (rest.map fun v => v.category).sum ≤ W)
    (hf : rm.frames + 1 ≤ R.frames) (hl : W + (yl + 11) + rm.locals ≤ R.locals) (hcc : cells + rm.cells ≤ R.cells) (hss : slots + rm.slots ≤ R.slots) (hn : pc + 3 = n)
    (K : ∀ T' h' v (D' : Addr → Prop), Q v h' D' → Sd Z D' p l e R s m args below meth c n0 T' h' (cells + rm.cells) (slots + rm.slots) → Gl Z p e below s n0 P C S (T'.setTop (mkF m n ls (v.toList ++ rest)))) : Gl Z p e below s n0 P C S (T.setTop (mkF m pc ls st)) := by
  obtain ⟨locs, vm0, k0, X, N, eh, hn0, hS, hk0, hH⟩ := X; obtain ⟨hx, hby, hZ, hown, -, hml, -⟩ := w; have hZ := State.Warmed39.trans hZ hS.1; have hown := (hS.1.alike.findClass _ _).trans hown; subst hn
  obtain ⟨cq, kq, qa, qb, qc⟩ := isOf (s := s.setVm vm0) hZ eh E
  obtain ⟨v, vm, ⟨T', L, k, sl⟩, -, X', hS2, hgr, ⟨Lc, D', ⟨hQ, NL, hH'⟩, l1, y1, z1⟩, st'⟩ := X.virtualBackS hx (y := y) (z := z) hown (mvT hZ w1) (mvT hZ w2) (hnf vm0 ⟨hS.1, hS.2.mono hk0⟩) (mvT hZ w5) (mvT hZ w6) hy (backOfSD (W := W) hM hZ w4 w3 hf hl hH) qa qc (g := mkF m pc ls st) rfl (by rw [hml]; exact hsz) (Steps.refl _) (argsL := aL) (rest := rest) (lenOf hpd hlen) hstk (by show 2 * 0 + _ ≤ _; rw [Nat.mul_zero, Nat.zero_add]; exact hW) (hb hby hd) (fun _ _ => ⟨rfl, eh, hcc, hss⟩)
  dsimp only [Pt.U, Pt.locs, Pt.cells, Pt.slots] at X' l1 y1 z1 st' hQ hS2 hgr hH'
  subst l1 y1 z1
  exact Gl.of (fun t k => st'.trans k) (K T' T'.heap v D' hQ ⟨_, T'.vm, T'.heap.size, X', Fr.app N NL, rfl, hn0, hS.trans hS2 (Nat.le_trans hk0 (by rw [← eh]; exact hgr)), Nat.le_refl _, hH'⟩)
theorem gCallI (X : Sd Z D p l e R s m args below meth c n0 T h cells slots) (w : Cx Z own nm bytes maxL ret p s m meth c) {y : MethodName} {yb : ByteArray} {yl : Nat} {rm : Room} {Q : Option Value → Heap → (Addr → Prop) → Prop} {idx W : Nat} {b : Addr} (aL rest : List Value) {ps : List FieldType} {r : Option FieldType} (hy1 : y.name = "<init>")
    (hM : Con l Z y yb yl none [] rm rm.cells rm.slots (.ref b :: aL).toArray h n0 D Q) (w1 : (Jvm.Cond.methodLink own idx y).before a0 Z = true) (w2 : (Jvm.Cond.instanceMethod y).before a0 Z = true) (w3 : (Jvm.Cond.initialized y.cls).before a0 Z = true) (w4 : (Jvm.Cond.code y yb yl none).before a0 Z = true) (hy : y.cls ≠ "java/lang/invoke/MethodHandle" ∧ y.cls ≠ "java/lang/invoke/VarHandle")
    (hpd : parseMethodDescriptor y.desc = some ⟨ps, r⟩) (hlen : aL.length = ps.length) (hstk : st = aL.reverse ++ .ref b :: rest) (hd : decode bytes pc = .ok (.invokespecial idx, 3)) (hsz : ls.size = maxL) (hW : (rest.map fun v => v.category).sum ≤ W)
    (hf : rm.frames + 1 ≤ R.frames) (hl : W + (yl + 11) + rm.locals ≤ R.locals) (hcc : cells + rm.cells ≤ R.cells) (hss : slots + rm.slots ≤ R.slots) (hn : pc + 3 = n)
    (K : ∀ T' h' v (D' : Addr → Prop), Q v h' D' → Sd Z D' p l e R s m args below meth c n0 T' h' (cells + rm.cells) (slots + rm.slots) → Gl Z p e below s n0 P C S (T'.setTop (mkF m n ls (v.toList ++ rest)))) : Gl Z p e below s n0 P C S (T.setTop (mkF m pc ls st)) := by
  obtain ⟨locs, vm0, k0, X, N, eh, hn0, hS, hk0, hH⟩ := X; obtain ⟨hx, hby, hZ, hown, -, hml, -⟩ := w; have hZ := State.Warmed39.trans hZ hS.1; have hown := (hS.1.alike.findClass _ _).trans hown; subst hn
  obtain ⟨v, vm, ⟨T', L, k, sl⟩, -, X', hS2, hgr, ⟨Lc, D', ⟨hQ, NL, hH'⟩, l1, y1, z1⟩, st'⟩ := X.specialBackS hx (y := y) hy1 hown (mvT hZ w1) (mvT hZ w2) (mvT hZ w4) hy (backOfSD (W := W) hM hZ w4 w3 hf hl hH) (g := mkF m pc ls st) rfl (by rw [hml]; exact hsz) (Steps.refl _) (a := b) (argsL := aL) (rest := rest) (lenOf hpd hlen) hstk (by show 2 * 0 + _ ≤ _; rw [Nat.mul_zero, Nat.zero_add]; exact hW) (hb hby hd) (fun _ _ => ⟨rfl, eh, hcc, hss⟩)
  dsimp only [Pt.U, Pt.locs, Pt.cells, Pt.slots] at X' l1 y1 z1 st' hQ hS2 hgr hH'
  subst l1 y1 z1
  exact Gl.of (fun t k => st'.trans k) (K T' T'.heap v D' hQ ⟨_, T'.vm, T'.heap.size, X', Fr.app N NL, rfl, hn0, hS.trans hS2 (Nat.le_trans hk0 (by rw [← eh]; exact hgr)), Nat.le_refl _, hH'⟩)
theorem gCallSv (X : Sd Z D p l e R s m args below meth c n0 T h cells slots) (w : Cx Z own nm bytes maxL ret p s m meth c) {y : MethodName} {yb : ByteArray} {yl : Nat} {yr : Option FieldType} {rm : Room} {Q : Value → Heap → Prop} {idx W : Nat} (aL rest : List Value) {ps : List FieldType} {r : Option FieldType}
    (hM : ConV l Z y yb yl yr rm aL.toArray h n0 D Q) (w1 : (Jvm.Cond.methodLink own idx y).before a0 Z = true) (w2 : (Jvm.Cond.static y).before a0 Z = true) (w3 : (Jvm.Cond.initialized y.cls).before a0 Z = true) (w4 : (Jvm.Cond.code y yb yl yr).before a0 Z = true) (hy : y.cls ≠ "java/lang/invoke/MethodHandle" ∧ y.cls ≠ "java/lang/invoke/VarHandle")
    (hpd : parseMethodDescriptor y.desc = some ⟨ps, r⟩) (hlen : aL.length = ps.length) (hstk : st = aL.reverse ++ rest) (hd : decode bytes pc = .ok (.invokestatic idx, 3)) (hsz : ls.size = maxL) (hW : (rest.map fun v => v.category).sum ≤ W)
    (hf : rm.frames + 1 ≤ R.frames) (hl : W + (yl + 11) + rm.locals ≤ R.locals) (hcc : cells + rm.cells ≤ R.cells) (hss : slots + rm.slots ≤ R.slots) (hn : pc + 3 = n)
    (K : ∀ T' h' v, Q v h' → Sd Z D p l e R s m args below meth c n0 T' h' (cells + rm.cells) (slots + rm.slots) → Gl Z p e below s n0 P C S (T'.setTop (mkF m n ls (v :: rest)))) : Gl Z p e below s n0 P C S (T.setTop (mkF m pc ls st)) :=
  gCallS X w aL rest hM w1 w2 w3 w4 hy hpd hlen hstk hd hsz hW hf hl hcc hss hn (fun T' h' v D' q X2 => by obtain ⟨e_, v', rfl, q⟩ := q; exact K T' h' v' q (by rw [← e_]; exact X2))
theorem gCallSvL (X : Sd Z D p l e R s m args below meth c n0 T h cells slots) (w : Cx Z own nm bytes maxL ret p s m meth c) {y : MethodName} {yb : ByteArray} {yl : Nat} {yr : Option FieldType} {rm : Room} {Q : Value → Heap → (Addr → Prop) → Prop} {idx W : Nat} (aL rest : List Value) {ps : List FieldType} {r : Option FieldType}
    (hM : ConVL l Z y yb yl yr rm aL.toArray h n0 D Q) (w1 : (Jvm.Cond.methodLink own idx y).before a0 Z = true) (w2 : (Jvm.Cond.static y).before a0 Z = true) (w3 : (Jvm.Cond.initialized y.cls).before a0 Z = true) (w4 : (Jvm.Cond.code y yb yl yr).before a0 Z = true) (hy : y.cls ≠ "java/lang/invoke/MethodHandle" ∧ y.cls ≠ "java/lang/invoke/VarHandle")
    (hpd : parseMethodDescriptor y.desc = some ⟨ps, r⟩) (hlen : aL.length = ps.length) (hstk : st = aL.reverse ++ rest) (hd : decode bytes pc = .ok (.invokestatic idx, 3)) (hsz : ls.size = maxL) (hW : (rest.map fun v => v.category).sum ≤ W)
    (hf : rm.frames + 1 ≤ R.frames) (hl : W + (yl + 11) + rm.locals ≤ R.locals) (hcc : cells + rm.cells ≤ R.cells) (hss : slots + rm.slots ≤ R.slots) (hn : pc + 3 = n)
    (K : ∀ T' h' v (D' : Addr → Prop), Q v h' D' → Sd Z D' p l e R s m args below meth c n0 T' h' (cells + rm.cells) (slots + rm.slots) → Gl Z p e below s n0 P C S (T'.setTop (mkF m n ls (v :: rest)))) : Gl Z p e below s n0 P C S (T.setTop (mkF m pc ls st)) :=
  gCallS X w aL rest hM w1 w2 w3 w4 hy hpd hlen hstk hd hsz hW hf hl hcc hss hn (fun T' h' v D' q X => by obtain ⟨v', rfl, q⟩ := q; exact K T' h' v' D' q X)
theorem gCallSn (X : Sd Z D p l e R s m args below meth c n0 T h cells slots) (w : Cx Z own nm bytes maxL ret p s m meth c) {y : MethodName} {yb : ByteArray} {yl : Nat} {rm : Room} {Q : Heap → Prop} {idx W : Nat} (aL rest : List Value) {ps : List FieldType} {r : Option FieldType}
    (hM : ConN l Z y yb yl rm aL.toArray h n0 D Q) (w1 : (Jvm.Cond.methodLink own idx y).before a0 Z = true) (w2 : (Jvm.Cond.static y).before a0 Z = true) (w3 : (Jvm.Cond.initialized y.cls).before a0 Z = true) (w4 : (Jvm.Cond.code y yb yl none).before a0 Z = true) (hy : y.cls ≠ "java/lang/invoke/MethodHandle" ∧ y.cls ≠ "java/lang/invoke/VarHandle")
    (hpd : parseMethodDescriptor y.desc = some ⟨ps, r⟩) (hlen : aL.length = ps.length) (hstk : st = aL.reverse ++ rest) (hd : decode bytes pc = .ok (.invokestatic idx, 3)) (hsz : ls.size = maxL) (hW : (rest.map fun v => v.category).sum ≤ W)
    (hf : rm.frames + 1 ≤ R.frames) (hl : W + (yl + 11) + rm.locals ≤ R.locals) (hcc : cells + rm.cells ≤ R.cells) (hss : slots + rm.slots ≤ R.slots) (hn : pc + 3 = n)
    (K : ∀ T' h', Q h' → Sd Z D p l e R s m args below meth c n0 T' h' (cells + rm.cells) (slots + rm.slots) → Gl Z p e below s n0 P C S (T'.setTop (mkF m n ls rest))) : Gl Z p e below s n0 P C S (T.setTop (mkF m pc ls st)) :=
  gCallS X w aL rest hM w1 w2 w3 w4 hy hpd hlen hstk hd hsz hW hf hl hcc hss hn (fun T' h' v D' q X2 => by obtain ⟨e_, rfl, q⟩ := q; exact K T' h' q (by rw [← e_]; exact X2))
theorem gCallSnL (X : Sd Z D p l e R s m args below meth c n0 T h cells slots) (w : Cx Z own nm bytes maxL ret p s m meth c) {y : MethodName} {yb : ByteArray} {yl : Nat} {rm : Room} {Q : Heap → (Addr → Prop) → Prop} {idx W : Nat} (aL rest : List Value) {ps : List FieldType} {r : Option FieldType}
    (hM : ConNL l Z y yb yl rm aL.toArray h n0 D Q) (w1 : (Jvm.Cond.methodLink own idx y).before a0 Z = true) (w2 : (Jvm.Cond.static y).before a0 Z = true) (w3 : (Jvm.Cond.initialized y.cls).before a0 Z = true) (w4 : (Jvm.Cond.code y yb yl none).before a0 Z = true) (hy : y.cls ≠ "java/lang/invoke/MethodHandle" ∧ y.cls ≠ "java/lang/invoke/VarHandle")
    (hpd : parseMethodDescriptor y.desc = some ⟨ps, r⟩) (hlen : aL.length = ps.length) (hstk : st = aL.reverse ++ rest) (hd : decode bytes pc = .ok (.invokestatic idx, 3)) (hsz : ls.size = maxL) (hW : (rest.map fun v => v.category).sum ≤ W)
    (hf : rm.frames + 1 ≤ R.frames) (hl : W + (yl + 11) + rm.locals ≤ R.locals) (hcc : cells + rm.cells ≤ R.cells) (hss : slots + rm.slots ≤ R.slots) (hn : pc + 3 = n)
    (K : ∀ T' h' (D' : Addr → Prop), Q h' D' → Sd Z D' p l e R s m args below meth c n0 T' h' (cells + rm.cells) (slots + rm.slots) → Gl Z p e below s n0 P C S (T'.setTop (mkF m n ls rest))) : Gl Z p e below s n0 P C S (T.setTop (mkF m pc ls st)) :=
  gCallS X w aL rest hM w1 w2 w3 w4 hy hpd hlen hstk hd hsz hW hf hl hcc hss hn (fun T' h' v D' q X => by obtain ⟨rfl, q⟩ := q; exact K T' h' D' q X)
theorem gCallVv (X : Sd Z D p l e R s m args below meth c n0 T h cells slots) (w : Cx Z own nm bytes maxL ret p s m meth c) {y z : MethodName} {yb : ByteArray} {yl : Nat} {yr : Option FieldType} {rm : Room} {Q : Value → Heap → Prop} {idx W : Nat} {b : Addr} {C0 : String} (aL rest : List Value) {ps : List FieldType} {r : Option FieldType} (E : Exa Z h b C0)
    (hM : ConV l Z z yb yl yr rm (.ref b :: aL).toArray h n0 D Q) (w1 : (Jvm.Cond.methodLink own idx y).before a0 Z = true) (w2 : (Jvm.Cond.declares y).before a0 Z = true) (hnf : ∀ vm0, s.Since vm0 h.size → NotFace (s.setVm vm0) y) (w5 : (Jvm.Cond.selects C0 y z).before a0 Z = true) (w6 : (Jvm.Cond.instanceMethod z).before a0 Z = true) (w3 : (Jvm.Cond.initialized z.cls).before a0 Z = true) (w4 : (Jvm.Cond.code z yb yl yr).before a0 Z = true) (hy : y.cls ≠ "java/lang/invoke/MethodHandle" ∧ y.cls ≠ "java/lang/invoke/VarHandle")
    (hpd : parseMethodDescriptor y.desc = some ⟨ps, r⟩) (hlen : aL.length = ps.length) (hstk : st = aL.reverse ++ .ref b :: rest) (hd : decode bytes pc = .ok (.invokevirtual idx, 3)) (hsz : ls.size = maxL) (hW : (rest.map fun v => v.category).sum ≤ W)
    (hf : rm.frames + 1 ≤ R.frames) (hl : W + (yl + 11) + rm.locals ≤ R.locals) (hcc : cells + rm.cells ≤ R.cells) (hss : slots + rm.slots ≤ R.slots) (hn : pc + 3 = n)
    (K : ∀ T' h' v, Q v h' → Sd Z D p l e R s m args below meth c n0 T' h' (cells + rm.cells) (slots + rm.slots) → Gl Z p e below s n0 P C S (T'.setTop (mkF m n ls (v :: rest)))) : Gl Z p e below s n0 P C S (T.setTop (mkF m pc ls st)) :=
  gCallV X w aL rest E hM w1 w2 hnf w5 w6 w3 w4 hy hpd hlen hstk hd hsz hW hf hl hcc hss hn (fun T' h' v D' q X2 => by obtain ⟨e_, v', rfl, q⟩ := q; exact K T' h' v' q (by rw [← e_]; exact X2))
theorem gCallVvL (X : Sd Z D p l e R s m args below meth c n0 T h cells slots) (w : Cx Z own nm bytes maxL ret p s m meth c) {y z : MethodName} {yb : ByteArray} {yl : Nat} {yr : Option FieldType} {rm : Room} {Q : Value → Heap → (Addr → Prop) → Prop} {idx W : Nat} {b : Addr} {C0 : String} (aL rest : List Value) {ps : List FieldType} {r : Option FieldType} (E : Exa Z h b C0)
    (hM : ConVL l Z z yb yl yr rm (.ref b :: aL).toArray h n0 D Q) (w1 : (Jvm.Cond.methodLink own idx y).before a0 Z = true) (w2 : (Jvm.Cond.declares y).before a0 Z = true) (hnf : ∀ vm0, s.Since vm0 h.size → NotFace (s.setVm vm0) y) (w5 : (Jvm.Cond.selects C0 y z).before a0 Z = true) (w6 : (Jvm.Cond.instanceMethod z).before a0 Z = true) (w3 : (Jvm.Cond.initialized z.cls).before a0 Z = true) (w4 : (Jvm.Cond.code z yb yl yr).before a0 Z = true) (hy : y.cls ≠ "java/lang/invoke/MethodHandle" ∧ y.cls ≠ "java/lang/invoke/VarHandle")
    (hpd : parseMethodDescriptor y.desc = some ⟨ps, r⟩) (hlen : aL.length = ps.length) (hstk : st = aL.reverse ++ .ref b :: rest) (hd : decode bytes pc = .ok (.invokevirtual idx, 3)) (hsz : ls.size = maxL) (hW : (rest.map fun v => v.category).sum ≤ W)
    (hf : rm.frames + 1 ≤ R.frames) (hl : W + (yl + 11) + rm.locals ≤ R.locals) (hcc : cells + rm.cells ≤ R.cells) (hss : slots + rm.slots ≤ R.slots) (hn : pc + 3 = n)
    (K : ∀ T' h' v (D' : Addr → Prop), Q v h' D' → Sd Z D' p l e R s m args below meth c n0 T' h' (cells + rm.cells) (slots + rm.slots) → Gl Z p e below s n0 P C S (T'.setTop (mkF m n ls (v :: rest)))) : Gl Z p e below s n0 P C S (T.setTop (mkF m pc ls st)) :=
  gCallV X w aL rest E hM w1 w2 hnf w5 w6 w3 w4 hy hpd hlen hstk hd hsz hW hf hl hcc hss hn (fun T' h' v D' q X => by obtain ⟨v', rfl, q⟩ := q; exact K T' h' v' D' q X)
theorem gCallIn (X : Sd Z D p l e R s m args below meth c n0 T h cells slots) (w : Cx Z own nm bytes maxL ret p s m meth c) {y : MethodName} {yb : ByteArray} {yl : Nat} {rm : Room} {Q : Heap → Prop} {idx W : Nat} {b : Addr} (aL rest : List Value) {ps : List FieldType} {r : Option FieldType} (hy1 : y.name = "<init>")
    (hM : ConN l Z y yb yl rm (.ref b :: aL).toArray h n0 D Q) (w1 : (Jvm.Cond.methodLink own idx y).before a0 Z = true) (w2 : (Jvm.Cond.instanceMethod y).before a0 Z = true) (w3 : (Jvm.Cond.initialized y.cls).before a0 Z = true) (w4 : (Jvm.Cond.code y yb yl none).before a0 Z = true) (hy : y.cls ≠ "java/lang/invoke/MethodHandle" ∧ y.cls ≠ "java/lang/invoke/VarHandle")
    (hpd : parseMethodDescriptor y.desc = some ⟨ps, r⟩) (hlen : aL.length = ps.length) (hstk : st = aL.reverse ++ .ref b :: rest) (hd : decode bytes pc = .ok (.invokespecial idx, 3)) (hsz : ls.size = maxL) (hW : (rest.map fun v => v.category).sum ≤ W)
    (hf : rm.frames + 1 ≤ R.frames) (hl : W + (yl + 11) + rm.locals ≤ R.locals) (hcc : cells + rm.cells ≤ R.cells) (hss : slots + rm.slots ≤ R.slots) (hn : pc + 3 = n)
    (K : ∀ T' h', Q h' → Sd Z D p l e R s m args below meth c n0 T' h' (cells + rm.cells) (slots + rm.slots) → Gl Z p e below s n0 P C S (T'.setTop (mkF m n ls rest))) : Gl Z p e below s n0 P C S (T.setTop (mkF m pc ls st)) :=
  gCallI X w aL rest hy1 hM w1 w2 w3 w4 hy hpd hlen hstk hd hsz hW hf hl hcc hss hn (fun T' h' v D' q X2 => by obtain ⟨e_, rfl, q⟩ := q; exact K T' h' q (by rw [← e_]; exact X2))
theorem gCallInL (X : Sd Z D p l e R s m args below meth c n0 T h cells slots) (w : Cx Z own nm bytes maxL ret p s m meth c) {y : MethodName} {yb : ByteArray} {yl : Nat} {rm : Room} {Q : Heap → (Addr → Prop) → Prop} {idx W : Nat} {b : Addr} (aL rest : List Value) {ps : List FieldType} {r : Option FieldType} (hy1 : y.name = "<init>")
    (hM : ConNL l Z y yb yl rm (.ref b :: aL).toArray h n0 D Q) (w1 : (Jvm.Cond.methodLink own idx y).before a0 Z = true) (w2 : (Jvm.Cond.instanceMethod y).before a0 Z = true) (w3 : (Jvm.Cond.initialized y.cls).before a0 Z = true) (w4 : (Jvm.Cond.code y yb yl none).before a0 Z = true) (hy : y.cls ≠ "java/lang/invoke/MethodHandle" ∧ y.cls ≠ "java/lang/invoke/VarHandle")
    (hpd : parseMethodDescriptor y.desc = some ⟨ps, r⟩) (hlen : aL.length = ps.length) (hstk : st = aL.reverse ++ .ref b :: rest) (hd : decode bytes pc = .ok (.invokespecial idx, 3)) (hsz : ls.size = maxL) (hW : (rest.map fun v => v.category).sum ≤ W)
    (hf : rm.frames + 1 ≤ R.frames) (hl : W + (yl + 11) + rm.locals ≤ R.locals) (hcc : cells + rm.cells ≤ R.cells) (hss : slots + rm.slots ≤ R.slots) (hn : pc + 3 = n)
    (K : ∀ T' h' (D' : Addr → Prop), Q h' D' → Sd Z D' p l e R s m args below meth c n0 T' h' (cells + rm.cells) (slots + rm.slots) → Gl Z p e below s n0 P C S (T'.setTop (mkF m n ls rest))) : Gl Z p e below s n0 P C S (T.setTop (mkF m pc ls st)) :=
  gCallI X w aL rest hy1 hM w1 w2 w3 w4 hy hpd hlen hstk hd hsz hW hf hl hcc hss hn (fun T' h' v D' q X => by obtain ⟨rfl, q⟩ := q; exact K T' h' D' q X)
theorem gInitO (X : Sd Z D p l e R s m args below meth c n0 T h cells slots) (w : Cx Z own nm bytes maxL ret p s m meth c) {idx W : Nat} {a : Addr} (w1 : (Jvm.Cond.methodLink own idx Lib.objectInit).before a0 Z = true) (w2 : (Jvm.Cond.instanceMethod Lib.objectInit).before a0 Z = true) (w3 : (Jvm.Cond.code Lib.objectInit ⟨#[0xb1]⟩ 1 none).before a0 Z = true) (hd : decode bytes pc = .ok (.invokespecial idx, 3)) (hsz : ls.size = maxL) (hf : 1 ≤ R.frames) (hW : (st.map fun v => v.category).sum ≤ W) (hl : W + 12 ≤ R.locals) (hn : pc + 3 = n)
    (K : ∀ T', Sd Z D p l e R s m args below meth c n0 T' h cells slots → Gl Z p e below s n0 P C S (T'.setTop (mkF m n ls st))) : Gl Z p e below s n0 P C S (T.setTop (mkF m pc ls (.ref a :: st))) := by
  obtain ⟨locs, vm0, k0, X, N, eh, hn0, hS, hk0, hH⟩ := X; obtain ⟨hx, hby, hZ, hown, -, hml, -⟩ := w; have hZ := State.Warmed39.trans hZ hS.1; have hown := (hS.1.alike.findClass _ _).trans hown; subst hn
  obtain ⟨T', X', e', st'⟩ := initO X hx hZ hown w1 w2 w3 eh (g := mkF m pc ls (.ref a :: st)) rfl (by rw [hml]; exact hsz) rfl (hb hby hd) hf (W := W) (by show 2 * 0 + _ ≤ _; rw [Nat.mul_zero, Nat.zero_add]; exact hW) hl
  exact Gl.of st' (K T' ⟨_, vm0, k0, X', N, e', hn0, hS, hk0, hH⟩)
theorem gNew (X : Sd Z D p l e R s m args below meth c n0 T h cells slots) (w : Cx Z own nm bytes maxL ret p s m meth c) {C0 : String} {idx k : Nat} (w1 : (Jvm.Cond.classLink own idx C0).before a0 Z = true) (w2 : (Jvm.Cond.instantiable C0 k).before a0 Z = true) (w3 : (Jvm.Cond.initialized C0).before a0 Z = true) (hd : decode bytes pc = .ok (.new idx, 3)) (hc : cells + 1 ≤ R.cells) (hl : slots + k ≤ R.slots) (hn : pc + 3 = n)
    (K : ∀ T' h' a, a = h.size → (n0 ≤ a ∧ ¬ D a) → Sd Z D p l e R s m args below meth c n0 T' h' (cells + 1) (slots + k) → Ext h h' → Exa Z h' a C0 → (∀ {O nm d : String} {ty : FieldType}, Laid Z a0 C0 O nm d → parseFieldDescriptor d = some ty → Fld Z h' a O nm d (defaultValue ty)) → Gl Z p e below s n0 P C S (T'.setTop (mkF m n ls (.ref a :: st)))) : Gl Z p e below s n0 P C S (T.setTop (mkF m pc ls st)) := by
  obtain ⟨locs, vm0, k0, X, N, eh, hn0, hS, hk0, hH⟩ := X; obtain ⟨hx, hby, hZ, hown, -, hml, -⟩ := w; have hZ := State.Warmed39.trans hZ hS.1; have hown := (hS.1.alike.findClass _ _).trans hown; subst hn
  obtain ⟨T', h', X', e', E', A', D', -, st'⟩ := newO X hx hZ hown w1 w2 w3 eh (g := mkF m pc ls st) rfl (hb hby hd) hc hl
  exact Gl.of st' (K T' h' h.size rfl ⟨Sd.le ⟨_, vm0, k0, X, N, eh, hn0, hS, hk0, hH⟩, hH.nd (Nat.le_refl _)⟩ ⟨_, vm0, k0, X', N, e', hn0, hS, Nat.le_trans hk0 E'.1, hH.ext E'⟩ E' A' D')
theorem gGetF (X : Sd Z D p l e R s m args below meth c n0 T h cells slots) (w : Cx Z own nm bytes maxL ret p s m meth c) {R0 O fn d : String} {idx : Nat} {a : Addr} {v : Value} (w1 : (Jvm.Cond.fieldLink own idx R0 fn d).before a0 Z = true) (via : Via Z R0 O fn d) (F : Fld Z h a O fn d v) (hd : decode bytes pc = .ok (.getfield idx, 3)) (hn : pc + 3 = n)
    (K : ∀ T', Sd Z D p l e R s m args below meth c n0 T' h cells slots → Gl Z p e below s n0 P C S (T'.setTop (mkF m n ls (v :: st)))) : Gl Z p e below s n0 P C S (T.setTop (mkF m pc ls (.ref a :: st))) := by
  obtain ⟨locs, vm0, k0, X, N, eh, hn0, hS, hk0, hH⟩ := X; obtain ⟨hx, hby, hZ, hown, -, hml, -⟩ := w; have hZ := State.Warmed39.trans hZ hS.1; have hown := (hS.1.alike.findClass _ _).trans hown; subst hn
  obtain ⟨T', X', e', st'⟩ := getF X hx hZ hown (host := "") (Or.inl w1) via eh F (g := mkF m pc ls (.ref a :: st)) rfl rfl (hb hby hd)
  exact Gl.of st' (K T' ⟨_, vm0, k0, X', N, e', hn0, hS, hk0, hH⟩)
theorem gGetS (X : Sd Z D p l e R s m args below meth c n0 T h cells slots) (w : Cx Z own nm bytes maxL ret p s m meth c) {R0 O fn d : String} {idx : Nat} {v : Value} (w1 : (Jvm.Cond.fieldLink own idx R0 fn d).before a0 Z = true) (via : Via Z R0 O fn d) (F : Sta Z h O fn d v) (hd : decode bytes pc = .ok (.getstatic idx, 3)) (hn : pc + 3 = n)
    (K : ∀ T', Sd Z D p l e R s m args below meth c n0 T' h cells slots → Gl Z p e below s n0 P C S (T'.setTop (mkF m n ls (v :: st)))) : Gl Z p e below s n0 P C S (T.setTop (mkF m pc ls st)) := by
  obtain ⟨locs, vm0, k0, X, N, eh, hn0, hS, hk0, hH⟩ := X; obtain ⟨hx, hby, hZ, hown, -, hml, -⟩ := w; have hZ := State.Warmed39.trans hZ hS.1; have hown := (hS.1.alike.findClass _ _).trans hown; subst hn
  obtain ⟨T', X', e', st'⟩ := getS X hx hZ hown (host := "") w1 via eh F (g := mkF m pc ls st) rfl (hb hby hd)
  exact Gl.of st' (K T' ⟨_, vm0, k0, X', N, e', hn0, hS, hk0, hH⟩)
theorem gPutF (X : Sd Z D p l e R s m args below meth c n0 T h cells slots) (w : Cx Z own nm bytes maxL ret p s m meth c) {R0 O fn d C0 : String} {idx k : Nat} {ty : FieldType} {a : Addr} {v old : Value} (w1 : (Jvm.Cond.fieldLink own idx R0 fn d).before a0 Z = true) (via : Via Z R0 O fn d) (F : Fld Z h a O fn d old) (E : Exa Z h a C0) (hL : (Jvm.Cond.lays C0 O fn d).before a0 Z = true ∨ ((Jvm.Cond.laysFinal C0 O fn d).before a0 Z = true ∧ own = O ∧ nm = "<init>")) (w2 : (Jvm.Cond.instantiable C0 k).before a0 Z = true) (ha : n0 ≤ a ∧ ¬ D a)
    (hty : parseFieldDescriptor d = some ty) (hnar : narrow ty v = v) (hfit : fits ty v = true) (hd : decode bytes pc = .ok (.putfield idx, 3)) (hn : pc + 3 = n)
    (K : ∀ T' h', Sd Z D p l e R s m args below meth c n0 T' h' cells slots → Wr h h' a (Jvm.RoadKit.slotOf Z O fn d) v → Gl Z p e below s n0 P C S (T'.setTop (mkF m n ls st))) : Gl Z p e below s n0 P C S (T.setTop (mkF m pc ls (v :: .ref a :: st))) := by
  obtain ⟨locs, vm0, k0, X, N, eh, hn0, hS, hk0, hH⟩ := X; obtain ⟨hx, hby, hZ, hown, hnm, hml, -⟩ := w; have hZ := State.Warmed39.trans hZ hS.1; have hown := (hS.1.alike.findClass _ _).trans hown; subst hn
  obtain ⟨T', h', X', e', W', st'⟩ := putF X hx hZ hown (host := "") (Or.inl w1) via eh F E (hL.imp id fun q => ⟨q.1, q.2.1, hnm.trans q.2.2⟩) w2 hty hnar hfit (g := mkF m pc ls (v :: .ref a :: st)) rfl rfl (hb hby hd)
  exact Gl.of st' (K T' h' ⟨_, vm0, k0, X', Fr.snoc X' N ha.1, e', hn0, hS, by rw [W'.size]; exact hk0, hH.wr W' ha⟩ W')
/-- an array with its values -/
def Av (Z : State) (h : Heap) (a : Addr) (ty : FieldType) (vs : List Value) : Prop := ∃ c : Cell, Arr Z h a c ty ∧ c.slots = vs.toArray
theorem Av.lt {a : Addr} {ty : FieldType} {vs : List Value} (F : Av Z h a ty vs) : a < h.size := by obtain ⟨c, A, -⟩ := F; exact A.lt
theorem Av.nostat {a : Addr} {ty : FieldType} {vs : List Value} (F : Av Z h a ty vs) : ∀ cell : Cell, h[a]? = some cell → cell.vm.isStatics = false := fun cell q => by
  obtain ⟨c, A, -⟩ := F
  have e0 : c = cell := Option.some.inj (A.1.symm.trans q)
  rw [← e0]
  cases e : c.vm with
  | statics k => exact absurd e (A.2.1.1 k)
  | _ => rfl
theorem Av.ext {h' : Heap} {a : Addr} {ty : FieldType} {vs : List Value} (F : Av Z h a ty vs) (E : Ext h h') : Av Z h' a ty vs := by obtain ⟨c, A, q⟩ := F; exact ⟨c, A.ext E, q⟩
theorem Av.other {h' : Heap} {a b : Addr} {sl : Nat} {v : Value} {ty : FieldType} {vs : List Value} (F : Av Z h b ty vs) (W : Wr h h' a sl v) (ne : b ≠ a) : Av Z h' b ty vs := by obtain ⟨c, A, q⟩ := F; exact ⟨c, A.other W ne, q⟩
theorem Av.keep {h' : Heap} {a : Addr} {ty : FieldType} {vs : List Value} {ws : List Addr} (F : Av Z h a ty vs) (K : Keep h h' ws) (ne : a ∉ ws) : Av Z h' a ty vs := by obtain ⟨c, A, q⟩ := F; exact ⟨c, ⟨K.2.1 a c A.1 ne, A.2⟩, q⟩
theorem Av.set {h' : Heap} {a : Addr} {sl : Nat} {v : Value} {ty : FieldType} {vs : List Value} (F : Av Z h a ty vs) (W : Wr h h' a sl v) : Av Z h' a ty (vs.set sl v) := by
  obtain ⟨c, A, q⟩ := F
  exact ⟨_, A.same W, by show c.slots.setIfInBounds sl v = _; rw [q]; simp⟩
theorem neOf {x a : Addr} {h : Heap} (h1 : x < h.size) (h2 : h.size ≤ a) : x ≠ a := fun e => absurd (Nat.lt_of_lt_of_le h1 h2) (by rw [e]; exact Nat.lt_irrefl _)
theorem staKeep {h' : Heap} {O fn d : String} {v : Value} {ws : List Addr} (F : Sta Z h O fn d v) (K : Keep h h' ws) (hp : ∀ x ∈ ws, ∀ c : Cell, h[x]? = some c → c.vm.isStatics = false) : Sta Z h' O fn d v := by
  obtain ⟨cf, i, k, f, st, cell, h1, h2, h3, h4, h5, h6, h7⟩ := F
  exact ⟨cf, i, k, f, st, cell, h1, h2, h3, h4, K.2.1 _ _ h5 (fun q => by rw [hp _ q _ h5] at h6; cases h6), h6, h7⟩
theorem idxIn {j : Int32} {vs : List Value} {c : Cell} (q : c.slots = vs.toArray) (hj : 0 ≤ j.toInt) (hv : j.toInt < vs.length) : ¬ (j < 0 ∨ c.slots.size ≤ j.toNatClampNeg) := by
  have e := XT.negI32 j
  have hc : j.toNatClampNeg = j.toInt.toNat := rfl
  rintro (g | g)
  · have := e.mp g; omega
  · rw [q] at g; simp only [List.size_toArray] at g; omega
theorem gNewP (X : Sd Z D p l e R s m args below meth c n0 T h cells slots) (w : Cx Z own nm bytes maxL ret p s m meth c) {aty : ArrayType} {k : Int32} {cap : Nat} (w1 : (Jvm.Cond.arrayClass (newarray.typeOf aty)).before a0 Z = true) (hd : decode bytes pc = .ok (.newarray aty, 2)) (hk : 0 ≤ k.toInt) (hcap : k.toInt ≤ cap) (hb' : cap * 8 ≤ 536870912) (hc : cells + 1 ≤ R.cells) (hl : slots + cap ≤ R.slots) {vs : List Value} {ty : FieldType} (hvs : List.replicate k.toInt.toNat (defaultValue (newarray.typeOf aty)) = vs) (hty : newarray.typeOf aty = ty) {ad : String} (had : "[" ++ (newarray.typeOf aty).toString = ad) (hn : pc + 2 = n)
    (K : ∀ T' h' a, a = h.size → (n0 ≤ a ∧ ¬ D a) → Sd Z D p l e R s m args below meth c n0 T' h' (cells + 1) (slots + cap) → Ext h h' → Av Z h' a ty vs → Exa Z h' a ad → Gl Z p e below s n0 P C S (T'.setTop (mkF m n ls (.ref a :: st)))) : Gl Z p e below s n0 P C S (T.setTop (mkF m pc ls (.int k :: st))) := by
  obtain ⟨locs, vm0, k0, X, N, eh, hn0, hS, hk0, hH⟩ := X; obtain ⟨hx, hby, hZ, hown, -, hml, -⟩ := w; have hZ := State.Warmed39.trans hZ hS.1; have hown := (hS.1.alike.findClass _ _).trans hown; subst hn hvs hty
  have e := XT.negI32 k
  have hkc : k.toNatClampNeg = k.toInt.toNat := rfl
  obtain ⟨T', h', cA, X', e', E', A', Ex', st'⟩ := newPE X hx hZ w1 eh (g := mkF m pc ls (.int k :: st)) rfl (hb hby hd) rfl (fun g => by have := e.mp g; omega) (cap := cap) (by omega) hb' hc hl had
  exact Gl.of st' (K T' h' h.size rfl ⟨Sd.le ⟨_, vm0, k0, X, N, eh, hn0, hS, hk0, hH⟩, hH.nd (Nat.le_refl _)⟩ ⟨_, vm0, k0, X', N, e', hn0, hS, Nat.le_trans hk0 E'.1, hH.ext E'⟩ E' ⟨_, A', by show Array.replicate _ _ = _; rw [hkc]; simp⟩ Ex')
theorem gClone (X : Sd Z D p l e R s m args below meth c n0 T h cells slots) (w : Cx Z own nm bytes maxL ret p s m meth c) {idx W cap : Nat} {a : Addr} {ad : String} {ty : FieldType} {vs : List Value} (F : Av Z h a ty vs) (E : Exa Z h a ad) (hfit : ∀ v ∈ vs, fits ty v = true) (w1 : (Jvm.Cond.methodLink own idx ⟨ad, "clone", "()Ljava/lang/Object;"⟩).before a0 Z = true) (w2 : (Jvm.Cond.sameMethod ad "java/lang/Object" "clone" "()Ljava/lang/Object;").before a0 Z = true) (w3 : (Jvm.Cond.native ⟨"java/lang/Object", "clone", "()Ljava/lang/Object;"⟩).before a0 Z = true) (w4 : (Jvm.Cond.instanceMethod ⟨"java/lang/Object", "clone", "()Ljava/lang/Object;"⟩).before a0 Z = true) (w5 : (Jvm.Cond.selects ad ⟨ad, "clone", "()Ljava/lang/Object;"⟩ ⟨"java/lang/Object", "clone", "()Ljava/lang/Object;"⟩).before a0 Z = true) (w6 : (Jvm.Cond.castable ad "java/lang/Cloneable").before a0 Z = true)
    (hd : decode bytes pc = .ok (.invokevirtual idx, 3)) (hsz : ls.size = maxL) (hf : 1 ≤ R.frames) (hW : (st.map fun v => v.category).sum ≤ W) (hl : W + 14 ≤ R.locals) (hcap : vs.length ≤ cap) (hc : cells + 1 ≤ R.cells) (hss : slots + cap ≤ R.slots) (hn : pc + 3 = n)
    (K : ∀ T' h' b, b = h.size → (n0 ≤ b ∧ ¬ D b) → Sd Z D p l e R s m args below meth c n0 T' h' (cells + 1) (slots + cap) → Ext h h' → Av Z h' b ty vs → Exa Z h' b ad → Gl Z p e below s n0 P C S (T'.setTop (mkF m n ls (.ref b :: st)))) : Gl Z p e below s n0 P C S (T.setTop (mkF m pc ls (.ref a :: st))) := by
  obtain ⟨locs, vm0, k0, X, N, eh, hn0, hS, hk0, hH⟩ := X; obtain ⟨hx, hby, hZ, hown, -, hml, -⟩ := w; have hZ := State.Warmed39.trans hZ hS.1; have hown := (hS.1.alike.findClass _ _).trans hown; subst hn
  obtain ⟨cl, A, q⟩ := F
  have FC : FitC Z cl := fitC_of A fun i hi v hv => hfit v (by rw [q] at hv; simp only [List.getElem?_toArray] at hv; exact List.mem_of_getElem? hv)
  obtain ⟨T', h', X', e', E', A', Ex', st'⟩ := cloneA X hx hZ hown w1 w2 w3 w4 w5 w6 eh A E FC (g := mkF m pc ls (.ref a :: st)) rfl (by rw [hml]; exact hsz) rfl (hb hby hd) hf (W := W) (cap := cap) (by show 2 * 0 + _ ≤ _; rw [Nat.mul_zero, Nat.zero_add]; exact hW) hl (by rw [q]; simpa using hcap) hc hss
  exact Gl.of st' (K T' h' h.size rfl ⟨Sd.le ⟨_, vm0, k0, X, N, eh, hn0, hS, hk0, hH⟩, hH.nd (Nat.le_refl _)⟩ ⟨_, vm0, k0, X', N, e', hn0, hS, Nat.le_trans hk0 E'.1, hH.ext E'⟩ E' ⟨_, A', q⟩ Ex')
theorem gCast (X : Sd Z D p l e R s m args below meth c n0 T h cells slots) (w : Cx Z own nm bytes maxL ret p s m meth c) {K0 : String} {idx : Nat} {a : Addr} (w1 : (Jvm.Cond.classLink own idx K0).before a0 Z = true) (F : Ins Z h a K0 true) (hd : decode bytes pc = .ok (.checkcast idx, 3)) (hn : pc + 3 = n)
    (K : ∀ T', Sd Z D p l e R s m args below meth c n0 T' h cells slots → Gl Z p e below s n0 P C S (T'.setTop (mkF m n ls (.ref a :: st)))) : Gl Z p e below s n0 P C S (T.setTop (mkF m pc ls (.ref a :: st))) := by
  obtain ⟨locs, vm0, k0, X, N, eh, hn0, hS, hk0, hH⟩ := X; obtain ⟨hx, hby, hZ, hown, -, hml, -⟩ := w; have hZ := State.Warmed39.trans hZ hS.1; have hown := (hS.1.alike.findClass _ _).trans hown; subst hn
  obtain ⟨T', X', e', st'⟩ := castY X hx hZ hown w1 eh F (g := mkF m pc ls (.ref a :: st)) rfl rfl (hb hby hd)
  exact Gl.of st' (K T' ⟨_, vm0, k0, X', N, e', hn0, hS, hk0, hH⟩)
theorem nsRoot {O K : String} {k : Nat} (w : (Jvm.Cond.noSuperclass O).before a0 Z = true) (wk : (Jvm.Cond.instantiable K k).before a0 Z = true) (hn : O ≠ K) : NS Z O K := by
  obtain ⟨c, kc, h1, h2, h3, -, -⟩ := Cond.noSuperclass_spec w
  obtain ⟨t, kt, g1, g2, -⟩ := Cond.instantiable_spec wk
  have ne := ids_ne h1 g1 hn
  refine ⟨c, t, h1, g1, fun fuel => ?_⟩
  cases fuel with
  | zero => rfl
  | succ f => simp [Vm.isSubclassAux, ne, h2, h3]
theorem nsNo {C S K : String} {k : Nat} (w : (Jvm.Cond.superclass C S).before a0 Z = true) (wk : (Jvm.Cond.instantiable K k).before a0 Z = true) (N : NS Z C K) (hn : C ≠ K) : ∃ c t, Z.vm.findClass C = some c ∧ Z.vm.findClass K = some t ∧ Z.vm.assignable c t = false := by
  obtain ⟨c, t, h0, g0, n3⟩ := N
  obtain ⟨p, kc, kp, h1, h2, h3, h4, h5, -, h7⟩ := Cond.superclass_spec h0 w
  obtain ⟨t', kt, g1, g2, g5, g7, -⟩ := Cond.instantiable_spec wk
  cases g0.symm.trans g1
  have g8 : kt.isInterface = false := by cases q : kt.isInterface with | false => rfl | true => rw [q] at g7; cases g7
  have ne := ids_ne h0 g0 hn
  refine ⟨c, t, h0, g0, ?_⟩
  show Z.vm.assignableAux (255 + 1) c t = false
  simp [Vm.assignableAux, ne, h2, g2, h5, g5, g8, Vm.isSubclass, n3]
theorem gInstN (X : Sd Z D p l e R s m args below meth c n0 T h cells slots) (w : Cx Z own nm bytes maxL ret p s m meth c) {K0 C0 : String} {idx : Nat} {a : Addr} (w1 : (Jvm.Cond.classLink own idx K0).before a0 Z = true) (E : Exa Z h a C0) (F : ∃ c t, Z.vm.findClass C0 = some c ∧ Z.vm.findClass K0 = some t ∧ Z.vm.assignable c t = false) (hd : decode bytes pc = .ok (.instanceof idx, 3)) (hn : pc + 3 = n)
    (K : ∀ T', Sd Z D p l e R s m args below meth c n0 T' h cells slots → Gl Z p e below s n0 P C S (T'.setTop (mkF m n ls (.int 0 :: st)))) : Gl Z p e below s n0 P C S (T.setTop (mkF m pc ls (.ref a :: st))) := by
  obtain ⟨locs, vm0, k0, X, N, eh, hn0, hS, hk0, hH⟩ := X; obtain ⟨hx, hby, hZ, hown, -, hml, -⟩ := w; have hZ := State.Warmed39.trans hZ hS.1; have hown := (hS.1.alike.findClass _ _).trans hown; subst hn
  obtain ⟨T', X', e', st'⟩ := instNo X hx hZ hown w1 eh E F (g := mkF m pc ls (.ref a :: st)) rfl rfl (hb hby hd)
  exact Gl.of st' (K T' ⟨_, vm0, k0, X', N, e', hn0, hS, hk0, hH⟩)
theorem gInstY (X : Sd Z D p l e R s m args below meth c n0 T h cells slots) (w : Cx Z own nm bytes maxL ret p s m meth c) {K0 : String} {idx : Nat} {a : Addr} (w1 : (Jvm.Cond.classLink own idx K0).before a0 Z = true) (F : Ins Z h a K0 true) (hd : decode bytes pc = .ok (.instanceof idx, 3)) (hn : pc + 3 = n)
    (K : ∀ T', Sd Z D p l e R s m args below meth c n0 T' h cells slots → Gl Z p e below s n0 P C S (T'.setTop (mkF m n ls (.int 1 :: st)))) : Gl Z p e below s n0 P C S (T.setTop (mkF m pc ls (.ref a :: st))) := by
  obtain ⟨locs, vm0, k0, X, N, eh, hn0, hS, hk0, hH⟩ := X; obtain ⟨hx, hby, hZ, hown, -, hml, -⟩ := w; have hZ := State.Warmed39.trans hZ hS.1; have hown := (hS.1.alike.findClass _ _).trans hown; subst hn
  obtain ⟨T', X', e', st'⟩ := instY X hx hZ hown w1 eh F (g := mkF m pc ls (.ref a :: st)) rfl rfl (hb hby hd)
  exact Gl.of st' (K T' ⟨_, vm0, k0, X', N, e', hn0, hS, hk0, hH⟩)
theorem gIastore (X : Sd Z D p l e R s m args below meth c n0 T h cells slots) (w : Cx Z own nm bytes maxL ret p s m meth c) {a : Addr} {j : Int32} {x : Int32} {z : Value} {vs : List Value} (F : Av Z h a .int vs) (hj : 0 ≤ j.toInt) (hjv : j.toInt < vs.length) (ha : n0 ≤ a ∧ ¬ D a) (hz : Value.int x = z) {vs' : List Value} (hvs : vs.set j.toInt.toNat z = vs') (hd : decode bytes pc = .ok (.iastore, 1)) (hn : pc + 1 = n)
    (K : ∀ T' h', Sd Z D p l e R s m args below meth c n0 T' h' cells slots → Wr h h' a j.toInt.toNat z → Av Z h' a .int vs' → Gl Z p e below s n0 P C S (T'.setTop (mkF m n ls st))) : Gl Z p e below s n0 P C S (T.setTop (mkF m pc ls (.int x :: .int j :: .ref a :: st))) := by
  obtain ⟨locs, vm0, k0, X, N, eh, hn0, hS, hk0, hH⟩ := X; obtain ⟨hx, hby, hZ, hown, hnm, hml, -⟩ := w; have hZ := State.Warmed39.trans hZ hS.1; have hown := (hS.1.alike.findClass _ _).trans hown; subst hn hz hvs
  obtain ⟨cl, A, q⟩ := F
  obtain ⟨T', h', X', e', W', st'⟩ := stI X hx hZ eh A (j := j) (idxIn q hj hjv) (g := mkF m pc ls (.int x :: .int j :: .ref a :: st)) rfl rfl (hb hby hd)
  exact Gl.of st' (K T' h' ⟨_, vm0, k0, X', Fr.snoc X' N ha.1, e', hn0, hS, by rw [W'.size]; exact hk0, hH.wr W' ha⟩ W' (Av.set ⟨cl, A, q⟩ W'))
theorem gLastore (X : Sd Z D p l e R s m args below meth c n0 T h cells slots) (w : Cx Z own nm bytes maxL ret p s m meth c) {a : Addr} {j : Int32} {x : Int64} {z : Value} {vs : List Value} (F : Av Z h a .long vs) (hj : 0 ≤ j.toInt) (hjv : j.toInt < vs.length) (ha : n0 ≤ a ∧ ¬ D a) (hz : Value.long x = z) {vs' : List Value} (hvs : vs.set j.toInt.toNat z = vs') (hd : decode bytes pc = .ok (.lastore, 1)) (hn : pc + 1 = n)
    (K : ∀ T' h', Sd Z D p l e R s m args below meth c n0 T' h' cells slots → Wr h h' a j.toInt.toNat z → Av Z h' a .long vs' → Gl Z p e below s n0 P C S (T'.setTop (mkF m n ls st))) : Gl Z p e below s n0 P C S (T.setTop (mkF m pc ls (.long x :: .int j :: .ref a :: st))) := by
  obtain ⟨locs, vm0, k0, X, N, eh, hn0, hS, hk0, hH⟩ := X; obtain ⟨hx, hby, hZ, hown, hnm, hml, -⟩ := w; have hZ := State.Warmed39.trans hZ hS.1; have hown := (hS.1.alike.findClass _ _).trans hown; subst hn hz hvs
  obtain ⟨cl, A, q⟩ := F
  obtain ⟨T', h', X', e', W', st'⟩ := stJ X hx hZ eh A (j := j) (idxIn q hj hjv) (g := mkF m pc ls (.long x :: .int j :: .ref a :: st)) rfl rfl (hb hby hd)
  exact Gl.of st' (K T' h' ⟨_, vm0, k0, X', Fr.snoc X' N ha.1, e', hn0, hS, by rw [W'.size]; exact hk0, hH.wr W' ha⟩ W' (Av.set ⟨cl, A, q⟩ W'))
theorem gCastore (X : Sd Z D p l e R s m args below meth c n0 T h cells slots) (w : Cx Z own nm bytes maxL ret p s m meth c) {a : Addr} {j : Int32} {x : Int32} {z : Value} {vs : List Value} (F : Av Z h a .char vs) (hj : 0 ≤ j.toInt) (hjv : j.toInt < vs.length) (ha : n0 ≤ a ∧ ¬ D a) (hz : Value.int (nar .char x) = z) {vs' : List Value} (hvs : vs.set j.toInt.toNat z = vs') (hd : decode bytes pc = .ok (.castore, 1)) (hn : pc + 1 = n)
    (K : ∀ T' h', Sd Z D p l e R s m args below meth c n0 T' h' cells slots → Wr h h' a j.toInt.toNat z → Av Z h' a .char vs' → Gl Z p e below s n0 P C S (T'.setTop (mkF m n ls st))) : Gl Z p e below s n0 P C S (T.setTop (mkF m pc ls (.int x :: .int j :: .ref a :: st))) := by
  obtain ⟨locs, vm0, k0, X, N, eh, hn0, hS, hk0, hH⟩ := X; obtain ⟨hx, hby, hZ, hown, hnm, hml, -⟩ := w; have hZ := State.Warmed39.trans hZ hS.1; have hown := (hS.1.alike.findClass _ _).trans hown; subst hn hz hvs
  obtain ⟨cl, A, q⟩ := F
  obtain ⟨T', h', X', e', W', st'⟩ := stC X hx hZ eh A (j := j) (idxIn q hj hjv) (g := mkF m pc ls (.int x :: .int j :: .ref a :: st)) rfl rfl (hb hby hd)
  exact Gl.of st' (K T' h' ⟨_, vm0, k0, X', Fr.snoc X' N ha.1, e', hn0, hS, by rw [W'.size]; exact hk0, hH.wr W' ha⟩ W' (Av.set ⟨cl, A, q⟩ W'))
theorem gBastore (X : Sd Z D p l e R s m args below meth c n0 T h cells slots) (w : Cx Z own nm bytes maxL ret p s m meth c) {a : Addr} {j : Int32} {x : Int32} {z : Value} {vs : List Value} (F : Av Z h a .byte vs) (hj : 0 ≤ j.toInt) (hjv : j.toInt < vs.length) (ha : n0 ≤ a ∧ ¬ D a) (hz : Value.int (nar .byte x) = z) {vs' : List Value} (hvs : vs.set j.toInt.toNat z = vs') (hd : decode bytes pc = .ok (.bastore, 1)) (hn : pc + 1 = n)
    (K : ∀ T' h', Sd Z D p l e R s m args below meth c n0 T' h' cells slots → Wr h h' a j.toInt.toNat z → Av Z h' a .byte vs' → Gl Z p e below s n0 P C S (T'.setTop (mkF m n ls st))) : Gl Z p e below s n0 P C S (T.setTop (mkF m pc ls (.int x :: .int j :: .ref a :: st))) := by
  obtain ⟨locs, vm0, k0, X, N, eh, hn0, hS, hk0, hH⟩ := X; obtain ⟨hx, hby, hZ, hown, hnm, hml, -⟩ := w; have hZ := State.Warmed39.trans hZ hS.1; have hown := (hS.1.alike.findClass _ _).trans hown; subst hn hz hvs
  obtain ⟨cl, A, q⟩ := F
  obtain ⟨T', h', X', e', W', st'⟩ := stB X hx hZ eh A (j := j) (idxIn q hj hjv) (g := mkF m pc ls (.int x :: .int j :: .ref a :: st)) rfl rfl (hb hby hd)
  exact Gl.of st' (K T' h' ⟨_, vm0, k0, X', Fr.snoc X' N ha.1, e', hn0, hS, by rw [W'.size]; exact hk0, hH.wr W' ha⟩ W' (Av.set ⟨cl, A, q⟩ W'))
theorem gIaload (X : Sd Z D p l e R s m args below meth c n0 T h cells slots) (w : Cx Z own nm bytes maxL ret p s m meth c) {a : Addr} {j : Int32} {v : Value} {vs : List Value} (F : Av Z h a .int vs) (hj : 0 ≤ j.toInt) (hv : vs[j.toInt.toNat]? = some v) (hd : decode bytes pc = .ok (.iaload, 1)) (hn : pc + 1 = n) (K : Gl Z p e below s n0 P C S (T.setTop (mkF m n ls (v :: st)))) : Gl Z p e below s n0 P C S (T.setTop (mkF m pc ls (.int j :: .ref a :: st))) := by
  obtain ⟨locs, vm0, k0, X, N, eh, hn0, hS, hk0, hH⟩ := X; obtain ⟨hx, hby, hZ, hown, hnm, hml, -⟩ := w; have hZ := State.Warmed39.trans hZ hS.1; have hown := (hS.1.alike.findClass _ _).trans hown; subst hn
  obtain ⟨cl, A, q⟩ := F
  have hlt : j.toInt.toNat < vs.length := (List.getElem?_eq_some_iff.mp hv).1
  exact Gl.of (fun t k => X.iaload hx (j := j) (v := v) (by rw [eh]; exact A.1) (State.isArrayOf_alike hZ.alike A.2.1) A.2.2 (idxIn q hj (by omega)) (by rw [q]; show vs.toArray[j.toInt.toNat]? = _; simpa using hv) (g := mkF m pc ls (.int j :: .ref a :: st)) rfl rfl (hb hby hd) _ k) K
theorem gCaload (X : Sd Z D p l e R s m args below meth c n0 T h cells slots) (w : Cx Z own nm bytes maxL ret p s m meth c) {a : Addr} {j : Int32} {v : Value} {vs : List Value} (F : Av Z h a .char vs) (hj : 0 ≤ j.toInt) (hv : vs[j.toInt.toNat]? = some v) (hd : decode bytes pc = .ok (.caload, 1)) (hn : pc + 1 = n) (K : Gl Z p e below s n0 P C S (T.setTop (mkF m n ls (v :: st)))) : Gl Z p e below s n0 P C S (T.setTop (mkF m pc ls (.int j :: .ref a :: st))) := by
  obtain ⟨locs, vm0, k0, X, N, eh, hn0, hS, hk0, hH⟩ := X; obtain ⟨hx, hby, hZ, hown, hnm, hml, -⟩ := w; have hZ := State.Warmed39.trans hZ hS.1; have hown := (hS.1.alike.findClass _ _).trans hown; subst hn
  obtain ⟨cl, A, q⟩ := F
  have hlt : j.toInt.toNat < vs.length := (List.getElem?_eq_some_iff.mp hv).1
  exact Gl.of (fun t k => X.caload hx (j := j) (v := v) (by rw [eh]; exact A.1) (State.isArrayOf_alike hZ.alike A.2.1) A.2.2 (idxIn q hj (by omega)) (by rw [q]; show vs.toArray[j.toInt.toNat]? = _; simpa using hv) (g := mkF m pc ls (.int j :: .ref a :: st)) rfl rfl (hb hby hd) _ k) K
theorem gBaload (X : Sd Z D p l e R s m args below meth c n0 T h cells slots) (w : Cx Z own nm bytes maxL ret p s m meth c) {a : Addr} {j : Int32} {v : Value} {vs : List Value} (F : Av Z h a .byte vs) (hj : 0 ≤ j.toInt) (hv : vs[j.toInt.toNat]? = some v) (hd : decode bytes pc = .ok (.baload, 1)) (hn : pc + 1 = n) (K : Gl Z p e below s n0 P C S (T.setTop (mkF m n ls (v :: st)))) : Gl Z p e below s n0 P C S (T.setTop (mkF m pc ls (.int j :: .ref a :: st))) := by
  obtain ⟨locs, vm0, k0, X, N, eh, hn0, hS, hk0, hH⟩ := X; obtain ⟨hx, hby, hZ, hown, hnm, hml, -⟩ := w; have hZ := State.Warmed39.trans hZ hS.1; have hown := (hS.1.alike.findClass _ _).trans hown; subst hn
  obtain ⟨cl, A, q⟩ := F
  have hlt : j.toInt.toNat < vs.length := (List.getElem?_eq_some_iff.mp hv).1
  exact Gl.of (fun t k => X.baloadBytes hx (j := j) (v := v) (by rw [eh]; exact A.1) (State.isArrayOf_alike hZ.alike A.2.1) A.2.2 (idxIn q hj (by omega)) (by rw [q]; show vs.toArray[j.toInt.toNat]? = _; simpa using hv) (g := mkF m pc ls (.int j :: .ref a :: st)) rfl rfl (hb hby hd) _ k) K
theorem gLaload (X : Sd Z D p l e R s m args below meth c n0 T h cells slots) (w : Cx Z own nm bytes maxL ret p s m meth c) {a : Addr} {j : Int32} {v : Value} {vs : List Value} (F : Av Z h a .long vs) (hj : 0 ≤ j.toInt) (hv : vs[j.toInt.toNat]? = some v) (hd : decode bytes pc = .ok (.laload, 1)) (hn : pc + 1 = n) (K : Gl Z p e below s n0 P C S (T.setTop (mkF m n ls (v :: st)))) : Gl Z p e below s n0 P C S (T.setTop (mkF m pc ls (.int j :: .ref a :: st))) := by
  obtain ⟨locs, vm0, k0, X, N, eh, hn0, hS, hk0, hH⟩ := X; obtain ⟨hx, hby, hZ, hown, hnm, hml, -⟩ := w; have hZ := State.Warmed39.trans hZ hS.1; have hown := (hS.1.alike.findClass _ _).trans hown; subst hn
  obtain ⟨cl, A, q⟩ := F
  have hlt : j.toInt.toNat < vs.length := (List.getElem?_eq_some_iff.mp hv).1
  exact Gl.of (fun t k => X.laload hx (j := j) (v := v) (by rw [eh]; exact A.1) (State.isArrayOf_alike hZ.alike A.2.1) A.2.2 (idxIn q hj (by omega)) (by rw [q]; show vs.toArray[j.toInt.toNat]? = _; simpa using hv) (g := mkF m pc ls (.int j :: .ref a :: st)) rfl rfl (hb hby hd) _ k) K
theorem gAaload (X : Sd Z D p l e R s m args below meth c n0 T h cells slots) (w : Cx Z own nm bytes maxL ret p s m meth c) {a : Addr} {j : Int32} {v : Value} {ty : FieldType} {vs : List Value} (F : Av Z h a ty vs) (hty : ty.isReference = true) (hj : 0 ≤ j.toInt) (hv : vs[j.toInt.toNat]? = some v) (hd : decode bytes pc = .ok (.aaload, 1)) (hn : pc + 1 = n) (K : Gl Z p e below s n0 P C S (T.setTop (mkF m n ls (v :: st)))) : Gl Z p e below s n0 P C S (T.setTop (mkF m pc ls (.int j :: .ref a :: st))) := by
  obtain ⟨locs, vm0, k0, X, N, eh, hn0, hS, hk0, hH⟩ := X; obtain ⟨hx, hby, hZ, hown, hnm, hml, -⟩ := w; have hZ := State.Warmed39.trans hZ hS.1; have hown := (hS.1.alike.findClass _ _).trans hown; subst hn
  obtain ⟨cl, A, q⟩ := F
  have hlt : j.toInt.toNat < vs.length := (List.getElem?_eq_some_iff.mp hv).1
  exact Gl.of (fun t k => X.aaload hx (j := j) (v := v) (by rw [eh]; exact A.1) (State.isArrayOf_alike hZ.alike A.2.1) hty A.2.2 (idxIn q hj (by omega)) (by rw [q]; show vs.toArray[j.toInt.toNat]? = _; simpa using hv) (g := mkF m pc ls (.int j :: .ref a :: st)) rfl rfl (hb hby hd) _ k) K
theorem Av.arv {a : Addr} {ty : FieldType} {vs : List Value} (dv : Value) (F : Av Z h a ty vs) (hf : ∀ v ∈ vs, fits ty v = true) (hl : vs.length < 2 ^ 31) : ∃ k, Arv Z h a k ty vs.length.toInt32 vs dv := by
  obtain ⟨c, A, q⟩ := F
  have hz : vs.length.toInt32.toInt = vs.length := len_toInt hl
  have hc : vs.length.toInt32.toNatClampNeg = vs.length := by show vs.length.toInt32.toInt.toNat = _; rw [hz]; rfl
  have hs : c.slots.size = vs.length := by rw [q]; simp
  refine ⟨c.cls, c, A, rfl, by rw [hc, hs], fun g => by have := (XT.negI32 _).mp g; omega, fun i hi => ?_, fun i hi => ?_⟩
  · rw [hs] at hi; rw [q]; simp [hi]
  · rw [hs] at hi; rw [List.getD_eq_getElem?_getD, List.getElem?_eq_getElem hi]; exact hf _ (List.getElem_mem hi)
theorem avOf {a : Addr} {k : ClassId} {ty : FieldType} {z : Int32} {vs : List Value} {dv : Value} (F : Arv Z h a k ty z vs dv) (hl : z.toNatClampNeg = vs.length) : Av Z h a ty vs := by
  obtain ⟨c, A, -, S, -, H, -⟩ := F
  refine ⟨c, A, Array.ext_getElem? fun i => ?_⟩
  by_cases hi : i < c.slots.size
  · rw [H i hi]; rw [S, hl] at hi; simp [hi]
  · rw [Array.getElem?_eq_none (by omega)]; rw [S, hl] at hi; simp; omega
theorem gAcopy (X : Sd Z D p l e R s m args below meth c n0 T h cells slots) (w : Cx Z own nm bytes maxL ret p s m meth c) {idx W : Nat} {a b : Addr} {ty : FieldType} {va vb vs' : List Value} {sp dp nn : Int32} (dv : Value) (A : Av Z h a ty va) (B : Av Z h b ty vb) (hty : refKind ty = false) (fa : ∀ v ∈ va, fits ty v = true) (fb : ∀ v ∈ vb, fits ty v = true) (la : va.length < 2 ^ 31) (lb : vb.length < 2 ^ 31)
    (w1 : (Jvm.Cond.methodLink own idx Jvm.Stand.acN).before a0 Z = true) (w2 : (Jvm.Cond.native Jvm.Stand.acN).before a0 Z = true) (w3 : (Jvm.Cond.static Jvm.Stand.acN).before a0 Z = true) (w4 : (Jvm.Cond.initialized "java/lang/System").before a0 Z = true)
    (h1 : 0 ≤ sp.toInt) (h2 : 0 ≤ dp.toInt) (h3 : 0 ≤ nn.toInt) (h4 : sp.toInt + nn.toInt ≤ va.length) (h5 : dp.toInt + nn.toInt ≤ vb.length) (hvs : vb.take dp.toInt.toNat ++ ((List.range nn.toInt.toNat).map fun i => va.getD (sp.toInt.toNat + i) dv) ++ vb.drop (dp.toInt.toNat + nn.toInt.toNat) = vs') (ge : n0 ≤ b ∧ ¬ D b)
    (hd : decode bytes pc = .ok (.invokestatic idx, 3)) (hsz : ls.size = maxL) (hf : 1 ≤ R.frames) (hW : (st.map fun v => v.category).sum ≤ W) (hl : W + (nativeFrameWords "java/lang/System" "arraycopy" 5 + 11) ≤ R.locals) (hn : pc + 3 = n)
    (K : ∀ T' h', Sd Z D p l e R s m args below meth c n0 T' h' cells slots → Keep h h' [b] → Av Z h' b ty vs' → Gl Z p e below s n0 P C S (T'.setTop (mkF m n ls st))) : Gl Z p e below s n0 P C S (T.setTop (mkF m pc ls (.int nn :: .int dp :: .ref b :: .int sp :: .ref a :: st))) := by
  obtain ⟨locs, vm0, k0, X, N, eh, hn0, hS, hk0, hH⟩ := X; obtain ⟨hx, hby, hZ, hown, -, hml, -⟩ := w; have hZ := State.Warmed39.trans hZ hS.1; have hown := (hS.1.alike.findClass _ _).trans hown; subst hn hvs
  obtain ⟨ka, A⟩ := A.arv dv fa la
  obtain ⟨kb, B⟩ := B.arv dv fb lb
  have za : va.length.toInt32.toNatClampNeg = va.length := by show va.length.toInt32.toInt.toNat = _; rw [len_toInt la]; rfl
  have zb : vb.length.toInt32.toNatClampNeg = vb.length := by show vb.length.toInt32.toInt.toNat = _; rw [len_toInt lb]; rfl
  have n1 : ¬ sp < 0 := fun g => by have := (XT.negI32 _).mp g; omega
  have n2 : ¬ dp < 0 := fun g => by have := (XT.negI32 _).mp g; omega
  have n3 : ¬ nn < 0 := fun g => by have := (XT.negI32 _).mp g; omega
  have e1 : sp.toNatClampNeg = sp.toInt.toNat := rfl
  have e2 : dp.toNatClampNeg = dp.toInt.toNat := rfl
  have e3 : nn.toNatClampNeg = nn.toInt.toNat := rfl
  obtain ⟨T', h', L, X', e', N', K', B', st'⟩ := cpA X hx hZ hown w1 w2 w3 w4 eh A B (Or.inl ⟨rfl, hty⟩) n1 n2 n3 (by rw [za, e1, e3]; omega) (by rw [zb, e2, e3]; omega) rfl (by rw [e2, e3]; omega) N ge.1 (g := mkF m pc ls (.int nn :: .int dp :: .ref b :: .int sp :: .ref a :: st)) rfl (by rw [hml]; exact hsz) rfl (hb hby hd) hf (W := W) (by show 2 * 0 + _ ≤ _; rw [Nat.mul_zero, Nat.zero_add]; exact hW) hl
  exact Gl.of st' (K T' h' ⟨L, vm0, k0, X', N', e', hn0, hS, Nat.le_trans hk0 K'.1, hH.keep K' ge⟩ K' (avOf B' (by rw [zb, List.length_append, List.length_append, List.length_take, List.length_map, List.length_range, List.length_drop]; omega)))
theorem gLdcH (X : Sd Z D p l e R s m args below meth c n0 T h cells slots) (w : Cx Z own nm bytes maxL ret p s m meth c) {text : String} {i k : Nat} {vs : List Value} (wl : (Jvm.Cond.stringLink own i text).before a0 Z = true) (wS : ∀ a ∈ Bundle.stringAtoms, a.before a0 Z = true) (hE : EW Z a0 EL) (hm : (own, i) ∈ EL) (ht : (∀ c ∈ text.toList, c.toNat < 256) ∧ text.toList.map (fun c => Value.int (Jvm.Lit.byteI c.toNat.toUInt16)) = vs) (hvl : vs.length < 2 ^ 31) (hd : decode bytes pc = .ok (.ldc i, 2)) (hk : 4 * text.toList.length ≤ k) (hbig : k ≤ 536870912) (hc : cells + 2 ≤ R.cells) (hl : slots + (k + 4) ≤ R.slots) (hn : pc + 2 = n)
    (K : ∀ T' h' a b (D' : Addr → Prop), Sd Z D' p l e R s m args below meth c n0 T' h' (cells + 2) (slots + (k + 4)) → Ext h h' → Exa Z h' a "java/lang/String" → Fld Z h' a "java/lang/String" "coder" "B" (.int 0) → Fld Z h' a "java/lang/String" "value" "[B" (.ref b) → Av Z h' b .byte vs → (∀ {x : Addr}, (n0 ≤ x ∧ ¬ D x) → x < h.size → (n0 ≤ x ∧ ¬ D' x) ∧ x ≠ a ∧ x ≠ b) → Gl Z p e below s n0 P C S (T'.setTop (mkF m n ls (.ref a :: st)))) : Gl Z p e below s n0 P C S (T.setTop (mkF m pc ls st)) := by
  obtain ⟨locs, vm0, k0, X, N, eh, hn0, hS, hk0, hH⟩ := X; obtain ⟨hx, hby, hZ, hown, -⟩ := w; subst hn
  have hzi : vs.length.toInt32.toInt = vs.length := len_toInt hvl
  have hzc : vs.length.toInt32.toNatClampNeg = vs.length := by show vs.length.toInt32.toInt.toNat = _; rw [hzi]; rfl
  obtain ⟨a, T', h', k1, b, kk, X', e', E', S', hk1, -, -, Ea, Fc, Fv, Ab, la, lb, hr, -, hne, st'⟩ := ldcCH X hx (State.Warmed39.trans hZ hS.1) ((hS.1.alike.findClass _ _).trans hown) wl wS eh hS hk0 hE hm hH.2.1 (z := vs.length.toInt32) ht (fun g => by have := (XT.negI32 _).mp g; omega) hzc (g := mkF m pc ls st) rfl (hb hby hd) hk hbig hc hl
  refine Gl.of st' (K T' h' a b (fun y => D y ∨ (h.size ≤ y ∧ y < h'.size)) ⟨_, T'.vm, k1, X', N, e', hn0, S', hk1, ⟨hH.1, hr.1, fun y B => ?_, fun y d => ?_⟩⟩ E' Ea Fc Fv (avOf Ab hzc) ?_)
  · rcases hr.2.2 y B with r | r
    · exact (hH.2.2.1 y r).imp id Or.inl
    · obtain ⟨cell, ec⟩ := B.there
      exact Or.inr (Or.inr ⟨r, (Array.getElem?_eq_some_iff.mp ec).1⟩)
  · rcases d with d | d
    · exact Nat.lt_of_lt_of_le (hH.2.2.2 y d) E'.1
    · exact d.2
  · intro x hx' hlt
    exact ⟨⟨hx'.1, fun d => d.elim hx'.2 (fun q => absurd hlt (Nat.not_lt.mpr q.1))⟩, hne x (hr.safe hlt (hH.safe hx'))⟩
theorem declOf {y : MethodName} {yb : ByteArray} {yl : Nat} {yr : Option FieldType} (w6 : (Jvm.Cond.instanceMethod y).before a0 Z = true) (w4 : (Jvm.Cond.code y yb yl yr).before a0 Z = true) : (Jvm.Cond.declares y).before a0 Z = true := by
  obtain ⟨mk, methM, hnamed, hmethM, hst, -⟩ := Cond.instanceMethod_spec w6
  obtain ⟨m2, cM, q1, -, -, -, -, -, -, hsig⟩ := Cond.code_spec hnamed w4
  cases hmethM.symm.trans q1
  simp [Cond.before, Cond.holds, Cond.value, hnamed, hmethM, hst, hsig]
theorem sameOf {y z : MethodName} {C0 : String} (w6 : (Jvm.Cond.instanceMethod y).before a0 Z = true) (ws : (Jvm.Cond.selects C0 z z).before a0 Z = true) (hz : z.cls = y.cls) (hy : y.cls ≠ "java/lang/invoke/MethodHandle" ∧ y.cls ≠ "java/lang/invoke/VarHandle") : (Jvm.Cond.sameMethod y.cls y.cls y.name y.desc).before a0 Z = true := by
  obtain ⟨mk, methM, hnamed, hmethM, -, -⟩ := Cond.instanceMethod_spec w6
  obtain ⟨c, r, mz, -, -, hz2, -, k, hk, hi⟩ := Cond.selects_spec ws
  have f1 := findClass_of_methodNamed hnamed
  have f2 := findClass_of_methodNamed hz2
  rw [hz] at f2
  have e1 : mk.cls = mz.cls := Option.some.inj (f1.symm.trans f2)
  have hf := State.methodFound?_of_named hnamed hy
  rw [← e1] at hk
  simp [Cond.before, Cond.holds, Cond.value, f1, hf, hnamed, hk, hi]
theorem nfOf {args : Array Value} {y z : MethodName} {C0 : String} (ws : (Jvm.Cond.selects C0 z z).before args s = true) (hz : z.cls = y.cls) : NotFace s y := fun r0 h0 => by
  obtain ⟨c, r, mz, -, -, hz2, -, k, hk, hi⟩ := Cond.selects_spec ws
  have f1 := findClass_of_methodNamed h0
  have f2 := findClass_of_methodNamed hz2
  rw [hz] at f2
  have e1 : r0.cls = mz.cls := Option.some.inj (f1.symm.trans f2)
  exact ⟨k, by rw [e1]; exact hk, hi⟩
theorem gCallU (X : Sd Z D p l e R s m args below meth c n0 T h cells slots) (w : Cx Z own nm bytes maxL ret p s m meth c) {y : MethodName} {yb : ByteArray} {yl : Nat} {yr : Option FieldType} {rm : Room} {Q : Option Value → Heap → (Addr → Prop) → Prop} {idx W : Nat} {b : Addr} {K0 : String} (aL rest : List Value) {ps : List FieldType} {r : Option FieldType} (F : Ins Z h b K0 true)
    (hM : Con l Z y yb yl yr [] rm rm.cells rm.slots (.ref b :: aL).toArray h n0 D Q) (w1 : (Jvm.Cond.methodLink own idx y).before a0 Z = true) (w2 : (Jvm.Cond.sameMethod y.cls y.cls y.name y.desc).before a0 Z = true) (w6 : (Jvm.Cond.instanceMethod y).before a0 Z = true) (w5 : (Jvm.Cond.superclass own y.cls).before a0 Z = true) (hni : y.name ≠ "<init>") (w3 : (Jvm.Cond.initialized y.cls).before a0 Z = true) (w4 : (Jvm.Cond.code y yb yl yr).before a0 Z = true)
    (hpd : parseMethodDescriptor y.desc = some ⟨ps, r⟩) (hlen : aL.length = ps.length) (hstk : st = aL.reverse ++ .ref b :: rest) (hd : decode bytes pc = .ok (.invokespecial idx, 3)) (hsz : ls.size = maxL) (hW : (rest.map fun v => v.category).sum ≤ W)
    (hf : rm.frames + 1 ≤ R.frames) (hl : W + (yl + 11) + rm.locals ≤ R.locals) (hcc : cells + rm.cells ≤ R.cells) (hss : slots + rm.slots ≤ R.slots) (hn : pc + 3 = n)
    (K : ∀ T' h' v (D' : Addr → Prop), Q v h' D' → Sd Z D' p l e R s m args below meth c n0 T' h' (cells + rm.cells) (slots + rm.slots) → Gl Z p e below s n0 P C S (T'.setTop (mkF m n ls (v.toList ++ rest)))) : Gl Z p e below s n0 P C S (T.setTop (mkF m pc ls st)) := by
  obtain ⟨locs, vm0, k0, X, N, eh, hn0, hS, hk0, hH⟩ := X; obtain ⟨hx, hby, hZ, hown, -, hml, -⟩ := w; have hZ := State.Warmed39.trans hZ hS.1; have hown := (hS.1.alike.findClass _ _).trans hown; subst hn
  obtain ⟨v, vm, ⟨T', L, k, sl⟩, -, X', hS2, hgr, ⟨Lc, D', ⟨hQ, NL, hH'⟩, l1, y1, z1⟩, st'⟩ := superBackS X hx hZ hown w1 w2 w6 w5 hni (backOfSD (W := W) hM hZ w4 w3 hf hl hH) eh F (g := mkF m pc ls st) rfl (by rw [hml]; exact hsz) w4 (argsL := aL) (rest := rest) (lenOf hpd hlen) hstk (by show 2 * 0 + _ ≤ _; rw [Nat.mul_zero, Nat.zero_add]; exact hW) (hb hby hd) (fun _ _ => ⟨rfl, eh, hcc, hss⟩)
  dsimp only [Pt.U, Pt.locs, Pt.cells, Pt.slots] at X' l1 y1 z1 st' hQ hS2 hgr hH'
  subst l1 y1 z1
  exact Gl.of (fun t k => st'.trans k) (K T' T'.heap v D' hQ ⟨_, T'.vm, T'.heap.size, X', Fr.app N NL, rfl, hn0, hS.trans hS2 (Nat.le_trans hk0 (by rw [← eh]; exact hgr)), Nat.le_refl _, hH'⟩)
theorem gCallF (X : Sd Z D p l e R s m args below meth c n0 T h cells slots) (w : Cx Z own nm bytes maxL ret p s m meth c) {y z : MethodName} {yb : ByteArray} {yl : Nat} {yr : Option FieldType} {rm : Room} {Q : Option Value → Heap → (Addr → Prop) → Prop} {idx cnt W : Nat} {b : Addr} {C0 : String} (aL rest : List Value) {ps : List FieldType} {r : Option FieldType} (E : Exa Z h b C0)
    (hM : Con l Z z yb yl yr [] rm rm.cells rm.slots (.ref b :: aL).toArray h n0 D Q) (w1 : (Jvm.Cond.methodLink own idx y).before a0 Z = true) (w2 : (Jvm.Cond.declares y).before a0 Z = true) (wf : (Jvm.Cond.interfaceMethod y.cls y.cls y.name y.desc).before a0 Z = true) (w5 : (Jvm.Cond.selects C0 y z).before a0 Z = true) (w6 : (Jvm.Cond.instanceMethod z).before a0 Z = true) (wp : (Jvm.Cond.publicMethod z).before a0 Z = true) (wu : (Jvm.Cond.unhidden C0 y.name y.desc).before a0 Z = true) (wk : (Jvm.Cond.castable C0 y.cls).before a0 Z = true) (w3 : (Jvm.Cond.initialized z.cls).before a0 Z = true) (w4 : (Jvm.Cond.code z yb yl yr).before a0 Z = true) (hy : y.cls ≠ "java/lang/invoke/MethodHandle" ∧ y.cls ≠ "java/lang/invoke/VarHandle")
    (hpd : parseMethodDescriptor y.desc = some ⟨ps, r⟩) (hlen : aL.length = ps.length) (hstk : st = aL.reverse ++ .ref b :: rest) (hd : decode bytes pc = .ok (.invokeinterface idx cnt, 5)) (hsz : ls.size = maxL) (hW : (rest.map fun v => v.category).sum ≤ W)
    (hf : rm.frames + 1 ≤ R.frames) (hl : W + (yl + 11) + rm.locals ≤ R.locals) (hcc : cells + rm.cells ≤ R.cells) (hss : slots + rm.slots ≤ R.slots) (hn : pc + 5 = n)
    (K : ∀ T' h' v (D' : Addr → Prop), Q v h' D' → Sd Z D' p l e R s m args below meth c n0 T' h' (cells + rm.cells) (slots + rm.slots) → Gl Z p e below s n0 P C S (T'.setTop (mkF m n ls (v.toList ++ rest)))) : Gl Z p e below s n0 P C S (T.setTop (mkF m pc ls st)) := by
  obtain ⟨locs, vm0, k0, X, N, eh, hn0, hS, hk0, hH⟩ := X; obtain ⟨hx, hby, hZ, hown, -, hml, -⟩ := w; have hZ := State.Warmed39.trans hZ hS.1; have hown := (hS.1.alike.findClass _ _).trans hown; subst hn
  obtain ⟨cq, kq, qa, qb, qc⟩ := isOf (s := s.setVm vm0) hZ eh E
  obtain ⟨v, vm, ⟨T', L, k, sl⟩, -, X', hS2, hgr, ⟨Lc, D', ⟨hQ, NL, hH'⟩, l1, y1, z1⟩, st'⟩ := X.interfaceBackS hx (xi := y) (y := z) hown (mvT hZ w1) (mvT hZ w2) (mvT hZ wf (by simp [Cond.onTables, Cond.keepsFace, Cond.keeps, Cond.steady, Cond.faceAtom, hy.1, hy.2])) (mvT hZ w5) (mvT hZ w6) (mvT hZ wp) (mvT hZ wu) (mvT hZ wk) hy (backOfSD (W := W) hM hZ w4 w3 hf hl hH) qa qb qc (g := mkF m pc ls st) rfl (by rw [hml]; exact hsz) (Steps.refl _) (argsL := aL) (rest := rest) (lenOf hpd hlen) hstk (by show 2 * 0 + _ ≤ _; rw [Nat.mul_zero, Nat.zero_add]; exact hW) (hb hby hd) (fun _ _ => ⟨rfl, eh, hcc, hss⟩)
  dsimp only [Pt.U, Pt.locs, Pt.cells, Pt.slots] at X' l1 y1 z1 st' hQ hS2 hgr hH'
  subst l1 y1 z1
  exact Gl.of (fun t k => st'.trans k) (K T' T'.heap v D' hQ ⟨_, T'.vm, T'.heap.size, X', Fr.app N NL, rfl, hn0, hS.trans hS2 (Nat.le_trans hk0 (by rw [← eh]; exact hgr)), Nat.le_refl _, hH'⟩)
theorem gCallUvL (X : Sd Z D p l e R s m args below meth c n0 T h cells slots) (w : Cx Z own nm bytes maxL ret p s m meth c) {y : MethodName} {yb : ByteArray} {yl : Nat} {yr : Option FieldType} {rm : Room} {Q : Value → Heap → (Addr → Prop) → Prop} {idx W : Nat} {b : Addr} {K0 : String} (aL rest : List Value) {ps : List FieldType} {r : Option FieldType} (F : Ins Z h b K0 true)
    (hM : ConVL l Z y yb yl yr rm (.ref b :: aL).toArray h n0 D Q) (w1 : (Jvm.Cond.methodLink own idx y).before a0 Z = true) (w2 : (Jvm.Cond.sameMethod y.cls y.cls y.name y.desc).before a0 Z = true) (w6 : (Jvm.Cond.instanceMethod y).before a0 Z = true) (w5 : (Jvm.Cond.superclass own y.cls).before a0 Z = true) (hni : y.name ≠ "<init>") (w3 : (Jvm.Cond.initialized y.cls).before a0 Z = true) (w4 : (Jvm.Cond.code y yb yl yr).before a0 Z = true)
    (hpd : parseMethodDescriptor y.desc = some ⟨ps, r⟩) (hlen : aL.length = ps.length) (hstk : st = aL.reverse ++ .ref b :: rest) (hd : decode bytes pc = .ok (.invokespecial idx, 3)) (hsz : ls.size = maxL) (hW : (rest.map fun v => v.category).sum ≤ W)
    (hf : rm.frames + 1 ≤ R.frames) (hl : W + (yl + 11) + rm.locals ≤ R.locals) (hcc : cells + rm.cells ≤ R.cells) (hss : slots + rm.slots ≤ R.slots) (hn : pc + 3 = n)
    (K : ∀ T' h' v (D' : Addr → Prop), Q v h' D' → Sd Z D' p l e R s m args below meth c n0 T' h' (cells + rm.cells) (slots + rm.slots) → Gl Z p e below s n0 P C S (T'.setTop (mkF m n ls (v :: rest)))) : Gl Z p e below s n0 P C S (T.setTop (mkF m pc ls st)) :=
  gCallU X w aL rest F hM w1 w2 w6 w5 hni w3 w4 hpd hlen hstk hd hsz hW hf hl hcc hss hn (fun T' h' v D' q X2 => by obtain ⟨v', rfl, q⟩ := q; exact K T' h' v' D' q X2)
theorem gCallUv (X : Sd Z D p l e R s m args below meth c n0 T h cells slots) (w : Cx Z own nm bytes maxL ret p s m meth c) {y : MethodName} {yb : ByteArray} {yl : Nat} {yr : Option FieldType} {rm : Room} {Q : Value → Heap → Prop} {idx W : Nat} {b : Addr} {K0 : String} (aL rest : List Value) {ps : List FieldType} {r : Option FieldType} (F : Ins Z h b K0 true)
    (hM : ConV l Z y yb yl yr rm (.ref b :: aL).toArray h n0 D Q) (w1 : (Jvm.Cond.methodLink own idx y).before a0 Z = true) (w2 : (Jvm.Cond.sameMethod y.cls y.cls y.name y.desc).before a0 Z = true) (w6 : (Jvm.Cond.instanceMethod y).before a0 Z = true) (w5 : (Jvm.Cond.superclass own y.cls).before a0 Z = true) (hni : y.name ≠ "<init>") (w3 : (Jvm.Cond.initialized y.cls).before a0 Z = true) (w4 : (Jvm.Cond.code y yb yl yr).before a0 Z = true)
    (hpd : parseMethodDescriptor y.desc = some ⟨ps, r⟩) (hlen : aL.length = ps.length) (hstk : st = aL.reverse ++ .ref b :: rest) (hd : decode bytes pc = .ok (.invokespecial idx, 3)) (hsz : ls.size = maxL) (hW : (rest.map fun v => v.category).sum ≤ W)
    (hf : rm.frames + 1 ≤ R.frames) (hl : W + (yl + 11) + rm.locals ≤ R.locals) (hcc : cells + rm.cells ≤ R.cells) (hss : slots + rm.slots ≤ R.slots) (hn : pc + 3 = n)
    (K : ∀ T' h' v, Q v h' → Sd Z D p l e R s m args below meth c n0 T' h' (cells + rm.cells) (slots + rm.slots) → Gl Z p e below s n0 P C S (T'.setTop (mkF m n ls (v :: rest)))) : Gl Z p e below s n0 P C S (T.setTop (mkF m pc ls st)) :=
  gCallU X w aL rest F hM w1 w2 w6 w5 hni w3 w4 hpd hlen hstk hd hsz hW hf hl hcc hss hn (fun T' h' v D' q X2 => by obtain ⟨e_, v', rfl, q⟩ := q; exact K T' h' v' q (by rw [← e_]; exact X2))
theorem gCallUnL (X : Sd Z D p l e R s m args below meth c n0 T h cells slots) (w : Cx Z own nm bytes maxL ret p s m meth c) {y : MethodName} {yb : ByteArray} {yl : Nat} {rm : Room} {Q : Heap → (Addr → Prop) → Prop} {idx W : Nat} {b : Addr} {K0 : String} (aL rest : List Value) {ps : List FieldType} {r : Option FieldType} (F : Ins Z h b K0 true)
    (hM : ConNL l Z y yb yl rm (.ref b :: aL).toArray h n0 D Q) (w1 : (Jvm.Cond.methodLink own idx y).before a0 Z = true) (w2 : (Jvm.Cond.sameMethod y.cls y.cls y.name y.desc).before a0 Z = true) (w6 : (Jvm.Cond.instanceMethod y).before a0 Z = true) (w5 : (Jvm.Cond.superclass own y.cls).before a0 Z = true) (hni : y.name ≠ "<init>") (w3 : (Jvm.Cond.initialized y.cls).before a0 Z = true) (w4 : (Jvm.Cond.code y yb yl none).before a0 Z = true)
    (hpd : parseMethodDescriptor y.desc = some ⟨ps, r⟩) (hlen : aL.length = ps.length) (hstk : st = aL.reverse ++ .ref b :: rest) (hd : decode bytes pc = .ok (.invokespecial idx, 3)) (hsz : ls.size = maxL) (hW : (rest.map fun v => v.category).sum ≤ W)
    (hf : rm.frames + 1 ≤ R.frames) (hl : W + (yl + 11) + rm.locals ≤ R.locals) (hcc : cells + rm.cells ≤ R.cells) (hss : slots + rm.slots ≤ R.slots) (hn : pc + 3 = n)
    (K : ∀ T' h' (D' : Addr → Prop), Q h' D' → Sd Z D' p l e R s m args below meth c n0 T' h' (cells + rm.cells) (slots + rm.slots) → Gl Z p e below s n0 P C S (T'.setTop (mkF m n ls rest))) : Gl Z p e below s n0 P C S (T.setTop (mkF m pc ls st)) :=
  gCallU X w aL rest F hM w1 w2 w6 w5 hni w3 w4 hpd hlen hstk hd hsz hW hf hl hcc hss hn (fun T' h' v D' q X2 => by obtain ⟨rfl, q⟩ := q; exact K T' h' D' q X2)
theorem gCallUn (X : Sd Z D p l e R s m args below meth c n0 T h cells slots) (w : Cx Z own nm bytes maxL ret p s m meth c) {y : MethodName} {yb : ByteArray} {yl : Nat} {rm : Room} {Q : Heap → Prop} {idx W : Nat} {b : Addr} {K0 : String} (aL rest : List Value) {ps : List FieldType} {r : Option FieldType} (F : Ins Z h b K0 true)
    (hM : ConN l Z y yb yl rm (.ref b :: aL).toArray h n0 D Q) (w1 : (Jvm.Cond.methodLink own idx y).before a0 Z = true) (w2 : (Jvm.Cond.sameMethod y.cls y.cls y.name y.desc).before a0 Z = true) (w6 : (Jvm.Cond.instanceMethod y).before a0 Z = true) (w5 : (Jvm.Cond.superclass own y.cls).before a0 Z = true) (hni : y.name ≠ "<init>") (w3 : (Jvm.Cond.initialized y.cls).before a0 Z = true) (w4 : (Jvm.Cond.code y yb yl none).before a0 Z = true)
    (hpd : parseMethodDescriptor y.desc = some ⟨ps, r⟩) (hlen : aL.length = ps.length) (hstk : st = aL.reverse ++ .ref b :: rest) (hd : decode bytes pc = .ok (.invokespecial idx, 3)) (hsz : ls.size = maxL) (hW : (rest.map fun v => v.category).sum ≤ W)
    (hf : rm.frames + 1 ≤ R.frames) (hl : W + (yl + 11) + rm.locals ≤ R.locals) (hcc : cells + rm.cells ≤ R.cells) (hss : slots + rm.slots ≤ R.slots) (hn : pc + 3 = n)
    (K : ∀ T' h', Q h' → Sd Z D p l e R s m args below meth c n0 T' h' (cells + rm.cells) (slots + rm.slots) → Gl Z p e below s n0 P C S (T'.setTop (mkF m n ls rest))) : Gl Z p e below s n0 P C S (T.setTop (mkF m pc ls st)) :=
  gCallU X w aL rest F hM w1 w2 w6 w5 hni w3 w4 hpd hlen hstk hd hsz hW hf hl hcc hss hn (fun T' h' v D' q X2 => by obtain ⟨e_, rfl, q⟩ := q; exact K T' h' q (by rw [← e_]; exact X2))
theorem gCallFvL (X : Sd Z D p l e R s m args below meth c n0 T h cells slots) (w : Cx Z own nm bytes maxL ret p s m meth c) {y z : MethodName} {yb : ByteArray} {yl : Nat} {yr : Option FieldType} {rm : Room} {Q : Value → Heap → (Addr → Prop) → Prop} {idx cnt W : Nat} {b : Addr} {C0 : String} (aL rest : List Value) {ps : List FieldType} {r : Option FieldType} (E : Exa Z h b C0)
    (hM : ConVL l Z z yb yl yr rm (.ref b :: aL).toArray h n0 D Q) (w1 : (Jvm.Cond.methodLink own idx y).before a0 Z = true) (w2 : (Jvm.Cond.declares y).before a0 Z = true) (wf : (Jvm.Cond.interfaceMethod y.cls y.cls y.name y.desc).before a0 Z = true) (w5 : (Jvm.Cond.selects C0 y z).before a0 Z = true) (w6 : (Jvm.Cond.instanceMethod z).before a0 Z = true) (wp : (Jvm.Cond.publicMethod z).before a0 Z = true) (wu : (Jvm.Cond.unhidden C0 y.name y.desc).before a0 Z = true) (wk : (Jvm.Cond.castable C0 y.cls).before a0 Z = true) (w3 : (Jvm.Cond.initialized z.cls).before a0 Z = true) (w4 : (Jvm.Cond.code z yb yl yr).before a0 Z = true) (hy : y.cls ≠ "java/lang/invoke/MethodHandle" ∧ y.cls ≠ "java/lang/invoke/VarHandle")
    (hpd : parseMethodDescriptor y.desc = some ⟨ps, r⟩) (hlen : aL.length = ps.length) (hstk : st = aL.reverse ++ .ref b :: rest) (hd : decode bytes pc = .ok (.invokeinterface idx cnt, 5)) (hsz : ls.size = maxL) (hW : (rest.map fun v => v.category).sum ≤ W)
    (hf : rm.frames + 1 ≤ R.frames) (hl : W + (yl + 11) + rm.locals ≤ R.locals) (hcc : cells + rm.cells ≤ R.cells) (hss : slots + rm.slots ≤ R.slots) (hn : pc + 5 = n)
    (K : ∀ T' h' v (D' : Addr → Prop), Q v h' D' → Sd Z D' p l e R s m args below meth c n0 T' h' (cells + rm.cells) (slots + rm.slots) → Gl Z p e below s n0 P C S (T'.setTop (mkF m n ls (v :: rest)))) : Gl Z p e below s n0 P C S (T.setTop (mkF m pc ls st)) :=
  gCallF X w aL rest E hM w1 w2 wf w5 w6 wp wu wk w3 w4 hy hpd hlen hstk hd hsz hW hf hl hcc hss hn (fun T' h' v D' q X2 => by obtain ⟨v', rfl, q⟩ := q; exact K T' h' v' D' q X2)
theorem gCallFv (X : Sd Z D p l e R s m args below meth c n0 T h cells slots) (w : Cx Z own nm bytes maxL ret p s m meth c) {y z : MethodName} {yb : ByteArray} {yl : Nat} {yr : Option FieldType} {rm : Room} {Q : Value → Heap → Prop} {idx cnt W : Nat} {b : Addr} {C0 : String} (aL rest : List Value) {ps : List FieldType} {r : Option FieldType} (E : Exa Z h b C0)
    (hM : ConV l Z z yb yl yr rm (.ref b :: aL).toArray h n0 D Q) (w1 : (Jvm.Cond.methodLink own idx y).before a0 Z = true) (w2 : (Jvm.Cond.declares y).before a0 Z = true) (wf : (Jvm.Cond.interfaceMethod y.cls y.cls y.name y.desc).before a0 Z = true) (w5 : (Jvm.Cond.selects C0 y z).before a0 Z = true) (w6 : (Jvm.Cond.instanceMethod z).before a0 Z = true) (wp : (Jvm.Cond.publicMethod z).before a0 Z = true) (wu : (Jvm.Cond.unhidden C0 y.name y.desc).before a0 Z = true) (wk : (Jvm.Cond.castable C0 y.cls).before a0 Z = true) (w3 : (Jvm.Cond.initialized z.cls).before a0 Z = true) (w4 : (Jvm.Cond.code z yb yl yr).before a0 Z = true) (hy : y.cls ≠ "java/lang/invoke/MethodHandle" ∧ y.cls ≠ "java/lang/invoke/VarHandle")
    (hpd : parseMethodDescriptor y.desc = some ⟨ps, r⟩) (hlen : aL.length = ps.length) (hstk : st = aL.reverse ++ .ref b :: rest) (hd : decode bytes pc = .ok (.invokeinterface idx cnt, 5)) (hsz : ls.size = maxL) (hW : (rest.map fun v => v.category).sum ≤ W)
    (hf : rm.frames + 1 ≤ R.frames) (hl : W + (yl + 11) + rm.locals ≤ R.locals) (hcc : cells + rm.cells ≤ R.cells) (hss : slots + rm.slots ≤ R.slots) (hn : pc + 5 = n)
    (K : ∀ T' h' v, Q v h' → Sd Z D p l e R s m args below meth c n0 T' h' (cells + rm.cells) (slots + rm.slots) → Gl Z p e below s n0 P C S (T'.setTop (mkF m n ls (v :: rest)))) : Gl Z p e below s n0 P C S (T.setTop (mkF m pc ls st)) :=
  gCallF X w aL rest E hM w1 w2 wf w5 w6 wp wu wk w3 w4 hy hpd hlen hstk hd hsz hW hf hl hcc hss hn (fun T' h' v D' q X2 => by obtain ⟨e_, v', rfl, q⟩ := q; exact K T' h' v' q (by rw [← e_]; exact X2))
theorem gCallFnL (X : Sd Z D p l e R s m args below meth c n0 T h cells slots) (w : Cx Z own nm bytes maxL ret p s m meth c) {y z : MethodName} {yb : ByteArray} {yl : Nat} {rm : Room} {Q : Heap → (Addr → Prop) → Prop} {idx cnt W : Nat} {b : Addr} {C0 : String} (aL rest : List Value) {ps : List FieldType} {r : Option FieldType} (E : Exa Z h b C0)
    (hM : ConNL l Z z yb yl rm (.ref b :: aL).toArray h n0 D Q) (w1 : (Jvm.Cond.methodLink own idx y).before a0 Z = true) (w2 : (Jvm.Cond.declares y).before a0 Z = true) (wf : (Jvm.Cond.interfaceMethod y.cls y.cls y.name y.desc).before a0 Z = true) (w5 : (Jvm.Cond.selects C0 y z).before a0 Z = true) (w6 : (Jvm.Cond.instanceMethod z).before a0 Z = true) (wp : (Jvm.Cond.publicMethod z).before a0 Z = true) (wu : (Jvm.Cond.unhidden C0 y.name y.desc).before a0 Z = true) (wk : (Jvm.Cond.castable C0 y.cls).before a0 Z = true) (w3 : (Jvm.Cond.initialized z.cls).before a0 Z = true) (w4 : (Jvm.Cond.code z yb yl none).before a0 Z = true) (hy : y.cls ≠ "java/lang/invoke/MethodHandle" ∧ y.cls ≠ "java/lang/invoke/VarHandle")
    (hpd : parseMethodDescriptor y.desc = some ⟨ps, r⟩) (hlen : aL.length = ps.length) (hstk : st = aL.reverse ++ .ref b :: rest) (hd : decode bytes pc = .ok (.invokeinterface idx cnt, 5)) (hsz : ls.size = maxL) (hW : (rest.map fun v => v.category).sum ≤ W)
    (hf : rm.frames + 1 ≤ R.frames) (hl : W + (yl + 11) + rm.locals ≤ R.locals) (hcc : cells + rm.cells ≤ R.cells) (hss : slots + rm.slots ≤ R.slots) (hn : pc + 5 = n)
    (K : ∀ T' h' (D' : Addr → Prop), Q h' D' → Sd Z D' p l e R s m args below meth c n0 T' h' (cells + rm.cells) (slots + rm.slots) → Gl Z p e below s n0 P C S (T'.setTop (mkF m n ls rest))) : Gl Z p e below s n0 P C S (T.setTop (mkF m pc ls st)) :=
  gCallF X w aL rest E hM w1 w2 wf w5 w6 wp wu wk w3 w4 hy hpd hlen hstk hd hsz hW hf hl hcc hss hn (fun T' h' v D' q X2 => by obtain ⟨rfl, q⟩ := q; exact K T' h' D' q X2)
theorem gCallFn (X : Sd Z D p l e R s m args below meth c n0 T h cells slots) (w : Cx Z own nm bytes maxL ret p s m meth c) {y z : MethodName} {yb : ByteArray} {yl : Nat} {rm : Room} {Q : Heap → Prop} {idx cnt W : Nat} {b : Addr} {C0 : String} (aL rest : List Value) {ps : List FieldType} {r : Option FieldType} (E : Exa Z h b C0)
    (hM : ConN l Z z yb yl rm (.ref b :: aL).toArray h n0 D Q) (w1 : (Jvm.Cond.methodLink own idx y).before a0 Z = true) (w2 : (Jvm.Cond.declares y).before a0 Z = true) (wf : (Jvm.Cond.interfaceMethod y.cls y.cls y.name y.desc).before a0 Z = true) (w5 : (Jvm.Cond.selects C0 y z).before a0 Z = true) (w6 : (Jvm.Cond.instanceMethod z).before a0 Z = true) (wp : (Jvm.Cond.publicMethod z).before a0 Z = true) (wu : (Jvm.Cond.unhidden C0 y.name y.desc).before a0 Z = true) (wk : (Jvm.Cond.castable C0 y.cls).before a0 Z = true) (w3 : (Jvm.Cond.initialized z.cls).before a0 Z = true) (w4 : (Jvm.Cond.code z yb yl none).before a0 Z = true) (hy : y.cls ≠ "java/lang/invoke/MethodHandle" ∧ y.cls ≠ "java/lang/invoke/VarHandle")
    (hpd : parseMethodDescriptor y.desc = some ⟨ps, r⟩) (hlen : aL.length = ps.length) (hstk : st = aL.reverse ++ .ref b :: rest) (hd : decode bytes pc = .ok (.invokeinterface idx cnt, 5)) (hsz : ls.size = maxL) (hW : (rest.map fun v => v.category).sum ≤ W)
    (hf : rm.frames + 1 ≤ R.frames) (hl : W + (yl + 11) + rm.locals ≤ R.locals) (hcc : cells + rm.cells ≤ R.cells) (hss : slots + rm.slots ≤ R.slots) (hn : pc + 5 = n)
    (K : ∀ T' h', Q h' → Sd Z D p l e R s m args below meth c n0 T' h' (cells + rm.cells) (slots + rm.slots) → Gl Z p e below s n0 P C S (T'.setTop (mkF m n ls rest))) : Gl Z p e below s n0 P C S (T.setTop (mkF m pc ls st)) :=
  gCallF X w aL rest E hM w1 w2 wf w5 w6 wp wu wk w3 w4 hy hpd hlen hstk hd hsz hW hf hl hcc hss hn (fun T' h' v D' q X2 => by obtain ⟨e_, rfl, q⟩ := q; exact K T' h' q (by rw [← e_]; exact X2))
theorem gCallVnL (X : Sd Z D p l e R s m args below meth c n0 T h cells slots) (w : Cx Z own nm bytes maxL ret p s m meth c) {y z : MethodName} {yb : ByteArray} {yl : Nat} {rm : Room} {Q : Heap → (Addr → Prop) → Prop} {idx W : Nat} {b : Addr} {C0 : String} (aL rest : List Value) {ps : List FieldType} {r : Option FieldType} (E : Exa Z h b C0)
    (hM : ConNL l Z z yb yl rm (.ref b :: aL).toArray h n0 D Q) (w1 : (Jvm.Cond.methodLink own idx y).before a0 Z = true) (w2 : (Jvm.Cond.declares y).before a0 Z = true) (hnf : ∀ vm0, s.Since vm0 h.size → NotFace (s.setVm vm0) y) (w5 : (Jvm.Cond.selects C0 y z).before a0 Z = true) (w6 : (Jvm.Cond.instanceMethod z).before a0 Z = true) (w3 : (Jvm.Cond.initialized z.cls).before a0 Z = true) (w4 : (Jvm.Cond.code z yb yl none).before a0 Z = true) (hy : y.cls ≠ "java/lang/invoke/MethodHandle" ∧ y.cls ≠ "java/lang/invoke/VarHandle")
    (hpd : parseMethodDescriptor y.desc = some ⟨ps, r⟩) (hlen : aL.length = ps.length) (hstk : st = aL.reverse ++ .ref b :: rest) (hd : decode bytes pc = .ok (.invokevirtual idx, 3)) (hsz : ls.size = maxL) (hW : (rest.map fun v => v.category).sum ≤ W)
    (hf : rm.frames + 1 ≤ R.frames) (hl : W + (yl + 11) + rm.locals ≤ R.locals) (hcc : cells + rm.cells ≤ R.cells) (hss : slots + rm.slots ≤ R.slots) (hn : pc + 3 = n)
    (K : ∀ T' h' (D' : Addr → Prop), Q h' D' → Sd Z D' p l e R s m args below meth c n0 T' h' (cells + rm.cells) (slots + rm.slots) → Gl Z p e below s n0 P C S (T'.setTop (mkF m n ls rest))) : Gl Z p e below s n0 P C S (T.setTop (mkF m pc ls st)) :=
  gCallV X w aL rest E hM w1 w2 hnf w5 w6 w3 w4 hy hpd hlen hstk hd hsz hW hf hl hcc hss hn (fun T' h' v D' q X2 => by obtain ⟨rfl, q⟩ := q; exact K T' h' D' q X2)
theorem gCallVn (X : Sd Z D p l e R s m args below meth c n0 T h cells slots) (w : Cx Z own nm bytes maxL ret p s m meth c) {y z : MethodName} {yb : ByteArray} {yl : Nat} {rm : Room} {Q : Heap → Prop} {idx W : Nat} {b : Addr} {C0 : String} (aL rest : List Value) {ps : List FieldType} {r : Option FieldType} (E : Exa Z h b C0)
    (hM : ConN l Z z yb yl rm (.ref b :: aL).toArray h n0 D Q) (w1 : (Jvm.Cond.methodLink own idx y).before a0 Z = true) (w2 : (Jvm.Cond.declares y).before a0 Z = true) (hnf : ∀ vm0, s.Since vm0 h.size → NotFace (s.setVm vm0) y) (w5 : (Jvm.Cond.selects C0 y z).before a0 Z = true) (w6 : (Jvm.Cond.instanceMethod z).before a0 Z = true) (w3 : (Jvm.Cond.initialized z.cls).before a0 Z = true) (w4 : (Jvm.Cond.code z yb yl none).before a0 Z = true) (hy : y.cls ≠ "java/lang/invoke/MethodHandle" ∧ y.cls ≠ "java/lang/invoke/VarHandle")
    (hpd : parseMethodDescriptor y.desc = some ⟨ps, r⟩) (hlen : aL.length = ps.length) (hstk : st = aL.reverse ++ .ref b :: rest) (hd : decode bytes pc = .ok (.invokevirtual idx, 3)) (hsz : ls.size = maxL) (hW : (rest.map fun v => v.category).sum ≤ W)
    (hf : rm.frames + 1 ≤ R.frames) (hl : W + (yl + 11) + rm.locals ≤ R.locals) (hcc : cells + rm.cells ≤ R.cells) (hss : slots + rm.slots ≤ R.slots) (hn : pc + 3 = n)
    (K : ∀ T' h', Q h' → Sd Z D p l e R s m args below meth c n0 T' h' (cells + rm.cells) (slots + rm.slots) → Gl Z p e below s n0 P C S (T'.setTop (mkF m n ls rest))) : Gl Z p e below s n0 P C S (T.setTop (mkF m pc ls st)) :=
  gCallV X w aL rest E hM w1 w2 hnf w5 w6 w3 w4 hy hpd hlen hstk hd hsz hW hf hl hcc hss hn (fun T' h' v D' q X2 => by obtain ⟨e_, rfl, q⟩ := q; exact K T' h' q (by rw [← e_]; exact X2))
theorem gAbsD (X : Sd Z D p l e R s m args below meth c n0 T h cells slots) (w : Cx Z own nm bytes maxL ret p s m meth c) {idx W : Nat} {u : UInt64} {rest : List Value} (hu : Jvm.Free.Fl.NoNaN64 u) (w1 : (Jvm.Cond.methodLink own idx Jvm.Free.Fl.Abs.absDN).before a0 Z = true) (w2 : (Jvm.Cond.static Jvm.Free.Fl.Abs.absDN).before a0 Z = true) (w3 : (Jvm.Cond.initialized "java/lang/Math").before a0 Z = true) (w4 : (Jvm.Cond.code Jvm.Free.Fl.Abs.absDN Jvm.Free.Fl.Abs.absDCode 2 (some .double)).before a0 Z = true)
    (hd : decode bytes pc = .ok (.invokestatic idx, 3)) (hsz : ls.size = maxL) (hf : 1 ≤ R.frames) (hW : (rest.map fun v => v.category).sum ≤ W) (hl : W + 13 ≤ R.locals) (hcc : cells ≤ R.cells) (hss : slots ≤ R.slots) (hn : pc + 3 = n)
    (K : ∀ T', Sd Z D p l e R s m args below meth c n0 T' h cells slots → Gl Z p e below s n0 P C S (T'.setTop (mkF m n ls (.double (u &&& 0x7fffffffffffffff) :: rest)))) : Gl Z p e below s n0 P C S (T.setTop (mkF m pc ls (.double u :: rest))) := by
  obtain ⟨locs, vm0, k0, X, N, eh, hn0, hS, hk0, hH⟩ := X; obtain ⟨hx, hby, hZ, hown, -, hml, -⟩ := w; have hZ := State.Warmed39.trans hZ hS.1; have hown := (hS.1.alike.findClass _ _).trans hown; subst hn
  have hpd : parseMethodDescriptor "(D)D" = some ⟨[.double], some .double⟩ := by decide +kernel
  obtain ⟨v, vm, ⟨T', L, k, sl⟩, -, X', ⟨hv, hB⟩, st'⟩ := Jvm.LawKit.callS X hx (y := Jvm.Free.Fl.Abs.absDN) hown (mvT hZ w1) (mvT hZ w2) (mvT hZ w3) (mvT hZ w4) (by decide) (Jvm.Free.Fl.Abs.absD_pays (W := W) u (mvT hZ w4) hf hl) (g := mkF m pc ls (.double u :: rest)) rfl (by rw [hml]; exact hsz) (argsL := [.double u]) (rest := rest) (lenOf hpd rfl) rfl (by show 2 * 0 + _ ≤ _; rw [Nat.mul_zero, Nat.zero_add]; exact hW) (hb hby hd) (fun _ _ => ⟨hcc, hss, rfl, hu⟩)
  dsimp only [Pt.U, Pt.locs, Pt.cells, Pt.slots] at X' st' hv hB
  cases hB; subst hv
  have e' : (T.setVm vm).heap = h := eh
  exact Gl.of st' (K _ ⟨_, vm0, k0, X', N, e', hn0, hS, hk0, hH⟩)
theorem gAlen (X : Sd Z D p l e R s m args below meth c n0 T h cells slots) (w : Cx Z own nm bytes maxL ret p s m meth c) {a : Addr} {ty : FieldType} {vs : List Value} {z : Int32} (F : Av Z h a ty vs) (hz : vs.length.toInt32 = z) (hd : decode bytes pc = .ok (.arraylength, 1)) (hn : pc + 1 = n) (K : Gl Z p e below s n0 P C S (T.setTop (mkF m n ls (.int z :: st)))) : Gl Z p e below s n0 P C S (T.setTop (mkF m pc ls (.ref a :: st))) := by
  obtain ⟨locs, vm0, k0, X, N, eh, hn0, hS, hk0, hH⟩ := X; obtain ⟨hx, hby, hZ, hown, hnm, hml, -⟩ := w; have hZ := State.Warmed39.trans hZ hS.1; have hown := (hS.1.alike.findClass _ _).trans hown; subst hn hz
  obtain ⟨cl, A, q⟩ := F
  have hs : cl.slots.size = vs.length := by rw [q]; simp
  rw [← hs] at K
  exact Gl.of (fun t k => X.arraylength hx (by rw [eh]; exact A.1) (State.isArrayOf_alike hZ.alike A.2.1) (g := mkF m pc ls (.ref a :: st)) rfl rfl (hb hby hd) _ k) K
theorem eqR {args : Array Value} {s : State} {t u : Term} {b : Addr} (hu : u.eval args s none [] s = some (.ref b)) (h : (Jvm.Cond.eq t u).value args s none s [] = some true) : t.eval args s none [] s = some (.ref b) := by
  obtain ⟨x, y, hx, hy, k1, k2⟩ := cmp_v (Or.inl h)
  cases hu.symm.trans hy
  obtain ⟨-, q⟩ := (k2 : (Value.ref b).isRef = true ∧ x.isRef = true)
  have e := gotT (eq_R hx hy q rfl) h
  rw [hx, e]
theorem eqI {args : Array Value} {s : State} {t u : Term} {z : Int32} (hu : u.eval args s none [] s = some (.int z)) (h : (Jvm.Cond.eq t u).value args s none s [] = some true) : t.eval args s none [] s = some (.int z) := by
  obtain ⟨x, y, hx, hy, k1, k2⟩ := cmp_v (Or.inl h)
  cases hu.symm.trans hy
  obtain ⟨x', rfl⟩ := (k2 : ∃ z', x = .int z')
  have e : some (decide (x' = z)) = some true := by rw [← h]; simp [Cond.value, hx, hy]
  have e' : x' = z := by simpa using e
  rw [hx, e']
theorem mask31 (x : Int32) : (x &&& 2147483647).toInt = x.toInt % 2147483648 := c_mask x 2147483647 31 (by decide) (by decide)
theorem irem_pos {x y : Int32} (hx : 0 ≤ x.toInt) : (x % y).toInt = x.toInt % y.toInt := (c_irem x y _ rfl).1 hx
theorem lrem_pos {x y : Int64} (hx : 0 ≤ x.toInt) : (x % y).toInt = x.toInt % y.toInt := by rw [← lrem_mod]; exact (c_lrem x y _ rfl).1 hx
theorem ne0I {x : Int32} (h : x.toInt ≠ 0) : x ≠ 0 := fun e => h (by rw [e]; rfl)
theorem ne0L {x : Int64} (h : x.toInt ≠ 0) : x ≠ 0 := fun e => h (by rw [e]; rfl)
theorem iadd_toInt {x y : Int32} (h1 : -2147483648 ≤ x.toInt + y.toInt) (h2 : x.toInt + y.toInt < 2147483648) : (x + y).toInt = x.toInt + y.toInt := XT.add32 ⟨by omega, by omega⟩
theorem isub_toInt {x y : Int32} (h1 : -2147483648 ≤ x.toInt - y.toInt) (h2 : x.toInt - y.toInt < 2147483648) : (x - y).toInt = x.toInt - y.toInt := XT.sub32 ⟨by omega, by omega⟩
theorem ladd_toInt {x y : Int64} (h1 : -9223372036854775808 ≤ x.toInt + y.toInt) (h2 : x.toInt + y.toInt < 9223372036854775808) : (x + y).toInt = x.toInt + y.toInt := XT.add64 ⟨by omega, by omega⟩
theorem lsub_toInt {x y : Int64} (h1 : -9223372036854775808 ≤ x.toInt - y.toInt) (h2 : x.toInt - y.toInt < 9223372036854775808) : (x - y).toInt = x.toInt - y.toInt := XT.sub64 ⟨by omega, by omega⟩
theorem l2i_toInt {x : Int64} (h1 : -2147483648 ≤ x.toInt) (h2 : x.toInt < 2147483648) : x.toInt32.toInt = x.toInt := XT.narrowInt ⟨by omega, by omega⟩
end Walk
end Jvm.OwnWalk
namespace Jvm.Pilot.@@N@@
open Jvm Jvm.ClassFile Sem Op Lib Jvm.Free Jvm.Stand Jvm.LawKit Jvm.RoadKit Bundle Jvm.OwnWalk Jvm.Pilot.@@N@@.Jvm.D
theorem own_wd {a0 : Array Value} {Z : State} (hw : ∀ d ∈ tables_1, d.before a0 Z = true) (i : Nat) {d : Jvm.Cond} (q : tables_1[i]? = some d) : d.before a0 Z = true := hw _ (List.mem_of_getElem? q)
theorem own_e255 : (255 : Int32).toInt = 255 := rfl
theorem own_c255 {a y z : Int32} (h1 : a &&& 255 = y) (h2 : y.toUInt32.toUInt16.toUInt32.toInt32 = z) : 0 ≤ z.toInt ∧ z.toInt ≤ 255 := by
  have q1 : (a &&& 255).toInt = a.toInt % 256 := c_mask a 255 8 (by decide) (by decide)
  have q2 := c_i2c y
  rw [h1] at q1; rw [h2] at q2; omega
theorem own_narc {z : Int32} (h : 0 ≤ z.toInt ∧ z.toInt ≤ 255) : nar .char z = z := by
  have q := c_i2c z
  apply Int32.toInt_inj.mp
  show z.toUInt32.toUInt16.toUInt32.toInt32.toInt = _
  omega
/-- the byte that a Latin-1 sign is kept as -/
def own_bt (z : Int32) : Int32 := z.toInt8.toInt32
theorem own_narbt (z : Int32) : nar .byte (own_bt z) = own_bt z := by
  show z.toInt8.toInt32.toInt8.toInt32 = z.toInt8.toInt32; simp
theorem own_fitbt (z : Int32) : fits .byte (.int (own_bt z)) = true := fits_nar_byte z
theorem own_narb {x y : Int32} (h : x.toInt8.toInt32 = y) : nar .byte y = y := by
  subst h; show x.toInt8.toInt32.toInt8.toInt32 = _; simp
theorem own_fitb {x y : Int32} (h : x.toInt8.toInt32 = y) : fits .byte (.int y) = true := h ▸ fits_nar_byte x
theorem own_nz {s : State} {args : Array Value} {t : Term} {z : Int32} (ev : t.eval args s none [] s = some (.int z)) (h : (Jvm.Cond.not (.eq t (.int 0))).value args s none s [] = some true) : ¬ z = 0 := by
  intro e; subst e; simp [Cond.value, Term.eval, ev] at h
theorem own_len {s : State} {args : Array Value} {t : Term} {a : Addr} {c : Cell} {ty : FieldType} {z : Int32} (ev : t.eval args s none [] s = some (.ref a)) (A : Arr s s.heap a c ty) (h : (Term.length t).eval args s none [] s = some (.int z)) : (c.slots.size : Int) = z.toInt := by
  have q := A.fin (U := s) (Vm.Alike.refl _)
  simp only [Term.eval, ev, q, Option.bind_eq_bind, Option.bind_some] at h
  split at h
  · rename_i hl
    have e2 : c.slots.size.toInt32 = z := by simpa using h
    rw [← e2, len_toInt (by omega)]
  · cases h
def own_i2c (x : Int32) : Int32 := x.toUInt32.toUInt16.toUInt32.toInt32
def own_ch (y : Int32) : Int32 := own_i2c (y &&& 255)
def own_dg (x k : Int32) : Int32 := 48 + (x / k) % 10
theorem own_nari2c (x : Int32) : nar .char (own_i2c x) = own_i2c x := by
  have q := c_i2c x
  have q2 := c_i2c (own_i2c x)
  apply Int32.toInt_inj.mp
  show (own_i2c x).toUInt32.toUInt16.toUInt32.toInt32.toInt = (own_i2c x).toInt
  have e1 : (own_i2c x).toInt = x.toUInt32.toUInt16.toUInt32.toInt32.toInt := rfl
  omega
theorem own_i2c_id {x : Int32} (h : 0 ≤ x.toInt ∧ x.toInt ≤ 255) : own_i2c x = x := by
  have q := c_i2c x
  apply Int32.toInt_inj.mp
  show x.toUInt32.toUInt16.toUInt32.toInt32.toInt = _
  omega
theorem own_mask (x : Int32) : (x &&& 255).toInt = x.toInt % 256 := c_mask x 255 8 (by decide) (by decide)
theorem own_chbt {z : Int32} (h : 0 ≤ z.toInt ∧ z.toInt ≤ 255) : own_ch (own_bt z) = z := by
  have q := (c_i2b z).1
  have q2 := own_mask (own_bt z)
  have e0 : (own_bt z).toInt = z.toInt8.toInt32.toInt := rfl
  have e1 : own_bt z &&& 255 = z := Int32.toInt_inj.mp (by omega)
  show own_i2c (own_bt z &&& 255) = z
  rw [e1]; exact own_i2c_id h
theorem own_dgr {x k : Int32} (hx : 0 ≤ x.toInt ∧ x.toInt ≤ 65535) (hk : 0 < k.toInt) : (own_dg x k).toInt = 48 + (x.toInt / k.toInt) % 10 ∧ 48 ≤ (own_dg x k).toInt ∧ (own_dg x k).toInt ≤ 57 := by
  have h1 := (c_idiv x k k.toInt rfl (fun e => by rw [e] at hk; exact absurd hk (by decide))).1 hx.1
  have h0 : 0 ≤ (x / k).toInt := by rw [h1]; exact Int.ediv_nonneg hx.1 (by omega)
  have h2 := (c_irem (x / k) 10 10 rfl).1 h0
  have h3 : (48 : Int32).toInt = 48 := rfl
  have h4 : (48 + (x / k) % 10 : Int32).toInt = 48 + ((x / k) % 10 : Int32).toInt := by rw [iadd_toInt (by omega) (by omega), h3]
  have h5 : (own_dg x k).toInt = 48 + (x.toInt / k.toInt) % 10 := by show (48 + (x / k) % 10 : Int32).toInt = _; rw [h4, h2, h1]
  refine ⟨h5, ?_, ?_⟩ <;> omega
theorem own_nardg {x k : Int32} (hx : 0 ≤ x.toInt ∧ x.toInt ≤ 65535) (hk : 0 < k.toInt) : nar .byte (own_dg x k) = own_dg x k := by
  have q := own_dgr hx hk
  have r := c_i2b (own_dg x k)
  apply Int32.toInt_inj.mp
  show (own_dg x k).toInt8.toInt32.toInt = _
  omega
theorem own_fitdg {x k : Int32} (hx : 0 ≤ x.toInt ∧ x.toInt ≤ 65535) (hk : 0 < k.toInt) : fits .byte (.int (own_dg x k)) = true := by
  have q : (own_dg x k).toInt8.toInt32 = own_dg x k := own_nardg hx hk
  rw [← q]; exact fits_nar_byte _
theorem own_chdg {x k : Int32} (hx : 0 ≤ x.toInt ∧ x.toInt ≤ 65535) (hk : 0 < k.toInt) : own_ch (own_dg x k) = own_i2c (48 + (x / k) % 10) := by
  have q := own_dgr hx hk
  have q2 := own_mask (own_dg x k)
  have e1 : own_dg x k &&& 255 = own_dg x k := Int32.toInt_inj.mp (by omega)
  show own_i2c (own_dg x k &&& 255) = own_i2c (own_dg x k)
  rw [e1]
theorem own_one {x r k : Int32} (K : Int) (hK : k.toInt = K) (hx : 0 ≤ x.toInt ∧ x.toInt ≤ 65535) (hk : 0 < k.toInt) (hr : 0 ≤ r.toInt ∧ r.toInt < 100) (e : r.toInt % 10 = (x.toInt / K) % 10) : (48 + r % 10 : Int32) = own_dg x k := by
  have q := own_dgr hx hk
  rw [hK] at q
  have h2 := (c_irem r 10 10 rfl).1 hr.1
  have h3 : (48 : Int32).toInt = 48 := rfl
  apply Int32.toInt_inj.mp
  rw [iadd_toInt (by omega) (by omega), h3]; omega
theorem own_ten {x r k : Int32} (K : Int) (hK : k.toInt = K) (hx : 0 ≤ x.toInt ∧ x.toInt ≤ 65535) (hk : 0 < k.toInt) (hr : 0 ≤ r.toInt ∧ r.toInt < 100) (e : r.toInt / 10 = (x.toInt / K) % 10) : (48 + r / 10 : Int32) = own_dg x k := by
  have q := own_dgr hx hk
  rw [hK] at q
  have h2 := (c_idiv r 10 10 rfl (by decide)).1 hr.1
  have h3 : (48 : Int32).toInt = 48 := rfl
  apply Int32.toInt_inj.mp
  rw [iadd_toInt (by omega) (by omega), h3]; omega
theorem own_negI {x : Int32} (h : -65535 ≤ x.toInt ∧ x.toInt ≤ 65535) : (-x).toInt = -x.toInt := by
  have q := c_ineg x
  have a1 := Int32.toInt_lt (-x); have a2 := Int32.le_toInt (-x)
  omega
theorem own_mulI {x y : Int32} {k : Int} (hy : y.toInt = k) (h : -1000000 ≤ x.toInt * k ∧ x.toInt * k ≤ 1000000) : (x * y).toInt = x.toInt * k := by
  rw [Int32.toInt_mul, hy, Int.bmod_eq_of_le (by omega) (by omega)]
def own_pow (j : Int32) : Int32 := if 0 < j.toInt then (if j = 1 then 10 else if j = 2 then 100 else if j = 3 then 1000 else 10000) else 1
theorem own_pow_ne (j : Int32) : own_pow j ≠ 0 := by
  unfold own_pow; split
  · split
    · decide
    · split
      · decide
      · split <;> decide
  · decide
def own_e93 (ii ln of2 pt dd : Int32) : Int32 := own_i2c (48 + (pt / own_pow (dd - 1 - (ii - (ln + of2) - 1))) % 10)
def own_e75 (ii ln of2 pt dd : Int32) : Int32 := if ii = ln + of2 then 58 else own_e93 ii ln of2 pt dd
def own_e59 (ii ln bb of2 pt dd : Int32) : Int32 := if bb = 0 then own_e75 ii ln of2 pt dd else if ii = ln + 1 then 93 else own_e75 ii ln of2 pt dd
def own_e24 (ii c0 c1 c2 ln bb of1 of2 pt dd : Int32) : Int32 := if (ii - of1).toInt < 0 then own_e59 ii ln bb of2 pt dd else if ln.toInt ≤ (ii - of1).toInt then own_e59 ii ln bb of2 pt dd else if ii - of1 = 0 then c0 else if ii - of1 = 1 then c1 else c2
def own_e12 (ii c0 c1 c2 ln bb of1 of2 pt dd : Int32) : Int32 := if bb = 0 then own_e24 ii c0 c1 c2 ln bb of1 of2 pt dd else if ii = 0 then 91 else own_e24 ii c0 c1 c2 ln bb of1 of2 pt dd
def own_exp (ii c0 c1 c2 ln bb pt dd : Int32) : Int32 := if bb = 0 then own_e12 ii c0 c1 c2 ln bb 0 0 pt dd else own_e12 ii c0 c1 c2 ln bb 1 2 pt dd
theorem own_shr0 (x : Int32) : x >>> ((0 : Int32) &&& 31) = x := by
  apply Int32.toBitVec_inj.mp; simp
theorem own_shl0 (x : Int32) : x <<< ((0 : Int32) &&& 31) = x := by
  apply Int32.toBitVec_inj.mp; simp
theorem own_sub0 (x : Int32) : x - 0 = x := by
  apply Int32.toBitVec_inj.mp; simp
def own_z16 : List Value := [.int 0, .int 0, .int 0, .int 0, .int 0, .int 0, .int 0, .int 0, .int 0, .int 0, .int 0, .int 0, .int 0, .int 0, .int 0, .int 0]
theorem own_map (bs : List Value) (dv : Value) : ((List.range bs.length).map fun i => bs.getD (0 + i) dv) = bs := by
  apply List.ext_getElem?; intro i
  by_cases h : i < bs.length
  · simp [h]
  · simp [h]
theorem own_cp1 {ct rs bs : List Value} (hl : ct.length + rs.length = 16) (hr : ct.length + bs.length ≤ 16) : (ct ++ rs).take (ct.length.toInt32).toInt.toNat ++ ((List.range (bs.length.toInt32).toInt.toNat).map fun i => bs.getD ((0 : Int32).toInt.toNat + i) (.int 0)) ++ (ct ++ rs).drop ((ct.length.toInt32).toInt.toNat + (bs.length.toInt32).toInt.toNat) = (ct ++ bs) ++ rs.drop bs.length := by
  have e1 : (ct.length.toInt32).toInt.toNat = ct.length := by rw [len_toInt (by omega)]; rfl
  have e2 : (bs.length.toInt32).toInt.toNat = bs.length := by rw [len_toInt (by omega)]; rfl
  have e3 : ((0 : Int32).toInt.toNat) = 0 := rfl
  rw [e1, e2, e3, own_map, List.take_left, List.drop_append, List.drop_eq_nil_of_le (by omega : ct.length ≤ ct.length + bs.length), List.nil_append, Nat.add_sub_cancel_left]
theorem own_cp2 {ct rs : List Value} (hl : ct.length + rs.length = 16) : (List.replicate ct.length (Value.int 0)).take (0 : Int32).toInt.toNat ++ ((List.range (ct.length.toInt32).toInt.toNat).map fun i => (ct ++ rs).getD ((0 : Int32).toInt.toNat + i) (.int 0)) ++ (List.replicate ct.length (Value.int 0)).drop ((0 : Int32).toInt.toNat + (ct.length.toInt32).toInt.toNat) = ct := by
  have e1 : (ct.length.toInt32).toInt.toNat = ct.length := by rw [len_toInt (by omega)]; rfl
  have e3 : ((0 : Int32).toInt.toNat) = 0 := rfl
  rw [e1, e3]
  apply List.ext_getElem?; intro i
  by_cases h : i < ct.length
  · simp [h, List.getElem?_append]
  · simp [h]
theorem own_fitapp {ct bs rs : List Value} (h1 : ∀ v ∈ ct ++ rs, fits .byte v = true) (h2 : ∀ v ∈ bs, fits .byte v = true) : ∀ v ∈ (ct ++ bs) ++ rs.drop bs.length, fits .byte v = true := by
  intro v hv
  rcases List.mem_append.mp hv with q | q
  · rcases List.mem_append.mp q with q | q
    · exact h1 v (List.mem_append.mpr (Or.inl q))
    · exact h2 v q
  · exact h1 v (List.mem_append.mpr (Or.inr (List.mem_of_mem_drop q)))
theorem own_seta {ct L : List Value} {j k : Nat} {z : Value} (h : j = ct.length + k) : (ct ++ L).set j z = ct ++ L.set k z := by
  subst h; rw [List.set_append_right _ _ (by omega)]; simp
theorem own_cons {L : List Value} (h : 0 < L.length) : ∃ x M, L = x :: M := by
  cases L with
  | nil => cases h
  | cons x M => exact ⟨x, M, rfl⟩
def own_dl (x : Int32) : List Value :=
  if x.toInt < 10 then [.int (own_dg x 1)] else if x.toInt < 100 then [.int (own_dg x 10), .int (own_dg x 1)] else if x.toInt < 1000 then [.int (own_dg x 100), .int (own_dg x 10), .int (own_dg x 1)] else if x.toInt < 10000 then [.int (own_dg x 1000), .int (own_dg x 100), .int (own_dg x 10), .int (own_dg x 1)] else [.int (own_dg x 10000), .int (own_dg x 1000), .int (own_dg x 100), .int (own_dg x 10), .int (own_dg x 1)]
def own_nd (x : Int32) : Int32 := (own_dl x).length.toInt32
theorem own_dl_1 {x : Int32} (h : x.toInt < 10) : own_dl x = [.int (own_dg x 1)] := if_pos h
theorem own_dl_2 {x : Int32} (g : 10 ≤ x.toInt) (h : x.toInt < 100) : own_dl x = [.int (own_dg x 10), .int (own_dg x 1)] := (if_neg (by omega)).trans (if_pos h)
theorem own_dl_3 {x : Int32} (g : 100 ≤ x.toInt) (h : x.toInt < 1000) : own_dl x = [.int (own_dg x 100), .int (own_dg x 10), .int (own_dg x 1)] := (if_neg (by omega)).trans ((if_neg (by omega)).trans (if_pos h))
theorem own_dl_4 {x : Int32} (g : 1000 ≤ x.toInt) (h : x.toInt < 10000) : own_dl x = [.int (own_dg x 1000), .int (own_dg x 100), .int (own_dg x 10), .int (own_dg x 1)] := (if_neg (by omega)).trans ((if_neg (by omega)).trans ((if_neg (by omega)).trans (if_pos h)))
theorem own_dl_5 {x : Int32} (g : 10000 ≤ x.toInt) : own_dl x = [.int (own_dg x 10000), .int (own_dg x 1000), .int (own_dg x 100), .int (own_dg x 10), .int (own_dg x 1)] := (if_neg (by omega)).trans ((if_neg (by omega)).trans ((if_neg (by omega)).trans (if_neg (by omega))))
theorem own_dcase {x : Int32} (h : 0 ≤ x.toInt ∧ x.toInt ≤ 65535) : (0 ≤ x.toInt ∧ x.toInt < 10) ∨ (10 ≤ x.toInt ∧ x.toInt < 100) ∨ (100 ≤ x.toInt ∧ x.toInt < 1000) ∨ (1000 ≤ x.toInt ∧ x.toInt < 10000) ∨ (10000 ≤ x.toInt ∧ x.toInt < 100000) := by omega
theorem own_dl5 {x : Int32} (h : 0 ≤ x.toInt ∧ x.toInt ≤ 65535) : 1 ≤ (own_dl x).length ∧ (own_dl x).length ≤ 5 := by
  rcases own_dcase h with g | g | g | g | g
  · rw [own_dl_1 g.2]; simp
  · rw [own_dl_2 g.1 g.2]; simp
  · rw [own_dl_3 g.1 g.2]; simp
  · rw [own_dl_4 g.1 g.2]; simp
  · rw [own_dl_5 g.1]; simp
theorem own_dlfit {x : Int32} (h : 0 ≤ x.toInt ∧ x.toInt ≤ 65535) : ∀ v ∈ own_dl x, fits .byte v = true := by
  intro v hv
  rcases own_dcase h with g | g | g | g | g
  · rw [own_dl_1 g.2] at hv; simp only [List.mem_cons, List.not_mem_nil, or_false] at hv; subst hv; exact own_fitdg h (by decide)
  · rw [own_dl_2 g.1 g.2] at hv; simp only [List.mem_cons, List.not_mem_nil, or_false] at hv; rcases hv with rfl | rfl <;> exact own_fitdg h (by decide)
  · rw [own_dl_3 g.1 g.2] at hv; simp only [List.mem_cons, List.not_mem_nil, or_false] at hv; rcases hv with rfl | rfl | rfl <;> exact own_fitdg h (by decide)
  · rw [own_dl_4 g.1 g.2] at hv; simp only [List.mem_cons, List.not_mem_nil, or_false] at hv; rcases hv with rfl | rfl | rfl | rfl <;> exact own_fitdg h (by decide)
  · rw [own_dl_5 g.1] at hv; simp only [List.mem_cons, List.not_mem_nil, or_false] at hv; rcases hv with rfl | rfl | rfl | rfl | rfl <;> exact own_fitdg h (by decide)
def own_col (hb : List Value) : Prop := Value.int 58 ∈ hb
theorem own_fit1 (z : Int32) (h : fits .byte (.int z) = true) : ∀ v ∈ [Value.int z], fits .byte v = true := by
  intro v hv; cases List.mem_singleton.mp hv; exact h
theorem own_cnt {ct bs : List Value} (h : ct.length + bs.length ≤ 16) : (ct.length.toInt32 + bs.length.toInt32 : Int32) = (ct ++ bs).length.toInt32 := by
  apply Int32.toInt_inj.mp
  rw [iadd_toInt (by rw [len_toInt (by omega), len_toInt (by omega)]; omega) (by rw [len_toInt (by omega), len_toInt (by omega)]; omega), len_toInt (by omega), len_toInt (by omega), len_toInt (by rw [List.length_append]; omega), List.length_append]
  omega
theorem own_colT1 {y0 : Int32} (h : y0 = 58) : own_col [Value.int y0] := by
  unfold own_col; simp only [List.mem_cons, List.not_mem_nil, or_false, Value.int.injEq]; exact h.symm
theorem own_colF1 {y0 : Int32} (h : ¬ y0 = 58) : ¬ own_col [Value.int y0] := by
  unfold own_col; simp only [List.mem_cons, List.not_mem_nil, or_false, Value.int.injEq]; exact fun q => h q.symm
theorem own_colT2 {y0 y1 : Int32} (h : y0 = 58 ∨ y1 = 58) : own_col [Value.int y0, Value.int y1] := by
  unfold own_col; simp only [List.mem_cons, List.not_mem_nil, or_false, Value.int.injEq]; rcases h with h | h
  · exact Or.inl h.symm
  · exact Or.inr h.symm
theorem own_colF2 {y0 y1 : Int32} (h : ¬ y0 = 58 ∧ ¬ y1 = 58) : ¬ own_col [Value.int y0, Value.int y1] := by
  unfold own_col; simp only [List.mem_cons, List.not_mem_nil, or_false, Value.int.injEq]; rintro (q | q)
  · exact h.1 q.symm
  · exact h.2 q.symm
theorem own_colT3 {y0 y1 y2 : Int32} (h : y0 = 58 ∨ y1 = 58 ∨ y2 = 58) : own_col [Value.int y0, Value.int y1, Value.int y2] := by
  unfold own_col; simp only [List.mem_cons, List.not_mem_nil, or_false, Value.int.injEq]; rcases h with h | h | h
  · exact Or.inl h.symm
  · exact Or.inr (Or.inl h.symm)
  · exact Or.inr (Or.inr h.symm)
theorem own_colF3 {y0 y1 y2 : Int32} (h : ¬ y0 = 58 ∧ ¬ y1 = 58 ∧ ¬ y2 = 58) : ¬ own_col [Value.int y0, Value.int y1, Value.int y2] := by
  unfold own_col; simp only [List.mem_cons, List.not_mem_nil, or_false, Value.int.injEq]; rintro (q | q | q)
  · exact h.1 q.symm
  · exact h.2.1 q.symm
  · exact h.2.2 q.symm
theorem own_fit3 {hb : List Value} (h : ∀ v ∈ hb, fits .byte v = true) : ∀ v ∈ ((([] : List Value) ++ [(.int (91 : Int32))]) ++ hb) ++ [(.int (93 : Int32))], fits .byte v = true := by
  intro v hv
  simp only [List.mem_append, List.mem_cons, List.not_mem_nil, or_false, false_or] at hv
  rcases hv with (rfl | q) | rfl
  · decide
  · exact h v q
  · decide
theorem own_mod3 (x : Int32) : (x &&& 2147483647) % 3 = 0 ∨ (x &&& 2147483647) % 3 = 1 ∨ (x &&& 2147483647) % 3 = 2 := by
  have h1 := mask31 x
  have h2 : ((x &&& 2147483647) % 3 : Int32).toInt = (x &&& 2147483647).toInt % 3 := irem_pos (by omega)
  have k : ((x &&& 2147483647) % 3 : Int32).toInt = 0 ∨ ((x &&& 2147483647) % 3 : Int32).toInt = 1 ∨ ((x &&& 2147483647) % 3 : Int32).toInt = 2 := by omega
  rcases k with k | k | k
  · exact Or.inl (Int32.toInt_inj.mp k)
  · exact Or.inr (Or.inl (Int32.toInt_inj.mp k))
  · exact Or.inr (Or.inr (Int32.toInt_inj.mp k))
theorem own_pt {a z : Int32} (h : a &&& 65535 = z) : 0 ≤ z.toInt ∧ z.toInt ≤ 65535 := by
  have q : (a &&& 65535).toInt = a.toInt % 65536 := c_mask a 65535 16 (by decide) (by decide)
  rw [h] at q; omega
theorem own_bt58 {z : Int32} (h : 0 ≤ z.toInt ∧ z.toInt ≤ 255) (q : own_bt z = 58) : z = 58 := by
  rw [← own_chbt h, q]; decide
theorem own_58bt {z : Int32} (q : z = 58) : own_bt z = 58 := by subst q; decide
theorem own_ii {i : Int32} (k : Int32) (h : i.toInt = k.toInt) : i = k := Int32.toInt_inj.mp h
theorem own_colD1 {y0 : Int32} (h : own_col [Value.int y0]) : y0 = 58 := by
  unfold own_col at h; simp only [List.mem_cons, List.not_mem_nil, or_false, Value.int.injEq] at h; exact h.symm
theorem own_E_1_1 {z0 pt : Int32} (hpt : 0 ≤ pt.toInt ∧ pt.toInt ≤ 65535) : (1 : Int32) + 2 + 1 + own_nd pt = ((Value.int 91 :: Value.int (own_bt z0) :: Value.int 93 :: Value.int 58 :: own_dl pt)).length.toInt32 := by
  rcases own_dcase hpt with ⟨hlo, hhi⟩ | ⟨hlo, hhi⟩ | ⟨hlo, hhi⟩ | ⟨hlo, hhi⟩ | ⟨hlo, hhi⟩
  · unfold own_nd; rw [own_dl_1 hhi]; rfl
  · unfold own_nd; rw [own_dl_2 hlo hhi]; rfl
  · unfold own_nd; rw [own_dl_3 hlo hhi]; rfl
  · unfold own_nd; rw [own_dl_4 hlo hhi]; rfl
  · unfold own_nd; rw [own_dl_5 hlo]; rfl
theorem own_H_1_1 {z0 z1 z2 : Int32} {pt : Int32} (h0 : 0 ≤ z0.toInt ∧ z0.toInt ≤ 255) (h1 : 0 ≤ z1.toInt ∧ z1.toInt ≤ 255) (h2 : 0 ≤ z2.toInt ∧ z2.toInt ≤ 255) (hpt : 0 ≤ pt.toInt ∧ pt.toInt ≤ 65535) : ∀ ii : Int32, 0 ≤ ii.toInt → (((Value.int 91 :: Value.int (own_bt z0) :: Value.int 93 :: Value.int 58 :: own_dl pt)).length.toInt32).toInt ≤ ii.toInt ∨ (0 ≤ ii.toInt ∧ ∃ y : Int32, ((Value.int 91 :: Value.int (own_bt z0) :: Value.int 93 :: Value.int 58 :: own_dl pt))[ii.toInt.toNat]? = some (.int y) ∧ own_ch y = own_exp ii z0 z1 z2 (1 : Int32) (1 : Int32) pt (own_nd pt)) := by
  intro ii hi
  rcases own_dcase hpt with ⟨hlo, hhi⟩ | ⟨hlo, hhi⟩ | ⟨hlo, hhi⟩ | ⟨hlo, hhi⟩ | ⟨hlo, hhi⟩
  · have en : own_nd pt = (1 : Int32) := by unfold own_nd; rw [own_dl_1 hhi]; rfl
    rw [en, own_dl_1 hhi]
    by_cases g : (5 : Int) ≤ ii.toInt
    · exact Or.inl g
    · refine Or.inr ⟨hi, ?_⟩
      have hc : ii.toInt = 0 ∨ ii.toInt = 1 ∨ ii.toInt = 2 ∨ ii.toInt = 3 ∨ ii.toInt = 4 := by omega
      rcases hc with q | q | q | q | q
      · obtain rfl := own_ii (0 : Int32) q; exact ⟨_, rfl, rfl⟩
      · obtain rfl := own_ii (1 : Int32) q; exact ⟨_, rfl, (own_chbt h0).trans rfl⟩
      · obtain rfl := own_ii (2 : Int32) q; exact ⟨_, rfl, rfl⟩
      · obtain rfl := own_ii (3 : Int32) q; exact ⟨_, rfl, rfl⟩
      · obtain rfl := own_ii (4 : Int32) q; exact ⟨_, rfl, (own_chdg hpt (by decide)).trans rfl⟩
  · have en : own_nd pt = (2 : Int32) := by unfold own_nd; rw [own_dl_2 hlo hhi]; rfl
    rw [en, own_dl_2 hlo hhi]
    by_cases g : (6 : Int) ≤ ii.toInt
    · exact Or.inl g
    · refine Or.inr ⟨hi, ?_⟩
      have hc : ii.toInt = 0 ∨ ii.toInt = 1 ∨ ii.toInt = 2 ∨ ii.toInt = 3 ∨ ii.toInt = 4 ∨ ii.toInt = 5 := by omega
      rcases hc with q | q | q | q | q | q
      · obtain rfl := own_ii (0 : Int32) q; exact ⟨_, rfl, rfl⟩
      · obtain rfl := own_ii (1 : Int32) q; exact ⟨_, rfl, (own_chbt h0).trans rfl⟩
      · obtain rfl := own_ii (2 : Int32) q; exact ⟨_, rfl, rfl⟩
      · obtain rfl := own_ii (3 : Int32) q; exact ⟨_, rfl, rfl⟩
      · obtain rfl := own_ii (4 : Int32) q; exact ⟨_, rfl, (own_chdg hpt (by decide)).trans rfl⟩
      · obtain rfl := own_ii (5 : Int32) q; exact ⟨_, rfl, (own_chdg hpt (by decide)).trans rfl⟩
  · have en : own_nd pt = (3 : Int32) := by unfold own_nd; rw [own_dl_3 hlo hhi]; rfl
    rw [en, own_dl_3 hlo hhi]
    by_cases g : (7 : Int) ≤ ii.toInt
    · exact Or.inl g
    · refine Or.inr ⟨hi, ?_⟩
      have hc : ii.toInt = 0 ∨ ii.toInt = 1 ∨ ii.toInt = 2 ∨ ii.toInt = 3 ∨ ii.toInt = 4 ∨ ii.toInt = 5 ∨ ii.toInt = 6 := by omega
      rcases hc with q | q | q | q | q | q | q
      · obtain rfl := own_ii (0 : Int32) q; exact ⟨_, rfl, rfl⟩
      · obtain rfl := own_ii (1 : Int32) q; exact ⟨_, rfl, (own_chbt h0).trans rfl⟩
      · obtain rfl := own_ii (2 : Int32) q; exact ⟨_, rfl, rfl⟩
      · obtain rfl := own_ii (3 : Int32) q; exact ⟨_, rfl, rfl⟩
      · obtain rfl := own_ii (4 : Int32) q; exact ⟨_, rfl, (own_chdg hpt (by decide)).trans rfl⟩
      · obtain rfl := own_ii (5 : Int32) q; exact ⟨_, rfl, (own_chdg hpt (by decide)).trans rfl⟩
      · obtain rfl := own_ii (6 : Int32) q; exact ⟨_, rfl, (own_chdg hpt (by decide)).trans rfl⟩
  · have en : own_nd pt = (4 : Int32) := by unfold own_nd; rw [own_dl_4 hlo hhi]; rfl
    rw [en, own_dl_4 hlo hhi]
    by_cases g : (8 : Int) ≤ ii.toInt
    · exact Or.inl g
    · refine Or.inr ⟨hi, ?_⟩
      have hc : ii.toInt = 0 ∨ ii.toInt = 1 ∨ ii.toInt = 2 ∨ ii.toInt = 3 ∨ ii.toInt = 4 ∨ ii.toInt = 5 ∨ ii.toInt = 6 ∨ ii.toInt = 7 := by omega
      rcases hc with q | q | q | q | q | q | q | q
      · obtain rfl := own_ii (0 : Int32) q; exact ⟨_, rfl, rfl⟩
      · obtain rfl := own_ii (1 : Int32) q; exact ⟨_, rfl, (own_chbt h0).trans rfl⟩
      · obtain rfl := own_ii (2 : Int32) q; exact ⟨_, rfl, rfl⟩
      · obtain rfl := own_ii (3 : Int32) q; exact ⟨_, rfl, rfl⟩
      · obtain rfl := own_ii (4 : Int32) q; exact ⟨_, rfl, (own_chdg hpt (by decide)).trans rfl⟩
      · obtain rfl := own_ii (5 : Int32) q; exact ⟨_, rfl, (own_chdg hpt (by decide)).trans rfl⟩
      · obtain rfl := own_ii (6 : Int32) q; exact ⟨_, rfl, (own_chdg hpt (by decide)).trans rfl⟩
      · obtain rfl := own_ii (7 : Int32) q; exact ⟨_, rfl, (own_chdg hpt (by decide)).trans rfl⟩
  · have en : own_nd pt = (5 : Int32) := by unfold own_nd; rw [own_dl_5 hlo]; rfl
    rw [en, own_dl_5 hlo]
    by_cases g : (9 : Int) ≤ ii.toInt
    · exact Or.inl g
    · refine Or.inr ⟨hi, ?_⟩
      have hc : ii.toInt = 0 ∨ ii.toInt = 1 ∨ ii.toInt = 2 ∨ ii.toInt = 3 ∨ ii.toInt = 4 ∨ ii.toInt = 5 ∨ ii.toInt = 6 ∨ ii.toInt = 7 ∨ ii.toInt = 8 := by omega
      rcases hc with q | q | q | q | q | q | q | q | q
      · obtain rfl := own_ii (0 : Int32) q; exact ⟨_, rfl, rfl⟩
      · obtain rfl := own_ii (1 : Int32) q; exact ⟨_, rfl, (own_chbt h0).trans rfl⟩
      · obtain rfl := own_ii (2 : Int32) q; exact ⟨_, rfl, rfl⟩
      · obtain rfl := own_ii (3 : Int32) q; exact ⟨_, rfl, rfl⟩
      · obtain rfl := own_ii (4 : Int32) q; exact ⟨_, rfl, (own_chdg hpt (by decide)).trans rfl⟩
      · obtain rfl := own_ii (5 : Int32) q; exact ⟨_, rfl, (own_chdg hpt (by decide)).trans rfl⟩
      · obtain rfl := own_ii (6 : Int32) q; exact ⟨_, rfl, (own_chdg hpt (by decide)).trans rfl⟩
      · obtain rfl := own_ii (7 : Int32) q; exact ⟨_, rfl, (own_chdg hpt (by decide)).trans rfl⟩
      · obtain rfl := own_ii (8 : Int32) q; exact ⟨_, rfl, (own_chdg hpt (by decide)).trans rfl⟩
theorem own_E_1_0 {z0 pt : Int32} (hpt : 0 ≤ pt.toInt ∧ pt.toInt ≤ 65535) : (1 : Int32) + 0 + 1 + own_nd pt = ((Value.int (own_bt z0) :: Value.int 58 :: own_dl pt)).length.toInt32 := by
  rcases own_dcase hpt with ⟨hlo, hhi⟩ | ⟨hlo, hhi⟩ | ⟨hlo, hhi⟩ | ⟨hlo, hhi⟩ | ⟨hlo, hhi⟩
  · unfold own_nd; rw [own_dl_1 hhi]; rfl
  · unfold own_nd; rw [own_dl_2 hlo hhi]; rfl
  · unfold own_nd; rw [own_dl_3 hlo hhi]; rfl
  · unfold own_nd; rw [own_dl_4 hlo hhi]; rfl
  · unfold own_nd; rw [own_dl_5 hlo]; rfl
theorem own_H_1_0 {z0 z1 z2 : Int32} {pt : Int32} (h0 : 0 ≤ z0.toInt ∧ z0.toInt ≤ 255) (h1 : 0 ≤ z1.toInt ∧ z1.toInt ≤ 255) (h2 : 0 ≤ z2.toInt ∧ z2.toInt ≤ 255) (hpt : 0 ≤ pt.toInt ∧ pt.toInt ≤ 65535) : ∀ ii : Int32, 0 ≤ ii.toInt → (((Value.int (own_bt z0) :: Value.int 58 :: own_dl pt)).length.toInt32).toInt ≤ ii.toInt ∨ (0 ≤ ii.toInt ∧ ∃ y : Int32, ((Value.int (own_bt z0) :: Value.int 58 :: own_dl pt))[ii.toInt.toNat]? = some (.int y) ∧ own_ch y = own_exp ii z0 z1 z2 (1 : Int32) (0 : Int32) pt (own_nd pt)) := by
  intro ii hi
  rcases own_dcase hpt with ⟨hlo, hhi⟩ | ⟨hlo, hhi⟩ | ⟨hlo, hhi⟩ | ⟨hlo, hhi⟩ | ⟨hlo, hhi⟩
  · have en : own_nd pt = (1 : Int32) := by unfold own_nd; rw [own_dl_1 hhi]; rfl
    rw [en, own_dl_1 hhi]
    by_cases g : (3 : Int) ≤ ii.toInt
    · exact Or.inl g
    · refine Or.inr ⟨hi, ?_⟩
      have hc : ii.toInt = 0 ∨ ii.toInt = 1 ∨ ii.toInt = 2 := by omega
      rcases hc with q | q | q
      · obtain rfl := own_ii (0 : Int32) q; exact ⟨_, rfl, (own_chbt h0).trans rfl⟩
      · obtain rfl := own_ii (1 : Int32) q; exact ⟨_, rfl, rfl⟩
      · obtain rfl := own_ii (2 : Int32) q; exact ⟨_, rfl, (own_chdg hpt (by decide)).trans rfl⟩
  · have en : own_nd pt = (2 : Int32) := by unfold own_nd; rw [own_dl_2 hlo hhi]; rfl
    rw [en, own_dl_2 hlo hhi]
    by_cases g : (4 : Int) ≤ ii.toInt
    · exact Or.inl g
    · refine Or.inr ⟨hi, ?_⟩
      have hc : ii.toInt = 0 ∨ ii.toInt = 1 ∨ ii.toInt = 2 ∨ ii.toInt = 3 := by omega
      rcases hc with q | q | q | q
      · obtain rfl := own_ii (0 : Int32) q; exact ⟨_, rfl, (own_chbt h0).trans rfl⟩
      · obtain rfl := own_ii (1 : Int32) q; exact ⟨_, rfl, rfl⟩
      · obtain rfl := own_ii (2 : Int32) q; exact ⟨_, rfl, (own_chdg hpt (by decide)).trans rfl⟩
      · obtain rfl := own_ii (3 : Int32) q; exact ⟨_, rfl, (own_chdg hpt (by decide)).trans rfl⟩
  · have en : own_nd pt = (3 : Int32) := by unfold own_nd; rw [own_dl_3 hlo hhi]; rfl
    rw [en, own_dl_3 hlo hhi]
    by_cases g : (5 : Int) ≤ ii.toInt
    · exact Or.inl g
    · refine Or.inr ⟨hi, ?_⟩
      have hc : ii.toInt = 0 ∨ ii.toInt = 1 ∨ ii.toInt = 2 ∨ ii.toInt = 3 ∨ ii.toInt = 4 := by omega
      rcases hc with q | q | q | q | q
      · obtain rfl := own_ii (0 : Int32) q; exact ⟨_, rfl, (own_chbt h0).trans rfl⟩
      · obtain rfl := own_ii (1 : Int32) q; exact ⟨_, rfl, rfl⟩
      · obtain rfl := own_ii (2 : Int32) q; exact ⟨_, rfl, (own_chdg hpt (by decide)).trans rfl⟩
      · obtain rfl := own_ii (3 : Int32) q; exact ⟨_, rfl, (own_chdg hpt (by decide)).trans rfl⟩
      · obtain rfl := own_ii (4 : Int32) q; exact ⟨_, rfl, (own_chdg hpt (by decide)).trans rfl⟩
  · have en : own_nd pt = (4 : Int32) := by unfold own_nd; rw [own_dl_4 hlo hhi]; rfl
    rw [en, own_dl_4 hlo hhi]
    by_cases g : (6 : Int) ≤ ii.toInt
    · exact Or.inl g
    · refine Or.inr ⟨hi, ?_⟩
      have hc : ii.toInt = 0 ∨ ii.toInt = 1 ∨ ii.toInt = 2 ∨ ii.toInt = 3 ∨ ii.toInt = 4 ∨ ii.toInt = 5 := by omega
      rcases hc with q | q | q | q | q | q
      · obtain rfl := own_ii (0 : Int32) q; exact ⟨_, rfl, (own_chbt h0).trans rfl⟩
      · obtain rfl := own_ii (1 : Int32) q; exact ⟨_, rfl, rfl⟩
      · obtain rfl := own_ii (2 : Int32) q; exact ⟨_, rfl, (own_chdg hpt (by decide)).trans rfl⟩
      · obtain rfl := own_ii (3 : Int32) q; exact ⟨_, rfl, (own_chdg hpt (by decide)).trans rfl⟩
      · obtain rfl := own_ii (4 : Int32) q; exact ⟨_, rfl, (own_chdg hpt (by decide)).trans rfl⟩
      · obtain rfl := own_ii (5 : Int32) q; exact ⟨_, rfl, (own_chdg hpt (by decide)).trans rfl⟩
  · have en : own_nd pt = (5 : Int32) := by unfold own_nd; rw [own_dl_5 hlo]; rfl
    rw [en, own_dl_5 hlo]
    by_cases g : (7 : Int) ≤ ii.toInt
    · exact Or.inl g
    · refine Or.inr ⟨hi, ?_⟩
      have hc : ii.toInt = 0 ∨ ii.toInt = 1 ∨ ii.toInt = 2 ∨ ii.toInt = 3 ∨ ii.toInt = 4 ∨ ii.toInt = 5 ∨ ii.toInt = 6 := by omega
      rcases hc with q | q | q | q | q | q | q
      · obtain rfl := own_ii (0 : Int32) q; exact ⟨_, rfl, (own_chbt h0).trans rfl⟩
      · obtain rfl := own_ii (1 : Int32) q; exact ⟨_, rfl, rfl⟩
      · obtain rfl := own_ii (2 : Int32) q; exact ⟨_, rfl, (own_chdg hpt (by decide)).trans rfl⟩
      · obtain rfl := own_ii (3 : Int32) q; exact ⟨_, rfl, (own_chdg hpt (by decide)).trans rfl⟩
      · obtain rfl := own_ii (4 : Int32) q; exact ⟨_, rfl, (own_chdg hpt (by decide)).trans rfl⟩
      · obtain rfl := own_ii (5 : Int32) q; exact ⟨_, rfl, (own_chdg hpt (by decide)).trans rfl⟩
      · obtain rfl := own_ii (6 : Int32) q; exact ⟨_, rfl, (own_chdg hpt (by decide)).trans rfl⟩
theorem own_colD2 {y0 y1 : Int32} (h : own_col [Value.int y0, Value.int y1]) : y0 = 58 ∨ y1 = 58 := by
  unfold own_col at h; simp only [List.mem_cons, List.not_mem_nil, or_false, Value.int.injEq] at h; rcases h with h | h
  · exact Or.inl h.symm
  · exact Or.inr h.symm
theorem own_E_2_1 {z0 z1 pt : Int32} (hpt : 0 ≤ pt.toInt ∧ pt.toInt ≤ 65535) : (2 : Int32) + 2 + 1 + own_nd pt = ((Value.int 91 :: Value.int (own_bt z0) :: Value.int (own_bt z1) :: Value.int 93 :: Value.int 58 :: own_dl pt)).length.toInt32 := by
  rcases own_dcase hpt with ⟨hlo, hhi⟩ | ⟨hlo, hhi⟩ | ⟨hlo, hhi⟩ | ⟨hlo, hhi⟩ | ⟨hlo, hhi⟩
  · unfold own_nd; rw [own_dl_1 hhi]; rfl
  · unfold own_nd; rw [own_dl_2 hlo hhi]; rfl
  · unfold own_nd; rw [own_dl_3 hlo hhi]; rfl
  · unfold own_nd; rw [own_dl_4 hlo hhi]; rfl
  · unfold own_nd; rw [own_dl_5 hlo]; rfl
theorem own_H_2_1 {z0 z1 z2 : Int32} {pt : Int32} (h0 : 0 ≤ z0.toInt ∧ z0.toInt ≤ 255) (h1 : 0 ≤ z1.toInt ∧ z1.toInt ≤ 255) (h2 : 0 ≤ z2.toInt ∧ z2.toInt ≤ 255) (hpt : 0 ≤ pt.toInt ∧ pt.toInt ≤ 65535) : ∀ ii : Int32, 0 ≤ ii.toInt → (((Value.int 91 :: Value.int (own_bt z0) :: Value.int (own_bt z1) :: Value.int 93 :: Value.int 58 :: own_dl pt)).length.toInt32).toInt ≤ ii.toInt ∨ (0 ≤ ii.toInt ∧ ∃ y : Int32, ((Value.int 91 :: Value.int (own_bt z0) :: Value.int (own_bt z1) :: Value.int 93 :: Value.int 58 :: own_dl pt))[ii.toInt.toNat]? = some (.int y) ∧ own_ch y = own_exp ii z0 z1 z2 (2 : Int32) (1 : Int32) pt (own_nd pt)) := by
  intro ii hi
  rcases own_dcase hpt with ⟨hlo, hhi⟩ | ⟨hlo, hhi⟩ | ⟨hlo, hhi⟩ | ⟨hlo, hhi⟩ | ⟨hlo, hhi⟩
  · have en : own_nd pt = (1 : Int32) := by unfold own_nd; rw [own_dl_1 hhi]; rfl
    rw [en, own_dl_1 hhi]
    by_cases g : (6 : Int) ≤ ii.toInt
    · exact Or.inl g
    · refine Or.inr ⟨hi, ?_⟩
      have hc : ii.toInt = 0 ∨ ii.toInt = 1 ∨ ii.toInt = 2 ∨ ii.toInt = 3 ∨ ii.toInt = 4 ∨ ii.toInt = 5 := by omega
      rcases hc with q | q | q | q | q | q
      · obtain rfl := own_ii (0 : Int32) q; exact ⟨_, rfl, rfl⟩
      · obtain rfl := own_ii (1 : Int32) q; exact ⟨_, rfl, (own_chbt h0).trans rfl⟩
      · obtain rfl := own_ii (2 : Int32) q; exact ⟨_, rfl, (own_chbt h1).trans rfl⟩
      · obtain rfl := own_ii (3 : Int32) q; exact ⟨_, rfl, rfl⟩
      · obtain rfl := own_ii (4 : Int32) q; exact ⟨_, rfl, rfl⟩
      · obtain rfl := own_ii (5 : Int32) q; exact ⟨_, rfl, (own_chdg hpt (by decide)).trans rfl⟩
  · have en : own_nd pt = (2 : Int32) := by unfold own_nd; rw [own_dl_2 hlo hhi]; rfl
    rw [en, own_dl_2 hlo hhi]
    by_cases g : (7 : Int) ≤ ii.toInt
    · exact Or.inl g
    · refine Or.inr ⟨hi, ?_⟩
      have hc : ii.toInt = 0 ∨ ii.toInt = 1 ∨ ii.toInt = 2 ∨ ii.toInt = 3 ∨ ii.toInt = 4 ∨ ii.toInt = 5 ∨ ii.toInt = 6 := by omega
      rcases hc with q | q | q | q | q | q | q
      · obtain rfl := own_ii (0 : Int32) q; exact ⟨_, rfl, rfl⟩
      · obtain rfl := own_ii (1 : Int32) q; exact ⟨_, rfl, (own_chbt h0).trans rfl⟩
      · obtain rfl := own_ii (2 : Int32) q; exact ⟨_, rfl, (own_chbt h1).trans rfl⟩
      · obtain rfl := own_ii (3 : Int32) q; exact ⟨_, rfl, rfl⟩
      · obtain rfl := own_ii (4 : Int32) q; exact ⟨_, rfl, rfl⟩
      · obtain rfl := own_ii (5 : Int32) q; exact ⟨_, rfl, (own_chdg hpt (by decide)).trans rfl⟩
      · obtain rfl := own_ii (6 : Int32) q; exact ⟨_, rfl, (own_chdg hpt (by decide)).trans rfl⟩
  · have en : own_nd pt = (3 : Int32) := by unfold own_nd; rw [own_dl_3 hlo hhi]; rfl
    rw [en, own_dl_3 hlo hhi]
    by_cases g : (8 : Int) ≤ ii.toInt
    · exact Or.inl g
    · refine Or.inr ⟨hi, ?_⟩
      have hc : ii.toInt = 0 ∨ ii.toInt = 1 ∨ ii.toInt = 2 ∨ ii.toInt = 3 ∨ ii.toInt = 4 ∨ ii.toInt = 5 ∨ ii.toInt = 6 ∨ ii.toInt = 7 := by omega
      rcases hc with q | q | q | q | q | q | q | q
      · obtain rfl := own_ii (0 : Int32) q; exact ⟨_, rfl, rfl⟩
      · obtain rfl := own_ii (1 : Int32) q; exact ⟨_, rfl, (own_chbt h0).trans rfl⟩
      · obtain rfl := own_ii (2 : Int32) q; exact ⟨_, rfl, (own_chbt h1).trans rfl⟩
      · obtain rfl := own_ii (3 : Int32) q; exact ⟨_, rfl, rfl⟩
      · obtain rfl := own_ii (4 : Int32) q; exact ⟨_, rfl, rfl⟩
      · obtain rfl := own_ii (5 : Int32) q; exact ⟨_, rfl, (own_chdg hpt (by decide)).trans rfl⟩
      · obtain rfl := own_ii (6 : Int32) q; exact ⟨_, rfl, (own_chdg hpt (by decide)).trans rfl⟩
      · obtain rfl := own_ii (7 : Int32) q; exact ⟨_, rfl, (own_chdg hpt (by decide)).trans rfl⟩
  · have en : own_nd pt = (4 : Int32) := by unfold own_nd; rw [own_dl_4 hlo hhi]; rfl
    rw [en, own_dl_4 hlo hhi]
    by_cases g : (9 : Int) ≤ ii.toInt
    · exact Or.inl g
    · refine Or.inr ⟨hi, ?_⟩
      have hc : ii.toInt = 0 ∨ ii.toInt = 1 ∨ ii.toInt = 2 ∨ ii.toInt = 3 ∨ ii.toInt = 4 ∨ ii.toInt = 5 ∨ ii.toInt = 6 ∨ ii.toInt = 7 ∨ ii.toInt = 8 := by omega
      rcases hc with q | q | q | q | q | q | q | q | q
      · obtain rfl := own_ii (0 : Int32) q; exact ⟨_, rfl, rfl⟩
      · obtain rfl := own_ii (1 : Int32) q; exact ⟨_, rfl, (own_chbt h0).trans rfl⟩
      · obtain rfl := own_ii (2 : Int32) q; exact ⟨_, rfl, (own_chbt h1).trans rfl⟩
      · obtain rfl := own_ii (3 : Int32) q; exact ⟨_, rfl, rfl⟩
      · obtain rfl := own_ii (4 : Int32) q; exact ⟨_, rfl, rfl⟩
      · obtain rfl := own_ii (5 : Int32) q; exact ⟨_, rfl, (own_chdg hpt (by decide)).trans rfl⟩
      · obtain rfl := own_ii (6 : Int32) q; exact ⟨_, rfl, (own_chdg hpt (by decide)).trans rfl⟩
      · obtain rfl := own_ii (7 : Int32) q; exact ⟨_, rfl, (own_chdg hpt (by decide)).trans rfl⟩
      · obtain rfl := own_ii (8 : Int32) q; exact ⟨_, rfl, (own_chdg hpt (by decide)).trans rfl⟩
  · have en : own_nd pt = (5 : Int32) := by unfold own_nd; rw [own_dl_5 hlo]; rfl
    rw [en, own_dl_5 hlo]
    by_cases g : (10 : Int) ≤ ii.toInt
    · exact Or.inl g
    · refine Or.inr ⟨hi, ?_⟩
      have hc : ii.toInt = 0 ∨ ii.toInt = 1 ∨ ii.toInt = 2 ∨ ii.toInt = 3 ∨ ii.toInt = 4 ∨ ii.toInt = 5 ∨ ii.toInt = 6 ∨ ii.toInt = 7 ∨ ii.toInt = 8 ∨ ii.toInt = 9 := by omega
      rcases hc with q | q | q | q | q | q | q | q | q | q
      · obtain rfl := own_ii (0 : Int32) q; exact ⟨_, rfl, rfl⟩
      · obtain rfl := own_ii (1 : Int32) q; exact ⟨_, rfl, (own_chbt h0).trans rfl⟩
      · obtain rfl := own_ii (2 : Int32) q; exact ⟨_, rfl, (own_chbt h1).trans rfl⟩
      · obtain rfl := own_ii (3 : Int32) q; exact ⟨_, rfl, rfl⟩
      · obtain rfl := own_ii (4 : Int32) q; exact ⟨_, rfl, rfl⟩
      · obtain rfl := own_ii (5 : Int32) q; exact ⟨_, rfl, (own_chdg hpt (by decide)).trans rfl⟩
      · obtain rfl := own_ii (6 : Int32) q; exact ⟨_, rfl, (own_chdg hpt (by decide)).trans rfl⟩
      · obtain rfl := own_ii (7 : Int32) q; exact ⟨_, rfl, (own_chdg hpt (by decide)).trans rfl⟩
      · obtain rfl := own_ii (8 : Int32) q; exact ⟨_, rfl, (own_chdg hpt (by decide)).trans rfl⟩
      · obtain rfl := own_ii (9 : Int32) q; exact ⟨_, rfl, (own_chdg hpt (by decide)).trans rfl⟩
theorem own_E_2_0 {z0 z1 pt : Int32} (hpt : 0 ≤ pt.toInt ∧ pt.toInt ≤ 65535) : (2 : Int32) + 0 + 1 + own_nd pt = ((Value.int (own_bt z0) :: Value.int (own_bt z1) :: Value.int 58 :: own_dl pt)).length.toInt32 := by
  rcases own_dcase hpt with ⟨hlo, hhi⟩ | ⟨hlo, hhi⟩ | ⟨hlo, hhi⟩ | ⟨hlo, hhi⟩ | ⟨hlo, hhi⟩
  · unfold own_nd; rw [own_dl_1 hhi]; rfl
  · unfold own_nd; rw [own_dl_2 hlo hhi]; rfl
  · unfold own_nd; rw [own_dl_3 hlo hhi]; rfl
  · unfold own_nd; rw [own_dl_4 hlo hhi]; rfl
  · unfold own_nd; rw [own_dl_5 hlo]; rfl
theorem own_H_2_0 {z0 z1 z2 : Int32} {pt : Int32} (h0 : 0 ≤ z0.toInt ∧ z0.toInt ≤ 255) (h1 : 0 ≤ z1.toInt ∧ z1.toInt ≤ 255) (h2 : 0 ≤ z2.toInt ∧ z2.toInt ≤ 255) (hpt : 0 ≤ pt.toInt ∧ pt.toInt ≤ 65535) : ∀ ii : Int32, 0 ≤ ii.toInt → (((Value.int (own_bt z0) :: Value.int (own_bt z1) :: Value.int 58 :: own_dl pt)).length.toInt32).toInt ≤ ii.toInt ∨ (0 ≤ ii.toInt ∧ ∃ y : Int32, ((Value.int (own_bt z0) :: Value.int (own_bt z1) :: Value.int 58 :: own_dl pt))[ii.toInt.toNat]? = some (.int y) ∧ own_ch y = own_exp ii z0 z1 z2 (2 : Int32) (0 : Int32) pt (own_nd pt)) := by
  intro ii hi
  rcases own_dcase hpt with ⟨hlo, hhi⟩ | ⟨hlo, hhi⟩ | ⟨hlo, hhi⟩ | ⟨hlo, hhi⟩ | ⟨hlo, hhi⟩
  · have en : own_nd pt = (1 : Int32) := by unfold own_nd; rw [own_dl_1 hhi]; rfl
    rw [en, own_dl_1 hhi]
    by_cases g : (4 : Int) ≤ ii.toInt
    · exact Or.inl g
    · refine Or.inr ⟨hi, ?_⟩
      have hc : ii.toInt = 0 ∨ ii.toInt = 1 ∨ ii.toInt = 2 ∨ ii.toInt = 3 := by omega
      rcases hc with q | q | q | q
      · obtain rfl := own_ii (0 : Int32) q; exact ⟨_, rfl, (own_chbt h0).trans rfl⟩
      · obtain rfl := own_ii (1 : Int32) q; exact ⟨_, rfl, (own_chbt h1).trans rfl⟩
      · obtain rfl := own_ii (2 : Int32) q; exact ⟨_, rfl, rfl⟩
      · obtain rfl := own_ii (3 : Int32) q; exact ⟨_, rfl, (own_chdg hpt (by decide)).trans rfl⟩
  · have en : own_nd pt = (2 : Int32) := by unfold own_nd; rw [own_dl_2 hlo hhi]; rfl
    rw [en, own_dl_2 hlo hhi]
    by_cases g : (5 : Int) ≤ ii.toInt
    · exact Or.inl g
    · refine Or.inr ⟨hi, ?_⟩
      have hc : ii.toInt = 0 ∨ ii.toInt = 1 ∨ ii.toInt = 2 ∨ ii.toInt = 3 ∨ ii.toInt = 4 := by omega
      rcases hc with q | q | q | q | q
      · obtain rfl := own_ii (0 : Int32) q; exact ⟨_, rfl, (own_chbt h0).trans rfl⟩
      · obtain rfl := own_ii (1 : Int32) q; exact ⟨_, rfl, (own_chbt h1).trans rfl⟩
      · obtain rfl := own_ii (2 : Int32) q; exact ⟨_, rfl, rfl⟩
      · obtain rfl := own_ii (3 : Int32) q; exact ⟨_, rfl, (own_chdg hpt (by decide)).trans rfl⟩
      · obtain rfl := own_ii (4 : Int32) q; exact ⟨_, rfl, (own_chdg hpt (by decide)).trans rfl⟩
  · have en : own_nd pt = (3 : Int32) := by unfold own_nd; rw [own_dl_3 hlo hhi]; rfl
    rw [en, own_dl_3 hlo hhi]
    by_cases g : (6 : Int) ≤ ii.toInt
    · exact Or.inl g
    · refine Or.inr ⟨hi, ?_⟩
      have hc : ii.toInt = 0 ∨ ii.toInt = 1 ∨ ii.toInt = 2 ∨ ii.toInt = 3 ∨ ii.toInt = 4 ∨ ii.toInt = 5 := by omega
      rcases hc with q | q | q | q | q | q
      · obtain rfl := own_ii (0 : Int32) q; exact ⟨_, rfl, (own_chbt h0).trans rfl⟩
      · obtain rfl := own_ii (1 : Int32) q; exact ⟨_, rfl, (own_chbt h1).trans rfl⟩
      · obtain rfl := own_ii (2 : Int32) q; exact ⟨_, rfl, rfl⟩
      · obtain rfl := own_ii (3 : Int32) q; exact ⟨_, rfl, (own_chdg hpt (by decide)).trans rfl⟩
      · obtain rfl := own_ii (4 : Int32) q; exact ⟨_, rfl, (own_chdg hpt (by decide)).trans rfl⟩
      · obtain rfl := own_ii (5 : Int32) q; exact ⟨_, rfl, (own_chdg hpt (by decide)).trans rfl⟩
  · have en : own_nd pt = (4 : Int32) := by unfold own_nd; rw [own_dl_4 hlo hhi]; rfl
    rw [en, own_dl_4 hlo hhi]
    by_cases g : (7 : Int) ≤ ii.toInt
    · exact Or.inl g
    · refine Or.inr ⟨hi, ?_⟩
      have hc : ii.toInt = 0 ∨ ii.toInt = 1 ∨ ii.toInt = 2 ∨ ii.toInt = 3 ∨ ii.toInt = 4 ∨ ii.toInt = 5 ∨ ii.toInt = 6 := by omega
      rcases hc with q | q | q | q | q | q | q
      · obtain rfl := own_ii (0 : Int32) q; exact ⟨_, rfl, (own_chbt h0).trans rfl⟩
      · obtain rfl := own_ii (1 : Int32) q; exact ⟨_, rfl, (own_chbt h1).trans rfl⟩
      · obtain rfl := own_ii (2 : Int32) q; exact ⟨_, rfl, rfl⟩
      · obtain rfl := own_ii (3 : Int32) q; exact ⟨_, rfl, (own_chdg hpt (by decide)).trans rfl⟩
      · obtain rfl := own_ii (4 : Int32) q; exact ⟨_, rfl, (own_chdg hpt (by decide)).trans rfl⟩
      · obtain rfl := own_ii (5 : Int32) q; exact ⟨_, rfl, (own_chdg hpt (by decide)).trans rfl⟩
      · obtain rfl := own_ii (6 : Int32) q; exact ⟨_, rfl, (own_chdg hpt (by decide)).trans rfl⟩
  · have en : own_nd pt = (5 : Int32) := by unfold own_nd; rw [own_dl_5 hlo]; rfl
    rw [en, own_dl_5 hlo]
    by_cases g : (8 : Int) ≤ ii.toInt
    · exact Or.inl g
    · refine Or.inr ⟨hi, ?_⟩
      have hc : ii.toInt = 0 ∨ ii.toInt = 1 ∨ ii.toInt = 2 ∨ ii.toInt = 3 ∨ ii.toInt = 4 ∨ ii.toInt = 5 ∨ ii.toInt = 6 ∨ ii.toInt = 7 := by omega
      rcases hc with q | q | q | q | q | q | q | q
      · obtain rfl := own_ii (0 : Int32) q; exact ⟨_, rfl, (own_chbt h0).trans rfl⟩
      · obtain rfl := own_ii (1 : Int32) q; exact ⟨_, rfl, (own_chbt h1).trans rfl⟩
      · obtain rfl := own_ii (2 : Int32) q; exact ⟨_, rfl, rfl⟩
      · obtain rfl := own_ii (3 : Int32) q; exact ⟨_, rfl, (own_chdg hpt (by decide)).trans rfl⟩
      · obtain rfl := own_ii (4 : Int32) q; exact ⟨_, rfl, (own_chdg hpt (by decide)).trans rfl⟩
      · obtain rfl := own_ii (5 : Int32) q; exact ⟨_, rfl, (own_chdg hpt (by decide)).trans rfl⟩
      · obtain rfl := own_ii (6 : Int32) q; exact ⟨_, rfl, (own_chdg hpt (by decide)).trans rfl⟩
      · obtain rfl := own_ii (7 : Int32) q; exact ⟨_, rfl, (own_chdg hpt (by decide)).trans rfl⟩
theorem own_colD3 {y0 y1 y2 : Int32} (h : own_col [Value.int y0, Value.int y1, Value.int y2]) : y0 = 58 ∨ y1 = 58 ∨ y2 = 58 := by
  unfold own_col at h; simp only [List.mem_cons, List.not_mem_nil, or_false, Value.int.injEq] at h; rcases h with h | h | h
  · exact Or.inl h.symm
  · exact Or.inr (Or.inl h.symm)
  · exact Or.inr (Or.inr h.symm)
theorem own_E_3_1 {z0 z1 z2 pt : Int32} (hpt : 0 ≤ pt.toInt ∧ pt.toInt ≤ 65535) : (3 : Int32) + 2 + 1 + own_nd pt = ((Value.int 91 :: Value.int (own_bt z0) :: Value.int (own_bt z1) :: Value.int (own_bt z2) :: Value.int 93 :: Value.int 58 :: own_dl pt)).length.toInt32 := by
  rcases own_dcase hpt with ⟨hlo, hhi⟩ | ⟨hlo, hhi⟩ | ⟨hlo, hhi⟩ | ⟨hlo, hhi⟩ | ⟨hlo, hhi⟩
  · unfold own_nd; rw [own_dl_1 hhi]; rfl
  · unfold own_nd; rw [own_dl_2 hlo hhi]; rfl
  · unfold own_nd; rw [own_dl_3 hlo hhi]; rfl
  · unfold own_nd; rw [own_dl_4 hlo hhi]; rfl
  · unfold own_nd; rw [own_dl_5 hlo]; rfl
theorem own_H_3_1 {z0 z1 z2 : Int32} {pt : Int32} (h0 : 0 ≤ z0.toInt ∧ z0.toInt ≤ 255) (h1 : 0 ≤ z1.toInt ∧ z1.toInt ≤ 255) (h2 : 0 ≤ z2.toInt ∧ z2.toInt ≤ 255) (hpt : 0 ≤ pt.toInt ∧ pt.toInt ≤ 65535) : ∀ ii : Int32, 0 ≤ ii.toInt → (((Value.int 91 :: Value.int (own_bt z0) :: Value.int (own_bt z1) :: Value.int (own_bt z2) :: Value.int 93 :: Value.int 58 :: own_dl pt)).length.toInt32).toInt ≤ ii.toInt ∨ (0 ≤ ii.toInt ∧ ∃ y : Int32, ((Value.int 91 :: Value.int (own_bt z0) :: Value.int (own_bt z1) :: Value.int (own_bt z2) :: Value.int 93 :: Value.int 58 :: own_dl pt))[ii.toInt.toNat]? = some (.int y) ∧ own_ch y = own_exp ii z0 z1 z2 (3 : Int32) (1 : Int32) pt (own_nd pt)) := by
  intro ii hi
  rcases own_dcase hpt with ⟨hlo, hhi⟩ | ⟨hlo, hhi⟩ | ⟨hlo, hhi⟩ | ⟨hlo, hhi⟩ | ⟨hlo, hhi⟩
  · have en : own_nd pt = (1 : Int32) := by unfold own_nd; rw [own_dl_1 hhi]; rfl
    rw [en, own_dl_1 hhi]
    by_cases g : (7 : Int) ≤ ii.toInt
    · exact Or.inl g
    · refine Or.inr ⟨hi, ?_⟩
      have hc : ii.toInt = 0 ∨ ii.toInt = 1 ∨ ii.toInt = 2 ∨ ii.toInt = 3 ∨ ii.toInt = 4 ∨ ii.toInt = 5 ∨ ii.toInt = 6 := by omega
      rcases hc with q | q | q | q | q | q | q
      · obtain rfl := own_ii (0 : Int32) q; exact ⟨_, rfl, rfl⟩
      · obtain rfl := own_ii (1 : Int32) q; exact ⟨_, rfl, (own_chbt h0).trans rfl⟩
      · obtain rfl := own_ii (2 : Int32) q; exact ⟨_, rfl, (own_chbt h1).trans rfl⟩
      · obtain rfl := own_ii (3 : Int32) q; exact ⟨_, rfl, (own_chbt h2).trans rfl⟩
      · obtain rfl := own_ii (4 : Int32) q; exact ⟨_, rfl, rfl⟩
      · obtain rfl := own_ii (5 : Int32) q; exact ⟨_, rfl, rfl⟩
      · obtain rfl := own_ii (6 : Int32) q; exact ⟨_, rfl, (own_chdg hpt (by decide)).trans rfl⟩
  · have en : own_nd pt = (2 : Int32) := by unfold own_nd; rw [own_dl_2 hlo hhi]; rfl
    rw [en, own_dl_2 hlo hhi]
    by_cases g : (8 : Int) ≤ ii.toInt
    · exact Or.inl g
    · refine Or.inr ⟨hi, ?_⟩
      have hc : ii.toInt = 0 ∨ ii.toInt = 1 ∨ ii.toInt = 2 ∨ ii.toInt = 3 ∨ ii.toInt = 4 ∨ ii.toInt = 5 ∨ ii.toInt = 6 ∨ ii.toInt = 7 := by omega
      rcases hc with q | q | q | q | q | q | q | q
      · obtain rfl := own_ii (0 : Int32) q; exact ⟨_, rfl, rfl⟩
      · obtain rfl := own_ii (1 : Int32) q; exact ⟨_, rfl, (own_chbt h0).trans rfl⟩
      · obtain rfl := own_ii (2 : Int32) q; exact ⟨_, rfl, (own_chbt h1).trans rfl⟩
      · obtain rfl := own_ii (3 : Int32) q; exact ⟨_, rfl, (own_chbt h2).trans rfl⟩
      · obtain rfl := own_ii (4 : Int32) q; exact ⟨_, rfl, rfl⟩
      · obtain rfl := own_ii (5 : Int32) q; exact ⟨_, rfl, rfl⟩
      · obtain rfl := own_ii (6 : Int32) q; exact ⟨_, rfl, (own_chdg hpt (by decide)).trans rfl⟩
      · obtain rfl := own_ii (7 : Int32) q; exact ⟨_, rfl, (own_chdg hpt (by decide)).trans rfl⟩
  · have en : own_nd pt = (3 : Int32) := by unfold own_nd; rw [own_dl_3 hlo hhi]; rfl
    rw [en, own_dl_3 hlo hhi]
    by_cases g : (9 : Int) ≤ ii.toInt
    · exact Or.inl g
    · refine Or.inr ⟨hi, ?_⟩
      have hc : ii.toInt = 0 ∨ ii.toInt = 1 ∨ ii.toInt = 2 ∨ ii.toInt = 3 ∨ ii.toInt = 4 ∨ ii.toInt = 5 ∨ ii.toInt = 6 ∨ ii.toInt = 7 ∨ ii.toInt = 8 := by omega
      rcases hc with q | q | q | q | q | q | q | q | q
      · obtain rfl := own_ii (0 : Int32) q; exact ⟨_, rfl, rfl⟩
      · obtain rfl := own_ii (1 : Int32) q; exact ⟨_, rfl, (own_chbt h0).trans rfl⟩
      · obtain rfl := own_ii (2 : Int32) q; exact ⟨_, rfl, (own_chbt h1).trans rfl⟩
      · obtain rfl := own_ii (3 : Int32) q; exact ⟨_, rfl, (own_chbt h2).trans rfl⟩
      · obtain rfl := own_ii (4 : Int32) q; exact ⟨_, rfl, rfl⟩
      · obtain rfl := own_ii (5 : Int32) q; exact ⟨_, rfl, rfl⟩
      · obtain rfl := own_ii (6 : Int32) q; exact ⟨_, rfl, (own_chdg hpt (by decide)).trans rfl⟩
      · obtain rfl := own_ii (7 : Int32) q; exact ⟨_, rfl, (own_chdg hpt (by decide)).trans rfl⟩
      · obtain rfl := own_ii (8 : Int32) q; exact ⟨_, rfl, (own_chdg hpt (by decide)).trans rfl⟩
  · have en : own_nd pt = (4 : Int32) := by unfold own_nd; rw [own_dl_4 hlo hhi]; rfl
    rw [en, own_dl_4 hlo hhi]
    by_cases g : (10 : Int) ≤ ii.toInt
    · exact Or.inl g
    · refine Or.inr ⟨hi, ?_⟩
      have hc : ii.toInt = 0 ∨ ii.toInt = 1 ∨ ii.toInt = 2 ∨ ii.toInt = 3 ∨ ii.toInt = 4 ∨ ii.toInt = 5 ∨ ii.toInt = 6 ∨ ii.toInt = 7 ∨ ii.toInt = 8 ∨ ii.toInt = 9 := by omega
      rcases hc with q | q | q | q | q | q | q | q | q | q
      · obtain rfl := own_ii (0 : Int32) q; exact ⟨_, rfl, rfl⟩
      · obtain rfl := own_ii (1 : Int32) q; exact ⟨_, rfl, (own_chbt h0).trans rfl⟩
      · obtain rfl := own_ii (2 : Int32) q; exact ⟨_, rfl, (own_chbt h1).trans rfl⟩
      · obtain rfl := own_ii (3 : Int32) q; exact ⟨_, rfl, (own_chbt h2).trans rfl⟩
      · obtain rfl := own_ii (4 : Int32) q; exact ⟨_, rfl, rfl⟩
      · obtain rfl := own_ii (5 : Int32) q; exact ⟨_, rfl, rfl⟩
      · obtain rfl := own_ii (6 : Int32) q; exact ⟨_, rfl, (own_chdg hpt (by decide)).trans rfl⟩
      · obtain rfl := own_ii (7 : Int32) q; exact ⟨_, rfl, (own_chdg hpt (by decide)).trans rfl⟩
      · obtain rfl := own_ii (8 : Int32) q; exact ⟨_, rfl, (own_chdg hpt (by decide)).trans rfl⟩
      · obtain rfl := own_ii (9 : Int32) q; exact ⟨_, rfl, (own_chdg hpt (by decide)).trans rfl⟩
  · have en : own_nd pt = (5 : Int32) := by unfold own_nd; rw [own_dl_5 hlo]; rfl
    rw [en, own_dl_5 hlo]
    by_cases g : (11 : Int) ≤ ii.toInt
    · exact Or.inl g
    · refine Or.inr ⟨hi, ?_⟩
      have hc : ii.toInt = 0 ∨ ii.toInt = 1 ∨ ii.toInt = 2 ∨ ii.toInt = 3 ∨ ii.toInt = 4 ∨ ii.toInt = 5 ∨ ii.toInt = 6 ∨ ii.toInt = 7 ∨ ii.toInt = 8 ∨ ii.toInt = 9 ∨ ii.toInt = 10 := by omega
      rcases hc with q | q | q | q | q | q | q | q | q | q | q
      · obtain rfl := own_ii (0 : Int32) q; exact ⟨_, rfl, rfl⟩
      · obtain rfl := own_ii (1 : Int32) q; exact ⟨_, rfl, (own_chbt h0).trans rfl⟩
      · obtain rfl := own_ii (2 : Int32) q; exact ⟨_, rfl, (own_chbt h1).trans rfl⟩
      · obtain rfl := own_ii (3 : Int32) q; exact ⟨_, rfl, (own_chbt h2).trans rfl⟩
      · obtain rfl := own_ii (4 : Int32) q; exact ⟨_, rfl, rfl⟩
      · obtain rfl := own_ii (5 : Int32) q; exact ⟨_, rfl, rfl⟩
      · obtain rfl := own_ii (6 : Int32) q; exact ⟨_, rfl, (own_chdg hpt (by decide)).trans rfl⟩
      · obtain rfl := own_ii (7 : Int32) q; exact ⟨_, rfl, (own_chdg hpt (by decide)).trans rfl⟩
      · obtain rfl := own_ii (8 : Int32) q; exact ⟨_, rfl, (own_chdg hpt (by decide)).trans rfl⟩
      · obtain rfl := own_ii (9 : Int32) q; exact ⟨_, rfl, (own_chdg hpt (by decide)).trans rfl⟩
      · obtain rfl := own_ii (10 : Int32) q; exact ⟨_, rfl, (own_chdg hpt (by decide)).trans rfl⟩
theorem own_E_3_0 {z0 z1 z2 pt : Int32} (hpt : 0 ≤ pt.toInt ∧ pt.toInt ≤ 65535) : (3 : Int32) + 0 + 1 + own_nd pt = ((Value.int (own_bt z0) :: Value.int (own_bt z1) :: Value.int (own_bt z2) :: Value.int 58 :: own_dl pt)).length.toInt32 := by
  rcases own_dcase hpt with ⟨hlo, hhi⟩ | ⟨hlo, hhi⟩ | ⟨hlo, hhi⟩ | ⟨hlo, hhi⟩ | ⟨hlo, hhi⟩
  · unfold own_nd; rw [own_dl_1 hhi]; rfl
  · unfold own_nd; rw [own_dl_2 hlo hhi]; rfl
  · unfold own_nd; rw [own_dl_3 hlo hhi]; rfl
  · unfold own_nd; rw [own_dl_4 hlo hhi]; rfl
  · unfold own_nd; rw [own_dl_5 hlo]; rfl
theorem own_H_3_0 {z0 z1 z2 : Int32} {pt : Int32} (h0 : 0 ≤ z0.toInt ∧ z0.toInt ≤ 255) (h1 : 0 ≤ z1.toInt ∧ z1.toInt ≤ 255) (h2 : 0 ≤ z2.toInt ∧ z2.toInt ≤ 255) (hpt : 0 ≤ pt.toInt ∧ pt.toInt ≤ 65535) : ∀ ii : Int32, 0 ≤ ii.toInt → (((Value.int (own_bt z0) :: Value.int (own_bt z1) :: Value.int (own_bt z2) :: Value.int 58 :: own_dl pt)).length.toInt32).toInt ≤ ii.toInt ∨ (0 ≤ ii.toInt ∧ ∃ y : Int32, ((Value.int (own_bt z0) :: Value.int (own_bt z1) :: Value.int (own_bt z2) :: Value.int 58 :: own_dl pt))[ii.toInt.toNat]? = some (.int y) ∧ own_ch y = own_exp ii z0 z1 z2 (3 : Int32) (0 : Int32) pt (own_nd pt)) := by
  intro ii hi
  rcases own_dcase hpt with ⟨hlo, hhi⟩ | ⟨hlo, hhi⟩ | ⟨hlo, hhi⟩ | ⟨hlo, hhi⟩ | ⟨hlo, hhi⟩
  · have en : own_nd pt = (1 : Int32) := by unfold own_nd; rw [own_dl_1 hhi]; rfl
    rw [en, own_dl_1 hhi]
    by_cases g : (5 : Int) ≤ ii.toInt
    · exact Or.inl g
    · refine Or.inr ⟨hi, ?_⟩
      have hc : ii.toInt = 0 ∨ ii.toInt = 1 ∨ ii.toInt = 2 ∨ ii.toInt = 3 ∨ ii.toInt = 4 := by omega
      rcases hc with q | q | q | q | q
      · obtain rfl := own_ii (0 : Int32) q; exact ⟨_, rfl, (own_chbt h0).trans rfl⟩
      · obtain rfl := own_ii (1 : Int32) q; exact ⟨_, rfl, (own_chbt h1).trans rfl⟩
      · obtain rfl := own_ii (2 : Int32) q; exact ⟨_, rfl, (own_chbt h2).trans rfl⟩
      · obtain rfl := own_ii (3 : Int32) q; exact ⟨_, rfl, rfl⟩
      · obtain rfl := own_ii (4 : Int32) q; exact ⟨_, rfl, (own_chdg hpt (by decide)).trans rfl⟩
  · have en : own_nd pt = (2 : Int32) := by unfold own_nd; rw [own_dl_2 hlo hhi]; rfl
    rw [en, own_dl_2 hlo hhi]
    by_cases g : (6 : Int) ≤ ii.toInt
    · exact Or.inl g
    · refine Or.inr ⟨hi, ?_⟩
      have hc : ii.toInt = 0 ∨ ii.toInt = 1 ∨ ii.toInt = 2 ∨ ii.toInt = 3 ∨ ii.toInt = 4 ∨ ii.toInt = 5 := by omega
      rcases hc with q | q | q | q | q | q
      · obtain rfl := own_ii (0 : Int32) q; exact ⟨_, rfl, (own_chbt h0).trans rfl⟩
      · obtain rfl := own_ii (1 : Int32) q; exact ⟨_, rfl, (own_chbt h1).trans rfl⟩
      · obtain rfl := own_ii (2 : Int32) q; exact ⟨_, rfl, (own_chbt h2).trans rfl⟩
      · obtain rfl := own_ii (3 : Int32) q; exact ⟨_, rfl, rfl⟩
      · obtain rfl := own_ii (4 : Int32) q; exact ⟨_, rfl, (own_chdg hpt (by decide)).trans rfl⟩
      · obtain rfl := own_ii (5 : Int32) q; exact ⟨_, rfl, (own_chdg hpt (by decide)).trans rfl⟩
  · have en : own_nd pt = (3 : Int32) := by unfold own_nd; rw [own_dl_3 hlo hhi]; rfl
    rw [en, own_dl_3 hlo hhi]
    by_cases g : (7 : Int) ≤ ii.toInt
    · exact Or.inl g
    · refine Or.inr ⟨hi, ?_⟩
      have hc : ii.toInt = 0 ∨ ii.toInt = 1 ∨ ii.toInt = 2 ∨ ii.toInt = 3 ∨ ii.toInt = 4 ∨ ii.toInt = 5 ∨ ii.toInt = 6 := by omega
      rcases hc with q | q | q | q | q | q | q
      · obtain rfl := own_ii (0 : Int32) q; exact ⟨_, rfl, (own_chbt h0).trans rfl⟩
      · obtain rfl := own_ii (1 : Int32) q; exact ⟨_, rfl, (own_chbt h1).trans rfl⟩
      · obtain rfl := own_ii (2 : Int32) q; exact ⟨_, rfl, (own_chbt h2).trans rfl⟩
      · obtain rfl := own_ii (3 : Int32) q; exact ⟨_, rfl, rfl⟩
      · obtain rfl := own_ii (4 : Int32) q; exact ⟨_, rfl, (own_chdg hpt (by decide)).trans rfl⟩
      · obtain rfl := own_ii (5 : Int32) q; exact ⟨_, rfl, (own_chdg hpt (by decide)).trans rfl⟩
      · obtain rfl := own_ii (6 : Int32) q; exact ⟨_, rfl, (own_chdg hpt (by decide)).trans rfl⟩
  · have en : own_nd pt = (4 : Int32) := by unfold own_nd; rw [own_dl_4 hlo hhi]; rfl
    rw [en, own_dl_4 hlo hhi]
    by_cases g : (8 : Int) ≤ ii.toInt
    · exact Or.inl g
    · refine Or.inr ⟨hi, ?_⟩
      have hc : ii.toInt = 0 ∨ ii.toInt = 1 ∨ ii.toInt = 2 ∨ ii.toInt = 3 ∨ ii.toInt = 4 ∨ ii.toInt = 5 ∨ ii.toInt = 6 ∨ ii.toInt = 7 := by omega
      rcases hc with q | q | q | q | q | q | q | q
      · obtain rfl := own_ii (0 : Int32) q; exact ⟨_, rfl, (own_chbt h0).trans rfl⟩
      · obtain rfl := own_ii (1 : Int32) q; exact ⟨_, rfl, (own_chbt h1).trans rfl⟩
      · obtain rfl := own_ii (2 : Int32) q; exact ⟨_, rfl, (own_chbt h2).trans rfl⟩
      · obtain rfl := own_ii (3 : Int32) q; exact ⟨_, rfl, rfl⟩
      · obtain rfl := own_ii (4 : Int32) q; exact ⟨_, rfl, (own_chdg hpt (by decide)).trans rfl⟩
      · obtain rfl := own_ii (5 : Int32) q; exact ⟨_, rfl, (own_chdg hpt (by decide)).trans rfl⟩
      · obtain rfl := own_ii (6 : Int32) q; exact ⟨_, rfl, (own_chdg hpt (by decide)).trans rfl⟩
      · obtain rfl := own_ii (7 : Int32) q; exact ⟨_, rfl, (own_chdg hpt (by decide)).trans rfl⟩
  · have en : own_nd pt = (5 : Int32) := by unfold own_nd; rw [own_dl_5 hlo]; rfl
    rw [en, own_dl_5 hlo]
    by_cases g : (9 : Int) ≤ ii.toInt
    · exact Or.inl g
    · refine Or.inr ⟨hi, ?_⟩
      have hc : ii.toInt = 0 ∨ ii.toInt = 1 ∨ ii.toInt = 2 ∨ ii.toInt = 3 ∨ ii.toInt = 4 ∨ ii.toInt = 5 ∨ ii.toInt = 6 ∨ ii.toInt = 7 ∨ ii.toInt = 8 := by omega
      rcases hc with q | q | q | q | q | q | q | q | q
      · obtain rfl := own_ii (0 : Int32) q; exact ⟨_, rfl, (own_chbt h0).trans rfl⟩
      · obtain rfl := own_ii (1 : Int32) q; exact ⟨_, rfl, (own_chbt h1).trans rfl⟩
      · obtain rfl := own_ii (2 : Int32) q; exact ⟨_, rfl, (own_chbt h2).trans rfl⟩
      · obtain rfl := own_ii (3 : Int32) q; exact ⟨_, rfl, rfl⟩
      · obtain rfl := own_ii (4 : Int32) q; exact ⟨_, rfl, (own_chdg hpt (by decide)).trans rfl⟩
      · obtain rfl := own_ii (5 : Int32) q; exact ⟨_, rfl, (own_chdg hpt (by decide)).trans rfl⟩
      · obtain rfl := own_ii (6 : Int32) q; exact ⟨_, rfl, (own_chdg hpt (by decide)).trans rfl⟩
      · obtain rfl := own_ii (7 : Int32) q; exact ⟨_, rfl, (own_chdg hpt (by decide)).trans rfl⟩
      · obtain rfl := own_ii (8 : Int32) q; exact ⟨_, rfl, (own_chdg hpt (by decide)).trans rfl⟩
theorem own_arrB {Z : State} {a0 args : Array Value} {a : Addr} {t : Term} {v : Value} (ev : t.eval args Z none [] Z = some (.ref a)) (E : Exa Z Z.heap a "[B") (hl : (Term.length t).eval args Z none [] Z = some v) (wA : (Jvm.Cond.arrayClass .byte).before a0 Z = true) : ∃ c, Arr Z Z.heap a c .byte := by
  obtain ⟨x, cell, e1, e2, -⟩ := Term.length_spec hl
  cases ev.symm.trans e1
  obtain ⟨hc, hu, hst, -⟩ := State.arrayAt?_spec e2
  obtain ⟨cE, k, g1, g2, g3, g4, -⟩ := E
  cases hc.symm.trans g1
  obtain ⟨cB, kB, comp, f1, f2, f3⟩ := Cond.arrayClass_spec wA
  cases g2.symm.trans (show Z.vm.findClass "[B" = some cB from f1)
  exact ⟨cell, hc, ⟨(fun q e => by rw [e] at g4; cases g4), kB, f2, comp, f3⟩, hu⟩
theorem own_tab {Z : State} {args : Array Value} {t F : Term} {a : Addr} {c : Cell} {g : Int32 → Int32} (et : ∀ idx, t.eval args Z none idx Z = some (.ref a)) (A : Arr Z Z.heap a c .byte) (hsz : (c.slots.size : Int) = 100) (h : (Jvm.Cond.all t (.eq (.elem t (.index 0)) F)).value args Z none Z [] = some true) (hF : ∀ j : Int32, ¬ j < 0 → F.eval args Z none [j.toNatClampNeg] Z = some (.int (g j))) (j : Int32) (h1 : 0 ≤ j.toInt) (h2 : j.toInt < 100) : c.slots.toList[j.toInt.toNat]? = some (.int (g j)) := by
  have nn : ¬ j < 0 := fun q => by have := (Jvm.Free.XT.negI32 j).mp q; omega
  have hc : j.toNatClampNeg = j.toInt.toNat := rfl
  have u := Cond.all_elim (et []) (A.fin (Vm.Alike.refl _)) h j.toNatClampNeg (by omega)
  have e := eqv_i (hF j nn) u
  have e2 := (elem_f (et _) (idx_at nn) (A.fin (Vm.Alike.refl _)) nn).symm.trans e
  simpa using e2
theorem own_cat {v : Value} (h : v.isRef = true) : v.category = 1 := by
  rcases ref_cases h with rfl | ⟨a, rfl⟩ <;> rfl
theorem own_str {a0 : Array Value} {Z : State} (hw : ∀ d ∈ tables_1, d.before a0 Z = true) : ∀ a ∈ Bundle.stringAtoms, a.before a0 Z = true := by
  intro a ha
  simp only [Bundle.stringAtoms, List.mem_cons, List.not_mem_nil, or_false] at ha
  rcases ha with rfl | rfl | rfl | rfl | rfl | rfl | rfl
  · exact own_wd hw 8 rfl
  · exact own_wd hw 7 rfl
  · exact own_wd hw 25 rfl
  · exact own_wd hw 35 rfl
  · exact own_wd hw 33 rfl
  · exact own_wd hw 92 rfl
  · exact own_wd hw 93 rfl
theorem own_ew {a0 : Array Value} {Z : State} (hw : ∀ d ∈ tables_1, d.before a0 Z = true) : EW Z a0 EL := (EW.cons (own_wd hw 256 rfl) (by decide) (EW.cons (own_wd hw 257 rfl) (by decide) (EW.cons (own_wd hw 91 rfl) (by decide) EW.nil)))
theorem d1_0 : decode method_3_code 0 = .ok (.iload_n 0, 1) := by decide +kernel
theorem d1_1 : decode method_3_code 1 = .ok (.sipush 256, 3) := by decide +kernel
theorem d1_4 : decode method_3_code 4 = .ok (.iand, 1) := by decide +kernel
theorem d1_5 : decode method_3_code 5 = .ok (.ifCond .eq 6, 3) := by decide +kernel
theorem d1_8 : decode method_3_code 8 = .ok (.bipush 58, 2) := by decide +kernel
theorem d1_10 : decode method_3_code 10 = .ok (.ireturn, 1) := by decide +kernel
theorem d1_11 : decode method_3_code 11 = .ok (.iload_n 0, 1) := by decide +kernel
theorem d1_12 : decode method_3_code 12 = .ok (.sipush 255, 3) := by decide +kernel
theorem d1_15 : decode method_3_code 15 = .ok (.iand, 1) := by decide +kernel
theorem d1_16 : decode method_3_code 16 = .ok (.i2c, 1) := by decide +kernel
theorem d1_17 : decode method_3_code 17 = .ok (.ireturn, 1) := by decide +kernel
theorem d2_0 : decode jdk_42_method_3_code 0 = .ok (.aload_n 0, 1) := by decide +kernel
theorem d2_1 : decode jdk_42_method_3_code 1 = .ok (.aload_n 1, 1) := by decide +kernel
theorem d2_2 : decode jdk_42_method_3_code 2 = .ok (.iconst 0, 1) := by decide +kernel
theorem d2_3 : decode jdk_42_method_3_code 3 = .ok (.aload_n 1, 1) := by decide +kernel
theorem d2_4 : decode jdk_42_method_3_code 4 = .ok (.arraylength, 1) := by decide +kernel
theorem d2_5 : decode jdk_42_method_3_code 5 = .ok (.aconst_null, 1) := by decide +kernel
theorem d2_6 : decode jdk_42_method_3_code 6 = .ok (.invokespecial 27, 3) := by decide +kernel
theorem d2_9 : decode jdk_42_method_3_code 9 = .ok (.return_, 1) := by decide +kernel
theorem d3_0 : decode jdk_42_method_149_code 0 = .ok (.aload_n 0, 1) := by decide +kernel
theorem d3_1 : decode jdk_42_method_149_code 1 = .ok (.invokespecial 1, 3) := by decide +kernel
theorem d3_4 : decode jdk_42_method_149_code 4 = .ok (.iload_n 3, 1) := by decide +kernel
theorem d3_5 : decode jdk_42_method_149_code 5 = .ok (.ifCond .ne 22, 3) := by decide +kernel
theorem d3_27 : decode jdk_42_method_149_code 27 = .ok (.getstatic 38, 3) := by decide +kernel
theorem d3_30 : decode jdk_42_method_149_code 30 = .ok (.ifCond .eq 28, 3) := by decide +kernel
theorem d3_33 : decode jdk_42_method_149_code 33 = .ok (.aload_n 1, 1) := by decide +kernel
theorem d3_34 : decode jdk_42_method_149_code 34 = .ok (.iload_n 2, 1) := by decide +kernel
theorem d3_35 : decode jdk_42_method_149_code 35 = .ok (.iload_n 3, 1) := by decide +kernel
theorem d3_36 : decode jdk_42_method_149_code 36 = .ok (.invokestatic 177, 3) := by decide +kernel
theorem d3_39 : decode jdk_42_method_149_code 39 = .ok (.astore 5, 2) := by decide +kernel
theorem d3_41 : decode jdk_42_method_149_code 41 = .ok (.aload_n 0, 1) := by decide +kernel
theorem d3_42 : decode jdk_42_method_149_code 42 = .ok (.aload 5, 2) := by decide +kernel
theorem d3_44 : decode jdk_42_method_149_code 44 = .ok (.iload_n 3, 1) := by decide +kernel
theorem d3_45 : decode jdk_42_method_149_code 45 = .ok (.invokestatic 47, 3) := by decide +kernel
theorem d3_48 : decode jdk_42_method_149_code 48 = .ok (.putfield 15, 3) := by decide +kernel
theorem d3_51 : decode jdk_42_method_149_code 51 = .ok (.aload_n 0, 1) := by decide +kernel
theorem d3_52 : decode jdk_42_method_149_code 52 = .ok (.aload 5, 2) := by decide +kernel
theorem d3_54 : decode jdk_42_method_149_code 54 = .ok (.putfield 9, 3) := by decide +kernel
theorem d3_57 : decode jdk_42_method_149_code 57 = .ok (.return_, 1) := by decide +kernel
theorem d5_0 : decode jdk_52_method_16_code 0 = .ok (.iload_n 2, 1) := by decide +kernel
theorem d5_1 : decode jdk_52_method_16_code 1 = .ok (.newarray .byte, 2) := by decide +kernel
theorem d5_3 : decode jdk_52_method_16_code 3 = .ok (.astore_n 3, 1) := by decide +kernel
theorem d5_4 : decode jdk_52_method_16_code 4 = .ok (.aload_n 0, 1) := by decide +kernel
theorem d5_5 : decode jdk_52_method_16_code 5 = .ok (.iload_n 1, 1) := by decide +kernel
theorem d5_6 : decode jdk_52_method_16_code 6 = .ok (.aload_n 3, 1) := by decide +kernel
theorem d5_7 : decode jdk_52_method_16_code 7 = .ok (.iconst 0, 1) := by decide +kernel
theorem d5_8 : decode jdk_52_method_16_code 8 = .ok (.iload_n 2, 1) := by decide +kernel
theorem d5_9 : decode jdk_52_method_16_code 9 = .ok (.invokestatic 115, 3) := by decide +kernel
theorem d5_12 : decode jdk_52_method_16_code 12 = .ok (.istore 4, 2) := by decide +kernel
theorem d5_14 : decode jdk_52_method_16_code 14 = .ok (.iload 4, 2) := by decide +kernel
theorem d5_16 : decode jdk_52_method_16_code 16 = .ok (.iload_n 2, 1) := by decide +kernel
theorem d5_17 : decode jdk_52_method_16_code 17 = .ok (.if_icmp .eq 40, 3) := by decide +kernel
theorem d5_57 : decode jdk_52_method_16_code 57 = .ok (.aload_n 3, 1) := by decide +kernel
theorem d5_58 : decode jdk_52_method_16_code 58 = .ok (.areturn, 1) := by decide +kernel
theorem d6_0 : decode jdk_52_method_21_code 0 = .ok (.iconst 0, 1) := by decide +kernel
theorem d6_1 : decode jdk_52_method_21_code 1 = .ok (.istore 5, 2) := by decide +kernel
theorem d6_3 : decode jdk_52_method_21_code 3 = .ok (.iload 5, 2) := by decide +kernel
theorem d6_5 : decode jdk_52_method_21_code 5 = .ok (.iload 4, 2) := by decide +kernel
theorem d6_7 : decode jdk_52_method_21_code 7 = .ok (.if_icmp .ge 37, 3) := by decide +kernel
theorem d6_10 : decode jdk_52_method_21_code 10 = .ok (.aload_n 0, 1) := by decide +kernel
theorem d6_11 : decode jdk_52_method_21_code 11 = .ok (.iload_n 1, 1) := by decide +kernel
theorem d6_12 : decode jdk_52_method_21_code 12 = .ok (.caload, 1) := by decide +kernel
theorem d6_13 : decode jdk_52_method_21_code 13 = .ok (.istore 6, 2) := by decide +kernel
theorem d6_15 : decode jdk_52_method_21_code 15 = .ok (.iload 6, 2) := by decide +kernel
theorem d6_17 : decode jdk_52_method_21_code 17 = .ok (.sipush 255, 3) := by decide +kernel
theorem d6_20 : decode jdk_52_method_21_code 20 = .ok (.if_icmp .le 6, 3) := by decide +kernel
theorem d6_26 : decode jdk_52_method_21_code 26 = .ok (.aload_n 2, 1) := by decide +kernel
theorem d6_27 : decode jdk_52_method_21_code 27 = .ok (.iload_n 3, 1) := by decide +kernel
theorem d6_28 : decode jdk_52_method_21_code 28 = .ok (.iload 6, 2) := by decide +kernel
theorem d6_30 : decode jdk_52_method_21_code 30 = .ok (.i2b, 1) := by decide +kernel
theorem d6_31 : decode jdk_52_method_21_code 31 = .ok (.bastore, 1) := by decide +kernel
theorem d6_32 : decode jdk_52_method_21_code 32 = .ok (.iinc 1 1, 3) := by decide +kernel
theorem d6_35 : decode jdk_52_method_21_code 35 = .ok (.iinc 3 1, 3) := by decide +kernel
theorem d6_38 : decode jdk_52_method_21_code 38 = .ok (.iinc 5 1, 3) := by decide +kernel
theorem d6_41 : decode jdk_52_method_21_code 41 = .ok (.goto (-38), 3) := by decide +kernel
theorem d6_44 : decode jdk_52_method_21_code 44 = .ok (.iload 4, 2) := by decide +kernel
theorem d6_46 : decode jdk_52_method_21_code 46 = .ok (.ireturn, 1) := by decide +kernel
theorem d7_0 : decode jdk_52_method_15_code 0 = .ok (.iload_n 1, 1) := by decide +kernel
theorem d7_1 : decode jdk_52_method_15_code 1 = .ok (.aload_n 0, 1) := by decide +kernel
theorem d7_2 : decode jdk_52_method_15_code 2 = .ok (.arraylength, 1) := by decide +kernel
theorem d7_3 : decode jdk_52_method_15_code 3 = .ok (.isub, 1) := by decide +kernel
theorem d7_4 : decode jdk_52_method_15_code 4 = .ok (.bipush 31, 2) := by decide +kernel
theorem d7_6 : decode jdk_52_method_15_code 6 = .ok (.iushr, 1) := by decide +kernel
theorem d7_7 : decode jdk_52_method_15_code 7 = .ok (.i2b, 1) := by decide +kernel
theorem d7_8 : decode jdk_52_method_15_code 8 = .ok (.ireturn, 1) := by decide +kernel
theorem d8_0 : decode prog_6_method_1_code 0 = .ok (.aload_n 0, 1) := by decide +kernel
theorem d8_1 : decode prog_6_method_1_code 1 = .ok (.invokespecial 1, 3) := by decide +kernel
theorem d8_4 : decode prog_6_method_1_code 4 = .ok (.aload_n 1, 1) := by decide +kernel
theorem d8_5 : decode prog_6_method_1_code 5 = .ok (.invokevirtual 7, 3) := by decide +kernel
theorem d8_8 : decode prog_6_method_1_code 8 = .ok (.ifCond .eq 13, 3) := by decide +kernel
theorem d8_21 : decode prog_6_method_1_code 21 = .ok (.aload_n 1, 1) := by decide +kernel
theorem d8_22 : decode prog_6_method_1_code 22 = .ok (.invokevirtual 20, 3) := by decide +kernel
theorem d8_25 : decode prog_6_method_1_code 25 = .ok (.sipush 255, 3) := by decide +kernel
theorem d8_28 : decode prog_6_method_1_code 28 = .ok (.if_icmp .le 13, 3) := by decide +kernel
theorem d8_41 : decode prog_6_method_1_code 41 = .ok (.iload_n 2, 1) := by decide +kernel
theorem d8_42 : decode prog_6_method_1_code 42 = .ok (.ifCond .lt 9, 3) := by decide +kernel
theorem d8_45 : decode prog_6_method_1_code 45 = .ok (.iload_n 2, 1) := by decide +kernel
theorem d8_46 : decode prog_6_method_1_code 46 = .ok (.ldc 28, 2) := by decide +kernel
theorem d8_48 : decode prog_6_method_1_code 48 = .ok (.if_icmp .le 35, 3) := by decide +kernel
theorem d8_83 : decode prog_6_method_1_code 83 = .ok (.aload_n 0, 1) := by decide +kernel
theorem d8_84 : decode prog_6_method_1_code 84 = .ok (.aload_n 1, 1) := by decide +kernel
theorem d8_85 : decode prog_6_method_1_code 85 = .ok (.putfield 47, 3) := by decide +kernel
theorem d8_88 : decode prog_6_method_1_code 88 = .ok (.aload_n 0, 1) := by decide +kernel
theorem d8_89 : decode prog_6_method_1_code 89 = .ok (.iload_n 2, 1) := by decide +kernel
theorem d8_90 : decode prog_6_method_1_code 90 = .ok (.putfield 51, 3) := by decide +kernel
theorem d8_93 : decode prog_6_method_1_code 93 = .ok (.return_, 1) := by decide +kernel
theorem d9_0 : decode jdk_30_method_1_code 0 = .ok (.aload_n 0, 1) := by decide +kernel
theorem d9_1 : decode jdk_30_method_1_code 1 = .ok (.invokespecial 1, 3) := by decide +kernel
theorem d9_4 : decode jdk_30_method_1_code 4 = .ok (.return_, 1) := by decide +kernel
theorem d10_0 : decode jdk_42_method_55_code 0 = .ok (.aload_n 0, 1) := by decide +kernel
theorem d10_1 : decode jdk_42_method_55_code 1 = .ok (.getfield 9, 3) := by decide +kernel
theorem d10_4 : decode jdk_42_method_55_code 4 = .ok (.arraylength, 1) := by decide +kernel
theorem d10_5 : decode jdk_42_method_55_code 5 = .ok (.ifCond .ne 7, 3) := by decide +kernel
theorem d10_12 : decode jdk_42_method_55_code 12 = .ok (.iconst 0, 1) := by decide +kernel
theorem d10_13 : decode jdk_42_method_55_code 13 = .ok (.ireturn, 1) := by decide +kernel
theorem d11_0 : decode jdk_42_method_54_code 0 = .ok (.aload_n 0, 1) := by decide +kernel
theorem d11_1 : decode jdk_42_method_54_code 1 = .ok (.getfield 9, 3) := by decide +kernel
theorem d11_4 : decode jdk_42_method_54_code 4 = .ok (.arraylength, 1) := by decide +kernel
theorem d11_5 : decode jdk_42_method_54_code 5 = .ok (.aload_n 0, 1) := by decide +kernel
theorem d11_6 : decode jdk_42_method_54_code 6 = .ok (.invokevirtual 335, 3) := by decide +kernel
theorem d11_9 : decode jdk_42_method_54_code 9 = .ok (.ishr, 1) := by decide +kernel
theorem d11_10 : decode jdk_42_method_54_code 10 = .ok (.ireturn, 1) := by decide +kernel
theorem d12_0 : decode jdk_42_method_152_code 0 = .ok (.getstatic 38, 3) := by decide +kernel
theorem d12_3 : decode jdk_42_method_152_code 3 = .ok (.ifCond .eq 10, 3) := by decide +kernel
theorem d12_6 : decode jdk_42_method_152_code 6 = .ok (.aload_n 0, 1) := by decide +kernel
theorem d12_7 : decode jdk_42_method_152_code 7 = .ok (.getfield 15, 3) := by decide +kernel
theorem d12_10 : decode jdk_42_method_152_code 10 = .ok (.goto 4, 3) := by decide +kernel
theorem d12_14 : decode jdk_42_method_152_code 14 = .ok (.ireturn, 1) := by decide +kernel
theorem d13_0 : decode prog_6_method_4_code 0 = .ok (.new 29, 3) := by decide +kernel
theorem d13_3 : decode prog_6_method_4_code 3 = .ok (.dup, 1) := by decide +kernel
theorem d13_4 : decode prog_6_method_4_code 4 = .ok (.invokespecial 31, 3) := by decide +kernel
theorem d13_7 : decode prog_6_method_4_code 7 = .ok (.aload_n 0, 1) := by decide +kernel
theorem d13_8 : decode prog_6_method_4_code 8 = .ok (.getfield 47, 3) := by decide +kernel
theorem d13_11 : decode prog_6_method_4_code 11 = .ok (.ldc 107, 2) := by decide +kernel
theorem d13_13 : decode prog_6_method_4_code 13 = .ok (.invokevirtual 109, 3) := by decide +kernel
theorem d13_16 : decode prog_6_method_4_code 16 = .ok (.ifCond .eq 33, 3) := by decide +kernel
theorem d13_19 : decode prog_6_method_4_code 19 = .ok (.new 29, 3) := by decide +kernel
theorem d13_22 : decode prog_6_method_4_code 22 = .ok (.dup, 1) := by decide +kernel
theorem d13_23 : decode prog_6_method_4_code 23 = .ok (.invokespecial 31, 3) := by decide +kernel
theorem d13_26 : decode prog_6_method_4_code 26 = .ok (.ldc 67, 2) := by decide +kernel
theorem d13_28 : decode prog_6_method_4_code 28 = .ok (.invokevirtual 34, 3) := by decide +kernel
theorem d13_31 : decode prog_6_method_4_code 31 = .ok (.aload_n 0, 1) := by decide +kernel
theorem d13_32 : decode prog_6_method_4_code 32 = .ok (.getfield 47, 3) := by decide +kernel
theorem d13_35 : decode prog_6_method_4_code 35 = .ok (.invokevirtual 34, 3) := by decide +kernel
theorem d13_38 : decode prog_6_method_4_code 38 = .ok (.ldc 73, 2) := by decide +kernel
theorem d13_40 : decode prog_6_method_4_code 40 = .ok (.invokevirtual 34, 3) := by decide +kernel
theorem d13_43 : decode prog_6_method_4_code 43 = .ok (.invokevirtual 43, 3) := by decide +kernel
theorem d13_46 : decode prog_6_method_4_code 46 = .ok (.goto 7, 3) := by decide +kernel
theorem d13_49 : decode prog_6_method_4_code 49 = .ok (.aload_n 0, 1) := by decide +kernel
theorem d13_50 : decode prog_6_method_4_code 50 = .ok (.getfield 47, 3) := by decide +kernel
theorem d13_53 : decode prog_6_method_4_code 53 = .ok (.invokevirtual 34, 3) := by decide +kernel
theorem d13_56 : decode prog_6_method_4_code 56 = .ok (.ldc 107, 2) := by decide +kernel
theorem d13_58 : decode prog_6_method_4_code 58 = .ok (.invokevirtual 34, 3) := by decide +kernel
theorem d13_61 : decode prog_6_method_4_code 61 = .ok (.aload_n 0, 1) := by decide +kernel
theorem d13_62 : decode prog_6_method_4_code 62 = .ok (.getfield 51, 3) := by decide +kernel
theorem d13_65 : decode prog_6_method_4_code 65 = .ok (.invokevirtual 38, 3) := by decide +kernel
theorem d13_68 : decode prog_6_method_4_code 68 = .ok (.invokevirtual 43, 3) := by decide +kernel
theorem d13_71 : decode prog_6_method_4_code 71 = .ok (.areturn, 1) := by decide +kernel
theorem d14_0 : decode jdk_67_method_1_code 0 = .ok (.aload_n 0, 1) := by decide +kernel
theorem d14_1 : decode jdk_67_method_1_code 1 = .ok (.bipush 16, 2) := by decide +kernel
theorem d14_3 : decode jdk_67_method_1_code 3 = .ok (.invokespecial 1, 3) := by decide +kernel
theorem d14_6 : decode jdk_67_method_1_code 6 = .ok (.return_, 1) := by decide +kernel
theorem d15_0 : decode jdk_68_method_2_code 0 = .ok (.aload_n 0, 1) := by decide +kernel
theorem d15_1 : decode jdk_68_method_2_code 1 = .ok (.invokespecial 3, 3) := by decide +kernel
theorem d15_4 : decode jdk_68_method_2_code 4 = .ok (.getstatic 18, 3) := by decide +kernel
theorem d15_7 : decode jdk_68_method_2_code 7 = .ok (.ifCond .eq 18, 3) := by decide +kernel
theorem d15_10 : decode jdk_68_method_2_code 10 = .ok (.aload_n 0, 1) := by decide +kernel
theorem d15_11 : decode jdk_68_method_2_code 11 = .ok (.iload_n 1, 1) := by decide +kernel
theorem d15_12 : decode jdk_68_method_2_code 12 = .ok (.newarray .byte, 2) := by decide +kernel
theorem d15_14 : decode jdk_68_method_2_code 14 = .ok (.putfield 15, 3) := by decide +kernel
theorem d15_17 : decode jdk_68_method_2_code 17 = .ok (.aload_n 0, 1) := by decide +kernel
theorem d15_18 : decode jdk_68_method_2_code 18 = .ok (.iconst 0, 1) := by decide +kernel
theorem d15_19 : decode jdk_68_method_2_code 19 = .ok (.putfield 22, 3) := by decide +kernel
theorem d15_22 : decode jdk_68_method_2_code 22 = .ok (.goto 16, 3) := by decide +kernel
theorem d15_38 : decode jdk_68_method_2_code 38 = .ok (.return_, 1) := by decide +kernel
theorem d16_0 : decode jdk_42_method_97_code 0 = .ok (.aload_n 0, 1) := by decide +kernel
theorem d16_1 : decode jdk_42_method_97_code 1 = .ok (.aload_n 1, 1) := by decide +kernel
theorem d16_2 : decode jdk_42_method_97_code 2 = .ok (.invokeinterface 710 1, 5) := by decide +kernel
theorem d16_7 : decode jdk_42_method_97_code 7 = .ok (.invokevirtual 711, 3) := by decide +kernel
theorem d16_10 : decode jdk_42_method_97_code 10 = .ok (.ifCond .lt 7, 3) := by decide +kernel
theorem d16_13 : decode jdk_42_method_97_code 13 = .ok (.iconst 1, 1) := by decide +kernel
theorem d16_14 : decode jdk_42_method_97_code 14 = .ok (.goto 4, 3) := by decide +kernel
theorem d16_17 : decode jdk_42_method_97_code 17 = .ok (.iconst 0, 1) := by decide +kernel
theorem d16_18 : decode jdk_42_method_97_code 18 = .ok (.ireturn, 1) := by decide +kernel
theorem d17_0 : decode jdk_42_method_126_code 0 = .ok (.aload_n 0, 1) := by decide +kernel
theorem d17_1 : decode jdk_42_method_126_code 1 = .ok (.areturn, 1) := by decide +kernel
theorem d18_0 : decode jdk_42_method_84_code 0 = .ok (.aload_n 0, 1) := by decide +kernel
theorem d18_1 : decode jdk_42_method_84_code 1 = .ok (.invokevirtual 335, 3) := by decide +kernel
theorem d18_4 : decode jdk_42_method_84_code 4 = .ok (.istore_n 2, 1) := by decide +kernel
theorem d18_5 : decode jdk_42_method_84_code 5 = .ok (.iload_n 2, 1) := by decide +kernel
theorem d18_6 : decode jdk_42_method_84_code 6 = .ok (.aload_n 1, 1) := by decide +kernel
theorem d18_7 : decode jdk_42_method_84_code 7 = .ok (.invokevirtual 335, 3) := by decide +kernel
theorem d18_10 : decode jdk_42_method_84_code 10 = .ok (.if_icmp .ne 36, 3) := by decide +kernel
theorem d18_13 : decode jdk_42_method_84_code 13 = .ok (.aload_n 0, 1) := by decide +kernel
theorem d18_14 : decode jdk_42_method_84_code 14 = .ok (.invokevirtual 492, 3) := by decide +kernel
theorem d18_17 : decode jdk_42_method_84_code 17 = .ok (.ifCond .eq 17, 3) := by decide +kernel
theorem d18_20 : decode jdk_42_method_84_code 20 = .ok (.aload_n 0, 1) := by decide +kernel
theorem d18_21 : decode jdk_42_method_84_code 21 = .ok (.getfield 9, 3) := by decide +kernel
theorem d18_24 : decode jdk_42_method_84_code 24 = .ok (.aload_n 1, 1) := by decide +kernel
theorem d18_25 : decode jdk_42_method_84_code 25 = .ok (.getfield 9, 3) := by decide +kernel
theorem d18_28 : decode jdk_42_method_84_code 28 = .ok (.invokestatic 647, 3) := by decide +kernel
theorem d18_31 : decode jdk_42_method_84_code 31 = .ok (.goto 14, 3) := by decide +kernel
theorem d18_45 : decode jdk_42_method_84_code 45 = .ok (.ireturn, 1) := by decide +kernel
theorem d19_0 : decode jdk_42_method_154_code 0 = .ok (.getstatic 38, 3) := by decide +kernel
theorem d19_3 : decode jdk_42_method_154_code 3 = .ok (.ifCond .eq 14, 3) := by decide +kernel
theorem d19_6 : decode jdk_42_method_154_code 6 = .ok (.aload_n 0, 1) := by decide +kernel
theorem d19_7 : decode jdk_42_method_154_code 7 = .ok (.getfield 15, 3) := by decide +kernel
theorem d19_10 : decode jdk_42_method_154_code 10 = .ok (.ifCond .ne 7, 3) := by decide +kernel
theorem d19_13 : decode jdk_42_method_154_code 13 = .ok (.iconst 1, 1) := by decide +kernel
theorem d19_14 : decode jdk_42_method_154_code 14 = .ok (.goto 4, 3) := by decide +kernel
theorem d19_18 : decode jdk_42_method_154_code 18 = .ok (.ireturn, 1) := by decide +kernel
theorem d20_0 : decode jdk_43_method_24_code 0 = .ok (.aload_n 1, 1) := by decide +kernel
theorem d20_1 : decode jdk_43_method_24_code 1 = .ok (.arraylength, 1) := by decide +kernel
theorem d20_2 : decode jdk_43_method_24_code 2 = .ok (.ifCond .ne 5, 3) := by decide +kernel
theorem d20_7 : decode jdk_43_method_24_code 7 = .ok (.aload_n 0, 1) := by decide +kernel
theorem d20_8 : decode jdk_43_method_24_code 8 = .ok (.arraylength, 1) := by decide +kernel
theorem d20_9 : decode jdk_43_method_24_code 9 = .ok (.ifCond .ne 5, 3) := by decide +kernel
theorem d20_14 : decode jdk_43_method_24_code 14 = .ok (.aload_n 0, 1) := by decide +kernel
theorem d20_15 : decode jdk_43_method_24_code 15 = .ok (.aload_n 0, 1) := by decide +kernel
theorem d20_16 : decode jdk_43_method_24_code 16 = .ok (.arraylength, 1) := by decide +kernel
theorem d20_17 : decode jdk_43_method_24_code 17 = .ok (.aload_n 1, 1) := by decide +kernel
theorem d20_18 : decode jdk_43_method_24_code 18 = .ok (.aload_n 1, 1) := by decide +kernel
theorem d20_19 : decode jdk_43_method_24_code 19 = .ok (.arraylength, 1) := by decide +kernel
theorem d20_20 : decode jdk_43_method_24_code 20 = .ok (.iconst 0, 1) := by decide +kernel
theorem d20_21 : decode jdk_43_method_24_code 21 = .ok (.invokestatic 99, 3) := by decide +kernel
theorem d20_24 : decode jdk_43_method_24_code 24 = .ok (.ireturn, 1) := by decide +kernel
theorem d21_0 : decode jdk_43_method_25_code 0 = .ok (.aload_n 2, 1) := by decide +kernel
theorem d21_1 : decode jdk_43_method_25_code 1 = .ok (.iconst 0, 1) := by decide +kernel
theorem d21_2 : decode jdk_43_method_25_code 2 = .ok (.baload, 1) := by decide +kernel
theorem d21_3 : decode jdk_43_method_25_code 3 = .ok (.istore 5, 2) := by decide +kernel
theorem d21_5 : decode jdk_43_method_25_code 5 = .ok (.iload_n 1, 1) := by decide +kernel
theorem d21_6 : decode jdk_43_method_25_code 6 = .ok (.iload_n 3, 1) := by decide +kernel
theorem d21_7 : decode jdk_43_method_25_code 7 = .ok (.isub, 1) := by decide +kernel
theorem d21_8 : decode jdk_43_method_25_code 8 = .ok (.istore 6, 2) := by decide +kernel
theorem d21_10 : decode jdk_43_method_25_code 10 = .ok (.iload 4, 2) := by decide +kernel
theorem d21_12 : decode jdk_43_method_25_code 12 = .ok (.istore 7, 2) := by decide +kernel
theorem d21_14 : decode jdk_43_method_25_code 14 = .ok (.iload 7, 2) := by decide +kernel
theorem d21_16 : decode jdk_43_method_25_code 16 = .ok (.iload 6, 2) := by decide +kernel
theorem d21_18 : decode jdk_43_method_25_code 18 = .ok (.if_icmp .gt 101, 3) := by decide +kernel
theorem d21_21 : decode jdk_43_method_25_code 21 = .ok (.aload_n 0, 1) := by decide +kernel
theorem d21_22 : decode jdk_43_method_25_code 22 = .ok (.iload 7, 2) := by decide +kernel
theorem d21_24 : decode jdk_43_method_25_code 24 = .ok (.baload, 1) := by decide +kernel
theorem d21_25 : decode jdk_43_method_25_code 25 = .ok (.iload 5, 2) := by decide +kernel
theorem d21_27 : decode jdk_43_method_25_code 27 = .ok (.if_icmp .eq 25, 3) := by decide +kernel
theorem d21_30 : decode jdk_43_method_25_code 30 = .ok (.iinc 7 1, 3) := by decide +kernel
theorem d21_33 : decode jdk_43_method_25_code 33 = .ok (.iload 7, 2) := by decide +kernel
theorem d21_35 : decode jdk_43_method_25_code 35 = .ok (.iload 6, 2) := by decide +kernel
theorem d21_37 : decode jdk_43_method_25_code 37 = .ok (.if_icmp .gt 15, 3) := by decide +kernel
theorem d21_40 : decode jdk_43_method_25_code 40 = .ok (.aload_n 0, 1) := by decide +kernel
theorem d21_41 : decode jdk_43_method_25_code 41 = .ok (.iload 7, 2) := by decide +kernel
theorem d21_43 : decode jdk_43_method_25_code 43 = .ok (.baload, 1) := by decide +kernel
theorem d21_44 : decode jdk_43_method_25_code 44 = .ok (.iload 5, 2) := by decide +kernel
theorem d21_46 : decode jdk_43_method_25_code 46 = .ok (.if_icmp .eq 6, 3) := by decide +kernel
theorem d21_49 : decode jdk_43_method_25_code 49 = .ok (.goto (-19), 3) := by decide +kernel
theorem d21_52 : decode jdk_43_method_25_code 52 = .ok (.iload 7, 2) := by decide +kernel
theorem d21_54 : decode jdk_43_method_25_code 54 = .ok (.iload 6, 2) := by decide +kernel
theorem d21_56 : decode jdk_43_method_25_code 56 = .ok (.if_icmp .gt 57, 3) := by decide +kernel
theorem d21_59 : decode jdk_43_method_25_code 59 = .ok (.iload 7, 2) := by decide +kernel
theorem d21_61 : decode jdk_43_method_25_code 61 = .ok (.iconst 1, 1) := by decide +kernel
theorem d21_62 : decode jdk_43_method_25_code 62 = .ok (.iadd, 1) := by decide +kernel
theorem d21_63 : decode jdk_43_method_25_code 63 = .ok (.istore 8, 2) := by decide +kernel
theorem d21_65 : decode jdk_43_method_25_code 65 = .ok (.iload 8, 2) := by decide +kernel
theorem d21_67 : decode jdk_43_method_25_code 67 = .ok (.iload_n 3, 1) := by decide +kernel
theorem d21_68 : decode jdk_43_method_25_code 68 = .ok (.iadd, 1) := by decide +kernel
theorem d21_69 : decode jdk_43_method_25_code 69 = .ok (.iconst 1, 1) := by decide +kernel
theorem d21_70 : decode jdk_43_method_25_code 70 = .ok (.isub, 1) := by decide +kernel
theorem d21_71 : decode jdk_43_method_25_code 71 = .ok (.istore 9, 2) := by decide +kernel
theorem d21_73 : decode jdk_43_method_25_code 73 = .ok (.iconst 1, 1) := by decide +kernel
theorem d21_74 : decode jdk_43_method_25_code 74 = .ok (.istore 10, 2) := by decide +kernel
theorem d21_76 : decode jdk_43_method_25_code 76 = .ok (.iload 8, 2) := by decide +kernel
theorem d21_78 : decode jdk_43_method_25_code 78 = .ok (.iload 9, 2) := by decide +kernel
theorem d21_80 : decode jdk_43_method_25_code 80 = .ok (.if_icmp .ge 23, 3) := by decide +kernel
theorem d21_103 : decode jdk_43_method_25_code 103 = .ok (.iload 8, 2) := by decide +kernel
theorem d21_105 : decode jdk_43_method_25_code 105 = .ok (.iload 9, 2) := by decide +kernel
theorem d21_107 : decode jdk_43_method_25_code 107 = .ok (.if_icmp .ne 6, 3) := by decide +kernel
theorem d21_110 : decode jdk_43_method_25_code 110 = .ok (.iload 7, 2) := by decide +kernel
theorem d21_112 : decode jdk_43_method_25_code 112 = .ok (.ireturn, 1) := by decide +kernel
theorem d21_113 : decode jdk_43_method_25_code 113 = .ok (.iinc 7 1, 3) := by decide +kernel
theorem d21_116 : decode jdk_43_method_25_code 116 = .ok (.goto (-102), 3) := by decide +kernel
theorem d21_119 : decode jdk_43_method_25_code 119 = .ok (.iconst (-1), 1) := by decide +kernel
theorem d21_120 : decode jdk_43_method_25_code 120 = .ok (.ireturn, 1) := by decide +kernel
theorem d22_0 : decode jdk_67_method_7_code 0 = .ok (.aload_n 0, 1) := by decide +kernel
theorem d22_1 : decode jdk_67_method_7_code 1 = .ok (.aload_n 1, 1) := by decide +kernel
theorem d22_2 : decode jdk_67_method_7_code 2 = .ok (.invokespecial 29, 3) := by decide +kernel
theorem d22_5 : decode jdk_67_method_7_code 5 = .ok (.pop, 1) := by decide +kernel
theorem d22_6 : decode jdk_67_method_7_code 6 = .ok (.aload_n 0, 1) := by decide +kernel
theorem d22_7 : decode jdk_67_method_7_code 7 = .ok (.areturn, 1) := by decide +kernel
theorem d23_0 : decode jdk_68_method_22_code 0 = .ok (.aload_n 1, 1) := by decide +kernel
theorem d23_1 : decode jdk_68_method_22_code 1 = .ok (.ifnonnull 8, 3) := by decide +kernel
theorem d23_9 : decode jdk_68_method_22_code 9 = .ok (.aload_n 1, 1) := by decide +kernel
theorem d23_10 : decode jdk_68_method_22_code 10 = .ok (.invokevirtual 32, 3) := by decide +kernel
theorem d23_13 : decode jdk_68_method_22_code 13 = .ok (.istore_n 2, 1) := by decide +kernel
theorem d23_14 : decode jdk_68_method_22_code 14 = .ok (.aload_n 0, 1) := by decide +kernel
theorem d23_15 : decode jdk_68_method_22_code 15 = .ok (.aload_n 0, 1) := by decide +kernel
theorem d23_16 : decode jdk_68_method_22_code 16 = .ok (.getfield 79, 3) := by decide +kernel
theorem d23_19 : decode jdk_68_method_22_code 19 = .ok (.iload_n 2, 1) := by decide +kernel
theorem d23_20 : decode jdk_68_method_22_code 20 = .ok (.iadd, 1) := by decide +kernel
theorem d23_21 : decode jdk_68_method_22_code 21 = .ok (.invokevirtual 100, 3) := by decide +kernel
theorem d23_24 : decode jdk_68_method_22_code 24 = .ok (.aload_n 0, 1) := by decide +kernel
theorem d23_25 : decode jdk_68_method_22_code 25 = .ok (.aload_n 0, 1) := by decide +kernel
theorem d23_26 : decode jdk_68_method_22_code 26 = .ok (.getfield 79, 3) := by decide +kernel
theorem d23_29 : decode jdk_68_method_22_code 29 = .ok (.aload_n 1, 1) := by decide +kernel
theorem d23_30 : decode jdk_68_method_22_code 30 = .ok (.invokevirtual 208, 3) := by decide +kernel
theorem d23_33 : decode jdk_68_method_22_code 33 = .ok (.aload_n 0, 1) := by decide +kernel
theorem d23_34 : decode jdk_68_method_22_code 34 = .ok (.dup, 1) := by decide +kernel
theorem d23_35 : decode jdk_68_method_22_code 35 = .ok (.getfield 79, 3) := by decide +kernel
theorem d23_38 : decode jdk_68_method_22_code 38 = .ok (.iload_n 2, 1) := by decide +kernel
theorem d23_39 : decode jdk_68_method_22_code 39 = .ok (.iadd, 1) := by decide +kernel
theorem d23_40 : decode jdk_68_method_22_code 40 = .ok (.putfield 79, 3) := by decide +kernel
theorem d23_43 : decode jdk_68_method_22_code 43 = .ok (.aload_n 0, 1) := by decide +kernel
theorem d23_44 : decode jdk_68_method_22_code 44 = .ok (.areturn, 1) := by decide +kernel
theorem d24_0 : decode jdk_68_method_9_code 0 = .ok (.aload_n 0, 1) := by decide +kernel
theorem d24_1 : decode jdk_68_method_9_code 1 = .ok (.getfield 15, 3) := by decide +kernel
theorem d24_4 : decode jdk_68_method_9_code 4 = .ok (.arraylength, 1) := by decide +kernel
theorem d24_5 : decode jdk_68_method_9_code 5 = .ok (.aload_n 0, 1) := by decide +kernel
theorem d24_6 : decode jdk_68_method_9_code 6 = .ok (.getfield 22, 3) := by decide +kernel
theorem d24_9 : decode jdk_68_method_9_code 9 = .ok (.ishr, 1) := by decide +kernel
theorem d24_10 : decode jdk_68_method_9_code 10 = .ok (.istore_n 2, 1) := by decide +kernel
theorem d24_11 : decode jdk_68_method_9_code 11 = .ok (.iload_n 1, 1) := by decide +kernel
theorem d24_12 : decode jdk_68_method_9_code 12 = .ok (.iload_n 2, 1) := by decide +kernel
theorem d24_13 : decode jdk_68_method_9_code 13 = .ok (.isub, 1) := by decide +kernel
theorem d24_14 : decode jdk_68_method_9_code 14 = .ok (.ifCond .le 24, 3) := by decide +kernel
theorem d24_38 : decode jdk_68_method_9_code 38 = .ok (.return_, 1) := by decide +kernel
theorem d25_0 : decode jdk_68_method_73_code 0 = .ok (.aload_n 0, 1) := by decide +kernel
theorem d25_1 : decode jdk_68_method_73_code 1 = .ok (.aload_n 2, 1) := by decide +kernel
theorem d25_2 : decode jdk_68_method_73_code 2 = .ok (.invokevirtual 397, 3) := by decide +kernel
theorem d25_5 : decode jdk_68_method_73_code 5 = .ok (.aload_n 2, 1) := by decide +kernel
theorem d25_6 : decode jdk_68_method_73_code 6 = .ok (.aload_n 0, 1) := by decide +kernel
theorem d25_7 : decode jdk_68_method_73_code 7 = .ok (.getfield 15, 3) := by decide +kernel
theorem d25_10 : decode jdk_68_method_73_code 10 = .ok (.iload_n 1, 1) := by decide +kernel
theorem d25_11 : decode jdk_68_method_73_code 11 = .ok (.aload_n 0, 1) := by decide +kernel
theorem d25_12 : decode jdk_68_method_73_code 12 = .ok (.getfield 22, 3) := by decide +kernel
theorem d25_15 : decode jdk_68_method_73_code 15 = .ok (.invokevirtual 399, 3) := by decide +kernel
theorem d25_18 : decode jdk_68_method_73_code 18 = .ok (.return_, 1) := by decide +kernel
theorem d26_0 : decode jdk_68_method_71_code 0 = .ok (.getstatic 18, 3) := by decide +kernel
theorem d26_3 : decode jdk_68_method_71_code 3 = .ok (.ifCond .eq 18, 3) := by decide +kernel
theorem d26_6 : decode jdk_68_method_71_code 6 = .ok (.aload_n 0, 1) := by decide +kernel
theorem d26_7 : decode jdk_68_method_71_code 7 = .ok (.getfield 22, 3) := by decide +kernel
theorem d26_10 : decode jdk_68_method_71_code 10 = .ok (.aload_n 1, 1) := by decide +kernel
theorem d26_11 : decode jdk_68_method_71_code 11 = .ok (.invokevirtual 40, 3) := by decide +kernel
theorem d26_14 : decode jdk_68_method_71_code 14 = .ok (.if_icmp .eq 7, 3) := by decide +kernel
theorem d26_21 : decode jdk_68_method_71_code 21 = .ok (.return_, 1) := by decide +kernel
theorem d27_0 : decode jdk_42_method_147_code 0 = .ok (.aload_n 0, 1) := by decide +kernel
theorem d27_1 : decode jdk_42_method_147_code 1 = .ok (.invokevirtual 335, 3) := by decide +kernel
theorem d27_4 : decode jdk_42_method_147_code 4 = .ok (.iload_n 3, 1) := by decide +kernel
theorem d27_5 : decode jdk_42_method_147_code 5 = .ok (.if_icmp .ne 23, 3) := by decide +kernel
theorem d27_8 : decode jdk_42_method_147_code 8 = .ok (.aload_n 0, 1) := by decide +kernel
theorem d27_9 : decode jdk_42_method_147_code 9 = .ok (.getfield 9, 3) := by decide +kernel
theorem d27_12 : decode jdk_42_method_147_code 12 = .ok (.iconst 0, 1) := by decide +kernel
theorem d27_13 : decode jdk_42_method_147_code 13 = .ok (.aload_n 1, 1) := by decide +kernel
theorem d27_14 : decode jdk_42_method_147_code 14 = .ok (.iload_n 2, 1) := by decide +kernel
theorem d27_15 : decode jdk_42_method_147_code 15 = .ok (.iload_n 3, 1) := by decide +kernel
theorem d27_16 : decode jdk_42_method_147_code 16 = .ok (.ishl, 1) := by decide +kernel
theorem d27_17 : decode jdk_42_method_147_code 17 = .ok (.aload_n 0, 1) := by decide +kernel
theorem d27_18 : decode jdk_42_method_147_code 18 = .ok (.getfield 9, 3) := by decide +kernel
theorem d27_21 : decode jdk_42_method_147_code 21 = .ok (.arraylength, 1) := by decide +kernel
theorem d27_22 : decode jdk_42_method_147_code 22 = .ok (.invokestatic 212, 3) := by decide +kernel
theorem d27_25 : decode jdk_42_method_147_code 25 = .ok (.goto 18, 3) := by decide +kernel
theorem d27_43 : decode jdk_42_method_147_code 43 = .ok (.return_, 1) := by decide +kernel
theorem d28_0 : decode jdk_67_method_15_code 0 = .ok (.aload_n 0, 1) := by decide +kernel
theorem d28_1 : decode jdk_67_method_15_code 1 = .ok (.iload_n 1, 1) := by decide +kernel
theorem d28_2 : decode jdk_67_method_15_code 2 = .ok (.invokespecial 53, 3) := by decide +kernel
theorem d28_5 : decode jdk_67_method_15_code 5 = .ok (.pop, 1) := by decide +kernel
theorem d28_6 : decode jdk_67_method_15_code 6 = .ok (.aload_n 0, 1) := by decide +kernel
theorem d28_7 : decode jdk_67_method_15_code 7 = .ok (.areturn, 1) := by decide +kernel
theorem d29_0 : decode jdk_68_method_32_code 0 = .ok (.aload_n 0, 1) := by decide +kernel
theorem d29_1 : decode jdk_68_method_32_code 1 = .ok (.getfield 79, 3) := by decide +kernel
theorem d29_4 : decode jdk_68_method_32_code 4 = .ok (.istore_n 2, 1) := by decide +kernel
theorem d29_5 : decode jdk_68_method_32_code 5 = .ok (.iload_n 2, 1) := by decide +kernel
theorem d29_6 : decode jdk_68_method_32_code 6 = .ok (.iload_n 1, 1) := by decide +kernel
theorem d29_7 : decode jdk_68_method_32_code 7 = .ok (.invokestatic 245, 3) := by decide +kernel
theorem d29_10 : decode jdk_68_method_32_code 10 = .ok (.iadd, 1) := by decide +kernel
theorem d29_11 : decode jdk_68_method_32_code 11 = .ok (.istore_n 3, 1) := by decide +kernel
theorem d29_12 : decode jdk_68_method_32_code 12 = .ok (.aload_n 0, 1) := by decide +kernel
theorem d29_13 : decode jdk_68_method_32_code 13 = .ok (.iload_n 3, 1) := by decide +kernel
theorem d29_14 : decode jdk_68_method_32_code 14 = .ok (.invokevirtual 100, 3) := by decide +kernel
theorem d29_17 : decode jdk_68_method_32_code 17 = .ok (.aload_n 0, 1) := by decide +kernel
theorem d29_18 : decode jdk_68_method_32_code 18 = .ok (.invokevirtual 83, 3) := by decide +kernel
theorem d29_21 : decode jdk_68_method_32_code 21 = .ok (.ifCond .eq 16, 3) := by decide +kernel
theorem d29_24 : decode jdk_68_method_32_code 24 = .ok (.iload_n 1, 1) := by decide +kernel
theorem d29_25 : decode jdk_68_method_32_code 25 = .ok (.iload_n 3, 1) := by decide +kernel
theorem d29_26 : decode jdk_68_method_32_code 26 = .ok (.aload_n 0, 1) := by decide +kernel
theorem d29_27 : decode jdk_68_method_32_code 27 = .ok (.getfield 15, 3) := by decide +kernel
theorem d29_30 : decode jdk_68_method_32_code 30 = .ok (.invokestatic 248, 3) := by decide +kernel
theorem d29_33 : decode jdk_68_method_32_code 33 = .ok (.pop, 1) := by decide +kernel
theorem d29_34 : decode jdk_68_method_32_code 34 = .ok (.goto 14, 3) := by decide +kernel
theorem d29_48 : decode jdk_68_method_32_code 48 = .ok (.aload_n 0, 1) := by decide +kernel
theorem d29_49 : decode jdk_68_method_32_code 49 = .ok (.iload_n 3, 1) := by decide +kernel
theorem d29_50 : decode jdk_68_method_32_code 50 = .ok (.putfield 79, 3) := by decide +kernel
theorem d29_53 : decode jdk_68_method_32_code 53 = .ok (.aload_n 0, 1) := by decide +kernel
theorem d29_54 : decode jdk_68_method_32_code 54 = .ok (.areturn, 1) := by decide +kernel
theorem d30_0 : decode jdk_33_method_13_code 0 = .ok (.iconst 1, 1) := by decide +kernel
theorem d30_1 : decode jdk_33_method_13_code 1 = .ok (.istore_n 1, 1) := by decide +kernel
theorem d30_2 : decode jdk_33_method_13_code 2 = .ok (.iload_n 0, 1) := by decide +kernel
theorem d30_3 : decode jdk_33_method_13_code 3 = .ok (.ifCond .lt 8, 3) := by decide +kernel
theorem d30_6 : decode jdk_33_method_13_code 6 = .ok (.iconst 0, 1) := by decide +kernel
theorem d30_7 : decode jdk_33_method_13_code 7 = .ok (.istore_n 1, 1) := by decide +kernel
theorem d30_8 : decode jdk_33_method_13_code 8 = .ok (.iload_n 0, 1) := by decide +kernel
theorem d30_9 : decode jdk_33_method_13_code 9 = .ok (.ineg, 1) := by decide +kernel
theorem d30_10 : decode jdk_33_method_13_code 10 = .ok (.istore_n 0, 1) := by decide +kernel
theorem d30_11 : decode jdk_33_method_13_code 11 = .ok (.bipush (-10), 2) := by decide +kernel
theorem d30_13 : decode jdk_33_method_13_code 13 = .ok (.istore_n 2, 1) := by decide +kernel
theorem d30_14 : decode jdk_33_method_13_code 14 = .ok (.iconst 1, 1) := by decide +kernel
theorem d30_15 : decode jdk_33_method_13_code 15 = .ok (.istore_n 3, 1) := by decide +kernel
theorem d30_16 : decode jdk_33_method_13_code 16 = .ok (.iload_n 3, 1) := by decide +kernel
theorem d30_17 : decode jdk_33_method_13_code 17 = .ok (.bipush 10, 2) := by decide +kernel
theorem d30_19 : decode jdk_33_method_13_code 19 = .ok (.if_icmp .ge 23, 3) := by decide +kernel
theorem d30_22 : decode jdk_33_method_13_code 22 = .ok (.iload_n 0, 1) := by decide +kernel
theorem d30_23 : decode jdk_33_method_13_code 23 = .ok (.iload_n 2, 1) := by decide +kernel
theorem d30_24 : decode jdk_33_method_13_code 24 = .ok (.if_icmp .le 7, 3) := by decide +kernel
theorem d30_27 : decode jdk_33_method_13_code 27 = .ok (.iload_n 3, 1) := by decide +kernel
theorem d30_28 : decode jdk_33_method_13_code 28 = .ok (.iload_n 1, 1) := by decide +kernel
theorem d30_29 : decode jdk_33_method_13_code 29 = .ok (.iadd, 1) := by decide +kernel
theorem d30_30 : decode jdk_33_method_13_code 30 = .ok (.ireturn, 1) := by decide +kernel
theorem d30_31 : decode jdk_33_method_13_code 31 = .ok (.bipush 10, 2) := by decide +kernel
theorem d30_33 : decode jdk_33_method_13_code 33 = .ok (.iload_n 2, 1) := by decide +kernel
theorem d30_34 : decode jdk_33_method_13_code 34 = .ok (.imul, 1) := by decide +kernel
theorem d30_35 : decode jdk_33_method_13_code 35 = .ok (.istore_n 2, 1) := by decide +kernel
theorem d30_36 : decode jdk_33_method_13_code 36 = .ok (.iinc 3 1, 3) := by decide +kernel
theorem d30_39 : decode jdk_33_method_13_code 39 = .ok (.goto (-23), 3) := by decide +kernel
theorem d31_0 : decode jdk_68_method_68_code 0 = .ok (.getstatic 18, 3) := by decide +kernel
theorem d31_3 : decode jdk_68_method_68_code 3 = .ok (.ifCond .eq 14, 3) := by decide +kernel
theorem d31_6 : decode jdk_68_method_68_code 6 = .ok (.aload_n 0, 1) := by decide +kernel
theorem d31_7 : decode jdk_68_method_68_code 7 = .ok (.getfield 22, 3) := by decide +kernel
theorem d31_10 : decode jdk_68_method_68_code 10 = .ok (.ifCond .ne 7, 3) := by decide +kernel
theorem d31_13 : decode jdk_68_method_68_code 13 = .ok (.iconst 1, 1) := by decide +kernel
theorem d31_14 : decode jdk_68_method_68_code 14 = .ok (.goto 4, 3) := by decide +kernel
theorem d31_18 : decode jdk_68_method_68_code 18 = .ok (.ireturn, 1) := by decide +kernel
theorem d32_0 : decode jdk_33_method_12_code 0 = .ok (.iload_n 1, 1) := by decide +kernel
theorem d32_1 : decode jdk_33_method_12_code 1 = .ok (.istore 5, 2) := by decide +kernel
theorem d32_3 : decode jdk_33_method_12_code 3 = .ok (.iload_n 0, 1) := by decide +kernel
theorem d32_4 : decode jdk_33_method_12_code 4 = .ok (.ifCond .ge 7, 3) := by decide +kernel
theorem d32_11 : decode jdk_33_method_12_code 11 = .ok (.iconst 0, 1) := by decide +kernel
theorem d32_12 : decode jdk_33_method_12_code 12 = .ok (.istore 6, 2) := by decide +kernel
theorem d32_14 : decode jdk_33_method_12_code 14 = .ok (.iload 6, 2) := by decide +kernel
theorem d32_16 : decode jdk_33_method_12_code 16 = .ok (.ifCond .ne 6, 3) := by decide +kernel
theorem d32_19 : decode jdk_33_method_12_code 19 = .ok (.iload_n 0, 1) := by decide +kernel
theorem d32_20 : decode jdk_33_method_12_code 20 = .ok (.ineg, 1) := by decide +kernel
theorem d32_21 : decode jdk_33_method_12_code 21 = .ok (.istore_n 0, 1) := by decide +kernel
theorem d32_22 : decode jdk_33_method_12_code 22 = .ok (.iload_n 0, 1) := by decide +kernel
theorem d32_23 : decode jdk_33_method_12_code 23 = .ok (.bipush (-100), 2) := by decide +kernel
theorem d32_25 : decode jdk_33_method_12_code 25 = .ok (.if_icmp .gt 47, 3) := by decide +kernel
theorem d32_28 : decode jdk_33_method_12_code 28 = .ok (.iload_n 0, 1) := by decide +kernel
theorem d32_29 : decode jdk_33_method_12_code 29 = .ok (.bipush 100, 2) := by decide +kernel
theorem d32_31 : decode jdk_33_method_12_code 31 = .ok (.idiv, 1) := by decide +kernel
theorem d32_32 : decode jdk_33_method_12_code 32 = .ok (.istore_n 3, 1) := by decide +kernel
theorem d32_33 : decode jdk_33_method_12_code 33 = .ok (.iload_n 3, 1) := by decide +kernel
theorem d32_34 : decode jdk_33_method_12_code 34 = .ok (.bipush 100, 2) := by decide +kernel
theorem d32_36 : decode jdk_33_method_12_code 36 = .ok (.imul, 1) := by decide +kernel
theorem d32_37 : decode jdk_33_method_12_code 37 = .ok (.iload_n 0, 1) := by decide +kernel
theorem d32_38 : decode jdk_33_method_12_code 38 = .ok (.isub, 1) := by decide +kernel
theorem d32_39 : decode jdk_33_method_12_code 39 = .ok (.istore 4, 2) := by decide +kernel
theorem d32_41 : decode jdk_33_method_12_code 41 = .ok (.iload_n 3, 1) := by decide +kernel
theorem d32_42 : decode jdk_33_method_12_code 42 = .ok (.istore_n 0, 1) := by decide +kernel
theorem d32_43 : decode jdk_33_method_12_code 43 = .ok (.aload_n 2, 1) := by decide +kernel
theorem d32_44 : decode jdk_33_method_12_code 44 = .ok (.iinc 5 (-1), 3) := by decide +kernel
theorem d32_47 : decode jdk_33_method_12_code 47 = .ok (.iload 5, 2) := by decide +kernel
theorem d32_49 : decode jdk_33_method_12_code 49 = .ok (.getstatic 83, 3) := by decide +kernel
theorem d32_52 : decode jdk_33_method_12_code 52 = .ok (.iload 4, 2) := by decide +kernel
theorem d32_54 : decode jdk_33_method_12_code 54 = .ok (.baload, 1) := by decide +kernel
theorem d32_55 : decode jdk_33_method_12_code 55 = .ok (.bastore, 1) := by decide +kernel
theorem d32_56 : decode jdk_33_method_12_code 56 = .ok (.aload_n 2, 1) := by decide +kernel
theorem d32_57 : decode jdk_33_method_12_code 57 = .ok (.iinc 5 (-1), 3) := by decide +kernel
theorem d32_60 : decode jdk_33_method_12_code 60 = .ok (.iload 5, 2) := by decide +kernel
theorem d32_62 : decode jdk_33_method_12_code 62 = .ok (.getstatic 87, 3) := by decide +kernel
theorem d32_65 : decode jdk_33_method_12_code 65 = .ok (.iload 4, 2) := by decide +kernel
theorem d32_67 : decode jdk_33_method_12_code 67 = .ok (.baload, 1) := by decide +kernel
theorem d32_68 : decode jdk_33_method_12_code 68 = .ok (.bastore, 1) := by decide +kernel
theorem d32_69 : decode jdk_33_method_12_code 69 = .ok (.goto (-47), 3) := by decide +kernel
theorem d32_72 : decode jdk_33_method_12_code 72 = .ok (.aload_n 2, 1) := by decide +kernel
theorem d32_73 : decode jdk_33_method_12_code 73 = .ok (.iinc 5 (-1), 3) := by decide +kernel
theorem d32_76 : decode jdk_33_method_12_code 76 = .ok (.iload 5, 2) := by decide +kernel
theorem d32_78 : decode jdk_33_method_12_code 78 = .ok (.getstatic 83, 3) := by decide +kernel
theorem d32_81 : decode jdk_33_method_12_code 81 = .ok (.iload_n 0, 1) := by decide +kernel
theorem d32_82 : decode jdk_33_method_12_code 82 = .ok (.ineg, 1) := by decide +kernel
theorem d32_83 : decode jdk_33_method_12_code 83 = .ok (.baload, 1) := by decide +kernel
theorem d32_84 : decode jdk_33_method_12_code 84 = .ok (.bastore, 1) := by decide +kernel
theorem d32_85 : decode jdk_33_method_12_code 85 = .ok (.iload_n 0, 1) := by decide +kernel
theorem d32_86 : decode jdk_33_method_12_code 86 = .ok (.bipush (-9), 2) := by decide +kernel
theorem d32_88 : decode jdk_33_method_12_code 88 = .ok (.if_icmp .ge 16, 3) := by decide +kernel
theorem d32_91 : decode jdk_33_method_12_code 91 = .ok (.aload_n 2, 1) := by decide +kernel
theorem d32_92 : decode jdk_33_method_12_code 92 = .ok (.iinc 5 (-1), 3) := by decide +kernel
theorem d32_95 : decode jdk_33_method_12_code 95 = .ok (.iload 5, 2) := by decide +kernel
theorem d32_97 : decode jdk_33_method_12_code 97 = .ok (.getstatic 87, 3) := by decide +kernel
theorem d32_100 : decode jdk_33_method_12_code 100 = .ok (.iload_n 0, 1) := by decide +kernel
theorem d32_101 : decode jdk_33_method_12_code 101 = .ok (.ineg, 1) := by decide +kernel
theorem d32_102 : decode jdk_33_method_12_code 102 = .ok (.baload, 1) := by decide +kernel
theorem d32_103 : decode jdk_33_method_12_code 103 = .ok (.bastore, 1) := by decide +kernel
theorem d32_104 : decode jdk_33_method_12_code 104 = .ok (.iload 6, 2) := by decide +kernel
theorem d32_106 : decode jdk_33_method_12_code 106 = .ok (.ifCond .eq 12, 3) := by decide +kernel
theorem d32_118 : decode jdk_33_method_12_code 118 = .ok (.iload 5, 2) := by decide +kernel
theorem d32_120 : decode jdk_33_method_12_code 120 = .ok (.ireturn, 1) := by decide +kernel
theorem d33_0 : decode jdk_67_method_42_code 0 = .ok (.new 18, 3) := by decide +kernel
theorem d33_3 : decode jdk_67_method_42_code 3 = .ok (.dup, 1) := by decide +kernel
theorem d33_4 : decode jdk_67_method_42_code 4 = .ok (.aload_n 0, 1) := by decide +kernel
theorem d33_5 : decode jdk_67_method_42_code 5 = .ok (.invokespecial 137, 3) := by decide +kernel
theorem d33_8 : decode jdk_67_method_42_code 8 = .ok (.areturn, 1) := by decide +kernel
theorem d34_0 : decode jdk_42_method_53_code 0 = .ok (.aload_n 0, 1) := by decide +kernel
theorem d34_1 : decode jdk_42_method_53_code 1 = .ok (.aload_n 1, 1) := by decide +kernel
theorem d34_2 : decode jdk_42_method_53_code 2 = .ok (.aconst_null, 1) := by decide +kernel
theorem d34_3 : decode jdk_42_method_53_code 3 = .ok (.invokespecial 489, 3) := by decide +kernel
theorem d34_6 : decode jdk_42_method_53_code 6 = .ok (.return_, 1) := by decide +kernel
theorem d35_0 : decode jdk_42_method_150_code 0 = .ok (.aload_n 0, 1) := by decide +kernel
theorem d35_1 : decode jdk_42_method_150_code 1 = .ok (.invokespecial 1, 3) := by decide +kernel
theorem d35_4 : decode jdk_42_method_150_code 4 = .ok (.aload_n 1, 1) := by decide +kernel
theorem d35_5 : decode jdk_42_method_150_code 5 = .ok (.invokevirtual 552, 3) := by decide +kernel
theorem d35_8 : decode jdk_42_method_150_code 8 = .ok (.astore_n 3, 1) := by decide +kernel
theorem d35_9 : decode jdk_42_method_150_code 9 = .ok (.aload_n 1, 1) := by decide +kernel
theorem d35_10 : decode jdk_42_method_150_code 10 = .ok (.invokevirtual 549, 3) := by decide +kernel
theorem d35_13 : decode jdk_42_method_150_code 13 = .ok (.istore 4, 2) := by decide +kernel
theorem d35_15 : decode jdk_42_method_150_code 15 = .ok (.aload_n 1, 1) := by decide +kernel
theorem d35_16 : decode jdk_42_method_150_code 16 = .ok (.invokevirtual 1047, 3) := by decide +kernel
theorem d35_19 : decode jdk_42_method_150_code 19 = .ok (.ifCond .eq 22, 3) := by decide +kernel
theorem d35_22 : decode jdk_42_method_150_code 22 = .ok (.aload_n 0, 1) := by decide +kernel
theorem d35_23 : decode jdk_42_method_150_code 23 = .ok (.iconst 0, 1) := by decide +kernel
theorem d35_24 : decode jdk_42_method_150_code 24 = .ok (.putfield 15, 3) := by decide +kernel
theorem d35_27 : decode jdk_42_method_150_code 27 = .ok (.aload_n 0, 1) := by decide +kernel
theorem d35_28 : decode jdk_42_method_150_code 28 = .ok (.aload_n 3, 1) := by decide +kernel
theorem d35_29 : decode jdk_42_method_150_code 29 = .ok (.iconst 0, 1) := by decide +kernel
theorem d35_30 : decode jdk_42_method_150_code 30 = .ok (.iload 4, 2) := by decide +kernel
theorem d35_32 : decode jdk_42_method_150_code 32 = .ok (.invokestatic 54, 3) := by decide +kernel
theorem d35_35 : decode jdk_42_method_150_code 35 = .ok (.putfield 9, 3) := by decide +kernel
theorem d35_38 : decode jdk_42_method_150_code 38 = .ok (.goto 59, 3) := by decide +kernel
theorem d35_97 : decode jdk_42_method_150_code 97 = .ok (.return_, 1) := by decide +kernel
theorem d36_0 : decode jdk_68_method_64_code 0 = .ok (.aload_n 0, 1) := by decide +kernel
theorem d36_1 : decode jdk_68_method_64_code 1 = .ok (.getfield 15, 3) := by decide +kernel
theorem d36_4 : decode jdk_68_method_64_code 4 = .ok (.areturn, 1) := by decide +kernel
theorem d37_0 : decode jdk_67_method_93_code 0 = .ok (.aload_n 0, 1) := by decide +kernel
theorem d37_1 : decode jdk_67_method_93_code 1 = .ok (.invokespecial 343, 3) := by decide +kernel
theorem d37_4 : decode jdk_67_method_93_code 4 = .ok (.ireturn, 1) := by decide +kernel
theorem d38_0 : decode jdk_68_method_6_code 0 = .ok (.aload_n 0, 1) := by decide +kernel
theorem d38_1 : decode jdk_68_method_6_code 1 = .ok (.getfield 79, 3) := by decide +kernel
theorem d38_4 : decode jdk_68_method_6_code 4 = .ok (.ireturn, 1) := by decide +kernel
theorem d39_0 : decode jdk_65_method_132_code 0 = .ok (.iload_n 1, 1) := by decide +kernel
theorem d39_1 : decode jdk_65_method_132_code 1 = .ok (.ifCond .ne 9, 3) := by decide +kernel
theorem d39_4 : decode jdk_65_method_132_code 4 = .ok (.iload_n 2, 1) := by decide +kernel
theorem d39_5 : decode jdk_65_method_132_code 5 = .ok (.aload_n 0, 1) := by decide +kernel
theorem d39_6 : decode jdk_65_method_132_code 6 = .ok (.arraylength, 1) := by decide +kernel
theorem d39_7 : decode jdk_65_method_132_code 7 = .ok (.if_icmp .eq 10, 3) := by decide +kernel
theorem d39_10 : decode jdk_65_method_132_code 10 = .ok (.aload_n 0, 1) := by decide +kernel
theorem d39_11 : decode jdk_65_method_132_code 11 = .ok (.iload_n 1, 1) := by decide +kernel
theorem d39_12 : decode jdk_65_method_132_code 12 = .ok (.iload_n 2, 1) := by decide +kernel
theorem d39_13 : decode jdk_65_method_132_code 13 = .ok (.invokestatic 339, 3) := by decide +kernel
theorem d39_16 : decode jdk_65_method_132_code 16 = .ok (.areturn, 1) := by decide +kernel
theorem d40_0 : decode jdk_65_method_133_code 0 = .ok (.iload_n 1, 1) := by decide +kernel
theorem d40_1 : decode jdk_65_method_133_code 1 = .ok (.iload_n 2, 1) := by decide +kernel
theorem d40_2 : decode jdk_65_method_133_code 2 = .ok (.invokestatic 343, 3) := by decide +kernel
theorem d40_5 : decode jdk_65_method_133_code 5 = .ok (.iload_n 2, 1) := by decide +kernel
theorem d40_6 : decode jdk_65_method_133_code 6 = .ok (.iload_n 1, 1) := by decide +kernel
theorem d40_7 : decode jdk_65_method_133_code 7 = .ok (.isub, 1) := by decide +kernel
theorem d40_8 : decode jdk_65_method_133_code 8 = .ok (.istore_n 3, 1) := by decide +kernel
theorem d40_9 : decode jdk_65_method_133_code 9 = .ok (.iload_n 3, 1) := by decide +kernel
theorem d40_10 : decode jdk_65_method_133_code 10 = .ok (.newarray .byte, 2) := by decide +kernel
theorem d40_12 : decode jdk_65_method_133_code 12 = .ok (.astore 4, 2) := by decide +kernel
theorem d40_14 : decode jdk_65_method_133_code 14 = .ok (.aload_n 0, 1) := by decide +kernel
theorem d40_15 : decode jdk_65_method_133_code 15 = .ok (.iload_n 1, 1) := by decide +kernel
theorem d40_16 : decode jdk_65_method_133_code 16 = .ok (.aload 4, 2) := by decide +kernel
theorem d40_18 : decode jdk_65_method_133_code 18 = .ok (.iconst 0, 1) := by decide +kernel
theorem d40_19 : decode jdk_65_method_133_code 19 = .ok (.aload_n 0, 1) := by decide +kernel
theorem d40_20 : decode jdk_65_method_133_code 20 = .ok (.arraylength, 1) := by decide +kernel
theorem d40_21 : decode jdk_65_method_133_code 21 = .ok (.iload_n 1, 1) := by decide +kernel
theorem d40_22 : decode jdk_65_method_133_code 22 = .ok (.isub, 1) := by decide +kernel
theorem d40_23 : decode jdk_65_method_133_code 23 = .ok (.iload_n 3, 1) := by decide +kernel
theorem d40_24 : decode jdk_65_method_133_code 24 = .ok (.invokestatic 304, 3) := by decide +kernel
theorem d40_27 : decode jdk_65_method_133_code 27 = .ok (.invokestatic 150, 3) := by decide +kernel
theorem d40_30 : decode jdk_65_method_133_code 30 = .ok (.aload 4, 2) := by decide +kernel
theorem d40_32 : decode jdk_65_method_133_code 32 = .ok (.areturn, 1) := by decide +kernel
theorem d41_0 : decode jdk_65_method_131_code 0 = .ok (.iload_n 1, 1) := by decide +kernel
theorem d41_1 : decode jdk_65_method_131_code 1 = .ok (.iload_n 0, 1) := by decide +kernel
theorem d41_2 : decode jdk_65_method_131_code 2 = .ok (.if_icmp .ge 35, 3) := by decide +kernel
theorem d41_37 : decode jdk_65_method_131_code 37 = .ok (.return_, 1) := by decide +kernel
theorem d42_0 : decode jdk_29_method_69_code 0 = .ok (.iload_n 0, 1) := by decide +kernel
theorem d42_1 : decode jdk_29_method_69_code 1 = .ok (.iload_n 1, 1) := by decide +kernel
theorem d42_2 : decode jdk_29_method_69_code 2 = .ok (.if_icmp .gt 7, 3) := by decide +kernel
theorem d42_9 : decode jdk_29_method_69_code 9 = .ok (.iload_n 1, 1) := by decide +kernel
theorem d42_10 : decode jdk_29_method_69_code 10 = .ok (.ireturn, 1) := by decide +kernel
theorem d43_0 : decode method_4_code 0 = .ok (.iload_n 0, 1) := by decide +kernel
theorem d43_1 : decode method_4_code 1 = .ok (.bipush 10, 2) := by decide +kernel
theorem d43_3 : decode method_4_code 3 = .ok (.if_icmp .ge 5, 3) := by decide +kernel
theorem d43_6 : decode method_4_code 6 = .ok (.iconst 1, 1) := by decide +kernel
theorem d43_7 : decode method_4_code 7 = .ok (.ireturn, 1) := by decide +kernel
theorem d43_8 : decode method_4_code 8 = .ok (.iload_n 0, 1) := by decide +kernel
theorem d43_9 : decode method_4_code 9 = .ok (.bipush 100, 2) := by decide +kernel
theorem d43_11 : decode method_4_code 11 = .ok (.if_icmp .ge 5, 3) := by decide +kernel
theorem d43_14 : decode method_4_code 14 = .ok (.iconst 2, 1) := by decide +kernel
theorem d43_15 : decode method_4_code 15 = .ok (.ireturn, 1) := by decide +kernel
theorem d43_16 : decode method_4_code 16 = .ok (.iload_n 0, 1) := by decide +kernel
theorem d43_17 : decode method_4_code 17 = .ok (.sipush 1000, 3) := by decide +kernel
theorem d43_20 : decode method_4_code 20 = .ok (.if_icmp .ge 5, 3) := by decide +kernel
theorem d43_23 : decode method_4_code 23 = .ok (.iconst 3, 1) := by decide +kernel
theorem d43_24 : decode method_4_code 24 = .ok (.ireturn, 1) := by decide +kernel
theorem d43_25 : decode method_4_code 25 = .ok (.iload_n 0, 1) := by decide +kernel
theorem d43_26 : decode method_4_code 26 = .ok (.sipush 10000, 3) := by decide +kernel
theorem d43_29 : decode method_4_code 29 = .ok (.if_icmp .ge 5, 3) := by decide +kernel
theorem d43_32 : decode method_4_code 32 = .ok (.iconst 4, 1) := by decide +kernel
theorem d43_33 : decode method_4_code 33 = .ok (.ireturn, 1) := by decide +kernel
theorem d43_34 : decode method_4_code 34 = .ok (.iconst 5, 1) := by decide +kernel
theorem d43_35 : decode method_4_code 35 = .ok (.ireturn, 1) := by decide +kernel
theorem d44_0 : decode method_6_code 0 = .ok (.iload_n 1, 1) := by decide +kernel
theorem d44_1 : decode method_6_code 1 = .ok (.iload_n 2, 1) := by decide +kernel
theorem d44_2 : decode method_6_code 2 = .ok (.if_icmp .ge 28, 3) := by decide +kernel
theorem d44_5 : decode method_6_code 5 = .ok (.aload_n 0, 1) := by decide +kernel
theorem d44_6 : decode method_6_code 6 = .ok (.iload_n 1, 1) := by decide +kernel
theorem d44_7 : decode method_6_code 7 = .ok (.invokevirtual 41, 3) := by decide +kernel
theorem d44_10 : decode method_6_code 10 = .ok (.iload_n 1, 1) := by decide +kernel
theorem d44_11 : decode method_6_code 11 = .ok (.iload_n 3, 1) := by decide +kernel
theorem d44_12 : decode method_6_code 12 = .ok (.iload 4, 2) := by decide +kernel
theorem d44_14 : decode method_6_code 14 = .ok (.iload 5, 2) := by decide +kernel
theorem d44_16 : decode method_6_code 16 = .ok (.iload 6, 2) := by decide +kernel
theorem d44_18 : decode method_6_code 18 = .ok (.iload 7, 2) := by decide +kernel
theorem d44_20 : decode method_6_code 20 = .ok (.iload 8, 2) := by decide +kernel
theorem d44_22 : decode method_6_code 22 = .ok (.iload 9, 2) := by decide +kernel
theorem d44_24 : decode method_6_code 24 = .ok (.invokestatic 44, 3) := by decide +kernel
theorem d44_27 : decode method_6_code 27 = .ok (.if_icmp .ne 7, 3) := by decide +kernel
theorem d44_30 : decode method_6_code 30 = .ok (.iconst 1, 1) := by decide +kernel
theorem d44_31 : decode method_6_code 31 = .ok (.goto 4, 3) := by decide +kernel
theorem d44_35 : decode method_6_code 35 = .ok (.ireturn, 1) := by decide +kernel
theorem d45_0 : decode jdk_42_method_56_code 0 = .ok (.aload_n 0, 1) := by decide +kernel
theorem d45_1 : decode jdk_42_method_56_code 1 = .ok (.invokevirtual 492, 3) := by decide +kernel
theorem d45_4 : decode jdk_42_method_56_code 4 = .ok (.ifCond .eq 12, 3) := by decide +kernel
theorem d45_7 : decode jdk_42_method_56_code 7 = .ok (.aload_n 0, 1) := by decide +kernel
theorem d45_8 : decode jdk_42_method_56_code 8 = .ok (.getfield 9, 3) := by decide +kernel
theorem d45_11 : decode jdk_42_method_56_code 11 = .ok (.iload_n 1, 1) := by decide +kernel
theorem d45_12 : decode jdk_42_method_56_code 12 = .ok (.invokestatic 495, 3) := by decide +kernel
theorem d45_15 : decode jdk_42_method_56_code 15 = .ok (.ireturn, 1) := by decide +kernel
theorem d46_0 : decode jdk_43_method_2_code 0 = .ok (.iload_n 1, 1) := by decide +kernel
theorem d46_1 : decode jdk_43_method_2_code 1 = .ok (.aload_n 0, 1) := by decide +kernel
theorem d46_2 : decode jdk_43_method_2_code 2 = .ok (.arraylength, 1) := by decide +kernel
theorem d46_3 : decode jdk_43_method_2_code 3 = .ok (.invokestatic 9, 3) := by decide +kernel
theorem d46_6 : decode jdk_43_method_2_code 6 = .ok (.aload_n 0, 1) := by decide +kernel
theorem d46_7 : decode jdk_43_method_2_code 7 = .ok (.iload_n 1, 1) := by decide +kernel
theorem d46_8 : decode jdk_43_method_2_code 8 = .ok (.baload, 1) := by decide +kernel
theorem d46_9 : decode jdk_43_method_2_code 9 = .ok (.sipush 255, 3) := by decide +kernel
theorem d46_12 : decode jdk_43_method_2_code 12 = .ok (.iand, 1) := by decide +kernel
theorem d46_13 : decode jdk_43_method_2_code 13 = .ok (.i2c, 1) := by decide +kernel
theorem d46_14 : decode jdk_43_method_2_code 14 = .ok (.ireturn, 1) := by decide +kernel
theorem d47_0 : decode jdk_42_method_155_code 0 = .ok (.iload_n 0, 1) := by decide +kernel
theorem d47_1 : decode jdk_42_method_155_code 1 = .ok (.iload_n 1, 1) := by decide +kernel
theorem d47_2 : decode jdk_42_method_155_code 2 = .ok (.getstatic 1053, 3) := by decide +kernel
theorem d47_5 : decode jdk_42_method_155_code 5 = .ok (.invokestatic 1059, 3) := by decide +kernel
theorem d47_8 : decode jdk_42_method_155_code 8 = .ok (.pop, 1) := by decide +kernel
theorem d47_9 : decode jdk_42_method_155_code 9 = .ok (.return_, 1) := by decide +kernel
theorem d48_0 : decode jdk_41_method_11_code 0 = .ok (.iload_n 0, 1) := by decide +kernel
theorem d48_1 : decode jdk_41_method_11_code 1 = .ok (.ifCond .lt 8, 3) := by decide +kernel
theorem d48_4 : decode jdk_41_method_11_code 4 = .ok (.iload_n 0, 1) := by decide +kernel
theorem d48_5 : decode jdk_41_method_11_code 5 = .ok (.iload_n 1, 1) := by decide +kernel
theorem d48_6 : decode jdk_41_method_11_code 6 = .ok (.if_icmp .lt 10, 3) := by decide +kernel
theorem d48_16 : decode jdk_41_method_11_code 16 = .ok (.iload_n 0, 1) := by decide +kernel
theorem d48_17 : decode jdk_41_method_11_code 17 = .ok (.ireturn, 1) := by decide +kernel
theorem d49_0 : decode method_7_code 0 = .ok (.iload 5, 2) := by decide +kernel
theorem d49_2 : decode method_7_code 2 = .ok (.ifCond .eq 7, 3) := by decide +kernel
theorem d49_5 : decode method_7_code 5 = .ok (.iconst 1, 1) := by decide +kernel
theorem d49_6 : decode method_7_code 6 = .ok (.goto 4, 3) := by decide +kernel
theorem d49_9 : decode method_7_code 9 = .ok (.iconst 0, 1) := by decide +kernel
theorem d49_10 : decode method_7_code 10 = .ok (.istore 8, 2) := by decide +kernel
theorem d49_12 : decode method_7_code 12 = .ok (.iload 5, 2) := by decide +kernel
theorem d49_14 : decode method_7_code 14 = .ok (.ifCond .eq 10, 3) := by decide +kernel
theorem d49_17 : decode method_7_code 17 = .ok (.iload_n 0, 1) := by decide +kernel
theorem d49_18 : decode method_7_code 18 = .ok (.ifCond .ne 6, 3) := by decide +kernel
theorem d49_21 : decode method_7_code 21 = .ok (.bipush 91, 2) := by decide +kernel
theorem d49_23 : decode method_7_code 23 = .ok (.ireturn, 1) := by decide +kernel
theorem d49_24 : decode method_7_code 24 = .ok (.iload_n 0, 1) := by decide +kernel
theorem d49_25 : decode method_7_code 25 = .ok (.iload 8, 2) := by decide +kernel
theorem d49_27 : decode method_7_code 27 = .ok (.isub, 1) := by decide +kernel
theorem d49_28 : decode method_7_code 28 = .ok (.istore 9, 2) := by decide +kernel
theorem d49_30 : decode method_7_code 30 = .ok (.iload 9, 2) := by decide +kernel
theorem d49_32 : decode method_7_code 32 = .ok (.ifCond .lt 27, 3) := by decide +kernel
theorem d49_35 : decode method_7_code 35 = .ok (.iload 9, 2) := by decide +kernel
theorem d49_37 : decode method_7_code 37 = .ok (.iload 4, 2) := by decide +kernel
theorem d49_39 : decode method_7_code 39 = .ok (.if_icmp .ge 20, 3) := by decide +kernel
theorem d49_42 : decode method_7_code 42 = .ok (.iload 9, 2) := by decide +kernel
theorem d49_44 : decode method_7_code 44 = .ok (.ifCond .ne 5, 3) := by decide +kernel
theorem d49_47 : decode method_7_code 47 = .ok (.iload_n 1, 1) := by decide +kernel
theorem d49_48 : decode method_7_code 48 = .ok (.ireturn, 1) := by decide +kernel
theorem d49_49 : decode method_7_code 49 = .ok (.iload 9, 2) := by decide +kernel
theorem d49_51 : decode method_7_code 51 = .ok (.iconst 1, 1) := by decide +kernel
theorem d49_52 : decode method_7_code 52 = .ok (.if_icmp .ne 5, 3) := by decide +kernel
theorem d49_55 : decode method_7_code 55 = .ok (.iload_n 2, 1) := by decide +kernel
theorem d49_56 : decode method_7_code 56 = .ok (.ireturn, 1) := by decide +kernel
theorem d49_57 : decode method_7_code 57 = .ok (.iload_n 3, 1) := by decide +kernel
theorem d49_58 : decode method_7_code 58 = .ok (.ireturn, 1) := by decide +kernel
theorem d49_59 : decode method_7_code 59 = .ok (.iload 5, 2) := by decide +kernel
theorem d49_61 : decode method_7_code 61 = .ok (.ifCond .eq 14, 3) := by decide +kernel
theorem d49_64 : decode method_7_code 64 = .ok (.iload_n 0, 1) := by decide +kernel
theorem d49_65 : decode method_7_code 65 = .ok (.iload 4, 2) := by decide +kernel
theorem d49_67 : decode method_7_code 67 = .ok (.iconst 1, 1) := by decide +kernel
theorem d49_68 : decode method_7_code 68 = .ok (.iadd, 1) := by decide +kernel
theorem d49_69 : decode method_7_code 69 = .ok (.if_icmp .ne 6, 3) := by decide +kernel
theorem d49_72 : decode method_7_code 72 = .ok (.bipush 93, 2) := by decide +kernel
theorem d49_74 : decode method_7_code 74 = .ok (.ireturn, 1) := by decide +kernel
theorem d49_75 : decode method_7_code 75 = .ok (.iload 4, 2) := by decide +kernel
theorem d49_77 : decode method_7_code 77 = .ok (.iconst 2, 1) := by decide +kernel
theorem d49_78 : decode method_7_code 78 = .ok (.iload 8, 2) := by decide +kernel
theorem d49_80 : decode method_7_code 80 = .ok (.imul, 1) := by decide +kernel
theorem d49_81 : decode method_7_code 81 = .ok (.iadd, 1) := by decide +kernel
theorem d49_82 : decode method_7_code 82 = .ok (.istore 10, 2) := by decide +kernel
theorem d49_84 : decode method_7_code 84 = .ok (.iload_n 0, 1) := by decide +kernel
theorem d49_85 : decode method_7_code 85 = .ok (.iload 10, 2) := by decide +kernel
theorem d49_87 : decode method_7_code 87 = .ok (.if_icmp .ne 6, 3) := by decide +kernel
theorem d49_90 : decode method_7_code 90 = .ok (.bipush 58, 2) := by decide +kernel
theorem d49_92 : decode method_7_code 92 = .ok (.ireturn, 1) := by decide +kernel
theorem d49_93 : decode method_7_code 93 = .ok (.iload_n 0, 1) := by decide +kernel
theorem d49_94 : decode method_7_code 94 = .ok (.iload 10, 2) := by decide +kernel
theorem d49_96 : decode method_7_code 96 = .ok (.isub, 1) := by decide +kernel
theorem d49_97 : decode method_7_code 97 = .ok (.iconst 1, 1) := by decide +kernel
theorem d49_98 : decode method_7_code 98 = .ok (.isub, 1) := by decide +kernel
theorem d49_99 : decode method_7_code 99 = .ok (.istore 11, 2) := by decide +kernel
theorem d49_101 : decode method_7_code 101 = .ok (.bipush 48, 2) := by decide +kernel
theorem d49_103 : decode method_7_code 103 = .ok (.iload 6, 2) := by decide +kernel
theorem d49_105 : decode method_7_code 105 = .ok (.iload 7, 2) := by decide +kernel
theorem d49_107 : decode method_7_code 107 = .ok (.iconst 1, 1) := by decide +kernel
theorem d49_108 : decode method_7_code 108 = .ok (.isub, 1) := by decide +kernel
theorem d49_109 : decode method_7_code 109 = .ok (.iload 11, 2) := by decide +kernel
theorem d49_111 : decode method_7_code 111 = .ok (.isub, 1) := by decide +kernel
theorem d49_112 : decode method_7_code 112 = .ok (.invokestatic 48, 3) := by decide +kernel
theorem d49_115 : decode method_7_code 115 = .ok (.idiv, 1) := by decide +kernel
theorem d49_116 : decode method_7_code 116 = .ok (.bipush 10, 2) := by decide +kernel
theorem d49_118 : decode method_7_code 118 = .ok (.irem, 1) := by decide +kernel
theorem d49_119 : decode method_7_code 119 = .ok (.iadd, 1) := by decide +kernel
theorem d49_120 : decode method_7_code 120 = .ok (.i2c, 1) := by decide +kernel
theorem d49_121 : decode method_7_code 121 = .ok (.ireturn, 1) := by decide +kernel
theorem d50_0 : decode method_5_code 0 = .ok (.iload_n 0, 1) := by decide +kernel
theorem d50_1 : decode method_5_code 1 = .ok (.ifCond .gt 5, 3) := by decide +kernel
theorem d50_4 : decode method_5_code 4 = .ok (.iconst 1, 1) := by decide +kernel
theorem d50_5 : decode method_5_code 5 = .ok (.ireturn, 1) := by decide +kernel
theorem d50_6 : decode method_5_code 6 = .ok (.iload_n 0, 1) := by decide +kernel
theorem d50_7 : decode method_5_code 7 = .ok (.iconst 1, 1) := by decide +kernel
theorem d50_8 : decode method_5_code 8 = .ok (.if_icmp .ne 6, 3) := by decide +kernel
theorem d50_11 : decode method_5_code 11 = .ok (.bipush 10, 2) := by decide +kernel
theorem d50_13 : decode method_5_code 13 = .ok (.ireturn, 1) := by decide +kernel
theorem d50_14 : decode method_5_code 14 = .ok (.iload_n 0, 1) := by decide +kernel
theorem d50_15 : decode method_5_code 15 = .ok (.iconst 2, 1) := by decide +kernel
theorem d50_16 : decode method_5_code 16 = .ok (.if_icmp .ne 6, 3) := by decide +kernel
theorem d50_19 : decode method_5_code 19 = .ok (.bipush 100, 2) := by decide +kernel
theorem d50_21 : decode method_5_code 21 = .ok (.ireturn, 1) := by decide +kernel
theorem d50_22 : decode method_5_code 22 = .ok (.iload_n 0, 1) := by decide +kernel
theorem d50_23 : decode method_5_code 23 = .ok (.iconst 3, 1) := by decide +kernel
theorem d50_24 : decode method_5_code 24 = .ok (.if_icmp .ne 7, 3) := by decide +kernel
theorem d50_27 : decode method_5_code 27 = .ok (.sipush 1000, 3) := by decide +kernel
theorem d50_30 : decode method_5_code 30 = .ok (.ireturn, 1) := by decide +kernel
theorem d50_31 : decode method_5_code 31 = .ok (.sipush 10000, 3) := by decide +kernel
theorem d50_34 : decode method_5_code 34 = .ok (.ireturn, 1) := by decide +kernel
theorem own_pd0 : parseMethodDescriptor "([CI[BII)I" = some ⟨[(.array .char), .int, (.array .byte), .int, .int], some .int⟩ := by decide +kernel
theorem own_pd1 : parseMethodDescriptor "([CII)[B" = some ⟨[(.array .char), .int, .int], some (.array .byte)⟩ := by decide +kernel
theorem own_pd2 : parseMethodDescriptor "([BI)B" = some ⟨[(.array .byte), .int], some .byte⟩ := by decide +kernel
theorem own_pd3 : parseMethodDescriptor "([CIILjava/lang/Void;)V" = some ⟨[(.array .char), .int, .int, (.object "java/lang/Void")], none⟩ := by decide +kernel
theorem own_pd4 : parseMethodDescriptor "()B" = some ⟨[], some .byte⟩ := by decide +kernel
theorem own_pd5 : parseMethodDescriptor "()V" = some ⟨[], none⟩ := by decide +kernel
theorem own_pd6 : parseMethodDescriptor "()Z" = some ⟨[], some .boolean⟩ := by decide +kernel
theorem own_pd7 : parseMethodDescriptor "()I" = some ⟨[], some .int⟩ := by decide +kernel
theorem own_pd8 : parseMethodDescriptor "(I)V" = some ⟨[.int], none⟩ := by decide +kernel
theorem own_pd9 : parseMethodDescriptor "(Ljava/lang/String;)V" = some ⟨[(.object "java/lang/String")], none⟩ := by decide +kernel
theorem own_pd10 : parseMethodDescriptor "([BIB)V" = some ⟨[(.array .byte), .int, .byte], none⟩ := by decide +kernel
theorem own_pd11 : parseMethodDescriptor "(ILjava/lang/String;)V" = some ⟨[.int, (.object "java/lang/String")], none⟩ := by decide +kernel
theorem own_pd12 : parseMethodDescriptor "(Ljava/lang/String;)Ljava/lang/AbstractStringBuilder;" = some ⟨[(.object "java/lang/String")], some (.object "java/lang/AbstractStringBuilder")⟩ := by decide +kernel
theorem own_pd13 : parseMethodDescriptor "(I)I" = some ⟨[.int], some .int⟩ := by decide +kernel
theorem own_pd14 : parseMethodDescriptor "(II[B)I" = some ⟨[.int, .int, (.array .byte)], some .int⟩ := by decide +kernel
theorem own_pd15 : parseMethodDescriptor "(I)Ljava/lang/AbstractStringBuilder;" = some ⟨[.int], some (.object "java/lang/AbstractStringBuilder")⟩ := by decide +kernel
theorem own_pd16 : parseMethodDescriptor "(II)V" = some ⟨[.int, .int], none⟩ := by decide +kernel
theorem own_pd17 : parseMethodDescriptor "(II)I" = some ⟨[.int, .int], some .int⟩ := by decide +kernel
theorem own_pd18 : parseMethodDescriptor "([BII)[B" = some ⟨[(.array .byte), .int, .int], some (.array .byte)⟩ := by decide +kernel
theorem own_pd19 : parseMethodDescriptor "()[B" = some ⟨[], some (.array .byte)⟩ := by decide +kernel
theorem own_pd20 : parseMethodDescriptor "(Ljava/lang/AbstractStringBuilder;Ljava/lang/Void;)V" = some ⟨[(.object "java/lang/AbstractStringBuilder"), (.object "java/lang/Void")], none⟩ := by decide +kernel
theorem own_pd21 : parseMethodDescriptor "(Ljava/lang/StringBuilder;)V" = some ⟨[(.object "java/lang/StringBuilder")], none⟩ := by decide +kernel
theorem own_pd22 : parseMethodDescriptor "([BI[BII)I" = some ⟨[(.array .byte), .int, (.array .byte), .int, .int], some .int⟩ := by decide +kernel
theorem own_pd23 : parseMethodDescriptor "([B[B)I" = some ⟨[(.array .byte), (.array .byte)], some .int⟩ := by decide +kernel
theorem own_pd24 : parseMethodDescriptor "()Ljava/lang/String;" = some ⟨[], some (.object "java/lang/String")⟩ := by decide +kernel
theorem own_pd25 : parseMethodDescriptor "(Ljava/lang/String;)I" = some ⟨[(.object "java/lang/String")], some .int⟩ := by decide +kernel
theorem own_pd26 : parseMethodDescriptor "(IILjava/util/function/BiFunction;)I" = some ⟨[.int, .int, (.object "java/util/function/BiFunction")], some .int⟩ := by decide +kernel
theorem own_pd27 : parseMethodDescriptor "([BI)C" = some ⟨[(.array .byte), .int], some .char⟩ := by decide +kernel
theorem own_pd28 : parseMethodDescriptor "(I)C" = some ⟨[.int], some .char⟩ := by decide +kernel
theorem own_pd29 : parseMethodDescriptor "(ICCCIZII)C" = some ⟨[.int, .char, .char, .char, .int, .boolean, .int, .int], some .char⟩ := by decide +kernel
theorem own_pd30 : parseMethodDescriptor "(Ljava/lang/CharSequence;)Z" = some ⟨[(.object "java/lang/CharSequence")], some .boolean⟩ := by decide +kernel
theorem own_pd31 : parseMethodDescriptor "(Ljava/lang/String;)Ljava/lang/StringBuilder;" = some ⟨[(.object "java/lang/String")], some (.object "java/lang/StringBuilder")⟩ := by decide +kernel
theorem own_pd32 : parseMethodDescriptor "(I)Ljava/lang/StringBuilder;" = some ⟨[.int], some (.object "java/lang/StringBuilder")⟩ := by decide +kernel
theorem own_pd33 : parseMethodDescriptor "(Ljava/lang/String;IICCCIZII)Z" = some ⟨[(.object "java/lang/String"), .int, .int, .char, .char, .char, .int, .boolean, .int, .int], some .boolean⟩ := by decide +kernel
theorem own_pd34 : parseMethodDescriptor "([C)V" = some ⟨[(.array .char)], none⟩ := by decide +kernel
theorem own_pd35 : parseMethodDescriptor "(Ljava/lang/String;I)V" = some ⟨[(.object "java/lang/String"), .int], none⟩ := by decide +kernel
set_option maxRecDepth 65536 in
set_option maxHeartbeats 40000000 in
theorem own_pick (l : Launch) (Z : State) (a0 : Array Value) (hw : ∀ d ∈ tables_1, d.before a0 Z = true) (x : Int32) (h0 : Heap) (n0 : Nat) {D : Addr → Prop} (hn : n0 ≤ h0.size)  :
    ConV l Z (⟨"com/example/tidemark/tidemark/protocol/HostPortToStringPinLaw", "pick", "(I)C"⟩ : MethodName) method_3_code 1 (some .char) ({ frames := 0, cells := 0, slots := 0, locals := 0 } : Room) #[(.int x)] h0 n0 D (fun v h => h0 = h ∧ ∃ (z : Int32), v = (.int z) ∧ (0 ≤ z.toInt ∧ z.toInt ≤ 255)) := by
  refine Con.of (plainFor_of_name (by first | (simp [plainName, overriddenIn]; done) | decide +kernel)) hn ?_
  intro p e s m below meth c T w X
  refine Gl.enter (ls := #[.val (.int x)]) (by first | (simp [entryFrame, mkF, argsToLocals, Value.category]; done) | rfl) ?_
  refine gIloadN X w d1_0 rfl (n := 1) rfl ?_
  refine gSipush X w d1_1 (z := (256 : Int32)) (by decide) (n := 4) rfl ?_
  obtain ⟨x4, q4⟩ : ∃ zz_ : Int32, x &&& (256 : Int32) = zz_ := ⟨_, rfl⟩
  refine gIand X w d1_4 q4 (n := 5) rfl ?_
  refine gIf_eq X w d1_5 (n := 11) (n' := 8) (by decide) rfl rfl ?_ ?_
  · rintro ⟨c5, c5'⟩
    refine gIloadN X w d1_11 rfl (n := 12) rfl ?_
    refine gSipush X w d1_12 (z := (255 : Int32)) (by decide) (n := 15) rfl ?_
    obtain ⟨x15, q15⟩ : ∃ zz_ : Int32, x &&& (255 : Int32) = zz_ := ⟨_, rfl⟩
    refine gIand X w d1_15 q15 (n := 16) rfl ?_
    obtain ⟨x16, q16⟩ : ∃ zz_ : Int32, (Int32.toUInt32 x15).toUInt16.toUInt32.toInt32 = zz_ := ⟨_, rfl⟩
    refine gI2c X w d1_16 q16 (n := 17) rfl ?_
    have hz16 := own_c255 q15 q16
    exact gRet X w (t := .char) rfl (congrArg Value.int (own_narc hz16)) (Or.inl ⟨rfl, Or.inr (Or.inr (Or.inr (Or.inl rfl))), _, rfl⟩) d1_17 (by decide) (by decide) (⟨rfl, _, rfl, rfl, x16, rfl, hz16⟩)
  · rintro ⟨c5, c5'⟩
    refine gBipush X w d1_8 (z := (58 : Int32)) (by decide) (n := 10) rfl ?_
    exact gRet X w (t := .char) rfl (by first | rfl | decide) (Or.inl ⟨rfl, Or.inr (Or.inr (Or.inr (Or.inl rfl))), _, rfl⟩) d1_10 (by decide) (by decide) (⟨rfl, _, rfl, rfl, (58 : Int32), rfl, (by decide)⟩)
set_option maxRecDepth 65536 in
set_option maxHeartbeats 40000000 in
theorem own_comp5_1 (l : Launch) (Z : State) (a0 : Array Value) (hw : ∀ d ∈ tables_1, d.before a0 Z = true) (a : Addr) (b : Addr) (z0 : Int32) (h0 : Heap) (n0 : Nat) {D : Addr → Prop} (hn : n0 ≤ h0.size) (P0 : Av Z h0 a .char [(.int z0)]) (P1 : Av Z h0 b .byte [(.int (0 : Int32))]) (hz0 : 0 ≤ z0.toInt ∧ z0.toInt ≤ 255) (ne_a_b : a ≠ b) (na_b : n0 ≤ b ∧ ¬ D b) :
    ConV l Z (⟨"java/lang/StringUTF16", "compress", "([CI[BII)I"⟩ : MethodName) jdk_52_method_21_code 7 (some .int) ({ frames := 0, cells := 0, slots := 0, locals := 0 } : Room) #[(.ref a), (.int (0 : Int32)), (.ref b), (.int (0 : Int32)), (.int (1 : Int32))] h0 n0 D (fun v h => Keep h0 h [b] ∧ v = (.int (1 : Int32)) ∧ Av Z h b .byte [(.int (own_bt z0))]) := by
  refine Con.of (plainFor_of_name (by first | (simp [plainName, overriddenIn]; done) | decide +kernel)) hn ?_
  intro p e s m below meth c T w X
  refine Gl.enter (ls := #[.val (.ref a), .val (.int (0 : Int32)), .val (.ref b), .val (.int (0 : Int32)), .val (.int (1 : Int32)), .unset, .unset]) (by first | (simp [entryFrame, mkF, argsToLocals, Value.category]; done) | rfl) ?_
  have K_0 : Keep h0 h0 [b] := Keep.refl _ _
  refine gIconst X w d6_0 (z := (0 : Int32)) rfl (n := 1) rfl ?_
  refine gIstore X w d6_1 #[.val (.ref a), .val (.int (0 : Int32)), .val (.ref b), .val (.int (0 : Int32)), .val (.int (1 : Int32)), .val (.int (0 : Int32)), .unset] rfl (n := 3) rfl ?_
  refine gIload X w d6_3 rfl (n := 5) rfl ?_
  refine gIload X w d6_5 rfl (n := 7) rfl ?_
  refine gIcmp_ge X w d6_7 (n := 44) (n' := 10) (by decide) rfl rfl ?_ ?_
  · intro c7
    exact absurd c7 (by decide)
  · intro c7
    refine gAloadN X w d6_10 rfl rfl (n := 11) rfl ?_
    refine gIloadN X w d6_11 rfl (n := 12) rfl ?_
    refine gCaload X w P0 (by decide) rfl d6_12 (n := 13) rfl ?_
    refine gIstore X w d6_13 #[.val (.ref a), .val (.int (0 : Int32)), .val (.ref b), .val (.int (0 : Int32)), .val (.int (1 : Int32)), .val (.int (0 : Int32)), .val (.int z0)] rfl (n := 15) rfl ?_
    refine gIload X w d6_15 rfl (n := 17) rfl ?_
    refine gSipush X w d6_17 (z := (255 : Int32)) (by decide) (n := 20) rfl ?_
    refine gIcmp_le X w d6_20 (n := 26) (n' := 23) (by decide) rfl rfl ?_ ?_
    · intro c20
      refine gAloadN X w d6_26 rfl rfl (n := 27) rfl ?_
      refine gIloadN X w d6_27 rfl (n := 28) rfl ?_
      refine gIload X w d6_28 rfl (n := 30) rfl ?_
      refine gI2b X w d6_30 rfl (n := 31) rfl ?_
      refine gBastore X w (z := (.int (own_bt z0))) P1 (by decide) (show (0 : Int) < ((1 : Nat) : Int) from by decide) na_b (congrArg Value.int (own_narbt z0)) (vs' := [(.int (own_bt z0))]) rfl d6_31 (n := 32) rfl ?_
      intro T hp31 X W31 V31
      have F_1 := K_0.wr W31 (Or.inl (by simp))
      have F_2 := P0.other W31 ne_a_b
      refine gIinc X w d6_32 rfl (z := (1 : Int32)) (by decide) #[.val (.ref a), .val (.int (1 : Int32)), .val (.ref b), .val (.int (0 : Int32)), .val (.int (1 : Int32)), .val (.int (0 : Int32)), .val (.int z0)] rfl (n := 35) rfl ?_
      refine gIinc X w d6_35 rfl (z := (1 : Int32)) (by decide) #[.val (.ref a), .val (.int (1 : Int32)), .val (.ref b), .val (.int (1 : Int32)), .val (.int (1 : Int32)), .val (.int (0 : Int32)), .val (.int z0)] rfl (n := 38) rfl ?_
      refine gIinc X w d6_38 rfl (z := (1 : Int32)) (by decide) #[.val (.ref a), .val (.int (1 : Int32)), .val (.ref b), .val (.int (1 : Int32)), .val (.int (1 : Int32)), .val (.int (1 : Int32)), .val (.int z0)] rfl (n := 41) rfl ?_
      refine gGoto X w d6_41 (by decide) (n := 3) rfl ?_
      refine gIload X w d6_3 rfl (n := 5) rfl ?_
      refine gIload X w d6_5 rfl (n := 7) rfl ?_
      refine gIcmp_ge X w d6_7 (n := 44) (n' := 10) (by decide) rfl rfl ?_ ?_
      · intro c7
        refine gIload X w d6_44 rfl (n := 46) rfl ?_
        exact gRetI X w rfl d6_46 (by decide) (by decide) (⟨rfl, _, rfl, F_1, rfl, V31⟩)
      · intro c7
        exact absurd c7 (by decide)
    · intro c20
      exact absurd c20 (by have := own_e255; omega)
set_option maxRecDepth 65536 in
set_option maxHeartbeats 40000000 in
theorem own_comp4_1 (l : Launch) (Z : State) (a0 : Array Value) (hw : ∀ d ∈ tables_1, d.before a0 Z = true) (a : Addr) (z0 : Int32) (h0 : Heap) (n0 : Nat) {D : Addr → Prop} (hn : n0 ≤ h0.size) (P0 : Av Z h0 a .char [(.int z0)]) (hz0 : 0 ≤ z0.toInt ∧ z0.toInt ≤ 255) :
    ConV l Z (⟨"java/lang/StringUTF16", "compress", "([CII)[B"⟩ : MethodName) jdk_52_method_16_code 6 (some (.array .byte)) ({ frames := 1, cells := 1, slots := 1, locals := 18 } : Room) #[(.ref a), (.int (0 : Int32)), (.int (1 : Int32))] h0 n0 D (fun v h => Keep h0 h [] ∧ ∃ (b : Addr), v = (.ref b) ∧ h0.size ≤ b ∧ (n0 ≤ b ∧ ¬ D b) ∧ Av Z h b .byte [(.int (own_bt z0))] ∧ Exa Z h b "[B") := by
  refine Con.of (plainFor_of_name (by first | (simp [plainName, overriddenIn]; done) | decide +kernel)) hn ?_
  intro p e s m below meth c T w X
  refine Gl.enter (ls := #[.val (.ref a), .val (.int (0 : Int32)), .val (.int (1 : Int32)), .unset, .unset, .unset]) (by first | (simp [entryFrame, mkF, argsToLocals, Value.category]; done) | rfl) ?_
  have K_0 : Keep h0 h0 [] := Keep.refl _ _
  refine gIloadN X w d5_0 rfl (n := 1) rfl ?_
  refine gNewP X w (own_wd hw 25 rfl) d5_1 (by decide) (cap := 1) (by decide) (by decide) (by decide) (by decide) (vs := [(.int (0 : Int32))]) (ty := .byte) rfl rfl (ad := "[B") (by decide) (n := 3) rfl ?_
  intro T hp1 ad1 ea1 na1 X E1 V1 A1
  have F_1 := Nat.le_trans K_0.1 (Nat.le_of_eq ea1.symm)
  have ne_a_ad1 : a ≠ ad1 := neOf P0.lt (Nat.le_of_eq ea1.symm)
  have F_2 := K_0.ext E1
  have F_3 := P0.ext E1
  refine gAstoreN X w d5_3 rfl #[.val (.ref a), .val (.int (0 : Int32)), .val (.int (1 : Int32)), .val (.ref ad1), .unset, .unset] rfl (n := 4) rfl ?_
  refine gAloadN X w d5_4 rfl rfl (n := 5) rfl ?_
  refine gIloadN X w d5_5 rfl (n := 6) rfl ?_
  refine gAloadN X w d5_6 rfl rfl (n := 7) rfl ?_
  refine gIconst X w d5_7 (z := (0 : Int32)) rfl (n := 8) rfl ?_
  refine gIloadN X w d5_8 rfl (n := 9) rfl ?_
  refine gCallSv X w [(.ref a), (.int (0 : Int32)), (.ref ad1), (.int (0 : Int32)), (.int (1 : Int32))] [] (own_comp5_1 l Z a0 hw a ad1 z0 hp1 n0 (Sd.le X) F_3 V1 (by first | assumption | decide | (simp; done) | omega) ne_a_ad1 na1) (own_wd hw 26 rfl) (own_wd hw 27 rfl) (own_wd hw 23 rfl) (own_wd hw 28 rfl) (by decide) own_pd0 rfl rfl d5_9 rfl (W := 0) (Nat.le_of_eq rfl) (by decide) (by decide) (by decide) (by decide) (n := 12) rfl ?_
  rintro T h_4 _ ⟨K_4, rfl, Q0_4⟩ X
  have F_5 := F_2.trans K_4 (allS (Or.inr F_1) all0)
  have F_6 := F_3.keep K_4 (ninS ne_a_ad1 nin0)
  have F_7 := A1.keep K_4
  refine gIstore X w d5_12 #[.val (.ref a), .val (.int (0 : Int32)), .val (.int (1 : Int32)), .val (.ref ad1), .val (.int (1 : Int32)), .unset] rfl (n := 14) rfl ?_
  refine gIload X w d5_14 rfl (n := 16) rfl ?_
  refine gIloadN X w d5_16 rfl (n := 17) rfl ?_
  refine gIcmp_eq X w d5_17 (n := 57) (n' := 20) (by decide) rfl rfl ?_ ?_
  · rintro ⟨c17, c17'⟩
    refine gAloadN X w d5_57 rfl rfl (n := 58) rfl ?_
    exact gRetA X w rfl rfl rfl d5_58 (by decide) (by decide) (⟨rfl, _, rfl, F_5, ad1, rfl, F_1, na1, Q0_4, F_7⟩)
  · rintro ⟨c17, c17'⟩
    exact absurd c17 (by decide)
set_option maxRecDepth 65536 in
set_option maxHeartbeats 40000000 in
theorem own_coder_1 (l : Launch) (Z : State) (a0 : Array Value) (hw : ∀ d ∈ tables_1, d.before a0 Z = true) (b : Addr) (z0 : Int32) (h0 : Heap) (n0 : Nat) {D : Addr → Prop} (hn : n0 ≤ h0.size) (P0 : Av Z h0 b .byte [(.int (own_bt z0))]) :
    ConV l Z (⟨"java/lang/StringUTF16", "coderFromArrayLen", "([BI)B"⟩ : MethodName) jdk_52_method_15_code 2 (some .byte) ({ frames := 0, cells := 0, slots := 0, locals := 0 } : Room) #[(.ref b), (.int (1 : Int32))] h0 n0 D (fun v h => h0 = h ∧ v = (.int (0 : Int32))) := by
  refine Con.of (plainFor_of_name (by first | (simp [plainName, overriddenIn]; done) | decide +kernel)) hn ?_
  intro p e s m below meth c T w X
  refine Gl.enter (ls := #[.val (.ref b), .val (.int (1 : Int32))]) (by first | (simp [entryFrame, mkF, argsToLocals, Value.category]; done) | rfl) ?_
  refine gIloadN X w d7_0 rfl (n := 1) rfl ?_
  refine gAloadN X w d7_1 rfl rfl (n := 2) rfl ?_
  refine gAlen X w P0 (z := (1 : Int32)) rfl d7_2 (n := 3) rfl ?_
  refine gIsub X w d7_3 (z := (0 : Int32)) (by decide) (n := 4) rfl ?_
  refine gBipush X w d7_4 (z := (31 : Int32)) (by decide) (n := 6) rfl ?_
  refine gIushr X w d7_6 (z := (0 : Int32)) (by decide) (n := 7) rfl ?_
  refine gI2b X w d7_7 (z := (0 : Int32)) (by decide) (n := 8) rfl ?_
  exact gRet X w (t := .byte) rfl (by first | rfl | decide) (Or.inl ⟨rfl, Or.inr (Or.inr (Or.inl rfl)), _, rfl⟩) d7_8 (by decide) (by decide) (⟨rfl, _, rfl, rfl, rfl⟩)
set_option maxRecDepth 65536 in
set_option maxHeartbeats 40000000 in
theorem own_sinit4_1 (l : Launch) (Z : State) (a0 : Array Value) (hw : ∀ d ∈ tables_1, d.before a0 Z = true) (s0 : Addr) (a : Addr) (z0 : Int32) (cs : Int32) (h0 : Heap) (n0 : Nat) {D : Addr → Prop} (hn : n0 ≤ h0.size) (P0 : Exa Z h0 s0 "java/lang/String") (P1 : Fld Z h0 s0 "java/lang/String" "value" "[B" .null) (P2 : Fld Z h0 s0 "java/lang/String" "coder" "B" (.int (0 : Int32))) (P3 : Av Z h0 a .char [(.int z0)]) (P4 : Sta Z h0 "java/lang/String" "COMPACT_STRINGS" "Z" (.int cs)) (hz0 : 0 ≤ z0.toInt ∧ z0.toInt ≤ 255) (hcs : ¬ cs = 0) (ne_a_s0 : a ≠ s0) (na_s0 : n0 ≤ s0 ∧ ¬ D s0) :
    ConN l Z (⟨"java/lang/String", "<init>", "([CIILjava/lang/Void;)V"⟩ : MethodName) jdk_42_method_149_code 6 ({ frames := 2, cells := 1, slots := 1, locals := 41 } : Room) #[(.ref s0), (.ref a), (.int (0 : Int32)), (.int (1 : Int32)), .null] h0 n0 D (fun h => Keep h0 h [s0] ∧ ∃ (b : Addr), h0.size ≤ b ∧ (n0 ≤ b ∧ ¬ D b) ∧ Fld Z h s0 "java/lang/String" "value" "[B" (.ref b) ∧ Fld Z h s0 "java/lang/String" "coder" "B" (.int (0 : Int32)) ∧ Av Z h b .byte [(.int (own_bt z0))] ∧ Exa Z h b "[B") := by
  refine Con.of (plainFor_of_name (by first | (simp [plainName, overriddenIn]; done) | decide +kernel)) hn ?_
  intro p e s m below meth c T w X
  refine Gl.enter (ls := #[.val (.ref s0), .val (.ref a), .val (.int (0 : Int32)), .val (.int (1 : Int32)), .val .null, .unset]) (by first | (simp [entryFrame, mkF, argsToLocals, Value.category]; done) | rfl) ?_
  have K_0 : Keep h0 h0 [s0] := Keep.refl _ _
  refine gAloadN X w d3_0 rfl rfl (n := 1) rfl ?_
  refine gInitO X w (own_wd hw 17 rfl) (own_wd hw 18 rfl) (own_wd hw 19 rfl) d3_1 rfl (by decide) (W := 0) (Nat.le_of_eq rfl) (by decide) (n := 4) rfl ?_
  intro T X
  refine gIloadN X w d3_4 rfl (n := 5) rfl ?_
  refine gIf_ne X w d3_5 (n := 27) (n' := 8) (by decide) rfl rfl ?_ ?_
  · rintro ⟨c5, c5'⟩
    refine gGetS X w (own_wd hw 20 rfl) Via.refl P4 d3_27 (n := 30) rfl ?_
    intro T X
    refine gIf_eq X w d3_30 (n := 58) (n' := 33) (by decide) rfl rfl ?_ ?_
    · rintro ⟨c30, c30'⟩
      exact absurd c30 hcs
    · rintro ⟨c30, c30'⟩
      refine gAloadN X w d3_33 rfl rfl (n := 34) rfl ?_
      refine gIloadN X w d3_34 rfl (n := 35) rfl ?_
      refine gIloadN X w d3_35 rfl (n := 36) rfl ?_
      refine gCallSv X w [(.ref a), (.int (0 : Int32)), (.int (1 : Int32))] [] (own_comp4_1 l Z a0 hw a z0 h0 n0 (Sd.le X) P3 (by first | assumption | decide | (simp; done) | omega)) (own_wd hw 21 rfl) (own_wd hw 22 rfl) (own_wd hw 23 rfl) (own_wd hw 24 rfl) (by decide) own_pd1 rfl rfl d3_36 rfl (W := 0) (Nat.le_of_eq rfl) (by decide) (by decide) (by decide) (by decide) (n := 39) rfl ?_
      rintro T h_1 _ ⟨K_1, b_1, rfl, g_b_1, na_b_1, Q0_1, Q1_1⟩ X
      have F_2 := Nat.le_trans K_0.1 g_b_1
      have ne_s0_b_1 : s0 ≠ b_1 := neOf P0.lt g_b_1
      have ne_a_b_1 : a ≠ b_1 := neOf P3.lt g_b_1
      have F_3 := K_0.trans K_1 all0
      have F_4 := P0.keep K_1
      have F_5 := P1.keep K_1 nin0
      have F_6 := P2.keep K_1 nin0
      have F_7 := P3.keep K_1 nin0
      have F_8 := staKeep P4 K_1 all0
      refine gAstore X w d3_39 rfl #[.val (.ref s0), .val (.ref a), .val (.int (0 : Int32)), .val (.int (1 : Int32)), .val .null, .val (.ref b_1)] rfl (n := 41) rfl ?_
      refine gAloadN X w d3_41 rfl rfl (n := 42) rfl ?_
      refine gAload X w d3_42 rfl rfl (n := 44) rfl ?_
      refine gIloadN X w d3_44 rfl (n := 45) rfl ?_
      refine gCallSv X w [(.ref b_1), (.int (1 : Int32))] [(.ref s0)] (own_coder_1 l Z a0 hw b_1 z0 h_1 n0 (Sd.le X) Q0_1) (own_wd hw 29 rfl) (own_wd hw 30 rfl) (own_wd hw 23 rfl) (own_wd hw 31 rfl) (by decide) own_pd2 rfl rfl d3_45 rfl (W := 1) (Nat.le_of_eq rfl) (by decide) (by decide) (by decide) (by decide) (n := 48) rfl ?_
      rintro T _ _ ⟨rfl, rfl⟩ X
      refine gPutF X w (own_wd hw 32 rfl) Via.refl F_6 F_4 (Or.inr ⟨own_wd hw 33 rfl, rfl, rfl⟩) (own_wd hw 7 rfl) na_s0 (ty := .byte) (by decide) (by first | rfl | decide) (by first | rfl | decide) d3_48 (n := 51) rfl ?_
      intro T hp48 X W48
      have F_10 := F_3.wr W48 (Or.inl (by simp))
      have F_11 := F_4.wr W48
      have F_12 := F_5.other W48 (Or.inr (slot_ne (Or.inr (own_wd hw 35 rfl) : Laid Z a0 _ _ _ _) (Or.inr (own_wd hw 33 rfl) : Laid Z a0 _ _ _ _) (by decide) (t := (.array .byte)) (t' := .byte) (by decide) (by decide)))
      have F_13 := F_6.same W48
      have F_14 := F_7.other W48 ne_a_s0
      have F_15 := F_8.wr W48
      have F_16 := Q0_1.other W48 (Ne.symm ne_s0_b_1)
      have F_17 := Q1_1.wr W48
      refine gAloadN X w d3_51 rfl rfl (n := 52) rfl ?_
      refine gAload X w d3_52 rfl rfl (n := 54) rfl ?_
      refine gPutF X w (own_wd hw 34 rfl) Via.refl F_12 F_11 (Or.inr ⟨own_wd hw 35 rfl, rfl, rfl⟩) (own_wd hw 7 rfl) na_s0 (ty := (.array .byte)) (by decide) rfl rfl d3_54 (n := 57) rfl ?_
      intro T hp54 X W54
      have F_18 := F_10.wr W54 (Or.inl (by simp))
      have F_19 := F_11.wr W54
      have F_20 := F_12.same W54
      have F_21 := F_13.other W54 (Or.inr (slot_ne (Or.inr (own_wd hw 33 rfl) : Laid Z a0 _ _ _ _) (Or.inr (own_wd hw 35 rfl) : Laid Z a0 _ _ _ _) (by decide) (t := .byte) (t' := (.array .byte)) (by decide) (by decide)))
      have F_22 := F_14.other W54 ne_a_s0
      have F_23 := F_15.wr W54
      have F_24 := F_16.other W54 (Ne.symm ne_s0_b_1)
      have F_25 := F_17.wr W54
      exact gRetV X w rfl d3_57 (by decide) (by decide) (⟨rfl, rfl, F_18, b_1, F_2, na_b_1, F_20, F_21, F_24, F_25⟩)
  · rintro ⟨c5, c5'⟩
    exact absurd c5 (by decide)
set_option maxRecDepth 65536 in
set_option maxHeartbeats 40000000 in
theorem own_sinit_1 (l : Launch) (Z : State) (a0 : Array Value) (hw : ∀ d ∈ tables_1, d.before a0 Z = true) (s0 : Addr) (a : Addr) (z0 : Int32) (cs : Int32) (h0 : Heap) (n0 : Nat) {D : Addr → Prop} (hn : n0 ≤ h0.size) (P0 : Exa Z h0 s0 "java/lang/String") (P1 : Fld Z h0 s0 "java/lang/String" "value" "[B" .null) (P2 : Fld Z h0 s0 "java/lang/String" "coder" "B" (.int (0 : Int32))) (P3 : Av Z h0 a .char [(.int z0)]) (P4 : Sta Z h0 "java/lang/String" "COMPACT_STRINGS" "Z" (.int cs)) (hz0 : 0 ≤ z0.toInt ∧ z0.toInt ≤ 255) (hcs : ¬ cs = 0) (ne_a_s0 : a ≠ s0) (na_s0 : n0 ≤ s0 ∧ ¬ D s0) :
    ConN l Z (⟨"java/lang/String", "<init>", "([C)V"⟩ : MethodName) jdk_42_method_3_code 2 ({ frames := 3, cells := 1, slots := 1, locals := 61 } : Room) #[(.ref s0), (.ref a)] h0 n0 D (fun h => Keep h0 h [s0] ∧ ∃ (b : Addr), h0.size ≤ b ∧ (n0 ≤ b ∧ ¬ D b) ∧ Fld Z h s0 "java/lang/String" "value" "[B" (.ref b) ∧ Fld Z h s0 "java/lang/String" "coder" "B" (.int (0 : Int32)) ∧ Av Z h b .byte [(.int (own_bt z0))] ∧ Exa Z h b "[B") := by
  refine Con.of (plainFor_of_name (by first | (simp [plainName, overriddenIn]; done) | decide +kernel)) hn ?_
  intro p e s m below meth c T w X
  refine Gl.enter (ls := #[.val (.ref s0), .val (.ref a)]) (by first | (simp [entryFrame, mkF, argsToLocals, Value.category]; done) | rfl) ?_
  have K_0 : Keep h0 h0 [s0] := Keep.refl _ _
  refine gAloadN X w d2_0 rfl rfl (n := 1) rfl ?_
  refine gAloadN X w d2_1 rfl rfl (n := 2) rfl ?_
  refine gIconst X w d2_2 (z := (0 : Int32)) rfl (n := 3) rfl ?_
  refine gAloadN X w d2_3 rfl rfl (n := 4) rfl ?_
  refine gAlen X w P3 (z := (1 : Int32)) rfl d2_4 (n := 5) rfl ?_
  refine gNull X w d2_5 (n := 6) rfl ?_
  refine gCallIn X w [(.ref a), (.int (0 : Int32)), (.int (1 : Int32)), .null] [] rfl (own_sinit4_1 l Z a0 hw s0 a z0 cs h0 n0 (Sd.le X) P0 P1 P2 P3 P4 (by first | assumption | decide | (simp; done) | omega) (by first | assumption | decide | (simp; done) | omega) ne_a_s0 na_s0) (own_wd hw 13 rfl) (own_wd hw 14 rfl) (own_wd hw 8 rfl) (own_wd hw 16 rfl) (by decide) own_pd3 rfl rfl d2_6 rfl (W := 0) (Nat.le_of_eq rfl) (by decide) (by decide) (by decide) (by decide) (n := 9) rfl ?_
  rintro T h_1 ⟨K_1, b_1, g_b_1, na_b_1, Q0_1, Q1_1, Q2_1, Q3_1⟩ X
  have F_2 := Nat.le_trans K_0.1 g_b_1
  have ne_s0_b_1 : s0 ≠ b_1 := neOf P0.lt g_b_1
  have ne_a_b_1 : a ≠ b_1 := neOf P3.lt g_b_1
  have F_3 := K_0.trans K_1 (allS (Or.inl (by simp)) all0)
  have F_4 := P0.keep K_1
  have F_5 := P3.keep K_1 (ninS ne_a_s0 nin0)
  have F_6 := staKeep P4 K_1 (allS (Exa.nostat P0) all0)
  exact gRetV X w rfl d2_9 (by decide) (by decide) (⟨rfl, rfl, F_3, b_1, F_2, na_b_1, Q0_1, Q1_1, Q2_1, Q3_1⟩)
set_option maxRecDepth 65536 in
set_option maxHeartbeats 40000000 in
theorem own_comp5_2 (l : Launch) (Z : State) (a0 : Array Value) (hw : ∀ d ∈ tables_1, d.before a0 Z = true) (a : Addr) (b : Addr) (z0 : Int32) (z1 : Int32) (h0 : Heap) (n0 : Nat) {D : Addr → Prop} (hn : n0 ≤ h0.size) (P0 : Av Z h0 a .char [(.int z0), (.int z1)]) (P1 : Av Z h0 b .byte [(.int (0 : Int32)), (.int (0 : Int32))]) (hz0 : 0 ≤ z0.toInt ∧ z0.toInt ≤ 255) (hz1 : 0 ≤ z1.toInt ∧ z1.toInt ≤ 255) (ne_a_b : a ≠ b) (na_b : n0 ≤ b ∧ ¬ D b) :
    ConV l Z (⟨"java/lang/StringUTF16", "compress", "([CI[BII)I"⟩ : MethodName) jdk_52_method_21_code 7 (some .int) ({ frames := 0, cells := 0, slots := 0, locals := 0 } : Room) #[(.ref a), (.int (0 : Int32)), (.ref b), (.int (0 : Int32)), (.int (2 : Int32))] h0 n0 D (fun v h => Keep h0 h [b] ∧ v = (.int (2 : Int32)) ∧ Av Z h b .byte [(.int (own_bt z0)), (.int (own_bt z1))]) := by
  refine Con.of (plainFor_of_name (by first | (simp [plainName, overriddenIn]; done) | decide +kernel)) hn ?_
  intro p e s m below meth c T w X
  refine Gl.enter (ls := #[.val (.ref a), .val (.int (0 : Int32)), .val (.ref b), .val (.int (0 : Int32)), .val (.int (2 : Int32)), .unset, .unset]) (by first | (simp [entryFrame, mkF, argsToLocals, Value.category]; done) | rfl) ?_
  have K_0 : Keep h0 h0 [b] := Keep.refl _ _
  refine gIconst X w d6_0 (z := (0 : Int32)) rfl (n := 1) rfl ?_
  refine gIstore X w d6_1 #[.val (.ref a), .val (.int (0 : Int32)), .val (.ref b), .val (.int (0 : Int32)), .val (.int (2 : Int32)), .val (.int (0 : Int32)), .unset] rfl (n := 3) rfl ?_
  refine gIload X w d6_3 rfl (n := 5) rfl ?_
  refine gIload X w d6_5 rfl (n := 7) rfl ?_
  refine gIcmp_ge X w d6_7 (n := 44) (n' := 10) (by decide) rfl rfl ?_ ?_
  · intro c7
    exact absurd c7 (by decide)
  · intro c7
    refine gAloadN X w d6_10 rfl rfl (n := 11) rfl ?_
    refine gIloadN X w d6_11 rfl (n := 12) rfl ?_
    refine gCaload X w P0 (by decide) rfl d6_12 (n := 13) rfl ?_
    refine gIstore X w d6_13 #[.val (.ref a), .val (.int (0 : Int32)), .val (.ref b), .val (.int (0 : Int32)), .val (.int (2 : Int32)), .val (.int (0 : Int32)), .val (.int z0)] rfl (n := 15) rfl ?_
    refine gIload X w d6_15 rfl (n := 17) rfl ?_
    refine gSipush X w d6_17 (z := (255 : Int32)) (by decide) (n := 20) rfl ?_
    refine gIcmp_le X w d6_20 (n := 26) (n' := 23) (by decide) rfl rfl ?_ ?_
    · intro c20
      refine gAloadN X w d6_26 rfl rfl (n := 27) rfl ?_
      refine gIloadN X w d6_27 rfl (n := 28) rfl ?_
      refine gIload X w d6_28 rfl (n := 30) rfl ?_
      refine gI2b X w d6_30 rfl (n := 31) rfl ?_
      refine gBastore X w (z := (.int (own_bt z0))) P1 (by decide) (show (0 : Int) < ((2 : Nat) : Int) from by decide) na_b (congrArg Value.int (own_narbt z0)) (vs' := [(.int (own_bt z0)), (.int (0 : Int32))]) rfl d6_31 (n := 32) rfl ?_
      intro T hp31 X W31 V31
      have F_1 := K_0.wr W31 (Or.inl (by simp))
      have F_2 := P0.other W31 ne_a_b
      refine gIinc X w d6_32 rfl (z := (1 : Int32)) (by decide) #[.val (.ref a), .val (.int (1 : Int32)), .val (.ref b), .val (.int (0 : Int32)), .val (.int (2 : Int32)), .val (.int (0 : Int32)), .val (.int z0)] rfl (n := 35) rfl ?_
      refine gIinc X w d6_35 rfl (z := (1 : Int32)) (by decide) #[.val (.ref a), .val (.int (1 : Int32)), .val (.ref b), .val (.int (1 : Int32)), .val (.int (2 : Int32)), .val (.int (0 : Int32)), .val (.int z0)] rfl (n := 38) rfl ?_
      refine gIinc X w d6_38 rfl (z := (1 : Int32)) (by decide) #[.val (.ref a), .val (.int (1 : Int32)), .val (.ref b), .val (.int (1 : Int32)), .val (.int (2 : Int32)), .val (.int (1 : Int32)), .val (.int z0)] rfl (n := 41) rfl ?_
      refine gGoto X w d6_41 (by decide) (n := 3) rfl ?_
      refine gIload X w d6_3 rfl (n := 5) rfl ?_
      refine gIload X w d6_5 rfl (n := 7) rfl ?_
      refine gIcmp_ge X w d6_7 (n := 44) (n' := 10) (by decide) rfl rfl ?_ ?_
      · intro c7
        exact absurd c7 (by decide)
      · intro c7
        refine gAloadN X w d6_10 rfl rfl (n := 11) rfl ?_
        refine gIloadN X w d6_11 rfl (n := 12) rfl ?_
        refine gCaload X w F_2 (by decide) rfl d6_12 (n := 13) rfl ?_
        refine gIstore X w d6_13 #[.val (.ref a), .val (.int (1 : Int32)), .val (.ref b), .val (.int (1 : Int32)), .val (.int (2 : Int32)), .val (.int (1 : Int32)), .val (.int z1)] rfl (n := 15) rfl ?_
        refine gIload X w d6_15 rfl (n := 17) rfl ?_
        refine gSipush X w d6_17 (z := (255 : Int32)) (by decide) (n := 20) rfl ?_
        refine gIcmp_le X w d6_20 (n := 26) (n' := 23) (by decide) rfl rfl ?_ ?_
        · intro c20
          refine gAloadN X w d6_26 rfl rfl (n := 27) rfl ?_
          refine gIloadN X w d6_27 rfl (n := 28) rfl ?_
          refine gIload X w d6_28 rfl (n := 30) rfl ?_
          refine gI2b X w d6_30 rfl (n := 31) rfl ?_
          refine gBastore X w (z := (.int (own_bt z1))) V31 (by decide) (show (1 : Int) < ((2 : Nat) : Int) from by decide) na_b (congrArg Value.int (own_narbt z1)) (vs' := [(.int (own_bt z0)), (.int (own_bt z1))]) rfl d6_31 (n := 32) rfl ?_
          intro T hp31 X W31 V31
          have F_3 := F_1.wr W31 (Or.inl (by simp))
          have F_4 := F_2.other W31 ne_a_b
          refine gIinc X w d6_32 rfl (z := (2 : Int32)) (by decide) #[.val (.ref a), .val (.int (2 : Int32)), .val (.ref b), .val (.int (1 : Int32)), .val (.int (2 : Int32)), .val (.int (1 : Int32)), .val (.int z1)] rfl (n := 35) rfl ?_
          refine gIinc X w d6_35 rfl (z := (2 : Int32)) (by decide) #[.val (.ref a), .val (.int (2 : Int32)), .val (.ref b), .val (.int (2 : Int32)), .val (.int (2 : Int32)), .val (.int (1 : Int32)), .val (.int z1)] rfl (n := 38) rfl ?_
          refine gIinc X w d6_38 rfl (z := (2 : Int32)) (by decide) #[.val (.ref a), .val (.int (2 : Int32)), .val (.ref b), .val (.int (2 : Int32)), .val (.int (2 : Int32)), .val (.int (2 : Int32)), .val (.int z1)] rfl (n := 41) rfl ?_
          refine gGoto X w d6_41 (by decide) (n := 3) rfl ?_
          refine gIload X w d6_3 rfl (n := 5) rfl ?_
          refine gIload X w d6_5 rfl (n := 7) rfl ?_
          refine gIcmp_ge X w d6_7 (n := 44) (n' := 10) (by decide) rfl rfl ?_ ?_
          · intro c7
            refine gIload X w d6_44 rfl (n := 46) rfl ?_
            exact gRetI X w rfl d6_46 (by decide) (by decide) (⟨rfl, _, rfl, F_3, rfl, V31⟩)
          · intro c7
            exact absurd c7 (by decide)
        · intro c20
          exact absurd c20 (by have := own_e255; omega)
    · intro c20
      exact absurd c20 (by have := own_e255; omega)
set_option maxRecDepth 65536 in
set_option maxHeartbeats 40000000 in
theorem own_comp4_2 (l : Launch) (Z : State) (a0 : Array Value) (hw : ∀ d ∈ tables_1, d.before a0 Z = true) (a : Addr) (z0 : Int32) (z1 : Int32) (h0 : Heap) (n0 : Nat) {D : Addr → Prop} (hn : n0 ≤ h0.size) (P0 : Av Z h0 a .char [(.int z0), (.int z1)]) (hz0 : 0 ≤ z0.toInt ∧ z0.toInt ≤ 255) (hz1 : 0 ≤ z1.toInt ∧ z1.toInt ≤ 255) :
    ConV l Z (⟨"java/lang/StringUTF16", "compress", "([CII)[B"⟩ : MethodName) jdk_52_method_16_code 6 (some (.array .byte)) ({ frames := 1, cells := 1, slots := 2, locals := 18 } : Room) #[(.ref a), (.int (0 : Int32)), (.int (2 : Int32))] h0 n0 D (fun v h => Keep h0 h [] ∧ ∃ (b : Addr), v = (.ref b) ∧ h0.size ≤ b ∧ (n0 ≤ b ∧ ¬ D b) ∧ Av Z h b .byte [(.int (own_bt z0)), (.int (own_bt z1))] ∧ Exa Z h b "[B") := by
  refine Con.of (plainFor_of_name (by first | (simp [plainName, overriddenIn]; done) | decide +kernel)) hn ?_
  intro p e s m below meth c T w X
  refine Gl.enter (ls := #[.val (.ref a), .val (.int (0 : Int32)), .val (.int (2 : Int32)), .unset, .unset, .unset]) (by first | (simp [entryFrame, mkF, argsToLocals, Value.category]; done) | rfl) ?_
  have K_0 : Keep h0 h0 [] := Keep.refl _ _
  refine gIloadN X w d5_0 rfl (n := 1) rfl ?_
  refine gNewP X w (own_wd hw 25 rfl) d5_1 (by decide) (cap := 2) (by decide) (by decide) (by decide) (by decide) (vs := [(.int (0 : Int32)), (.int (0 : Int32))]) (ty := .byte) rfl rfl (ad := "[B") (by decide) (n := 3) rfl ?_
  intro T hp1 ad1 ea1 na1 X E1 V1 A1
  have F_1 := Nat.le_trans K_0.1 (Nat.le_of_eq ea1.symm)
  have ne_a_ad1 : a ≠ ad1 := neOf P0.lt (Nat.le_of_eq ea1.symm)
  have F_2 := K_0.ext E1
  have F_3 := P0.ext E1
  refine gAstoreN X w d5_3 rfl #[.val (.ref a), .val (.int (0 : Int32)), .val (.int (2 : Int32)), .val (.ref ad1), .unset, .unset] rfl (n := 4) rfl ?_
  refine gAloadN X w d5_4 rfl rfl (n := 5) rfl ?_
  refine gIloadN X w d5_5 rfl (n := 6) rfl ?_
  refine gAloadN X w d5_6 rfl rfl (n := 7) rfl ?_
  refine gIconst X w d5_7 (z := (0 : Int32)) rfl (n := 8) rfl ?_
  refine gIloadN X w d5_8 rfl (n := 9) rfl ?_
  refine gCallSv X w [(.ref a), (.int (0 : Int32)), (.ref ad1), (.int (0 : Int32)), (.int (2 : Int32))] [] (own_comp5_2 l Z a0 hw a ad1 z0 z1 hp1 n0 (Sd.le X) F_3 V1 (by first | assumption | decide | (simp; done) | omega) (by first | assumption | decide | (simp; done) | omega) ne_a_ad1 na1) (own_wd hw 26 rfl) (own_wd hw 27 rfl) (own_wd hw 23 rfl) (own_wd hw 28 rfl) (by decide) own_pd0 rfl rfl d5_9 rfl (W := 0) (Nat.le_of_eq rfl) (by decide) (by decide) (by decide) (by decide) (n := 12) rfl ?_
  rintro T h_4 _ ⟨K_4, rfl, Q0_4⟩ X
  have F_5 := F_2.trans K_4 (allS (Or.inr F_1) all0)
  have F_6 := F_3.keep K_4 (ninS ne_a_ad1 nin0)
  have F_7 := A1.keep K_4
  refine gIstore X w d5_12 #[.val (.ref a), .val (.int (0 : Int32)), .val (.int (2 : Int32)), .val (.ref ad1), .val (.int (2 : Int32)), .unset] rfl (n := 14) rfl ?_
  refine gIload X w d5_14 rfl (n := 16) rfl ?_
  refine gIloadN X w d5_16 rfl (n := 17) rfl ?_
  refine gIcmp_eq X w d5_17 (n := 57) (n' := 20) (by decide) rfl rfl ?_ ?_
  · rintro ⟨c17, c17'⟩
    refine gAloadN X w d5_57 rfl rfl (n := 58) rfl ?_
    exact gRetA X w rfl rfl rfl d5_58 (by decide) (by decide) (⟨rfl, _, rfl, F_5, ad1, rfl, F_1, na1, Q0_4, F_7⟩)
  · rintro ⟨c17, c17'⟩
    exact absurd c17 (by decide)
set_option maxRecDepth 65536 in
set_option maxHeartbeats 40000000 in
theorem own_coder_2 (l : Launch) (Z : State) (a0 : Array Value) (hw : ∀ d ∈ tables_1, d.before a0 Z = true) (b : Addr) (z0 : Int32) (z1 : Int32) (h0 : Heap) (n0 : Nat) {D : Addr → Prop} (hn : n0 ≤ h0.size) (P0 : Av Z h0 b .byte [(.int (own_bt z0)), (.int (own_bt z1))]) :
    ConV l Z (⟨"java/lang/StringUTF16", "coderFromArrayLen", "([BI)B"⟩ : MethodName) jdk_52_method_15_code 2 (some .byte) ({ frames := 0, cells := 0, slots := 0, locals := 0 } : Room) #[(.ref b), (.int (2 : Int32))] h0 n0 D (fun v h => h0 = h ∧ v = (.int (0 : Int32))) := by
  refine Con.of (plainFor_of_name (by first | (simp [plainName, overriddenIn]; done) | decide +kernel)) hn ?_
  intro p e s m below meth c T w X
  refine Gl.enter (ls := #[.val (.ref b), .val (.int (2 : Int32))]) (by first | (simp [entryFrame, mkF, argsToLocals, Value.category]; done) | rfl) ?_
  refine gIloadN X w d7_0 rfl (n := 1) rfl ?_
  refine gAloadN X w d7_1 rfl rfl (n := 2) rfl ?_
  refine gAlen X w P0 (z := (2 : Int32)) rfl d7_2 (n := 3) rfl ?_
  refine gIsub X w d7_3 (z := (0 : Int32)) (by decide) (n := 4) rfl ?_
  refine gBipush X w d7_4 (z := (31 : Int32)) (by decide) (n := 6) rfl ?_
  refine gIushr X w d7_6 (z := (0 : Int32)) (by decide) (n := 7) rfl ?_
  refine gI2b X w d7_7 (z := (0 : Int32)) (by decide) (n := 8) rfl ?_
  exact gRet X w (t := .byte) rfl (by first | rfl | decide) (Or.inl ⟨rfl, Or.inr (Or.inr (Or.inl rfl)), _, rfl⟩) d7_8 (by decide) (by decide) (⟨rfl, _, rfl, rfl, rfl⟩)
set_option maxRecDepth 65536 in
set_option maxHeartbeats 40000000 in
theorem own_sinit4_2 (l : Launch) (Z : State) (a0 : Array Value) (hw : ∀ d ∈ tables_1, d.before a0 Z = true) (s0 : Addr) (a : Addr) (z0 : Int32) (z1 : Int32) (cs : Int32) (h0 : Heap) (n0 : Nat) {D : Addr → Prop} (hn : n0 ≤ h0.size) (P0 : Exa Z h0 s0 "java/lang/String") (P1 : Fld Z h0 s0 "java/lang/String" "value" "[B" .null) (P2 : Fld Z h0 s0 "java/lang/String" "coder" "B" (.int (0 : Int32))) (P3 : Av Z h0 a .char [(.int z0), (.int z1)]) (P4 : Sta Z h0 "java/lang/String" "COMPACT_STRINGS" "Z" (.int cs)) (hz0 : 0 ≤ z0.toInt ∧ z0.toInt ≤ 255) (hz1 : 0 ≤ z1.toInt ∧ z1.toInt ≤ 255) (hcs : ¬ cs = 0) (ne_a_s0 : a ≠ s0) (na_s0 : n0 ≤ s0 ∧ ¬ D s0) :
    ConN l Z (⟨"java/lang/String", "<init>", "([CIILjava/lang/Void;)V"⟩ : MethodName) jdk_42_method_149_code 6 ({ frames := 2, cells := 1, slots := 2, locals := 41 } : Room) #[(.ref s0), (.ref a), (.int (0 : Int32)), (.int (2 : Int32)), .null] h0 n0 D (fun h => Keep h0 h [s0] ∧ ∃ (b : Addr), h0.size ≤ b ∧ (n0 ≤ b ∧ ¬ D b) ∧ Fld Z h s0 "java/lang/String" "value" "[B" (.ref b) ∧ Fld Z h s0 "java/lang/String" "coder" "B" (.int (0 : Int32)) ∧ Av Z h b .byte [(.int (own_bt z0)), (.int (own_bt z1))] ∧ Exa Z h b "[B") := by
  refine Con.of (plainFor_of_name (by first | (simp [plainName, overriddenIn]; done) | decide +kernel)) hn ?_
  intro p e s m below meth c T w X
  refine Gl.enter (ls := #[.val (.ref s0), .val (.ref a), .val (.int (0 : Int32)), .val (.int (2 : Int32)), .val .null, .unset]) (by first | (simp [entryFrame, mkF, argsToLocals, Value.category]; done) | rfl) ?_
  have K_0 : Keep h0 h0 [s0] := Keep.refl _ _
  refine gAloadN X w d3_0 rfl rfl (n := 1) rfl ?_
  refine gInitO X w (own_wd hw 17 rfl) (own_wd hw 18 rfl) (own_wd hw 19 rfl) d3_1 rfl (by decide) (W := 0) (Nat.le_of_eq rfl) (by decide) (n := 4) rfl ?_
  intro T X
  refine gIloadN X w d3_4 rfl (n := 5) rfl ?_
  refine gIf_ne X w d3_5 (n := 27) (n' := 8) (by decide) rfl rfl ?_ ?_
  · rintro ⟨c5, c5'⟩
    refine gGetS X w (own_wd hw 20 rfl) Via.refl P4 d3_27 (n := 30) rfl ?_
    intro T X
    refine gIf_eq X w d3_30 (n := 58) (n' := 33) (by decide) rfl rfl ?_ ?_
    · rintro ⟨c30, c30'⟩
      exact absurd c30 hcs
    · rintro ⟨c30, c30'⟩
      refine gAloadN X w d3_33 rfl rfl (n := 34) rfl ?_
      refine gIloadN X w d3_34 rfl (n := 35) rfl ?_
      refine gIloadN X w d3_35 rfl (n := 36) rfl ?_
      refine gCallSv X w [(.ref a), (.int (0 : Int32)), (.int (2 : Int32))] [] (own_comp4_2 l Z a0 hw a z0 z1 h0 n0 (Sd.le X) P3 (by first | assumption | decide | (simp; done) | omega) (by first | assumption | decide | (simp; done) | omega)) (own_wd hw 21 rfl) (own_wd hw 22 rfl) (own_wd hw 23 rfl) (own_wd hw 24 rfl) (by decide) own_pd1 rfl rfl d3_36 rfl (W := 0) (Nat.le_of_eq rfl) (by decide) (by decide) (by decide) (by decide) (n := 39) rfl ?_
      rintro T h_1 _ ⟨K_1, b_1, rfl, g_b_1, na_b_1, Q0_1, Q1_1⟩ X
      have F_2 := Nat.le_trans K_0.1 g_b_1
      have ne_s0_b_1 : s0 ≠ b_1 := neOf P0.lt g_b_1
      have ne_a_b_1 : a ≠ b_1 := neOf P3.lt g_b_1
      have F_3 := K_0.trans K_1 all0
      have F_4 := P0.keep K_1
      have F_5 := P1.keep K_1 nin0
      have F_6 := P2.keep K_1 nin0
      have F_7 := P3.keep K_1 nin0
      have F_8 := staKeep P4 K_1 all0
      refine gAstore X w d3_39 rfl #[.val (.ref s0), .val (.ref a), .val (.int (0 : Int32)), .val (.int (2 : Int32)), .val .null, .val (.ref b_1)] rfl (n := 41) rfl ?_
      refine gAloadN X w d3_41 rfl rfl (n := 42) rfl ?_
      refine gAload X w d3_42 rfl rfl (n := 44) rfl ?_
      refine gIloadN X w d3_44 rfl (n := 45) rfl ?_
      refine gCallSv X w [(.ref b_1), (.int (2 : Int32))] [(.ref s0)] (own_coder_2 l Z a0 hw b_1 z0 z1 h_1 n0 (Sd.le X) Q0_1) (own_wd hw 29 rfl) (own_wd hw 30 rfl) (own_wd hw 23 rfl) (own_wd hw 31 rfl) (by decide) own_pd2 rfl rfl d3_45 rfl (W := 1) (Nat.le_of_eq rfl) (by decide) (by decide) (by decide) (by decide) (n := 48) rfl ?_
      rintro T _ _ ⟨rfl, rfl⟩ X
      refine gPutF X w (own_wd hw 32 rfl) Via.refl F_6 F_4 (Or.inr ⟨own_wd hw 33 rfl, rfl, rfl⟩) (own_wd hw 7 rfl) na_s0 (ty := .byte) (by decide) (by first | rfl | decide) (by first | rfl | decide) d3_48 (n := 51) rfl ?_
      intro T hp48 X W48
      have F_10 := F_3.wr W48 (Or.inl (by simp))
      have F_11 := F_4.wr W48
      have F_12 := F_5.other W48 (Or.inr (slot_ne (Or.inr (own_wd hw 35 rfl) : Laid Z a0 _ _ _ _) (Or.inr (own_wd hw 33 rfl) : Laid Z a0 _ _ _ _) (by decide) (t := (.array .byte)) (t' := .byte) (by decide) (by decide)))
      have F_13 := F_6.same W48
      have F_14 := F_7.other W48 ne_a_s0
      have F_15 := F_8.wr W48
      have F_16 := Q0_1.other W48 (Ne.symm ne_s0_b_1)
      have F_17 := Q1_1.wr W48
      refine gAloadN X w d3_51 rfl rfl (n := 52) rfl ?_
      refine gAload X w d3_52 rfl rfl (n := 54) rfl ?_
      refine gPutF X w (own_wd hw 34 rfl) Via.refl F_12 F_11 (Or.inr ⟨own_wd hw 35 rfl, rfl, rfl⟩) (own_wd hw 7 rfl) na_s0 (ty := (.array .byte)) (by decide) rfl rfl d3_54 (n := 57) rfl ?_
      intro T hp54 X W54
      have F_18 := F_10.wr W54 (Or.inl (by simp))
      have F_19 := F_11.wr W54
      have F_20 := F_12.same W54
      have F_21 := F_13.other W54 (Or.inr (slot_ne (Or.inr (own_wd hw 33 rfl) : Laid Z a0 _ _ _ _) (Or.inr (own_wd hw 35 rfl) : Laid Z a0 _ _ _ _) (by decide) (t := .byte) (t' := (.array .byte)) (by decide) (by decide)))
      have F_22 := F_14.other W54 ne_a_s0
      have F_23 := F_15.wr W54
      have F_24 := F_16.other W54 (Ne.symm ne_s0_b_1)
      have F_25 := F_17.wr W54
      exact gRetV X w rfl d3_57 (by decide) (by decide) (⟨rfl, rfl, F_18, b_1, F_2, na_b_1, F_20, F_21, F_24, F_25⟩)
  · rintro ⟨c5, c5'⟩
    exact absurd c5 (by decide)
set_option maxRecDepth 65536 in
set_option maxHeartbeats 40000000 in
theorem own_sinit_2 (l : Launch) (Z : State) (a0 : Array Value) (hw : ∀ d ∈ tables_1, d.before a0 Z = true) (s0 : Addr) (a : Addr) (z0 : Int32) (z1 : Int32) (cs : Int32) (h0 : Heap) (n0 : Nat) {D : Addr → Prop} (hn : n0 ≤ h0.size) (P0 : Exa Z h0 s0 "java/lang/String") (P1 : Fld Z h0 s0 "java/lang/String" "value" "[B" .null) (P2 : Fld Z h0 s0 "java/lang/String" "coder" "B" (.int (0 : Int32))) (P3 : Av Z h0 a .char [(.int z0), (.int z1)]) (P4 : Sta Z h0 "java/lang/String" "COMPACT_STRINGS" "Z" (.int cs)) (hz0 : 0 ≤ z0.toInt ∧ z0.toInt ≤ 255) (hz1 : 0 ≤ z1.toInt ∧ z1.toInt ≤ 255) (hcs : ¬ cs = 0) (ne_a_s0 : a ≠ s0) (na_s0 : n0 ≤ s0 ∧ ¬ D s0) :
    ConN l Z (⟨"java/lang/String", "<init>", "([C)V"⟩ : MethodName) jdk_42_method_3_code 2 ({ frames := 3, cells := 1, slots := 2, locals := 61 } : Room) #[(.ref s0), (.ref a)] h0 n0 D (fun h => Keep h0 h [s0] ∧ ∃ (b : Addr), h0.size ≤ b ∧ (n0 ≤ b ∧ ¬ D b) ∧ Fld Z h s0 "java/lang/String" "value" "[B" (.ref b) ∧ Fld Z h s0 "java/lang/String" "coder" "B" (.int (0 : Int32)) ∧ Av Z h b .byte [(.int (own_bt z0)), (.int (own_bt z1))] ∧ Exa Z h b "[B") := by
  refine Con.of (plainFor_of_name (by first | (simp [plainName, overriddenIn]; done) | decide +kernel)) hn ?_
  intro p e s m below meth c T w X
  refine Gl.enter (ls := #[.val (.ref s0), .val (.ref a)]) (by first | (simp [entryFrame, mkF, argsToLocals, Value.category]; done) | rfl) ?_
  have K_0 : Keep h0 h0 [s0] := Keep.refl _ _
  refine gAloadN X w d2_0 rfl rfl (n := 1) rfl ?_
  refine gAloadN X w d2_1 rfl rfl (n := 2) rfl ?_
  refine gIconst X w d2_2 (z := (0 : Int32)) rfl (n := 3) rfl ?_
  refine gAloadN X w d2_3 rfl rfl (n := 4) rfl ?_
  refine gAlen X w P3 (z := (2 : Int32)) rfl d2_4 (n := 5) rfl ?_
  refine gNull X w d2_5 (n := 6) rfl ?_
  refine gCallIn X w [(.ref a), (.int (0 : Int32)), (.int (2 : Int32)), .null] [] rfl (own_sinit4_2 l Z a0 hw s0 a z0 z1 cs h0 n0 (Sd.le X) P0 P1 P2 P3 P4 (by first | assumption | decide | (simp; done) | omega) (by first | assumption | decide | (simp; done) | omega) (by first | assumption | decide | (simp; done) | omega) ne_a_s0 na_s0) (own_wd hw 13 rfl) (own_wd hw 14 rfl) (own_wd hw 8 rfl) (own_wd hw 16 rfl) (by decide) own_pd3 rfl rfl d2_6 rfl (W := 0) (Nat.le_of_eq rfl) (by decide) (by decide) (by decide) (by decide) (n := 9) rfl ?_
  rintro T h_1 ⟨K_1, b_1, g_b_1, na_b_1, Q0_1, Q1_1, Q2_1, Q3_1⟩ X
  have F_2 := Nat.le_trans K_0.1 g_b_1
  have ne_s0_b_1 : s0 ≠ b_1 := neOf P0.lt g_b_1
  have ne_a_b_1 : a ≠ b_1 := neOf P3.lt g_b_1
  have F_3 := K_0.trans K_1 (allS (Or.inl (by simp)) all0)
  have F_4 := P0.keep K_1
  have F_5 := P3.keep K_1 (ninS ne_a_s0 nin0)
  have F_6 := staKeep P4 K_1 (allS (Exa.nostat P0) all0)
  exact gRetV X w rfl d2_9 (by decide) (by decide) (⟨rfl, rfl, F_3, b_1, F_2, na_b_1, Q0_1, Q1_1, Q2_1, Q3_1⟩)
set_option maxRecDepth 65536 in
set_option maxHeartbeats 40000000 in
theorem own_comp5_3 (l : Launch) (Z : State) (a0 : Array Value) (hw : ∀ d ∈ tables_1, d.before a0 Z = true) (a : Addr) (b : Addr) (z0 : Int32) (z1 : Int32) (z2 : Int32) (h0 : Heap) (n0 : Nat) {D : Addr → Prop} (hn : n0 ≤ h0.size) (P0 : Av Z h0 a .char [(.int z0), (.int z1), (.int z2)]) (P1 : Av Z h0 b .byte [(.int (0 : Int32)), (.int (0 : Int32)), (.int (0 : Int32))]) (hz0 : 0 ≤ z0.toInt ∧ z0.toInt ≤ 255) (hz1 : 0 ≤ z1.toInt ∧ z1.toInt ≤ 255) (hz2 : 0 ≤ z2.toInt ∧ z2.toInt ≤ 255) (ne_a_b : a ≠ b) (na_b : n0 ≤ b ∧ ¬ D b) :
    ConV l Z (⟨"java/lang/StringUTF16", "compress", "([CI[BII)I"⟩ : MethodName) jdk_52_method_21_code 7 (some .int) ({ frames := 0, cells := 0, slots := 0, locals := 0 } : Room) #[(.ref a), (.int (0 : Int32)), (.ref b), (.int (0 : Int32)), (.int (3 : Int32))] h0 n0 D (fun v h => Keep h0 h [b] ∧ v = (.int (3 : Int32)) ∧ Av Z h b .byte [(.int (own_bt z0)), (.int (own_bt z1)), (.int (own_bt z2))]) := by
  refine Con.of (plainFor_of_name (by first | (simp [plainName, overriddenIn]; done) | decide +kernel)) hn ?_
  intro p e s m below meth c T w X
  refine Gl.enter (ls := #[.val (.ref a), .val (.int (0 : Int32)), .val (.ref b), .val (.int (0 : Int32)), .val (.int (3 : Int32)), .unset, .unset]) (by first | (simp [entryFrame, mkF, argsToLocals, Value.category]; done) | rfl) ?_
  have K_0 : Keep h0 h0 [b] := Keep.refl _ _
  refine gIconst X w d6_0 (z := (0 : Int32)) rfl (n := 1) rfl ?_
  refine gIstore X w d6_1 #[.val (.ref a), .val (.int (0 : Int32)), .val (.ref b), .val (.int (0 : Int32)), .val (.int (3 : Int32)), .val (.int (0 : Int32)), .unset] rfl (n := 3) rfl ?_
  refine gIload X w d6_3 rfl (n := 5) rfl ?_
  refine gIload X w d6_5 rfl (n := 7) rfl ?_
  refine gIcmp_ge X w d6_7 (n := 44) (n' := 10) (by decide) rfl rfl ?_ ?_
  · intro c7
    exact absurd c7 (by decide)
  · intro c7
    refine gAloadN X w d6_10 rfl rfl (n := 11) rfl ?_
    refine gIloadN X w d6_11 rfl (n := 12) rfl ?_
    refine gCaload X w P0 (by decide) rfl d6_12 (n := 13) rfl ?_
    refine gIstore X w d6_13 #[.val (.ref a), .val (.int (0 : Int32)), .val (.ref b), .val (.int (0 : Int32)), .val (.int (3 : Int32)), .val (.int (0 : Int32)), .val (.int z0)] rfl (n := 15) rfl ?_
    refine gIload X w d6_15 rfl (n := 17) rfl ?_
    refine gSipush X w d6_17 (z := (255 : Int32)) (by decide) (n := 20) rfl ?_
    refine gIcmp_le X w d6_20 (n := 26) (n' := 23) (by decide) rfl rfl ?_ ?_
    · intro c20
      refine gAloadN X w d6_26 rfl rfl (n := 27) rfl ?_
      refine gIloadN X w d6_27 rfl (n := 28) rfl ?_
      refine gIload X w d6_28 rfl (n := 30) rfl ?_
      refine gI2b X w d6_30 rfl (n := 31) rfl ?_
      refine gBastore X w (z := (.int (own_bt z0))) P1 (by decide) (show (0 : Int) < ((3 : Nat) : Int) from by decide) na_b (congrArg Value.int (own_narbt z0)) (vs' := [(.int (own_bt z0)), (.int (0 : Int32)), (.int (0 : Int32))]) rfl d6_31 (n := 32) rfl ?_
      intro T hp31 X W31 V31
      have F_1 := K_0.wr W31 (Or.inl (by simp))
      have F_2 := P0.other W31 ne_a_b
      refine gIinc X w d6_32 rfl (z := (1 : Int32)) (by decide) #[.val (.ref a), .val (.int (1 : Int32)), .val (.ref b), .val (.int (0 : Int32)), .val (.int (3 : Int32)), .val (.int (0 : Int32)), .val (.int z0)] rfl (n := 35) rfl ?_
      refine gIinc X w d6_35 rfl (z := (1 : Int32)) (by decide) #[.val (.ref a), .val (.int (1 : Int32)), .val (.ref b), .val (.int (1 : Int32)), .val (.int (3 : Int32)), .val (.int (0 : Int32)), .val (.int z0)] rfl (n := 38) rfl ?_
      refine gIinc X w d6_38 rfl (z := (1 : Int32)) (by decide) #[.val (.ref a), .val (.int (1 : Int32)), .val (.ref b), .val (.int (1 : Int32)), .val (.int (3 : Int32)), .val (.int (1 : Int32)), .val (.int z0)] rfl (n := 41) rfl ?_
      refine gGoto X w d6_41 (by decide) (n := 3) rfl ?_
      refine gIload X w d6_3 rfl (n := 5) rfl ?_
      refine gIload X w d6_5 rfl (n := 7) rfl ?_
      refine gIcmp_ge X w d6_7 (n := 44) (n' := 10) (by decide) rfl rfl ?_ ?_
      · intro c7
        exact absurd c7 (by decide)
      · intro c7
        refine gAloadN X w d6_10 rfl rfl (n := 11) rfl ?_
        refine gIloadN X w d6_11 rfl (n := 12) rfl ?_
        refine gCaload X w F_2 (by decide) rfl d6_12 (n := 13) rfl ?_
        refine gIstore X w d6_13 #[.val (.ref a), .val (.int (1 : Int32)), .val (.ref b), .val (.int (1 : Int32)), .val (.int (3 : Int32)), .val (.int (1 : Int32)), .val (.int z1)] rfl (n := 15) rfl ?_
        refine gIload X w d6_15 rfl (n := 17) rfl ?_
        refine gSipush X w d6_17 (z := (255 : Int32)) (by decide) (n := 20) rfl ?_
        refine gIcmp_le X w d6_20 (n := 26) (n' := 23) (by decide) rfl rfl ?_ ?_
        · intro c20
          refine gAloadN X w d6_26 rfl rfl (n := 27) rfl ?_
          refine gIloadN X w d6_27 rfl (n := 28) rfl ?_
          refine gIload X w d6_28 rfl (n := 30) rfl ?_
          refine gI2b X w d6_30 rfl (n := 31) rfl ?_
          refine gBastore X w (z := (.int (own_bt z1))) V31 (by decide) (show (1 : Int) < ((3 : Nat) : Int) from by decide) na_b (congrArg Value.int (own_narbt z1)) (vs' := [(.int (own_bt z0)), (.int (own_bt z1)), (.int (0 : Int32))]) rfl d6_31 (n := 32) rfl ?_
          intro T hp31 X W31 V31
          have F_3 := F_1.wr W31 (Or.inl (by simp))
          have F_4 := F_2.other W31 ne_a_b
          refine gIinc X w d6_32 rfl (z := (2 : Int32)) (by decide) #[.val (.ref a), .val (.int (2 : Int32)), .val (.ref b), .val (.int (1 : Int32)), .val (.int (3 : Int32)), .val (.int (1 : Int32)), .val (.int z1)] rfl (n := 35) rfl ?_
          refine gIinc X w d6_35 rfl (z := (2 : Int32)) (by decide) #[.val (.ref a), .val (.int (2 : Int32)), .val (.ref b), .val (.int (2 : Int32)), .val (.int (3 : Int32)), .val (.int (1 : Int32)), .val (.int z1)] rfl (n := 38) rfl ?_
          refine gIinc X w d6_38 rfl (z := (2 : Int32)) (by decide) #[.val (.ref a), .val (.int (2 : Int32)), .val (.ref b), .val (.int (2 : Int32)), .val (.int (3 : Int32)), .val (.int (2 : Int32)), .val (.int z1)] rfl (n := 41) rfl ?_
          refine gGoto X w d6_41 (by decide) (n := 3) rfl ?_
          refine gIload X w d6_3 rfl (n := 5) rfl ?_
          refine gIload X w d6_5 rfl (n := 7) rfl ?_
          refine gIcmp_ge X w d6_7 (n := 44) (n' := 10) (by decide) rfl rfl ?_ ?_
          · intro c7
            exact absurd c7 (by decide)
          · intro c7
            refine gAloadN X w d6_10 rfl rfl (n := 11) rfl ?_
            refine gIloadN X w d6_11 rfl (n := 12) rfl ?_
            refine gCaload X w F_4 (by decide) rfl d6_12 (n := 13) rfl ?_
            refine gIstore X w d6_13 #[.val (.ref a), .val (.int (2 : Int32)), .val (.ref b), .val (.int (2 : Int32)), .val (.int (3 : Int32)), .val (.int (2 : Int32)), .val (.int z2)] rfl (n := 15) rfl ?_
            refine gIload X w d6_15 rfl (n := 17) rfl ?_
            refine gSipush X w d6_17 (z := (255 : Int32)) (by decide) (n := 20) rfl ?_
            refine gIcmp_le X w d6_20 (n := 26) (n' := 23) (by decide) rfl rfl ?_ ?_
            · intro c20
              refine gAloadN X w d6_26 rfl rfl (n := 27) rfl ?_
              refine gIloadN X w d6_27 rfl (n := 28) rfl ?_
              refine gIload X w d6_28 rfl (n := 30) rfl ?_
              refine gI2b X w d6_30 rfl (n := 31) rfl ?_
              refine gBastore X w (z := (.int (own_bt z2))) V31 (by decide) (show (2 : Int) < ((3 : Nat) : Int) from by decide) na_b (congrArg Value.int (own_narbt z2)) (vs' := [(.int (own_bt z0)), (.int (own_bt z1)), (.int (own_bt z2))]) rfl d6_31 (n := 32) rfl ?_
              intro T hp31 X W31 V31
              have F_5 := F_3.wr W31 (Or.inl (by simp))
              have F_6 := F_4.other W31 ne_a_b
              refine gIinc X w d6_32 rfl (z := (3 : Int32)) (by decide) #[.val (.ref a), .val (.int (3 : Int32)), .val (.ref b), .val (.int (2 : Int32)), .val (.int (3 : Int32)), .val (.int (2 : Int32)), .val (.int z2)] rfl (n := 35) rfl ?_
              refine gIinc X w d6_35 rfl (z := (3 : Int32)) (by decide) #[.val (.ref a), .val (.int (3 : Int32)), .val (.ref b), .val (.int (3 : Int32)), .val (.int (3 : Int32)), .val (.int (2 : Int32)), .val (.int z2)] rfl (n := 38) rfl ?_
              refine gIinc X w d6_38 rfl (z := (3 : Int32)) (by decide) #[.val (.ref a), .val (.int (3 : Int32)), .val (.ref b), .val (.int (3 : Int32)), .val (.int (3 : Int32)), .val (.int (3 : Int32)), .val (.int z2)] rfl (n := 41) rfl ?_
              refine gGoto X w d6_41 (by decide) (n := 3) rfl ?_
              refine gIload X w d6_3 rfl (n := 5) rfl ?_
              refine gIload X w d6_5 rfl (n := 7) rfl ?_
              refine gIcmp_ge X w d6_7 (n := 44) (n' := 10) (by decide) rfl rfl ?_ ?_
              · intro c7
                refine gIload X w d6_44 rfl (n := 46) rfl ?_
                exact gRetI X w rfl d6_46 (by decide) (by decide) (⟨rfl, _, rfl, F_5, rfl, V31⟩)
              · intro c7
                exact absurd c7 (by decide)
            · intro c20
              exact absurd c20 (by have := own_e255; omega)
        · intro c20
          exact absurd c20 (by have := own_e255; omega)
    · intro c20
      exact absurd c20 (by have := own_e255; omega)
set_option maxRecDepth 65536 in
set_option maxHeartbeats 40000000 in
theorem own_comp4_3 (l : Launch) (Z : State) (a0 : Array Value) (hw : ∀ d ∈ tables_1, d.before a0 Z = true) (a : Addr) (z0 : Int32) (z1 : Int32) (z2 : Int32) (h0 : Heap) (n0 : Nat) {D : Addr → Prop} (hn : n0 ≤ h0.size) (P0 : Av Z h0 a .char [(.int z0), (.int z1), (.int z2)]) (hz0 : 0 ≤ z0.toInt ∧ z0.toInt ≤ 255) (hz1 : 0 ≤ z1.toInt ∧ z1.toInt ≤ 255) (hz2 : 0 ≤ z2.toInt ∧ z2.toInt ≤ 255) :
    ConV l Z (⟨"java/lang/StringUTF16", "compress", "([CII)[B"⟩ : MethodName) jdk_52_method_16_code 6 (some (.array .byte)) ({ frames := 1, cells := 1, slots := 3, locals := 18 } : Room) #[(.ref a), (.int (0 : Int32)), (.int (3 : Int32))] h0 n0 D (fun v h => Keep h0 h [] ∧ ∃ (b : Addr), v = (.ref b) ∧ h0.size ≤ b ∧ (n0 ≤ b ∧ ¬ D b) ∧ Av Z h b .byte [(.int (own_bt z0)), (.int (own_bt z1)), (.int (own_bt z2))] ∧ Exa Z h b "[B") := by
  refine Con.of (plainFor_of_name (by first | (simp [plainName, overriddenIn]; done) | decide +kernel)) hn ?_
  intro p e s m below meth c T w X
  refine Gl.enter (ls := #[.val (.ref a), .val (.int (0 : Int32)), .val (.int (3 : Int32)), .unset, .unset, .unset]) (by first | (simp [entryFrame, mkF, argsToLocals, Value.category]; done) | rfl) ?_
  have K_0 : Keep h0 h0 [] := Keep.refl _ _
  refine gIloadN X w d5_0 rfl (n := 1) rfl ?_
  refine gNewP X w (own_wd hw 25 rfl) d5_1 (by decide) (cap := 3) (by decide) (by decide) (by decide) (by decide) (vs := [(.int (0 : Int32)), (.int (0 : Int32)), (.int (0 : Int32))]) (ty := .byte) rfl rfl (ad := "[B") (by decide) (n := 3) rfl ?_
  intro T hp1 ad1 ea1 na1 X E1 V1 A1
  have F_1 := Nat.le_trans K_0.1 (Nat.le_of_eq ea1.symm)
  have ne_a_ad1 : a ≠ ad1 := neOf P0.lt (Nat.le_of_eq ea1.symm)
  have F_2 := K_0.ext E1
  have F_3 := P0.ext E1
  refine gAstoreN X w d5_3 rfl #[.val (.ref a), .val (.int (0 : Int32)), .val (.int (3 : Int32)), .val (.ref ad1), .unset, .unset] rfl (n := 4) rfl ?_
  refine gAloadN X w d5_4 rfl rfl (n := 5) rfl ?_
  refine gIloadN X w d5_5 rfl (n := 6) rfl ?_
  refine gAloadN X w d5_6 rfl rfl (n := 7) rfl ?_
  refine gIconst X w d5_7 (z := (0 : Int32)) rfl (n := 8) rfl ?_
  refine gIloadN X w d5_8 rfl (n := 9) rfl ?_
  refine gCallSv X w [(.ref a), (.int (0 : Int32)), (.ref ad1), (.int (0 : Int32)), (.int (3 : Int32))] [] (own_comp5_3 l Z a0 hw a ad1 z0 z1 z2 hp1 n0 (Sd.le X) F_3 V1 (by first | assumption | decide | (simp; done) | omega) (by first | assumption | decide | (simp; done) | omega) (by first | assumption | decide | (simp; done) | omega) ne_a_ad1 na1) (own_wd hw 26 rfl) (own_wd hw 27 rfl) (own_wd hw 23 rfl) (own_wd hw 28 rfl) (by decide) own_pd0 rfl rfl d5_9 rfl (W := 0) (Nat.le_of_eq rfl) (by decide) (by decide) (by decide) (by decide) (n := 12) rfl ?_
  rintro T h_4 _ ⟨K_4, rfl, Q0_4⟩ X
  have F_5 := F_2.trans K_4 (allS (Or.inr F_1) all0)
  have F_6 := F_3.keep K_4 (ninS ne_a_ad1 nin0)
  have F_7 := A1.keep K_4
  refine gIstore X w d5_12 #[.val (.ref a), .val (.int (0 : Int32)), .val (.int (3 : Int32)), .val (.ref ad1), .val (.int (3 : Int32)), .unset] rfl (n := 14) rfl ?_
  refine gIload X w d5_14 rfl (n := 16) rfl ?_
  refine gIloadN X w d5_16 rfl (n := 17) rfl ?_
  refine gIcmp_eq X w d5_17 (n := 57) (n' := 20) (by decide) rfl rfl ?_ ?_
  · rintro ⟨c17, c17'⟩
    refine gAloadN X w d5_57 rfl rfl (n := 58) rfl ?_
    exact gRetA X w rfl rfl rfl d5_58 (by decide) (by decide) (⟨rfl, _, rfl, F_5, ad1, rfl, F_1, na1, Q0_4, F_7⟩)
  · rintro ⟨c17, c17'⟩
    exact absurd c17 (by decide)
set_option maxRecDepth 65536 in
set_option maxHeartbeats 40000000 in
theorem own_coder_3 (l : Launch) (Z : State) (a0 : Array Value) (hw : ∀ d ∈ tables_1, d.before a0 Z = true) (b : Addr) (z0 : Int32) (z1 : Int32) (z2 : Int32) (h0 : Heap) (n0 : Nat) {D : Addr → Prop} (hn : n0 ≤ h0.size) (P0 : Av Z h0 b .byte [(.int (own_bt z0)), (.int (own_bt z1)), (.int (own_bt z2))]) :
    ConV l Z (⟨"java/lang/StringUTF16", "coderFromArrayLen", "([BI)B"⟩ : MethodName) jdk_52_method_15_code 2 (some .byte) ({ frames := 0, cells := 0, slots := 0, locals := 0 } : Room) #[(.ref b), (.int (3 : Int32))] h0 n0 D (fun v h => h0 = h ∧ v = (.int (0 : Int32))) := by
  refine Con.of (plainFor_of_name (by first | (simp [plainName, overriddenIn]; done) | decide +kernel)) hn ?_
  intro p e s m below meth c T w X
  refine Gl.enter (ls := #[.val (.ref b), .val (.int (3 : Int32))]) (by first | (simp [entryFrame, mkF, argsToLocals, Value.category]; done) | rfl) ?_
  refine gIloadN X w d7_0 rfl (n := 1) rfl ?_
  refine gAloadN X w d7_1 rfl rfl (n := 2) rfl ?_
  refine gAlen X w P0 (z := (3 : Int32)) rfl d7_2 (n := 3) rfl ?_
  refine gIsub X w d7_3 (z := (0 : Int32)) (by decide) (n := 4) rfl ?_
  refine gBipush X w d7_4 (z := (31 : Int32)) (by decide) (n := 6) rfl ?_
  refine gIushr X w d7_6 (z := (0 : Int32)) (by decide) (n := 7) rfl ?_
  refine gI2b X w d7_7 (z := (0 : Int32)) (by decide) (n := 8) rfl ?_
  exact gRet X w (t := .byte) rfl (by first | rfl | decide) (Or.inl ⟨rfl, Or.inr (Or.inr (Or.inl rfl)), _, rfl⟩) d7_8 (by decide) (by decide) (⟨rfl, _, rfl, rfl, rfl⟩)
set_option maxRecDepth 65536 in
set_option maxHeartbeats 40000000 in
theorem own_sinit4_3 (l : Launch) (Z : State) (a0 : Array Value) (hw : ∀ d ∈ tables_1, d.before a0 Z = true) (s0 : Addr) (a : Addr) (z0 : Int32) (z1 : Int32) (z2 : Int32) (cs : Int32) (h0 : Heap) (n0 : Nat) {D : Addr → Prop} (hn : n0 ≤ h0.size) (P0 : Exa Z h0 s0 "java/lang/String") (P1 : Fld Z h0 s0 "java/lang/String" "value" "[B" .null) (P2 : Fld Z h0 s0 "java/lang/String" "coder" "B" (.int (0 : Int32))) (P3 : Av Z h0 a .char [(.int z0), (.int z1), (.int z2)]) (P4 : Sta Z h0 "java/lang/String" "COMPACT_STRINGS" "Z" (.int cs)) (hz0 : 0 ≤ z0.toInt ∧ z0.toInt ≤ 255) (hz1 : 0 ≤ z1.toInt ∧ z1.toInt ≤ 255) (hz2 : 0 ≤ z2.toInt ∧ z2.toInt ≤ 255) (hcs : ¬ cs = 0) (ne_a_s0 : a ≠ s0) (na_s0 : n0 ≤ s0 ∧ ¬ D s0) :
    ConN l Z (⟨"java/lang/String", "<init>", "([CIILjava/lang/Void;)V"⟩ : MethodName) jdk_42_method_149_code 6 ({ frames := 2, cells := 1, slots := 3, locals := 41 } : Room) #[(.ref s0), (.ref a), (.int (0 : Int32)), (.int (3 : Int32)), .null] h0 n0 D (fun h => Keep h0 h [s0] ∧ ∃ (b : Addr), h0.size ≤ b ∧ (n0 ≤ b ∧ ¬ D b) ∧ Fld Z h s0 "java/lang/String" "value" "[B" (.ref b) ∧ Fld Z h s0 "java/lang/String" "coder" "B" (.int (0 : Int32)) ∧ Av Z h b .byte [(.int (own_bt z0)), (.int (own_bt z1)), (.int (own_bt z2))] ∧ Exa Z h b "[B") := by
  refine Con.of (plainFor_of_name (by first | (simp [plainName, overriddenIn]; done) | decide +kernel)) hn ?_
  intro p e s m below meth c T w X
  refine Gl.enter (ls := #[.val (.ref s0), .val (.ref a), .val (.int (0 : Int32)), .val (.int (3 : Int32)), .val .null, .unset]) (by first | (simp [entryFrame, mkF, argsToLocals, Value.category]; done) | rfl) ?_
  have K_0 : Keep h0 h0 [s0] := Keep.refl _ _
  refine gAloadN X w d3_0 rfl rfl (n := 1) rfl ?_
  refine gInitO X w (own_wd hw 17 rfl) (own_wd hw 18 rfl) (own_wd hw 19 rfl) d3_1 rfl (by decide) (W := 0) (Nat.le_of_eq rfl) (by decide) (n := 4) rfl ?_
  intro T X
  refine gIloadN X w d3_4 rfl (n := 5) rfl ?_
  refine gIf_ne X w d3_5 (n := 27) (n' := 8) (by decide) rfl rfl ?_ ?_
  · rintro ⟨c5, c5'⟩
    refine gGetS X w (own_wd hw 20 rfl) Via.refl P4 d3_27 (n := 30) rfl ?_
    intro T X
    refine gIf_eq X w d3_30 (n := 58) (n' := 33) (by decide) rfl rfl ?_ ?_
    · rintro ⟨c30, c30'⟩
      exact absurd c30 hcs
    · rintro ⟨c30, c30'⟩
      refine gAloadN X w d3_33 rfl rfl (n := 34) rfl ?_
      refine gIloadN X w d3_34 rfl (n := 35) rfl ?_
      refine gIloadN X w d3_35 rfl (n := 36) rfl ?_
      refine gCallSv X w [(.ref a), (.int (0 : Int32)), (.int (3 : Int32))] [] (own_comp4_3 l Z a0 hw a z0 z1 z2 h0 n0 (Sd.le X) P3 (by first | assumption | decide | (simp; done) | omega) (by first | assumption | decide | (simp; done) | omega) (by first | assumption | decide | (simp; done) | omega)) (own_wd hw 21 rfl) (own_wd hw 22 rfl) (own_wd hw 23 rfl) (own_wd hw 24 rfl) (by decide) own_pd1 rfl rfl d3_36 rfl (W := 0) (Nat.le_of_eq rfl) (by decide) (by decide) (by decide) (by decide) (n := 39) rfl ?_
      rintro T h_1 _ ⟨K_1, b_1, rfl, g_b_1, na_b_1, Q0_1, Q1_1⟩ X
      have F_2 := Nat.le_trans K_0.1 g_b_1
      have ne_s0_b_1 : s0 ≠ b_1 := neOf P0.lt g_b_1
      have ne_a_b_1 : a ≠ b_1 := neOf P3.lt g_b_1
      have F_3 := K_0.trans K_1 all0
      have F_4 := P0.keep K_1
      have F_5 := P1.keep K_1 nin0
      have F_6 := P2.keep K_1 nin0
      have F_7 := P3.keep K_1 nin0
      have F_8 := staKeep P4 K_1 all0
      refine gAstore X w d3_39 rfl #[.val (.ref s0), .val (.ref a), .val (.int (0 : Int32)), .val (.int (3 : Int32)), .val .null, .val (.ref b_1)] rfl (n := 41) rfl ?_
      refine gAloadN X w d3_41 rfl rfl (n := 42) rfl ?_
      refine gAload X w d3_42 rfl rfl (n := 44) rfl ?_
      refine gIloadN X w d3_44 rfl (n := 45) rfl ?_
      refine gCallSv X w [(.ref b_1), (.int (3 : Int32))] [(.ref s0)] (own_coder_3 l Z a0 hw b_1 z0 z1 z2 h_1 n0 (Sd.le X) Q0_1) (own_wd hw 29 rfl) (own_wd hw 30 rfl) (own_wd hw 23 rfl) (own_wd hw 31 rfl) (by decide) own_pd2 rfl rfl d3_45 rfl (W := 1) (Nat.le_of_eq rfl) (by decide) (by decide) (by decide) (by decide) (n := 48) rfl ?_
      rintro T _ _ ⟨rfl, rfl⟩ X
      refine gPutF X w (own_wd hw 32 rfl) Via.refl F_6 F_4 (Or.inr ⟨own_wd hw 33 rfl, rfl, rfl⟩) (own_wd hw 7 rfl) na_s0 (ty := .byte) (by decide) (by first | rfl | decide) (by first | rfl | decide) d3_48 (n := 51) rfl ?_
      intro T hp48 X W48
      have F_10 := F_3.wr W48 (Or.inl (by simp))
      have F_11 := F_4.wr W48
      have F_12 := F_5.other W48 (Or.inr (slot_ne (Or.inr (own_wd hw 35 rfl) : Laid Z a0 _ _ _ _) (Or.inr (own_wd hw 33 rfl) : Laid Z a0 _ _ _ _) (by decide) (t := (.array .byte)) (t' := .byte) (by decide) (by decide)))
      have F_13 := F_6.same W48
      have F_14 := F_7.other W48 ne_a_s0
      have F_15 := F_8.wr W48
      have F_16 := Q0_1.other W48 (Ne.symm ne_s0_b_1)
      have F_17 := Q1_1.wr W48
      refine gAloadN X w d3_51 rfl rfl (n := 52) rfl ?_
      refine gAload X w d3_52 rfl rfl (n := 54) rfl ?_
      refine gPutF X w (own_wd hw 34 rfl) Via.refl F_12 F_11 (Or.inr ⟨own_wd hw 35 rfl, rfl, rfl⟩) (own_wd hw 7 rfl) na_s0 (ty := (.array .byte)) (by decide) rfl rfl d3_54 (n := 57) rfl ?_
      intro T hp54 X W54
      have F_18 := F_10.wr W54 (Or.inl (by simp))
      have F_19 := F_11.wr W54
      have F_20 := F_12.same W54
      have F_21 := F_13.other W54 (Or.inr (slot_ne (Or.inr (own_wd hw 33 rfl) : Laid Z a0 _ _ _ _) (Or.inr (own_wd hw 35 rfl) : Laid Z a0 _ _ _ _) (by decide) (t := .byte) (t' := (.array .byte)) (by decide) (by decide)))
      have F_22 := F_14.other W54 ne_a_s0
      have F_23 := F_15.wr W54
      have F_24 := F_16.other W54 (Ne.symm ne_s0_b_1)
      have F_25 := F_17.wr W54
      exact gRetV X w rfl d3_57 (by decide) (by decide) (⟨rfl, rfl, F_18, b_1, F_2, na_b_1, F_20, F_21, F_24, F_25⟩)
  · rintro ⟨c5, c5'⟩
    exact absurd c5 (by decide)
set_option maxRecDepth 65536 in
set_option maxHeartbeats 40000000 in
theorem own_sinit_3 (l : Launch) (Z : State) (a0 : Array Value) (hw : ∀ d ∈ tables_1, d.before a0 Z = true) (s0 : Addr) (a : Addr) (z0 : Int32) (z1 : Int32) (z2 : Int32) (cs : Int32) (h0 : Heap) (n0 : Nat) {D : Addr → Prop} (hn : n0 ≤ h0.size) (P0 : Exa Z h0 s0 "java/lang/String") (P1 : Fld Z h0 s0 "java/lang/String" "value" "[B" .null) (P2 : Fld Z h0 s0 "java/lang/String" "coder" "B" (.int (0 : Int32))) (P3 : Av Z h0 a .char [(.int z0), (.int z1), (.int z2)]) (P4 : Sta Z h0 "java/lang/String" "COMPACT_STRINGS" "Z" (.int cs)) (hz0 : 0 ≤ z0.toInt ∧ z0.toInt ≤ 255) (hz1 : 0 ≤ z1.toInt ∧ z1.toInt ≤ 255) (hz2 : 0 ≤ z2.toInt ∧ z2.toInt ≤ 255) (hcs : ¬ cs = 0) (ne_a_s0 : a ≠ s0) (na_s0 : n0 ≤ s0 ∧ ¬ D s0) :
    ConN l Z (⟨"java/lang/String", "<init>", "([C)V"⟩ : MethodName) jdk_42_method_3_code 2 ({ frames := 3, cells := 1, slots := 3, locals := 61 } : Room) #[(.ref s0), (.ref a)] h0 n0 D (fun h => Keep h0 h [s0] ∧ ∃ (b : Addr), h0.size ≤ b ∧ (n0 ≤ b ∧ ¬ D b) ∧ Fld Z h s0 "java/lang/String" "value" "[B" (.ref b) ∧ Fld Z h s0 "java/lang/String" "coder" "B" (.int (0 : Int32)) ∧ Av Z h b .byte [(.int (own_bt z0)), (.int (own_bt z1)), (.int (own_bt z2))] ∧ Exa Z h b "[B") := by
  refine Con.of (plainFor_of_name (by first | (simp [plainName, overriddenIn]; done) | decide +kernel)) hn ?_
  intro p e s m below meth c T w X
  refine Gl.enter (ls := #[.val (.ref s0), .val (.ref a)]) (by first | (simp [entryFrame, mkF, argsToLocals, Value.category]; done) | rfl) ?_
  have K_0 : Keep h0 h0 [s0] := Keep.refl _ _
  refine gAloadN X w d2_0 rfl rfl (n := 1) rfl ?_
  refine gAloadN X w d2_1 rfl rfl (n := 2) rfl ?_
  refine gIconst X w d2_2 (z := (0 : Int32)) rfl (n := 3) rfl ?_
  refine gAloadN X w d2_3 rfl rfl (n := 4) rfl ?_
  refine gAlen X w P3 (z := (3 : Int32)) rfl d2_4 (n := 5) rfl ?_
  refine gNull X w d2_5 (n := 6) rfl ?_
  refine gCallIn X w [(.ref a), (.int (0 : Int32)), (.int (3 : Int32)), .null] [] rfl (own_sinit4_3 l Z a0 hw s0 a z0 z1 z2 cs h0 n0 (Sd.le X) P0 P1 P2 P3 P4 (by first | assumption | decide | (simp; done) | omega) (by first | assumption | decide | (simp; done) | omega) (by first | assumption | decide | (simp; done) | omega) (by first | assumption | decide | (simp; done) | omega) ne_a_s0 na_s0) (own_wd hw 13 rfl) (own_wd hw 14 rfl) (own_wd hw 8 rfl) (own_wd hw 16 rfl) (by decide) own_pd3 rfl rfl d2_6 rfl (W := 0) (Nat.le_of_eq rfl) (by decide) (by decide) (by decide) (by decide) (n := 9) rfl ?_
  rintro T h_1 ⟨K_1, b_1, g_b_1, na_b_1, Q0_1, Q1_1, Q2_1, Q3_1⟩ X
  have F_2 := Nat.le_trans K_0.1 g_b_1
  have ne_s0_b_1 : s0 ≠ b_1 := neOf P0.lt g_b_1
  have ne_a_b_1 : a ≠ b_1 := neOf P3.lt g_b_1
  have F_3 := K_0.trans K_1 (allS (Or.inl (by simp)) all0)
  have F_4 := P0.keep K_1
  have F_5 := P3.keep K_1 (ninS ne_a_s0 nin0)
  have F_6 := staKeep P4 K_1 (allS (Exa.nostat P0) all0)
  exact gRetV X w rfl d2_9 (by decide) (by decide) (⟨rfl, rfl, F_3, b_1, F_2, na_b_1, Q0_1, Q1_1, Q2_1, Q3_1⟩)
set_option maxRecDepth 65536 in
set_option maxHeartbeats 40000000 in
theorem own_coder (l : Launch) (Z : State) (a0 : Array Value) (hw : ∀ d ∈ tables_1, d.before a0 Z = true) (s0 : Addr) (cs : Int32) (h0 : Heap) (n0 : Nat) {D : Addr → Prop} (hn : n0 ≤ h0.size) (P0 : Fld Z h0 s0 "java/lang/String" "coder" "B" (.int (0 : Int32))) (P1 : Sta Z h0 "java/lang/String" "COMPACT_STRINGS" "Z" (.int cs)) (hcs : ¬ cs = 0) :
    ConV l Z (⟨"java/lang/String", "coder", "()B"⟩ : MethodName) jdk_42_method_152_code 1 (some .byte) ({ frames := 0, cells := 0, slots := 0, locals := 0 } : Room) #[(.ref s0)] h0 n0 D (fun v h => h0 = h ∧ v = (.int (0 : Int32))) := by
  refine Con.of (plainFor_of_name (by first | (simp [plainName, overriddenIn]; done) | decide +kernel)) hn ?_
  intro p e s m below meth c T w X
  refine Gl.enter (ls := #[.val (.ref s0)]) (by first | (simp [entryFrame, mkF, argsToLocals, Value.category]; done) | rfl) ?_
  refine gGetS X w (own_wd hw 20 rfl) Via.refl P1 d12_0 (n := 3) rfl ?_
  intro T X
  refine gIf_eq X w d12_3 (n := 13) (n' := 6) (by decide) rfl rfl ?_ ?_
  · rintro ⟨c3, c3'⟩
    exact absurd c3 hcs
  · rintro ⟨c3, c3'⟩
    refine gAloadN X w d12_6 rfl rfl (n := 7) rfl ?_
    refine gGetF X w (own_wd hw 32 rfl) Via.refl P0 d12_7 (n := 10) rfl ?_
    intro T X
    refine gGoto X w d12_10 (by decide) (n := 14) rfl ?_
    exact gRet X w (t := .byte) rfl (by first | rfl | decide) (Or.inl ⟨rfl, Or.inr (Or.inr (Or.inl rfl)), _, rfl⟩) d12_14 (by decide) (by decide) (⟨rfl, _, rfl, rfl, rfl⟩)
set_option maxRecDepth 65536 in
set_option maxHeartbeats 40000000 in
theorem own_latin1 (l : Launch) (Z : State) (a0 : Array Value) (hw : ∀ d ∈ tables_1, d.before a0 Z = true) (s0 : Addr) (cs : Int32) (h0 : Heap) (n0 : Nat) {D : Addr → Prop} (hn : n0 ≤ h0.size) (P0 : Fld Z h0 s0 "java/lang/String" "coder" "B" (.int (0 : Int32))) (P1 : Sta Z h0 "java/lang/String" "COMPACT_STRINGS" "Z" (.int cs)) (hcs : ¬ cs = 0) :
    ConV l Z (⟨"java/lang/String", "isLatin1", "()Z"⟩ : MethodName) jdk_42_method_154_code 1 (some .boolean) ({ frames := 0, cells := 0, slots := 0, locals := 0 } : Room) #[(.ref s0)] h0 n0 D (fun v h => h0 = h ∧ v = (.int (1 : Int32))) := by
  refine Con.of (plainFor_of_name (by first | (simp [plainName, overriddenIn]; done) | decide +kernel)) hn ?_
  intro p e s m below meth c T w X
  refine Gl.enter (ls := #[.val (.ref s0)]) (by first | (simp [entryFrame, mkF, argsToLocals, Value.category]; done) | rfl) ?_
  refine gGetS X w (own_wd hw 20 rfl) Via.refl P1 d19_0 (n := 3) rfl ?_
  intro T X
  refine gIf_eq X w d19_3 (n := 17) (n' := 6) (by decide) rfl rfl ?_ ?_
  · rintro ⟨c3, c3'⟩
    exact absurd c3 hcs
  · rintro ⟨c3, c3'⟩
    refine gAloadN X w d19_6 rfl rfl (n := 7) rfl ?_
    refine gGetF X w (own_wd hw 32 rfl) Via.refl P0 d19_7 (n := 10) rfl ?_
    intro T X
    refine gIf_ne X w d19_10 (n := 17) (n' := 13) (by decide) rfl rfl ?_ ?_
    · rintro ⟨c10, c10'⟩
      exact absurd c10 (by decide)
    · rintro ⟨c10, c10'⟩
      refine gIconst X w d19_13 (z := (1 : Int32)) rfl (n := 14) rfl ?_
      refine gGoto X w d19_14 (by decide) (n := 18) rfl ?_
      exact gRetZ X w rfl (Or.inr rfl) d19_18 (by decide) (by decide) (⟨rfl, _, rfl, rfl, rfl⟩)
set_option maxRecDepth 65536 in
set_option maxHeartbeats 40000000 in
theorem own_slen (l : Launch) (Z : State) (a0 : Array Value) (hw : ∀ d ∈ tables_1, d.before a0 Z = true) (s0 : Addr) (vb : Addr) (bs : List Value) (cs : Int32) (h0 : Heap) (n0 : Nat) {D : Addr → Prop} (hn : n0 ≤ h0.size) (P0 : Exa Z h0 s0 "java/lang/String") (P1 : Fld Z h0 s0 "java/lang/String" "value" "[B" (.ref vb)) (P2 : Fld Z h0 s0 "java/lang/String" "coder" "B" (.int (0 : Int32))) (P3 : Av Z h0 vb .byte bs) (P4 : Sta Z h0 "java/lang/String" "COMPACT_STRINGS" "Z" (.int cs)) (hcs : ¬ cs = 0) :
    ConV l Z (⟨"java/lang/String", "length", "()I"⟩ : MethodName) jdk_42_method_54_code 1 (some .int) ({ frames := 1, cells := 0, slots := 0, locals := 13 } : Room) #[(.ref s0)] h0 n0 D (fun v h => h0 = h ∧ v = (.int (bs.length.toInt32))) := by
  refine Con.of (plainFor_of_name (by first | (simp [plainName, overriddenIn]; done) | decide +kernel)) hn ?_
  intro p e s m below meth c T w X
  refine Gl.enter (ls := #[.val (.ref s0)]) (by first | (simp [entryFrame, mkF, argsToLocals, Value.category]; done) | rfl) ?_
  refine gAloadN X w d11_0 rfl rfl (n := 1) rfl ?_
  refine gGetF X w (own_wd hw 34 rfl) Via.refl P1 d11_1 (n := 4) rfl ?_
  intro T X
  refine gAlen X w P3 (z := (bs.length.toInt32)) rfl d11_4 (n := 5) rfl ?_
  refine gAloadN X w d11_5 rfl rfl (n := 6) rfl ?_
  refine gCallVv X w [] [(.int (bs.length.toInt32))] P0 (own_coder l Z a0 hw s0 cs h0 n0 (Sd.le X) P2 P4 (by first | assumption | decide | (simp; done) | omega)) (own_wd hw 58 rfl) (own_wd hw 59 rfl) (fun vm0 hS => notFace_of_selects (args := #[]) (mvT (State.Warmed39.trans w.2.2.1 hS.1) (own_wd hw 61 rfl))) (own_wd hw 61 rfl) (own_wd hw 60 rfl) (own_wd hw 8 rfl) (own_wd hw 62 rfl) (by decide) own_pd4 rfl rfl d11_6 rfl (W := 1) (Nat.le_of_eq rfl) (by decide) (by decide) (by decide) (by decide) (n := 9) rfl ?_
  rintro T _ _ ⟨rfl, rfl⟩ X
  refine gIshr X w d11_9 (z := (bs.length.toInt32)) (own_shr0 _) (n := 10) rfl ?_
  exact gRetI X w rfl d11_10 (by decide) (by decide) (⟨rfl, _, rfl, rfl, rfl⟩)
set_option maxRecDepth 65536 in
set_option maxHeartbeats 40000000 in
theorem own_semp (l : Launch) (Z : State) (a0 : Array Value) (hw : ∀ d ∈ tables_1, d.before a0 Z = true) (s0 : Addr) (vb : Addr) (bs : List Value) (h0 : Heap) (n0 : Nat) {D : Addr → Prop} (hn : n0 ≤ h0.size) (P0 : Fld Z h0 s0 "java/lang/String" "value" "[B" (.ref vb)) (P1 : Fld Z h0 s0 "java/lang/String" "coder" "B" (.int (0 : Int32))) (P2 : Av Z h0 vb .byte bs) (hne : ¬ bs.length.toInt32 = 0) :
    ConV l Z (⟨"java/lang/String", "isEmpty", "()Z"⟩ : MethodName) jdk_42_method_55_code 1 (some .boolean) ({ frames := 0, cells := 0, slots := 0, locals := 0 } : Room) #[(.ref s0)] h0 n0 D (fun v h => h0 = h ∧ v = (.int (0 : Int32))) := by
  refine Con.of (plainFor_of_name (by first | (simp [plainName, overriddenIn]; done) | decide +kernel)) hn ?_
  intro p e s m below meth c T w X
  refine Gl.enter (ls := #[.val (.ref s0)]) (by first | (simp [entryFrame, mkF, argsToLocals, Value.category]; done) | rfl) ?_
  refine gAloadN X w d10_0 rfl rfl (n := 1) rfl ?_
  refine gGetF X w (own_wd hw 34 rfl) Via.refl P0 d10_1 (n := 4) rfl ?_
  intro T X
  refine gAlen X w P2 (z := (bs.length.toInt32)) rfl d10_4 (n := 5) rfl ?_
  refine gIf_ne X w d10_5 (n := 12) (n' := 8) (by decide) rfl rfl ?_ ?_
  · rintro ⟨c5, c5'⟩
    refine gIconst X w d10_12 (z := (0 : Int32)) rfl (n := 13) rfl ?_
    exact gRetZ X w rfl (Or.inl rfl) d10_13 (by decide) (by decide) (⟨rfl, _, rfl, rfl, rfl⟩)
  · rintro ⟨c5, c5'⟩
    exact absurd c5 hne
set_option maxRecDepth 65536 in
set_option maxHeartbeats 40000000 in
theorem own_rec (l : Launch) (Z : State) (a0 : Array Value) (hw : ∀ d ∈ tables_1, d.before a0 Z = true) (a : Addr) (h0 : Heap) (n0 : Nat) {D : Addr → Prop} (hn : n0 ≤ h0.size)  :
    ConN l Z (⟨"java/lang/Record", "<init>", "()V"⟩ : MethodName) jdk_30_method_1_code 1 ({ frames := 1, cells := 0, slots := 0, locals := 12 } : Room) #[(.ref a)] h0 n0 D (fun h => h0 = h ∧ True) := by
  refine Con.of (plainFor_of_name (by first | (simp [plainName, overriddenIn]; done) | decide +kernel)) hn ?_
  intro p e s m below meth c T w X
  refine Gl.enter (ls := #[.val (.ref a)]) (by first | (simp [entryFrame, mkF, argsToLocals, Value.category]; done) | rfl) ?_
  refine gAloadN X w d9_0 rfl rfl (n := 1) rfl ?_
  refine gInitO X w (own_wd hw 47 rfl) (own_wd hw 18 rfl) (own_wd hw 19 rfl) d9_1 rfl (by decide) (W := 0) (Nat.le_of_eq rfl) (by decide) (n := 4) rfl ?_
  intro T X
  exact gRetV X w rfl d9_4 (by decide) (by decide) (⟨rfl, rfl, rfl, trivial⟩)
set_option maxRecDepth 65536 in
set_option maxHeartbeats 40000000 in
theorem own_hinit (l : Launch) (Z : State) (a0 : Array Value) (hw : ∀ d ∈ tables_1, d.before a0 Z = true) (a : Addr) (s0 : Addr) (pt : Int32) (vb : Addr) (bs : List Value) (cs : Int32) (h0 : Heap) (n0 : Nat) {D : Addr → Prop} (hn : n0 ≤ h0.size) (P0 : Exa Z h0 a "com/example/tidemark/tidemark/protocol/HostPort") (P1 : Fld Z h0 a "com/example/tidemark/tidemark/protocol/HostPort" "host" "Ljava/lang/String;" .null) (P2 : Fld Z h0 a "com/example/tidemark/tidemark/protocol/HostPort" "port" "I" (.int (0 : Int32))) (P3 : Exa Z h0 s0 "java/lang/String") (P4 : Fld Z h0 s0 "java/lang/String" "value" "[B" (.ref vb)) (P5 : Fld Z h0 s0 "java/lang/String" "coder" "B" (.int (0 : Int32))) (P6 : Av Z h0 vb .byte bs) (P7 : Sta Z h0 "java/lang/String" "COMPACT_STRINGS" "Z" (.int cs)) (hcs : ¬ cs = 0) (hpt : 0 ≤ pt.toInt ∧ pt.toInt ≤ 65535) (hne : ¬ bs.length.toInt32 = 0) (h255 : (bs.length.toInt32).toInt ≤ 255) (ne_s0_a : s0 ≠ a) (ne_vb_a : vb ≠ a) (na_a : n0 ≤ a ∧ ¬ D a) :
    ConN l Z (⟨"com/example/tidemark/tidemark/protocol/HostPort", "<init>", "(Ljava/lang/String;I)V"⟩ : MethodName) prog_6_method_1_code 3 ({ frames := 2, cells := 0, slots := 0, locals := 25 } : Room) #[(.ref a), (.ref s0), (.int pt)] h0 n0 D (fun h => Keep h0 h [a] ∧ Fld Z h a "com/example/tidemark/tidemark/protocol/HostPort" "host" "Ljava/lang/String;" (.ref s0) ∧ Fld Z h a "com/example/tidemark/tidemark/protocol/HostPort" "port" "I" (.int pt)) := by
  refine Con.of (plainFor_of_name (by first | (simp [plainName, overriddenIn]; done) | decide +kernel)) hn ?_
  intro p e s m below meth c T w X
  refine Gl.enter (ls := #[.val (.ref a), .val (.ref s0), .val (.int pt)]) (by first | (simp [entryFrame, mkF, argsToLocals, Value.category]; done) | rfl) ?_
  have K_0 : Keep h0 h0 [a] := Keep.refl _ _
  refine gAloadN X w d8_0 rfl rfl (n := 1) rfl ?_
  refine gCallIn X w [] [] rfl (own_rec l Z a0 hw a h0 n0 (Sd.le X) ) (own_wd hw 42 rfl) (own_wd hw 43 rfl) (own_wd hw 45 rfl) (own_wd hw 46 rfl) (by decide) own_pd5 rfl rfl d8_1 rfl (W := 0) (Nat.le_of_eq rfl) (by decide) (by decide) (by decide) (by decide) (n := 4) rfl ?_
  rintro T _ ⟨rfl, -⟩ X
  refine gAloadN X w d8_4 rfl rfl (n := 5) rfl ?_
  refine gCallVv X w [] [] P3 (own_semp l Z a0 hw s0 vb bs h0 n0 (Sd.le X) P4 P5 P6 (by assumption)) (own_wd hw 48 rfl) (own_wd hw 49 rfl) (fun vm0 hS => notFace_of_selects (args := #[]) (mvT (State.Warmed39.trans w.2.2.1 hS.1) (own_wd hw 51 rfl))) (own_wd hw 51 rfl) (own_wd hw 50 rfl) (own_wd hw 8 rfl) (own_wd hw 52 rfl) (by decide) own_pd6 rfl rfl d8_5 rfl (W := 0) (Nat.le_of_eq rfl) (by decide) (by decide) (by decide) (by decide) (n := 8) rfl ?_
  rintro T _ _ ⟨rfl, rfl⟩ X
  refine gIf_eq X w d8_8 (n := 21) (n' := 11) (by decide) rfl rfl ?_ ?_
  · rintro ⟨c8, c8'⟩
    refine gAloadN X w d8_21 rfl rfl (n := 22) rfl ?_
    refine gCallVv X w [] [] P3 (own_slen l Z a0 hw s0 vb bs cs h0 n0 (Sd.le X) P3 P4 P5 P6 P7 (by first | assumption | decide | (simp; done) | omega)) (own_wd hw 53 rfl) (own_wd hw 54 rfl) (fun vm0 hS => notFace_of_selects (args := #[]) (mvT (State.Warmed39.trans w.2.2.1 hS.1) (own_wd hw 56 rfl))) (own_wd hw 56 rfl) (own_wd hw 55 rfl) (own_wd hw 8 rfl) (own_wd hw 57 rfl) (by decide) own_pd7 rfl rfl d8_22 rfl (W := 0) (Nat.le_of_eq rfl) (by decide) (by decide) (by decide) (by decide) (n := 25) rfl ?_
    rintro T _ _ ⟨rfl, rfl⟩ X
    refine gSipush X w d8_25 (z := (255 : Int32)) (by decide) (n := 28) rfl ?_
    refine gIcmp_le X w d8_28 (n := 41) (n' := 31) (by decide) rfl rfl ?_ ?_
    · intro c28
      refine gIloadN X w d8_41 rfl (n := 42) rfl ?_
      refine gIf_lt X w d8_42 (n := 51) (n' := 45) (by decide) rfl rfl ?_ ?_
      · intro c42
        exact absurd c42 (by omega)
      · intro c42
        refine gIloadN X w d8_45 rfl (n := 46) rfl ?_
        refine gLdc X w (own_wd hw 63 rfl) d8_46 (n := 48) rfl ?_
        refine gIcmp_le X w d8_48 (n := 83) (n' := 51) (by decide) rfl rfl ?_ ?_
        · intro c48
          refine gAloadN X w d8_83 rfl rfl (n := 84) rfl ?_
          refine gAloadN X w d8_84 rfl rfl (n := 85) rfl ?_
          refine gPutF X w (own_wd hw 64 rfl) Via.refl P1 P0 (Or.inr ⟨own_wd hw 65 rfl, rfl, rfl⟩) (own_wd hw 37 rfl) na_a (ty := (.object "java/lang/String")) (by decide) rfl rfl d8_85 (n := 88) rfl ?_
          intro T hp85 X W85
          have F_4 := K_0.wr W85 (Or.inl (by simp))
          have F_5 := P0.wr W85
          have F_6 := P1.same W85
          have F_7 := P2.other W85 (Or.inr (slot_ne (Or.inr (own_wd hw 67 rfl) : Laid Z a0 _ _ _ _) (Or.inr (own_wd hw 65 rfl) : Laid Z a0 _ _ _ _) (by decide) (t := .int) (t' := (.object "java/lang/String")) (by decide) (by decide)))
          have F_8 := P3.wr W85
          have F_9 := P4.other W85 (Or.inl ne_s0_a)
          have F_10 := P5.other W85 (Or.inl ne_s0_a)
          have F_11 := P6.other W85 ne_vb_a
          have F_12 := P7.wr W85
          refine gAloadN X w d8_88 rfl rfl (n := 89) rfl ?_
          refine gIloadN X w d8_89 rfl (n := 90) rfl ?_
          refine gPutF X w (own_wd hw 66 rfl) Via.refl F_7 F_5 (Or.inr ⟨own_wd hw 67 rfl, rfl, rfl⟩) (own_wd hw 37 rfl) na_a (ty := .int) (by decide) rfl rfl d8_90 (n := 93) rfl ?_
          intro T hp90 X W90
          have F_13 := F_4.wr W90 (Or.inl (by simp))
          have F_14 := F_5.wr W90
          have F_15 := F_6.other W90 (Or.inr (slot_ne (Or.inr (own_wd hw 65 rfl) : Laid Z a0 _ _ _ _) (Or.inr (own_wd hw 67 rfl) : Laid Z a0 _ _ _ _) (by decide) (t := (.object "java/lang/String")) (t' := .int) (by decide) (by decide)))
          have F_16 := F_7.same W90
          have F_17 := F_8.wr W90
          have F_18 := F_9.other W90 (Or.inl ne_s0_a)
          have F_19 := F_10.other W90 (Or.inl ne_s0_a)
          have F_20 := F_11.other W90 ne_vb_a
          have F_21 := F_12.wr W90
          exact gRetV X w rfl d8_93 (by decide) (by decide) (⟨rfl, rfl, F_13, F_15, F_16⟩)
        · intro c48
          exact absurd c48 (by have e0 : (65535 : Int32).toInt = 65535 := rfl; omega)
    · intro c28
      exact absurd c28 (by have := own_e255; omega)
  · rintro ⟨c8, c8'⟩
    exact absurd c8 (by decide)
set_option maxRecDepth 65536 in
set_option maxHeartbeats 40000000 in
theorem own_ainit (l : Launch) (Z : State) (a0 : Array Value) (hw : ∀ d ∈ tables_1, d.before a0 Z = true) (a : Addr) (cs : Int32) (h0 : Heap) (n0 : Nat) {D : Addr → Prop} (hn : n0 ≤ h0.size) (P0 : Exa Z h0 a "java/lang/StringBuilder") (P1 : Fld Z h0 a "java/lang/AbstractStringBuilder" "value" "[B" .null) (P2 : Fld Z h0 a "java/lang/AbstractStringBuilder" "coder" "B" (.int (0 : Int32))) (P3 : Fld Z h0 a "java/lang/AbstractStringBuilder" "count" "I" (.int (0 : Int32))) (P4 : Sta Z h0 "java/lang/String" "COMPACT_STRINGS" "Z" (.int cs)) (hcs : ¬ cs = 0) (na_a : n0 ≤ a ∧ ¬ D a) :
    ConN l Z (⟨"java/lang/AbstractStringBuilder", "<init>", "(I)V"⟩ : MethodName) jdk_68_method_2_code 2 ({ frames := 1, cells := 1, slots := 16, locals := 12 } : Room) #[(.ref a), (.int (16 : Int32))] h0 n0 D (fun h => Keep h0 h [a] ∧ ∃ (ub : Addr), h0.size ≤ ub ∧ (n0 ≤ ub ∧ ¬ D ub) ∧ Fld Z h a "java/lang/AbstractStringBuilder" "value" "[B" (.ref ub) ∧ Fld Z h a "java/lang/AbstractStringBuilder" "coder" "B" (.int (0 : Int32)) ∧ Fld Z h a "java/lang/AbstractStringBuilder" "count" "I" (.int (([] : List Value).length.toInt32)) ∧ Av Z h ub .byte (([] : List Value) ++ own_z16)) := by
  refine Con.of (plainFor_of_name (by first | (simp [plainName, overriddenIn]; done) | decide +kernel)) hn ?_
  intro p e s m below meth c T w X
  refine Gl.enter (ls := #[.val (.ref a), .val (.int (16 : Int32))]) (by first | (simp [entryFrame, mkF, argsToLocals, Value.category]; done) | rfl) ?_
  have K_0 : Keep h0 h0 [a] := Keep.refl _ _
  refine gAloadN X w d15_0 rfl rfl (n := 1) rfl ?_
  refine gInitO X w (own_wd hw 85 rfl) (own_wd hw 18 rfl) (own_wd hw 19 rfl) d15_1 rfl (by decide) (W := 0) (Nat.le_of_eq rfl) (by decide) (n := 4) rfl ?_
  intro T X
  refine gGetS X w (own_wd hw 86 rfl) Via.refl P4 d15_4 (n := 7) rfl ?_
  intro T X
  refine gIf_eq X w d15_7 (n := 25) (n' := 10) (by decide) rfl rfl ?_ ?_
  · rintro ⟨c7, c7'⟩
    exact absurd c7 hcs
  · rintro ⟨c7, c7'⟩
    refine gAloadN X w d15_10 rfl rfl (n := 11) rfl ?_
    refine gIloadN X w d15_11 rfl (n := 12) rfl ?_
    refine gNewP X w (own_wd hw 25 rfl) d15_12 (by decide) (cap := 16) (by decide) (by decide) (by decide) (by decide) (vs := [(.int (0 : Int32)), (.int (0 : Int32)), (.int (0 : Int32)), (.int (0 : Int32)), (.int (0 : Int32)), (.int (0 : Int32)), (.int (0 : Int32)), (.int (0 : Int32)), (.int (0 : Int32)), (.int (0 : Int32)), (.int (0 : Int32)), (.int (0 : Int32)), (.int (0 : Int32)), (.int (0 : Int32)), (.int (0 : Int32)), (.int (0 : Int32))]) (ty := .byte) rfl rfl (ad := "[B") (by decide) (n := 14) rfl ?_
    intro T hp12 ad12 ea12 na12 X E12 V12 A12
    have F_1 := Nat.le_trans K_0.1 (Nat.le_of_eq ea12.symm)
    have ne_a_ad12 : a ≠ ad12 := neOf P0.lt (Nat.le_of_eq ea12.symm)
    have F_2 := K_0.ext E12
    have F_3 := P0.ext E12
    have F_4 := P1.ext E12
    have F_5 := P2.ext E12
    have F_6 := P3.ext E12
    have F_7 := P4.ext E12
    refine gPutF X w (own_wd hw 87 rfl) Via.refl F_4 F_3 (Or.inl (own_wd hw 88 rfl)) (own_wd hw 74 rfl) na_a (ty := (.array .byte)) (by decide) rfl rfl d15_14 (n := 17) rfl ?_
    intro T hp14 X W14
    have F_8 := F_2.wr W14 (Or.inl (by simp))
    have F_9 := F_3.wr W14
    have F_10 := F_4.same W14
    have F_11 := F_5.other W14 (Or.inr (slot_ne (Or.inl (own_wd hw 90 rfl) : Laid Z a0 _ _ _ _) (Or.inl (own_wd hw 88 rfl) : Laid Z a0 _ _ _ _) (by decide) (t := .byte) (t' := (.array .byte)) (by decide) (by decide)))
    have F_12 := F_6.other W14 (Or.inr (slot_ne (Or.inl (own_wd hw 137 rfl) : Laid Z a0 _ _ _ _) (Or.inl (own_wd hw 88 rfl) : Laid Z a0 _ _ _ _) (by decide) (t := .int) (t' := (.array .byte)) (by decide) (by decide)))
    have F_13 := F_7.wr W14
    have F_14 := A12.wr W14
    have F_15 := V12.other W14 (Ne.symm ne_a_ad12)
    refine gAloadN X w d15_17 rfl rfl (n := 18) rfl ?_
    refine gIconst X w d15_18 (z := (0 : Int32)) rfl (n := 19) rfl ?_
    refine gPutF X w (own_wd hw 89 rfl) Via.refl F_11 F_9 (Or.inl (own_wd hw 90 rfl)) (own_wd hw 74 rfl) na_a (ty := .byte) (by decide) (by first | rfl | decide) (by first | rfl | decide) d15_19 (n := 22) rfl ?_
    intro T hp19 X W19
    have F_16 := F_8.wr W19 (Or.inl (by simp))
    have F_17 := F_9.wr W19
    have F_18 := F_10.other W19 (Or.inr (slot_ne (Or.inl (own_wd hw 88 rfl) : Laid Z a0 _ _ _ _) (Or.inl (own_wd hw 90 rfl) : Laid Z a0 _ _ _ _) (by decide) (t := (.array .byte)) (t' := .byte) (by decide) (by decide)))
    have F_19 := F_11.same W19
    have F_20 := F_12.other W19 (Or.inr (slot_ne (Or.inl (own_wd hw 137 rfl) : Laid Z a0 _ _ _ _) (Or.inl (own_wd hw 90 rfl) : Laid Z a0 _ _ _ _) (by decide) (t := .int) (t' := .byte) (by decide) (by decide)))
    have F_21 := F_13.wr W19
    have F_22 := F_14.wr W19
    have F_23 := F_15.other W19 (Ne.symm ne_a_ad12)
    refine gGoto X w d15_22 (by decide) (n := 38) rfl ?_
    exact gRetV X w rfl d15_38 (by decide) (by decide) (⟨rfl, rfl, F_16, ad12, F_1, na12, F_18, F_19, F_20, F_23⟩)
set_option maxRecDepth 65536 in
set_option maxHeartbeats 40000000 in
theorem own_binit (l : Launch) (Z : State) (a0 : Array Value) (hw : ∀ d ∈ tables_1, d.before a0 Z = true) (a : Addr) (cs : Int32) (h0 : Heap) (n0 : Nat) {D : Addr → Prop} (hn : n0 ≤ h0.size) (P0 : Exa Z h0 a "java/lang/StringBuilder") (P1 : Fld Z h0 a "java/lang/AbstractStringBuilder" "value" "[B" .null) (P2 : Fld Z h0 a "java/lang/AbstractStringBuilder" "coder" "B" (.int (0 : Int32))) (P3 : Fld Z h0 a "java/lang/AbstractStringBuilder" "count" "I" (.int (0 : Int32))) (P4 : Sta Z h0 "java/lang/String" "COMPACT_STRINGS" "Z" (.int cs)) (hcs : ¬ cs = 0) (na_a : n0 ≤ a ∧ ¬ D a) :
    ConN l Z (⟨"java/lang/StringBuilder", "<init>", "()V"⟩ : MethodName) jdk_67_method_1_code 1 ({ frames := 2, cells := 1, slots := 16, locals := 25 } : Room) #[(.ref a)] h0 n0 D (fun h => Keep h0 h [a] ∧ ∃ (ub : Addr), h0.size ≤ ub ∧ (n0 ≤ ub ∧ ¬ D ub) ∧ Fld Z h a "java/lang/AbstractStringBuilder" "value" "[B" (.ref ub) ∧ Fld Z h a "java/lang/AbstractStringBuilder" "coder" "B" (.int (0 : Int32)) ∧ Fld Z h a "java/lang/AbstractStringBuilder" "count" "I" (.int (([] : List Value).length.toInt32)) ∧ Av Z h ub .byte (([] : List Value) ++ own_z16)) := by
  refine Con.of (plainFor_of_name (by first | (simp [plainName, overriddenIn]; done) | decide +kernel)) hn ?_
  intro p e s m below meth c T w X
  refine Gl.enter (ls := #[.val (.ref a)]) (by first | (simp [entryFrame, mkF, argsToLocals, Value.category]; done) | rfl) ?_
  have K_0 : Keep h0 h0 [a] := Keep.refl _ _
  refine gAloadN X w d14_0 rfl rfl (n := 1) rfl ?_
  refine gBipush X w d14_1 (z := (16 : Int32)) (by decide) (n := 3) rfl ?_
  refine gCallIn X w [(.int (16 : Int32))] [] rfl (own_ainit l Z a0 hw a cs h0 n0 (Sd.le X) P0 P1 P2 P3 P4 (by first | assumption | decide | (simp; done) | omega) na_a) (own_wd hw 79 rfl) (own_wd hw 80 rfl) (own_wd hw 83 rfl) (own_wd hw 84 rfl) (by decide) own_pd8 rfl rfl d14_3 rfl (W := 0) (Nat.le_of_eq rfl) (by decide) (by decide) (by decide) (by decide) (n := 6) rfl ?_
  rintro T h_1 ⟨K_1, ub_1, g_ub_1, na_ub_1, Q0_1, Q1_1, Q2_1, Q3_1⟩ X
  have F_2 := Nat.le_trans K_0.1 g_ub_1
  have ne_a_ub_1 : a ≠ ub_1 := neOf P0.lt g_ub_1
  have F_3 := K_0.trans K_1 (allS (Or.inl (by simp)) all0)
  have F_4 := P0.keep K_1
  have F_5 := staKeep P4 K_1 (allS (Exa.nostat P0) all0)
  exact gRetV X w rfl d14_6 (by decide) (by decide) (⟨rfl, rfl, F_3, ub_1, F_2, na_ub_1, Q0_1, Q1_1, Q2_1, Q3_1⟩)
set_option maxRecDepth 65536 in
set_option maxHeartbeats 40000000 in
theorem own_blat (l : Launch) (Z : State) (a0 : Array Value) (hw : ∀ d ∈ tables_1, d.before a0 Z = true) (a : Addr) (cs : Int32) (h0 : Heap) (n0 : Nat) {D : Addr → Prop} (hn : n0 ≤ h0.size) (P0 : Fld Z h0 a "java/lang/AbstractStringBuilder" "coder" "B" (.int (0 : Int32))) (P1 : Sta Z h0 "java/lang/String" "COMPACT_STRINGS" "Z" (.int cs)) (hcs : ¬ cs = 0) :
    ConV l Z (⟨"java/lang/AbstractStringBuilder", "isLatin1", "()Z"⟩ : MethodName) jdk_68_method_68_code 1 (some .boolean) ({ frames := 0, cells := 0, slots := 0, locals := 0 } : Room) #[(.ref a)] h0 n0 D (fun v h => h0 = h ∧ v = (.int (1 : Int32))) := by
  refine Con.of (plainFor_of_name (by first | (simp [plainName, overriddenIn]; done) | decide +kernel)) hn ?_
  intro p e s m below meth c T w X
  refine Gl.enter (ls := #[.val (.ref a)]) (by first | (simp [entryFrame, mkF, argsToLocals, Value.category]; done) | rfl) ?_
  refine gGetS X w (own_wd hw 86 rfl) Via.refl P1 d31_0 (n := 3) rfl ?_
  intro T X
  refine gIf_eq X w d31_3 (n := 17) (n' := 6) (by decide) rfl rfl ?_ ?_
  · rintro ⟨c3, c3'⟩
    exact absurd c3 hcs
  · rintro ⟨c3, c3'⟩
    refine gAloadN X w d31_6 rfl rfl (n := 7) rfl ?_
    refine gGetF X w (own_wd hw 89 rfl) Via.refl P0 d31_7 (n := 10) rfl ?_
    intro T X
    refine gIf_ne X w d31_10 (n := 17) (n' := 13) (by decide) rfl rfl ?_ ?_
    · rintro ⟨c10, c10'⟩
      exact absurd c10 (by decide)
    · rintro ⟨c10, c10'⟩
      refine gIconst X w d31_13 (z := (1 : Int32)) rfl (n := 14) rfl ?_
      refine gGoto X w d31_14 (by decide) (n := 18) rfl ?_
      exact gRetZ X w rfl (Or.inr rfl) d31_18 (by decide) (by decide) (⟨rfl, _, rfl, rfl, rfl⟩)
set_option maxRecDepth 65536 in
set_option maxHeartbeats 40000000 in
theorem own_bval (l : Launch) (Z : State) (a0 : Array Value) (hw : ∀ d ∈ tables_1, d.before a0 Z = true) (a : Addr) (ub : Addr) (h0 : Heap) (n0 : Nat) {D : Addr → Prop} (hn : n0 ≤ h0.size) (P0 : Fld Z h0 a "java/lang/AbstractStringBuilder" "value" "[B" (.ref ub)) :
    ConV l Z (⟨"java/lang/AbstractStringBuilder", "getValue", "()[B"⟩ : MethodName) jdk_68_method_64_code 1 (some (.array .byte)) ({ frames := 0, cells := 0, slots := 0, locals := 0 } : Room) #[(.ref a)] h0 n0 D (fun v h => h0 = h ∧ v = (.ref ub)) := by
  refine Con.of (plainFor_of_name (by first | (simp [plainName, overriddenIn]; done) | decide +kernel)) hn ?_
  intro p e s m below meth c T w X
  refine Gl.enter (ls := #[.val (.ref a)]) (by first | (simp [entryFrame, mkF, argsToLocals, Value.category]; done) | rfl) ?_
  refine gAloadN X w d36_0 rfl rfl (n := 1) rfl ?_
  refine gGetF X w (own_wd hw 87 rfl) Via.refl P0 d36_1 (n := 4) rfl ?_
  intro T X
  exact gRetA X w rfl rfl rfl d36_4 (by decide) (by decide) (⟨rfl, _, rfl, rfl, rfl⟩)
set_option maxRecDepth 65536 in
set_option maxHeartbeats 40000000 in
theorem own_blen0 (l : Launch) (Z : State) (a0 : Array Value) (hw : ∀ d ∈ tables_1, d.before a0 Z = true) (a : Addr) (k : Int32) (h0 : Heap) (n0 : Nat) {D : Addr → Prop} (hn : n0 ≤ h0.size) (P0 : Exa Z h0 a "java/lang/StringBuilder") (P1 : Fld Z h0 a "java/lang/AbstractStringBuilder" "count" "I" (.int k)) :
    ConV l Z (⟨"java/lang/AbstractStringBuilder", "length", "()I"⟩ : MethodName) jdk_68_method_6_code 1 (some .int) ({ frames := 0, cells := 0, slots := 0, locals := 0 } : Room) #[(.ref a)] h0 n0 D (fun v h => h0 = h ∧ v = (.int k)) := by
  refine Con.of (plainFor_of_name (by first | (simp [plainName, overriddenIn]; done) | decide +kernel)) hn ?_
  intro p e s m below meth c T w X
  refine Gl.enter (ls := #[.val (.ref a)]) (by first | (simp [entryFrame, mkF, argsToLocals, Value.category]; done) | rfl) ?_
  refine gAloadN X w d38_0 rfl rfl (n := 1) rfl ?_
  refine gGetF X w (own_wd hw 136 rfl) Via.refl P1 d38_1 (n := 4) rfl ?_
  intro T X
  exact gRetI X w rfl d38_4 (by decide) (by decide) (⟨rfl, _, rfl, rfl, rfl⟩)
set_option maxRecDepth 65536 in
set_option maxHeartbeats 40000000 in
theorem own_blen (l : Launch) (Z : State) (a0 : Array Value) (hw : ∀ d ∈ tables_1, d.before a0 Z = true) (a : Addr) (k : Int32) (h0 : Heap) (n0 : Nat) {D : Addr → Prop} (hn : n0 ≤ h0.size) (P0 : Exa Z h0 a "java/lang/StringBuilder") (P1 : Fld Z h0 a "java/lang/AbstractStringBuilder" "count" "I" (.int k)) :
    ConV l Z (⟨"java/lang/StringBuilder", "length", "()I"⟩ : MethodName) jdk_67_method_93_code 1 (some .int) ({ frames := 1, cells := 0, slots := 0, locals := 12 } : Room) #[(.ref a)] h0 n0 D (fun v h => h0 = h ∧ v = (.int k)) := by
  refine Con.of (plainFor_of_name (by first | (simp [plainName, overriddenIn]; done) | decide +kernel)) hn ?_
  intro p e s m below meth c T w X
  refine Gl.enter (ls := #[.val (.ref a)]) (by first | (simp [entryFrame, mkF, argsToLocals, Value.category]; done) | rfl) ?_
  refine gAloadN X w d37_0 rfl rfl (n := 1) rfl ?_
  refine gCallUv X w [] [] (Ins.self P0) (own_blen0 l Z a0 hw a k h0 n0 (Sd.le X) P0 P1) (own_wd hw 208 rfl) (sameOf (own_wd hw 204 rfl) (own_wd hw 141 rfl) rfl (by decide)) (own_wd hw 204 rfl) (own_wd hw 132 rfl) (by decide) (own_wd hw 83 rfl) (own_wd hw 209 rfl) own_pd7 rfl rfl d37_1 rfl (W := 0) (Nat.le_of_eq rfl) (by decide) (by decide) (by decide) (by decide) (n := 4) rfl ?_
  rintro T _ _ ⟨rfl, rfl⟩ X
  exact gRetI X w rfl d37_4 (by decide) (by decide) (⟨rfl, _, rfl, rfl, rfl⟩)
set_option maxRecDepth 65536 in
set_option maxHeartbeats 40000000 in
theorem own_ens (l : Launch) (Z : State) (a0 : Array Value) (hw : ∀ d ∈ tables_1, d.before a0 Z = true) (a : Addr) (ub : Addr) (mc : Int32) (ct : List Value) (rs : List Value) (h0 : Heap) (n0 : Nat) {D : Addr → Prop} (hn : n0 ≤ h0.size) (P0 : Fld Z h0 a "java/lang/AbstractStringBuilder" "value" "[B" (.ref ub)) (P1 : Fld Z h0 a "java/lang/AbstractStringBuilder" "coder" "B" (.int (0 : Int32))) (P2 : Av Z h0 ub .byte (ct ++ rs)) (hlen : ct.length + rs.length = 16) (hmc : 0 ≤ mc.toInt ∧ mc.toInt ≤ 16) :
    ConN l Z (⟨"java/lang/AbstractStringBuilder", "ensureCapacityInternal", "(I)V"⟩ : MethodName) jdk_68_method_9_code 3 ({ frames := 0, cells := 0, slots := 0, locals := 0 } : Room) #[(.ref a), (.int mc)] h0 n0 D (fun h => h0 = h ∧ True) := by
  refine Con.of (plainFor_of_name (by first | (simp [plainName, overriddenIn]; done) | decide +kernel)) hn ?_
  intro p e s m below meth c T w X
  refine Gl.enter (ls := #[.val (.ref a), .val (.int mc), .unset]) (by first | (simp [entryFrame, mkF, argsToLocals, Value.category]; done) | rfl) ?_
  refine gAloadN X w d24_0 rfl rfl (n := 1) rfl ?_
  refine gGetF X w (own_wd hw 87 rfl) Via.refl P0 d24_1 (n := 4) rfl ?_
  intro T X
  refine gAlen X w P2 (z := (16 : Int32)) (by rw [List.length_append, hlen]; rfl) d24_4 (n := 5) rfl ?_
  refine gAloadN X w d24_5 rfl rfl (n := 6) rfl ?_
  refine gGetF X w (own_wd hw 89 rfl) Via.refl P1 d24_6 (n := 9) rfl ?_
  intro T X
  refine gIshr X w d24_9 (z := (16 : Int32)) (by decide) (n := 10) rfl ?_
  refine gIstoreN X w d24_10 #[.val (.ref a), .val (.int mc), .val (.int (16 : Int32))] rfl (n := 11) rfl ?_
  refine gIloadN X w d24_11 rfl (n := 12) rfl ?_
  refine gIloadN X w d24_12 rfl (n := 13) rfl ?_
  obtain ⟨x13, q13⟩ : ∃ zz_ : Int32, mc - (16 : Int32) = zz_ := ⟨_, rfl⟩
  refine gIsub X w d24_13 q13 (n := 14) rfl ?_
  have e16 : (16 : Int32).toInt = 16 := rfl
  have n13 : x13.toInt = mc.toInt - 16 := by rw [← q13, isub_toInt (by omega) (by omega), e16]
  refine gIf_le X w d24_14 (n := 38) (n' := 17) (by decide) rfl rfl ?_ ?_
  · intro c14
    exact gRetV X w rfl d24_38 (by decide) (by decide) (⟨rfl, rfl, rfl, trivial⟩)
  · intro c14
    exact absurd c14 (by omega)
set_option maxRecDepth 65536 in
set_option maxHeartbeats 40000000 in
theorem own_infl (l : Launch) (Z : State) (a0 : Array Value) (hw : ∀ d ∈ tables_1, d.before a0 Z = true) (a : Addr) (s0 : Addr) (cs : Int32) (h0 : Heap) (n0 : Nat) {D : Addr → Prop} (hn : n0 ≤ h0.size) (P0 : Exa Z h0 s0 "java/lang/String") (P1 : Fld Z h0 a "java/lang/AbstractStringBuilder" "coder" "B" (.int (0 : Int32))) (P2 : Fld Z h0 s0 "java/lang/String" "coder" "B" (.int (0 : Int32))) (P3 : Sta Z h0 "java/lang/String" "COMPACT_STRINGS" "Z" (.int cs)) (hcs : ¬ cs = 0) :
    ConN l Z (⟨"java/lang/AbstractStringBuilder", "inflateIfNeededFor", "(Ljava/lang/String;)V"⟩ : MethodName) jdk_68_method_71_code 2 ({ frames := 1, cells := 0, slots := 0, locals := 13 } : Room) #[(.ref a), (.ref s0)] h0 n0 D (fun h => h0 = h ∧ True) := by
  refine Con.of (plainFor_of_name (by first | (simp [plainName, overriddenIn]; done) | decide +kernel)) hn ?_
  intro p e s m below meth c T w X
  refine Gl.enter (ls := #[.val (.ref a), .val (.ref s0)]) (by first | (simp [entryFrame, mkF, argsToLocals, Value.category]; done) | rfl) ?_
  refine gGetS X w (own_wd hw 86 rfl) Via.refl P3 d26_0 (n := 3) rfl ?_
  intro T X
  refine gIf_eq X w d26_3 (n := 21) (n' := 6) (by decide) rfl rfl ?_ ?_
  · rintro ⟨c3, c3'⟩
    exact absurd c3 hcs
  · rintro ⟨c3, c3'⟩
    refine gAloadN X w d26_6 rfl rfl (n := 7) rfl ?_
    refine gGetF X w (own_wd hw 89 rfl) Via.refl P1 d26_7 (n := 10) rfl ?_
    intro T X
    refine gAloadN X w d26_10 rfl rfl (n := 11) rfl ?_
    refine gCallVv X w [] [(.int (0 : Int32))] P0 (own_coder l Z a0 hw s0 cs h0 n0 (Sd.le X) P2 P3 (by first | assumption | decide | (simp; done) | omega)) (own_wd hw 153 rfl) (own_wd hw 59 rfl) (fun vm0 hS => notFace_of_selects (args := #[]) (mvT (State.Warmed39.trans w.2.2.1 hS.1) (own_wd hw 61 rfl))) (own_wd hw 61 rfl) (own_wd hw 60 rfl) (own_wd hw 8 rfl) (own_wd hw 62 rfl) (by decide) own_pd4 rfl rfl d26_11 rfl (W := 1) (Nat.le_of_eq rfl) (by decide) (by decide) (by decide) (by decide) (n := 14) rfl ?_
    rintro T _ _ ⟨rfl, rfl⟩ X
    refine gIcmp_eq X w d26_14 (n := 21) (n' := 17) (by decide) rfl rfl ?_ ?_
    · rintro ⟨c14, c14'⟩
      exact gRetV X w rfl d26_21 (by decide) (by decide) (⟨rfl, rfl, rfl, trivial⟩)
    · rintro ⟨c14, c14'⟩
      exact absurd c14 (by decide)
set_option maxRecDepth 65536 in
set_option maxHeartbeats 40000000 in
theorem own_sts (l : Launch) (Z : State) (a0 : Array Value) (hw : ∀ d ∈ tables_1, d.before a0 Z = true) (s0 : Addr) (h0 : Heap) (n0 : Nat) {D : Addr → Prop} (hn : n0 ≤ h0.size)  :
    ConV l Z (⟨"java/lang/String", "toString", "()Ljava/lang/String;"⟩ : MethodName) jdk_42_method_126_code 1 (some (.object "java/lang/String")) ({ frames := 0, cells := 0, slots := 0, locals := 0 } : Room) #[(.ref s0)] h0 n0 D (fun v h => h0 = h ∧ v = (.ref s0)) := by
  refine Con.of (plainFor_of_name (by first | (simp [plainName, overriddenIn]; done) | decide +kernel)) hn ?_
  intro p e s m below meth c T w X
  refine Gl.enter (ls := #[.val (.ref s0)]) (by first | (simp [entryFrame, mkF, argsToLocals, Value.category]; done) | rfl) ?_
  refine gAloadN X w d17_0 rfl rfl (n := 1) rfl ?_
  exact gRetA X w rfl rfl rfl d17_1 (by decide) (by decide) (⟨rfl, _, rfl, rfl, rfl⟩)
set_option maxRecDepth 65536 in
set_option maxHeartbeats 40000000 in
theorem own_gb (l : Launch) (Z : State) (a0 : Array Value) (hw : ∀ d ∈ tables_1, d.before a0 Z = true) (s0 : Addr) (vb : Addr) (ub : Addr) (bs : List Value) (ct : List Value) (rs : List Value) (cs : Int32) (h0 : Heap) (n0 : Nat) {D : Addr → Prop} (hn : n0 ≤ h0.size) (P0 : Exa Z h0 s0 "java/lang/String") (P1 : Fld Z h0 s0 "java/lang/String" "value" "[B" (.ref vb)) (P2 : Fld Z h0 s0 "java/lang/String" "coder" "B" (.int (0 : Int32))) (P3 : Av Z h0 vb .byte bs) (P4 : Av Z h0 ub .byte (ct ++ rs)) (P5 : Sta Z h0 "java/lang/String" "COMPACT_STRINGS" "Z" (.int cs)) (hcs : ¬ cs = 0) (hlen : ct.length + rs.length = 16) (hfu : ∀ v ∈ ct ++ rs, fits .byte v = true) (hfy : ∀ v ∈ bs, fits .byte v = true) (hroom : ct.length + bs.length ≤ 16) (ne_vb_ub : vb ≠ ub) (ne_s0_ub : s0 ≠ ub) (na_ub : n0 ≤ ub ∧ ¬ D ub) :
    ConN l Z (⟨"java/lang/String", "getBytes", "([BIB)V"⟩ : MethodName) jdk_42_method_147_code 4 ({ frames := 1, cells := 0, slots := 0, locals := 40 } : Room) #[(.ref s0), (.ref ub), (.int (ct.length.toInt32)), (.int (0 : Int32))] h0 n0 D (fun h => Keep h0 h [ub] ∧ ∃ (rs2 : List Value), Av Z h ub .byte ((ct ++ bs) ++ rs2) ∧ ((ct ++ bs).length + rs2.length = 16) ∧ (∀ v ∈ (ct ++ bs) ++ rs2, fits .byte v = true)) := by
  refine Con.of (plainFor_of_name (by first | (simp [plainName, overriddenIn]; done) | decide +kernel)) hn ?_
  intro p e s m below meth c T w X
  refine Gl.enter (ls := #[.val (.ref s0), .val (.ref ub), .val (.int (ct.length.toInt32)), .val (.int (0 : Int32))]) (by first | (simp [entryFrame, mkF, argsToLocals, Value.category]; done) | rfl) ?_
  have K_0 : Keep h0 h0 [ub] := Keep.refl _ _
  refine gAloadN X w d27_0 rfl rfl (n := 1) rfl ?_
  refine gCallVv X w [] [] P0 (own_coder l Z a0 hw s0 cs h0 n0 (Sd.le X) P2 P5 (by first | assumption | decide | (simp; done) | omega)) (own_wd hw 58 rfl) (own_wd hw 59 rfl) (fun vm0 hS => notFace_of_selects (args := #[]) (mvT (State.Warmed39.trans w.2.2.1 hS.1) (own_wd hw 61 rfl))) (own_wd hw 61 rfl) (own_wd hw 60 rfl) (own_wd hw 8 rfl) (own_wd hw 62 rfl) (by decide) own_pd4 rfl rfl d27_1 rfl (W := 0) (Nat.le_of_eq rfl) (by decide) (by decide) (by decide) (by decide) (n := 4) rfl ?_
  rintro T _ _ ⟨rfl, rfl⟩ X
  refine gIloadN X w d27_4 rfl (n := 5) rfl ?_
  refine gIcmp_ne X w d27_5 (n := 28) (n' := 8) (by decide) rfl rfl ?_ ?_
  · rintro ⟨c5, c5'⟩
    exact absurd c5 (by decide)
  · rintro ⟨c5, c5'⟩
    refine gAloadN X w d27_8 rfl rfl (n := 9) rfl ?_
    refine gGetF X w (own_wd hw 34 rfl) Via.refl P1 d27_9 (n := 12) rfl ?_
    intro T X
    refine gIconst X w d27_12 (z := (0 : Int32)) rfl (n := 13) rfl ?_
    refine gAloadN X w d27_13 rfl rfl (n := 14) rfl ?_
    refine gIloadN X w d27_14 rfl (n := 15) rfl ?_
    refine gIloadN X w d27_15 rfl (n := 16) rfl ?_
    refine gIshl X w d27_16 (z := (ct.length.toInt32)) (own_shl0 _) (n := 17) rfl ?_
    refine gAloadN X w d27_17 rfl rfl (n := 18) rfl ?_
    refine gGetF X w (own_wd hw 34 rfl) Via.refl P1 d27_18 (n := 21) rfl ?_
    intro T X
    refine gAlen X w P3 (z := (bs.length.toInt32)) rfl d27_21 (n := 22) rfl ?_
    refine gAcopy X w (.int 0) P3 P4 rfl hfy hfu (by omega) (by rw [List.length_append]; omega) (own_wd hw 159 rfl) (own_wd hw 162 rfl) (own_wd hw 160 rfl) (own_wd hw 161 rfl) (by decide) (by rw [len_toInt (by omega)]; omega) (by rw [len_toInt (by omega)]; omega) (by rw [len_toInt (by omega)]; show (0 : Int) + _ ≤ _; omega) (by rw [len_toInt (by omega), len_toInt (by omega), List.length_append]; omega) (vs' := ((ct ++ bs) ++ rs.drop bs.length)) (own_cp1 hlen hroom) na_ub d27_22 rfl (by decide) (W := 0) (Nat.le_of_eq rfl) (by decide) (n := 25) rfl ?_
    intro T h_2 X K_2 V_2
    have F_3 := K_0.trans K_2 (allS (Or.inl (by simp)) all0)
    have F_4 := P0.keep K_2
    have F_5 := P1.keep K_2 (ninS ne_s0_ub nin0)
    have F_6 := P2.keep K_2 (ninS ne_s0_ub nin0)
    have F_7 := P3.keep K_2 (ninS ne_vb_ub nin0)
    have F_8 := staKeep P5 K_2 (allS (Av.nostat P4) all0)
    refine gGoto X w d27_25 (by decide) (n := 43) rfl ?_
    exact gRetV X w rfl d27_43 (by decide) (by decide) (⟨rfl, rfl, F_3, (rs.drop bs.length), V_2, (by rw [List.length_append, List.length_drop]; omega), (own_fitapp hfu hfy)⟩)
set_option maxRecDepth 65536 in
set_option maxHeartbeats 40000000 in
theorem own_put (l : Launch) (Z : State) (a0 : Array Value) (hw : ∀ d ∈ tables_1, d.before a0 Z = true) (a : Addr) (s0 : Addr) (vb : Addr) (ub : Addr) (bs : List Value) (ct : List Value) (rs : List Value) (cs : Int32) (h0 : Heap) (n0 : Nat) {D : Addr → Prop} (hn : n0 ≤ h0.size) (P0 : Exa Z h0 a "java/lang/StringBuilder") (P1 : Fld Z h0 a "java/lang/AbstractStringBuilder" "value" "[B" (.ref ub)) (P2 : Fld Z h0 a "java/lang/AbstractStringBuilder" "coder" "B" (.int (0 : Int32))) (P3 : Fld Z h0 a "java/lang/AbstractStringBuilder" "count" "I" (.int (ct.length.toInt32))) (P4 : Av Z h0 ub .byte (ct ++ rs)) (P5 : Exa Z h0 s0 "java/lang/String") (P6 : Fld Z h0 s0 "java/lang/String" "value" "[B" (.ref vb)) (P7 : Fld Z h0 s0 "java/lang/String" "coder" "B" (.int (0 : Int32))) (P8 : Av Z h0 vb .byte bs) (P9 : Sta Z h0 "java/lang/String" "COMPACT_STRINGS" "Z" (.int cs)) (hcs : ¬ cs = 0) (hlen : ct.length + rs.length = 16) (hfu : ∀ v ∈ ct ++ rs, fits .byte v = true) (hfy : ∀ v ∈ bs, fits .byte v = true) (hroom : ct.length + bs.length ≤ 16) (ne_vb_ub : vb ≠ ub) (ne_s0_ub : s0 ≠ ub) (ne_a_ub : a ≠ ub) (ne_s0_a : s0 ≠ a) (ne_vb_a : vb ≠ a) (na_ub : n0 ≤ ub ∧ ¬ D ub) :
    ConN l Z (⟨"java/lang/AbstractStringBuilder", "putStringAt", "(ILjava/lang/String;)V"⟩ : MethodName) jdk_68_method_73_code 3 ({ frames := 2, cells := 0, slots := 0, locals := 55 } : Room) #[(.ref a), (.int (ct.length.toInt32)), (.ref s0)] h0 n0 D (fun h => Keep h0 h [ub] ∧ ∃ (rs2 : List Value), Av Z h ub .byte ((ct ++ bs) ++ rs2) ∧ ((ct ++ bs).length + rs2.length = 16) ∧ (∀ v ∈ (ct ++ bs) ++ rs2, fits .byte v = true)) := by
  refine Con.of (plainFor_of_name (by first | (simp [plainName, overriddenIn]; done) | decide +kernel)) hn ?_
  intro p e s m below meth c T w X
  refine Gl.enter (ls := #[.val (.ref a), .val (.int (ct.length.toInt32)), .val (.ref s0)]) (by first | (simp [entryFrame, mkF, argsToLocals, Value.category]; done) | rfl) ?_
  have K_0 : Keep h0 h0 [ub] := Keep.refl _ _
  refine gAloadN X w d25_0 rfl rfl (n := 1) rfl ?_
  refine gAloadN X w d25_1 rfl rfl (n := 2) rfl ?_
  refine gCallVn X w [(.ref s0)] [] P0 (own_infl l Z a0 hw a s0 cs h0 n0 (Sd.le X) P5 P2 P7 P9 (by first | assumption | decide | (simp; done) | omega)) (own_wd hw 148 rfl) (declOf (own_wd hw 149 rfl) (own_wd hw 152 rfl)) (fun vm0 hS => notFace_of_selects (args := #[]) (mvT (State.Warmed39.trans w.2.2.1 hS.1) (own_wd hw 151 rfl))) (own_wd hw 151 rfl) (own_wd hw 149 rfl) (own_wd hw 83 rfl) (own_wd hw 152 rfl) (by decide) own_pd9 rfl rfl d25_2 rfl (W := 0) (Nat.le_of_eq rfl) (by decide) (by decide) (by decide) (by decide) (n := 5) rfl ?_
  rintro T _ ⟨rfl, -⟩ X
  refine gAloadN X w d25_5 rfl rfl (n := 6) rfl ?_
  refine gAloadN X w d25_6 rfl rfl (n := 7) rfl ?_
  refine gGetF X w (own_wd hw 87 rfl) Via.refl P1 d25_7 (n := 10) rfl ?_
  intro T X
  refine gIloadN X w d25_10 rfl (n := 11) rfl ?_
  refine gAloadN X w d25_11 rfl rfl (n := 12) rfl ?_
  refine gGetF X w (own_wd hw 89 rfl) Via.refl P2 d25_12 (n := 15) rfl ?_
  intro T X
  refine gCallVn X w [(.ref ub), (.int (ct.length.toInt32)), (.int (0 : Int32))] [] P5 (own_gb l Z a0 hw s0 vb ub bs ct rs cs h0 n0 (Sd.le X) P5 P6 P7 P8 P4 P9 (by first | assumption | decide | (simp; done) | omega) (by first | assumption | decide) (by first | assumption | decide) hfy (by first | assumption | (simp only [List.length_append, List.length_cons, List.length_nil]; omega)) ne_vb_ub ne_s0_ub na_ub) (own_wd hw 154 rfl) (own_wd hw 155 rfl) (fun vm0 hS => notFace_of_selects (args := #[]) (mvT (State.Warmed39.trans w.2.2.1 hS.1) (own_wd hw 157 rfl))) (own_wd hw 157 rfl) (own_wd hw 156 rfl) (own_wd hw 8 rfl) (own_wd hw 158 rfl) (by decide) own_pd10 rfl rfl d25_15 rfl (W := 0) (Nat.le_of_eq rfl) (by decide) (by decide) (by decide) (by decide) (n := 18) rfl ?_
  rintro T h_2 ⟨K_2, rs2_2, Q0_2, hlen_2, hfu_2⟩ X
  have F_3 := K_0.trans K_2 (allS (Or.inl (by simp)) all0)
  have F_4 := P0.keep K_2
  have F_5 := P1.keep K_2 (ninS ne_a_ub nin0)
  have F_6 := P2.keep K_2 (ninS ne_a_ub nin0)
  have F_7 := P3.keep K_2 (ninS ne_a_ub nin0)
  have F_8 := P5.keep K_2
  have F_9 := P6.keep K_2 (ninS ne_s0_ub nin0)
  have F_10 := P7.keep K_2 (ninS ne_s0_ub nin0)
  have F_11 := P8.keep K_2 (ninS ne_vb_ub nin0)
  have F_12 := staKeep P9 K_2 (allS (Av.nostat P4) all0)
  exact gRetV X w rfl d25_18 (by decide) (by decide) (⟨rfl, rfl, F_3, rs2_2, Q0_2, hlen_2, hfu_2⟩)
set_option maxRecDepth 65536 in
set_option maxHeartbeats 40000000 in
theorem own_aps (l : Launch) (Z : State) (a0 : Array Value) (hw : ∀ d ∈ tables_1, d.before a0 Z = true) (a : Addr) (s0 : Addr) (vb : Addr) (ub : Addr) (bs : List Value) (ct : List Value) (rs : List Value) (cs : Int32) (h0 : Heap) (n0 : Nat) {D : Addr → Prop} (hn : n0 ≤ h0.size) (P0 : Exa Z h0 a "java/lang/StringBuilder") (P1 : Fld Z h0 a "java/lang/AbstractStringBuilder" "value" "[B" (.ref ub)) (P2 : Fld Z h0 a "java/lang/AbstractStringBuilder" "coder" "B" (.int (0 : Int32))) (P3 : Fld Z h0 a "java/lang/AbstractStringBuilder" "count" "I" (.int (ct.length.toInt32))) (P4 : Av Z h0 ub .byte (ct ++ rs)) (P5 : Exa Z h0 s0 "java/lang/String") (P6 : Fld Z h0 s0 "java/lang/String" "value" "[B" (.ref vb)) (P7 : Fld Z h0 s0 "java/lang/String" "coder" "B" (.int (0 : Int32))) (P8 : Av Z h0 vb .byte bs) (P9 : Sta Z h0 "java/lang/String" "COMPACT_STRINGS" "Z" (.int cs)) (hcs : ¬ cs = 0) (hlen : ct.length + rs.length = 16) (hfu : ∀ v ∈ ct ++ rs, fits .byte v = true) (hfy : ∀ v ∈ bs, fits .byte v = true) (hroom : ct.length + bs.length ≤ 16) (ne_vb_ub : vb ≠ ub) (ne_s0_ub : s0 ≠ ub) (ne_a_ub : a ≠ ub) (ne_s0_a : s0 ≠ a) (ne_vb_a : vb ≠ a) (na_ub : n0 ≤ ub ∧ ¬ D ub) (na_a : n0 ≤ a ∧ ¬ D a) :
    ConV l Z (⟨"java/lang/AbstractStringBuilder", "append", "(Ljava/lang/String;)Ljava/lang/AbstractStringBuilder;"⟩ : MethodName) jdk_68_method_22_code 3 (some (.object "java/lang/AbstractStringBuilder")) ({ frames := 3, cells := 0, slots := 0, locals := 69 } : Room) #[(.ref a), (.ref s0)] h0 n0 D (fun v h => Keep h0 h [ub, a] ∧ ∃ (rs2 : List Value), v = (.ref a) ∧ Av Z h ub .byte ((ct ++ bs) ++ rs2) ∧ Fld Z h a "java/lang/AbstractStringBuilder" "value" "[B" (.ref ub) ∧ Fld Z h a "java/lang/AbstractStringBuilder" "coder" "B" (.int (0 : Int32)) ∧ Fld Z h a "java/lang/AbstractStringBuilder" "count" "I" (.int ((ct ++ bs).length.toInt32)) ∧ ((ct ++ bs).length + rs2.length = 16) ∧ (∀ v ∈ (ct ++ bs) ++ rs2, fits .byte v = true)) := by
  refine Con.of (plainFor_of_name (by first | (simp [plainName, overriddenIn]; done) | decide +kernel)) hn ?_
  intro p e s m below meth c T w X
  refine Gl.enter (ls := #[.val (.ref a), .val (.ref s0), .unset]) (by first | (simp [entryFrame, mkF, argsToLocals, Value.category]; done) | rfl) ?_
  have K_0 : Keep h0 h0 [ub, a] := Keep.refl _ _
  refine gAloadN X w d23_0 rfl rfl (n := 1) rfl ?_
  refine gIfnonnullY X w d23_1 (by decide) (n := 9) rfl ?_
  refine gAloadN X w d23_9 rfl rfl (n := 10) rfl ?_
  refine gCallVv X w [] [] P5 (own_slen l Z a0 hw s0 vb bs cs h0 n0 (Sd.le X) P5 P6 P7 P8 P9 (by first | assumption | decide | (simp; done) | omega)) (own_wd hw 135 rfl) (own_wd hw 54 rfl) (fun vm0 hS => notFace_of_selects (args := #[]) (mvT (State.Warmed39.trans w.2.2.1 hS.1) (own_wd hw 56 rfl))) (own_wd hw 56 rfl) (own_wd hw 55 rfl) (own_wd hw 8 rfl) (own_wd hw 57 rfl) (by decide) own_pd7 rfl rfl d23_10 rfl (W := 0) (Nat.le_of_eq rfl) (by decide) (by decide) (by decide) (by decide) (n := 13) rfl ?_
  rintro T _ _ ⟨rfl, rfl⟩ X
  refine gIstoreN X w d23_13 #[.val (.ref a), .val (.ref s0), .val (.int (bs.length.toInt32))] rfl (n := 14) rfl ?_
  refine gAloadN X w d23_14 rfl rfl (n := 15) rfl ?_
  refine gAloadN X w d23_15 rfl rfl (n := 16) rfl ?_
  refine gGetF X w (own_wd hw 136 rfl) Via.refl P3 d23_16 (n := 19) rfl ?_
  intro T X
  refine gIloadN X w d23_19 rfl (n := 20) rfl ?_
  obtain ⟨x20, q20⟩ : ∃ zz_ : Int32, (ct.length.toInt32) + (bs.length.toInt32) = zz_ := ⟨_, rfl⟩
  have n20 : x20.toInt = ct.length + bs.length := by rw [← q20, iadd_toInt (by rw [len_toInt (by omega), len_toInt (by omega)]; omega) (by rw [len_toInt (by omega), len_toInt (by omega)]; omega), len_toInt (by omega), len_toInt (by omega)]
  refine gIadd X w d23_20 q20 (n := 21) rfl ?_
  refine gCallVn X w [(.int x20)] [] P0 (own_ens l Z a0 hw a ub x20 ct rs h0 n0 (Sd.le X) P1 P2 P4 (by first | assumption | decide | (simp; done) | omega) (by first | assumption | decide | (simp; done) | omega)) (own_wd hw 138 rfl) (declOf (own_wd hw 139 rfl) (own_wd hw 142 rfl)) (fun vm0 hS => notFace_of_selects (args := #[]) (mvT (State.Warmed39.trans w.2.2.1 hS.1) (own_wd hw 141 rfl))) (own_wd hw 141 rfl) (own_wd hw 139 rfl) (own_wd hw 83 rfl) (own_wd hw 142 rfl) (by decide) own_pd8 rfl rfl d23_21 rfl (W := 0) (Nat.le_of_eq rfl) (by decide) (by decide) (by decide) (by decide) (n := 24) rfl ?_
  rintro T _ ⟨rfl, -⟩ X
  refine gAloadN X w d23_24 rfl rfl (n := 25) rfl ?_
  refine gAloadN X w d23_25 rfl rfl (n := 26) rfl ?_
  refine gGetF X w (own_wd hw 136 rfl) Via.refl P3 d23_26 (n := 29) rfl ?_
  intro T X
  refine gAloadN X w d23_29 rfl rfl (n := 30) rfl ?_
  refine gCallVn X w [(.int (ct.length.toInt32)), (.ref s0)] [] P0 (own_put l Z a0 hw a s0 vb ub bs ct rs cs h0 n0 (Sd.le X) P0 P1 P2 P3 P4 P5 P6 P7 P8 P9 (by first | assumption | decide | (simp; done) | omega) (by first | assumption | decide) (by first | assumption | decide) hfy (by first | assumption | (simp only [List.length_append, List.length_cons, List.length_nil]; omega)) ne_vb_ub ne_s0_ub ne_a_ub ne_s0_a ne_vb_a na_ub) (own_wd hw 143 rfl) (declOf (own_wd hw 144 rfl) (own_wd hw 147 rfl)) (fun vm0 hS => notFace_of_selects (args := #[]) (mvT (State.Warmed39.trans w.2.2.1 hS.1) (own_wd hw 146 rfl))) (own_wd hw 146 rfl) (own_wd hw 144 rfl) (own_wd hw 83 rfl) (own_wd hw 147 rfl) (by decide) own_pd11 rfl rfl d23_30 rfl (W := 0) (Nat.le_of_eq rfl) (by decide) (by decide) (by decide) (by decide) (n := 33) rfl ?_
  rintro T h_3 ⟨K_3, rs2_3, Q0_3, hlen_3, hfu_3⟩ X
  have F_4 := K_0.trans K_3 (allS (Or.inl (by simp)) all0)
  have F_5 := P0.keep K_3
  have F_6 := P1.keep K_3 (ninS ne_a_ub nin0)
  have F_7 := P2.keep K_3 (ninS ne_a_ub nin0)
  have F_8 := P3.keep K_3 (ninS ne_a_ub nin0)
  have F_9 := P5.keep K_3
  have F_10 := P6.keep K_3 (ninS ne_s0_ub nin0)
  have F_11 := P7.keep K_3 (ninS ne_s0_ub nin0)
  have F_12 := P8.keep K_3 (ninS ne_vb_ub nin0)
  have F_13 := staKeep P9 K_3 (allS (Av.nostat P4) all0)
  refine gAloadN X w d23_33 rfl rfl (n := 34) rfl ?_
  refine gDup X w d23_34 rfl (n := 35) rfl ?_
  refine gGetF X w (own_wd hw 136 rfl) Via.refl F_8 d23_35 (n := 38) rfl ?_
  intro T X
  refine gIloadN X w d23_38 rfl (n := 39) rfl ?_
  have q39 := own_cnt hroom
  refine gIadd X w d23_39 q39 (n := 40) rfl ?_
  refine gPutF X w (own_wd hw 136 rfl) Via.refl F_8 F_5 (Or.inl (own_wd hw 137 rfl)) (own_wd hw 74 rfl) na_a (ty := .int) (by decide) rfl rfl d23_40 (n := 43) rfl ?_
  intro T hp40 X W40
  have F_14 := F_4.wr W40 (Or.inl (by simp))
  have F_15 := F_5.wr W40
  have F_16 := F_6.other W40 (Or.inr (slot_ne (Or.inl (own_wd hw 88 rfl) : Laid Z a0 _ _ _ _) (Or.inl (own_wd hw 137 rfl) : Laid Z a0 _ _ _ _) (by decide) (t := (.array .byte)) (t' := .int) (by decide) (by decide)))
  have F_17 := F_7.other W40 (Or.inr (slot_ne (Or.inl (own_wd hw 90 rfl) : Laid Z a0 _ _ _ _) (Or.inl (own_wd hw 137 rfl) : Laid Z a0 _ _ _ _) (by decide) (t := .byte) (t' := .int) (by decide) (by decide)))
  have F_18 := F_8.same W40
  have F_19 := F_9.wr W40
  have F_20 := F_10.other W40 (Or.inl ne_s0_a)
  have F_21 := F_11.other W40 (Or.inl ne_s0_a)
  have F_22 := F_12.other W40 ne_vb_a
  have F_23 := F_13.wr W40
  have F_24 := Q0_3.other W40 (Ne.symm ne_a_ub)
  refine gAloadN X w d23_43 rfl rfl (n := 44) rfl ?_
  exact gRetA X w rfl rfl rfl d23_44 (by decide) (by decide) (⟨rfl, _, rfl, F_14, rs2_3, rfl, F_24, F_16, F_17, F_18, hlen_3, hfu_3⟩)
set_option maxRecDepth 65536 in
set_option maxHeartbeats 40000000 in
theorem own_bps (l : Launch) (Z : State) (a0 : Array Value) (hw : ∀ d ∈ tables_1, d.before a0 Z = true) (a : Addr) (s0 : Addr) (vb : Addr) (ub : Addr) (bs : List Value) (ct : List Value) (rs : List Value) (cs : Int32) (h0 : Heap) (n0 : Nat) {D : Addr → Prop} (hn : n0 ≤ h0.size) (P0 : Exa Z h0 a "java/lang/StringBuilder") (P1 : Fld Z h0 a "java/lang/AbstractStringBuilder" "value" "[B" (.ref ub)) (P2 : Fld Z h0 a "java/lang/AbstractStringBuilder" "coder" "B" (.int (0 : Int32))) (P3 : Fld Z h0 a "java/lang/AbstractStringBuilder" "count" "I" (.int (ct.length.toInt32))) (P4 : Av Z h0 ub .byte (ct ++ rs)) (P5 : Exa Z h0 s0 "java/lang/String") (P6 : Fld Z h0 s0 "java/lang/String" "value" "[B" (.ref vb)) (P7 : Fld Z h0 s0 "java/lang/String" "coder" "B" (.int (0 : Int32))) (P8 : Av Z h0 vb .byte bs) (P9 : Sta Z h0 "java/lang/String" "COMPACT_STRINGS" "Z" (.int cs)) (hcs : ¬ cs = 0) (hlen : ct.length + rs.length = 16) (hfu : ∀ v ∈ ct ++ rs, fits .byte v = true) (hfy : ∀ v ∈ bs, fits .byte v = true) (hroom : ct.length + bs.length ≤ 16) (ne_vb_ub : vb ≠ ub) (ne_s0_ub : s0 ≠ ub) (ne_a_ub : a ≠ ub) (ne_s0_a : s0 ≠ a) (ne_vb_a : vb ≠ a) (na_ub : n0 ≤ ub ∧ ¬ D ub) (na_a : n0 ≤ a ∧ ¬ D a) :
    ConV l Z (⟨"java/lang/StringBuilder", "append", "(Ljava/lang/String;)Ljava/lang/StringBuilder;"⟩ : MethodName) jdk_67_method_7_code 2 (some (.object "java/lang/StringBuilder")) ({ frames := 4, cells := 0, slots := 0, locals := 83 } : Room) #[(.ref a), (.ref s0)] h0 n0 D (fun v h => Keep h0 h [ub, a] ∧ ∃ (rs2 : List Value), v = (.ref a) ∧ Av Z h ub .byte ((ct ++ bs) ++ rs2) ∧ Fld Z h a "java/lang/AbstractStringBuilder" "value" "[B" (.ref ub) ∧ Fld Z h a "java/lang/AbstractStringBuilder" "coder" "B" (.int (0 : Int32)) ∧ Fld Z h a "java/lang/AbstractStringBuilder" "count" "I" (.int ((ct ++ bs).length.toInt32)) ∧ ((ct ++ bs).length + rs2.length = 16) ∧ (∀ v ∈ (ct ++ bs) ++ rs2, fits .byte v = true)) := by
  refine Con.of (plainFor_of_name (by first | (simp [plainName, overriddenIn]; done) | decide +kernel)) hn ?_
  intro p e s m below meth c T w X
  refine Gl.enter (ls := #[.val (.ref a), .val (.ref s0)]) (by first | (simp [entryFrame, mkF, argsToLocals, Value.category]; done) | rfl) ?_
  have K_0 : Keep h0 h0 [ub, a] := Keep.refl _ _
  refine gAloadN X w d22_0 rfl rfl (n := 1) rfl ?_
  refine gAloadN X w d22_1 rfl rfl (n := 2) rfl ?_
  refine gCallUv X w [(.ref s0)] [] (Ins.self P0) (own_aps l Z a0 hw a s0 vb ub bs ct rs cs h0 n0 (Sd.le X) P0 P1 P2 P3 P4 P5 P6 P7 P8 P9 (by first | assumption | decide | (simp; done) | omega) (by first | assumption | decide) (by first | assumption | decide) hfy (by first | assumption | (simp only [List.length_append, List.length_cons, List.length_nil]; omega)) ne_vb_ub ne_s0_ub ne_a_ub ne_s0_a ne_vb_a na_ub na_a) (own_wd hw 130 rfl) (sameOf (own_wd hw 131 rfl) (own_wd hw 141 rfl) rfl (by decide)) (own_wd hw 131 rfl) (own_wd hw 132 rfl) (by decide) (own_wd hw 83 rfl) (own_wd hw 134 rfl) own_pd12 rfl rfl d22_2 rfl (W := 0) (Nat.le_of_eq rfl) (by decide) (by decide) (by decide) (by decide) (n := 5) rfl ?_
  rintro T h_1 _ ⟨K_1, rs2_1, rfl, Q0_1, Q1_1, Q2_1, Q3_1, hlen_1, hfu_1⟩ X
  have F_2 := K_0.trans K_1 (allS (Or.inl (by simp)) (allS (Or.inl (by simp)) all0))
  have F_3 := P0.keep K_1
  have F_4 := P5.keep K_1
  have F_5 := P6.keep K_1 (ninS ne_s0_ub (ninS ne_s0_a nin0))
  have F_6 := P7.keep K_1 (ninS ne_s0_ub (ninS ne_s0_a nin0))
  have F_7 := P8.keep K_1 (ninS ne_vb_ub (ninS ne_vb_a nin0))
  have F_8 := staKeep P9 K_1 (allS (Av.nostat P4) (allS (Exa.nostat P0) all0))
  refine gPop X w d22_5 rfl (n := 6) rfl ?_
  refine gAloadN X w d22_6 rfl rfl (n := 7) rfl ?_
  exact gRetA X w rfl rfl rfl d22_7 (by decide) (by decide) (⟨rfl, _, rfl, F_2, rs2_1, rfl, Q0_1, Q1_1, Q2_1, Q3_1, hlen_1, hfu_1⟩)
set_option maxRecDepth 65536 in
set_option maxHeartbeats 40000000 in
theorem own_digits_1 (l : Launch) (Z : State) (a0 : Array Value) (hw : ∀ d ∈ tables_1, d.before a0 Z = true) (pt : Int32) (h0 : Heap) (n0 : Nat) {D : Addr → Prop} (hn : n0 ≤ h0.size) (hlo : 0 ≤ pt.toInt) (hhi : pt.toInt < 10) (hpt : 0 ≤ pt.toInt ∧ pt.toInt ≤ 65535) :
    ConV l Z (⟨"com/example/tidemark/tidemark/protocol/HostPortToStringPinLaw", "digits", "(I)I"⟩ : MethodName) method_4_code 1 (some .int) ({ frames := 0, cells := 0, slots := 0, locals := 0 } : Room) #[(.int pt)] h0 n0 D (fun v h => h0 = h ∧ v = (.int (1 : Int32))) := by
  refine Con.of (plainFor_of_name (by first | (simp [plainName, overriddenIn]; done) | decide +kernel)) hn ?_
  intro p e s m below meth c T w X
  refine Gl.enter (ls := #[.val (.int pt)]) (by first | (simp [entryFrame, mkF, argsToLocals, Value.category]; done) | rfl) ?_
  refine gIloadN X w d43_0 rfl (n := 1) rfl ?_
  refine gBipush X w d43_1 (z := (10 : Int32)) (by decide) (n := 3) rfl ?_
  refine gIcmp_ge X w d43_3 (n := 8) (n' := 6) (by decide) rfl rfl ?_ ?_
  · intro c3
    exact absurd c3 (by have e0 : (10 : Int32).toInt = 10 := rfl; omega)
  · intro c3
    refine gIconst X w d43_6 (z := (1 : Int32)) rfl (n := 7) rfl ?_
    exact gRetI X w rfl d43_7 (by decide) (by decide) (⟨rfl, _, rfl, rfl, rfl⟩)
set_option maxRecDepth 65536 in
set_option maxHeartbeats 40000000 in
theorem own_ssize_1 (l : Launch) (Z : State) (a0 : Array Value) (hw : ∀ d ∈ tables_1, d.before a0 Z = true) (pt : Int32) (h0 : Heap) (n0 : Nat) {D : Addr → Prop} (hn : n0 ≤ h0.size) (hlo : 0 ≤ pt.toInt) (hhi : pt.toInt < 10) (hpt : 0 ≤ pt.toInt ∧ pt.toInt ≤ 65535) :
    ConV l Z (⟨"java/lang/Integer", "stringSize", "(I)I"⟩ : MethodName) jdk_33_method_13_code 4 (some .int) ({ frames := 0, cells := 0, slots := 0, locals := 0 } : Room) #[(.int pt)] h0 n0 D (fun v h => h0 = h ∧ v = (.int (1 : Int32))) := by
  refine Con.of (plainFor_of_name (by first | (simp [plainName, overriddenIn]; done) | decide +kernel)) hn ?_
  intro p e s m below meth c T w X
  refine Gl.enter (ls := #[.val (.int pt), .unset, .unset, .unset]) (by first | (simp [entryFrame, mkF, argsToLocals, Value.category]; done) | rfl) ?_
  refine gIconst X w d30_0 (z := (1 : Int32)) rfl (n := 1) rfl ?_
  refine gIstoreN X w d30_1 #[.val (.int pt), .val (.int (1 : Int32)), .unset, .unset] rfl (n := 2) rfl ?_
  refine gIloadN X w d30_2 rfl (n := 3) rfl ?_
  refine gIf_lt X w d30_3 (n := 11) (n' := 6) (by decide) rfl rfl ?_ ?_
  · intro c3
    exact absurd c3 (by omega)
  · intro c3
    refine gIconst X w d30_6 (z := (0 : Int32)) rfl (n := 7) rfl ?_
    refine gIstoreN X w d30_7 #[.val (.int pt), .val (.int (0 : Int32)), .unset, .unset] rfl (n := 8) rfl ?_
    refine gIloadN X w d30_8 rfl (n := 9) rfl ?_
    obtain ⟨x9, q9⟩ : ∃ zz_ : Int32, -pt = zz_ := ⟨_, rfl⟩
    refine gIneg X w d30_9 q9 (n := 10) rfl ?_
    have n9 : x9.toInt = -pt.toInt := by rw [← q9]; exact own_negI (by omega)
    refine gIstoreN X w d30_10 #[.val (.int x9), .val (.int (0 : Int32)), .unset, .unset] rfl (n := 11) rfl ?_
    refine gBipush X w d30_11 (z := (-10 : Int32)) (by decide) (n := 13) rfl ?_
    refine gIstoreN X w d30_13 #[.val (.int x9), .val (.int (0 : Int32)), .val (.int (-10 : Int32)), .unset] rfl (n := 14) rfl ?_
    refine gIconst X w d30_14 (z := (1 : Int32)) rfl (n := 15) rfl ?_
    refine gIstoreN X w d30_15 #[.val (.int x9), .val (.int (0 : Int32)), .val (.int (-10 : Int32)), .val (.int (1 : Int32))] rfl (n := 16) rfl ?_
    refine gIloadN X w d30_16 rfl (n := 17) rfl ?_
    refine gBipush X w d30_17 (z := (10 : Int32)) (by decide) (n := 19) rfl ?_
    refine gIcmp_ge X w d30_19 (n := 42) (n' := 22) (by decide) rfl rfl ?_ ?_
    · intro c19
      exact absurd c19 (by decide)
    · intro c19
      refine gIloadN X w d30_22 rfl (n := 23) rfl ?_
      refine gIloadN X w d30_23 rfl (n := 24) rfl ?_
      refine gIcmp_le X w d30_24 (n := 31) (n' := 27) (by decide) rfl rfl ?_ ?_
      · intro c24
        exact absurd c24 (by have e0 : (-10 : Int32).toInt = -10 := rfl; omega)
      · intro c24
        refine gIloadN X w d30_27 rfl (n := 28) rfl ?_
        refine gIloadN X w d30_28 rfl (n := 29) rfl ?_
        refine gIadd X w d30_29 (z := (1 : Int32)) (by decide) (n := 30) rfl ?_
        exact gRetI X w rfl d30_30 (by decide) (by decide) (⟨rfl, _, rfl, rfl, rfl⟩)
set_option maxRecDepth 65536 in
set_option maxHeartbeats 40000000 in
theorem own_digits_2 (l : Launch) (Z : State) (a0 : Array Value) (hw : ∀ d ∈ tables_1, d.before a0 Z = true) (pt : Int32) (h0 : Heap) (n0 : Nat) {D : Addr → Prop} (hn : n0 ≤ h0.size) (hlo : 10 ≤ pt.toInt) (hhi : pt.toInt < 100) (hpt : 0 ≤ pt.toInt ∧ pt.toInt ≤ 65535) :
    ConV l Z (⟨"com/example/tidemark/tidemark/protocol/HostPortToStringPinLaw", "digits", "(I)I"⟩ : MethodName) method_4_code 1 (some .int) ({ frames := 0, cells := 0, slots := 0, locals := 0 } : Room) #[(.int pt)] h0 n0 D (fun v h => h0 = h ∧ v = (.int (2 : Int32))) := by
  refine Con.of (plainFor_of_name (by first | (simp [plainName, overriddenIn]; done) | decide +kernel)) hn ?_
  intro p e s m below meth c T w X
  refine Gl.enter (ls := #[.val (.int pt)]) (by first | (simp [entryFrame, mkF, argsToLocals, Value.category]; done) | rfl) ?_
  refine gIloadN X w d43_0 rfl (n := 1) rfl ?_
  refine gBipush X w d43_1 (z := (10 : Int32)) (by decide) (n := 3) rfl ?_
  refine gIcmp_ge X w d43_3 (n := 8) (n' := 6) (by decide) rfl rfl ?_ ?_
  · intro c3
    refine gIloadN X w d43_8 rfl (n := 9) rfl ?_
    refine gBipush X w d43_9 (z := (100 : Int32)) (by decide) (n := 11) rfl ?_
    refine gIcmp_ge X w d43_11 (n := 16) (n' := 14) (by decide) rfl rfl ?_ ?_
    · intro c11
      exact absurd c11 (by have e0 : (100 : Int32).toInt = 100 := rfl; omega)
    · intro c11
      refine gIconst X w d43_14 (z := (2 : Int32)) rfl (n := 15) rfl ?_
      exact gRetI X w rfl d43_15 (by decide) (by decide) (⟨rfl, _, rfl, rfl, rfl⟩)
  · intro c3
    exact absurd c3 (by have e0 : (10 : Int32).toInt = 10 := rfl; omega)
set_option maxRecDepth 65536 in
set_option maxHeartbeats 40000000 in
theorem own_ssize_2 (l : Launch) (Z : State) (a0 : Array Value) (hw : ∀ d ∈ tables_1, d.before a0 Z = true) (pt : Int32) (h0 : Heap) (n0 : Nat) {D : Addr → Prop} (hn : n0 ≤ h0.size) (hlo : 10 ≤ pt.toInt) (hhi : pt.toInt < 100) (hpt : 0 ≤ pt.toInt ∧ pt.toInt ≤ 65535) :
    ConV l Z (⟨"java/lang/Integer", "stringSize", "(I)I"⟩ : MethodName) jdk_33_method_13_code 4 (some .int) ({ frames := 0, cells := 0, slots := 0, locals := 0 } : Room) #[(.int pt)] h0 n0 D (fun v h => h0 = h ∧ v = (.int (2 : Int32))) := by
  refine Con.of (plainFor_of_name (by first | (simp [plainName, overriddenIn]; done) | decide +kernel)) hn ?_
  intro p e s m below meth c T w X
  refine Gl.enter (ls := #[.val (.int pt), .unset, .unset, .unset]) (by first | (simp [entryFrame, mkF, argsToLocals, Value.category]; done) | rfl) ?_
  refine gIconst X w d30_0 (z := (1 : Int32)) rfl (n := 1) rfl ?_
  refine gIstoreN X w d30_1 #[.val (.int pt), .val (.int (1 : Int32)), .unset, .unset] rfl (n := 2) rfl ?_
  refine gIloadN X w d30_2 rfl (n := 3) rfl ?_
  refine gIf_lt X w d30_3 (n := 11) (n' := 6) (by decide) rfl rfl ?_ ?_
  · intro c3
    exact absurd c3 (by omega)
  · intro c3
    refine gIconst X w d30_6 (z := (0 : Int32)) rfl (n := 7) rfl ?_
    refine gIstoreN X w d30_7 #[.val (.int pt), .val (.int (0 : Int32)), .unset, .unset] rfl (n := 8) rfl ?_
    refine gIloadN X w d30_8 rfl (n := 9) rfl ?_
    obtain ⟨x9, q9⟩ : ∃ zz_ : Int32, -pt = zz_ := ⟨_, rfl⟩
    refine gIneg X w d30_9 q9 (n := 10) rfl ?_
    have n9 : x9.toInt = -pt.toInt := by rw [← q9]; exact own_negI (by omega)
    refine gIstoreN X w d30_10 #[.val (.int x9), .val (.int (0 : Int32)), .unset, .unset] rfl (n := 11) rfl ?_
    refine gBipush X w d30_11 (z := (-10 : Int32)) (by decide) (n := 13) rfl ?_
    refine gIstoreN X w d30_13 #[.val (.int x9), .val (.int (0 : Int32)), .val (.int (-10 : Int32)), .unset] rfl (n := 14) rfl ?_
    refine gIconst X w d30_14 (z := (1 : Int32)) rfl (n := 15) rfl ?_
    refine gIstoreN X w d30_15 #[.val (.int x9), .val (.int (0 : Int32)), .val (.int (-10 : Int32)), .val (.int (1 : Int32))] rfl (n := 16) rfl ?_
    refine gIloadN X w d30_16 rfl (n := 17) rfl ?_
    refine gBipush X w d30_17 (z := (10 : Int32)) (by decide) (n := 19) rfl ?_
    refine gIcmp_ge X w d30_19 (n := 42) (n' := 22) (by decide) rfl rfl ?_ ?_
    · intro c19
      exact absurd c19 (by decide)
    · intro c19
      refine gIloadN X w d30_22 rfl (n := 23) rfl ?_
      refine gIloadN X w d30_23 rfl (n := 24) rfl ?_
      refine gIcmp_le X w d30_24 (n := 31) (n' := 27) (by decide) rfl rfl ?_ ?_
      · intro c24
        refine gBipush X w d30_31 (z := (10 : Int32)) (by decide) (n := 33) rfl ?_
        refine gIloadN X w d30_33 rfl (n := 34) rfl ?_
        refine gImul X w d30_34 (z := (-100 : Int32)) (by decide) (n := 35) rfl ?_
        refine gIstoreN X w d30_35 #[.val (.int x9), .val (.int (0 : Int32)), .val (.int (-100 : Int32)), .val (.int (1 : Int32))] rfl (n := 36) rfl ?_
        refine gIinc X w d30_36 rfl (z := (2 : Int32)) (by decide) #[.val (.int x9), .val (.int (0 : Int32)), .val (.int (-100 : Int32)), .val (.int (2 : Int32))] rfl (n := 39) rfl ?_
        refine gGoto X w d30_39 (by decide) (n := 16) rfl ?_
        refine gIloadN X w d30_16 rfl (n := 17) rfl ?_
        refine gBipush X w d30_17 (z := (10 : Int32)) (by decide) (n := 19) rfl ?_
        refine gIcmp_ge X w d30_19 (n := 42) (n' := 22) (by decide) rfl rfl ?_ ?_
        · intro c19
          exact absurd c19 (by decide)
        · intro c19
          refine gIloadN X w d30_22 rfl (n := 23) rfl ?_
          refine gIloadN X w d30_23 rfl (n := 24) rfl ?_
          refine gIcmp_le X w d30_24 (n := 31) (n' := 27) (by decide) rfl rfl ?_ ?_
          · intro c24
            exact absurd c24 (by have e0 : (-100 : Int32).toInt = -100 := rfl; omega)
          · intro c24
            refine gIloadN X w d30_27 rfl (n := 28) rfl ?_
            refine gIloadN X w d30_28 rfl (n := 29) rfl ?_
            refine gIadd X w d30_29 (z := (2 : Int32)) (by decide) (n := 30) rfl ?_
            exact gRetI X w rfl d30_30 (by decide) (by decide) (⟨rfl, _, rfl, rfl, rfl⟩)
      · intro c24
        exact absurd c24 (by have e0 : (-10 : Int32).toInt = -10 := rfl; omega)
set_option maxRecDepth 65536 in
set_option maxHeartbeats 40000000 in
theorem own_digits_3 (l : Launch) (Z : State) (a0 : Array Value) (hw : ∀ d ∈ tables_1, d.before a0 Z = true) (pt : Int32) (h0 : Heap) (n0 : Nat) {D : Addr → Prop} (hn : n0 ≤ h0.size) (hlo : 100 ≤ pt.toInt) (hhi : pt.toInt < 1000) (hpt : 0 ≤ pt.toInt ∧ pt.toInt ≤ 65535) :
    ConV l Z (⟨"com/example/tidemark/tidemark/protocol/HostPortToStringPinLaw", "digits", "(I)I"⟩ : MethodName) method_4_code 1 (some .int) ({ frames := 0, cells := 0, slots := 0, locals := 0 } : Room) #[(.int pt)] h0 n0 D (fun v h => h0 = h ∧ v = (.int (3 : Int32))) := by
  refine Con.of (plainFor_of_name (by first | (simp [plainName, overriddenIn]; done) | decide +kernel)) hn ?_
  intro p e s m below meth c T w X
  refine Gl.enter (ls := #[.val (.int pt)]) (by first | (simp [entryFrame, mkF, argsToLocals, Value.category]; done) | rfl) ?_
  refine gIloadN X w d43_0 rfl (n := 1) rfl ?_
  refine gBipush X w d43_1 (z := (10 : Int32)) (by decide) (n := 3) rfl ?_
  refine gIcmp_ge X w d43_3 (n := 8) (n' := 6) (by decide) rfl rfl ?_ ?_
  · intro c3
    refine gIloadN X w d43_8 rfl (n := 9) rfl ?_
    refine gBipush X w d43_9 (z := (100 : Int32)) (by decide) (n := 11) rfl ?_
    refine gIcmp_ge X w d43_11 (n := 16) (n' := 14) (by decide) rfl rfl ?_ ?_
    · intro c11
      refine gIloadN X w d43_16 rfl (n := 17) rfl ?_
      refine gSipush X w d43_17 (z := (1000 : Int32)) (by decide) (n := 20) rfl ?_
      refine gIcmp_ge X w d43_20 (n := 25) (n' := 23) (by decide) rfl rfl ?_ ?_
      · intro c20
        exact absurd c20 (by have e0 : (1000 : Int32).toInt = 1000 := rfl; omega)
      · intro c20
        refine gIconst X w d43_23 (z := (3 : Int32)) rfl (n := 24) rfl ?_
        exact gRetI X w rfl d43_24 (by decide) (by decide) (⟨rfl, _, rfl, rfl, rfl⟩)
    · intro c11
      exact absurd c11 (by have e0 : (100 : Int32).toInt = 100 := rfl; omega)
  · intro c3
    exact absurd c3 (by have e0 : (10 : Int32).toInt = 10 := rfl; omega)
set_option maxRecDepth 65536 in
set_option maxHeartbeats 40000000 in
theorem own_ssize_3 (l : Launch) (Z : State) (a0 : Array Value) (hw : ∀ d ∈ tables_1, d.before a0 Z = true) (pt : Int32) (h0 : Heap) (n0 : Nat) {D : Addr → Prop} (hn : n0 ≤ h0.size) (hlo : 100 ≤ pt.toInt) (hhi : pt.toInt < 1000) (hpt : 0 ≤ pt.toInt ∧ pt.toInt ≤ 65535) :
    ConV l Z (⟨"java/lang/Integer", "stringSize", "(I)I"⟩ : MethodName) jdk_33_method_13_code 4 (some .int) ({ frames := 0, cells := 0, slots := 0, locals := 0 } : Room) #[(.int pt)] h0 n0 D (fun v h => h0 = h ∧ v = (.int (3 : Int32))) := by
  refine Con.of (plainFor_of_name (by first | (simp [plainName, overriddenIn]; done) | decide +kernel)) hn ?_
  intro p e s m below meth c T w X
  refine Gl.enter (ls := #[.val (.int pt), .unset, .unset, .unset]) (by first | (simp [entryFrame, mkF, argsToLocals, Value.category]; done) | rfl) ?_
  refine gIconst X w d30_0 (z := (1 : Int32)) rfl (n := 1) rfl ?_
  refine gIstoreN X w d30_1 #[.val (.int pt), .val (.int (1 : Int32)), .unset, .unset] rfl (n := 2) rfl ?_
  refine gIloadN X w d30_2 rfl (n := 3) rfl ?_
  refine gIf_lt X w d30_3 (n := 11) (n' := 6) (by decide) rfl rfl ?_ ?_
  · intro c3
    exact absurd c3 (by omega)
  · intro c3
    refine gIconst X w d30_6 (z := (0 : Int32)) rfl (n := 7) rfl ?_
    refine gIstoreN X w d30_7 #[.val (.int pt), .val (.int (0 : Int32)), .unset, .unset] rfl (n := 8) rfl ?_
    refine gIloadN X w d30_8 rfl (n := 9) rfl ?_
    obtain ⟨x9, q9⟩ : ∃ zz_ : Int32, -pt = zz_ := ⟨_, rfl⟩
    refine gIneg X w d30_9 q9 (n := 10) rfl ?_
    have n9 : x9.toInt = -pt.toInt := by rw [← q9]; exact own_negI (by omega)
    refine gIstoreN X w d30_10 #[.val (.int x9), .val (.int (0 : Int32)), .unset, .unset] rfl (n := 11) rfl ?_
    refine gBipush X w d30_11 (z := (-10 : Int32)) (by decide) (n := 13) rfl ?_
    refine gIstoreN X w d30_13 #[.val (.int x9), .val (.int (0 : Int32)), .val (.int (-10 : Int32)), .unset] rfl (n := 14) rfl ?_
    refine gIconst X w d30_14 (z := (1 : Int32)) rfl (n := 15) rfl ?_
    refine gIstoreN X w d30_15 #[.val (.int x9), .val (.int (0 : Int32)), .val (.int (-10 : Int32)), .val (.int (1 : Int32))] rfl (n := 16) rfl ?_
    refine gIloadN X w d30_16 rfl (n := 17) rfl ?_
    refine gBipush X w d30_17 (z := (10 : Int32)) (by decide) (n := 19) rfl ?_
    refine gIcmp_ge X w d30_19 (n := 42) (n' := 22) (by decide) rfl rfl ?_ ?_
    · intro c19
      exact absurd c19 (by decide)
    · intro c19
      refine gIloadN X w d30_22 rfl (n := 23) rfl ?_
      refine gIloadN X w d30_23 rfl (n := 24) rfl ?_
      refine gIcmp_le X w d30_24 (n := 31) (n' := 27) (by decide) rfl rfl ?_ ?_
      · intro c24
        refine gBipush X w d30_31 (z := (10 : Int32)) (by decide) (n := 33) rfl ?_
        refine gIloadN X w d30_33 rfl (n := 34) rfl ?_
        refine gImul X w d30_34 (z := (-100 : Int32)) (by decide) (n := 35) rfl ?_
        refine gIstoreN X w d30_35 #[.val (.int x9), .val (.int (0 : Int32)), .val (.int (-100 : Int32)), .val (.int (1 : Int32))] rfl (n := 36) rfl ?_
        refine gIinc X w d30_36 rfl (z := (2 : Int32)) (by decide) #[.val (.int x9), .val (.int (0 : Int32)), .val (.int (-100 : Int32)), .val (.int (2 : Int32))] rfl (n := 39) rfl ?_
        refine gGoto X w d30_39 (by decide) (n := 16) rfl ?_
        refine gIloadN X w d30_16 rfl (n := 17) rfl ?_
        refine gBipush X w d30_17 (z := (10 : Int32)) (by decide) (n := 19) rfl ?_
        refine gIcmp_ge X w d30_19 (n := 42) (n' := 22) (by decide) rfl rfl ?_ ?_
        · intro c19
          exact absurd c19 (by decide)
        · intro c19
          refine gIloadN X w d30_22 rfl (n := 23) rfl ?_
          refine gIloadN X w d30_23 rfl (n := 24) rfl ?_
          refine gIcmp_le X w d30_24 (n := 31) (n' := 27) (by decide) rfl rfl ?_ ?_
          · intro c24
            refine gBipush X w d30_31 (z := (10 : Int32)) (by decide) (n := 33) rfl ?_
            refine gIloadN X w d30_33 rfl (n := 34) rfl ?_
            refine gImul X w d30_34 (z := (-1000 : Int32)) (by decide) (n := 35) rfl ?_
            refine gIstoreN X w d30_35 #[.val (.int x9), .val (.int (0 : Int32)), .val (.int (-1000 : Int32)), .val (.int (2 : Int32))] rfl (n := 36) rfl ?_
            refine gIinc X w d30_36 rfl (z := (3 : Int32)) (by decide) #[.val (.int x9), .val (.int (0 : Int32)), .val (.int (-1000 : Int32)), .val (.int (3 : Int32))] rfl (n := 39) rfl ?_
            refine gGoto X w d30_39 (by decide) (n := 16) rfl ?_
            refine gIloadN X w d30_16 rfl (n := 17) rfl ?_
            refine gBipush X w d30_17 (z := (10 : Int32)) (by decide) (n := 19) rfl ?_
            refine gIcmp_ge X w d30_19 (n := 42) (n' := 22) (by decide) rfl rfl ?_ ?_
            · intro c19
              exact absurd c19 (by decide)
            · intro c19
              refine gIloadN X w d30_22 rfl (n := 23) rfl ?_
              refine gIloadN X w d30_23 rfl (n := 24) rfl ?_
              refine gIcmp_le X w d30_24 (n := 31) (n' := 27) (by decide) rfl rfl ?_ ?_
              · intro c24
                exact absurd c24 (by have e0 : (-1000 : Int32).toInt = -1000 := rfl; omega)
              · intro c24
                refine gIloadN X w d30_27 rfl (n := 28) rfl ?_
                refine gIloadN X w d30_28 rfl (n := 29) rfl ?_
                refine gIadd X w d30_29 (z := (3 : Int32)) (by decide) (n := 30) rfl ?_
                exact gRetI X w rfl d30_30 (by decide) (by decide) (⟨rfl, _, rfl, rfl, rfl⟩)
          · intro c24
            exact absurd c24 (by have e0 : (-100 : Int32).toInt = -100 := rfl; omega)
      · intro c24
        exact absurd c24 (by have e0 : (-10 : Int32).toInt = -10 := rfl; omega)
set_option maxRecDepth 65536 in
set_option maxHeartbeats 40000000 in
theorem own_digits_4 (l : Launch) (Z : State) (a0 : Array Value) (hw : ∀ d ∈ tables_1, d.before a0 Z = true) (pt : Int32) (h0 : Heap) (n0 : Nat) {D : Addr → Prop} (hn : n0 ≤ h0.size) (hlo : 1000 ≤ pt.toInt) (hhi : pt.toInt < 10000) (hpt : 0 ≤ pt.toInt ∧ pt.toInt ≤ 65535) :
    ConV l Z (⟨"com/example/tidemark/tidemark/protocol/HostPortToStringPinLaw", "digits", "(I)I"⟩ : MethodName) method_4_code 1 (some .int) ({ frames := 0, cells := 0, slots := 0, locals := 0 } : Room) #[(.int pt)] h0 n0 D (fun v h => h0 = h ∧ v = (.int (4 : Int32))) := by
  refine Con.of (plainFor_of_name (by first | (simp [plainName, overriddenIn]; done) | decide +kernel)) hn ?_
  intro p e s m below meth c T w X
  refine Gl.enter (ls := #[.val (.int pt)]) (by first | (simp [entryFrame, mkF, argsToLocals, Value.category]; done) | rfl) ?_
  refine gIloadN X w d43_0 rfl (n := 1) rfl ?_
  refine gBipush X w d43_1 (z := (10 : Int32)) (by decide) (n := 3) rfl ?_
  refine gIcmp_ge X w d43_3 (n := 8) (n' := 6) (by decide) rfl rfl ?_ ?_
  · intro c3
    refine gIloadN X w d43_8 rfl (n := 9) rfl ?_
    refine gBipush X w d43_9 (z := (100 : Int32)) (by decide) (n := 11) rfl ?_
    refine gIcmp_ge X w d43_11 (n := 16) (n' := 14) (by decide) rfl rfl ?_ ?_
    · intro c11
      refine gIloadN X w d43_16 rfl (n := 17) rfl ?_
      refine gSipush X w d43_17 (z := (1000 : Int32)) (by decide) (n := 20) rfl ?_
      refine gIcmp_ge X w d43_20 (n := 25) (n' := 23) (by decide) rfl rfl ?_ ?_
      · intro c20
        refine gIloadN X w d43_25 rfl (n := 26) rfl ?_
        refine gSipush X w d43_26 (z := (10000 : Int32)) (by decide) (n := 29) rfl ?_
        refine gIcmp_ge X w d43_29 (n := 34) (n' := 32) (by decide) rfl rfl ?_ ?_
        · intro c29
          exact absurd c29 (by have e0 : (10000 : Int32).toInt = 10000 := rfl; omega)
        · intro c29
          refine gIconst X w d43_32 (z := (4 : Int32)) rfl (n := 33) rfl ?_
          exact gRetI X w rfl d43_33 (by decide) (by decide) (⟨rfl, _, rfl, rfl, rfl⟩)
      · intro c20
        exact absurd c20 (by have e0 : (1000 : Int32).toInt = 1000 := rfl; omega)
    · intro c11
      exact absurd c11 (by have e0 : (100 : Int32).toInt = 100 := rfl; omega)
  · intro c3
    exact absurd c3 (by have e0 : (10 : Int32).toInt = 10 := rfl; omega)
set_option maxRecDepth 65536 in
set_option maxHeartbeats 40000000 in
theorem own_ssize_4 (l : Launch) (Z : State) (a0 : Array Value) (hw : ∀ d ∈ tables_1, d.before a0 Z = true) (pt : Int32) (h0 : Heap) (n0 : Nat) {D : Addr → Prop} (hn : n0 ≤ h0.size) (hlo : 1000 ≤ pt.toInt) (hhi : pt.toInt < 10000) (hpt : 0 ≤ pt.toInt ∧ pt.toInt ≤ 65535) :
    ConV l Z (⟨"java/lang/Integer", "stringSize", "(I)I"⟩ : MethodName) jdk_33_method_13_code 4 (some .int) ({ frames := 0, cells := 0, slots := 0, locals := 0 } : Room) #[(.int pt)] h0 n0 D (fun v h => h0 = h ∧ v = (.int (4 : Int32))) := by
  refine Con.of (plainFor_of_name (by first | (simp [plainName, overriddenIn]; done) | decide +kernel)) hn ?_
  intro p e s m below meth c T w X
  refine Gl.enter (ls := #[.val (.int pt), .unset, .unset, .unset]) (by first | (simp [entryFrame, mkF, argsToLocals, Value.category]; done) | rfl) ?_
  refine gIconst X w d30_0 (z := (1 : Int32)) rfl (n := 1) rfl ?_
  refine gIstoreN X w d30_1 #[.val (.int pt), .val (.int (1 : Int32)), .unset, .unset] rfl (n := 2) rfl ?_
  refine gIloadN X w d30_2 rfl (n := 3) rfl ?_
  refine gIf_lt X w d30_3 (n := 11) (n' := 6) (by decide) rfl rfl ?_ ?_
  · intro c3
    exact absurd c3 (by omega)
  · intro c3
    refine gIconst X w d30_6 (z := (0 : Int32)) rfl (n := 7) rfl ?_
    refine gIstoreN X w d30_7 #[.val (.int pt), .val (.int (0 : Int32)), .unset, .unset] rfl (n := 8) rfl ?_
    refine gIloadN X w d30_8 rfl (n := 9) rfl ?_
    obtain ⟨x9, q9⟩ : ∃ zz_ : Int32, -pt = zz_ := ⟨_, rfl⟩
    refine gIneg X w d30_9 q9 (n := 10) rfl ?_
    have n9 : x9.toInt = -pt.toInt := by rw [← q9]; exact own_negI (by omega)
    refine gIstoreN X w d30_10 #[.val (.int x9), .val (.int (0 : Int32)), .unset, .unset] rfl (n := 11) rfl ?_
    refine gBipush X w d30_11 (z := (-10 : Int32)) (by decide) (n := 13) rfl ?_
    refine gIstoreN X w d30_13 #[.val (.int x9), .val (.int (0 : Int32)), .val (.int (-10 : Int32)), .unset] rfl (n := 14) rfl ?_
    refine gIconst X w d30_14 (z := (1 : Int32)) rfl (n := 15) rfl ?_
    refine gIstoreN X w d30_15 #[.val (.int x9), .val (.int (0 : Int32)), .val (.int (-10 : Int32)), .val (.int (1 : Int32))] rfl (n := 16) rfl ?_
    refine gIloadN X w d30_16 rfl (n := 17) rfl ?_
    refine gBipush X w d30_17 (z := (10 : Int32)) (by decide) (n := 19) rfl ?_
    refine gIcmp_ge X w d30_19 (n := 42) (n' := 22) (by decide) rfl rfl ?_ ?_
    · intro c19
      exact absurd c19 (by decide)
    · intro c19
      refine gIloadN X w d30_22 rfl (n := 23) rfl ?_
      refine gIloadN X w d30_23 rfl (n := 24) rfl ?_
      refine gIcmp_le X w d30_24 (n := 31) (n' := 27) (by decide) rfl rfl ?_ ?_
      · intro c24
        refine gBipush X w d30_31 (z := (10 : Int32)) (by decide) (n := 33) rfl ?_
        refine gIloadN X w d30_33 rfl (n := 34) rfl ?_
        refine gImul X w d30_34 (z := (-100 : Int32)) (by decide) (n := 35) rfl ?_
        refine gIstoreN X w d30_35 #[.val (.int x9), .val (.int (0 : Int32)), .val (.int (-100 : Int32)), .val (.int (1 : Int32))] rfl (n := 36) rfl ?_
        refine gIinc X w d30_36 rfl (z := (2 : Int32)) (by decide) #[.val (.int x9), .val (.int (0 : Int32)), .val (.int (-100 : Int32)), .val (.int (2 : Int32))] rfl (n := 39) rfl ?_
        refine gGoto X w d30_39 (by decide) (n := 16) rfl ?_
        refine gIloadN X w d30_16 rfl (n := 17) rfl ?_
        refine gBipush X w d30_17 (z := (10 : Int32)) (by decide) (n := 19) rfl ?_
        refine gIcmp_ge X w d30_19 (n := 42) (n' := 22) (by decide) rfl rfl ?_ ?_
        · intro c19
          exact absurd c19 (by decide)
        · intro c19
          refine gIloadN X w d30_22 rfl (n := 23) rfl ?_
          refine gIloadN X w d30_23 rfl (n := 24) rfl ?_
          refine gIcmp_le X w d30_24 (n := 31) (n' := 27) (by decide) rfl rfl ?_ ?_
          · intro c24
            refine gBipush X w d30_31 (z := (10 : Int32)) (by decide) (n := 33) rfl ?_
            refine gIloadN X w d30_33 rfl (n := 34) rfl ?_
            refine gImul X w d30_34 (z := (-1000 : Int32)) (by decide) (n := 35) rfl ?_
            refine gIstoreN X w d30_35 #[.val (.int x9), .val (.int (0 : Int32)), .val (.int (-1000 : Int32)), .val (.int (2 : Int32))] rfl (n := 36) rfl ?_
            refine gIinc X w d30_36 rfl (z := (3 : Int32)) (by decide) #[.val (.int x9), .val (.int (0 : Int32)), .val (.int (-1000 : Int32)), .val (.int (3 : Int32))] rfl (n := 39) rfl ?_
            refine gGoto X w d30_39 (by decide) (n := 16) rfl ?_
            refine gIloadN X w d30_16 rfl (n := 17) rfl ?_
            refine gBipush X w d30_17 (z := (10 : Int32)) (by decide) (n := 19) rfl ?_
            refine gIcmp_ge X w d30_19 (n := 42) (n' := 22) (by decide) rfl rfl ?_ ?_
            · intro c19
              exact absurd c19 (by decide)
            · intro c19
              refine gIloadN X w d30_22 rfl (n := 23) rfl ?_
              refine gIloadN X w d30_23 rfl (n := 24) rfl ?_
              refine gIcmp_le X w d30_24 (n := 31) (n' := 27) (by decide) rfl rfl ?_ ?_
              · intro c24
                refine gBipush X w d30_31 (z := (10 : Int32)) (by decide) (n := 33) rfl ?_
                refine gIloadN X w d30_33 rfl (n := 34) rfl ?_
                refine gImul X w d30_34 (z := (-10000 : Int32)) (by decide) (n := 35) rfl ?_
                refine gIstoreN X w d30_35 #[.val (.int x9), .val (.int (0 : Int32)), .val (.int (-10000 : Int32)), .val (.int (3 : Int32))] rfl (n := 36) rfl ?_
                refine gIinc X w d30_36 rfl (z := (4 : Int32)) (by decide) #[.val (.int x9), .val (.int (0 : Int32)), .val (.int (-10000 : Int32)), .val (.int (4 : Int32))] rfl (n := 39) rfl ?_
                refine gGoto X w d30_39 (by decide) (n := 16) rfl ?_
                refine gIloadN X w d30_16 rfl (n := 17) rfl ?_
                refine gBipush X w d30_17 (z := (10 : Int32)) (by decide) (n := 19) rfl ?_
                refine gIcmp_ge X w d30_19 (n := 42) (n' := 22) (by decide) rfl rfl ?_ ?_
                · intro c19
                  exact absurd c19 (by decide)
                · intro c19
                  refine gIloadN X w d30_22 rfl (n := 23) rfl ?_
                  refine gIloadN X w d30_23 rfl (n := 24) rfl ?_
                  refine gIcmp_le X w d30_24 (n := 31) (n' := 27) (by decide) rfl rfl ?_ ?_
                  · intro c24
                    exact absurd c24 (by have e0 : (-10000 : Int32).toInt = -10000 := rfl; omega)
                  · intro c24
                    refine gIloadN X w d30_27 rfl (n := 28) rfl ?_
                    refine gIloadN X w d30_28 rfl (n := 29) rfl ?_
                    refine gIadd X w d30_29 (z := (4 : Int32)) (by decide) (n := 30) rfl ?_
                    exact gRetI X w rfl d30_30 (by decide) (by decide) (⟨rfl, _, rfl, rfl, rfl⟩)
              · intro c24
                exact absurd c24 (by have e0 : (-1000 : Int32).toInt = -1000 := rfl; omega)
          · intro c24
            exact absurd c24 (by have e0 : (-100 : Int32).toInt = -100 := rfl; omega)
      · intro c24
        exact absurd c24 (by have e0 : (-10 : Int32).toInt = -10 := rfl; omega)
set_option maxRecDepth 65536 in
set_option maxHeartbeats 40000000 in
theorem own_digits_5 (l : Launch) (Z : State) (a0 : Array Value) (hw : ∀ d ∈ tables_1, d.before a0 Z = true) (pt : Int32) (h0 : Heap) (n0 : Nat) {D : Addr → Prop} (hn : n0 ≤ h0.size) (hlo : 10000 ≤ pt.toInt) (hhi : pt.toInt < 100000) (hpt : 0 ≤ pt.toInt ∧ pt.toInt ≤ 65535) :
    ConV l Z (⟨"com/example/tidemark/tidemark/protocol/HostPortToStringPinLaw", "digits", "(I)I"⟩ : MethodName) method_4_code 1 (some .int) ({ frames := 0, cells := 0, slots := 0, locals := 0 } : Room) #[(.int pt)] h0 n0 D (fun v h => h0 = h ∧ v = (.int (5 : Int32))) := by
  refine Con.of (plainFor_of_name (by first | (simp [plainName, overriddenIn]; done) | decide +kernel)) hn ?_
  intro p e s m below meth c T w X
  refine Gl.enter (ls := #[.val (.int pt)]) (by first | (simp [entryFrame, mkF, argsToLocals, Value.category]; done) | rfl) ?_
  refine gIloadN X w d43_0 rfl (n := 1) rfl ?_
  refine gBipush X w d43_1 (z := (10 : Int32)) (by decide) (n := 3) rfl ?_
  refine gIcmp_ge X w d43_3 (n := 8) (n' := 6) (by decide) rfl rfl ?_ ?_
  · intro c3
    refine gIloadN X w d43_8 rfl (n := 9) rfl ?_
    refine gBipush X w d43_9 (z := (100 : Int32)) (by decide) (n := 11) rfl ?_
    refine gIcmp_ge X w d43_11 (n := 16) (n' := 14) (by decide) rfl rfl ?_ ?_
    · intro c11
      refine gIloadN X w d43_16 rfl (n := 17) rfl ?_
      refine gSipush X w d43_17 (z := (1000 : Int32)) (by decide) (n := 20) rfl ?_
      refine gIcmp_ge X w d43_20 (n := 25) (n' := 23) (by decide) rfl rfl ?_ ?_
      · intro c20
        refine gIloadN X w d43_25 rfl (n := 26) rfl ?_
        refine gSipush X w d43_26 (z := (10000 : Int32)) (by decide) (n := 29) rfl ?_
        refine gIcmp_ge X w d43_29 (n := 34) (n' := 32) (by decide) rfl rfl ?_ ?_
        · intro c29
          refine gIconst X w d43_34 (z := (5 : Int32)) rfl (n := 35) rfl ?_
          exact gRetI X w rfl d43_35 (by decide) (by decide) (⟨rfl, _, rfl, rfl, rfl⟩)
        · intro c29
          exact absurd c29 (by have e0 : (10000 : Int32).toInt = 10000 := rfl; omega)
      · intro c20
        exact absurd c20 (by have e0 : (1000 : Int32).toInt = 1000 := rfl; omega)
    · intro c11
      exact absurd c11 (by have e0 : (100 : Int32).toInt = 100 := rfl; omega)
  · intro c3
    exact absurd c3 (by have e0 : (10 : Int32).toInt = 10 := rfl; omega)
set_option maxRecDepth 65536 in
set_option maxHeartbeats 40000000 in
theorem own_ssize_5 (l : Launch) (Z : State) (a0 : Array Value) (hw : ∀ d ∈ tables_1, d.before a0 Z = true) (pt : Int32) (h0 : Heap) (n0 : Nat) {D : Addr → Prop} (hn : n0 ≤ h0.size) (hlo : 10000 ≤ pt.toInt) (hhi : pt.toInt < 100000) (hpt : 0 ≤ pt.toInt ∧ pt.toInt ≤ 65535) :
    ConV l Z (⟨"java/lang/Integer", "stringSize", "(I)I"⟩ : MethodName) jdk_33_method_13_code 4 (some .int) ({ frames := 0, cells := 0, slots := 0, locals := 0 } : Room) #[(.int pt)] h0 n0 D (fun v h => h0 = h ∧ v = (.int (5 : Int32))) := by
  refine Con.of (plainFor_of_name (by first | (simp [plainName, overriddenIn]; done) | decide +kernel)) hn ?_
  intro p e s m below meth c T w X
  refine Gl.enter (ls := #[.val (.int pt), .unset, .unset, .unset]) (by first | (simp [entryFrame, mkF, argsToLocals, Value.category]; done) | rfl) ?_
  refine gIconst X w d30_0 (z := (1 : Int32)) rfl (n := 1) rfl ?_
  refine gIstoreN X w d30_1 #[.val (.int pt), .val (.int (1 : Int32)), .unset, .unset] rfl (n := 2) rfl ?_
  refine gIloadN X w d30_2 rfl (n := 3) rfl ?_
  refine gIf_lt X w d30_3 (n := 11) (n' := 6) (by decide) rfl rfl ?_ ?_
  · intro c3
    exact absurd c3 (by omega)
  · intro c3
    refine gIconst X w d30_6 (z := (0 : Int32)) rfl (n := 7) rfl ?_
    refine gIstoreN X w d30_7 #[.val (.int pt), .val (.int (0 : Int32)), .unset, .unset] rfl (n := 8) rfl ?_
    refine gIloadN X w d30_8 rfl (n := 9) rfl ?_
    obtain ⟨x9, q9⟩ : ∃ zz_ : Int32, -pt = zz_ := ⟨_, rfl⟩
    refine gIneg X w d30_9 q9 (n := 10) rfl ?_
    have n9 : x9.toInt = -pt.toInt := by rw [← q9]; exact own_negI (by omega)
    refine gIstoreN X w d30_10 #[.val (.int x9), .val (.int (0 : Int32)), .unset, .unset] rfl (n := 11) rfl ?_
    refine gBipush X w d30_11 (z := (-10 : Int32)) (by decide) (n := 13) rfl ?_
    refine gIstoreN X w d30_13 #[.val (.int x9), .val (.int (0 : Int32)), .val (.int (-10 : Int32)), .unset] rfl (n := 14) rfl ?_
    refine gIconst X w d30_14 (z := (1 : Int32)) rfl (n := 15) rfl ?_
    refine gIstoreN X w d30_15 #[.val (.int x9), .val (.int (0 : Int32)), .val (.int (-10 : Int32)), .val (.int (1 : Int32))] rfl (n := 16) rfl ?_
    refine gIloadN X w d30_16 rfl (n := 17) rfl ?_
    refine gBipush X w d30_17 (z := (10 : Int32)) (by decide) (n := 19) rfl ?_
    refine gIcmp_ge X w d30_19 (n := 42) (n' := 22) (by decide) rfl rfl ?_ ?_
    · intro c19
      exact absurd c19 (by decide)
    · intro c19
      refine gIloadN X w d30_22 rfl (n := 23) rfl ?_
      refine gIloadN X w d30_23 rfl (n := 24) rfl ?_
      refine gIcmp_le X w d30_24 (n := 31) (n' := 27) (by decide) rfl rfl ?_ ?_
      · intro c24
        refine gBipush X w d30_31 (z := (10 : Int32)) (by decide) (n := 33) rfl ?_
        refine gIloadN X w d30_33 rfl (n := 34) rfl ?_
        refine gImul X w d30_34 (z := (-100 : Int32)) (by decide) (n := 35) rfl ?_
        refine gIstoreN X w d30_35 #[.val (.int x9), .val (.int (0 : Int32)), .val (.int (-100 : Int32)), .val (.int (1 : Int32))] rfl (n := 36) rfl ?_
        refine gIinc X w d30_36 rfl (z := (2 : Int32)) (by decide) #[.val (.int x9), .val (.int (0 : Int32)), .val (.int (-100 : Int32)), .val (.int (2 : Int32))] rfl (n := 39) rfl ?_
        refine gGoto X w d30_39 (by decide) (n := 16) rfl ?_
        refine gIloadN X w d30_16 rfl (n := 17) rfl ?_
        refine gBipush X w d30_17 (z := (10 : Int32)) (by decide) (n := 19) rfl ?_
        refine gIcmp_ge X w d30_19 (n := 42) (n' := 22) (by decide) rfl rfl ?_ ?_
        · intro c19
          exact absurd c19 (by decide)
        · intro c19
          refine gIloadN X w d30_22 rfl (n := 23) rfl ?_
          refine gIloadN X w d30_23 rfl (n := 24) rfl ?_
          refine gIcmp_le X w d30_24 (n := 31) (n' := 27) (by decide) rfl rfl ?_ ?_
          · intro c24
            refine gBipush X w d30_31 (z := (10 : Int32)) (by decide) (n := 33) rfl ?_
            refine gIloadN X w d30_33 rfl (n := 34) rfl ?_
            refine gImul X w d30_34 (z := (-1000 : Int32)) (by decide) (n := 35) rfl ?_
            refine gIstoreN X w d30_35 #[.val (.int x9), .val (.int (0 : Int32)), .val (.int (-1000 : Int32)), .val (.int (2 : Int32))] rfl (n := 36) rfl ?_
            refine gIinc X w d30_36 rfl (z := (3 : Int32)) (by decide) #[.val (.int x9), .val (.int (0 : Int32)), .val (.int (-1000 : Int32)), .val (.int (3 : Int32))] rfl (n := 39) rfl ?_
            refine gGoto X w d30_39 (by decide) (n := 16) rfl ?_
            refine gIloadN X w d30_16 rfl (n := 17) rfl ?_
            refine gBipush X w d30_17 (z := (10 : Int32)) (by decide) (n := 19) rfl ?_
            refine gIcmp_ge X w d30_19 (n := 42) (n' := 22) (by decide) rfl rfl ?_ ?_
            · intro c19
              exact absurd c19 (by decide)
            · intro c19
              refine gIloadN X w d30_22 rfl (n := 23) rfl ?_
              refine gIloadN X w d30_23 rfl (n := 24) rfl ?_
              refine gIcmp_le X w d30_24 (n := 31) (n' := 27) (by decide) rfl rfl ?_ ?_
              · intro c24
                refine gBipush X w d30_31 (z := (10 : Int32)) (by decide) (n := 33) rfl ?_
                refine gIloadN X w d30_33 rfl (n := 34) rfl ?_
                refine gImul X w d30_34 (z := (-10000 : Int32)) (by decide) (n := 35) rfl ?_
                refine gIstoreN X w d30_35 #[.val (.int x9), .val (.int (0 : Int32)), .val (.int (-10000 : Int32)), .val (.int (3 : Int32))] rfl (n := 36) rfl ?_
                refine gIinc X w d30_36 rfl (z := (4 : Int32)) (by decide) #[.val (.int x9), .val (.int (0 : Int32)), .val (.int (-10000 : Int32)), .val (.int (4 : Int32))] rfl (n := 39) rfl ?_
                refine gGoto X w d30_39 (by decide) (n := 16) rfl ?_
                refine gIloadN X w d30_16 rfl (n := 17) rfl ?_
                refine gBipush X w d30_17 (z := (10 : Int32)) (by decide) (n := 19) rfl ?_
                refine gIcmp_ge X w d30_19 (n := 42) (n' := 22) (by decide) rfl rfl ?_ ?_
                · intro c19
                  exact absurd c19 (by decide)
                · intro c19
                  refine gIloadN X w d30_22 rfl (n := 23) rfl ?_
                  refine gIloadN X w d30_23 rfl (n := 24) rfl ?_
                  refine gIcmp_le X w d30_24 (n := 31) (n' := 27) (by decide) rfl rfl ?_ ?_
                  · intro c24
                    refine gBipush X w d30_31 (z := (10 : Int32)) (by decide) (n := 33) rfl ?_
                    refine gIloadN X w d30_33 rfl (n := 34) rfl ?_
                    refine gImul X w d30_34 (z := (-100000 : Int32)) (by decide) (n := 35) rfl ?_
                    refine gIstoreN X w d30_35 #[.val (.int x9), .val (.int (0 : Int32)), .val (.int (-100000 : Int32)), .val (.int (4 : Int32))] rfl (n := 36) rfl ?_
                    refine gIinc X w d30_36 rfl (z := (5 : Int32)) (by decide) #[.val (.int x9), .val (.int (0 : Int32)), .val (.int (-100000 : Int32)), .val (.int (5 : Int32))] rfl (n := 39) rfl ?_
                    refine gGoto X w d30_39 (by decide) (n := 16) rfl ?_
                    refine gIloadN X w d30_16 rfl (n := 17) rfl ?_
                    refine gBipush X w d30_17 (z := (10 : Int32)) (by decide) (n := 19) rfl ?_
                    refine gIcmp_ge X w d30_19 (n := 42) (n' := 22) (by decide) rfl rfl ?_ ?_
                    · intro c19
                      exact absurd c19 (by decide)
                    · intro c19
                      refine gIloadN X w d30_22 rfl (n := 23) rfl ?_
                      refine gIloadN X w d30_23 rfl (n := 24) rfl ?_
                      refine gIcmp_le X w d30_24 (n := 31) (n' := 27) (by decide) rfl rfl ?_ ?_
                      · intro c24
                        exact absurd c24 (by have e0 : (-100000 : Int32).toInt = -100000 := rfl; omega)
                      · intro c24
                        refine gIloadN X w d30_27 rfl (n := 28) rfl ?_
                        refine gIloadN X w d30_28 rfl (n := 29) rfl ?_
                        refine gIadd X w d30_29 (z := (5 : Int32)) (by decide) (n := 30) rfl ?_
                        exact gRetI X w rfl d30_30 (by decide) (by decide) (⟨rfl, _, rfl, rfl, rfl⟩)
                  · intro c24
                    exact absurd c24 (by have e0 : (-10000 : Int32).toInt = -10000 := rfl; omega)
              · intro c24
                exact absurd c24 (by have e0 : (-1000 : Int32).toInt = -1000 := rfl; omega)
          · intro c24
            exact absurd c24 (by have e0 : (-100 : Int32).toInt = -100 := rfl; omega)
      · intro c24
        exact absurd c24 (by have e0 : (-10 : Int32).toInt = -10 := rfl; omega)
theorem own_digits (l : Launch) (Z : State) (a0 : Array Value) (hw : ∀ d ∈ tables_1, d.before a0 Z = true) (pt : Int32) (h0 : Heap) (n0 : Nat) {D : Addr → Prop} (hn : n0 ≤ h0.size) (hpt : 0 ≤ pt.toInt ∧ pt.toInt ≤ 65535) :
    ConV l Z (⟨"com/example/tidemark/tidemark/protocol/HostPortToStringPinLaw", "digits", "(I)I"⟩ : MethodName) method_4_code 1 (some .int) ({ frames := 0, cells := 0, slots := 0, locals := 0 } : Room) #[(.int pt)] h0 n0 D (fun v h => h0 = h ∧ v = (.int (own_nd pt))) := by
  rcases own_dcase hpt with ⟨hlo, hhi⟩ | ⟨hlo, hhi⟩ | ⟨hlo, hhi⟩ | ⟨hlo, hhi⟩ | ⟨hlo, hhi⟩
  · have en : own_nd pt = (1 : Int32) := by unfold own_nd; rw [own_dl_1 hhi]; rfl
    rw [en]; exact own_digits_1 l Z a0 hw pt h0 n0 hn hlo hhi hpt
  · have en : own_nd pt = (2 : Int32) := by unfold own_nd; rw [own_dl_2 hlo hhi]; rfl
    rw [en]; exact own_digits_2 l Z a0 hw pt h0 n0 hn hlo hhi hpt
  · have en : own_nd pt = (3 : Int32) := by unfold own_nd; rw [own_dl_3 hlo hhi]; rfl
    rw [en]; exact own_digits_3 l Z a0 hw pt h0 n0 hn hlo hhi hpt
  · have en : own_nd pt = (4 : Int32) := by unfold own_nd; rw [own_dl_4 hlo hhi]; rfl
    rw [en]; exact own_digits_4 l Z a0 hw pt h0 n0 hn hlo hhi hpt
  · have en : own_nd pt = (5 : Int32) := by unfold own_nd; rw [own_dl_5 hlo]; rfl
    rw [en]; exact own_digits_5 l Z a0 hw pt h0 n0 hn hlo hhi hpt
theorem own_ssize (l : Launch) (Z : State) (a0 : Array Value) (hw : ∀ d ∈ tables_1, d.before a0 Z = true) (pt : Int32) (h0 : Heap) (n0 : Nat) {D : Addr → Prop} (hn : n0 ≤ h0.size) (hpt : 0 ≤ pt.toInt ∧ pt.toInt ≤ 65535) :
    ConV l Z (⟨"java/lang/Integer", "stringSize", "(I)I"⟩ : MethodName) jdk_33_method_13_code 4 (some .int) ({ frames := 0, cells := 0, slots := 0, locals := 0 } : Room) #[(.int pt)] h0 n0 D (fun v h => h0 = h ∧ v = (.int (own_nd pt))) := by
  rcases own_dcase hpt with ⟨hlo, hhi⟩ | ⟨hlo, hhi⟩ | ⟨hlo, hhi⟩ | ⟨hlo, hhi⟩ | ⟨hlo, hhi⟩
  · have en : own_nd pt = (1 : Int32) := by unfold own_nd; rw [own_dl_1 hhi]; rfl
    rw [en]; exact own_ssize_1 l Z a0 hw pt h0 n0 hn hlo hhi hpt
  · have en : own_nd pt = (2 : Int32) := by unfold own_nd; rw [own_dl_2 hlo hhi]; rfl
    rw [en]; exact own_ssize_2 l Z a0 hw pt h0 n0 hn hlo hhi hpt
  · have en : own_nd pt = (3 : Int32) := by unfold own_nd; rw [own_dl_3 hlo hhi]; rfl
    rw [en]; exact own_ssize_3 l Z a0 hw pt h0 n0 hn hlo hhi hpt
  · have en : own_nd pt = (4 : Int32) := by unfold own_nd; rw [own_dl_4 hlo hhi]; rfl
    rw [en]; exact own_ssize_4 l Z a0 hw pt h0 n0 hn hlo hhi hpt
  · have en : own_nd pt = (5 : Int32) := by unfold own_nd; rw [own_dl_5 hlo]; rfl
    rw [en]; exact own_ssize_5 l Z a0 hw pt h0 n0 hn hlo hhi hpt
set_option maxRecDepth 65536 in
set_option maxHeartbeats 40000000 in
theorem own_gc_1 (l : Launch) (Z : State) (a0 : Array Value) (hw : ∀ d ∈ tables_1, d.before a0 Z = true) (pt : Int32) (ix : Int32) (ub : Addr) (on : Addr) (te : Addr) (ons : List Value) (tes : List Value) (ct : List Value) (r0 : Value) (rt : List Value) (h0 : Heap) (n0 : Nat) {D : Addr → Prop} (hn : n0 ≤ h0.size) (P0 : Sta Z h0 "java/lang/Integer" "DigitOnes" "[B" (.ref on)) (P1 : Sta Z h0 "java/lang/Integer" "DigitTens" "[B" (.ref te)) (P2 : Av Z h0 on .byte ons) (P3 : Av Z h0 te .byte tes) (P4 : Av Z h0 ub .byte (ct ++ (r0 :: rt))) (hlo : 0 ≤ pt.toInt) (hhi : pt.toInt < 10) (hpt : 0 ≤ pt.toInt ∧ pt.toInt ≤ 65535) (hon : ∀ j : Int32, 0 ≤ j.toInt → j.toInt < 100 → ons[j.toInt.toNat]? = some (.int (48 + j % 10))) (hte : ∀ j : Int32, 0 ≤ j.toInt → j.toInt < 100 → tes[j.toInt.toNat]? = some (.int (48 + j / 10))) (hix : ix.toInt = ct.length + 1) (hl16 : ct.length + 1 + rt.length = 16) (ne_on_ub : on ≠ ub) (ne_te_ub : te ≠ ub) (na_ub : n0 ≤ ub ∧ ¬ D ub) :
    ConV l Z (⟨"java/lang/Integer", "getChars", "(II[B)I"⟩ : MethodName) jdk_33_method_12_code 7 (some .int) ({ frames := 0, cells := 0, slots := 0, locals := 0 } : Room) #[(.int pt), (.int ix), (.ref ub)] h0 n0 D (fun v h => Keep h0 h [ub] ∧ ∃ (rv : Int32) (rs2 : List Value), v = (.int rv) ∧ Av Z h ub .byte ((ct ++ own_dl pt) ++ rs2) ∧ ((ct ++ own_dl pt).length + rs2.length = 16) ∧ (∀ v ∈ rs2, v ∈ rt)) := by
  refine Con.of (plainFor_of_name (by first | (simp [plainName, overriddenIn]; done) | decide +kernel)) hn ?_
  intro p e s m below meth c T w X
  refine Gl.enter (ls := #[.val (.int pt), .val (.int ix), .val (.ref ub), .unset, .unset, .unset, .unset]) (by first | (simp [entryFrame, mkF, argsToLocals, Value.category]; done) | rfl) ?_
  have K_0 : Keep h0 h0 [ub] := Keep.refl _ _
  refine gIloadN X w d32_0 rfl (n := 1) rfl ?_
  refine gIstore X w d32_1 #[.val (.int pt), .val (.int ix), .val (.ref ub), .unset, .unset, .val (.int ix), .unset] rfl (n := 3) rfl ?_
  refine gIloadN X w d32_3 rfl (n := 4) rfl ?_
  refine gIf_ge X w d32_4 (n := 11) (n' := 7) (by decide) rfl rfl ?_ ?_
  · intro c4
    refine gIconst X w d32_11 (z := (0 : Int32)) rfl (n := 12) rfl ?_
    refine gIstore X w d32_12 #[.val (.int pt), .val (.int ix), .val (.ref ub), .unset, .unset, .val (.int ix), .val (.int (0 : Int32))] rfl (n := 14) rfl ?_
    refine gIload X w d32_14 rfl (n := 16) rfl ?_
    refine gIf_ne X w d32_16 (n := 22) (n' := 19) (by decide) rfl rfl ?_ ?_
    · rintro ⟨c16, c16'⟩
      exact absurd c16 (by decide)
    · rintro ⟨c16, c16'⟩
      refine gIloadN X w d32_19 rfl (n := 20) rfl ?_
      obtain ⟨x20, q20⟩ : ∃ zz_ : Int32, -pt = zz_ := ⟨_, rfl⟩
      refine gIneg X w d32_20 q20 (n := 21) rfl ?_
      have i_0 : x20.toInt = -(pt.toInt / 1) := by rw [← q20, own_negI (by omega)]; omega
      refine gIstoreN X w d32_21 #[.val (.int x20), .val (.int ix), .val (.ref ub), .unset, .unset, .val (.int ix), .val (.int (0 : Int32))] rfl (n := 22) rfl ?_
      refine gIloadN X w d32_22 rfl (n := 23) rfl ?_
      refine gBipush X w d32_23 (z := (-100 : Int32)) (by decide) (n := 25) rfl ?_
      refine gIcmp_gt X w d32_25 (n := 72) (n' := 28) (by decide) rfl rfl ?_ ?_
      · intro c25
        refine gAloadN X w d32_72 rfl rfl (n := 73) rfl ?_
        obtain ⟨x73, q73⟩ : ∃ zz_ : Int32, ix + Int32.ofInt (-1) = zz_ := ⟨_, rfl⟩
        refine gIinc X w d32_73 rfl q73 #[.val (.int x20), .val (.int ix), .val (.ref ub), .unset, .unset, .val (.int x73), .val (.int (0 : Int32))] rfl (n := 76) rfl ?_
        have p_1 : x73.toInt = ct.length + 0 := by rw [← q73, iadd_toInt (by have e1 : (Int32.ofInt (-1)).toInt = -1 := rfl; omega) (by have e1 : (Int32.ofInt (-1)).toInt = -1 := rfl; omega)]; have e1 : (Int32.ofInt (-1)).toInt = -1 := rfl; omega
        refine gIload X w d32_76 rfl (n := 78) rfl ?_
        refine gGetS X w (own_wd hw 184 rfl) Via.refl P0 d32_78 (n := 81) rfl ?_
        intro T X
        refine gIloadN X w d32_81 rfl (n := 82) rfl ?_
        obtain ⟨x82, q82⟩ : ∃ zz_ : Int32, -x20 = zz_ := ⟨_, rfl⟩
        refine gIneg X w d32_82 q82 (n := 83) rfl ?_
        have g_x82 : x82.toInt = pt.toInt / 1 := by rw [← q82, own_negI (by omega)]; omega
        have e1 : (1 : Int32).toInt = 1 := rfl
        have rr : 0 ≤ x82.toInt ∧ x82.toInt < 100 := ⟨by omega, by omega⟩
        refine gBaload X w P2 rr.1 (v := .int (own_dg pt (1 : Int32))) ((hon x82 rr.1 rr.2).trans (congrArg (fun z => some (Value.int z)) (own_one 1 rfl hpt (by decide) rr (by omega)))) d32_83 (n := 84) rfl ?_
        refine gBastore X w (z := (.int (own_dg pt (1 : Int32)))) P4 (by omega) (by simp only [List.length_append, List.length_cons]; omega) na_ub (congrArg Value.int (own_nardg hpt (by decide))) (vs' := (ct ++ ((.int (own_dg pt (1 : Int32))) :: rt))) ((own_seta (k := 0) (by omega)).trans rfl) d32_84 (n := 85) rfl ?_
        intro T h_1 X W_1 V_1
        have F_2 := K_0.wr W_1 (Or.inl (by simp))
        have F_3 := P0.wr W_1
        have F_4 := P1.wr W_1
        have F_5 := P2.other W_1 ne_on_ub
        have F_6 := P3.other W_1 ne_te_ub
        refine gIloadN X w d32_85 rfl (n := 86) rfl ?_
        refine gBipush X w d32_86 (z := (-9 : Int32)) (by decide) (n := 88) rfl ?_
        refine gIcmp_ge X w d32_88 (n := 104) (n' := 91) (by decide) rfl rfl ?_ ?_
        · intro c88
          refine gIload X w d32_104 rfl (n := 106) rfl ?_
          refine gIf_eq X w d32_106 (n := 118) (n' := 109) (by decide) rfl rfl ?_ ?_
          · rintro ⟨c106, c106'⟩
            refine gIload X w d32_118 rfl (n := 120) rfl ?_
            exact gRetI X w rfl d32_120 (by decide) (by decide) (⟨rfl, _, rfl, F_2, x73, rt, rfl, (by rw [own_dl_1 hhi, List.append_assoc]; exact V_1), (by rw [own_dl_1 hhi]; simp only [List.length_append, List.length_cons, List.length_nil]; omega), (fun _ h => h)⟩)
          · rintro ⟨c106, c106'⟩
            exact absurd c106 (by decide)
        · intro c88
          exact absurd c88 (by have e0 : (-9 : Int32).toInt = -9 := rfl; omega)
      · intro c25
        exact absurd c25 (by have e0 : (-100 : Int32).toInt = -100 := rfl; omega)
  · intro c4
    exact absurd c4 (by omega)
set_option maxRecDepth 65536 in
set_option maxHeartbeats 40000000 in
theorem own_gc_2 (l : Launch) (Z : State) (a0 : Array Value) (hw : ∀ d ∈ tables_1, d.before a0 Z = true) (pt : Int32) (ix : Int32) (ub : Addr) (on : Addr) (te : Addr) (ons : List Value) (tes : List Value) (ct : List Value) (r0 : Value) (r1 : Value) (rt : List Value) (h0 : Heap) (n0 : Nat) {D : Addr → Prop} (hn : n0 ≤ h0.size) (P0 : Sta Z h0 "java/lang/Integer" "DigitOnes" "[B" (.ref on)) (P1 : Sta Z h0 "java/lang/Integer" "DigitTens" "[B" (.ref te)) (P2 : Av Z h0 on .byte ons) (P3 : Av Z h0 te .byte tes) (P4 : Av Z h0 ub .byte (ct ++ (r0 :: r1 :: rt))) (hlo : 10 ≤ pt.toInt) (hhi : pt.toInt < 100) (hpt : 0 ≤ pt.toInt ∧ pt.toInt ≤ 65535) (hon : ∀ j : Int32, 0 ≤ j.toInt → j.toInt < 100 → ons[j.toInt.toNat]? = some (.int (48 + j % 10))) (hte : ∀ j : Int32, 0 ≤ j.toInt → j.toInt < 100 → tes[j.toInt.toNat]? = some (.int (48 + j / 10))) (hix : ix.toInt = ct.length + 2) (hl16 : ct.length + 2 + rt.length = 16) (ne_on_ub : on ≠ ub) (ne_te_ub : te ≠ ub) (na_ub : n0 ≤ ub ∧ ¬ D ub) :
    ConV l Z (⟨"java/lang/Integer", "getChars", "(II[B)I"⟩ : MethodName) jdk_33_method_12_code 7 (some .int) ({ frames := 0, cells := 0, slots := 0, locals := 0 } : Room) #[(.int pt), (.int ix), (.ref ub)] h0 n0 D (fun v h => Keep h0 h [ub] ∧ ∃ (rv : Int32) (rs2 : List Value), v = (.int rv) ∧ Av Z h ub .byte ((ct ++ own_dl pt) ++ rs2) ∧ ((ct ++ own_dl pt).length + rs2.length = 16) ∧ (∀ v ∈ rs2, v ∈ rt)) := by
  refine Con.of (plainFor_of_name (by first | (simp [plainName, overriddenIn]; done) | decide +kernel)) hn ?_
  intro p e s m below meth c T w X
  refine Gl.enter (ls := #[.val (.int pt), .val (.int ix), .val (.ref ub), .unset, .unset, .unset, .unset]) (by first | (simp [entryFrame, mkF, argsToLocals, Value.category]; done) | rfl) ?_
  have K_0 : Keep h0 h0 [ub] := Keep.refl _ _
  refine gIloadN X w d32_0 rfl (n := 1) rfl ?_
  refine gIstore X w d32_1 #[.val (.int pt), .val (.int ix), .val (.ref ub), .unset, .unset, .val (.int ix), .unset] rfl (n := 3) rfl ?_
  refine gIloadN X w d32_3 rfl (n := 4) rfl ?_
  refine gIf_ge X w d32_4 (n := 11) (n' := 7) (by decide) rfl rfl ?_ ?_
  · intro c4
    refine gIconst X w d32_11 (z := (0 : Int32)) rfl (n := 12) rfl ?_
    refine gIstore X w d32_12 #[.val (.int pt), .val (.int ix), .val (.ref ub), .unset, .unset, .val (.int ix), .val (.int (0 : Int32))] rfl (n := 14) rfl ?_
    refine gIload X w d32_14 rfl (n := 16) rfl ?_
    refine gIf_ne X w d32_16 (n := 22) (n' := 19) (by decide) rfl rfl ?_ ?_
    · rintro ⟨c16, c16'⟩
      exact absurd c16 (by decide)
    · rintro ⟨c16, c16'⟩
      refine gIloadN X w d32_19 rfl (n := 20) rfl ?_
      obtain ⟨x20, q20⟩ : ∃ zz_ : Int32, -pt = zz_ := ⟨_, rfl⟩
      refine gIneg X w d32_20 q20 (n := 21) rfl ?_
      have i_0 : x20.toInt = -(pt.toInt / 1) := by rw [← q20, own_negI (by omega)]; omega
      refine gIstoreN X w d32_21 #[.val (.int x20), .val (.int ix), .val (.ref ub), .unset, .unset, .val (.int ix), .val (.int (0 : Int32))] rfl (n := 22) rfl ?_
      refine gIloadN X w d32_22 rfl (n := 23) rfl ?_
      refine gBipush X w d32_23 (z := (-100 : Int32)) (by decide) (n := 25) rfl ?_
      refine gIcmp_gt X w d32_25 (n := 72) (n' := 28) (by decide) rfl rfl ?_ ?_
      · intro c25
        refine gAloadN X w d32_72 rfl rfl (n := 73) rfl ?_
        obtain ⟨x73, q73⟩ : ∃ zz_ : Int32, ix + Int32.ofInt (-1) = zz_ := ⟨_, rfl⟩
        refine gIinc X w d32_73 rfl q73 #[.val (.int x20), .val (.int ix), .val (.ref ub), .unset, .unset, .val (.int x73), .val (.int (0 : Int32))] rfl (n := 76) rfl ?_
        have p_1 : x73.toInt = ct.length + 1 := by rw [← q73, iadd_toInt (by have e1 : (Int32.ofInt (-1)).toInt = -1 := rfl; omega) (by have e1 : (Int32.ofInt (-1)).toInt = -1 := rfl; omega)]; have e1 : (Int32.ofInt (-1)).toInt = -1 := rfl; omega
        refine gIload X w d32_76 rfl (n := 78) rfl ?_
        refine gGetS X w (own_wd hw 184 rfl) Via.refl P0 d32_78 (n := 81) rfl ?_
        intro T X
        refine gIloadN X w d32_81 rfl (n := 82) rfl ?_
        obtain ⟨x82, q82⟩ : ∃ zz_ : Int32, -x20 = zz_ := ⟨_, rfl⟩
        refine gIneg X w d32_82 q82 (n := 83) rfl ?_
        have g_x82 : x82.toInt = pt.toInt / 1 := by rw [← q82, own_negI (by omega)]; omega
        have e1 : (1 : Int32).toInt = 1 := rfl
        have rr : 0 ≤ x82.toInt ∧ x82.toInt < 100 := ⟨by omega, by omega⟩
        refine gBaload X w P2 rr.1 (v := .int (own_dg pt (1 : Int32))) ((hon x82 rr.1 rr.2).trans (congrArg (fun z => some (Value.int z)) (own_one 1 rfl hpt (by decide) rr (by omega)))) d32_83 (n := 84) rfl ?_
        refine gBastore X w (z := (.int (own_dg pt (1 : Int32)))) P4 (by omega) (by simp only [List.length_append, List.length_cons]; omega) na_ub (congrArg Value.int (own_nardg hpt (by decide))) (vs' := (ct ++ (r0 :: (.int (own_dg pt (1 : Int32))) :: rt))) ((own_seta (k := 1) (by omega)).trans rfl) d32_84 (n := 85) rfl ?_
        intro T h_1 X W_1 V_1
        have F_2 := K_0.wr W_1 (Or.inl (by simp))
        have F_3 := P0.wr W_1
        have F_4 := P1.wr W_1
        have F_5 := P2.other W_1 ne_on_ub
        have F_6 := P3.other W_1 ne_te_ub
        refine gIloadN X w d32_85 rfl (n := 86) rfl ?_
        refine gBipush X w d32_86 (z := (-9 : Int32)) (by decide) (n := 88) rfl ?_
        refine gIcmp_ge X w d32_88 (n := 104) (n' := 91) (by decide) rfl rfl ?_ ?_
        · intro c88
          exact absurd c88 (by have e0 : (-9 : Int32).toInt = -9 := rfl; omega)
        · intro c88
          refine gAloadN X w d32_91 rfl rfl (n := 92) rfl ?_
          obtain ⟨x92, q92⟩ : ∃ zz_ : Int32, x73 + Int32.ofInt (-1) = zz_ := ⟨_, rfl⟩
          refine gIinc X w d32_92 rfl q92 #[.val (.int x20), .val (.int ix), .val (.ref ub), .unset, .unset, .val (.int x92), .val (.int (0 : Int32))] rfl (n := 95) rfl ?_
          have p_2 : x92.toInt = ct.length + 0 := by rw [← q92, iadd_toInt (by have e1 : (Int32.ofInt (-1)).toInt = -1 := rfl; omega) (by have e1 : (Int32.ofInt (-1)).toInt = -1 := rfl; omega)]; have e1 : (Int32.ofInt (-1)).toInt = -1 := rfl; omega
          refine gIload X w d32_95 rfl (n := 97) rfl ?_
          refine gGetS X w (own_wd hw 255 rfl) Via.refl F_4 d32_97 (n := 100) rfl ?_
          intro T X
          refine gIloadN X w d32_100 rfl (n := 101) rfl ?_
          obtain ⟨x101, q101⟩ : ∃ zz_ : Int32, -x20 = zz_ := ⟨_, rfl⟩
          refine gIneg X w d32_101 q101 (n := 102) rfl ?_
          have g_x101 : x101.toInt = pt.toInt / 1 := by rw [← q101, own_negI (by omega)]; omega
          have e10 : (10 : Int32).toInt = 10 := rfl
          have rr : 0 ≤ x101.toInt ∧ x101.toInt < 100 := ⟨by omega, by omega⟩
          refine gBaload X w F_6 rr.1 (v := .int (own_dg pt (10 : Int32))) ((hte x101 rr.1 rr.2).trans (congrArg (fun z => some (Value.int z)) (own_ten 10 rfl hpt (by decide) rr (by omega)))) d32_102 (n := 103) rfl ?_
          refine gBastore X w (z := (.int (own_dg pt (10 : Int32)))) V_1 (by omega) (by simp only [List.length_append, List.length_cons]; omega) na_ub (congrArg Value.int (own_nardg hpt (by decide))) (vs' := (ct ++ ((.int (own_dg pt (10 : Int32))) :: (.int (own_dg pt (1 : Int32))) :: rt))) ((own_seta (k := 0) (by omega)).trans rfl) d32_103 (n := 104) rfl ?_
          intro T h_7 X W_7 V_7
          have F_8 := F_2.wr W_7 (Or.inl (by simp))
          have F_9 := F_3.wr W_7
          have F_10 := F_4.wr W_7
          have F_11 := F_5.other W_7 ne_on_ub
          have F_12 := F_6.other W_7 ne_te_ub
          refine gIload X w d32_104 rfl (n := 106) rfl ?_
          refine gIf_eq X w d32_106 (n := 118) (n' := 109) (by decide) rfl rfl ?_ ?_
          · rintro ⟨c106, c106'⟩
            refine gIload X w d32_118 rfl (n := 120) rfl ?_
            exact gRetI X w rfl d32_120 (by decide) (by decide) (⟨rfl, _, rfl, F_8, x92, rt, rfl, (by rw [own_dl_2 hlo hhi, List.append_assoc]; exact V_7), (by rw [own_dl_2 hlo hhi]; simp only [List.length_append, List.length_cons, List.length_nil]; omega), (fun _ h => h)⟩)
          · rintro ⟨c106, c106'⟩
            exact absurd c106 (by decide)
      · intro c25
        exact absurd c25 (by have e0 : (-100 : Int32).toInt = -100 := rfl; omega)
  · intro c4
    exact absurd c4 (by omega)
set_option maxRecDepth 65536 in
set_option maxHeartbeats 40000000 in
theorem own_gc_3 (l : Launch) (Z : State) (a0 : Array Value) (hw : ∀ d ∈ tables_1, d.before a0 Z = true) (pt : Int32) (ix : Int32) (ub : Addr) (on : Addr) (te : Addr) (ons : List Value) (tes : List Value) (ct : List Value) (r0 : Value) (r1 : Value) (r2 : Value) (rt : List Value) (h0 : Heap) (n0 : Nat) {D : Addr → Prop} (hn : n0 ≤ h0.size) (P0 : Sta Z h0 "java/lang/Integer" "DigitOnes" "[B" (.ref on)) (P1 : Sta Z h0 "java/lang/Integer" "DigitTens" "[B" (.ref te)) (P2 : Av Z h0 on .byte ons) (P3 : Av Z h0 te .byte tes) (P4 : Av Z h0 ub .byte (ct ++ (r0 :: r1 :: r2 :: rt))) (hlo : 100 ≤ pt.toInt) (hhi : pt.toInt < 1000) (hpt : 0 ≤ pt.toInt ∧ pt.toInt ≤ 65535) (hon : ∀ j : Int32, 0 ≤ j.toInt → j.toInt < 100 → ons[j.toInt.toNat]? = some (.int (48 + j % 10))) (hte : ∀ j : Int32, 0 ≤ j.toInt → j.toInt < 100 → tes[j.toInt.toNat]? = some (.int (48 + j / 10))) (hix : ix.toInt = ct.length + 3) (hl16 : ct.length + 3 + rt.length = 16) (ne_on_ub : on ≠ ub) (ne_te_ub : te ≠ ub) (na_ub : n0 ≤ ub ∧ ¬ D ub) :
    ConV l Z (⟨"java/lang/Integer", "getChars", "(II[B)I"⟩ : MethodName) jdk_33_method_12_code 7 (some .int) ({ frames := 0, cells := 0, slots := 0, locals := 0 } : Room) #[(.int pt), (.int ix), (.ref ub)] h0 n0 D (fun v h => Keep h0 h [ub] ∧ ∃ (rv : Int32) (rs2 : List Value), v = (.int rv) ∧ Av Z h ub .byte ((ct ++ own_dl pt) ++ rs2) ∧ ((ct ++ own_dl pt).length + rs2.length = 16) ∧ (∀ v ∈ rs2, v ∈ rt)) := by
  refine Con.of (plainFor_of_name (by first | (simp [plainName, overriddenIn]; done) | decide +kernel)) hn ?_
  intro p e s m below meth c T w X
  refine Gl.enter (ls := #[.val (.int pt), .val (.int ix), .val (.ref ub), .unset, .unset, .unset, .unset]) (by first | (simp [entryFrame, mkF, argsToLocals, Value.category]; done) | rfl) ?_
  have K_0 : Keep h0 h0 [ub] := Keep.refl _ _
  refine gIloadN X w d32_0 rfl (n := 1) rfl ?_
  refine gIstore X w d32_1 #[.val (.int pt), .val (.int ix), .val (.ref ub), .unset, .unset, .val (.int ix), .unset] rfl (n := 3) rfl ?_
  refine gIloadN X w d32_3 rfl (n := 4) rfl ?_
  refine gIf_ge X w d32_4 (n := 11) (n' := 7) (by decide) rfl rfl ?_ ?_
  · intro c4
    refine gIconst X w d32_11 (z := (0 : Int32)) rfl (n := 12) rfl ?_
    refine gIstore X w d32_12 #[.val (.int pt), .val (.int ix), .val (.ref ub), .unset, .unset, .val (.int ix), .val (.int (0 : Int32))] rfl (n := 14) rfl ?_
    refine gIload X w d32_14 rfl (n := 16) rfl ?_
    refine gIf_ne X w d32_16 (n := 22) (n' := 19) (by decide) rfl rfl ?_ ?_
    · rintro ⟨c16, c16'⟩
      exact absurd c16 (by decide)
    · rintro ⟨c16, c16'⟩
      refine gIloadN X w d32_19 rfl (n := 20) rfl ?_
      obtain ⟨x20, q20⟩ : ∃ zz_ : Int32, -pt = zz_ := ⟨_, rfl⟩
      refine gIneg X w d32_20 q20 (n := 21) rfl ?_
      have i_0 : x20.toInt = -(pt.toInt / 1) := by rw [← q20, own_negI (by omega)]; omega
      refine gIstoreN X w d32_21 #[.val (.int x20), .val (.int ix), .val (.ref ub), .unset, .unset, .val (.int ix), .val (.int (0 : Int32))] rfl (n := 22) rfl ?_
      refine gIloadN X w d32_22 rfl (n := 23) rfl ?_
      refine gBipush X w d32_23 (z := (-100 : Int32)) (by decide) (n := 25) rfl ?_
      refine gIcmp_gt X w d32_25 (n := 72) (n' := 28) (by decide) rfl rfl ?_ ?_
      · intro c25
        exact absurd c25 (by have e0 : (-100 : Int32).toInt = -100 := rfl; omega)
      · intro c25
        refine gIloadN X w d32_28 rfl (n := 29) rfl ?_
        refine gBipush X w d32_29 (z := (100 : Int32)) (by decide) (n := 31) rfl ?_
        obtain ⟨x31, q31⟩ : ∃ zz_ : Int32, x20 / (100 : Int32) = zz_ := ⟨_, rfl⟩
        refine gIdiv X w d32_31 (by decide) q31 (n := 32) rfl ?_
        have h100 : (100 : Int32).toInt = 100 := rfl
        have i_2 : x31.toInt = -(pt.toInt / 100) := by
          have t1 := c_idiv x20 100 100 rfl (by decide)
          rw [q31] at t1
          rcases Int.lt_or_le x20.toInt 0 with g | g
          · rw [t1.2 g]; omega
          · rw [t1.1 g]; omega
        refine gIstoreN X w d32_32 #[.val (.int x20), .val (.int ix), .val (.ref ub), .val (.int x31), .unset, .val (.int ix), .val (.int (0 : Int32))] rfl (n := 33) rfl ?_
        refine gIloadN X w d32_33 rfl (n := 34) rfl ?_
        refine gBipush X w d32_34 (z := (100 : Int32)) (by decide) (n := 36) rfl ?_
        obtain ⟨x36, q36⟩ : ∃ zz_ : Int32, x31 * (100 : Int32) = zz_ := ⟨_, rfl⟩
        refine gImul X w d32_36 q36 (n := 37) rfl ?_
        have m_2 : x36.toInt = x31.toInt * 100 := by rw [← q36]; exact own_mulI rfl (by omega)
        refine gIloadN X w d32_37 rfl (n := 38) rfl ?_
        obtain ⟨x38, q38⟩ : ∃ zz_ : Int32, x36 - x20 = zz_ := ⟨_, rfl⟩
        refine gIsub X w d32_38 q38 (n := 39) rfl ?_
        have r_2 : x38.toInt = (pt.toInt / 1) % 100 := by rw [← q38, isub_toInt (by omega) (by omega)]; omega
        refine gIstore X w d32_39 #[.val (.int x20), .val (.int ix), .val (.ref ub), .val (.int x31), .val (.int x38), .val (.int ix), .val (.int (0 : Int32))] rfl (n := 41) rfl ?_
        refine gIloadN X w d32_41 rfl (n := 42) rfl ?_
        refine gIstoreN X w d32_42 #[.val (.int x31), .val (.int ix), .val (.ref ub), .val (.int x31), .val (.int x38), .val (.int ix), .val (.int (0 : Int32))] rfl (n := 43) rfl ?_
        refine gAloadN X w d32_43 rfl rfl (n := 44) rfl ?_
        obtain ⟨x44, q44⟩ : ∃ zz_ : Int32, ix + Int32.ofInt (-1) = zz_ := ⟨_, rfl⟩
        refine gIinc X w d32_44 rfl q44 #[.val (.int x31), .val (.int ix), .val (.ref ub), .val (.int x31), .val (.int x38), .val (.int x44), .val (.int (0 : Int32))] rfl (n := 47) rfl ?_
        have p_1 : x44.toInt = ct.length + 2 := by rw [← q44, iadd_toInt (by have e1 : (Int32.ofInt (-1)).toInt = -1 := rfl; omega) (by have e1 : (Int32.ofInt (-1)).toInt = -1 := rfl; omega)]; have e1 : (Int32.ofInt (-1)).toInt = -1 := rfl; omega
        refine gIload X w d32_47 rfl (n := 49) rfl ?_
        refine gGetS X w (own_wd hw 184 rfl) Via.refl P0 d32_49 (n := 52) rfl ?_
        intro T X
        refine gIload X w d32_52 rfl (n := 54) rfl ?_
        have e1 : (1 : Int32).toInt = 1 := rfl
        have rr : 0 ≤ x38.toInt ∧ x38.toInt < 100 := ⟨by omega, by omega⟩
        refine gBaload X w P2 rr.1 (v := .int (own_dg pt (1 : Int32))) ((hon x38 rr.1 rr.2).trans (congrArg (fun z => some (Value.int z)) (own_one 1 rfl hpt (by decide) rr (by omega)))) d32_54 (n := 55) rfl ?_
        refine gBastore X w (z := (.int (own_dg pt (1 : Int32)))) P4 (by omega) (by simp only [List.length_append, List.length_cons]; omega) na_ub (congrArg Value.int (own_nardg hpt (by decide))) (vs' := (ct ++ (r0 :: r1 :: (.int (own_dg pt (1 : Int32))) :: rt))) ((own_seta (k := 2) (by omega)).trans rfl) d32_55 (n := 56) rfl ?_
        intro T h_1 X W_1 V_1
        have F_2 := K_0.wr W_1 (Or.inl (by simp))
        have F_3 := P0.wr W_1
        have F_4 := P1.wr W_1
        have F_5 := P2.other W_1 ne_on_ub
        have F_6 := P3.other W_1 ne_te_ub
        refine gAloadN X w d32_56 rfl rfl (n := 57) rfl ?_
        obtain ⟨x57, q57⟩ : ∃ zz_ : Int32, x44 + Int32.ofInt (-1) = zz_ := ⟨_, rfl⟩
        refine gIinc X w d32_57 rfl q57 #[.val (.int x31), .val (.int ix), .val (.ref ub), .val (.int x31), .val (.int x38), .val (.int x57), .val (.int (0 : Int32))] rfl (n := 60) rfl ?_
        have p_2 : x57.toInt = ct.length + 1 := by rw [← q57, iadd_toInt (by have e1 : (Int32.ofInt (-1)).toInt = -1 := rfl; omega) (by have e1 : (Int32.ofInt (-1)).toInt = -1 := rfl; omega)]; have e1 : (Int32.ofInt (-1)).toInt = -1 := rfl; omega
        refine gIload X w d32_60 rfl (n := 62) rfl ?_
        refine gGetS X w (own_wd hw 255 rfl) Via.refl F_4 d32_62 (n := 65) rfl ?_
        intro T X
        refine gIload X w d32_65 rfl (n := 67) rfl ?_
        have e10 : (10 : Int32).toInt = 10 := rfl
        have rr : 0 ≤ x38.toInt ∧ x38.toInt < 100 := ⟨by omega, by omega⟩
        refine gBaload X w F_6 rr.1 (v := .int (own_dg pt (10 : Int32))) ((hte x38 rr.1 rr.2).trans (congrArg (fun z => some (Value.int z)) (own_ten 10 rfl hpt (by decide) rr (by omega)))) d32_67 (n := 68) rfl ?_
        refine gBastore X w (z := (.int (own_dg pt (10 : Int32)))) V_1 (by omega) (by simp only [List.length_append, List.length_cons]; omega) na_ub (congrArg Value.int (own_nardg hpt (by decide))) (vs' := (ct ++ (r0 :: (.int (own_dg pt (10 : Int32))) :: (.int (own_dg pt (1 : Int32))) :: rt))) ((own_seta (k := 1) (by omega)).trans rfl) d32_68 (n := 69) rfl ?_
        intro T h_7 X W_7 V_7
        have F_8 := F_2.wr W_7 (Or.inl (by simp))
        have F_9 := F_3.wr W_7
        have F_10 := F_4.wr W_7
        have F_11 := F_5.other W_7 ne_on_ub
        have F_12 := F_6.other W_7 ne_te_ub
        refine gGoto X w d32_69 (by decide) (n := 22) rfl ?_
        refine gIloadN X w d32_22 rfl (n := 23) rfl ?_
        refine gBipush X w d32_23 (z := (-100 : Int32)) (by decide) (n := 25) rfl ?_
        refine gIcmp_gt X w d32_25 (n := 72) (n' := 28) (by decide) rfl rfl ?_ ?_
        · intro c25
          refine gAloadN X w d32_72 rfl rfl (n := 73) rfl ?_
          obtain ⟨x73, q73⟩ : ∃ zz_ : Int32, x57 + Int32.ofInt (-1) = zz_ := ⟨_, rfl⟩
          refine gIinc X w d32_73 rfl q73 #[.val (.int x31), .val (.int ix), .val (.ref ub), .val (.int x31), .val (.int x38), .val (.int x73), .val (.int (0 : Int32))] rfl (n := 76) rfl ?_
          have p_3 : x73.toInt = ct.length + 0 := by rw [← q73, iadd_toInt (by have e1 : (Int32.ofInt (-1)).toInt = -1 := rfl; omega) (by have e1 : (Int32.ofInt (-1)).toInt = -1 := rfl; omega)]; have e1 : (Int32.ofInt (-1)).toInt = -1 := rfl; omega
          refine gIload X w d32_76 rfl (n := 78) rfl ?_
          refine gGetS X w (own_wd hw 184 rfl) Via.refl F_9 d32_78 (n := 81) rfl ?_
          intro T X
          refine gIloadN X w d32_81 rfl (n := 82) rfl ?_
          obtain ⟨x82, q82⟩ : ∃ zz_ : Int32, -x31 = zz_ := ⟨_, rfl⟩
          refine gIneg X w d32_82 q82 (n := 83) rfl ?_
          have g_x82 : x82.toInt = pt.toInt / 100 := by rw [← q82, own_negI (by omega)]; omega
          have e100 : (100 : Int32).toInt = 100 := rfl
          have rr : 0 ≤ x82.toInt ∧ x82.toInt < 100 := ⟨by omega, by omega⟩
          refine gBaload X w F_11 rr.1 (v := .int (own_dg pt (100 : Int32))) ((hon x82 rr.1 rr.2).trans (congrArg (fun z => some (Value.int z)) (own_one 100 rfl hpt (by decide) rr (by omega)))) d32_83 (n := 84) rfl ?_
          refine gBastore X w (z := (.int (own_dg pt (100 : Int32)))) V_7 (by omega) (by simp only [List.length_append, List.length_cons]; omega) na_ub (congrArg Value.int (own_nardg hpt (by decide))) (vs' := (ct ++ ((.int (own_dg pt (100 : Int32))) :: (.int (own_dg pt (10 : Int32))) :: (.int (own_dg pt (1 : Int32))) :: rt))) ((own_seta (k := 0) (by omega)).trans rfl) d32_84 (n := 85) rfl ?_
          intro T h_13 X W_13 V_13
          have F_14 := F_8.wr W_13 (Or.inl (by simp))
          have F_15 := F_9.wr W_13
          have F_16 := F_10.wr W_13
          have F_17 := F_11.other W_13 ne_on_ub
          have F_18 := F_12.other W_13 ne_te_ub
          refine gIloadN X w d32_85 rfl (n := 86) rfl ?_
          refine gBipush X w d32_86 (z := (-9 : Int32)) (by decide) (n := 88) rfl ?_
          refine gIcmp_ge X w d32_88 (n := 104) (n' := 91) (by decide) rfl rfl ?_ ?_
          · intro c88
            refine gIload X w d32_104 rfl (n := 106) rfl ?_
            refine gIf_eq X w d32_106 (n := 118) (n' := 109) (by decide) rfl rfl ?_ ?_
            · rintro ⟨c106, c106'⟩
              refine gIload X w d32_118 rfl (n := 120) rfl ?_
              exact gRetI X w rfl d32_120 (by decide) (by decide) (⟨rfl, _, rfl, F_14, x73, rt, rfl, (by rw [own_dl_3 hlo hhi, List.append_assoc]; exact V_13), (by rw [own_dl_3 hlo hhi]; simp only [List.length_append, List.length_cons, List.length_nil]; omega), (fun _ h => h)⟩)
            · rintro ⟨c106, c106'⟩
              exact absurd c106 (by decide)
          · intro c88
            exact absurd c88 (by have e0 : (-9 : Int32).toInt = -9 := rfl; omega)
        · intro c25
          exact absurd c25 (by have e0 : (-100 : Int32).toInt = -100 := rfl; omega)
  · intro c4
    exact absurd c4 (by omega)
set_option maxRecDepth 65536 in
set_option maxHeartbeats 40000000 in
theorem own_gc_4 (l : Launch) (Z : State) (a0 : Array Value) (hw : ∀ d ∈ tables_1, d.before a0 Z = true) (pt : Int32) (ix : Int32) (ub : Addr) (on : Addr) (te : Addr) (ons : List Value) (tes : List Value) (ct : List Value) (r0 : Value) (r1 : Value) (r2 : Value) (r3 : Value) (rt : List Value) (h0 : Heap) (n0 : Nat) {D : Addr → Prop} (hn : n0 ≤ h0.size) (P0 : Sta Z h0 "java/lang/Integer" "DigitOnes" "[B" (.ref on)) (P1 : Sta Z h0 "java/lang/Integer" "DigitTens" "[B" (.ref te)) (P2 : Av Z h0 on .byte ons) (P3 : Av Z h0 te .byte tes) (P4 : Av Z h0 ub .byte (ct ++ (r0 :: r1 :: r2 :: r3 :: rt))) (hlo : 1000 ≤ pt.toInt) (hhi : pt.toInt < 10000) (hpt : 0 ≤ pt.toInt ∧ pt.toInt ≤ 65535) (hon : ∀ j : Int32, 0 ≤ j.toInt → j.toInt < 100 → ons[j.toInt.toNat]? = some (.int (48 + j % 10))) (hte : ∀ j : Int32, 0 ≤ j.toInt → j.toInt < 100 → tes[j.toInt.toNat]? = some (.int (48 + j / 10))) (hix : ix.toInt = ct.length + 4) (hl16 : ct.length + 4 + rt.length = 16) (ne_on_ub : on ≠ ub) (ne_te_ub : te ≠ ub) (na_ub : n0 ≤ ub ∧ ¬ D ub) :
    ConV l Z (⟨"java/lang/Integer", "getChars", "(II[B)I"⟩ : MethodName) jdk_33_method_12_code 7 (some .int) ({ frames := 0, cells := 0, slots := 0, locals := 0 } : Room) #[(.int pt), (.int ix), (.ref ub)] h0 n0 D (fun v h => Keep h0 h [ub] ∧ ∃ (rv : Int32) (rs2 : List Value), v = (.int rv) ∧ Av Z h ub .byte ((ct ++ own_dl pt) ++ rs2) ∧ ((ct ++ own_dl pt).length + rs2.length = 16) ∧ (∀ v ∈ rs2, v ∈ rt)) := by
  refine Con.of (plainFor_of_name (by first | (simp [plainName, overriddenIn]; done) | decide +kernel)) hn ?_
  intro p e s m below meth c T w X
  refine Gl.enter (ls := #[.val (.int pt), .val (.int ix), .val (.ref ub), .unset, .unset, .unset, .unset]) (by first | (simp [entryFrame, mkF, argsToLocals, Value.category]; done) | rfl) ?_
  have K_0 : Keep h0 h0 [ub] := Keep.refl _ _
  refine gIloadN X w d32_0 rfl (n := 1) rfl ?_
  refine gIstore X w d32_1 #[.val (.int pt), .val (.int ix), .val (.ref ub), .unset, .unset, .val (.int ix), .unset] rfl (n := 3) rfl ?_
  refine gIloadN X w d32_3 rfl (n := 4) rfl ?_
  refine gIf_ge X w d32_4 (n := 11) (n' := 7) (by decide) rfl rfl ?_ ?_
  · intro c4
    refine gIconst X w d32_11 (z := (0 : Int32)) rfl (n := 12) rfl ?_
    refine gIstore X w d32_12 #[.val (.int pt), .val (.int ix), .val (.ref ub), .unset, .unset, .val (.int ix), .val (.int (0 : Int32))] rfl (n := 14) rfl ?_
    refine gIload X w d32_14 rfl (n := 16) rfl ?_
    refine gIf_ne X w d32_16 (n := 22) (n' := 19) (by decide) rfl rfl ?_ ?_
    · rintro ⟨c16, c16'⟩
      exact absurd c16 (by decide)
    · rintro ⟨c16, c16'⟩
      refine gIloadN X w d32_19 rfl (n := 20) rfl ?_
      obtain ⟨x20, q20⟩ : ∃ zz_ : Int32, -pt = zz_ := ⟨_, rfl⟩
      refine gIneg X w d32_20 q20 (n := 21) rfl ?_
      have i_0 : x20.toInt = -(pt.toInt / 1) := by rw [← q20, own_negI (by omega)]; omega
      refine gIstoreN X w d32_21 #[.val (.int x20), .val (.int ix), .val (.ref ub), .unset, .unset, .val (.int ix), .val (.int (0 : Int32))] rfl (n := 22) rfl ?_
      refine gIloadN X w d32_22 rfl (n := 23) rfl ?_
      refine gBipush X w d32_23 (z := (-100 : Int32)) (by decide) (n := 25) rfl ?_
      refine gIcmp_gt X w d32_25 (n := 72) (n' := 28) (by decide) rfl rfl ?_ ?_
      · intro c25
        exact absurd c25 (by have e0 : (-100 : Int32).toInt = -100 := rfl; omega)
      · intro c25
        refine gIloadN X w d32_28 rfl (n := 29) rfl ?_
        refine gBipush X w d32_29 (z := (100 : Int32)) (by decide) (n := 31) rfl ?_
        obtain ⟨x31, q31⟩ : ∃ zz_ : Int32, x20 / (100 : Int32) = zz_ := ⟨_, rfl⟩
        refine gIdiv X w d32_31 (by decide) q31 (n := 32) rfl ?_
        have h100 : (100 : Int32).toInt = 100 := rfl
        have i_2 : x31.toInt = -(pt.toInt / 100) := by
          have t1 := c_idiv x20 100 100 rfl (by decide)
          rw [q31] at t1
          rcases Int.lt_or_le x20.toInt 0 with g | g
          · rw [t1.2 g]; omega
          · rw [t1.1 g]; omega
        refine gIstoreN X w d32_32 #[.val (.int x20), .val (.int ix), .val (.ref ub), .val (.int x31), .unset, .val (.int ix), .val (.int (0 : Int32))] rfl (n := 33) rfl ?_
        refine gIloadN X w d32_33 rfl (n := 34) rfl ?_
        refine gBipush X w d32_34 (z := (100 : Int32)) (by decide) (n := 36) rfl ?_
        obtain ⟨x36, q36⟩ : ∃ zz_ : Int32, x31 * (100 : Int32) = zz_ := ⟨_, rfl⟩
        refine gImul X w d32_36 q36 (n := 37) rfl ?_
        have m_2 : x36.toInt = x31.toInt * 100 := by rw [← q36]; exact own_mulI rfl (by omega)
        refine gIloadN X w d32_37 rfl (n := 38) rfl ?_
        obtain ⟨x38, q38⟩ : ∃ zz_ : Int32, x36 - x20 = zz_ := ⟨_, rfl⟩
        refine gIsub X w d32_38 q38 (n := 39) rfl ?_
        have r_2 : x38.toInt = (pt.toInt / 1) % 100 := by rw [← q38, isub_toInt (by omega) (by omega)]; omega
        refine gIstore X w d32_39 #[.val (.int x20), .val (.int ix), .val (.ref ub), .val (.int x31), .val (.int x38), .val (.int ix), .val (.int (0 : Int32))] rfl (n := 41) rfl ?_
        refine gIloadN X w d32_41 rfl (n := 42) rfl ?_
        refine gIstoreN X w d32_42 #[.val (.int x31), .val (.int ix), .val (.ref ub), .val (.int x31), .val (.int x38), .val (.int ix), .val (.int (0 : Int32))] rfl (n := 43) rfl ?_
        refine gAloadN X w d32_43 rfl rfl (n := 44) rfl ?_
        obtain ⟨x44, q44⟩ : ∃ zz_ : Int32, ix + Int32.ofInt (-1) = zz_ := ⟨_, rfl⟩
        refine gIinc X w d32_44 rfl q44 #[.val (.int x31), .val (.int ix), .val (.ref ub), .val (.int x31), .val (.int x38), .val (.int x44), .val (.int (0 : Int32))] rfl (n := 47) rfl ?_
        have p_1 : x44.toInt = ct.length + 3 := by rw [← q44, iadd_toInt (by have e1 : (Int32.ofInt (-1)).toInt = -1 := rfl; omega) (by have e1 : (Int32.ofInt (-1)).toInt = -1 := rfl; omega)]; have e1 : (Int32.ofInt (-1)).toInt = -1 := rfl; omega
        refine gIload X w d32_47 rfl (n := 49) rfl ?_
        refine gGetS X w (own_wd hw 184 rfl) Via.refl P0 d32_49 (n := 52) rfl ?_
        intro T X
        refine gIload X w d32_52 rfl (n := 54) rfl ?_
        have e1 : (1 : Int32).toInt = 1 := rfl
        have rr : 0 ≤ x38.toInt ∧ x38.toInt < 100 := ⟨by omega, by omega⟩
        refine gBaload X w P2 rr.1 (v := .int (own_dg pt (1 : Int32))) ((hon x38 rr.1 rr.2).trans (congrArg (fun z => some (Value.int z)) (own_one 1 rfl hpt (by decide) rr (by omega)))) d32_54 (n := 55) rfl ?_
        refine gBastore X w (z := (.int (own_dg pt (1 : Int32)))) P4 (by omega) (by simp only [List.length_append, List.length_cons]; omega) na_ub (congrArg Value.int (own_nardg hpt (by decide))) (vs' := (ct ++ (r0 :: r1 :: r2 :: (.int (own_dg pt (1 : Int32))) :: rt))) ((own_seta (k := 3) (by omega)).trans rfl) d32_55 (n := 56) rfl ?_
        intro T h_1 X W_1 V_1
        have F_2 := K_0.wr W_1 (Or.inl (by simp))
        have F_3 := P0.wr W_1
        have F_4 := P1.wr W_1
        have F_5 := P2.other W_1 ne_on_ub
        have F_6 := P3.other W_1 ne_te_ub
        refine gAloadN X w d32_56 rfl rfl (n := 57) rfl ?_
        obtain ⟨x57, q57⟩ : ∃ zz_ : Int32, x44 + Int32.ofInt (-1) = zz_ := ⟨_, rfl⟩
        refine gIinc X w d32_57 rfl q57 #[.val (.int x31), .val (.int ix), .val (.ref ub), .val (.int x31), .val (.int x38), .val (.int x57), .val (.int (0 : Int32))] rfl (n := 60) rfl ?_
        have p_2 : x57.toInt = ct.length + 2 := by rw [← q57, iadd_toInt (by have e1 : (Int32.ofInt (-1)).toInt = -1 := rfl; omega) (by have e1 : (Int32.ofInt (-1)).toInt = -1 := rfl; omega)]; have e1 : (Int32.ofInt (-1)).toInt = -1 := rfl; omega
        refine gIload X w d32_60 rfl (n := 62) rfl ?_
        refine gGetS X w (own_wd hw 255 rfl) Via.refl F_4 d32_62 (n := 65) rfl ?_
        intro T X
        refine gIload X w d32_65 rfl (n := 67) rfl ?_
        have e10 : (10 : Int32).toInt = 10 := rfl
        have rr : 0 ≤ x38.toInt ∧ x38.toInt < 100 := ⟨by omega, by omega⟩
        refine gBaload X w F_6 rr.1 (v := .int (own_dg pt (10 : Int32))) ((hte x38 rr.1 rr.2).trans (congrArg (fun z => some (Value.int z)) (own_ten 10 rfl hpt (by decide) rr (by omega)))) d32_67 (n := 68) rfl ?_
        refine gBastore X w (z := (.int (own_dg pt (10 : Int32)))) V_1 (by omega) (by simp only [List.length_append, List.length_cons]; omega) na_ub (congrArg Value.int (own_nardg hpt (by decide))) (vs' := (ct ++ (r0 :: r1 :: (.int (own_dg pt (10 : Int32))) :: (.int (own_dg pt (1 : Int32))) :: rt))) ((own_seta (k := 2) (by omega)).trans rfl) d32_68 (n := 69) rfl ?_
        intro T h_7 X W_7 V_7
        have F_8 := F_2.wr W_7 (Or.inl (by simp))
        have F_9 := F_3.wr W_7
        have F_10 := F_4.wr W_7
        have F_11 := F_5.other W_7 ne_on_ub
        have F_12 := F_6.other W_7 ne_te_ub
        refine gGoto X w d32_69 (by decide) (n := 22) rfl ?_
        refine gIloadN X w d32_22 rfl (n := 23) rfl ?_
        refine gBipush X w d32_23 (z := (-100 : Int32)) (by decide) (n := 25) rfl ?_
        refine gIcmp_gt X w d32_25 (n := 72) (n' := 28) (by decide) rfl rfl ?_ ?_
        · intro c25
          refine gAloadN X w d32_72 rfl rfl (n := 73) rfl ?_
          obtain ⟨x73, q73⟩ : ∃ zz_ : Int32, x57 + Int32.ofInt (-1) = zz_ := ⟨_, rfl⟩
          refine gIinc X w d32_73 rfl q73 #[.val (.int x31), .val (.int ix), .val (.ref ub), .val (.int x31), .val (.int x38), .val (.int x73), .val (.int (0 : Int32))] rfl (n := 76) rfl ?_
          have p_3 : x73.toInt = ct.length + 1 := by rw [← q73, iadd_toInt (by have e1 : (Int32.ofInt (-1)).toInt = -1 := rfl; omega) (by have e1 : (Int32.ofInt (-1)).toInt = -1 := rfl; omega)]; have e1 : (Int32.ofInt (-1)).toInt = -1 := rfl; omega
          refine gIload X w d32_76 rfl (n := 78) rfl ?_
          refine gGetS X w (own_wd hw 184 rfl) Via.refl F_9 d32_78 (n := 81) rfl ?_
          intro T X
          refine gIloadN X w d32_81 rfl (n := 82) rfl ?_
          obtain ⟨x82, q82⟩ : ∃ zz_ : Int32, -x31 = zz_ := ⟨_, rfl⟩
          refine gIneg X w d32_82 q82 (n := 83) rfl ?_
          have g_x82 : x82.toInt = pt.toInt / 100 := by rw [← q82, own_negI (by omega)]; omega
          have e100 : (100 : Int32).toInt = 100 := rfl
          have rr : 0 ≤ x82.toInt ∧ x82.toInt < 100 := ⟨by omega, by omega⟩
          refine gBaload X w F_11 rr.1 (v := .int (own_dg pt (100 : Int32))) ((hon x82 rr.1 rr.2).trans (congrArg (fun z => some (Value.int z)) (own_one 100 rfl hpt (by decide) rr (by omega)))) d32_83 (n := 84) rfl ?_
          refine gBastore X w (z := (.int (own_dg pt (100 : Int32)))) V_7 (by omega) (by simp only [List.length_append, List.length_cons]; omega) na_ub (congrArg Value.int (own_nardg hpt (by decide))) (vs' := (ct ++ (r0 :: (.int (own_dg pt (100 : Int32))) :: (.int (own_dg pt (10 : Int32))) :: (.int (own_dg pt (1 : Int32))) :: rt))) ((own_seta (k := 1) (by omega)).trans rfl) d32_84 (n := 85) rfl ?_
          intro T h_13 X W_13 V_13
          have F_14 := F_8.wr W_13 (Or.inl (by simp))
          have F_15 := F_9.wr W_13
          have F_16 := F_10.wr W_13
          have F_17 := F_11.other W_13 ne_on_ub
          have F_18 := F_12.other W_13 ne_te_ub
          refine gIloadN X w d32_85 rfl (n := 86) rfl ?_
          refine gBipush X w d32_86 (z := (-9 : Int32)) (by decide) (n := 88) rfl ?_
          refine gIcmp_ge X w d32_88 (n := 104) (n' := 91) (by decide) rfl rfl ?_ ?_
          · intro c88
            exact absurd c88 (by have e0 : (-9 : Int32).toInt = -9 := rfl; omega)
          · intro c88
            refine gAloadN X w d32_91 rfl rfl (n := 92) rfl ?_
            obtain ⟨x92, q92⟩ : ∃ zz_ : Int32, x73 + Int32.ofInt (-1) = zz_ := ⟨_, rfl⟩
            refine gIinc X w d32_92 rfl q92 #[.val (.int x31), .val (.int ix), .val (.ref ub), .val (.int x31), .val (.int x38), .val (.int x92), .val (.int (0 : Int32))] rfl (n := 95) rfl ?_
            have p_4 : x92.toInt = ct.length + 0 := by rw [← q92, iadd_toInt (by have e1 : (Int32.ofInt (-1)).toInt = -1 := rfl; omega) (by have e1 : (Int32.ofInt (-1)).toInt = -1 := rfl; omega)]; have e1 : (Int32.ofInt (-1)).toInt = -1 := rfl; omega
            refine gIload X w d32_95 rfl (n := 97) rfl ?_
            refine gGetS X w (own_wd hw 255 rfl) Via.refl F_16 d32_97 (n := 100) rfl ?_
            intro T X
            refine gIloadN X w d32_100 rfl (n := 101) rfl ?_
            obtain ⟨x101, q101⟩ : ∃ zz_ : Int32, -x31 = zz_ := ⟨_, rfl⟩
            refine gIneg X w d32_101 q101 (n := 102) rfl ?_
            have g_x101 : x101.toInt = pt.toInt / 100 := by rw [← q101, own_negI (by omega)]; omega
            have e1000 : (1000 : Int32).toInt = 1000 := rfl
            have rr : 0 ≤ x101.toInt ∧ x101.toInt < 100 := ⟨by omega, by omega⟩
            refine gBaload X w F_18 rr.1 (v := .int (own_dg pt (1000 : Int32))) ((hte x101 rr.1 rr.2).trans (congrArg (fun z => some (Value.int z)) (own_ten 1000 rfl hpt (by decide) rr (by omega)))) d32_102 (n := 103) rfl ?_
            refine gBastore X w (z := (.int (own_dg pt (1000 : Int32)))) V_13 (by omega) (by simp only [List.length_append, List.length_cons]; omega) na_ub (congrArg Value.int (own_nardg hpt (by decide))) (vs' := (ct ++ ((.int (own_dg pt (1000 : Int32))) :: (.int (own_dg pt (100 : Int32))) :: (.int (own_dg pt (10 : Int32))) :: (.int (own_dg pt (1 : Int32))) :: rt))) ((own_seta (k := 0) (by omega)).trans rfl) d32_103 (n := 104) rfl ?_
            intro T h_19 X W_19 V_19
            have F_20 := F_14.wr W_19 (Or.inl (by simp))
            have F_21 := F_15.wr W_19
            have F_22 := F_16.wr W_19
            have F_23 := F_17.other W_19 ne_on_ub
            have F_24 := F_18.other W_19 ne_te_ub
            refine gIload X w d32_104 rfl (n := 106) rfl ?_
            refine gIf_eq X w d32_106 (n := 118) (n' := 109) (by decide) rfl rfl ?_ ?_
            · rintro ⟨c106, c106'⟩
              refine gIload X w d32_118 rfl (n := 120) rfl ?_
              exact gRetI X w rfl d32_120 (by decide) (by decide) (⟨rfl, _, rfl, F_20, x92, rt, rfl, (by rw [own_dl_4 hlo hhi, List.append_assoc]; exact V_19), (by rw [own_dl_4 hlo hhi]; simp only [List.length_append, List.length_cons, List.length_nil]; omega), (fun _ h => h)⟩)
            · rintro ⟨c106, c106'⟩
              exact absurd c106 (by decide)
        · intro c25
          exact absurd c25 (by have e0 : (-100 : Int32).toInt = -100 := rfl; omega)
  · intro c4
    exact absurd c4 (by omega)
set_option maxRecDepth 65536 in
set_option maxHeartbeats 40000000 in
theorem own_gc_5 (l : Launch) (Z : State) (a0 : Array Value) (hw : ∀ d ∈ tables_1, d.before a0 Z = true) (pt : Int32) (ix : Int32) (ub : Addr) (on : Addr) (te : Addr) (ons : List Value) (tes : List Value) (ct : List Value) (r0 : Value) (r1 : Value) (r2 : Value) (r3 : Value) (r4 : Value) (rt : List Value) (h0 : Heap) (n0 : Nat) {D : Addr → Prop} (hn : n0 ≤ h0.size) (P0 : Sta Z h0 "java/lang/Integer" "DigitOnes" "[B" (.ref on)) (P1 : Sta Z h0 "java/lang/Integer" "DigitTens" "[B" (.ref te)) (P2 : Av Z h0 on .byte ons) (P3 : Av Z h0 te .byte tes) (P4 : Av Z h0 ub .byte (ct ++ (r0 :: r1 :: r2 :: r3 :: r4 :: rt))) (hlo : 10000 ≤ pt.toInt) (hhi : pt.toInt < 100000) (hpt : 0 ≤ pt.toInt ∧ pt.toInt ≤ 65535) (hon : ∀ j : Int32, 0 ≤ j.toInt → j.toInt < 100 → ons[j.toInt.toNat]? = some (.int (48 + j % 10))) (hte : ∀ j : Int32, 0 ≤ j.toInt → j.toInt < 100 → tes[j.toInt.toNat]? = some (.int (48 + j / 10))) (hix : ix.toInt = ct.length + 5) (hl16 : ct.length + 5 + rt.length = 16) (ne_on_ub : on ≠ ub) (ne_te_ub : te ≠ ub) (na_ub : n0 ≤ ub ∧ ¬ D ub) :
    ConV l Z (⟨"java/lang/Integer", "getChars", "(II[B)I"⟩ : MethodName) jdk_33_method_12_code 7 (some .int) ({ frames := 0, cells := 0, slots := 0, locals := 0 } : Room) #[(.int pt), (.int ix), (.ref ub)] h0 n0 D (fun v h => Keep h0 h [ub] ∧ ∃ (rv : Int32) (rs2 : List Value), v = (.int rv) ∧ Av Z h ub .byte ((ct ++ own_dl pt) ++ rs2) ∧ ((ct ++ own_dl pt).length + rs2.length = 16) ∧ (∀ v ∈ rs2, v ∈ rt)) := by
  refine Con.of (plainFor_of_name (by first | (simp [plainName, overriddenIn]; done) | decide +kernel)) hn ?_
  intro p e s m below meth c T w X
  refine Gl.enter (ls := #[.val (.int pt), .val (.int ix), .val (.ref ub), .unset, .unset, .unset, .unset]) (by first | (simp [entryFrame, mkF, argsToLocals, Value.category]; done) | rfl) ?_
  have K_0 : Keep h0 h0 [ub] := Keep.refl _ _
  refine gIloadN X w d32_0 rfl (n := 1) rfl ?_
  refine gIstore X w d32_1 #[.val (.int pt), .val (.int ix), .val (.ref ub), .unset, .unset, .val (.int ix), .unset] rfl (n := 3) rfl ?_
  refine gIloadN X w d32_3 rfl (n := 4) rfl ?_
  refine gIf_ge X w d32_4 (n := 11) (n' := 7) (by decide) rfl rfl ?_ ?_
  · intro c4
    refine gIconst X w d32_11 (z := (0 : Int32)) rfl (n := 12) rfl ?_
    refine gIstore X w d32_12 #[.val (.int pt), .val (.int ix), .val (.ref ub), .unset, .unset, .val (.int ix), .val (.int (0 : Int32))] rfl (n := 14) rfl ?_
    refine gIload X w d32_14 rfl (n := 16) rfl ?_
    refine gIf_ne X w d32_16 (n := 22) (n' := 19) (by decide) rfl rfl ?_ ?_
    · rintro ⟨c16, c16'⟩
      exact absurd c16 (by decide)
    · rintro ⟨c16, c16'⟩
      refine gIloadN X w d32_19 rfl (n := 20) rfl ?_
      obtain ⟨x20, q20⟩ : ∃ zz_ : Int32, -pt = zz_ := ⟨_, rfl⟩
      refine gIneg X w d32_20 q20 (n := 21) rfl ?_
      have i_0 : x20.toInt = -(pt.toInt / 1) := by rw [← q20, own_negI (by omega)]; omega
      refine gIstoreN X w d32_21 #[.val (.int x20), .val (.int ix), .val (.ref ub), .unset, .unset, .val (.int ix), .val (.int (0 : Int32))] rfl (n := 22) rfl ?_
      refine gIloadN X w d32_22 rfl (n := 23) rfl ?_
      refine gBipush X w d32_23 (z := (-100 : Int32)) (by decide) (n := 25) rfl ?_
      refine gIcmp_gt X w d32_25 (n := 72) (n' := 28) (by decide) rfl rfl ?_ ?_
      · intro c25
        exact absurd c25 (by have e0 : (-100 : Int32).toInt = -100 := rfl; omega)
      · intro c25
        refine gIloadN X w d32_28 rfl (n := 29) rfl ?_
        refine gBipush X w d32_29 (z := (100 : Int32)) (by decide) (n := 31) rfl ?_
        obtain ⟨x31, q31⟩ : ∃ zz_ : Int32, x20 / (100 : Int32) = zz_ := ⟨_, rfl⟩
        refine gIdiv X w d32_31 (by decide) q31 (n := 32) rfl ?_
        have h100 : (100 : Int32).toInt = 100 := rfl
        have i_2 : x31.toInt = -(pt.toInt / 100) := by
          have t1 := c_idiv x20 100 100 rfl (by decide)
          rw [q31] at t1
          rcases Int.lt_or_le x20.toInt 0 with g | g
          · rw [t1.2 g]; omega
          · rw [t1.1 g]; omega
        refine gIstoreN X w d32_32 #[.val (.int x20), .val (.int ix), .val (.ref ub), .val (.int x31), .unset, .val (.int ix), .val (.int (0 : Int32))] rfl (n := 33) rfl ?_
        refine gIloadN X w d32_33 rfl (n := 34) rfl ?_
        refine gBipush X w d32_34 (z := (100 : Int32)) (by decide) (n := 36) rfl ?_
        obtain ⟨x36, q36⟩ : ∃ zz_ : Int32, x31 * (100 : Int32) = zz_ := ⟨_, rfl⟩
        refine gImul X w d32_36 q36 (n := 37) rfl ?_
        have m_2 : x36.toInt = x31.toInt * 100 := by rw [← q36]; exact own_mulI rfl (by omega)
        refine gIloadN X w d32_37 rfl (n := 38) rfl ?_
        obtain ⟨x38, q38⟩ : ∃ zz_ : Int32, x36 - x20 = zz_ := ⟨_, rfl⟩
        refine gIsub X w d32_38 q38 (n := 39) rfl ?_
        have r_2 : x38.toInt = (pt.toInt / 1) % 100 := by rw [← q38, isub_toInt (by omega) (by omega)]; omega
        refine gIstore X w d32_39 #[.val (.int x20), .val (.int ix), .val (.ref ub), .val (.int x31), .val (.int x38), .val (.int ix), .val (.int (0 : Int32))] rfl (n := 41) rfl ?_
        refine gIloadN X w d32_41 rfl (n := 42) rfl ?_
        refine gIstoreN X w d32_42 #[.val (.int x31), .val (.int ix), .val (.ref ub), .val (.int x31), .val (.int x38), .val (.int ix), .val (.int (0 : Int32))] rfl (n := 43) rfl ?_
        refine gAloadN X w d32_43 rfl rfl (n := 44) rfl ?_
        obtain ⟨x44, q44⟩ : ∃ zz_ : Int32, ix + Int32.ofInt (-1) = zz_ := ⟨_, rfl⟩
        refine gIinc X w d32_44 rfl q44 #[.val (.int x31), .val (.int ix), .val (.ref ub), .val (.int x31), .val (.int x38), .val (.int x44), .val (.int (0 : Int32))] rfl (n := 47) rfl ?_
        have p_1 : x44.toInt = ct.length + 4 := by rw [← q44, iadd_toInt (by have e1 : (Int32.ofInt (-1)).toInt = -1 := rfl; omega) (by have e1 : (Int32.ofInt (-1)).toInt = -1 := rfl; omega)]; have e1 : (Int32.ofInt (-1)).toInt = -1 := rfl; omega
        refine gIload X w d32_47 rfl (n := 49) rfl ?_
        refine gGetS X w (own_wd hw 184 rfl) Via.refl P0 d32_49 (n := 52) rfl ?_
        intro T X
        refine gIload X w d32_52 rfl (n := 54) rfl ?_
        have e1 : (1 : Int32).toInt = 1 := rfl
        have rr : 0 ≤ x38.toInt ∧ x38.toInt < 100 := ⟨by omega, by omega⟩
        refine gBaload X w P2 rr.1 (v := .int (own_dg pt (1 : Int32))) ((hon x38 rr.1 rr.2).trans (congrArg (fun z => some (Value.int z)) (own_one 1 rfl hpt (by decide) rr (by omega)))) d32_54 (n := 55) rfl ?_
        refine gBastore X w (z := (.int (own_dg pt (1 : Int32)))) P4 (by omega) (by simp only [List.length_append, List.length_cons]; omega) na_ub (congrArg Value.int (own_nardg hpt (by decide))) (vs' := (ct ++ (r0 :: r1 :: r2 :: r3 :: (.int (own_dg pt (1 : Int32))) :: rt))) ((own_seta (k := 4) (by omega)).trans rfl) d32_55 (n := 56) rfl ?_
        intro T h_1 X W_1 V_1
        have F_2 := K_0.wr W_1 (Or.inl (by simp))
        have F_3 := P0.wr W_1
        have F_4 := P1.wr W_1
        have F_5 := P2.other W_1 ne_on_ub
        have F_6 := P3.other W_1 ne_te_ub
        refine gAloadN X w d32_56 rfl rfl (n := 57) rfl ?_
        obtain ⟨x57, q57⟩ : ∃ zz_ : Int32, x44 + Int32.ofInt (-1) = zz_ := ⟨_, rfl⟩
        refine gIinc X w d32_57 rfl q57 #[.val (.int x31), .val (.int ix), .val (.ref ub), .val (.int x31), .val (.int x38), .val (.int x57), .val (.int (0 : Int32))] rfl (n := 60) rfl ?_
        have p_2 : x57.toInt = ct.length + 3 := by rw [← q57, iadd_toInt (by have e1 : (Int32.ofInt (-1)).toInt = -1 := rfl; omega) (by have e1 : (Int32.ofInt (-1)).toInt = -1 := rfl; omega)]; have e1 : (Int32.ofInt (-1)).toInt = -1 := rfl; omega
        refine gIload X w d32_60 rfl (n := 62) rfl ?_
        refine gGetS X w (own_wd hw 255 rfl) Via.refl F_4 d32_62 (n := 65) rfl ?_
        intro T X
        refine gIload X w d32_65 rfl (n := 67) rfl ?_
        have e10 : (10 : Int32).toInt = 10 := rfl
        have rr : 0 ≤ x38.toInt ∧ x38.toInt < 100 := ⟨by omega, by omega⟩
        refine gBaload X w F_6 rr.1 (v := .int (own_dg pt (10 : Int32))) ((hte x38 rr.1 rr.2).trans (congrArg (fun z => some (Value.int z)) (own_ten 10 rfl hpt (by decide) rr (by omega)))) d32_67 (n := 68) rfl ?_
        refine gBastore X w (z := (.int (own_dg pt (10 : Int32)))) V_1 (by omega) (by simp only [List.length_append, List.length_cons]; omega) na_ub (congrArg Value.int (own_nardg hpt (by decide))) (vs' := (ct ++ (r0 :: r1 :: r2 :: (.int (own_dg pt (10 : Int32))) :: (.int (own_dg pt (1 : Int32))) :: rt))) ((own_seta (k := 3) (by omega)).trans rfl) d32_68 (n := 69) rfl ?_
        intro T h_7 X W_7 V_7
        have F_8 := F_2.wr W_7 (Or.inl (by simp))
        have F_9 := F_3.wr W_7
        have F_10 := F_4.wr W_7
        have F_11 := F_5.other W_7 ne_on_ub
        have F_12 := F_6.other W_7 ne_te_ub
        refine gGoto X w d32_69 (by decide) (n := 22) rfl ?_
        refine gIloadN X w d32_22 rfl (n := 23) rfl ?_
        refine gBipush X w d32_23 (z := (-100 : Int32)) (by decide) (n := 25) rfl ?_
        refine gIcmp_gt X w d32_25 (n := 72) (n' := 28) (by decide) rfl rfl ?_ ?_
        · intro c25
          exact absurd c25 (by have e0 : (-100 : Int32).toInt = -100 := rfl; omega)
        · intro c25
          refine gIloadN X w d32_28 rfl (n := 29) rfl ?_
          refine gBipush X w d32_29 (z := (100 : Int32)) (by decide) (n := 31) rfl ?_
          obtain ⟨x31_1, q31_1⟩ : ∃ zz_ : Int32, x31 / (100 : Int32) = zz_ := ⟨_, rfl⟩
          refine gIdiv X w d32_31 (by decide) q31_1 (n := 32) rfl ?_
          have h100 : (100 : Int32).toInt = 100 := rfl
          have i_4 : x31_1.toInt = -(pt.toInt / 10000) := by
            have t1 := c_idiv x31 100 100 rfl (by decide)
            rw [q31_1] at t1
            rcases Int.lt_or_le x31.toInt 0 with g | g
            · rw [t1.2 g]; omega
            · rw [t1.1 g]; omega
          refine gIstoreN X w d32_32 #[.val (.int x31), .val (.int ix), .val (.ref ub), .val (.int x31_1), .val (.int x38), .val (.int x57), .val (.int (0 : Int32))] rfl (n := 33) rfl ?_
          refine gIloadN X w d32_33 rfl (n := 34) rfl ?_
          refine gBipush X w d32_34 (z := (100 : Int32)) (by decide) (n := 36) rfl ?_
          obtain ⟨x36_1, q36_1⟩ : ∃ zz_ : Int32, x31_1 * (100 : Int32) = zz_ := ⟨_, rfl⟩
          refine gImul X w d32_36 q36_1 (n := 37) rfl ?_
          have m_4 : x36_1.toInt = x31_1.toInt * 100 := by rw [← q36_1]; exact own_mulI rfl (by omega)
          refine gIloadN X w d32_37 rfl (n := 38) rfl ?_
          obtain ⟨x38_1, q38_1⟩ : ∃ zz_ : Int32, x36_1 - x31 = zz_ := ⟨_, rfl⟩
          refine gIsub X w d32_38 q38_1 (n := 39) rfl ?_
          have r_4 : x38_1.toInt = (pt.toInt / 100) % 100 := by rw [← q38_1, isub_toInt (by omega) (by omega)]; omega
          refine gIstore X w d32_39 #[.val (.int x31), .val (.int ix), .val (.ref ub), .val (.int x31_1), .val (.int x38_1), .val (.int x57), .val (.int (0 : Int32))] rfl (n := 41) rfl ?_
          refine gIloadN X w d32_41 rfl (n := 42) rfl ?_
          refine gIstoreN X w d32_42 #[.val (.int x31_1), .val (.int ix), .val (.ref ub), .val (.int x31_1), .val (.int x38_1), .val (.int x57), .val (.int (0 : Int32))] rfl (n := 43) rfl ?_
          refine gAloadN X w d32_43 rfl rfl (n := 44) rfl ?_
          obtain ⟨x44_1, q44_1⟩ : ∃ zz_ : Int32, x57 + Int32.ofInt (-1) = zz_ := ⟨_, rfl⟩
          refine gIinc X w d32_44 rfl q44_1 #[.val (.int x31_1), .val (.int ix), .val (.ref ub), .val (.int x31_1), .val (.int x38_1), .val (.int x44_1), .val (.int (0 : Int32))] rfl (n := 47) rfl ?_
          have p_3 : x44_1.toInt = ct.length + 2 := by rw [← q44_1, iadd_toInt (by have e1 : (Int32.ofInt (-1)).toInt = -1 := rfl; omega) (by have e1 : (Int32.ofInt (-1)).toInt = -1 := rfl; omega)]; have e1 : (Int32.ofInt (-1)).toInt = -1 := rfl; omega
          refine gIload X w d32_47 rfl (n := 49) rfl ?_
          refine gGetS X w (own_wd hw 184 rfl) Via.refl F_9 d32_49 (n := 52) rfl ?_
          intro T X
          refine gIload X w d32_52 rfl (n := 54) rfl ?_
          have e100 : (100 : Int32).toInt = 100 := rfl
          have rr : 0 ≤ x38_1.toInt ∧ x38_1.toInt < 100 := ⟨by omega, by omega⟩
          refine gBaload X w F_11 rr.1 (v := .int (own_dg pt (100 : Int32))) ((hon x38_1 rr.1 rr.2).trans (congrArg (fun z => some (Value.int z)) (own_one 100 rfl hpt (by decide) rr (by omega)))) d32_54 (n := 55) rfl ?_
          refine gBastore X w (z := (.int (own_dg pt (100 : Int32)))) V_7 (by omega) (by simp only [List.length_append, List.length_cons]; omega) na_ub (congrArg Value.int (own_nardg hpt (by decide))) (vs' := (ct ++ (r0 :: r1 :: (.int (own_dg pt (100 : Int32))) :: (.int (own_dg pt (10 : Int32))) :: (.int (own_dg pt (1 : Int32))) :: rt))) ((own_seta (k := 2) (by omega)).trans rfl) d32_55 (n := 56) rfl ?_
          intro T h_13 X W_13 V_13
          have F_14 := F_8.wr W_13 (Or.inl (by simp))
          have F_15 := F_9.wr W_13
          have F_16 := F_10.wr W_13
          have F_17 := F_11.other W_13 ne_on_ub
          have F_18 := F_12.other W_13 ne_te_ub
          refine gAloadN X w d32_56 rfl rfl (n := 57) rfl ?_
          obtain ⟨x57_1, q57_1⟩ : ∃ zz_ : Int32, x44_1 + Int32.ofInt (-1) = zz_ := ⟨_, rfl⟩
          refine gIinc X w d32_57 rfl q57_1 #[.val (.int x31_1), .val (.int ix), .val (.ref ub), .val (.int x31_1), .val (.int x38_1), .val (.int x57_1), .val (.int (0 : Int32))] rfl (n := 60) rfl ?_
          have p_4 : x57_1.toInt = ct.length + 1 := by rw [← q57_1, iadd_toInt (by have e1 : (Int32.ofInt (-1)).toInt = -1 := rfl; omega) (by have e1 : (Int32.ofInt (-1)).toInt = -1 := rfl; omega)]; have e1 : (Int32.ofInt (-1)).toInt = -1 := rfl; omega
          refine gIload X w d32_60 rfl (n := 62) rfl ?_
          refine gGetS X w (own_wd hw 255 rfl) Via.refl F_16 d32_62 (n := 65) rfl ?_
          intro T X
          refine gIload X w d32_65 rfl (n := 67) rfl ?_
          have e1000 : (1000 : Int32).toInt = 1000 := rfl
          have rr : 0 ≤ x38_1.toInt ∧ x38_1.toInt < 100 := ⟨by omega, by omega⟩
          refine gBaload X w F_18 rr.1 (v := .int (own_dg pt (1000 : Int32))) ((hte x38_1 rr.1 rr.2).trans (congrArg (fun z => some (Value.int z)) (own_ten 1000 rfl hpt (by decide) rr (by omega)))) d32_67 (n := 68) rfl ?_
          refine gBastore X w (z := (.int (own_dg pt (1000 : Int32)))) V_13 (by omega) (by simp only [List.length_append, List.length_cons]; omega) na_ub (congrArg Value.int (own_nardg hpt (by decide))) (vs' := (ct ++ (r0 :: (.int (own_dg pt (1000 : Int32))) :: (.int (own_dg pt (100 : Int32))) :: (.int (own_dg pt (10 : Int32))) :: (.int (own_dg pt (1 : Int32))) :: rt))) ((own_seta (k := 1) (by omega)).trans rfl) d32_68 (n := 69) rfl ?_
          intro T h_19 X W_19 V_19
          have F_20 := F_14.wr W_19 (Or.inl (by simp))
          have F_21 := F_15.wr W_19
          have F_22 := F_16.wr W_19
          have F_23 := F_17.other W_19 ne_on_ub
          have F_24 := F_18.other W_19 ne_te_ub
          refine gGoto X w d32_69 (by decide) (n := 22) rfl ?_
          refine gIloadN X w d32_22 rfl (n := 23) rfl ?_
          refine gBipush X w d32_23 (z := (-100 : Int32)) (by decide) (n := 25) rfl ?_
          refine gIcmp_gt X w d32_25 (n := 72) (n' := 28) (by decide) rfl rfl ?_ ?_
          · intro c25
            refine gAloadN X w d32_72 rfl rfl (n := 73) rfl ?_
            obtain ⟨x73, q73⟩ : ∃ zz_ : Int32, x57_1 + Int32.ofInt (-1) = zz_ := ⟨_, rfl⟩
            refine gIinc X w d32_73 rfl q73 #[.val (.int x31_1), .val (.int ix), .val (.ref ub), .val (.int x31_1), .val (.int x38_1), .val (.int x73), .val (.int (0 : Int32))] rfl (n := 76) rfl ?_
            have p_5 : x73.toInt = ct.length + 0 := by rw [← q73, iadd_toInt (by have e1 : (Int32.ofInt (-1)).toInt = -1 := rfl; omega) (by have e1 : (Int32.ofInt (-1)).toInt = -1 := rfl; omega)]; have e1 : (Int32.ofInt (-1)).toInt = -1 := rfl; omega
            refine gIload X w d32_76 rfl (n := 78) rfl ?_
            refine gGetS X w (own_wd hw 184 rfl) Via.refl F_21 d32_78 (n := 81) rfl ?_
            intro T X
            refine gIloadN X w d32_81 rfl (n := 82) rfl ?_
            obtain ⟨x82, q82⟩ : ∃ zz_ : Int32, -x31_1 = zz_ := ⟨_, rfl⟩
            refine gIneg X w d32_82 q82 (n := 83) rfl ?_
            have g_x82 : x82.toInt = pt.toInt / 10000 := by rw [← q82, own_negI (by omega)]; omega
            have e10000 : (10000 : Int32).toInt = 10000 := rfl
            have rr : 0 ≤ x82.toInt ∧ x82.toInt < 100 := ⟨by omega, by omega⟩
            refine gBaload X w F_23 rr.1 (v := .int (own_dg pt (10000 : Int32))) ((hon x82 rr.1 rr.2).trans (congrArg (fun z => some (Value.int z)) (own_one 10000 rfl hpt (by decide) rr (by omega)))) d32_83 (n := 84) rfl ?_
            refine gBastore X w (z := (.int (own_dg pt (10000 : Int32)))) V_19 (by omega) (by simp only [List.length_append, List.length_cons]; omega) na_ub (congrArg Value.int (own_nardg hpt (by decide))) (vs' := (ct ++ ((.int (own_dg pt (10000 : Int32))) :: (.int (own_dg pt (1000 : Int32))) :: (.int (own_dg pt (100 : Int32))) :: (.int (own_dg pt (10 : Int32))) :: (.int (own_dg pt (1 : Int32))) :: rt))) ((own_seta (k := 0) (by omega)).trans rfl) d32_84 (n := 85) rfl ?_
            intro T h_25 X W_25 V_25
            have F_26 := F_20.wr W_25 (Or.inl (by simp))
            have F_27 := F_21.wr W_25
            have F_28 := F_22.wr W_25
            have F_29 := F_23.other W_25 ne_on_ub
            have F_30 := F_24.other W_25 ne_te_ub
            refine gIloadN X w d32_85 rfl (n := 86) rfl ?_
            refine gBipush X w d32_86 (z := (-9 : Int32)) (by decide) (n := 88) rfl ?_
            refine gIcmp_ge X w d32_88 (n := 104) (n' := 91) (by decide) rfl rfl ?_ ?_
            · intro c88
              refine gIload X w d32_104 rfl (n := 106) rfl ?_
              refine gIf_eq X w d32_106 (n := 118) (n' := 109) (by decide) rfl rfl ?_ ?_
              · rintro ⟨c106, c106'⟩
                refine gIload X w d32_118 rfl (n := 120) rfl ?_
                exact gRetI X w rfl d32_120 (by decide) (by decide) (⟨rfl, _, rfl, F_26, x73, rt, rfl, (by rw [own_dl_5 hlo, List.append_assoc]; exact V_25), (by rw [own_dl_5 hlo]; simp only [List.length_append, List.length_cons, List.length_nil]; omega), (fun _ h => h)⟩)
              · rintro ⟨c106, c106'⟩
                exact absurd c106 (by decide)
            · intro c88
              exact absurd c88 (by have e0 : (-9 : Int32).toInt = -9 := rfl; omega)
          · intro c25
            exact absurd c25 (by have e0 : (-100 : Int32).toInt = -100 := rfl; omega)
  · intro c4
    exact absurd c4 (by omega)
theorem own_gcm {l : Launch} {Z : State} {as' : Array Value} {h0 : Heap} {n0 : Nat} {D : Addr → Prop} {ub : Addr} {ct rt dl : List Value} (M : ConV l Z (⟨"java/lang/Integer", "getChars", "(II[B)I"⟩ : MethodName) jdk_33_method_12_code 7 (some .int) ({ frames := 0, cells := 0, slots := 0, locals := 0 } : Room) as' h0 n0 D (fun v h => Keep h0 h [ub] ∧ ∃ (rv : Int32) (rs2 : List Value), v = (.int rv) ∧ Av Z h ub .byte ((ct ++ dl) ++ rs2) ∧ ((ct ++ dl).length + rs2.length = 16) ∧ (∀ v ∈ rs2, v ∈ rt))) (h1 : ∀ v ∈ rt, fits .byte v = true) (h2 : ∀ v ∈ ct, fits .byte v = true) (h3 : ∀ v ∈ dl, fits .byte v = true) : ConV l Z (⟨"java/lang/Integer", "getChars", "(II[B)I"⟩ : MethodName) jdk_33_method_12_code 7 (some .int) ({ frames := 0, cells := 0, slots := 0, locals := 0 } : Room) as' h0 n0 D (fun v h => Keep h0 h [ub] ∧ ∃ (rv : Int32) (rs2 : List Value), v = (.int rv) ∧ Av Z h ub .byte ((ct ++ dl) ++ rs2) ∧ ((ct ++ dl).length + rs2.length = 16) ∧ (∀ v ∈ (ct ++ dl) ++ rs2, fits .byte v = true)) := by
  refine Con.mono M ?_
  rintro r h D' ⟨e, v, e1, K, rv, rs2, e2, V, L, S⟩
  refine ⟨e, v, e1, K, rv, rs2, e2, V, L, fun x hx => ?_⟩
  rcases List.mem_append.mp hx with q | q
  · rcases List.mem_append.mp q with q | q
    · exact h2 x q
    · exact h3 x q
  · exact h1 x (S x q)
theorem own_gc (l : Launch) (Z : State) (a0 : Array Value) (hw : ∀ d ∈ tables_1, d.before a0 Z = true) (pt : Int32) (ix : Int32) (ub : Addr) (on : Addr) (te : Addr) (ons : List Value) (tes : List Value) (ct : List Value) (rs : List Value) (h0 : Heap) (n0 : Nat) {D : Addr → Prop} (hn : n0 ≤ h0.size) (P0 : Sta Z h0 "java/lang/Integer" "DigitOnes" "[B" (.ref on)) (P1 : Sta Z h0 "java/lang/Integer" "DigitTens" "[B" (.ref te)) (P2 : Av Z h0 on .byte ons) (P3 : Av Z h0 te .byte tes) (P4 : Av Z h0 ub .byte (ct ++ rs)) (hpt : 0 ≤ pt.toInt ∧ pt.toInt ≤ 65535) (hon : ∀ j : Int32, 0 ≤ j.toInt → j.toInt < 100 → ons[j.toInt.toNat]? = some (.int (48 + j % 10))) (hte : ∀ j : Int32, 0 ≤ j.toInt → j.toInt < 100 → tes[j.toInt.toNat]? = some (.int (48 + j / 10))) (hlen : ct.length + rs.length = 16) (hfu : ∀ v ∈ ct ++ rs, fits .byte v = true) (hroom : ct.length + (own_dl pt).length ≤ 16) (hix : ix.toInt = ct.length + (own_dl pt).length) (ne_on_ub : on ≠ ub) (ne_te_ub : te ≠ ub) (na_ub : n0 ≤ ub ∧ ¬ D ub) :
    ConV l Z (⟨"java/lang/Integer", "getChars", "(II[B)I"⟩ : MethodName) jdk_33_method_12_code 7 (some .int) ({ frames := 0, cells := 0, slots := 0, locals := 0 } : Room) #[(.int pt), (.int ix), (.ref ub)] h0 n0 D (fun v h => Keep h0 h [ub] ∧ ∃ (rv : Int32) (rs2 : List Value), v = (.int rv) ∧ Av Z h ub .byte ((ct ++ own_dl pt) ++ rs2) ∧ ((ct ++ own_dl pt).length + rs2.length = 16) ∧ (∀ v ∈ (ct ++ own_dl pt) ++ rs2, fits .byte v = true)) := by
  rcases own_dcase hpt with ⟨hlo, hhi⟩ | ⟨hlo, hhi⟩ | ⟨hlo, hhi⟩ | ⟨hlo, hhi⟩ | ⟨hlo, hhi⟩
  · have ed := (own_dl_1 hhi)
    rw [ed] at hroom; simp only [List.length_cons, List.length_nil] at hroom
    have hx : ix.toInt = ct.length + 1 := by rw [hix, ed]; rfl
    obtain ⟨r0, t0, rfl⟩ := own_cons (L := rs) (by first | omega | (simp only [List.length_cons] at hlen; omega))
    simp only [List.length_cons] at hlen
    exact own_gcm (own_gc_1 l Z a0 hw pt ix ub on te ons tes ct r0 t0 h0 n0 hn P0 P1 P2 P3 P4 hlo hhi hpt hon hte hx (by omega) ne_on_ub ne_te_ub na_ub) (fun w_ hw_ => hfu w_ (List.mem_append.mpr (Or.inr (by simp only [List.mem_cons]; exact Or.inr (hw_))))) (fun w_ hw_ => hfu w_ (List.mem_append.mpr (Or.inl hw_))) (own_dlfit hpt)
  · have ed := (own_dl_2 hlo hhi)
    rw [ed] at hroom; simp only [List.length_cons, List.length_nil] at hroom
    have hx : ix.toInt = ct.length + 2 := by rw [hix, ed]; rfl
    obtain ⟨r0, t0, rfl⟩ := own_cons (L := rs) (by first | omega | (simp only [List.length_cons] at hlen; omega))
    obtain ⟨r1, t1, rfl⟩ := own_cons (L := t0) (by first | omega | (simp only [List.length_cons] at hlen; omega))
    simp only [List.length_cons] at hlen
    exact own_gcm (own_gc_2 l Z a0 hw pt ix ub on te ons tes ct r0 r1 t1 h0 n0 hn P0 P1 P2 P3 P4 hlo hhi hpt hon hte hx (by omega) ne_on_ub ne_te_ub na_ub) (fun w_ hw_ => hfu w_ (List.mem_append.mpr (Or.inr (by simp only [List.mem_cons]; exact Or.inr (Or.inr (hw_)))))) (fun w_ hw_ => hfu w_ (List.mem_append.mpr (Or.inl hw_))) (own_dlfit hpt)
  · have ed := (own_dl_3 hlo hhi)
    rw [ed] at hroom; simp only [List.length_cons, List.length_nil] at hroom
    have hx : ix.toInt = ct.length + 3 := by rw [hix, ed]; rfl
    obtain ⟨r0, t0, rfl⟩ := own_cons (L := rs) (by first | omega | (simp only [List.length_cons] at hlen; omega))
    obtain ⟨r1, t1, rfl⟩ := own_cons (L := t0) (by first | omega | (simp only [List.length_cons] at hlen; omega))
    obtain ⟨r2, t2, rfl⟩ := own_cons (L := t1) (by first | omega | (simp only [List.length_cons] at hlen; omega))
    simp only [List.length_cons] at hlen
    exact own_gcm (own_gc_3 l Z a0 hw pt ix ub on te ons tes ct r0 r1 r2 t2 h0 n0 hn P0 P1 P2 P3 P4 hlo hhi hpt hon hte hx (by omega) ne_on_ub ne_te_ub na_ub) (fun w_ hw_ => hfu w_ (List.mem_append.mpr (Or.inr (by simp only [List.mem_cons]; exact Or.inr (Or.inr (Or.inr (hw_))))))) (fun w_ hw_ => hfu w_ (List.mem_append.mpr (Or.inl hw_))) (own_dlfit hpt)
  · have ed := (own_dl_4 hlo hhi)
    rw [ed] at hroom; simp only [List.length_cons, List.length_nil] at hroom
    have hx : ix.toInt = ct.length + 4 := by rw [hix, ed]; rfl
    obtain ⟨r0, t0, rfl⟩ := own_cons (L := rs) (by first | omega | (simp only [List.length_cons] at hlen; omega))
    obtain ⟨r1, t1, rfl⟩ := own_cons (L := t0) (by first | omega | (simp only [List.length_cons] at hlen; omega))
    obtain ⟨r2, t2, rfl⟩ := own_cons (L := t1) (by first | omega | (simp only [List.length_cons] at hlen; omega))
    obtain ⟨r3, t3, rfl⟩ := own_cons (L := t2) (by first | omega | (simp only [List.length_cons] at hlen; omega))
    simp only [List.length_cons] at hlen
    exact own_gcm (own_gc_4 l Z a0 hw pt ix ub on te ons tes ct r0 r1 r2 r3 t3 h0 n0 hn P0 P1 P2 P3 P4 hlo hhi hpt hon hte hx (by omega) ne_on_ub ne_te_ub na_ub) (fun w_ hw_ => hfu w_ (List.mem_append.mpr (Or.inr (by simp only [List.mem_cons]; exact Or.inr (Or.inr (Or.inr (Or.inr (hw_)))))))) (fun w_ hw_ => hfu w_ (List.mem_append.mpr (Or.inl hw_))) (own_dlfit hpt)
  · have ed := (own_dl_5 hlo)
    rw [ed] at hroom; simp only [List.length_cons, List.length_nil] at hroom
    have hx : ix.toInt = ct.length + 5 := by rw [hix, ed]; rfl
    obtain ⟨r0, t0, rfl⟩ := own_cons (L := rs) (by first | omega | (simp only [List.length_cons] at hlen; omega))
    obtain ⟨r1, t1, rfl⟩ := own_cons (L := t0) (by first | omega | (simp only [List.length_cons] at hlen; omega))
    obtain ⟨r2, t2, rfl⟩ := own_cons (L := t1) (by first | omega | (simp only [List.length_cons] at hlen; omega))
    obtain ⟨r3, t3, rfl⟩ := own_cons (L := t2) (by first | omega | (simp only [List.length_cons] at hlen; omega))
    obtain ⟨r4, t4, rfl⟩ := own_cons (L := t3) (by first | omega | (simp only [List.length_cons] at hlen; omega))
    simp only [List.length_cons] at hlen
    exact own_gcm (own_gc_5 l Z a0 hw pt ix ub on te ons tes ct r0 r1 r2 r3 r4 t4 h0 n0 hn P0 P1 P2 P3 P4 hlo hhi hpt hon hte hx (by omega) ne_on_ub ne_te_ub na_ub) (fun w_ hw_ => hfu w_ (List.mem_append.mpr (Or.inr (by simp only [List.mem_cons]; exact Or.inr (Or.inr (Or.inr (Or.inr (Or.inr (hw_))))))))) (fun w_ hw_ => hfu w_ (List.mem_append.mpr (Or.inl hw_))) (own_dlfit hpt)
set_option maxRecDepth 65536 in
set_option maxHeartbeats 40000000 in
theorem own_api (l : Launch) (Z : State) (a0 : Array Value) (hw : ∀ d ∈ tables_1, d.before a0 Z = true) (a : Addr) (pt : Int32) (ub : Addr) (on : Addr) (te : Addr) (ons : List Value) (tes : List Value) (ct : List Value) (rs : List Value) (cs : Int32) (h0 : Heap) (n0 : Nat) {D : Addr → Prop} (hn : n0 ≤ h0.size) (P0 : Exa Z h0 a "java/lang/StringBuilder") (P1 : Fld Z h0 a "java/lang/AbstractStringBuilder" "value" "[B" (.ref ub)) (P2 : Fld Z h0 a "java/lang/AbstractStringBuilder" "coder" "B" (.int (0 : Int32))) (P3 : Fld Z h0 a "java/lang/AbstractStringBuilder" "count" "I" (.int (ct.length.toInt32))) (P4 : Av Z h0 ub .byte (ct ++ rs)) (P5 : Sta Z h0 "java/lang/Integer" "DigitOnes" "[B" (.ref on)) (P6 : Sta Z h0 "java/lang/Integer" "DigitTens" "[B" (.ref te)) (P7 : Av Z h0 on .byte ons) (P8 : Av Z h0 te .byte tes) (P9 : Sta Z h0 "java/lang/String" "COMPACT_STRINGS" "Z" (.int cs)) (hcs : ¬ cs = 0) (hpt : 0 ≤ pt.toInt ∧ pt.toInt ≤ 65535) (hon : ∀ j : Int32, 0 ≤ j.toInt → j.toInt < 100 → ons[j.toInt.toNat]? = some (.int (48 + j % 10))) (hte : ∀ j : Int32, 0 ≤ j.toInt → j.toInt < 100 → tes[j.toInt.toNat]? = some (.int (48 + j / 10))) (hlen : ct.length + rs.length = 16) (hfu : ∀ v ∈ ct ++ rs, fits .byte v = true) (hroom : ct.length + (own_dl pt).length ≤ 16) (ne_on_ub : on ≠ ub) (ne_te_ub : te ≠ ub) (ne_a_ub : a ≠ ub) (ne_on_a : on ≠ a) (ne_te_a : te ≠ a) (na_ub : n0 ≤ ub ∧ ¬ D ub) (na_a : n0 ≤ a ∧ ¬ D a) :
    ConV l Z (⟨"java/lang/AbstractStringBuilder", "append", "(I)Ljava/lang/AbstractStringBuilder;"⟩ : MethodName) jdk_68_method_32_code 4 (some (.object "java/lang/AbstractStringBuilder")) ({ frames := 1, cells := 0, slots := 0, locals := 18 } : Room) #[(.ref a), (.int pt)] h0 n0 D (fun v h => Keep h0 h [ub, a] ∧ ∃ (rs2 : List Value), v = (.ref a) ∧ Av Z h ub .byte ((ct ++ own_dl pt) ++ rs2) ∧ Fld Z h a "java/lang/AbstractStringBuilder" "value" "[B" (.ref ub) ∧ Fld Z h a "java/lang/AbstractStringBuilder" "coder" "B" (.int (0 : Int32)) ∧ Fld Z h a "java/lang/AbstractStringBuilder" "count" "I" (.int ((ct ++ own_dl pt).length.toInt32)) ∧ ((ct ++ own_dl pt).length + rs2.length = 16) ∧ (∀ v ∈ (ct ++ own_dl pt) ++ rs2, fits .byte v = true)) := by
  refine Con.of (plainFor_of_name (by first | (simp [plainName, overriddenIn]; done) | decide +kernel)) hn ?_
  intro p e s m below meth c T w X
  refine Gl.enter (ls := #[.val (.ref a), .val (.int pt), .unset, .unset]) (by first | (simp [entryFrame, mkF, argsToLocals, Value.category]; done) | rfl) ?_
  have K_0 : Keep h0 h0 [ub, a] := Keep.refl _ _
  refine gAloadN X w d29_0 rfl rfl (n := 1) rfl ?_
  refine gGetF X w (own_wd hw 136 rfl) Via.refl P3 d29_1 (n := 4) rfl ?_
  intro T X
  refine gIstoreN X w d29_4 #[.val (.ref a), .val (.int pt), .val (.int (ct.length.toInt32)), .unset] rfl (n := 5) rfl ?_
  refine gIloadN X w d29_5 rfl (n := 6) rfl ?_
  refine gIloadN X w d29_6 rfl (n := 7) rfl ?_
  refine gCallSv X w [(.int pt)] [(.int (ct.length.toInt32))] (own_ssize l Z a0 hw pt h0 n0 (Sd.le X) (by first | assumption | decide | (simp; done) | omega)) (own_wd hw 172 rfl) (own_wd hw 173 rfl) (own_wd hw 174 rfl) (own_wd hw 175 rfl) (by decide) own_pd13 rfl rfl d29_7 rfl (W := 1) (Nat.le_of_eq rfl) (by decide) (by decide) (by decide) (by decide) (n := 10) rfl ?_
  rintro T _ _ ⟨rfl, rfl⟩ X
  have q10 : ct.length.toInt32 + own_nd pt = (ct ++ own_dl pt).length.toInt32 := own_cnt hroom
  have n10 : ((ct ++ own_dl pt).length.toInt32).toInt = ct.length + (own_dl pt).length := by rw [len_toInt (by rw [List.length_append]; omega), List.length_append]; omega
  refine gIadd X w d29_10 q10 (n := 11) rfl ?_
  refine gIstoreN X w d29_11 #[.val (.ref a), .val (.int pt), .val (.int (ct.length.toInt32)), .val (.int ((ct ++ own_dl pt).length.toInt32))] rfl (n := 12) rfl ?_
  refine gAloadN X w d29_12 rfl rfl (n := 13) rfl ?_
  refine gIloadN X w d29_13 rfl (n := 14) rfl ?_
  refine gCallVn X w [(.int ((ct ++ own_dl pt).length.toInt32))] [] P0 (own_ens l Z a0 hw a ub ((ct ++ own_dl pt).length.toInt32) ct rs h0 n0 (Sd.le X) P1 P2 P4 (by first | assumption | decide | (simp; done) | omega) (by first | assumption | decide | (simp; done) | omega)) (own_wd hw 138 rfl) (declOf (own_wd hw 139 rfl) (own_wd hw 142 rfl)) (fun vm0 hS => notFace_of_selects (args := #[]) (mvT (State.Warmed39.trans w.2.2.1 hS.1) (own_wd hw 141 rfl))) (own_wd hw 141 rfl) (own_wd hw 139 rfl) (own_wd hw 83 rfl) (own_wd hw 142 rfl) (by decide) own_pd8 rfl rfl d29_14 rfl (W := 0) (Nat.le_of_eq rfl) (by decide) (by decide) (by decide) (by decide) (n := 17) rfl ?_
  rintro T _ ⟨rfl, -⟩ X
  refine gAloadN X w d29_17 rfl rfl (n := 18) rfl ?_
  refine gCallVv X w [] [] P0 (own_blat l Z a0 hw a cs h0 n0 (Sd.le X) P2 P9 (by first | assumption | decide | (simp; done) | omega)) (own_wd hw 176 rfl) (own_wd hw 177 rfl) (fun vm0 hS => notFace_of_selects (args := #[]) (mvT (State.Warmed39.trans w.2.2.1 hS.1) (own_wd hw 179 rfl))) (own_wd hw 179 rfl) (own_wd hw 178 rfl) (own_wd hw 83 rfl) (own_wd hw 180 rfl) (by decide) own_pd6 rfl rfl d29_18 rfl (W := 0) (Nat.le_of_eq rfl) (by decide) (by decide) (by decide) (by decide) (n := 21) rfl ?_
  rintro T _ _ ⟨rfl, rfl⟩ X
  refine gIf_eq X w d29_21 (n := 37) (n' := 24) (by decide) rfl rfl ?_ ?_
  · rintro ⟨c21, c21'⟩
    exact absurd c21 (by decide)
  · rintro ⟨c21, c21'⟩
    refine gIloadN X w d29_24 rfl (n := 25) rfl ?_
    refine gIloadN X w d29_25 rfl (n := 26) rfl ?_
    refine gAloadN X w d29_26 rfl rfl (n := 27) rfl ?_
    refine gGetF X w (own_wd hw 87 rfl) Via.refl P1 d29_27 (n := 30) rfl ?_
    intro T X
    refine gCallSv X w [(.int pt), (.int ((ct ++ own_dl pt).length.toInt32)), (.ref ub)] [] (own_gc l Z a0 hw pt ((ct ++ own_dl pt).length.toInt32) ub on te ons tes ct rs h0 n0 (Sd.le X) P5 P6 P7 P8 P4 (by first | assumption | decide | (simp; done) | omega) (by first | assumption | decide | (simp; done) | omega) (by first | assumption | decide | (simp; done) | omega) (by first | assumption | decide | (simp; done) | omega) (by first | assumption | decide | (simp; done) | omega) hroom (by first | assumption | decide | (simp; done) | omega) ne_on_ub ne_te_ub na_ub) (own_wd hw 181 rfl) (own_wd hw 182 rfl) (own_wd hw 174 rfl) (own_wd hw 183 rfl) (by decide) own_pd14 rfl rfl d29_30 rfl (W := 0) (Nat.le_of_eq rfl) (by decide) (by decide) (by decide) (by decide) (n := 33) rfl ?_
    rintro T h_4 _ ⟨K_4, rv_4, rs2_4, rfl, Q0_4, hlen_4, hfu_4⟩ X
    have F_5 := K_0.trans K_4 (allS (Or.inl (by simp)) all0)
    have F_6 := P0.keep K_4
    have F_7 := P1.keep K_4 (ninS ne_a_ub nin0)
    have F_8 := P2.keep K_4 (ninS ne_a_ub nin0)
    have F_9 := P3.keep K_4 (ninS ne_a_ub nin0)
    have F_10 := staKeep P5 K_4 (allS (Av.nostat P4) all0)
    have F_11 := staKeep P6 K_4 (allS (Av.nostat P4) all0)
    have F_12 := P7.keep K_4 (ninS ne_on_ub nin0)
    have F_13 := P8.keep K_4 (ninS ne_te_ub nin0)
    have F_14 := staKeep P9 K_4 (allS (Av.nostat P4) all0)
    refine gPop X w d29_33 rfl (n := 34) rfl ?_
    refine gGoto X w d29_34 (by decide) (n := 48) rfl ?_
    refine gAloadN X w d29_48 rfl rfl (n := 49) rfl ?_
    refine gIloadN X w d29_49 rfl (n := 50) rfl ?_
    refine gPutF X w (own_wd hw 136 rfl) Via.refl F_9 F_6 (Or.inl (own_wd hw 137 rfl)) (own_wd hw 74 rfl) na_a (ty := .int) (by decide) rfl rfl d29_50 (n := 53) rfl ?_
    intro T hp50 X W50
    have F_15 := F_5.wr W50 (Or.inl (by simp))
    have F_16 := F_6.wr W50
    have F_17 := F_7.other W50 (Or.inr (slot_ne (Or.inl (own_wd hw 88 rfl) : Laid Z a0 _ _ _ _) (Or.inl (own_wd hw 137 rfl) : Laid Z a0 _ _ _ _) (by decide) (t := (.array .byte)) (t' := .int) (by decide) (by decide)))
    have F_18 := F_8.other W50 (Or.inr (slot_ne (Or.inl (own_wd hw 90 rfl) : Laid Z a0 _ _ _ _) (Or.inl (own_wd hw 137 rfl) : Laid Z a0 _ _ _ _) (by decide) (t := .byte) (t' := .int) (by decide) (by decide)))
    have F_19 := F_9.same W50
    have F_20 := F_10.wr W50
    have F_21 := F_11.wr W50
    have F_22 := F_12.other W50 ne_on_a
    have F_23 := F_13.other W50 ne_te_a
    have F_24 := F_14.wr W50
    have F_25 := Q0_4.other W50 (Ne.symm ne_a_ub)
    refine gAloadN X w d29_53 rfl rfl (n := 54) rfl ?_
    exact gRetA X w rfl rfl rfl d29_54 (by decide) (by decide) (⟨rfl, _, rfl, F_15, rs2_4, rfl, F_25, F_17, F_18, F_19, hlen_4, hfu_4⟩)
set_option maxRecDepth 65536 in
set_option maxHeartbeats 40000000 in
theorem own_bpi (l : Launch) (Z : State) (a0 : Array Value) (hw : ∀ d ∈ tables_1, d.before a0 Z = true) (a : Addr) (pt : Int32) (ub : Addr) (on : Addr) (te : Addr) (ons : List Value) (tes : List Value) (ct : List Value) (rs : List Value) (cs : Int32) (h0 : Heap) (n0 : Nat) {D : Addr → Prop} (hn : n0 ≤ h0.size) (P0 : Exa Z h0 a "java/lang/StringBuilder") (P1 : Fld Z h0 a "java/lang/AbstractStringBuilder" "value" "[B" (.ref ub)) (P2 : Fld Z h0 a "java/lang/AbstractStringBuilder" "coder" "B" (.int (0 : Int32))) (P3 : Fld Z h0 a "java/lang/AbstractStringBuilder" "count" "I" (.int (ct.length.toInt32))) (P4 : Av Z h0 ub .byte (ct ++ rs)) (P5 : Sta Z h0 "java/lang/Integer" "DigitOnes" "[B" (.ref on)) (P6 : Sta Z h0 "java/lang/Integer" "DigitTens" "[B" (.ref te)) (P7 : Av Z h0 on .byte ons) (P8 : Av Z h0 te .byte tes) (P9 : Sta Z h0 "java/lang/String" "COMPACT_STRINGS" "Z" (.int cs)) (hcs : ¬ cs = 0) (hpt : 0 ≤ pt.toInt ∧ pt.toInt ≤ 65535) (hon : ∀ j : Int32, 0 ≤ j.toInt → j.toInt < 100 → ons[j.toInt.toNat]? = some (.int (48 + j % 10))) (hte : ∀ j : Int32, 0 ≤ j.toInt → j.toInt < 100 → tes[j.toInt.toNat]? = some (.int (48 + j / 10))) (hlen : ct.length + rs.length = 16) (hfu : ∀ v ∈ ct ++ rs, fits .byte v = true) (hroom : ct.length + (own_dl pt).length ≤ 16) (ne_on_ub : on ≠ ub) (ne_te_ub : te ≠ ub) (ne_a_ub : a ≠ ub) (ne_on_a : on ≠ a) (ne_te_a : te ≠ a) (na_ub : n0 ≤ ub ∧ ¬ D ub) (na_a : n0 ≤ a ∧ ¬ D a) :
    ConV l Z (⟨"java/lang/StringBuilder", "append", "(I)Ljava/lang/StringBuilder;"⟩ : MethodName) jdk_67_method_15_code 2 (some (.object "java/lang/StringBuilder")) ({ frames := 2, cells := 0, slots := 0, locals := 33 } : Room) #[(.ref a), (.int pt)] h0 n0 D (fun v h => Keep h0 h [ub, a] ∧ ∃ (rs2 : List Value), v = (.ref a) ∧ Av Z h ub .byte ((ct ++ own_dl pt) ++ rs2) ∧ Fld Z h a "java/lang/AbstractStringBuilder" "value" "[B" (.ref ub) ∧ Fld Z h a "java/lang/AbstractStringBuilder" "coder" "B" (.int (0 : Int32)) ∧ Fld Z h a "java/lang/AbstractStringBuilder" "count" "I" (.int ((ct ++ own_dl pt).length.toInt32)) ∧ ((ct ++ own_dl pt).length + rs2.length = 16) ∧ (∀ v ∈ (ct ++ own_dl pt) ++ rs2, fits .byte v = true)) := by
  refine Con.of (plainFor_of_name (by first | (simp [plainName, overriddenIn]; done) | decide +kernel)) hn ?_
  intro p e s m below meth c T w X
  refine Gl.enter (ls := #[.val (.ref a), .val (.int pt)]) (by first | (simp [entryFrame, mkF, argsToLocals, Value.category]; done) | rfl) ?_
  have K_0 : Keep h0 h0 [ub, a] := Keep.refl _ _
  refine gAloadN X w d28_0 rfl rfl (n := 1) rfl ?_
  refine gIloadN X w d28_1 rfl (n := 2) rfl ?_
  refine gCallUv X w [(.int pt)] [] (Ins.self P0) (own_api l Z a0 hw a pt ub on te ons tes ct rs cs h0 n0 (Sd.le X) P0 P1 P2 P3 P4 P5 P6 P7 P8 P9 (by first | assumption | decide | (simp; done) | omega) (by first | assumption | decide | (simp; done) | omega) (by first | assumption | decide | (simp; done) | omega) (by first | assumption | decide | (simp; done) | omega) (by first | assumption | decide) (by first | assumption | decide) (by first | assumption | (simp only [List.length_append, List.length_cons, List.length_nil]; omega)) ne_on_ub ne_te_ub ne_a_ub ne_on_a ne_te_a na_ub na_a) (own_wd hw 168 rfl) (sameOf (own_wd hw 169 rfl) (own_wd hw 141 rfl) rfl (by decide)) (own_wd hw 169 rfl) (own_wd hw 132 rfl) (by decide) (own_wd hw 83 rfl) (own_wd hw 171 rfl) own_pd15 rfl rfl d28_2 rfl (W := 0) (Nat.le_of_eq rfl) (by decide) (by decide) (by decide) (by decide) (n := 5) rfl ?_
  rintro T h_1 _ ⟨K_1, rs2_1, rfl, Q0_1, Q1_1, Q2_1, Q3_1, hlen_1, hfu_1⟩ X
  have F_2 := K_0.trans K_1 (allS (Or.inl (by simp)) (allS (Or.inl (by simp)) all0))
  have F_3 := P0.keep K_1
  have F_4 := staKeep P5 K_1 (allS (Av.nostat P4) (allS (Exa.nostat P0) all0))
  have F_5 := staKeep P6 K_1 (allS (Av.nostat P4) (allS (Exa.nostat P0) all0))
  have F_6 := P7.keep K_1 (ninS ne_on_ub (ninS ne_on_a nin0))
  have F_7 := P8.keep K_1 (ninS ne_te_ub (ninS ne_te_a nin0))
  have F_8 := staKeep P9 K_1 (allS (Av.nostat P4) (allS (Exa.nostat P0) all0))
  refine gPop X w d28_5 rfl (n := 6) rfl ?_
  refine gAloadN X w d28_6 rfl rfl (n := 7) rfl ?_
  exact gRetA X w rfl rfl rfl d28_7 (by decide) (by decide) (⟨rfl, _, rfl, F_2, rs2_1, rfl, Q0_1, Q1_1, Q2_1, Q3_1, hlen_1, hfu_1⟩)
set_option maxRecDepth 65536 in
set_option maxHeartbeats 40000000 in
theorem own_ckl (l : Launch) (Z : State) (a0 : Array Value) (hw : ∀ d ∈ tables_1, d.before a0 Z = true) (k : Int32) (h0 : Heap) (n0 : Nat) {D : Addr → Prop} (hn : n0 ≤ h0.size) (hk : 0 ≤ k.toInt) :
    ConN l Z (⟨"java/util/Arrays", "checkLength", "(II)V"⟩ : MethodName) jdk_65_method_131_code 2 ({ frames := 0, cells := 0, slots := 0, locals := 0 } : Room) #[(.int (0 : Int32)), (.int k)] h0 n0 D (fun h => h0 = h ∧ True) := by
  refine Con.of (plainFor_of_name (by first | (simp [plainName, overriddenIn]; done) | decide +kernel)) hn ?_
  intro p e s m below meth c T w X
  refine Gl.enter (ls := #[.val (.int (0 : Int32)), .val (.int k)]) (by first | (simp [entryFrame, mkF, argsToLocals, Value.category]; done) | rfl) ?_
  refine gIloadN X w d41_0 rfl (n := 1) rfl ?_
  refine gIloadN X w d41_1 rfl (n := 2) rfl ?_
  refine gIcmp_ge X w d41_2 (n := 37) (n' := 5) (by decide) rfl rfl ?_ ?_
  · intro c2
    exact gRetV X w rfl d41_37 (by decide) (by decide) (⟨rfl, rfl, rfl, trivial⟩)
  · intro c2
    exact absurd c2 (by have e0 : (0 : Int32).toInt = 0 := rfl; omega)
set_option maxRecDepth 65536 in
set_option maxHeartbeats 40000000 in
theorem own_min (l : Launch) (Z : State) (a0 : Array Value) (hw : ∀ d ∈ tables_1, d.before a0 Z = true) (x : Int32) (k : Int32) (h0 : Heap) (n0 : Nat) {D : Addr → Prop} (hn : n0 ≤ h0.size) (hk : k.toInt < x.toInt) :
    ConV l Z (⟨"java/lang/Math", "min", "(II)I"⟩ : MethodName) jdk_29_method_69_code 2 (some .int) ({ frames := 0, cells := 0, slots := 0, locals := 0 } : Room) #[(.int x), (.int k)] h0 n0 D (fun v h => h0 = h ∧ v = (.int k)) := by
  refine Con.of (Jvm.Free.JP.mathPlain rfl (by decide +kernel)) hn ?_
  intro p e s m below meth c T w X
  refine Gl.enter (ls := #[.val (.int x), .val (.int k)]) (by first | (simp [entryFrame, mkF, argsToLocals, Value.category]; done) | rfl) ?_
  refine gIloadN X w d42_0 rfl (n := 1) rfl ?_
  refine gIloadN X w d42_1 rfl (n := 2) rfl ?_
  refine gIcmp_gt X w d42_2 (n := 9) (n' := 5) (by decide) rfl rfl ?_ ?_
  · intro c2
    refine gIloadN X w d42_9 rfl (n := 10) rfl ?_
    exact gRetI X w rfl d42_10 (by decide) (by decide) (⟨rfl, _, rfl, rfl, rfl⟩)
  · intro c2
    exact absurd c2 (by omega)
set_option maxRecDepth 65536 in
set_option maxHeartbeats 40000000 in
theorem own_crb (l : Launch) (Z : State) (a0 : Array Value) (hw : ∀ d ∈ tables_1, d.before a0 Z = true) (ub : Addr) (ct : List Value) (rs : List Value) (h0 : Heap) (n0 : Nat) {D : Addr → Prop} (hn : n0 ≤ h0.size) (P0 : Av Z h0 ub .byte (ct ++ rs)) (hlen : ct.length + rs.length = 16) (hfu : ∀ v ∈ ct ++ rs, fits .byte v = true) (hsm : ct.length < 16) :
    ConV l Z (⟨"java/util/Arrays", "copyOfRangeByte", "([BII)[B"⟩ : MethodName) jdk_65_method_133_code 5 (some (.array .byte)) ({ frames := 1, cells := 1, slots := 16, locals := 40 } : Room) #[(.ref ub), (.int (0 : Int32)), (.int (ct.length.toInt32))] h0 n0 D (fun v h => Keep h0 h [] ∧ ∃ (nb : Addr), v = (.ref nb) ∧ h0.size ≤ nb ∧ (n0 ≤ nb ∧ ¬ D nb) ∧ Av Z h nb .byte ct ∧ Exa Z h nb "[B") := by
  refine Con.of (plainFor_of_name (by first | (simp [plainName, overriddenIn]; done) | decide +kernel)) hn ?_
  intro p e s m below meth c T w X
  refine Gl.enter (ls := #[.val (.ref ub), .val (.int (0 : Int32)), .val (.int (ct.length.toInt32)), .unset, .unset]) (by first | (simp [entryFrame, mkF, argsToLocals, Value.category]; done) | rfl) ?_
  have K_0 : Keep h0 h0 [] := Keep.refl _ _
  have e16 : (16 : Int32).toInt = 16 := rfl
  have lct : (ct.length.toInt32).toInt = ct.length := len_toInt (by omega)
  refine gIloadN X w d40_0 rfl (n := 1) rfl ?_
  refine gIloadN X w d40_1 rfl (n := 2) rfl ?_
  refine gCallSn X w [(.int (0 : Int32)), (.int (ct.length.toInt32))] [] (own_ckl l Z a0 hw (ct.length.toInt32) h0 n0 (Sd.le X) (by first | assumption | decide | (simp; done) | omega)) (own_wd hw 218 rfl) (own_wd hw 219 rfl) (own_wd hw 213 rfl) (own_wd hw 220 rfl) (by decide) own_pd16 rfl rfl d40_2 rfl (W := 0) (Nat.le_of_eq rfl) (by decide) (by decide) (by decide) (by decide) (n := 5) rfl ?_
  rintro T _ ⟨rfl, -⟩ X
  refine gIloadN X w d40_5 rfl (n := 6) rfl ?_
  refine gIloadN X w d40_6 rfl (n := 7) rfl ?_
  refine gIsub X w d40_7 (z := (ct.length.toInt32)) (own_sub0 _) (n := 8) rfl ?_
  refine gIstoreN X w d40_8 #[.val (.ref ub), .val (.int (0 : Int32)), .val (.int (ct.length.toInt32)), .val (.int (ct.length.toInt32)), .unset] rfl (n := 9) rfl ?_
  refine gIloadN X w d40_9 rfl (n := 10) rfl ?_
  refine gNewP X w (own_wd hw 25 rfl) d40_10 (by omega) (cap := 16) (by omega) (by decide) (by decide) (by decide) (vs := (List.replicate ct.length (.int 0))) (ty := .byte) (by rw [lct]; rfl) rfl (ad := "[B") (by decide) (n := 12) rfl ?_
  intro T hp10 ad10 ea10 na10 X E10 V10 A10
  have F_2 := Nat.le_trans K_0.1 (Nat.le_of_eq ea10.symm)
  have ne_ub_ad10 : ub ≠ ad10 := neOf P0.lt (Nat.le_of_eq ea10.symm)
  have F_3 := K_0.ext E10
  have F_4 := P0.ext E10
  refine gAstore X w d40_12 rfl #[.val (.ref ub), .val (.int (0 : Int32)), .val (.int (ct.length.toInt32)), .val (.int (ct.length.toInt32)), .val (.ref ad10)] rfl (n := 14) rfl ?_
  refine gAloadN X w d40_14 rfl rfl (n := 15) rfl ?_
  refine gIloadN X w d40_15 rfl (n := 16) rfl ?_
  refine gAload X w d40_16 rfl rfl (n := 18) rfl ?_
  refine gIconst X w d40_18 (z := (0 : Int32)) rfl (n := 19) rfl ?_
  refine gAloadN X w d40_19 rfl rfl (n := 20) rfl ?_
  refine gAlen X w F_4 (z := (16 : Int32)) (by rw [List.length_append, hlen]; rfl) d40_20 (n := 21) rfl ?_
  refine gIloadN X w d40_21 rfl (n := 22) rfl ?_
  refine gIsub X w d40_22 (z := (16 : Int32)) (by decide) (n := 23) rfl ?_
  refine gIloadN X w d40_23 rfl (n := 24) rfl ?_
  have hkm : (ct.length.toInt32).toInt < (16 : Int32).toInt := by omega
  refine gCallSv X w [(.int (16 : Int32)), (.int (ct.length.toInt32))] [(.int (0 : Int32)), (.ref ad10), (.int (0 : Int32)), (.ref ub)] (own_min l Z a0 hw (16 : Int32) (ct.length.toInt32) hp10 n0 (Sd.le X) hkm) (own_wd hw 221 rfl) (own_wd hw 222 rfl) (own_wd hw 223 rfl) (own_wd hw 224 rfl) (by decide) own_pd17 rfl rfl d40_24 rfl (W := 4) (Nat.le_of_eq rfl) (by decide) (by decide) (by decide) (by decide) (n := 27) rfl ?_
  rintro T _ _ ⟨rfl, rfl⟩ X
  refine gAcopy X w (.int 0) F_4 V10 rfl hfu (fun v hv => by rw [List.eq_of_mem_replicate hv]; decide) (by rw [List.length_append]; omega) (by rw [List.length_replicate]; omega) (own_wd hw 225 rfl) (own_wd hw 162 rfl) (own_wd hw 160 rfl) (own_wd hw 161 rfl) (by decide) (by decide) (by omega) (by rw [lct, List.length_append]; show (0 : Int) + _ ≤ _; omega) (by rw [lct, List.length_replicate]; show (0 : Int) + _ ≤ _; omega) (vs' := ct) (own_cp2 hlen) na10 d40_27 rfl (by decide) (W := 0) (Nat.le_of_eq rfl) (by decide) (n := 30) rfl ?_
  intro T h_6 X K_6 V_6
  have F_7 := F_3.trans K_6 (allS (Or.inr F_2) all0)
  have F_8 := F_4.keep K_6 (ninS ne_ub_ad10 nin0)
  have F_9 := A10.keep K_6
  refine gAload X w d40_30 rfl rfl (n := 32) rfl ?_
  exact gRetA X w rfl rfl rfl d40_32 (by decide) (by decide) (⟨rfl, _, rfl, F_7, ad10, rfl, F_2, na10, V_6, F_9⟩)
set_option maxRecDepth 65536 in
set_option maxHeartbeats 40000000 in
theorem own_cr (l : Launch) (Z : State) (a0 : Array Value) (hw : ∀ d ∈ tables_1, d.before a0 Z = true) (ub : Addr) (ct : List Value) (rs : List Value) (h0 : Heap) (n0 : Nat) {D : Addr → Prop} (hn : n0 ≤ h0.size) (P0 : Av Z h0 ub .byte (ct ++ rs)) (hlen : ct.length + rs.length = 16) (hfu : ∀ v ∈ ct ++ rs, fits .byte v = true) (hsm : ct.length < 16) :
    ConV l Z (⟨"java/util/Arrays", "copyOfRange", "([BII)[B"⟩ : MethodName) jdk_65_method_132_code 3 (some (.array .byte)) ({ frames := 2, cells := 1, slots := 16, locals := 56 } : Room) #[(.ref ub), (.int (0 : Int32)), (.int (ct.length.toInt32))] h0 n0 D (fun v h => Keep h0 h [] ∧ ∃ (nb : Addr), v = (.ref nb) ∧ h0.size ≤ nb ∧ (n0 ≤ nb ∧ ¬ D nb) ∧ Av Z h nb .byte ct ∧ Exa Z h nb "[B") := by
  refine Con.of (plainFor_of_name (by first | (simp [plainName, overriddenIn]; done) | decide +kernel)) hn ?_
  intro p e s m below meth c T w X
  refine Gl.enter (ls := #[.val (.ref ub), .val (.int (0 : Int32)), .val (.int (ct.length.toInt32))]) (by first | (simp [entryFrame, mkF, argsToLocals, Value.category]; done) | rfl) ?_
  have K_0 : Keep h0 h0 [] := Keep.refl _ _
  have e16 : (16 : Int32).toInt = 16 := rfl
  have lct : (ct.length.toInt32).toInt = ct.length := len_toInt (by omega)
  refine gIloadN X w d39_0 rfl (n := 1) rfl ?_
  refine gIf_ne X w d39_1 (n := 10) (n' := 4) (by decide) rfl rfl ?_ ?_
  · rintro ⟨c1, c1'⟩
    exact absurd c1 (by decide)
  · rintro ⟨c1, c1'⟩
    refine gIloadN X w d39_4 rfl (n := 5) rfl ?_
    refine gAloadN X w d39_5 rfl rfl (n := 6) rfl ?_
    refine gAlen X w P0 (z := (16 : Int32)) (by rw [List.length_append, hlen]; rfl) d39_6 (n := 7) rfl ?_
    refine gIcmp_eq X w d39_7 (n := 17) (n' := 10) (by decide) rfl rfl ?_ ?_
    · rintro ⟨c7, c7'⟩
      exact absurd c7' (by omega)
    · rintro ⟨c7, c7'⟩
      refine gAloadN X w d39_10 rfl rfl (n := 11) rfl ?_
      refine gIloadN X w d39_11 rfl (n := 12) rfl ?_
      refine gIloadN X w d39_12 rfl (n := 13) rfl ?_
      refine gCallSv X w [(.ref ub), (.int (0 : Int32)), (.int (ct.length.toInt32))] [] (own_crb l Z a0 hw ub ct rs h0 n0 (Sd.le X) P0 (by first | assumption | decide | (simp; done) | omega) (by first | assumption | decide | (simp; done) | omega) (by first | assumption | decide | (simp; done) | omega)) (own_wd hw 215 rfl) (own_wd hw 216 rfl) (own_wd hw 213 rfl) (own_wd hw 217 rfl) (by decide) own_pd18 rfl rfl d39_13 rfl (W := 0) (Nat.le_of_eq rfl) (by decide) (by decide) (by decide) (by decide) (n := 16) rfl ?_
      rintro T h_1 _ ⟨K_1, nb_1, rfl, g_nb_1, na_nb_1, Q0_1, Q1_1⟩ X
      have F_2 := Nat.le_trans K_0.1 g_nb_1
      have ne_ub_nb_1 : ub ≠ nb_1 := neOf P0.lt g_nb_1
      have F_3 := K_0.trans K_1 all0
      have F_4 := P0.keep K_1 nin0
      exact gRetA X w rfl rfl rfl d39_16 (by decide) (by decide) (⟨rfl, _, rfl, F_3, nb_1, rfl, F_2, na_nb_1, Q0_1, Q1_1⟩)
set_option maxRecDepth 65536 in
set_option maxHeartbeats 40000000 in
theorem own_sia (l : Launch) (Z : State) (a0 : Array Value) (hw : ∀ d ∈ tables_1, d.before a0 Z = true) (s0 : Addr) (a : Addr) (ub : Addr) (ct : List Value) (rs : List Value) (cs : Int32) (h0 : Heap) (n0 : Nat) {D : Addr → Prop} (hn : n0 ≤ h0.size) (P0 : Exa Z h0 s0 "java/lang/String") (P1 : Fld Z h0 s0 "java/lang/String" "value" "[B" .null) (P2 : Fld Z h0 s0 "java/lang/String" "coder" "B" (.int (0 : Int32))) (P3 : Exa Z h0 a "java/lang/StringBuilder") (P4 : Fld Z h0 a "java/lang/AbstractStringBuilder" "value" "[B" (.ref ub)) (P5 : Fld Z h0 a "java/lang/AbstractStringBuilder" "coder" "B" (.int (0 : Int32))) (P6 : Fld Z h0 a "java/lang/AbstractStringBuilder" "count" "I" (.int (ct.length.toInt32))) (P7 : Av Z h0 ub .byte (ct ++ rs)) (P8 : Sta Z h0 "java/lang/String" "COMPACT_STRINGS" "Z" (.int cs)) (hcs : ¬ cs = 0) (hlen : ct.length + rs.length = 16) (hfu : ∀ v ∈ ct ++ rs, fits .byte v = true) (hsm : ct.length < 16) (ne_a_s0 : a ≠ s0) (ne_ub_s0 : ub ≠ s0) (na_s0 : n0 ≤ s0 ∧ ¬ D s0) :
    ConN l Z (⟨"java/lang/String", "<init>", "(Ljava/lang/AbstractStringBuilder;Ljava/lang/Void;)V"⟩ : MethodName) jdk_42_method_150_code 5 ({ frames := 3, cells := 1, slots := 16, locals := 71 } : Room) #[(.ref s0), (.ref a), .null] h0 n0 D (fun h => Keep h0 h [s0] ∧ ∃ (nb : Addr), h0.size ≤ nb ∧ (n0 ≤ nb ∧ ¬ D nb) ∧ Fld Z h s0 "java/lang/String" "value" "[B" (.ref nb) ∧ Fld Z h s0 "java/lang/String" "coder" "B" (.int (0 : Int32)) ∧ Av Z h nb .byte ct ∧ Exa Z h nb "[B") := by
  refine Con.of (plainFor_of_name (by first | (simp [plainName, overriddenIn]; done) | decide +kernel)) hn ?_
  intro p e s m below meth c T w X
  refine Gl.enter (ls := #[.val (.ref s0), .val (.ref a), .val .null, .unset, .unset]) (by first | (simp [entryFrame, mkF, argsToLocals, Value.category]; done) | rfl) ?_
  have K_0 : Keep h0 h0 [s0] := Keep.refl _ _
  refine gAloadN X w d35_0 rfl rfl (n := 1) rfl ?_
  refine gInitO X w (own_wd hw 17 rfl) (own_wd hw 18 rfl) (own_wd hw 19 rfl) d35_1 rfl (by decide) (W := 0) (Nat.le_of_eq rfl) (by decide) (n := 4) rfl ?_
  intro T X
  refine gAloadN X w d35_4 rfl rfl (n := 5) rfl ?_
  refine gCallVv X w [] [] P3 (own_bval l Z a0 hw a ub h0 n0 (Sd.le X) P4) (own_wd hw 197 rfl) (own_wd hw 198 rfl) (fun vm0 hS => notFace_of_selects (args := #[]) (mvT (State.Warmed39.trans w.2.2.1 hS.1) (own_wd hw 200 rfl))) (own_wd hw 200 rfl) (own_wd hw 199 rfl) (own_wd hw 83 rfl) (own_wd hw 201 rfl) (by decide) own_pd19 rfl rfl d35_5 rfl (W := 0) (Nat.le_of_eq rfl) (by decide) (by decide) (by decide) (by decide) (n := 8) rfl ?_
  rintro T _ _ ⟨rfl, rfl⟩ X
  refine gAstoreN X w d35_8 rfl #[.val (.ref s0), .val (.ref a), .val .null, .val (.ref ub), .unset] rfl (n := 9) rfl ?_
  refine gAloadN X w d35_9 rfl rfl (n := 10) rfl ?_
  refine gCallVv X w [] [] P3 (own_blen l Z a0 hw a (ct.length.toInt32) h0 n0 (Sd.le X) P3 P6) (own_wd hw 202 rfl) (own_wd hw 203 rfl) (fun vm0 hS => nfOf (args := #[]) (mvT (State.Warmed39.trans w.2.2.1 hS.1) (own_wd hw 141 rfl)) rfl) (own_wd hw 205 rfl) (own_wd hw 206 rfl) (own_wd hw 75 rfl) (own_wd hw 207 rfl) (by decide) own_pd7 rfl rfl d35_10 rfl (W := 0) (Nat.le_of_eq rfl) (by decide) (by decide) (by decide) (by decide) (n := 13) rfl ?_
  rintro T _ _ ⟨rfl, rfl⟩ X
  refine gIstore X w d35_13 #[.val (.ref s0), .val (.ref a), .val .null, .val (.ref ub), .val (.int (ct.length.toInt32))] rfl (n := 15) rfl ?_
  refine gAloadN X w d35_15 rfl rfl (n := 16) rfl ?_
  refine gCallVv X w [] [] P3 (own_blat l Z a0 hw a cs h0 n0 (Sd.le X) P5 P8 (by first | assumption | decide | (simp; done) | omega)) (own_wd hw 210 rfl) (own_wd hw 177 rfl) (fun vm0 hS => notFace_of_selects (args := #[]) (mvT (State.Warmed39.trans w.2.2.1 hS.1) (own_wd hw 179 rfl))) (own_wd hw 179 rfl) (own_wd hw 178 rfl) (own_wd hw 83 rfl) (own_wd hw 180 rfl) (by decide) own_pd6 rfl rfl d35_16 rfl (W := 0) (Nat.le_of_eq rfl) (by decide) (by decide) (by decide) (by decide) (n := 19) rfl ?_
  rintro T _ _ ⟨rfl, rfl⟩ X
  refine gIf_eq X w d35_19 (n := 41) (n' := 22) (by decide) rfl rfl ?_ ?_
  · rintro ⟨c19, c19'⟩
    exact absurd c19 (by decide)
  · rintro ⟨c19, c19'⟩
    refine gAloadN X w d35_22 rfl rfl (n := 23) rfl ?_
    refine gIconst X w d35_23 (z := (0 : Int32)) rfl (n := 24) rfl ?_
    refine gPutF X w (own_wd hw 32 rfl) Via.refl P2 P0 (Or.inr ⟨own_wd hw 33 rfl, rfl, rfl⟩) (own_wd hw 7 rfl) na_s0 (ty := .byte) (by decide) (by first | rfl | decide) (by first | rfl | decide) d35_24 (n := 27) rfl ?_
    intro T hp24 X W24
    have F_4 := K_0.wr W24 (Or.inl (by simp))
    have F_5 := P0.wr W24
    have F_6 := P1.other W24 (Or.inr (slot_ne (Or.inr (own_wd hw 35 rfl) : Laid Z a0 _ _ _ _) (Or.inr (own_wd hw 33 rfl) : Laid Z a0 _ _ _ _) (by decide) (t := (.array .byte)) (t' := .byte) (by decide) (by decide)))
    have F_7 := P2.same W24
    have F_8 := P3.wr W24
    have F_9 := P4.other W24 (Or.inl ne_a_s0)
    have F_10 := P5.other W24 (Or.inl ne_a_s0)
    have F_11 := P6.other W24 (Or.inl ne_a_s0)
    have F_12 := P7.other W24 ne_ub_s0
    have F_13 := P8.wr W24
    refine gAloadN X w d35_27 rfl rfl (n := 28) rfl ?_
    refine gAloadN X w d35_28 rfl rfl (n := 29) rfl ?_
    refine gIconst X w d35_29 (z := (0 : Int32)) rfl (n := 30) rfl ?_
    refine gIload X w d35_30 rfl (n := 32) rfl ?_
    refine gCallSv X w [(.ref ub), (.int (0 : Int32)), (.int (ct.length.toInt32))] [(.ref s0)] (own_cr l Z a0 hw ub ct rs hp24 n0 (Sd.le X) F_12 (by first | assumption | decide | (simp; done) | omega) (by first | assumption | decide | (simp; done) | omega) (by first | assumption | decide | (simp; done) | omega)) (own_wd hw 211 rfl) (own_wd hw 212 rfl) (own_wd hw 213 rfl) (own_wd hw 214 rfl) (by decide) own_pd18 rfl rfl d35_32 rfl (W := 1) (Nat.le_of_eq rfl) (by decide) (by decide) (by decide) (by decide) (n := 35) rfl ?_
    rintro T h_14 _ ⟨K_14, nb_14, rfl, g_nb_14, na_nb_14, Q0_14, Q1_14⟩ X
    have F_15 := Nat.le_trans F_4.1 g_nb_14
    have ne_s0_nb_14 : s0 ≠ nb_14 := neOf F_5.lt g_nb_14
    have ne_a_nb_14 : a ≠ nb_14 := neOf F_8.lt g_nb_14
    have ne_ub_nb_14 : ub ≠ nb_14 := neOf F_12.lt g_nb_14
    have F_16 := F_4.trans K_14 all0
    have F_17 := F_5.keep K_14
    have F_18 := F_6.keep K_14 nin0
    have F_19 := F_7.keep K_14 nin0
    have F_20 := F_8.keep K_14
    have F_21 := F_9.keep K_14 nin0
    have F_22 := F_10.keep K_14 nin0
    have F_23 := F_11.keep K_14 nin0
    have F_24 := F_12.keep K_14 nin0
    have F_25 := staKeep F_13 K_14 all0
    refine gPutF X w (own_wd hw 34 rfl) Via.refl F_18 F_17 (Or.inr ⟨own_wd hw 35 rfl, rfl, rfl⟩) (own_wd hw 7 rfl) na_s0 (ty := (.array .byte)) (by decide) rfl rfl d35_35 (n := 38) rfl ?_
    intro T hp35 X W35
    have F_26 := F_16.wr W35 (Or.inl (by simp))
    have F_27 := F_17.wr W35
    have F_28 := F_18.same W35
    have F_29 := F_19.other W35 (Or.inr (slot_ne (Or.inr (own_wd hw 33 rfl) : Laid Z a0 _ _ _ _) (Or.inr (own_wd hw 35 rfl) : Laid Z a0 _ _ _ _) (by decide) (t := .byte) (t' := (.array .byte)) (by decide) (by decide)))
    have F_30 := F_20.wr W35
    have F_31 := F_21.other W35 (Or.inl ne_a_s0)
    have F_32 := F_22.other W35 (Or.inl ne_a_s0)
    have F_33 := F_23.other W35 (Or.inl ne_a_s0)
    have F_34 := F_24.other W35 ne_ub_s0
    have F_35 := F_25.wr W35
    have F_36 := Q0_14.other W35 (Ne.symm ne_s0_nb_14)
    have F_37 := Q1_14.wr W35
    refine gGoto X w d35_38 (by decide) (n := 97) rfl ?_
    exact gRetV X w rfl d35_97 (by decide) (by decide) (⟨rfl, rfl, F_26, nb_14, F_15, na_nb_14, F_28, F_29, F_36, F_37⟩)
set_option maxRecDepth 65536 in
set_option maxHeartbeats 40000000 in
theorem own_sib (l : Launch) (Z : State) (a0 : Array Value) (hw : ∀ d ∈ tables_1, d.before a0 Z = true) (s0 : Addr) (a : Addr) (ub : Addr) (ct : List Value) (rs : List Value) (cs : Int32) (h0 : Heap) (n0 : Nat) {D : Addr → Prop} (hn : n0 ≤ h0.size) (P0 : Exa Z h0 s0 "java/lang/String") (P1 : Fld Z h0 s0 "java/lang/String" "value" "[B" .null) (P2 : Fld Z h0 s0 "java/lang/String" "coder" "B" (.int (0 : Int32))) (P3 : Exa Z h0 a "java/lang/StringBuilder") (P4 : Fld Z h0 a "java/lang/AbstractStringBuilder" "value" "[B" (.ref ub)) (P5 : Fld Z h0 a "java/lang/AbstractStringBuilder" "coder" "B" (.int (0 : Int32))) (P6 : Fld Z h0 a "java/lang/AbstractStringBuilder" "count" "I" (.int (ct.length.toInt32))) (P7 : Av Z h0 ub .byte (ct ++ rs)) (P8 : Sta Z h0 "java/lang/String" "COMPACT_STRINGS" "Z" (.int cs)) (hcs : ¬ cs = 0) (hlen : ct.length + rs.length = 16) (hfu : ∀ v ∈ ct ++ rs, fits .byte v = true) (hsm : ct.length < 16) (ne_a_s0 : a ≠ s0) (ne_ub_s0 : ub ≠ s0) (na_s0 : n0 ≤ s0 ∧ ¬ D s0) :
    ConN l Z (⟨"java/lang/String", "<init>", "(Ljava/lang/StringBuilder;)V"⟩ : MethodName) jdk_42_method_53_code 2 ({ frames := 4, cells := 1, slots := 16, locals := 87 } : Room) #[(.ref s0), (.ref a)] h0 n0 D (fun h => Keep h0 h [s0] ∧ ∃ (nb : Addr), h0.size ≤ nb ∧ (n0 ≤ nb ∧ ¬ D nb) ∧ Fld Z h s0 "java/lang/String" "value" "[B" (.ref nb) ∧ Fld Z h s0 "java/lang/String" "coder" "B" (.int (0 : Int32)) ∧ Av Z h nb .byte ct ∧ Exa Z h nb "[B") := by
  refine Con.of (plainFor_of_name (by first | (simp [plainName, overriddenIn]; done) | decide +kernel)) hn ?_
  intro p e s m below meth c T w X
  refine Gl.enter (ls := #[.val (.ref s0), .val (.ref a)]) (by first | (simp [entryFrame, mkF, argsToLocals, Value.category]; done) | rfl) ?_
  have K_0 : Keep h0 h0 [s0] := Keep.refl _ _
  refine gAloadN X w d34_0 rfl rfl (n := 1) rfl ?_
  refine gAloadN X w d34_1 rfl rfl (n := 2) rfl ?_
  refine gNull X w d34_2 (n := 3) rfl ?_
  refine gCallIn X w [(.ref a), .null] [] rfl (own_sia l Z a0 hw s0 a ub ct rs cs h0 n0 (Sd.le X) P0 P1 P2 P3 P4 P5 P6 P7 P8 (by first | assumption | decide | (simp; done) | omega) (by first | assumption | decide) (by first | assumption | decide) (by first | assumption | decide | (simp; done) | omega) ne_a_s0 ne_ub_s0 na_s0) (own_wd hw 194 rfl) (own_wd hw 195 rfl) (own_wd hw 8 rfl) (own_wd hw 196 rfl) (by decide) own_pd20 rfl rfl d34_3 rfl (W := 0) (Nat.le_of_eq rfl) (by decide) (by decide) (by decide) (by decide) (n := 6) rfl ?_
  rintro T h_1 ⟨K_1, nb_1, g_nb_1, na_nb_1, Q0_1, Q1_1, Q2_1, Q3_1⟩ X
  have F_2 := Nat.le_trans K_0.1 g_nb_1
  have ne_s0_nb_1 : s0 ≠ nb_1 := neOf P0.lt g_nb_1
  have ne_a_nb_1 : a ≠ nb_1 := neOf P3.lt g_nb_1
  have ne_ub_nb_1 : ub ≠ nb_1 := neOf P7.lt g_nb_1
  have F_3 := K_0.trans K_1 (allS (Or.inl (by simp)) all0)
  have F_4 := P0.keep K_1
  have F_5 := P3.keep K_1
  have F_6 := P4.keep K_1 (ninS ne_a_s0 nin0)
  have F_7 := P5.keep K_1 (ninS ne_a_s0 nin0)
  have F_8 := P6.keep K_1 (ninS ne_a_s0 nin0)
  have F_9 := P7.keep K_1 (ninS ne_ub_s0 nin0)
  have F_10 := staKeep P8 K_1 (allS (Exa.nostat P0) all0)
  exact gRetV X w rfl d34_6 (by decide) (by decide) (⟨rfl, rfl, F_3, nb_1, F_2, na_nb_1, Q0_1, Q1_1, Q2_1, Q3_1⟩)
set_option maxRecDepth 65536 in
set_option maxHeartbeats 40000000 in
theorem own_bts (l : Launch) (Z : State) (a0 : Array Value) (hw : ∀ d ∈ tables_1, d.before a0 Z = true) (a : Addr) (ub : Addr) (ct : List Value) (rs : List Value) (cs : Int32) (h0 : Heap) (n0 : Nat) {D : Addr → Prop} (hn : n0 ≤ h0.size) (P0 : Exa Z h0 a "java/lang/StringBuilder") (P1 : Fld Z h0 a "java/lang/AbstractStringBuilder" "value" "[B" (.ref ub)) (P2 : Fld Z h0 a "java/lang/AbstractStringBuilder" "coder" "B" (.int (0 : Int32))) (P3 : Fld Z h0 a "java/lang/AbstractStringBuilder" "count" "I" (.int (ct.length.toInt32))) (P4 : Av Z h0 ub .byte (ct ++ rs)) (P5 : Sta Z h0 "java/lang/String" "COMPACT_STRINGS" "Z" (.int cs)) (hcs : ¬ cs = 0) (hlen : ct.length + rs.length = 16) (hfu : ∀ v ∈ ct ++ rs, fits .byte v = true) (hsm : ct.length < 16) :
    ConV l Z (⟨"java/lang/StringBuilder", "toString", "()Ljava/lang/String;"⟩ : MethodName) jdk_67_method_42_code 1 (some (.object "java/lang/String")) ({ frames := 5, cells := 2, slots := 20, locals := 101 } : Room) #[(.ref a)] h0 n0 D (fun v h => Keep h0 h [] ∧ ∃ (s0 : Addr) (nb : Addr), v = (.ref s0) ∧ h0.size ≤ s0 ∧ (n0 ≤ s0 ∧ ¬ D s0) ∧ h0.size ≤ nb ∧ (n0 ≤ nb ∧ ¬ D nb) ∧ s0 ≠ nb ∧ Exa Z h s0 "java/lang/String" ∧ Fld Z h s0 "java/lang/String" "value" "[B" (.ref nb) ∧ Fld Z h s0 "java/lang/String" "coder" "B" (.int (0 : Int32)) ∧ Av Z h nb .byte ct ∧ Exa Z h nb "[B") := by
  refine Con.of (plainFor_of_name (by first | (simp [plainName, overriddenIn]; done) | decide +kernel)) hn ?_
  intro p e s m below meth c T w X
  refine Gl.enter (ls := #[.val (.ref a)]) (by first | (simp [entryFrame, mkF, argsToLocals, Value.category]; done) | rfl) ?_
  have K_0 : Keep h0 h0 [] := Keep.refl _ _
  refine gNew X w (own_wd hw 190 rfl) (own_wd hw 7 rfl) (own_wd hw 8 rfl) d33_0 (by decide) (by decide) (n := 3) rfl ?_
  intro T hp0 ad0 ea0 na0 X E0 A0 D0
  have F_1 := Nat.le_trans K_0.1 (Nat.le_of_eq ea0.symm)
  have ne_a_ad0 : a ≠ ad0 := neOf P0.lt (Nat.le_of_eq ea0.symm)
  have ne_ub_ad0 : ub ≠ ad0 := neOf P4.lt (Nat.le_of_eq ea0.symm)
  have F_2 := K_0.ext E0
  have F_3 := P0.ext E0
  have F_4 := P1.ext E0
  have F_5 := P2.ext E0
  have F_6 := P3.ext E0
  have F_7 := P4.ext E0
  have F_8 := P5.ext E0
  have F_9 : Fld Z hp0 ad0 "java/lang/String" "coder" "B" (.int (0 : Int32)) := D0 (Or.inr (own_wd hw 33 rfl)) (ty := .byte) (by decide)
  have F_10 : Fld Z hp0 ad0 "java/lang/String" "value" "[B" .null := D0 (Or.inr (own_wd hw 35 rfl)) (ty := (.array .byte)) (by decide)
  refine gDup X w d33_3 rfl (n := 4) rfl ?_
  refine gAloadN X w d33_4 rfl rfl (n := 5) rfl ?_
  refine gCallIn X w [(.ref a)] [(.ref ad0)] rfl (own_sib l Z a0 hw ad0 a ub ct rs cs hp0 n0 (Sd.le X) A0 F_10 F_9 F_3 F_4 F_5 F_6 F_7 F_8 (by first | assumption | decide | (simp; done) | omega) (by first | assumption | decide) (by first | assumption | decide) (by first | assumption | decide | (simp; done) | omega) ne_a_ad0 ne_ub_ad0 na0) (own_wd hw 191 rfl) (own_wd hw 192 rfl) (own_wd hw 8 rfl) (own_wd hw 193 rfl) (by decide) own_pd21 rfl rfl d33_5 rfl (W := 1) (Nat.le_of_eq rfl) (by decide) (by decide) (by decide) (by decide) (n := 8) rfl ?_
  rintro T h_11 ⟨K_11, nb_11, g_nb_11, na_nb_11, Q0_11, Q1_11, Q2_11, Q3_11⟩ X
  have F_12 := Nat.le_trans F_2.1 g_nb_11
  have ne_a_nb_11 : a ≠ nb_11 := neOf F_3.lt g_nb_11
  have ne_ub_nb_11 : ub ≠ nb_11 := neOf F_7.lt g_nb_11
  have ne_ad0_nb_11 : ad0 ≠ nb_11 := neOf A0.lt g_nb_11
  have F_13 := F_2.trans K_11 (allS (Or.inr F_1) all0)
  have F_14 := F_3.keep K_11
  have F_15 := F_4.keep K_11 (ninS ne_a_ad0 nin0)
  have F_16 := F_5.keep K_11 (ninS ne_a_ad0 nin0)
  have F_17 := F_6.keep K_11 (ninS ne_a_ad0 nin0)
  have F_18 := F_7.keep K_11 (ninS ne_ub_ad0 nin0)
  have F_19 := staKeep F_8 K_11 (allS (Exa.nostat A0) all0)
  have F_20 := A0.keep K_11
  exact gRetA X w rfl rfl rfl d33_8 (by decide) (by decide) (⟨rfl, _, rfl, F_13, ad0, nb_11, rfl, F_1, na0, F_12, na_nb_11, ne_ad0_nb_11, F_20, Q0_11, Q1_11, Q2_11, Q3_11⟩)
set_option maxRecDepth 65536 in
set_option maxHeartbeats 40000000 in
theorem own_ix5_1 (l : Launch) (Z : State) (a0 : Array Value) (hw : ∀ d ∈ tables_1, d.before a0 Z = true) (vb : Addr) (vn : Addr) (y0 : Int32) (h0 : Heap) (n0 : Nat) {D : Addr → Prop} (hn : n0 ≤ h0.size) (P0 : Av Z h0 vb .byte [(.int y0)]) (P1 : Av Z h0 vn .byte [(.int (58 : Int32))]) :
    ConV l Z (⟨"java/lang/StringLatin1", "indexOf", "([BI[BII)I"⟩ : MethodName) jdk_43_method_25_code 11 (some .int) ({ frames := 0, cells := 0, slots := 0, locals := 0 } : Room) #[(.ref vb), (.int (1 : Int32)), (.ref vn), (.int (1 : Int32)), (.int (0 : Int32))] h0 n0 D (fun v h => h0 = h ∧ ∃ (r : Int32), v = (.int r) ∧ ((0 ≤ r.toInt ∧ (y0 = 58)) ∨ (r.toInt < 0 ∧ ¬ y0 = 58))) := by
  refine Con.of (plainFor_of_name (by first | (simp [plainName, overriddenIn]; done) | decide +kernel)) hn ?_
  intro p e s m below meth c T w X
  refine Gl.enter (ls := #[.val (.ref vb), .val (.int (1 : Int32)), .val (.ref vn), .val (.int (1 : Int32)), .val (.int (0 : Int32)), .unset, .unset, .unset, .unset, .unset, .unset]) (by first | (simp [entryFrame, mkF, argsToLocals, Value.category]; done) | rfl) ?_
  refine gAloadN X w d21_0 rfl rfl (n := 1) rfl ?_
  refine gIconst X w d21_1 (z := (0 : Int32)) rfl (n := 2) rfl ?_
  refine gBaload X w P1 (by decide) rfl d21_2 (n := 3) rfl ?_
  refine gIstore X w d21_3 #[.val (.ref vb), .val (.int (1 : Int32)), .val (.ref vn), .val (.int (1 : Int32)), .val (.int (0 : Int32)), .val (.int (58 : Int32)), .unset, .unset, .unset, .unset, .unset] rfl (n := 5) rfl ?_
  refine gIloadN X w d21_5 rfl (n := 6) rfl ?_
  refine gIloadN X w d21_6 rfl (n := 7) rfl ?_
  refine gIsub X w d21_7 (z := (0 : Int32)) (by decide) (n := 8) rfl ?_
  refine gIstore X w d21_8 #[.val (.ref vb), .val (.int (1 : Int32)), .val (.ref vn), .val (.int (1 : Int32)), .val (.int (0 : Int32)), .val (.int (58 : Int32)), .val (.int (0 : Int32)), .unset, .unset, .unset, .unset] rfl (n := 10) rfl ?_
  refine gIload X w d21_10 rfl (n := 12) rfl ?_
  refine gIstore X w d21_12 #[.val (.ref vb), .val (.int (1 : Int32)), .val (.ref vn), .val (.int (1 : Int32)), .val (.int (0 : Int32)), .val (.int (58 : Int32)), .val (.int (0 : Int32)), .val (.int (0 : Int32)), .unset, .unset, .unset] rfl (n := 14) rfl ?_
  refine gIload X w d21_14 rfl (n := 16) rfl ?_
  refine gIload X w d21_16 rfl (n := 18) rfl ?_
  refine gIcmp_gt X w d21_18 (n := 119) (n' := 21) (by decide) rfl rfl ?_ ?_
  · intro c18
    exact absurd c18 (by decide)
  · intro c18
    refine gAloadN X w d21_21 rfl rfl (n := 22) rfl ?_
    refine gIload X w d21_22 rfl (n := 24) rfl ?_
    refine gBaload X w P0 (by decide) rfl d21_24 (n := 25) rfl ?_
    refine gIload X w d21_25 rfl (n := 27) rfl ?_
    refine gIcmp_eq X w d21_27 (n := 52) (n' := 30) (by decide) rfl rfl ?_ ?_
    · rintro ⟨c27, c27'⟩
      have f0 := c27
      refine gIload X w d21_52 rfl (n := 54) rfl ?_
      refine gIload X w d21_54 rfl (n := 56) rfl ?_
      refine gIcmp_gt X w d21_56 (n := 113) (n' := 59) (by decide) rfl rfl ?_ ?_
      · intro c56
        exact absurd c56 (by decide)
      · intro c56
        refine gIload X w d21_59 rfl (n := 61) rfl ?_
        refine gIconst X w d21_61 (z := (1 : Int32)) rfl (n := 62) rfl ?_
        refine gIadd X w d21_62 (z := (1 : Int32)) (by decide) (n := 63) rfl ?_
        refine gIstore X w d21_63 #[.val (.ref vb), .val (.int (1 : Int32)), .val (.ref vn), .val (.int (1 : Int32)), .val (.int (0 : Int32)), .val (.int (58 : Int32)), .val (.int (0 : Int32)), .val (.int (0 : Int32)), .val (.int (1 : Int32)), .unset, .unset] rfl (n := 65) rfl ?_
        refine gIload X w d21_65 rfl (n := 67) rfl ?_
        refine gIloadN X w d21_67 rfl (n := 68) rfl ?_
        refine gIadd X w d21_68 (z := (2 : Int32)) (by decide) (n := 69) rfl ?_
        refine gIconst X w d21_69 (z := (1 : Int32)) rfl (n := 70) rfl ?_
        refine gIsub X w d21_70 (z := (1 : Int32)) (by decide) (n := 71) rfl ?_
        refine gIstore X w d21_71 #[.val (.ref vb), .val (.int (1 : Int32)), .val (.ref vn), .val (.int (1 : Int32)), .val (.int (0 : Int32)), .val (.int (58 : Int32)), .val (.int (0 : Int32)), .val (.int (0 : Int32)), .val (.int (1 : Int32)), .val (.int (1 : Int32)), .unset] rfl (n := 73) rfl ?_
        refine gIconst X w d21_73 (z := (1 : Int32)) rfl (n := 74) rfl ?_
        refine gIstore X w d21_74 #[.val (.ref vb), .val (.int (1 : Int32)), .val (.ref vn), .val (.int (1 : Int32)), .val (.int (0 : Int32)), .val (.int (58 : Int32)), .val (.int (0 : Int32)), .val (.int (0 : Int32)), .val (.int (1 : Int32)), .val (.int (1 : Int32)), .val (.int (1 : Int32))] rfl (n := 76) rfl ?_
        refine gIload X w d21_76 rfl (n := 78) rfl ?_
        refine gIload X w d21_78 rfl (n := 80) rfl ?_
        refine gIcmp_ge X w d21_80 (n := 103) (n' := 83) (by decide) rfl rfl ?_ ?_
        · intro c80
          refine gIload X w d21_103 rfl (n := 105) rfl ?_
          refine gIload X w d21_105 rfl (n := 107) rfl ?_
          refine gIcmp_ne X w d21_107 (n := 113) (n' := 110) (by decide) rfl rfl ?_ ?_
          · rintro ⟨c107, c107'⟩
            exact absurd c107 (by decide)
          · rintro ⟨c107, c107'⟩
            refine gIload X w d21_110 rfl (n := 112) rfl ?_
            exact gRetI X w rfl d21_112 (by decide) (by decide) (⟨rfl, _, rfl, rfl, (0 : Int32), rfl, (Or.inl ⟨by decide, f0⟩)⟩)
        · intro c80
          exact absurd c80 (by decide)
    · rintro ⟨c27, c27'⟩
      have f0 := c27
      refine gIinc X w d21_30 rfl (z := (1 : Int32)) (by decide) #[.val (.ref vb), .val (.int (1 : Int32)), .val (.ref vn), .val (.int (1 : Int32)), .val (.int (0 : Int32)), .val (.int (58 : Int32)), .val (.int (0 : Int32)), .val (.int (1 : Int32)), .unset, .unset, .unset] rfl (n := 33) rfl ?_
      refine gIload X w d21_33 rfl (n := 35) rfl ?_
      refine gIload X w d21_35 rfl (n := 37) rfl ?_
      refine gIcmp_gt X w d21_37 (n := 52) (n' := 40) (by decide) rfl rfl ?_ ?_
      · intro c37
        refine gIload X w d21_52 rfl (n := 54) rfl ?_
        refine gIload X w d21_54 rfl (n := 56) rfl ?_
        refine gIcmp_gt X w d21_56 (n := 113) (n' := 59) (by decide) rfl rfl ?_ ?_
        · intro c56
          refine gIinc X w d21_113 rfl (z := (2 : Int32)) (by decide) #[.val (.ref vb), .val (.int (1 : Int32)), .val (.ref vn), .val (.int (1 : Int32)), .val (.int (0 : Int32)), .val (.int (58 : Int32)), .val (.int (0 : Int32)), .val (.int (2 : Int32)), .unset, .unset, .unset] rfl (n := 116) rfl ?_
          refine gGoto X w d21_116 (by decide) (n := 14) rfl ?_
          refine gIload X w d21_14 rfl (n := 16) rfl ?_
          refine gIload X w d21_16 rfl (n := 18) rfl ?_
          refine gIcmp_gt X w d21_18 (n := 119) (n' := 21) (by decide) rfl rfl ?_ ?_
          · intro c18
            refine gIconst X w d21_119 (z := (-1 : Int32)) rfl (n := 120) rfl ?_
            exact gRetI X w rfl d21_120 (by decide) (by decide) (⟨rfl, _, rfl, rfl, (-1 : Int32), rfl, (Or.inr ⟨by decide, f0⟩)⟩)
          · intro c18
            exact absurd c18 (by decide)
        · intro c56
          exact absurd c56 (by decide)
      · intro c37
        exact absurd c37 (by decide)
set_option maxRecDepth 65536 in
set_option maxHeartbeats 40000000 in
theorem own_ix2_1 (l : Launch) (Z : State) (a0 : Array Value) (hw : ∀ d ∈ tables_1, d.before a0 Z = true) (vb : Addr) (vn : Addr) (y0 : Int32) (h0 : Heap) (n0 : Nat) {D : Addr → Prop} (hn : n0 ≤ h0.size) (P0 : Av Z h0 vb .byte [(.int y0)]) (P1 : Av Z h0 vn .byte [(.int (58 : Int32))]) :
    ConV l Z (⟨"java/lang/StringLatin1", "indexOf", "([B[B)I"⟩ : MethodName) jdk_43_method_24_code 2 (some .int) ({ frames := 1, cells := 0, slots := 0, locals := 22 } : Room) #[(.ref vb), (.ref vn)] h0 n0 D (fun v h => h0 = h ∧ ∃ (r : Int32), v = (.int r) ∧ ((0 ≤ r.toInt ∧ (y0 = 58)) ∨ (r.toInt < 0 ∧ ¬ y0 = 58))) := by
  refine Con.of (plainFor_of_name (by first | (simp [plainName, overriddenIn]; done) | decide +kernel)) hn ?_
  intro p e s m below meth c T w X
  refine Gl.enter (ls := #[.val (.ref vb), .val (.ref vn)]) (by first | (simp [entryFrame, mkF, argsToLocals, Value.category]; done) | rfl) ?_
  refine gAloadN X w d20_0 rfl rfl (n := 1) rfl ?_
  refine gAlen X w P1 (z := (1 : Int32)) rfl d20_1 (n := 2) rfl ?_
  refine gIf_ne X w d20_2 (n := 7) (n' := 5) (by decide) rfl rfl ?_ ?_
  · rintro ⟨c2, c2'⟩
    refine gAloadN X w d20_7 rfl rfl (n := 8) rfl ?_
    refine gAlen X w P0 (z := (1 : Int32)) rfl d20_8 (n := 9) rfl ?_
    refine gIf_ne X w d20_9 (n := 14) (n' := 12) (by decide) rfl rfl ?_ ?_
    · rintro ⟨c9, c9'⟩
      refine gAloadN X w d20_14 rfl rfl (n := 15) rfl ?_
      refine gAloadN X w d20_15 rfl rfl (n := 16) rfl ?_
      refine gAlen X w P0 (z := (1 : Int32)) rfl d20_16 (n := 17) rfl ?_
      refine gAloadN X w d20_17 rfl rfl (n := 18) rfl ?_
      refine gAloadN X w d20_18 rfl rfl (n := 19) rfl ?_
      refine gAlen X w P1 (z := (1 : Int32)) rfl d20_19 (n := 20) rfl ?_
      refine gIconst X w d20_20 (z := (0 : Int32)) rfl (n := 21) rfl ?_
      refine gCallSv X w [(.ref vb), (.int (1 : Int32)), (.ref vn), (.int (1 : Int32)), (.int (0 : Int32))] [] (own_ix5_1 l Z a0 hw vb vn y0 h0 n0 (Sd.le X) P0 P1) (own_wd hw 122 rfl) (own_wd hw 123 rfl) (own_wd hw 120 rfl) (own_wd hw 124 rfl) (by decide) own_pd22 rfl rfl d20_21 rfl (W := 0) (Nat.le_of_eq rfl) (by decide) (by decide) (by decide) (by decide) (n := 24) rfl ?_
      rintro T _ _ ⟨rfl, r_1, rfl, hr_1⟩ X
      exact gRetI X w rfl d20_24 (by decide) (by decide) (⟨rfl, _, rfl, rfl, r_1, rfl, hr_1⟩)
    · rintro ⟨c9, c9'⟩
      exact absurd c9 (by decide)
  · rintro ⟨c2, c2'⟩
    exact absurd c2 (by decide)
set_option maxRecDepth 65536 in
set_option maxHeartbeats 40000000 in
theorem own_ixs_1 (l : Launch) (Z : State) (a0 : Array Value) (hw : ∀ d ∈ tables_1, d.before a0 Z = true) (s0 : Addr) (s1 : Addr) (vb : Addr) (vn : Addr) (y0 : Int32) (cs : Int32) (h0 : Heap) (n0 : Nat) {D : Addr → Prop} (hn : n0 ≤ h0.size) (P0 : Exa Z h0 s0 "java/lang/String") (P1 : Exa Z h0 s1 "java/lang/String") (P2 : Fld Z h0 s0 "java/lang/String" "value" "[B" (.ref vb)) (P3 : Fld Z h0 s0 "java/lang/String" "coder" "B" (.int (0 : Int32))) (P4 : Av Z h0 vb .byte [(.int y0)]) (P5 : Fld Z h0 s1 "java/lang/String" "value" "[B" (.ref vn)) (P6 : Fld Z h0 s1 "java/lang/String" "coder" "B" (.int (0 : Int32))) (P7 : Av Z h0 vn .byte [(.int (58 : Int32))]) (P8 : Sta Z h0 "java/lang/String" "COMPACT_STRINGS" "Z" (.int cs)) (hcs : ¬ cs = 0) :
    ConV l Z (⟨"java/lang/String", "indexOf", "(Ljava/lang/String;)I"⟩ : MethodName) jdk_42_method_84_code 3 (some .int) ({ frames := 2, cells := 0, slots := 0, locals := 35 } : Room) #[(.ref s0), (.ref s1)] h0 n0 D (fun v h => h0 = h ∧ ∃ (r : Int32), v = (.int r) ∧ ((0 ≤ r.toInt ∧ (y0 = 58)) ∨ (r.toInt < 0 ∧ ¬ y0 = 58))) := by
  refine Con.of (plainFor_of_name (by first | (simp [plainName, overriddenIn]; done) | decide +kernel)) hn ?_
  intro p e s m below meth c T w X
  refine Gl.enter (ls := #[.val (.ref s0), .val (.ref s1), .unset]) (by first | (simp [entryFrame, mkF, argsToLocals, Value.category]; done) | rfl) ?_
  refine gAloadN X w d18_0 rfl rfl (n := 1) rfl ?_
  refine gCallVv X w [] [] P0 (own_coder l Z a0 hw s0 cs h0 n0 (Sd.le X) P3 P8 (by first | assumption | decide | (simp; done) | omega)) (own_wd hw 58 rfl) (own_wd hw 59 rfl) (fun vm0 hS => notFace_of_selects (args := #[]) (mvT (State.Warmed39.trans w.2.2.1 hS.1) (own_wd hw 61 rfl))) (own_wd hw 61 rfl) (own_wd hw 60 rfl) (own_wd hw 8 rfl) (own_wd hw 62 rfl) (by decide) own_pd4 rfl rfl d18_1 rfl (W := 0) (Nat.le_of_eq rfl) (by decide) (by decide) (by decide) (by decide) (n := 4) rfl ?_
  rintro T _ _ ⟨rfl, rfl⟩ X
  refine gIstoreN X w d18_4 #[.val (.ref s0), .val (.ref s1), .val (.int (0 : Int32))] rfl (n := 5) rfl ?_
  refine gIloadN X w d18_5 rfl (n := 6) rfl ?_
  refine gAloadN X w d18_6 rfl rfl (n := 7) rfl ?_
  refine gCallVv X w [] [(.int (0 : Int32))] P1 (own_coder l Z a0 hw s1 cs h0 n0 (Sd.le X) P6 P8 (by first | assumption | decide | (simp; done) | omega)) (own_wd hw 58 rfl) (own_wd hw 59 rfl) (fun vm0 hS => notFace_of_selects (args := #[]) (mvT (State.Warmed39.trans w.2.2.1 hS.1) (own_wd hw 61 rfl))) (own_wd hw 61 rfl) (own_wd hw 60 rfl) (own_wd hw 8 rfl) (own_wd hw 62 rfl) (by decide) own_pd4 rfl rfl d18_7 rfl (W := 1) (Nat.le_of_eq rfl) (by decide) (by decide) (by decide) (by decide) (n := 10) rfl ?_
  rintro T _ _ ⟨rfl, rfl⟩ X
  refine gIcmp_ne X w d18_10 (n := 46) (n' := 13) (by decide) rfl rfl ?_ ?_
  · rintro ⟨c10, c10'⟩
    exact absurd c10 (by decide)
  · rintro ⟨c10, c10'⟩
    refine gAloadN X w d18_13 rfl rfl (n := 14) rfl ?_
    refine gCallVv X w [] [] P0 (own_latin1 l Z a0 hw s0 cs h0 n0 (Sd.le X) P3 P8 (by first | assumption | decide | (simp; done) | omega)) (own_wd hw 113 rfl) (own_wd hw 114 rfl) (fun vm0 hS => notFace_of_selects (args := #[]) (mvT (State.Warmed39.trans w.2.2.1 hS.1) (own_wd hw 116 rfl))) (own_wd hw 116 rfl) (own_wd hw 115 rfl) (own_wd hw 8 rfl) (own_wd hw 117 rfl) (by decide) own_pd6 rfl rfl d18_14 rfl (W := 0) (Nat.le_of_eq rfl) (by decide) (by decide) (by decide) (by decide) (n := 17) rfl ?_
    rintro T _ _ ⟨rfl, rfl⟩ X
    refine gIf_eq X w d18_17 (n := 34) (n' := 20) (by decide) rfl rfl ?_ ?_
    · rintro ⟨c17, c17'⟩
      exact absurd c17 (by decide)
    · rintro ⟨c17, c17'⟩
      refine gAloadN X w d18_20 rfl rfl (n := 21) rfl ?_
      refine gGetF X w (own_wd hw 34 rfl) Via.refl P2 d18_21 (n := 24) rfl ?_
      intro T X
      refine gAloadN X w d18_24 rfl rfl (n := 25) rfl ?_
      refine gGetF X w (own_wd hw 34 rfl) Via.refl P5 d18_25 (n := 28) rfl ?_
      intro T X
      refine gCallSv X w [(.ref vb), (.ref vn)] [] (own_ix2_1 l Z a0 hw vb vn y0 h0 n0 (Sd.le X) P4 P7) (own_wd hw 118 rfl) (own_wd hw 119 rfl) (own_wd hw 120 rfl) (own_wd hw 121 rfl) (by decide) own_pd23 rfl rfl d18_28 rfl (W := 0) (Nat.le_of_eq rfl) (by decide) (by decide) (by decide) (by decide) (n := 31) rfl ?_
      rintro T _ _ ⟨rfl, r_4, rfl, hr_4⟩ X
      refine gGoto X w d18_31 (by decide) (n := 45) rfl ?_
      exact gRetI X w rfl d18_45 (by decide) (by decide) (⟨rfl, _, rfl, rfl, r_4, rfl, hr_4⟩)
set_option maxRecDepth 65536 in
set_option maxHeartbeats 40000000 in
theorem own_has_1 (l : Launch) (Z : State) (a0 : Array Value) (hw : ∀ d ∈ tables_1, d.before a0 Z = true) (s0 : Addr) (s1 : Addr) (vb : Addr) (vn : Addr) (y0 : Int32) (cs : Int32) (h0 : Heap) (n0 : Nat) {D : Addr → Prop} (hn : n0 ≤ h0.size) (P0 : Exa Z h0 s0 "java/lang/String") (P1 : Exa Z h0 s1 "java/lang/String") (P2 : Fld Z h0 s0 "java/lang/String" "value" "[B" (.ref vb)) (P3 : Fld Z h0 s0 "java/lang/String" "coder" "B" (.int (0 : Int32))) (P4 : Av Z h0 vb .byte [(.int y0)]) (P5 : Fld Z h0 s1 "java/lang/String" "value" "[B" (.ref vn)) (P6 : Fld Z h0 s1 "java/lang/String" "coder" "B" (.int (0 : Int32))) (P7 : Av Z h0 vn .byte [(.int (58 : Int32))]) (P8 : Sta Z h0 "java/lang/String" "COMPACT_STRINGS" "Z" (.int cs)) (hcs : ¬ cs = 0) :
    ConV l Z (⟨"java/lang/String", "contains", "(Ljava/lang/CharSequence;)Z"⟩ : MethodName) jdk_42_method_97_code 2 (some .boolean) ({ frames := 3, cells := 0, slots := 0, locals := 49 } : Room) #[(.ref s0), (.ref s1)] h0 n0 D (fun v h => h0 = h ∧ ∃ (b0 : Int32), v = (.int b0) ∧ ((b0 = 1 ∧ own_col [Value.int y0]) ∨ (b0 = 0 ∧ ¬ own_col [Value.int y0]))) := by
  refine Con.of (plainFor_of_name (by first | (simp [plainName, overriddenIn]; done) | decide +kernel)) hn ?_
  intro p e s m below meth c T w X
  refine Gl.enter (ls := #[.val (.ref s0), .val (.ref s1)]) (by first | (simp [entryFrame, mkF, argsToLocals, Value.category]; done) | rfl) ?_
  refine gAloadN X w d16_0 rfl rfl (n := 1) rfl ?_
  refine gAloadN X w d16_1 rfl rfl (n := 2) rfl ?_
  refine gCallFv X w [] [(.ref s0)] P1 (own_sts l Z a0 hw s1 h0 n0 (Sd.le X) ) (own_wd hw 99 rfl) (own_wd hw 100 rfl) (own_wd hw 101 rfl) (own_wd hw 102 rfl) (own_wd hw 103 rfl) (own_wd hw 104 rfl) (own_wd hw 105 rfl) (own_wd hw 106 rfl) (own_wd hw 8 rfl) (own_wd hw 107 rfl) (by decide) own_pd24 rfl rfl d16_2 rfl (W := 1) (Nat.le_of_eq rfl) (by decide) (by decide) (by decide) (by decide) (n := 7) rfl ?_
  rintro T _ _ ⟨rfl, rfl⟩ X
  refine gCallVv X w [(.ref s1)] [] P0 (own_ixs_1 l Z a0 hw s0 s1 vb vn y0 cs h0 n0 (Sd.le X) P0 P1 P2 P3 P4 P5 P6 P7 P8 (by first | assumption | decide | (simp; done) | omega)) (own_wd hw 108 rfl) (own_wd hw 109 rfl) (fun vm0 hS => notFace_of_selects (args := #[]) (mvT (State.Warmed39.trans w.2.2.1 hS.1) (own_wd hw 111 rfl))) (own_wd hw 111 rfl) (own_wd hw 110 rfl) (own_wd hw 8 rfl) (own_wd hw 112 rfl) (by decide) own_pd25 rfl rfl d16_7 rfl (W := 0) (Nat.le_of_eq rfl) (by decide) (by decide) (by decide) (by decide) (n := 10) rfl ?_
  rintro T _ _ ⟨rfl, r_2, rfl, hr_2⟩ X
  refine gIf_lt X w d16_10 (n := 17) (n' := 13) (by decide) rfl rfl ?_ ?_
  · intro c10
    refine gIconst X w d16_17 (z := (0 : Int32)) rfl (n := 18) rfl ?_
    exact gRetZ X w rfl (Or.inl rfl) d16_18 (by decide) (by decide) (⟨rfl, _, rfl, rfl, (0 : Int32), rfl, (Or.inr ⟨rfl, own_colF1 (hr_2.resolve_left (fun g => absurd c10 (Int.not_lt.mpr g.1))).2⟩)⟩)
  · intro c10
    refine gIconst X w d16_13 (z := (1 : Int32)) rfl (n := 14) rfl ?_
    refine gGoto X w d16_14 (by decide) (n := 18) rfl ?_
    exact gRetZ X w rfl (Or.inr rfl) d16_18 (by decide) (by decide) (⟨rfl, _, rfl, rfl, (1 : Int32), rfl, (Or.inl ⟨rfl, own_colT1 (hr_2.resolve_right (fun g => absurd g.1 (Int.not_lt.mpr c10))).2⟩)⟩)
set_option maxRecDepth 65536 in
set_option maxHeartbeats 40000000 in
theorem own_ix5_2 (l : Launch) (Z : State) (a0 : Array Value) (hw : ∀ d ∈ tables_1, d.before a0 Z = true) (vb : Addr) (vn : Addr) (y0 : Int32) (y1 : Int32) (h0 : Heap) (n0 : Nat) {D : Addr → Prop} (hn : n0 ≤ h0.size) (P0 : Av Z h0 vb .byte [(.int y0), (.int y1)]) (P1 : Av Z h0 vn .byte [(.int (58 : Int32))]) :
    ConV l Z (⟨"java/lang/StringLatin1", "indexOf", "([BI[BII)I"⟩ : MethodName) jdk_43_method_25_code 11 (some .int) ({ frames := 0, cells := 0, slots := 0, locals := 0 } : Room) #[(.ref vb), (.int (2 : Int32)), (.ref vn), (.int (1 : Int32)), (.int (0 : Int32))] h0 n0 D (fun v h => h0 = h ∧ ∃ (r : Int32), v = (.int r) ∧ ((0 ≤ r.toInt ∧ (y0 = 58 ∨ y1 = 58)) ∨ (r.toInt < 0 ∧ ¬ y0 = 58 ∧ ¬ y1 = 58))) := by
  refine Con.of (plainFor_of_name (by first | (simp [plainName, overriddenIn]; done) | decide +kernel)) hn ?_
  intro p e s m below meth c T w X
  refine Gl.enter (ls := #[.val (.ref vb), .val (.int (2 : Int32)), .val (.ref vn), .val (.int (1 : Int32)), .val (.int (0 : Int32)), .unset, .unset, .unset, .unset, .unset, .unset]) (by first | (simp [entryFrame, mkF, argsToLocals, Value.category]; done) | rfl) ?_
  refine gAloadN X w d21_0 rfl rfl (n := 1) rfl ?_
  refine gIconst X w d21_1 (z := (0 : Int32)) rfl (n := 2) rfl ?_
  refine gBaload X w P1 (by decide) rfl d21_2 (n := 3) rfl ?_
  refine gIstore X w d21_3 #[.val (.ref vb), .val (.int (2 : Int32)), .val (.ref vn), .val (.int (1 : Int32)), .val (.int (0 : Int32)), .val (.int (58 : Int32)), .unset, .unset, .unset, .unset, .unset] rfl (n := 5) rfl ?_
  refine gIloadN X w d21_5 rfl (n := 6) rfl ?_
  refine gIloadN X w d21_6 rfl (n := 7) rfl ?_
  refine gIsub X w d21_7 (z := (1 : Int32)) (by decide) (n := 8) rfl ?_
  refine gIstore X w d21_8 #[.val (.ref vb), .val (.int (2 : Int32)), .val (.ref vn), .val (.int (1 : Int32)), .val (.int (0 : Int32)), .val (.int (58 : Int32)), .val (.int (1 : Int32)), .unset, .unset, .unset, .unset] rfl (n := 10) rfl ?_
  refine gIload X w d21_10 rfl (n := 12) rfl ?_
  refine gIstore X w d21_12 #[.val (.ref vb), .val (.int (2 : Int32)), .val (.ref vn), .val (.int (1 : Int32)), .val (.int (0 : Int32)), .val (.int (58 : Int32)), .val (.int (1 : Int32)), .val (.int (0 : Int32)), .unset, .unset, .unset] rfl (n := 14) rfl ?_
  refine gIload X w d21_14 rfl (n := 16) rfl ?_
  refine gIload X w d21_16 rfl (n := 18) rfl ?_
  refine gIcmp_gt X w d21_18 (n := 119) (n' := 21) (by decide) rfl rfl ?_ ?_
  · intro c18
    exact absurd c18 (by decide)
  · intro c18
    refine gAloadN X w d21_21 rfl rfl (n := 22) rfl ?_
    refine gIload X w d21_22 rfl (n := 24) rfl ?_
    refine gBaload X w P0 (by decide) rfl d21_24 (n := 25) rfl ?_
    refine gIload X w d21_25 rfl (n := 27) rfl ?_
    refine gIcmp_eq X w d21_27 (n := 52) (n' := 30) (by decide) rfl rfl ?_ ?_
    · rintro ⟨c27, c27'⟩
      have f0 := c27
      refine gIload X w d21_52 rfl (n := 54) rfl ?_
      refine gIload X w d21_54 rfl (n := 56) rfl ?_
      refine gIcmp_gt X w d21_56 (n := 113) (n' := 59) (by decide) rfl rfl ?_ ?_
      · intro c56
        exact absurd c56 (by decide)
      · intro c56
        refine gIload X w d21_59 rfl (n := 61) rfl ?_
        refine gIconst X w d21_61 (z := (1 : Int32)) rfl (n := 62) rfl ?_
        refine gIadd X w d21_62 (z := (1 : Int32)) (by decide) (n := 63) rfl ?_
        refine gIstore X w d21_63 #[.val (.ref vb), .val (.int (2 : Int32)), .val (.ref vn), .val (.int (1 : Int32)), .val (.int (0 : Int32)), .val (.int (58 : Int32)), .val (.int (1 : Int32)), .val (.int (0 : Int32)), .val (.int (1 : Int32)), .unset, .unset] rfl (n := 65) rfl ?_
        refine gIload X w d21_65 rfl (n := 67) rfl ?_
        refine gIloadN X w d21_67 rfl (n := 68) rfl ?_
        refine gIadd X w d21_68 (z := (2 : Int32)) (by decide) (n := 69) rfl ?_
        refine gIconst X w d21_69 (z := (1 : Int32)) rfl (n := 70) rfl ?_
        refine gIsub X w d21_70 (z := (1 : Int32)) (by decide) (n := 71) rfl ?_
        refine gIstore X w d21_71 #[.val (.ref vb), .val (.int (2 : Int32)), .val (.ref vn), .val (.int (1 : Int32)), .val (.int (0 : Int32)), .val (.int (58 : Int32)), .val (.int (1 : Int32)), .val (.int (0 : Int32)), .val (.int (1 : Int32)), .val (.int (1 : Int32)), .unset] rfl (n := 73) rfl ?_
        refine gIconst X w d21_73 (z := (1 : Int32)) rfl (n := 74) rfl ?_
        refine gIstore X w d21_74 #[.val (.ref vb), .val (.int (2 : Int32)), .val (.ref vn), .val (.int (1 : Int32)), .val (.int (0 : Int32)), .val (.int (58 : Int32)), .val (.int (1 : Int32)), .val (.int (0 : Int32)), .val (.int (1 : Int32)), .val (.int (1 : Int32)), .val (.int (1 : Int32))] rfl (n := 76) rfl ?_
        refine gIload X w d21_76 rfl (n := 78) rfl ?_
        refine gIload X w d21_78 rfl (n := 80) rfl ?_
        refine gIcmp_ge X w d21_80 (n := 103) (n' := 83) (by decide) rfl rfl ?_ ?_
        · intro c80
          refine gIload X w d21_103 rfl (n := 105) rfl ?_
          refine gIload X w d21_105 rfl (n := 107) rfl ?_
          refine gIcmp_ne X w d21_107 (n := 113) (n' := 110) (by decide) rfl rfl ?_ ?_
          · rintro ⟨c107, c107'⟩
            exact absurd c107 (by decide)
          · rintro ⟨c107, c107'⟩
            refine gIload X w d21_110 rfl (n := 112) rfl ?_
            exact gRetI X w rfl d21_112 (by decide) (by decide) (⟨rfl, _, rfl, rfl, (0 : Int32), rfl, (Or.inl ⟨by decide, (Or.inl f0)⟩)⟩)
        · intro c80
          exact absurd c80 (by decide)
    · rintro ⟨c27, c27'⟩
      have f0 := c27
      refine gIinc X w d21_30 rfl (z := (1 : Int32)) (by decide) #[.val (.ref vb), .val (.int (2 : Int32)), .val (.ref vn), .val (.int (1 : Int32)), .val (.int (0 : Int32)), .val (.int (58 : Int32)), .val (.int (1 : Int32)), .val (.int (1 : Int32)), .unset, .unset, .unset] rfl (n := 33) rfl ?_
      refine gIload X w d21_33 rfl (n := 35) rfl ?_
      refine gIload X w d21_35 rfl (n := 37) rfl ?_
      refine gIcmp_gt X w d21_37 (n := 52) (n' := 40) (by decide) rfl rfl ?_ ?_
      · intro c37
        exact absurd c37 (by decide)
      · intro c37
        refine gAloadN X w d21_40 rfl rfl (n := 41) rfl ?_
        refine gIload X w d21_41 rfl (n := 43) rfl ?_
        refine gBaload X w P0 (by decide) rfl d21_43 (n := 44) rfl ?_
        refine gIload X w d21_44 rfl (n := 46) rfl ?_
        refine gIcmp_eq X w d21_46 (n := 52) (n' := 49) (by decide) rfl rfl ?_ ?_
        · rintro ⟨c46, c46'⟩
          have f1 := c46
          refine gIload X w d21_52 rfl (n := 54) rfl ?_
          refine gIload X w d21_54 rfl (n := 56) rfl ?_
          refine gIcmp_gt X w d21_56 (n := 113) (n' := 59) (by decide) rfl rfl ?_ ?_
          · intro c56
            exact absurd c56 (by decide)
          · intro c56
            refine gIload X w d21_59 rfl (n := 61) rfl ?_
            refine gIconst X w d21_61 (z := (1 : Int32)) rfl (n := 62) rfl ?_
            refine gIadd X w d21_62 (z := (2 : Int32)) (by decide) (n := 63) rfl ?_
            refine gIstore X w d21_63 #[.val (.ref vb), .val (.int (2 : Int32)), .val (.ref vn), .val (.int (1 : Int32)), .val (.int (0 : Int32)), .val (.int (58 : Int32)), .val (.int (1 : Int32)), .val (.int (1 : Int32)), .val (.int (2 : Int32)), .unset, .unset] rfl (n := 65) rfl ?_
            refine gIload X w d21_65 rfl (n := 67) rfl ?_
            refine gIloadN X w d21_67 rfl (n := 68) rfl ?_
            refine gIadd X w d21_68 (z := (3 : Int32)) (by decide) (n := 69) rfl ?_
            refine gIconst X w d21_69 (z := (1 : Int32)) rfl (n := 70) rfl ?_
            refine gIsub X w d21_70 (z := (2 : Int32)) (by decide) (n := 71) rfl ?_
            refine gIstore X w d21_71 #[.val (.ref vb), .val (.int (2 : Int32)), .val (.ref vn), .val (.int (1 : Int32)), .val (.int (0 : Int32)), .val (.int (58 : Int32)), .val (.int (1 : Int32)), .val (.int (1 : Int32)), .val (.int (2 : Int32)), .val (.int (2 : Int32)), .unset] rfl (n := 73) rfl ?_
            refine gIconst X w d21_73 (z := (1 : Int32)) rfl (n := 74) rfl ?_
            refine gIstore X w d21_74 #[.val (.ref vb), .val (.int (2 : Int32)), .val (.ref vn), .val (.int (1 : Int32)), .val (.int (0 : Int32)), .val (.int (58 : Int32)), .val (.int (1 : Int32)), .val (.int (1 : Int32)), .val (.int (2 : Int32)), .val (.int (2 : Int32)), .val (.int (1 : Int32))] rfl (n := 76) rfl ?_
            refine gIload X w d21_76 rfl (n := 78) rfl ?_
            refine gIload X w d21_78 rfl (n := 80) rfl ?_
            refine gIcmp_ge X w d21_80 (n := 103) (n' := 83) (by decide) rfl rfl ?_ ?_
            · intro c80
              refine gIload X w d21_103 rfl (n := 105) rfl ?_
              refine gIload X w d21_105 rfl (n := 107) rfl ?_
              refine gIcmp_ne X w d21_107 (n := 113) (n' := 110) (by decide) rfl rfl ?_ ?_
              · rintro ⟨c107, c107'⟩
                exact absurd c107 (by decide)
              · rintro ⟨c107, c107'⟩
                refine gIload X w d21_110 rfl (n := 112) rfl ?_
                exact gRetI X w rfl d21_112 (by decide) (by decide) (⟨rfl, _, rfl, rfl, (1 : Int32), rfl, (Or.inl ⟨by decide, (Or.inr f1)⟩)⟩)
            · intro c80
              exact absurd c80 (by decide)
        · rintro ⟨c46, c46'⟩
          have f1 := c46
          refine gGoto X w d21_49 (by decide) (n := 30) rfl ?_
          refine gIinc X w d21_30 rfl (z := (2 : Int32)) (by decide) #[.val (.ref vb), .val (.int (2 : Int32)), .val (.ref vn), .val (.int (1 : Int32)), .val (.int (0 : Int32)), .val (.int (58 : Int32)), .val (.int (1 : Int32)), .val (.int (2 : Int32)), .unset, .unset, .unset] rfl (n := 33) rfl ?_
          refine gIload X w d21_33 rfl (n := 35) rfl ?_
          refine gIload X w d21_35 rfl (n := 37) rfl ?_
          refine gIcmp_gt X w d21_37 (n := 52) (n' := 40) (by decide) rfl rfl ?_ ?_
          · intro c37
            refine gIload X w d21_52 rfl (n := 54) rfl ?_
            refine gIload X w d21_54 rfl (n := 56) rfl ?_
            refine gIcmp_gt X w d21_56 (n := 113) (n' := 59) (by decide) rfl rfl ?_ ?_
            · intro c56
              refine gIinc X w d21_113 rfl (z := (3 : Int32)) (by decide) #[.val (.ref vb), .val (.int (2 : Int32)), .val (.ref vn), .val (.int (1 : Int32)), .val (.int (0 : Int32)), .val (.int (58 : Int32)), .val (.int (1 : Int32)), .val (.int (3 : Int32)), .unset, .unset, .unset] rfl (n := 116) rfl ?_
              refine gGoto X w d21_116 (by decide) (n := 14) rfl ?_
              refine gIload X w d21_14 rfl (n := 16) rfl ?_
              refine gIload X w d21_16 rfl (n := 18) rfl ?_
              refine gIcmp_gt X w d21_18 (n := 119) (n' := 21) (by decide) rfl rfl ?_ ?_
              · intro c18
                refine gIconst X w d21_119 (z := (-1 : Int32)) rfl (n := 120) rfl ?_
                exact gRetI X w rfl d21_120 (by decide) (by decide) (⟨rfl, _, rfl, rfl, (-1 : Int32), rfl, (Or.inr ⟨by decide, f0, f1⟩)⟩)
              · intro c18
                exact absurd c18 (by decide)
            · intro c56
              exact absurd c56 (by decide)
          · intro c37
            exact absurd c37 (by decide)
set_option maxRecDepth 65536 in
set_option maxHeartbeats 40000000 in
theorem own_ix2_2 (l : Launch) (Z : State) (a0 : Array Value) (hw : ∀ d ∈ tables_1, d.before a0 Z = true) (vb : Addr) (vn : Addr) (y0 : Int32) (y1 : Int32) (h0 : Heap) (n0 : Nat) {D : Addr → Prop} (hn : n0 ≤ h0.size) (P0 : Av Z h0 vb .byte [(.int y0), (.int y1)]) (P1 : Av Z h0 vn .byte [(.int (58 : Int32))]) :
    ConV l Z (⟨"java/lang/StringLatin1", "indexOf", "([B[B)I"⟩ : MethodName) jdk_43_method_24_code 2 (some .int) ({ frames := 1, cells := 0, slots := 0, locals := 22 } : Room) #[(.ref vb), (.ref vn)] h0 n0 D (fun v h => h0 = h ∧ ∃ (r : Int32), v = (.int r) ∧ ((0 ≤ r.toInt ∧ (y0 = 58 ∨ y1 = 58)) ∨ (r.toInt < 0 ∧ ¬ y0 = 58 ∧ ¬ y1 = 58))) := by
  refine Con.of (plainFor_of_name (by first | (simp [plainName, overriddenIn]; done) | decide +kernel)) hn ?_
  intro p e s m below meth c T w X
  refine Gl.enter (ls := #[.val (.ref vb), .val (.ref vn)]) (by first | (simp [entryFrame, mkF, argsToLocals, Value.category]; done) | rfl) ?_
  refine gAloadN X w d20_0 rfl rfl (n := 1) rfl ?_
  refine gAlen X w P1 (z := (1 : Int32)) rfl d20_1 (n := 2) rfl ?_
  refine gIf_ne X w d20_2 (n := 7) (n' := 5) (by decide) rfl rfl ?_ ?_
  · rintro ⟨c2, c2'⟩
    refine gAloadN X w d20_7 rfl rfl (n := 8) rfl ?_
    refine gAlen X w P0 (z := (2 : Int32)) rfl d20_8 (n := 9) rfl ?_
    refine gIf_ne X w d20_9 (n := 14) (n' := 12) (by decide) rfl rfl ?_ ?_
    · rintro ⟨c9, c9'⟩
      refine gAloadN X w d20_14 rfl rfl (n := 15) rfl ?_
      refine gAloadN X w d20_15 rfl rfl (n := 16) rfl ?_
      refine gAlen X w P0 (z := (2 : Int32)) rfl d20_16 (n := 17) rfl ?_
      refine gAloadN X w d20_17 rfl rfl (n := 18) rfl ?_
      refine gAloadN X w d20_18 rfl rfl (n := 19) rfl ?_
      refine gAlen X w P1 (z := (1 : Int32)) rfl d20_19 (n := 20) rfl ?_
      refine gIconst X w d20_20 (z := (0 : Int32)) rfl (n := 21) rfl ?_
      refine gCallSv X w [(.ref vb), (.int (2 : Int32)), (.ref vn), (.int (1 : Int32)), (.int (0 : Int32))] [] (own_ix5_2 l Z a0 hw vb vn y0 y1 h0 n0 (Sd.le X) P0 P1) (own_wd hw 122 rfl) (own_wd hw 123 rfl) (own_wd hw 120 rfl) (own_wd hw 124 rfl) (by decide) own_pd22 rfl rfl d20_21 rfl (W := 0) (Nat.le_of_eq rfl) (by decide) (by decide) (by decide) (by decide) (n := 24) rfl ?_
      rintro T _ _ ⟨rfl, r_1, rfl, hr_1⟩ X
      exact gRetI X w rfl d20_24 (by decide) (by decide) (⟨rfl, _, rfl, rfl, r_1, rfl, hr_1⟩)
    · rintro ⟨c9, c9'⟩
      exact absurd c9 (by decide)
  · rintro ⟨c2, c2'⟩
    exact absurd c2 (by decide)
set_option maxRecDepth 65536 in
set_option maxHeartbeats 40000000 in
theorem own_ixs_2 (l : Launch) (Z : State) (a0 : Array Value) (hw : ∀ d ∈ tables_1, d.before a0 Z = true) (s0 : Addr) (s1 : Addr) (vb : Addr) (vn : Addr) (y0 : Int32) (y1 : Int32) (cs : Int32) (h0 : Heap) (n0 : Nat) {D : Addr → Prop} (hn : n0 ≤ h0.size) (P0 : Exa Z h0 s0 "java/lang/String") (P1 : Exa Z h0 s1 "java/lang/String") (P2 : Fld Z h0 s0 "java/lang/String" "value" "[B" (.ref vb)) (P3 : Fld Z h0 s0 "java/lang/String" "coder" "B" (.int (0 : Int32))) (P4 : Av Z h0 vb .byte [(.int y0), (.int y1)]) (P5 : Fld Z h0 s1 "java/lang/String" "value" "[B" (.ref vn)) (P6 : Fld Z h0 s1 "java/lang/String" "coder" "B" (.int (0 : Int32))) (P7 : Av Z h0 vn .byte [(.int (58 : Int32))]) (P8 : Sta Z h0 "java/lang/String" "COMPACT_STRINGS" "Z" (.int cs)) (hcs : ¬ cs = 0) :
    ConV l Z (⟨"java/lang/String", "indexOf", "(Ljava/lang/String;)I"⟩ : MethodName) jdk_42_method_84_code 3 (some .int) ({ frames := 2, cells := 0, slots := 0, locals := 35 } : Room) #[(.ref s0), (.ref s1)] h0 n0 D (fun v h => h0 = h ∧ ∃ (r : Int32), v = (.int r) ∧ ((0 ≤ r.toInt ∧ (y0 = 58 ∨ y1 = 58)) ∨ (r.toInt < 0 ∧ ¬ y0 = 58 ∧ ¬ y1 = 58))) := by
  refine Con.of (plainFor_of_name (by first | (simp [plainName, overriddenIn]; done) | decide +kernel)) hn ?_
  intro p e s m below meth c T w X
  refine Gl.enter (ls := #[.val (.ref s0), .val (.ref s1), .unset]) (by first | (simp [entryFrame, mkF, argsToLocals, Value.category]; done) | rfl) ?_
  refine gAloadN X w d18_0 rfl rfl (n := 1) rfl ?_
  refine gCallVv X w [] [] P0 (own_coder l Z a0 hw s0 cs h0 n0 (Sd.le X) P3 P8 (by first | assumption | decide | (simp; done) | omega)) (own_wd hw 58 rfl) (own_wd hw 59 rfl) (fun vm0 hS => notFace_of_selects (args := #[]) (mvT (State.Warmed39.trans w.2.2.1 hS.1) (own_wd hw 61 rfl))) (own_wd hw 61 rfl) (own_wd hw 60 rfl) (own_wd hw 8 rfl) (own_wd hw 62 rfl) (by decide) own_pd4 rfl rfl d18_1 rfl (W := 0) (Nat.le_of_eq rfl) (by decide) (by decide) (by decide) (by decide) (n := 4) rfl ?_
  rintro T _ _ ⟨rfl, rfl⟩ X
  refine gIstoreN X w d18_4 #[.val (.ref s0), .val (.ref s1), .val (.int (0 : Int32))] rfl (n := 5) rfl ?_
  refine gIloadN X w d18_5 rfl (n := 6) rfl ?_
  refine gAloadN X w d18_6 rfl rfl (n := 7) rfl ?_
  refine gCallVv X w [] [(.int (0 : Int32))] P1 (own_coder l Z a0 hw s1 cs h0 n0 (Sd.le X) P6 P8 (by first | assumption | decide | (simp; done) | omega)) (own_wd hw 58 rfl) (own_wd hw 59 rfl) (fun vm0 hS => notFace_of_selects (args := #[]) (mvT (State.Warmed39.trans w.2.2.1 hS.1) (own_wd hw 61 rfl))) (own_wd hw 61 rfl) (own_wd hw 60 rfl) (own_wd hw 8 rfl) (own_wd hw 62 rfl) (by decide) own_pd4 rfl rfl d18_7 rfl (W := 1) (Nat.le_of_eq rfl) (by decide) (by decide) (by decide) (by decide) (n := 10) rfl ?_
  rintro T _ _ ⟨rfl, rfl⟩ X
  refine gIcmp_ne X w d18_10 (n := 46) (n' := 13) (by decide) rfl rfl ?_ ?_
  · rintro ⟨c10, c10'⟩
    exact absurd c10 (by decide)
  · rintro ⟨c10, c10'⟩
    refine gAloadN X w d18_13 rfl rfl (n := 14) rfl ?_
    refine gCallVv X w [] [] P0 (own_latin1 l Z a0 hw s0 cs h0 n0 (Sd.le X) P3 P8 (by first | assumption | decide | (simp; done) | omega)) (own_wd hw 113 rfl) (own_wd hw 114 rfl) (fun vm0 hS => notFace_of_selects (args := #[]) (mvT (State.Warmed39.trans w.2.2.1 hS.1) (own_wd hw 116 rfl))) (own_wd hw 116 rfl) (own_wd hw 115 rfl) (own_wd hw 8 rfl) (own_wd hw 117 rfl) (by decide) own_pd6 rfl rfl d18_14 rfl (W := 0) (Nat.le_of_eq rfl) (by decide) (by decide) (by decide) (by decide) (n := 17) rfl ?_
    rintro T _ _ ⟨rfl, rfl⟩ X
    refine gIf_eq X w d18_17 (n := 34) (n' := 20) (by decide) rfl rfl ?_ ?_
    · rintro ⟨c17, c17'⟩
      exact absurd c17 (by decide)
    · rintro ⟨c17, c17'⟩
      refine gAloadN X w d18_20 rfl rfl (n := 21) rfl ?_
      refine gGetF X w (own_wd hw 34 rfl) Via.refl P2 d18_21 (n := 24) rfl ?_
      intro T X
      refine gAloadN X w d18_24 rfl rfl (n := 25) rfl ?_
      refine gGetF X w (own_wd hw 34 rfl) Via.refl P5 d18_25 (n := 28) rfl ?_
      intro T X
      refine gCallSv X w [(.ref vb), (.ref vn)] [] (own_ix2_2 l Z a0 hw vb vn y0 y1 h0 n0 (Sd.le X) P4 P7) (own_wd hw 118 rfl) (own_wd hw 119 rfl) (own_wd hw 120 rfl) (own_wd hw 121 rfl) (by decide) own_pd23 rfl rfl d18_28 rfl (W := 0) (Nat.le_of_eq rfl) (by decide) (by decide) (by decide) (by decide) (n := 31) rfl ?_
      rintro T _ _ ⟨rfl, r_4, rfl, hr_4⟩ X
      refine gGoto X w d18_31 (by decide) (n := 45) rfl ?_
      exact gRetI X w rfl d18_45 (by decide) (by decide) (⟨rfl, _, rfl, rfl, r_4, rfl, hr_4⟩)
set_option maxRecDepth 65536 in
set_option maxHeartbeats 40000000 in
theorem own_has_2 (l : Launch) (Z : State) (a0 : Array Value) (hw : ∀ d ∈ tables_1, d.before a0 Z = true) (s0 : Addr) (s1 : Addr) (vb : Addr) (vn : Addr) (y0 : Int32) (y1 : Int32) (cs : Int32) (h0 : Heap) (n0 : Nat) {D : Addr → Prop} (hn : n0 ≤ h0.size) (P0 : Exa Z h0 s0 "java/lang/String") (P1 : Exa Z h0 s1 "java/lang/String") (P2 : Fld Z h0 s0 "java/lang/String" "value" "[B" (.ref vb)) (P3 : Fld Z h0 s0 "java/lang/String" "coder" "B" (.int (0 : Int32))) (P4 : Av Z h0 vb .byte [(.int y0), (.int y1)]) (P5 : Fld Z h0 s1 "java/lang/String" "value" "[B" (.ref vn)) (P6 : Fld Z h0 s1 "java/lang/String" "coder" "B" (.int (0 : Int32))) (P7 : Av Z h0 vn .byte [(.int (58 : Int32))]) (P8 : Sta Z h0 "java/lang/String" "COMPACT_STRINGS" "Z" (.int cs)) (hcs : ¬ cs = 0) :
    ConV l Z (⟨"java/lang/String", "contains", "(Ljava/lang/CharSequence;)Z"⟩ : MethodName) jdk_42_method_97_code 2 (some .boolean) ({ frames := 3, cells := 0, slots := 0, locals := 49 } : Room) #[(.ref s0), (.ref s1)] h0 n0 D (fun v h => h0 = h ∧ ∃ (b0 : Int32), v = (.int b0) ∧ ((b0 = 1 ∧ own_col [Value.int y0, Value.int y1]) ∨ (b0 = 0 ∧ ¬ own_col [Value.int y0, Value.int y1]))) := by
  refine Con.of (plainFor_of_name (by first | (simp [plainName, overriddenIn]; done) | decide +kernel)) hn ?_
  intro p e s m below meth c T w X
  refine Gl.enter (ls := #[.val (.ref s0), .val (.ref s1)]) (by first | (simp [entryFrame, mkF, argsToLocals, Value.category]; done) | rfl) ?_
  refine gAloadN X w d16_0 rfl rfl (n := 1) rfl ?_
  refine gAloadN X w d16_1 rfl rfl (n := 2) rfl ?_
  refine gCallFv X w [] [(.ref s0)] P1 (own_sts l Z a0 hw s1 h0 n0 (Sd.le X) ) (own_wd hw 99 rfl) (own_wd hw 100 rfl) (own_wd hw 101 rfl) (own_wd hw 102 rfl) (own_wd hw 103 rfl) (own_wd hw 104 rfl) (own_wd hw 105 rfl) (own_wd hw 106 rfl) (own_wd hw 8 rfl) (own_wd hw 107 rfl) (by decide) own_pd24 rfl rfl d16_2 rfl (W := 1) (Nat.le_of_eq rfl) (by decide) (by decide) (by decide) (by decide) (n := 7) rfl ?_
  rintro T _ _ ⟨rfl, rfl⟩ X
  refine gCallVv X w [(.ref s1)] [] P0 (own_ixs_2 l Z a0 hw s0 s1 vb vn y0 y1 cs h0 n0 (Sd.le X) P0 P1 P2 P3 P4 P5 P6 P7 P8 (by first | assumption | decide | (simp; done) | omega)) (own_wd hw 108 rfl) (own_wd hw 109 rfl) (fun vm0 hS => notFace_of_selects (args := #[]) (mvT (State.Warmed39.trans w.2.2.1 hS.1) (own_wd hw 111 rfl))) (own_wd hw 111 rfl) (own_wd hw 110 rfl) (own_wd hw 8 rfl) (own_wd hw 112 rfl) (by decide) own_pd25 rfl rfl d16_7 rfl (W := 0) (Nat.le_of_eq rfl) (by decide) (by decide) (by decide) (by decide) (n := 10) rfl ?_
  rintro T _ _ ⟨rfl, r_2, rfl, hr_2⟩ X
  refine gIf_lt X w d16_10 (n := 17) (n' := 13) (by decide) rfl rfl ?_ ?_
  · intro c10
    refine gIconst X w d16_17 (z := (0 : Int32)) rfl (n := 18) rfl ?_
    exact gRetZ X w rfl (Or.inl rfl) d16_18 (by decide) (by decide) (⟨rfl, _, rfl, rfl, (0 : Int32), rfl, (Or.inr ⟨rfl, own_colF2 (hr_2.resolve_left (fun g => absurd c10 (Int.not_lt.mpr g.1))).2⟩)⟩)
  · intro c10
    refine gIconst X w d16_13 (z := (1 : Int32)) rfl (n := 14) rfl ?_
    refine gGoto X w d16_14 (by decide) (n := 18) rfl ?_
    exact gRetZ X w rfl (Or.inr rfl) d16_18 (by decide) (by decide) (⟨rfl, _, rfl, rfl, (1 : Int32), rfl, (Or.inl ⟨rfl, own_colT2 (hr_2.resolve_right (fun g => absurd g.1 (Int.not_lt.mpr c10))).2⟩)⟩)
set_option maxRecDepth 65536 in
set_option maxHeartbeats 40000000 in
theorem own_ix5_3 (l : Launch) (Z : State) (a0 : Array Value) (hw : ∀ d ∈ tables_1, d.before a0 Z = true) (vb : Addr) (vn : Addr) (y0 : Int32) (y1 : Int32) (y2 : Int32) (h0 : Heap) (n0 : Nat) {D : Addr → Prop} (hn : n0 ≤ h0.size) (P0 : Av Z h0 vb .byte [(.int y0), (.int y1), (.int y2)]) (P1 : Av Z h0 vn .byte [(.int (58 : Int32))]) :
    ConV l Z (⟨"java/lang/StringLatin1", "indexOf", "([BI[BII)I"⟩ : MethodName) jdk_43_method_25_code 11 (some .int) ({ frames := 0, cells := 0, slots := 0, locals := 0 } : Room) #[(.ref vb), (.int (3 : Int32)), (.ref vn), (.int (1 : Int32)), (.int (0 : Int32))] h0 n0 D (fun v h => h0 = h ∧ ∃ (r : Int32), v = (.int r) ∧ ((0 ≤ r.toInt ∧ (y0 = 58 ∨ y1 = 58 ∨ y2 = 58)) ∨ (r.toInt < 0 ∧ ¬ y0 = 58 ∧ ¬ y1 = 58 ∧ ¬ y2 = 58))) := by
  refine Con.of (plainFor_of_name (by first | (simp [plainName, overriddenIn]; done) | decide +kernel)) hn ?_
  intro p e s m below meth c T w X
  refine Gl.enter (ls := #[.val (.ref vb), .val (.int (3 : Int32)), .val (.ref vn), .val (.int (1 : Int32)), .val (.int (0 : Int32)), .unset, .unset, .unset, .unset, .unset, .unset]) (by first | (simp [entryFrame, mkF, argsToLocals, Value.category]; done) | rfl) ?_
  refine gAloadN X w d21_0 rfl rfl (n := 1) rfl ?_
  refine gIconst X w d21_1 (z := (0 : Int32)) rfl (n := 2) rfl ?_
  refine gBaload X w P1 (by decide) rfl d21_2 (n := 3) rfl ?_
  refine gIstore X w d21_3 #[.val (.ref vb), .val (.int (3 : Int32)), .val (.ref vn), .val (.int (1 : Int32)), .val (.int (0 : Int32)), .val (.int (58 : Int32)), .unset, .unset, .unset, .unset, .unset] rfl (n := 5) rfl ?_
  refine gIloadN X w d21_5 rfl (n := 6) rfl ?_
  refine gIloadN X w d21_6 rfl (n := 7) rfl ?_
  refine gIsub X w d21_7 (z := (2 : Int32)) (by decide) (n := 8) rfl ?_
  refine gIstore X w d21_8 #[.val (.ref vb), .val (.int (3 : Int32)), .val (.ref vn), .val (.int (1 : Int32)), .val (.int (0 : Int32)), .val (.int (58 : Int32)), .val (.int (2 : Int32)), .unset, .unset, .unset, .unset] rfl (n := 10) rfl ?_
  refine gIload X w d21_10 rfl (n := 12) rfl ?_
  refine gIstore X w d21_12 #[.val (.ref vb), .val (.int (3 : Int32)), .val (.ref vn), .val (.int (1 : Int32)), .val (.int (0 : Int32)), .val (.int (58 : Int32)), .val (.int (2 : Int32)), .val (.int (0 : Int32)), .unset, .unset, .unset] rfl (n := 14) rfl ?_
  refine gIload X w d21_14 rfl (n := 16) rfl ?_
  refine gIload X w d21_16 rfl (n := 18) rfl ?_
  refine gIcmp_gt X w d21_18 (n := 119) (n' := 21) (by decide) rfl rfl ?_ ?_
  · intro c18
    exact absurd c18 (by decide)
  · intro c18
    refine gAloadN X w d21_21 rfl rfl (n := 22) rfl ?_
    refine gIload X w d21_22 rfl (n := 24) rfl ?_
    refine gBaload X w P0 (by decide) rfl d21_24 (n := 25) rfl ?_
    refine gIload X w d21_25 rfl (n := 27) rfl ?_
    refine gIcmp_eq X w d21_27 (n := 52) (n' := 30) (by decide) rfl rfl ?_ ?_
    · rintro ⟨c27, c27'⟩
      have f0 := c27
      refine gIload X w d21_52 rfl (n := 54) rfl ?_
      refine gIload X w d21_54 rfl (n := 56) rfl ?_
      refine gIcmp_gt X w d21_56 (n := 113) (n' := 59) (by decide) rfl rfl ?_ ?_
      · intro c56
        exact absurd c56 (by decide)
      · intro c56
        refine gIload X w d21_59 rfl (n := 61) rfl ?_
        refine gIconst X w d21_61 (z := (1 : Int32)) rfl (n := 62) rfl ?_
        refine gIadd X w d21_62 (z := (1 : Int32)) (by decide) (n := 63) rfl ?_
        refine gIstore X w d21_63 #[.val (.ref vb), .val (.int (3 : Int32)), .val (.ref vn), .val (.int (1 : Int32)), .val (.int (0 : Int32)), .val (.int (58 : Int32)), .val (.int (2 : Int32)), .val (.int (0 : Int32)), .val (.int (1 : Int32)), .unset, .unset] rfl (n := 65) rfl ?_
        refine gIload X w d21_65 rfl (n := 67) rfl ?_
        refine gIloadN X w d21_67 rfl (n := 68) rfl ?_
        refine gIadd X w d21_68 (z := (2 : Int32)) (by decide) (n := 69) rfl ?_
        refine gIconst X w d21_69 (z := (1 : Int32)) rfl (n := 70) rfl ?_
        refine gIsub X w d21_70 (z := (1 : Int32)) (by decide) (n := 71) rfl ?_
        refine gIstore X w d21_71 #[.val (.ref vb), .val (.int (3 : Int32)), .val (.ref vn), .val (.int (1 : Int32)), .val (.int (0 : Int32)), .val (.int (58 : Int32)), .val (.int (2 : Int32)), .val (.int (0 : Int32)), .val (.int (1 : Int32)), .val (.int (1 : Int32)), .unset] rfl (n := 73) rfl ?_
        refine gIconst X w d21_73 (z := (1 : Int32)) rfl (n := 74) rfl ?_
        refine gIstore X w d21_74 #[.val (.ref vb), .val (.int (3 : Int32)), .val (.ref vn), .val (.int (1 : Int32)), .val (.int (0 : Int32)), .val (.int (58 : Int32)), .val (.int (2 : Int32)), .val (.int (0 : Int32)), .val (.int (1 : Int32)), .val (.int (1 : Int32)), .val (.int (1 : Int32))] rfl (n := 76) rfl ?_
        refine gIload X w d21_76 rfl (n := 78) rfl ?_
        refine gIload X w d21_78 rfl (n := 80) rfl ?_
        refine gIcmp_ge X w d21_80 (n := 103) (n' := 83) (by decide) rfl rfl ?_ ?_
        · intro c80
          refine gIload X w d21_103 rfl (n := 105) rfl ?_
          refine gIload X w d21_105 rfl (n := 107) rfl ?_
          refine gIcmp_ne X w d21_107 (n := 113) (n' := 110) (by decide) rfl rfl ?_ ?_
          · rintro ⟨c107, c107'⟩
            exact absurd c107 (by decide)
          · rintro ⟨c107, c107'⟩
            refine gIload X w d21_110 rfl (n := 112) rfl ?_
            exact gRetI X w rfl d21_112 (by decide) (by decide) (⟨rfl, _, rfl, rfl, (0 : Int32), rfl, (Or.inl ⟨by decide, (Or.inl f0)⟩)⟩)
        · intro c80
          exact absurd c80 (by decide)
    · rintro ⟨c27, c27'⟩
      have f0 := c27
      refine gIinc X w d21_30 rfl (z := (1 : Int32)) (by decide) #[.val (.ref vb), .val (.int (3 : Int32)), .val (.ref vn), .val (.int (1 : Int32)), .val (.int (0 : Int32)), .val (.int (58 : Int32)), .val (.int (2 : Int32)), .val (.int (1 : Int32)), .unset, .unset, .unset] rfl (n := 33) rfl ?_
      refine gIload X w d21_33 rfl (n := 35) rfl ?_
      refine gIload X w d21_35 rfl (n := 37) rfl ?_
      refine gIcmp_gt X w d21_37 (n := 52) (n' := 40) (by decide) rfl rfl ?_ ?_
      · intro c37
        exact absurd c37 (by decide)
      · intro c37
        refine gAloadN X w d21_40 rfl rfl (n := 41) rfl ?_
        refine gIload X w d21_41 rfl (n := 43) rfl ?_
        refine gBaload X w P0 (by decide) rfl d21_43 (n := 44) rfl ?_
        refine gIload X w d21_44 rfl (n := 46) rfl ?_
        refine gIcmp_eq X w d21_46 (n := 52) (n' := 49) (by decide) rfl rfl ?_ ?_
        · rintro ⟨c46, c46'⟩
          have f1 := c46
          refine gIload X w d21_52 rfl (n := 54) rfl ?_
          refine gIload X w d21_54 rfl (n := 56) rfl ?_
          refine gIcmp_gt X w d21_56 (n := 113) (n' := 59) (by decide) rfl rfl ?_ ?_
          · intro c56
            exact absurd c56 (by decide)
          · intro c56
            refine gIload X w d21_59 rfl (n := 61) rfl ?_
            refine gIconst X w d21_61 (z := (1 : Int32)) rfl (n := 62) rfl ?_
            refine gIadd X w d21_62 (z := (2 : Int32)) (by decide) (n := 63) rfl ?_
            refine gIstore X w d21_63 #[.val (.ref vb), .val (.int (3 : Int32)), .val (.ref vn), .val (.int (1 : Int32)), .val (.int (0 : Int32)), .val (.int (58 : Int32)), .val (.int (2 : Int32)), .val (.int (1 : Int32)), .val (.int (2 : Int32)), .unset, .unset] rfl (n := 65) rfl ?_
            refine gIload X w d21_65 rfl (n := 67) rfl ?_
            refine gIloadN X w d21_67 rfl (n := 68) rfl ?_
            refine gIadd X w d21_68 (z := (3 : Int32)) (by decide) (n := 69) rfl ?_
            refine gIconst X w d21_69 (z := (1 : Int32)) rfl (n := 70) rfl ?_
            refine gIsub X w d21_70 (z := (2 : Int32)) (by decide) (n := 71) rfl ?_
            refine gIstore X w d21_71 #[.val (.ref vb), .val (.int (3 : Int32)), .val (.ref vn), .val (.int (1 : Int32)), .val (.int (0 : Int32)), .val (.int (58 : Int32)), .val (.int (2 : Int32)), .val (.int (1 : Int32)), .val (.int (2 : Int32)), .val (.int (2 : Int32)), .unset] rfl (n := 73) rfl ?_
            refine gIconst X w d21_73 (z := (1 : Int32)) rfl (n := 74) rfl ?_
            refine gIstore X w d21_74 #[.val (.ref vb), .val (.int (3 : Int32)), .val (.ref vn), .val (.int (1 : Int32)), .val (.int (0 : Int32)), .val (.int (58 : Int32)), .val (.int (2 : Int32)), .val (.int (1 : Int32)), .val (.int (2 : Int32)), .val (.int (2 : Int32)), .val (.int (1 : Int32))] rfl (n := 76) rfl ?_
            refine gIload X w d21_76 rfl (n := 78) rfl ?_
            refine gIload X w d21_78 rfl (n := 80) rfl ?_
            refine gIcmp_ge X w d21_80 (n := 103) (n' := 83) (by decide) rfl rfl ?_ ?_
            · intro c80
              refine gIload X w d21_103 rfl (n := 105) rfl ?_
              refine gIload X w d21_105 rfl (n := 107) rfl ?_
              refine gIcmp_ne X w d21_107 (n := 113) (n' := 110) (by decide) rfl rfl ?_ ?_
              · rintro ⟨c107, c107'⟩
                exact absurd c107 (by decide)
              · rintro ⟨c107, c107'⟩
                refine gIload X w d21_110 rfl (n := 112) rfl ?_
                exact gRetI X w rfl d21_112 (by decide) (by decide) (⟨rfl, _, rfl, rfl, (1 : Int32), rfl, (Or.inl ⟨by decide, (Or.inr (Or.inl f1))⟩)⟩)
            · intro c80
              exact absurd c80 (by decide)
        · rintro ⟨c46, c46'⟩
          have f1 := c46
          refine gGoto X w d21_49 (by decide) (n := 30) rfl ?_
          refine gIinc X w d21_30 rfl (z := (2 : Int32)) (by decide) #[.val (.ref vb), .val (.int (3 : Int32)), .val (.ref vn), .val (.int (1 : Int32)), .val (.int (0 : Int32)), .val (.int (58 : Int32)), .val (.int (2 : Int32)), .val (.int (2 : Int32)), .unset, .unset, .unset] rfl (n := 33) rfl ?_
          refine gIload X w d21_33 rfl (n := 35) rfl ?_
          refine gIload X w d21_35 rfl (n := 37) rfl ?_
          refine gIcmp_gt X w d21_37 (n := 52) (n' := 40) (by decide) rfl rfl ?_ ?_
          · intro c37
            exact absurd c37 (by decide)
          · intro c37
            refine gAloadN X w d21_40 rfl rfl (n := 41) rfl ?_
            refine gIload X w d21_41 rfl (n := 43) rfl ?_
            refine gBaload X w P0 (by decide) rfl d21_43 (n := 44) rfl ?_
            refine gIload X w d21_44 rfl (n := 46) rfl ?_
            refine gIcmp_eq X w d21_46 (n := 52) (n' := 49) (by decide) rfl rfl ?_ ?_
            · rintro ⟨c46, c46'⟩
              have f2 := c46
              refine gIload X w d21_52 rfl (n := 54) rfl ?_
              refine gIload X w d21_54 rfl (n := 56) rfl ?_
              refine gIcmp_gt X w d21_56 (n := 113) (n' := 59) (by decide) rfl rfl ?_ ?_
              · intro c56
                exact absurd c56 (by decide)
              · intro c56
                refine gIload X w d21_59 rfl (n := 61) rfl ?_
                refine gIconst X w d21_61 (z := (1 : Int32)) rfl (n := 62) rfl ?_
                refine gIadd X w d21_62 (z := (3 : Int32)) (by decide) (n := 63) rfl ?_
                refine gIstore X w d21_63 #[.val (.ref vb), .val (.int (3 : Int32)), .val (.ref vn), .val (.int (1 : Int32)), .val (.int (0 : Int32)), .val (.int (58 : Int32)), .val (.int (2 : Int32)), .val (.int (2 : Int32)), .val (.int (3 : Int32)), .unset, .unset] rfl (n := 65) rfl ?_
                refine gIload X w d21_65 rfl (n := 67) rfl ?_
                refine gIloadN X w d21_67 rfl (n := 68) rfl ?_
                refine gIadd X w d21_68 (z := (4 : Int32)) (by decide) (n := 69) rfl ?_
                refine gIconst X w d21_69 (z := (1 : Int32)) rfl (n := 70) rfl ?_
                refine gIsub X w d21_70 (z := (3 : Int32)) (by decide) (n := 71) rfl ?_
                refine gIstore X w d21_71 #[.val (.ref vb), .val (.int (3 : Int32)), .val (.ref vn), .val (.int (1 : Int32)), .val (.int (0 : Int32)), .val (.int (58 : Int32)), .val (.int (2 : Int32)), .val (.int (2 : Int32)), .val (.int (3 : Int32)), .val (.int (3 : Int32)), .unset] rfl (n := 73) rfl ?_
                refine gIconst X w d21_73 (z := (1 : Int32)) rfl (n := 74) rfl ?_
                refine gIstore X w d21_74 #[.val (.ref vb), .val (.int (3 : Int32)), .val (.ref vn), .val (.int (1 : Int32)), .val (.int (0 : Int32)), .val (.int (58 : Int32)), .val (.int (2 : Int32)), .val (.int (2 : Int32)), .val (.int (3 : Int32)), .val (.int (3 : Int32)), .val (.int (1 : Int32))] rfl (n := 76) rfl ?_
                refine gIload X w d21_76 rfl (n := 78) rfl ?_
                refine gIload X w d21_78 rfl (n := 80) rfl ?_
                refine gIcmp_ge X w d21_80 (n := 103) (n' := 83) (by decide) rfl rfl ?_ ?_
                · intro c80
                  refine gIload X w d21_103 rfl (n := 105) rfl ?_
                  refine gIload X w d21_105 rfl (n := 107) rfl ?_
                  refine gIcmp_ne X w d21_107 (n := 113) (n' := 110) (by decide) rfl rfl ?_ ?_
                  · rintro ⟨c107, c107'⟩
                    exact absurd c107 (by decide)
                  · rintro ⟨c107, c107'⟩
                    refine gIload X w d21_110 rfl (n := 112) rfl ?_
                    exact gRetI X w rfl d21_112 (by decide) (by decide) (⟨rfl, _, rfl, rfl, (2 : Int32), rfl, (Or.inl ⟨by decide, (Or.inr (Or.inr f2))⟩)⟩)
                · intro c80
                  exact absurd c80 (by decide)
            · rintro ⟨c46, c46'⟩
              have f2 := c46
              refine gGoto X w d21_49 (by decide) (n := 30) rfl ?_
              refine gIinc X w d21_30 rfl (z := (3 : Int32)) (by decide) #[.val (.ref vb), .val (.int (3 : Int32)), .val (.ref vn), .val (.int (1 : Int32)), .val (.int (0 : Int32)), .val (.int (58 : Int32)), .val (.int (2 : Int32)), .val (.int (3 : Int32)), .unset, .unset, .unset] rfl (n := 33) rfl ?_
              refine gIload X w d21_33 rfl (n := 35) rfl ?_
              refine gIload X w d21_35 rfl (n := 37) rfl ?_
              refine gIcmp_gt X w d21_37 (n := 52) (n' := 40) (by decide) rfl rfl ?_ ?_
              · intro c37
                refine gIload X w d21_52 rfl (n := 54) rfl ?_
                refine gIload X w d21_54 rfl (n := 56) rfl ?_
                refine gIcmp_gt X w d21_56 (n := 113) (n' := 59) (by decide) rfl rfl ?_ ?_
                · intro c56
                  refine gIinc X w d21_113 rfl (z := (4 : Int32)) (by decide) #[.val (.ref vb), .val (.int (3 : Int32)), .val (.ref vn), .val (.int (1 : Int32)), .val (.int (0 : Int32)), .val (.int (58 : Int32)), .val (.int (2 : Int32)), .val (.int (4 : Int32)), .unset, .unset, .unset] rfl (n := 116) rfl ?_
                  refine gGoto X w d21_116 (by decide) (n := 14) rfl ?_
                  refine gIload X w d21_14 rfl (n := 16) rfl ?_
                  refine gIload X w d21_16 rfl (n := 18) rfl ?_
                  refine gIcmp_gt X w d21_18 (n := 119) (n' := 21) (by decide) rfl rfl ?_ ?_
                  · intro c18
                    refine gIconst X w d21_119 (z := (-1 : Int32)) rfl (n := 120) rfl ?_
                    exact gRetI X w rfl d21_120 (by decide) (by decide) (⟨rfl, _, rfl, rfl, (-1 : Int32), rfl, (Or.inr ⟨by decide, f0, f1, f2⟩)⟩)
                  · intro c18
                    exact absurd c18 (by decide)
                · intro c56
                  exact absurd c56 (by decide)
              · intro c37
                exact absurd c37 (by decide)
set_option maxRecDepth 65536 in
set_option maxHeartbeats 40000000 in
theorem own_ix2_3 (l : Launch) (Z : State) (a0 : Array Value) (hw : ∀ d ∈ tables_1, d.before a0 Z = true) (vb : Addr) (vn : Addr) (y0 : Int32) (y1 : Int32) (y2 : Int32) (h0 : Heap) (n0 : Nat) {D : Addr → Prop} (hn : n0 ≤ h0.size) (P0 : Av Z h0 vb .byte [(.int y0), (.int y1), (.int y2)]) (P1 : Av Z h0 vn .byte [(.int (58 : Int32))]) :
    ConV l Z (⟨"java/lang/StringLatin1", "indexOf", "([B[B)I"⟩ : MethodName) jdk_43_method_24_code 2 (some .int) ({ frames := 1, cells := 0, slots := 0, locals := 22 } : Room) #[(.ref vb), (.ref vn)] h0 n0 D (fun v h => h0 = h ∧ ∃ (r : Int32), v = (.int r) ∧ ((0 ≤ r.toInt ∧ (y0 = 58 ∨ y1 = 58 ∨ y2 = 58)) ∨ (r.toInt < 0 ∧ ¬ y0 = 58 ∧ ¬ y1 = 58 ∧ ¬ y2 = 58))) := by
  refine Con.of (plainFor_of_name (by first | (simp [plainName, overriddenIn]; done) | decide +kernel)) hn ?_
  intro p e s m below meth c T w X
  refine Gl.enter (ls := #[.val (.ref vb), .val (.ref vn)]) (by first | (simp [entryFrame, mkF, argsToLocals, Value.category]; done) | rfl) ?_
  refine gAloadN X w d20_0 rfl rfl (n := 1) rfl ?_
  refine gAlen X w P1 (z := (1 : Int32)) rfl d20_1 (n := 2) rfl ?_
  refine gIf_ne X w d20_2 (n := 7) (n' := 5) (by decide) rfl rfl ?_ ?_
  · rintro ⟨c2, c2'⟩
    refine gAloadN X w d20_7 rfl rfl (n := 8) rfl ?_
    refine gAlen X w P0 (z := (3 : Int32)) rfl d20_8 (n := 9) rfl ?_
    refine gIf_ne X w d20_9 (n := 14) (n' := 12) (by decide) rfl rfl ?_ ?_
    · rintro ⟨c9, c9'⟩
      refine gAloadN X w d20_14 rfl rfl (n := 15) rfl ?_
      refine gAloadN X w d20_15 rfl rfl (n := 16) rfl ?_
      refine gAlen X w P0 (z := (3 : Int32)) rfl d20_16 (n := 17) rfl ?_
      refine gAloadN X w d20_17 rfl rfl (n := 18) rfl ?_
      refine gAloadN X w d20_18 rfl rfl (n := 19) rfl ?_
      refine gAlen X w P1 (z := (1 : Int32)) rfl d20_19 (n := 20) rfl ?_
      refine gIconst X w d20_20 (z := (0 : Int32)) rfl (n := 21) rfl ?_
      refine gCallSv X w [(.ref vb), (.int (3 : Int32)), (.ref vn), (.int (1 : Int32)), (.int (0 : Int32))] [] (own_ix5_3 l Z a0 hw vb vn y0 y1 y2 h0 n0 (Sd.le X) P0 P1) (own_wd hw 122 rfl) (own_wd hw 123 rfl) (own_wd hw 120 rfl) (own_wd hw 124 rfl) (by decide) own_pd22 rfl rfl d20_21 rfl (W := 0) (Nat.le_of_eq rfl) (by decide) (by decide) (by decide) (by decide) (n := 24) rfl ?_
      rintro T _ _ ⟨rfl, r_1, rfl, hr_1⟩ X
      exact gRetI X w rfl d20_24 (by decide) (by decide) (⟨rfl, _, rfl, rfl, r_1, rfl, hr_1⟩)
    · rintro ⟨c9, c9'⟩
      exact absurd c9 (by decide)
  · rintro ⟨c2, c2'⟩
    exact absurd c2 (by decide)
set_option maxRecDepth 65536 in
set_option maxHeartbeats 40000000 in
theorem own_ixs_3 (l : Launch) (Z : State) (a0 : Array Value) (hw : ∀ d ∈ tables_1, d.before a0 Z = true) (s0 : Addr) (s1 : Addr) (vb : Addr) (vn : Addr) (y0 : Int32) (y1 : Int32) (y2 : Int32) (cs : Int32) (h0 : Heap) (n0 : Nat) {D : Addr → Prop} (hn : n0 ≤ h0.size) (P0 : Exa Z h0 s0 "java/lang/String") (P1 : Exa Z h0 s1 "java/lang/String") (P2 : Fld Z h0 s0 "java/lang/String" "value" "[B" (.ref vb)) (P3 : Fld Z h0 s0 "java/lang/String" "coder" "B" (.int (0 : Int32))) (P4 : Av Z h0 vb .byte [(.int y0), (.int y1), (.int y2)]) (P5 : Fld Z h0 s1 "java/lang/String" "value" "[B" (.ref vn)) (P6 : Fld Z h0 s1 "java/lang/String" "coder" "B" (.int (0 : Int32))) (P7 : Av Z h0 vn .byte [(.int (58 : Int32))]) (P8 : Sta Z h0 "java/lang/String" "COMPACT_STRINGS" "Z" (.int cs)) (hcs : ¬ cs = 0) :
    ConV l Z (⟨"java/lang/String", "indexOf", "(Ljava/lang/String;)I"⟩ : MethodName) jdk_42_method_84_code 3 (some .int) ({ frames := 2, cells := 0, slots := 0, locals := 35 } : Room) #[(.ref s0), (.ref s1)] h0 n0 D (fun v h => h0 = h ∧ ∃ (r : Int32), v = (.int r) ∧ ((0 ≤ r.toInt ∧ (y0 = 58 ∨ y1 = 58 ∨ y2 = 58)) ∨ (r.toInt < 0 ∧ ¬ y0 = 58 ∧ ¬ y1 = 58 ∧ ¬ y2 = 58))) := by
  refine Con.of (plainFor_of_name (by first | (simp [plainName, overriddenIn]; done) | decide +kernel)) hn ?_
  intro p e s m below meth c T w X
  refine Gl.enter (ls := #[.val (.ref s0), .val (.ref s1), .unset]) (by first | (simp [entryFrame, mkF, argsToLocals, Value.category]; done) | rfl) ?_
  refine gAloadN X w d18_0 rfl rfl (n := 1) rfl ?_
  refine gCallVv X w [] [] P0 (own_coder l Z a0 hw s0 cs h0 n0 (Sd.le X) P3 P8 (by first | assumption | decide | (simp; done) | omega)) (own_wd hw 58 rfl) (own_wd hw 59 rfl) (fun vm0 hS => notFace_of_selects (args := #[]) (mvT (State.Warmed39.trans w.2.2.1 hS.1) (own_wd hw 61 rfl))) (own_wd hw 61 rfl) (own_wd hw 60 rfl) (own_wd hw 8 rfl) (own_wd hw 62 rfl) (by decide) own_pd4 rfl rfl d18_1 rfl (W := 0) (Nat.le_of_eq rfl) (by decide) (by decide) (by decide) (by decide) (n := 4) rfl ?_
  rintro T _ _ ⟨rfl, rfl⟩ X
  refine gIstoreN X w d18_4 #[.val (.ref s0), .val (.ref s1), .val (.int (0 : Int32))] rfl (n := 5) rfl ?_
  refine gIloadN X w d18_5 rfl (n := 6) rfl ?_
  refine gAloadN X w d18_6 rfl rfl (n := 7) rfl ?_
  refine gCallVv X w [] [(.int (0 : Int32))] P1 (own_coder l Z a0 hw s1 cs h0 n0 (Sd.le X) P6 P8 (by first | assumption | decide | (simp; done) | omega)) (own_wd hw 58 rfl) (own_wd hw 59 rfl) (fun vm0 hS => notFace_of_selects (args := #[]) (mvT (State.Warmed39.trans w.2.2.1 hS.1) (own_wd hw 61 rfl))) (own_wd hw 61 rfl) (own_wd hw 60 rfl) (own_wd hw 8 rfl) (own_wd hw 62 rfl) (by decide) own_pd4 rfl rfl d18_7 rfl (W := 1) (Nat.le_of_eq rfl) (by decide) (by decide) (by decide) (by decide) (n := 10) rfl ?_
  rintro T _ _ ⟨rfl, rfl⟩ X
  refine gIcmp_ne X w d18_10 (n := 46) (n' := 13) (by decide) rfl rfl ?_ ?_
  · rintro ⟨c10, c10'⟩
    exact absurd c10 (by decide)
  · rintro ⟨c10, c10'⟩
    refine gAloadN X w d18_13 rfl rfl (n := 14) rfl ?_
    refine gCallVv X w [] [] P0 (own_latin1 l Z a0 hw s0 cs h0 n0 (Sd.le X) P3 P8 (by first | assumption | decide | (simp; done) | omega)) (own_wd hw 113 rfl) (own_wd hw 114 rfl) (fun vm0 hS => notFace_of_selects (args := #[]) (mvT (State.Warmed39.trans w.2.2.1 hS.1) (own_wd hw 116 rfl))) (own_wd hw 116 rfl) (own_wd hw 115 rfl) (own_wd hw 8 rfl) (own_wd hw 117 rfl) (by decide) own_pd6 rfl rfl d18_14 rfl (W := 0) (Nat.le_of_eq rfl) (by decide) (by decide) (by decide) (by decide) (n := 17) rfl ?_
    rintro T _ _ ⟨rfl, rfl⟩ X
    refine gIf_eq X w d18_17 (n := 34) (n' := 20) (by decide) rfl rfl ?_ ?_
    · rintro ⟨c17, c17'⟩
      exact absurd c17 (by decide)
    · rintro ⟨c17, c17'⟩
      refine gAloadN X w d18_20 rfl rfl (n := 21) rfl ?_
      refine gGetF X w (own_wd hw 34 rfl) Via.refl P2 d18_21 (n := 24) rfl ?_
      intro T X
      refine gAloadN X w d18_24 rfl rfl (n := 25) rfl ?_
      refine gGetF X w (own_wd hw 34 rfl) Via.refl P5 d18_25 (n := 28) rfl ?_
      intro T X
      refine gCallSv X w [(.ref vb), (.ref vn)] [] (own_ix2_3 l Z a0 hw vb vn y0 y1 y2 h0 n0 (Sd.le X) P4 P7) (own_wd hw 118 rfl) (own_wd hw 119 rfl) (own_wd hw 120 rfl) (own_wd hw 121 rfl) (by decide) own_pd23 rfl rfl d18_28 rfl (W := 0) (Nat.le_of_eq rfl) (by decide) (by decide) (by decide) (by decide) (n := 31) rfl ?_
      rintro T _ _ ⟨rfl, r_4, rfl, hr_4⟩ X
      refine gGoto X w d18_31 (by decide) (n := 45) rfl ?_
      exact gRetI X w rfl d18_45 (by decide) (by decide) (⟨rfl, _, rfl, rfl, r_4, rfl, hr_4⟩)
set_option maxRecDepth 65536 in
set_option maxHeartbeats 40000000 in
theorem own_has_3 (l : Launch) (Z : State) (a0 : Array Value) (hw : ∀ d ∈ tables_1, d.before a0 Z = true) (s0 : Addr) (s1 : Addr) (vb : Addr) (vn : Addr) (y0 : Int32) (y1 : Int32) (y2 : Int32) (cs : Int32) (h0 : Heap) (n0 : Nat) {D : Addr → Prop} (hn : n0 ≤ h0.size) (P0 : Exa Z h0 s0 "java/lang/String") (P1 : Exa Z h0 s1 "java/lang/String") (P2 : Fld Z h0 s0 "java/lang/String" "value" "[B" (.ref vb)) (P3 : Fld Z h0 s0 "java/lang/String" "coder" "B" (.int (0 : Int32))) (P4 : Av Z h0 vb .byte [(.int y0), (.int y1), (.int y2)]) (P5 : Fld Z h0 s1 "java/lang/String" "value" "[B" (.ref vn)) (P6 : Fld Z h0 s1 "java/lang/String" "coder" "B" (.int (0 : Int32))) (P7 : Av Z h0 vn .byte [(.int (58 : Int32))]) (P8 : Sta Z h0 "java/lang/String" "COMPACT_STRINGS" "Z" (.int cs)) (hcs : ¬ cs = 0) :
    ConV l Z (⟨"java/lang/String", "contains", "(Ljava/lang/CharSequence;)Z"⟩ : MethodName) jdk_42_method_97_code 2 (some .boolean) ({ frames := 3, cells := 0, slots := 0, locals := 49 } : Room) #[(.ref s0), (.ref s1)] h0 n0 D (fun v h => h0 = h ∧ ∃ (b0 : Int32), v = (.int b0) ∧ ((b0 = 1 ∧ own_col [Value.int y0, Value.int y1, Value.int y2]) ∨ (b0 = 0 ∧ ¬ own_col [Value.int y0, Value.int y1, Value.int y2]))) := by
  refine Con.of (plainFor_of_name (by first | (simp [plainName, overriddenIn]; done) | decide +kernel)) hn ?_
  intro p e s m below meth c T w X
  refine Gl.enter (ls := #[.val (.ref s0), .val (.ref s1)]) (by first | (simp [entryFrame, mkF, argsToLocals, Value.category]; done) | rfl) ?_
  refine gAloadN X w d16_0 rfl rfl (n := 1) rfl ?_
  refine gAloadN X w d16_1 rfl rfl (n := 2) rfl ?_
  refine gCallFv X w [] [(.ref s0)] P1 (own_sts l Z a0 hw s1 h0 n0 (Sd.le X) ) (own_wd hw 99 rfl) (own_wd hw 100 rfl) (own_wd hw 101 rfl) (own_wd hw 102 rfl) (own_wd hw 103 rfl) (own_wd hw 104 rfl) (own_wd hw 105 rfl) (own_wd hw 106 rfl) (own_wd hw 8 rfl) (own_wd hw 107 rfl) (by decide) own_pd24 rfl rfl d16_2 rfl (W := 1) (Nat.le_of_eq rfl) (by decide) (by decide) (by decide) (by decide) (n := 7) rfl ?_
  rintro T _ _ ⟨rfl, rfl⟩ X
  refine gCallVv X w [(.ref s1)] [] P0 (own_ixs_3 l Z a0 hw s0 s1 vb vn y0 y1 y2 cs h0 n0 (Sd.le X) P0 P1 P2 P3 P4 P5 P6 P7 P8 (by first | assumption | decide | (simp; done) | omega)) (own_wd hw 108 rfl) (own_wd hw 109 rfl) (fun vm0 hS => notFace_of_selects (args := #[]) (mvT (State.Warmed39.trans w.2.2.1 hS.1) (own_wd hw 111 rfl))) (own_wd hw 111 rfl) (own_wd hw 110 rfl) (own_wd hw 8 rfl) (own_wd hw 112 rfl) (by decide) own_pd25 rfl rfl d16_7 rfl (W := 0) (Nat.le_of_eq rfl) (by decide) (by decide) (by decide) (by decide) (n := 10) rfl ?_
  rintro T _ _ ⟨rfl, r_2, rfl, hr_2⟩ X
  refine gIf_lt X w d16_10 (n := 17) (n' := 13) (by decide) rfl rfl ?_ ?_
  · intro c10
    refine gIconst X w d16_17 (z := (0 : Int32)) rfl (n := 18) rfl ?_
    exact gRetZ X w rfl (Or.inl rfl) d16_18 (by decide) (by decide) (⟨rfl, _, rfl, rfl, (0 : Int32), rfl, (Or.inr ⟨rfl, own_colF3 (hr_2.resolve_left (fun g => absurd c10 (Int.not_lt.mpr g.1))).2⟩)⟩)
  · intro c10
    refine gIconst X w d16_13 (z := (1 : Int32)) rfl (n := 14) rfl ?_
    refine gGoto X w d16_14 (by decide) (n := 18) rfl ?_
    exact gRetZ X w rfl (Or.inr rfl) d16_18 (by decide) (by decide) (⟨rfl, _, rfl, rfl, (1 : Int32), rfl, (Or.inl ⟨rfl, own_colT3 (hr_2.resolve_right (fun g => absurd g.1 (Int.not_lt.mpr c10))).2⟩)⟩)
theorem own_has (l : Launch) (Z : State) (a0 : Array Value) (hw : ∀ d ∈ tables_1, d.before a0 Z = true) (s0 : Addr) (s1 : Addr) (vb : Addr) (vn : Addr) (hb : List Value) (cs : Int32) (h0 : Heap) (n0 : Nat) {D : Addr → Prop} (hn : n0 ≤ h0.size) (P0 : Exa Z h0 s0 "java/lang/String") (P1 : Exa Z h0 s1 "java/lang/String") (P2 : Fld Z h0 s0 "java/lang/String" "value" "[B" (.ref vb)) (P3 : Fld Z h0 s0 "java/lang/String" "coder" "B" (.int (0 : Int32))) (P4 : Av Z h0 vb .byte hb) (P5 : Fld Z h0 s1 "java/lang/String" "value" "[B" (.ref vn)) (P6 : Fld Z h0 s1 "java/lang/String" "coder" "B" (.int (0 : Int32))) (P7 : Av Z h0 vn .byte [(.int (58 : Int32))]) (P8 : Sta Z h0 "java/lang/String" "COMPACT_STRINGS" "Z" (.int cs)) (hcs : ¬ cs = 0) (hhb : (∃ y0, hb = [Value.int y0]) ∨ (∃ y0 y1, hb = [Value.int y0, Value.int y1]) ∨ (∃ y0 y1 y2, hb = [Value.int y0, Value.int y1, Value.int y2])) :
    ConV l Z (⟨"java/lang/String", "contains", "(Ljava/lang/CharSequence;)Z"⟩ : MethodName) jdk_42_method_97_code 2 (some .boolean) ({ frames := 3, cells := 0, slots := 0, locals := 49 } : Room) #[(.ref s0), (.ref s1)] h0 n0 D (fun v h => h0 = h ∧ ∃ (b0 : Int32), v = (.int b0) ∧ ((b0 = 1 ∧ own_col hb) ∨ (b0 = 0 ∧ ¬ own_col hb))) := by
  rcases hhb with ⟨y0, rfl⟩ | ⟨y0, y1, rfl⟩ | ⟨y0, y1, y2, rfl⟩
  · exact own_has_1 l Z a0 hw s0 s1 vb vn y0 cs h0 n0 hn P0 P1 P2 P3 P4 P5 P6 P7 P8 hcs
  · exact own_has_2 l Z a0 hw s0 s1 vb vn y0 y1 cs h0 n0 hn P0 P1 P2 P3 P4 P5 P6 P7 P8 hcs
  · exact own_has_3 l Z a0 hw s0 s1 vb vn y0 y1 y2 cs h0 n0 hn P0 P1 P2 P3 P4 P5 P6 P7 P8 hcs
set_option maxRecDepth 65536 in
set_option maxHeartbeats 40000000 in
theorem own_pck (l : Launch) (Z : State) (a0 : Array Value) (hw : ∀ d ∈ tables_1, d.before a0 Z = true) (ii : Int32) (mx : Int32) (fo : Value) (h0 : Heap) (n0 : Nat) {D : Addr → Prop} (hn : n0 ≤ h0.size) (hi0 : 0 ≤ ii.toInt) (him : ii.toInt < mx.toInt) (hfc : fo.category = 1) :
    ConV l Z (⟨"jdk/internal/util/Preconditions", "checkIndex", "(IILjava/util/function/BiFunction;)I"⟩ : MethodName) jdk_41_method_11_code 3 (some .int) ({ frames := 0, cells := 0, slots := 0, locals := 0 } : Room) #[(.int ii), (.int mx), fo] h0 n0 D (fun v h => h0 = h ∧ v = (.int ii)) := by
  refine Con.of (plainFor_of_name (by first | (simp [plainName, overriddenIn]; done) | decide +kernel)) hn ?_
  intro p e s m below meth c T w X
  refine Gl.enter (ls := #[.val (.int ii), .val (.int mx), .val fo]) (by have ki : ∀ z : Int32, (Value.int z).category = 1 := fun _ => rfl; simp [entryFrame, mkF, argsToLocals, ki, hfc]) ?_
  refine gIloadN X w d48_0 rfl (n := 1) rfl ?_
  refine gIf_lt X w d48_1 (n := 9) (n' := 4) (by decide) rfl rfl ?_ ?_
  · intro c1
    exact absurd c1 (by omega)
  · intro c1
    refine gIloadN X w d48_4 rfl (n := 5) rfl ?_
    refine gIloadN X w d48_5 rfl (n := 6) rfl ?_
    refine gIcmp_lt X w d48_6 (n := 16) (n' := 9) (by decide) rfl rfl ?_ ?_
    · intro c6
      refine gIloadN X w d48_16 rfl (n := 17) rfl ?_
      exact gRetI X w rfl d48_17 (by decide) (by decide) (⟨rfl, _, rfl, rfl, rfl⟩)
    · intro c6
      exact absurd c6 (by omega)
set_option maxRecDepth 65536 in
set_option maxHeartbeats 40000000 in
theorem own_cki (l : Launch) (Z : State) (a0 : Array Value) (hw : ∀ d ∈ tables_1, d.before a0 Z = true) (ii : Int32) (mx : Int32) (fo : Value) (h0 : Heap) (n0 : Nat) {D : Addr → Prop} (hn : n0 ≤ h0.size) (P0 : Sta Z h0 "jdk/internal/util/Preconditions" "SIOOBE_FORMATTER" "Ljava/util/function/BiFunction;" fo) (hi0 : 0 ≤ ii.toInt) (him : ii.toInt < mx.toInt) (hfc : fo.category = 1) :
    ConN l Z (⟨"java/lang/String", "checkIndex", "(II)V"⟩ : MethodName) jdk_42_method_155_code 2 ({ frames := 1, cells := 0, slots := 0, locals := 14 } : Room) #[(.int ii), (.int mx)] h0 n0 D (fun h => h0 = h ∧ True) := by
  refine Con.of (plainFor_of_name (by first | (simp [plainName, overriddenIn]; done) | decide +kernel)) hn ?_
  intro p e s m below meth c T w X
  refine Gl.enter (ls := #[.val (.int ii), .val (.int mx)]) (by first | (simp [entryFrame, mkF, argsToLocals, Value.category]; done) | rfl) ?_
  refine gIloadN X w d47_0 rfl (n := 1) rfl ?_
  refine gIloadN X w d47_1 rfl (n := 2) rfl ?_
  refine gGetS X w (own_wd hw 244 rfl) Via.refl P0 d47_2 (n := 5) rfl ?_
  intro T X
  refine gCallSv X w [(.int ii), (.int mx), fo] [] (own_pck l Z a0 hw ii mx fo h0 n0 (Sd.le X) (by first | assumption | decide | (simp; done) | omega) (by first | assumption | decide | (simp; done) | omega) (by first | assumption | decide | (simp; done) | omega)) (own_wd hw 246 rfl) (own_wd hw 247 rfl) (own_wd hw 245 rfl) (own_wd hw 248 rfl) (by decide) own_pd26 rfl rfl d47_5 rfl (W := 0) (Nat.le_of_eq rfl) (by decide) (by decide) (by decide) (by decide) (n := 8) rfl ?_
  rintro T _ _ ⟨rfl, rfl⟩ X
  refine gPop X w d47_8 rfl (n := 9) rfl ?_
  exact gRetV X w rfl d47_9 (by decide) (by decide) (⟨rfl, rfl, rfl, trivial⟩)
set_option maxRecDepth 65536 in
set_option maxHeartbeats 40000000 in
theorem own_lch (l : Launch) (Z : State) (a0 : Array Value) (hw : ∀ d ∈ tables_1, d.before a0 Z = true) (vb : Addr) (ii : Int32) (bs : List Value) (y : Int32) (fo : Value) (h0 : Heap) (n0 : Nat) {D : Addr → Prop} (hn : n0 ≤ h0.size) (P0 : Av Z h0 vb .byte bs) (P1 : Sta Z h0 "jdk/internal/util/Preconditions" "SIOOBE_FORMATTER" "Ljava/util/function/BiFunction;" fo) (hi0 : 0 ≤ ii.toInt) (hy : bs[ii.toInt.toNat]? = some (.int y)) (hbl : bs.length < 2 ^ 31) (hfc : fo.category = 1) :
    ConV l Z (⟨"java/lang/StringLatin1", "charAt", "([BI)C"⟩ : MethodName) jdk_43_method_2_code 2 (some .char) ({ frames := 2, cells := 0, slots := 0, locals := 27 } : Room) #[(.ref vb), (.int ii)] h0 n0 D (fun v h => h0 = h ∧ v = (.int (own_ch y))) := by
  refine Con.of (plainFor_of_name (by first | (simp [plainName, overriddenIn]; done) | decide +kernel)) hn ?_
  intro p e s m below meth c T w X
  refine Gl.enter (ls := #[.val (.ref vb), .val (.int ii)]) (by first | (simp [entryFrame, mkF, argsToLocals, Value.category]; done) | rfl) ?_
  refine gIloadN X w d46_0 rfl (n := 1) rfl ?_
  refine gAloadN X w d46_1 rfl rfl (n := 2) rfl ?_
  refine gAlen X w P0 (z := bs.length.toInt32) rfl d46_2 (n := 3) rfl ?_
  refine gCallSn X w [(.int ii), (.int bs.length.toInt32)] [] (own_cki l Z a0 hw ii bs.length.toInt32 fo h0 n0 (Sd.le X) P1 (by first | assumption | decide | (simp; done) | omega) (by rw [len_toInt hbl]; have := (List.getElem?_eq_some_iff.mp hy).1; omega) (by first | assumption | decide | (simp; done) | omega)) (own_wd hw 241 rfl) (own_wd hw 242 rfl) (own_wd hw 8 rfl) (own_wd hw 243 rfl) (by decide) own_pd16 rfl rfl d46_3 rfl (W := 0) (Nat.le_of_eq rfl) (by decide) (by decide) (by decide) (by decide) (n := 6) rfl ?_
  rintro T _ ⟨rfl, -⟩ X
  refine gAloadN X w d46_6 rfl rfl (n := 7) rfl ?_
  refine gIloadN X w d46_7 rfl (n := 8) rfl ?_
  refine gBaload X w P0 hi0 hy d46_8 (n := 9) rfl ?_
  refine gSipush X w d46_9 (z := (255 : Int32)) (by decide) (n := 12) rfl ?_
  refine gIand X w d46_12 rfl (n := 13) rfl ?_
  refine gI2c X w d46_13 rfl (n := 14) rfl ?_
  exact gRet X w (t := .char) rfl (congrArg Value.int (own_nari2c _)) (Or.inl ⟨rfl, Or.inr (Or.inr (Or.inr (Or.inl rfl))), _, rfl⟩) d46_14 (by decide) (by decide) (⟨rfl, _, rfl, rfl, rfl⟩)
set_option maxRecDepth 65536 in
set_option maxHeartbeats 40000000 in
theorem own_sch (l : Launch) (Z : State) (a0 : Array Value) (hw : ∀ d ∈ tables_1, d.before a0 Z = true) (s0 : Addr) (vb : Addr) (ii : Int32) (bs : List Value) (y : Int32) (fo : Value) (cs : Int32) (h0 : Heap) (n0 : Nat) {D : Addr → Prop} (hn : n0 ≤ h0.size) (P0 : Exa Z h0 s0 "java/lang/String") (P1 : Fld Z h0 s0 "java/lang/String" "value" "[B" (.ref vb)) (P2 : Fld Z h0 s0 "java/lang/String" "coder" "B" (.int (0 : Int32))) (P3 : Av Z h0 vb .byte bs) (P4 : Sta Z h0 "jdk/internal/util/Preconditions" "SIOOBE_FORMATTER" "Ljava/util/function/BiFunction;" fo) (P5 : Sta Z h0 "java/lang/String" "COMPACT_STRINGS" "Z" (.int cs)) (hi0 : 0 ≤ ii.toInt) (hy : bs[ii.toInt.toNat]? = some (.int y)) (hbl : bs.length < 2 ^ 31) (hfc : fo.category = 1) (hcs : ¬ cs = 0) :
    ConV l Z (⟨"java/lang/String", "charAt", "(I)C"⟩ : MethodName) jdk_42_method_56_code 2 (some .char) ({ frames := 3, cells := 0, slots := 0, locals := 40 } : Room) #[(.ref s0), (.int ii)] h0 n0 D (fun v h => h0 = h ∧ v = (.int (own_ch y))) := by
  refine Con.of (plainFor_of_name (by first | (simp [plainName, overriddenIn]; done) | decide +kernel)) hn ?_
  intro p e s m below meth c T w X
  refine Gl.enter (ls := #[.val (.ref s0), .val (.int ii)]) (by first | (simp [entryFrame, mkF, argsToLocals, Value.category]; done) | rfl) ?_
  refine gAloadN X w d45_0 rfl rfl (n := 1) rfl ?_
  refine gCallVv X w [] [] P0 (own_latin1 l Z a0 hw s0 cs h0 n0 (Sd.le X) P2 P5 (by first | assumption | decide | (simp; done) | omega)) (own_wd hw 113 rfl) (own_wd hw 114 rfl) (fun vm0 hS => notFace_of_selects (args := #[]) (mvT (State.Warmed39.trans w.2.2.1 hS.1) (own_wd hw 116 rfl))) (own_wd hw 116 rfl) (own_wd hw 115 rfl) (own_wd hw 8 rfl) (own_wd hw 117 rfl) (by decide) own_pd6 rfl rfl d45_1 rfl (W := 0) (Nat.le_of_eq rfl) (by decide) (by decide) (by decide) (by decide) (n := 4) rfl ?_
  rintro T _ _ ⟨rfl, rfl⟩ X
  refine gIf_eq X w d45_4 (n := 16) (n' := 7) (by decide) rfl rfl ?_ ?_
  · rintro ⟨c4, c4'⟩
    exact absurd c4 (by decide)
  · rintro ⟨c4, c4'⟩
    refine gAloadN X w d45_7 rfl rfl (n := 8) rfl ?_
    refine gGetF X w (own_wd hw 34 rfl) Via.refl P1 d45_8 (n := 11) rfl ?_
    intro T X
    refine gIloadN X w d45_11 rfl (n := 12) rfl ?_
    refine gCallSv X w [(.ref vb), (.int ii)] [] (own_lch l Z a0 hw vb ii bs y fo h0 n0 (Sd.le X) P3 P4 (by first | assumption | decide | (simp; done) | omega) (by first | assumption | decide | (simp; done) | omega) (by first | assumption | decide | (simp; done) | omega) (by first | assumption | decide | (simp; done) | omega)) (own_wd hw 238 rfl) (own_wd hw 239 rfl) (own_wd hw 120 rfl) (own_wd hw 240 rfl) (by decide) own_pd27 rfl rfl d45_12 rfl (W := 0) (Nat.le_of_eq rfl) (by decide) (by decide) (by decide) (by decide) (n := 15) rfl ?_
    rintro T _ _ ⟨rfl, rfl⟩ X
    exact gRet X w (t := .char) rfl (congrArg Value.int (own_nari2c _)) (Or.inl ⟨rfl, Or.inr (Or.inr (Or.inr (Or.inl rfl))), _, rfl⟩) d45_15 (by decide) (by decide) (⟨rfl, _, rfl, rfl, rfl⟩)
set_option maxRecDepth 65536 in
set_option maxHeartbeats 40000000 in
theorem own_pow10 (l : Launch) (Z : State) (a0 : Array Value) (hw : ∀ d ∈ tables_1, d.before a0 Z = true) (j : Int32) (h0 : Heap) (n0 : Nat) {D : Addr → Prop} (hn : n0 ≤ h0.size)  :
    ConV l Z (⟨"com/example/tidemark/tidemark/protocol/HostPortToStringPinLaw", "pow10", "(I)I"⟩ : MethodName) method_5_code 1 (some .int) ({ frames := 0, cells := 0, slots := 0, locals := 0 } : Room) #[(.int j)] h0 n0 D (fun v h => h0 = h ∧ v = (.int (own_pow j))) := by
  refine Con.of (plainFor_of_name (by first | (simp [plainName, overriddenIn]; done) | decide +kernel)) hn ?_
  intro p e s m below meth c T w X
  refine Gl.enter (ls := #[.val (.int j)]) (by first | (simp [entryFrame, mkF, argsToLocals, Value.category]; done) | rfl) ?_
  refine gIloadN X w d50_0 rfl (n := 1) rfl ?_
  refine gIf_gt X w d50_1 (n := 6) (n' := 4) (by decide) rfl rfl ?_ ?_
  · intro c1
    refine gIloadN X w d50_6 rfl (n := 7) rfl ?_
    refine gIconst X w d50_7 (z := (1 : Int32)) rfl (n := 8) rfl ?_
    refine gIcmp_ne X w d50_8 (n := 14) (n' := 11) (by decide) rfl rfl ?_ ?_
    · rintro ⟨c8, c8'⟩
      refine gIloadN X w d50_14 rfl (n := 15) rfl ?_
      refine gIconst X w d50_15 (z := (2 : Int32)) rfl (n := 16) rfl ?_
      refine gIcmp_ne X w d50_16 (n := 22) (n' := 19) (by decide) rfl rfl ?_ ?_
      · rintro ⟨c16, c16'⟩
        refine gIloadN X w d50_22 rfl (n := 23) rfl ?_
        refine gIconst X w d50_23 (z := (3 : Int32)) rfl (n := 24) rfl ?_
        refine gIcmp_ne X w d50_24 (n := 31) (n' := 27) (by decide) rfl rfl ?_ ?_
        · rintro ⟨c24, c24'⟩
          refine gSipush X w d50_31 (z := (10000 : Int32)) (by decide) (n := 34) rfl ?_
          exact gRetI X w rfl d50_34 (by decide) (by decide) (⟨rfl, _, rfl, rfl, (congrArg Value.int (by simp only [own_pow, if_pos c1, if_neg c8, if_neg c16, if_neg c24]))⟩)
        · rintro ⟨c24, c24'⟩
          refine gSipush X w d50_27 (z := (1000 : Int32)) (by decide) (n := 30) rfl ?_
          exact gRetI X w rfl d50_30 (by decide) (by decide) (⟨rfl, _, rfl, rfl, (congrArg Value.int (by simp only [own_pow, if_pos c1, if_neg c8, if_neg c16, if_pos c24]))⟩)
      · rintro ⟨c16, c16'⟩
        refine gBipush X w d50_19 (z := (100 : Int32)) (by decide) (n := 21) rfl ?_
        exact gRetI X w rfl d50_21 (by decide) (by decide) (⟨rfl, _, rfl, rfl, (congrArg Value.int (by simp only [own_pow, if_pos c1, if_neg c8, if_pos c16]))⟩)
    · rintro ⟨c8, c8'⟩
      refine gBipush X w d50_11 (z := (10 : Int32)) (by decide) (n := 13) rfl ?_
      exact gRetI X w rfl d50_13 (by decide) (by decide) (⟨rfl, _, rfl, rfl, (congrArg Value.int (by simp only [own_pow, if_pos c1, if_pos c8]))⟩)
  · intro c1
    refine gIconst X w d50_4 (z := (1 : Int32)) rfl (n := 5) rfl ?_
    exact gRetI X w rfl d50_5 (by decide) (by decide) (⟨rfl, _, rfl, rfl, (congrArg Value.int (by simp only [own_pow, if_neg (Int.not_lt.mpr c1)]))⟩)
set_option maxRecDepth 65536 in
set_option maxHeartbeats 40000000 in
theorem own_expm (l : Launch) (Z : State) (a0 : Array Value) (hw : ∀ d ∈ tables_1, d.before a0 Z = true) (ii : Int32) (k0 : Int32) (k1 : Int32) (k2 : Int32) (ln : Int32) (bb : Int32) (pt : Int32) (dd : Int32) (h0 : Heap) (n0 : Nat) {D : Addr → Prop} (hn : n0 ≤ h0.size) (hk0 : 0 ≤ k0.toInt ∧ k0.toInt ≤ 255) (hk1 : 0 ≤ k1.toInt ∧ k1.toInt ≤ 255) (hk2 : 0 ≤ k2.toInt ∧ k2.toInt ≤ 255) :
    ConV l Z (⟨"com/example/tidemark/tidemark/protocol/HostPortToStringPinLaw", "exp", "(ICCCIZII)C"⟩ : MethodName) method_7_code 12 (some .char) ({ frames := 1, cells := 0, slots := 0, locals := 14 } : Room) #[(.int ii), (.int k0), (.int k1), (.int k2), (.int ln), (.int bb), (.int pt), (.int dd)] h0 n0 D (fun v h => h0 = h ∧ v = (.int (own_exp ii k0 k1 k2 ln bb pt dd))) := by
  refine Con.of (plainFor_of_name (by first | (simp [plainName, overriddenIn]; done) | decide +kernel)) hn ?_
  intro p e s m below meth c T w X
  refine Gl.enter (ls := #[.val (.int ii), .val (.int k0), .val (.int k1), .val (.int k2), .val (.int ln), .val (.int bb), .val (.int pt), .val (.int dd), .unset, .unset, .unset, .unset]) (by first | (simp [entryFrame, mkF, argsToLocals, Value.category]; done) | rfl) ?_
  refine gIload X w d49_0 rfl (n := 2) rfl ?_
  refine gIf_eq X w d49_2 (n := 9) (n' := 5) (by decide) rfl rfl ?_ ?_
  · rintro ⟨c2, c2'⟩
    refine gIconst X w d49_9 (z := (0 : Int32)) rfl (n := 10) rfl ?_
    refine gIstore X w d49_10 #[.val (.int ii), .val (.int k0), .val (.int k1), .val (.int k2), .val (.int ln), .val (.int bb), .val (.int pt), .val (.int dd), .val (.int (0 : Int32)), .unset, .unset, .unset] rfl (n := 12) rfl ?_
    refine gIload X w d49_12 rfl (n := 14) rfl ?_
    refine gIf_eq X w d49_14 (n := 24) (n' := 17) (by decide) rfl rfl ?_ ?_
    · rintro ⟨c14, c14'⟩
      refine gIloadN X w d49_24 rfl (n := 25) rfl ?_
      refine gIload X w d49_25 rfl (n := 27) rfl ?_
      refine gIsub X w d49_27 rfl (n := 28) rfl ?_
      refine gIstore X w d49_28 #[.val (.int ii), .val (.int k0), .val (.int k1), .val (.int k2), .val (.int ln), .val (.int bb), .val (.int pt), .val (.int dd), .val (.int (0 : Int32)), .val (.int (ii - (0 : Int32))), .unset, .unset] rfl (n := 30) rfl ?_
      refine gIload X w d49_30 rfl (n := 32) rfl ?_
      refine gIf_lt X w d49_32 (n := 59) (n' := 35) (by decide) rfl rfl ?_ ?_
      · intro c32
        refine gIload X w d49_59 rfl (n := 61) rfl ?_
        refine gIf_eq X w d49_61 (n := 75) (n' := 64) (by decide) rfl rfl ?_ ?_
        · rintro ⟨c61, c61'⟩
          refine gIload X w d49_75 rfl (n := 77) rfl ?_
          refine gIconst X w d49_77 (z := (2 : Int32)) rfl (n := 78) rfl ?_
          refine gIload X w d49_78 rfl (n := 80) rfl ?_
          refine gImul X w d49_80 (z := ((0 : Int32))) (by decide) (n := 81) rfl ?_
          refine gIadd X w d49_81 rfl (n := 82) rfl ?_
          refine gIstore X w d49_82 #[.val (.int ii), .val (.int k0), .val (.int k1), .val (.int k2), .val (.int ln), .val (.int bb), .val (.int pt), .val (.int dd), .val (.int (0 : Int32)), .val (.int (ii - (0 : Int32))), .val (.int (ln + ((0 : Int32)))), .unset] rfl (n := 84) rfl ?_
          refine gIloadN X w d49_84 rfl (n := 85) rfl ?_
          refine gIload X w d49_85 rfl (n := 87) rfl ?_
          refine gIcmp_ne X w d49_87 (n := 93) (n' := 90) (by decide) rfl rfl ?_ ?_
          · rintro ⟨c87, c87'⟩
            refine gIloadN X w d49_93 rfl (n := 94) rfl ?_
            refine gIload X w d49_94 rfl (n := 96) rfl ?_
            refine gIsub X w d49_96 rfl (n := 97) rfl ?_
            refine gIconst X w d49_97 (z := (1 : Int32)) rfl (n := 98) rfl ?_
            refine gIsub X w d49_98 rfl (n := 99) rfl ?_
            refine gIstore X w d49_99 #[.val (.int ii), .val (.int k0), .val (.int k1), .val (.int k2), .val (.int ln), .val (.int bb), .val (.int pt), .val (.int dd), .val (.int (0 : Int32)), .val (.int (ii - (0 : Int32))), .val (.int (ln + ((0 : Int32)))), .val (.int ((ii - (ln + ((0 : Int32)))) - (1 : Int32)))] rfl (n := 101) rfl ?_
            refine gBipush X w d49_101 (z := (48 : Int32)) (by decide) (n := 103) rfl ?_
            refine gIload X w d49_103 rfl (n := 105) rfl ?_
            refine gIload X w d49_105 rfl (n := 107) rfl ?_
            refine gIconst X w d49_107 (z := (1 : Int32)) rfl (n := 108) rfl ?_
            refine gIsub X w d49_108 rfl (n := 109) rfl ?_
            refine gIload X w d49_109 rfl (n := 111) rfl ?_
            refine gIsub X w d49_111 rfl (n := 112) rfl ?_
            refine gCallSv X w [(.int ((dd - (1 : Int32)) - ((ii - (ln + ((0 : Int32)))) - (1 : Int32))))] [(.int pt), (.int (48 : Int32))] (own_pow10 l Z a0 hw ((dd - (1 : Int32)) - ((ii - (ln + ((0 : Int32)))) - (1 : Int32))) h0 n0 (Sd.le X) ) (own_wd hw 252 rfl) (own_wd hw 253 rfl) (own_wd hw 2 rfl) (own_wd hw 254 rfl) (by decide) own_pd13 rfl rfl d49_112 rfl (W := 2) (Nat.le_of_eq rfl) (by decide) (by decide) (by decide) (by decide) (n := 115) rfl ?_
            rintro T _ _ ⟨rfl, rfl⟩ X
            have nz115 : (own_pow ((dd - (1 : Int32)) - ((ii - (ln + ((0 : Int32)))) - (1 : Int32)))) ≠ 0 := own_pow_ne _
            refine gIdiv X w d49_115 nz115 rfl (n := 116) rfl ?_
            refine gBipush X w d49_116 (z := (10 : Int32)) (by decide) (n := 118) rfl ?_
            refine gIrem X w d49_118 (by decide) rfl (n := 119) rfl ?_
            refine gIadd X w d49_119 rfl (n := 120) rfl ?_
            refine gI2c X w d49_120 rfl (n := 121) rfl ?_
            exact gRet X w (t := .char) rfl (congrArg Value.int (own_nari2c _)) (Or.inl ⟨rfl, Or.inr (Or.inr (Or.inr (Or.inl rfl))), _, rfl⟩) d49_121 (by decide) (by decide) (⟨rfl, _, rfl, rfl, (congrArg Value.int (by simp only [own_exp, own_e12, own_e24, own_e59, own_e75, own_e93, own_i2c, if_pos c2, if_pos c14, if_pos c32, if_pos c61, if_neg c87]))⟩)
          · rintro ⟨c87, c87'⟩
            refine gBipush X w d49_90 (z := (58 : Int32)) (by decide) (n := 92) rfl ?_
            exact gRet X w (t := .char) rfl (by first | rfl | decide) (Or.inl ⟨rfl, Or.inr (Or.inr (Or.inr (Or.inl rfl))), _, rfl⟩) d49_92 (by decide) (by decide) (⟨rfl, _, rfl, rfl, (congrArg Value.int (by simp only [own_exp, own_e12, own_e24, own_e59, own_e75, own_e93, own_i2c, if_pos c2, if_pos c14, if_pos c32, if_pos c61, if_pos c87]))⟩)
        · rintro ⟨c61, c61'⟩
          exact absurd c2 c61
      · intro c32
        refine gIload X w d49_35 rfl (n := 37) rfl ?_
        refine gIload X w d49_37 rfl (n := 39) rfl ?_
        refine gIcmp_ge X w d49_39 (n := 59) (n' := 42) (by decide) rfl rfl ?_ ?_
        · intro c39
          refine gIload X w d49_59 rfl (n := 61) rfl ?_
          refine gIf_eq X w d49_61 (n := 75) (n' := 64) (by decide) rfl rfl ?_ ?_
          · rintro ⟨c61, c61'⟩
            refine gIload X w d49_75 rfl (n := 77) rfl ?_
            refine gIconst X w d49_77 (z := (2 : Int32)) rfl (n := 78) rfl ?_
            refine gIload X w d49_78 rfl (n := 80) rfl ?_
            refine gImul X w d49_80 (z := ((0 : Int32))) (by decide) (n := 81) rfl ?_
            refine gIadd X w d49_81 rfl (n := 82) rfl ?_
            refine gIstore X w d49_82 #[.val (.int ii), .val (.int k0), .val (.int k1), .val (.int k2), .val (.int ln), .val (.int bb), .val (.int pt), .val (.int dd), .val (.int (0 : Int32)), .val (.int (ii - (0 : Int32))), .val (.int (ln + ((0 : Int32)))), .unset] rfl (n := 84) rfl ?_
            refine gIloadN X w d49_84 rfl (n := 85) rfl ?_
            refine gIload X w d49_85 rfl (n := 87) rfl ?_
            refine gIcmp_ne X w d49_87 (n := 93) (n' := 90) (by decide) rfl rfl ?_ ?_
            · rintro ⟨c87, c87'⟩
              refine gIloadN X w d49_93 rfl (n := 94) rfl ?_
              refine gIload X w d49_94 rfl (n := 96) rfl ?_
              refine gIsub X w d49_96 rfl (n := 97) rfl ?_
              refine gIconst X w d49_97 (z := (1 : Int32)) rfl (n := 98) rfl ?_
              refine gIsub X w d49_98 rfl (n := 99) rfl ?_
              refine gIstore X w d49_99 #[.val (.int ii), .val (.int k0), .val (.int k1), .val (.int k2), .val (.int ln), .val (.int bb), .val (.int pt), .val (.int dd), .val (.int (0 : Int32)), .val (.int (ii - (0 : Int32))), .val (.int (ln + ((0 : Int32)))), .val (.int ((ii - (ln + ((0 : Int32)))) - (1 : Int32)))] rfl (n := 101) rfl ?_
              refine gBipush X w d49_101 (z := (48 : Int32)) (by decide) (n := 103) rfl ?_
              refine gIload X w d49_103 rfl (n := 105) rfl ?_
              refine gIload X w d49_105 rfl (n := 107) rfl ?_
              refine gIconst X w d49_107 (z := (1 : Int32)) rfl (n := 108) rfl ?_
              refine gIsub X w d49_108 rfl (n := 109) rfl ?_
              refine gIload X w d49_109 rfl (n := 111) rfl ?_
              refine gIsub X w d49_111 rfl (n := 112) rfl ?_
              refine gCallSv X w [(.int ((dd - (1 : Int32)) - ((ii - (ln + ((0 : Int32)))) - (1 : Int32))))] [(.int pt), (.int (48 : Int32))] (own_pow10 l Z a0 hw ((dd - (1 : Int32)) - ((ii - (ln + ((0 : Int32)))) - (1 : Int32))) h0 n0 (Sd.le X) ) (own_wd hw 252 rfl) (own_wd hw 253 rfl) (own_wd hw 2 rfl) (own_wd hw 254 rfl) (by decide) own_pd13 rfl rfl d49_112 rfl (W := 2) (Nat.le_of_eq rfl) (by decide) (by decide) (by decide) (by decide) (n := 115) rfl ?_
              rintro T _ _ ⟨rfl, rfl⟩ X
              have nz115 : (own_pow ((dd - (1 : Int32)) - ((ii - (ln + ((0 : Int32)))) - (1 : Int32)))) ≠ 0 := own_pow_ne _
              refine gIdiv X w d49_115 nz115 rfl (n := 116) rfl ?_
              refine gBipush X w d49_116 (z := (10 : Int32)) (by decide) (n := 118) rfl ?_
              refine gIrem X w d49_118 (by decide) rfl (n := 119) rfl ?_
              refine gIadd X w d49_119 rfl (n := 120) rfl ?_
              refine gI2c X w d49_120 rfl (n := 121) rfl ?_
              exact gRet X w (t := .char) rfl (congrArg Value.int (own_nari2c _)) (Or.inl ⟨rfl, Or.inr (Or.inr (Or.inr (Or.inl rfl))), _, rfl⟩) d49_121 (by decide) (by decide) (⟨rfl, _, rfl, rfl, (congrArg Value.int (by simp only [own_exp, own_e12, own_e24, own_e59, own_e75, own_e93, own_i2c, if_pos c2, if_pos c14, if_neg (Int.not_lt.mpr c32), if_pos c39, if_pos c61, if_neg c87]))⟩)
            · rintro ⟨c87, c87'⟩
              refine gBipush X w d49_90 (z := (58 : Int32)) (by decide) (n := 92) rfl ?_
              exact gRet X w (t := .char) rfl (by first | rfl | decide) (Or.inl ⟨rfl, Or.inr (Or.inr (Or.inr (Or.inl rfl))), _, rfl⟩) d49_92 (by decide) (by decide) (⟨rfl, _, rfl, rfl, (congrArg Value.int (by simp only [own_exp, own_e12, own_e24, own_e59, own_e75, own_e93, own_i2c, if_pos c2, if_pos c14, if_neg (Int.not_lt.mpr c32), if_pos c39, if_pos c61, if_pos c87]))⟩)
          · rintro ⟨c61, c61'⟩
            exact absurd c2 c61
        · intro c39
          refine gIload X w d49_42 rfl (n := 44) rfl ?_
          refine gIf_ne X w d49_44 (n := 49) (n' := 47) (by decide) rfl rfl ?_ ?_
          · rintro ⟨c44, c44'⟩
            refine gIload X w d49_49 rfl (n := 51) rfl ?_
            refine gIconst X w d49_51 (z := (1 : Int32)) rfl (n := 52) rfl ?_
            refine gIcmp_ne X w d49_52 (n := 57) (n' := 55) (by decide) rfl rfl ?_ ?_
            · rintro ⟨c52, c52'⟩
              refine gIloadN X w d49_57 rfl (n := 58) rfl ?_
              exact gRet X w (t := .char) rfl (congrArg Value.int (own_narc hk2)) (Or.inl ⟨rfl, Or.inr (Or.inr (Or.inr (Or.inl rfl))), _, rfl⟩) d49_58 (by decide) (by decide) (⟨rfl, _, rfl, rfl, (congrArg Value.int (by simp only [own_exp, own_e12, own_e24, own_e59, own_e75, own_e93, own_i2c, if_pos c2, if_pos c14, if_neg (Int.not_lt.mpr c32), if_neg (Int.not_le.mpr c39), if_neg c44, if_neg c52]))⟩)
            · rintro ⟨c52, c52'⟩
              refine gIloadN X w d49_55 rfl (n := 56) rfl ?_
              exact gRet X w (t := .char) rfl (congrArg Value.int (own_narc hk1)) (Or.inl ⟨rfl, Or.inr (Or.inr (Or.inr (Or.inl rfl))), _, rfl⟩) d49_56 (by decide) (by decide) (⟨rfl, _, rfl, rfl, (congrArg Value.int (by simp only [own_exp, own_e12, own_e24, own_e59, own_e75, own_e93, own_i2c, if_pos c2, if_pos c14, if_neg (Int.not_lt.mpr c32), if_neg (Int.not_le.mpr c39), if_neg c44, if_pos c52]))⟩)
          · rintro ⟨c44, c44'⟩
            refine gIloadN X w d49_47 rfl (n := 48) rfl ?_
            exact gRet X w (t := .char) rfl (congrArg Value.int (own_narc hk0)) (Or.inl ⟨rfl, Or.inr (Or.inr (Or.inr (Or.inl rfl))), _, rfl⟩) d49_48 (by decide) (by decide) (⟨rfl, _, rfl, rfl, (congrArg Value.int (by simp only [own_exp, own_e12, own_e24, own_e59, own_e75, own_e93, own_i2c, if_pos c2, if_pos c14, if_neg (Int.not_lt.mpr c32), if_neg (Int.not_le.mpr c39), if_pos c44]))⟩)
    · rintro ⟨c14, c14'⟩
      exact absurd c2 c14
  · rintro ⟨c2, c2'⟩
    refine gIconst X w d49_5 (z := (1 : Int32)) rfl (n := 6) rfl ?_
    refine gGoto X w d49_6 (by decide) (n := 10) rfl ?_
    refine gIstore X w d49_10 #[.val (.int ii), .val (.int k0), .val (.int k1), .val (.int k2), .val (.int ln), .val (.int bb), .val (.int pt), .val (.int dd), .val (.int (1 : Int32)), .unset, .unset, .unset] rfl (n := 12) rfl ?_
    refine gIload X w d49_12 rfl (n := 14) rfl ?_
    refine gIf_eq X w d49_14 (n := 24) (n' := 17) (by decide) rfl rfl ?_ ?_
    · rintro ⟨c14, c14'⟩
      exact absurd c14 c2
    · rintro ⟨c14, c14'⟩
      refine gIloadN X w d49_17 rfl (n := 18) rfl ?_
      refine gIf_ne X w d49_18 (n := 24) (n' := 21) (by decide) rfl rfl ?_ ?_
      · rintro ⟨c18, c18'⟩
        refine gIloadN X w d49_24 rfl (n := 25) rfl ?_
        refine gIload X w d49_25 rfl (n := 27) rfl ?_
        refine gIsub X w d49_27 rfl (n := 28) rfl ?_
        refine gIstore X w d49_28 #[.val (.int ii), .val (.int k0), .val (.int k1), .val (.int k2), .val (.int ln), .val (.int bb), .val (.int pt), .val (.int dd), .val (.int (1 : Int32)), .val (.int (ii - (1 : Int32))), .unset, .unset] rfl (n := 30) rfl ?_
        refine gIload X w d49_30 rfl (n := 32) rfl ?_
        refine gIf_lt X w d49_32 (n := 59) (n' := 35) (by decide) rfl rfl ?_ ?_
        · intro c32
          refine gIload X w d49_59 rfl (n := 61) rfl ?_
          refine gIf_eq X w d49_61 (n := 75) (n' := 64) (by decide) rfl rfl ?_ ?_
          · rintro ⟨c61, c61'⟩
            exact absurd c61 c2
          · rintro ⟨c61, c61'⟩
            refine gIloadN X w d49_64 rfl (n := 65) rfl ?_
            refine gIload X w d49_65 rfl (n := 67) rfl ?_
            refine gIconst X w d49_67 (z := (1 : Int32)) rfl (n := 68) rfl ?_
            refine gIadd X w d49_68 rfl (n := 69) rfl ?_
            refine gIcmp_ne X w d49_69 (n := 75) (n' := 72) (by decide) rfl rfl ?_ ?_
            · rintro ⟨c69, c69'⟩
              refine gIload X w d49_75 rfl (n := 77) rfl ?_
              refine gIconst X w d49_77 (z := (2 : Int32)) rfl (n := 78) rfl ?_
              refine gIload X w d49_78 rfl (n := 80) rfl ?_
              refine gImul X w d49_80 (z := ((2 : Int32))) (by decide) (n := 81) rfl ?_
              refine gIadd X w d49_81 rfl (n := 82) rfl ?_
              refine gIstore X w d49_82 #[.val (.int ii), .val (.int k0), .val (.int k1), .val (.int k2), .val (.int ln), .val (.int bb), .val (.int pt), .val (.int dd), .val (.int (1 : Int32)), .val (.int (ii - (1 : Int32))), .val (.int (ln + ((2 : Int32)))), .unset] rfl (n := 84) rfl ?_
              refine gIloadN X w d49_84 rfl (n := 85) rfl ?_
              refine gIload X w d49_85 rfl (n := 87) rfl ?_
              refine gIcmp_ne X w d49_87 (n := 93) (n' := 90) (by decide) rfl rfl ?_ ?_
              · rintro ⟨c87, c87'⟩
                refine gIloadN X w d49_93 rfl (n := 94) rfl ?_
                refine gIload X w d49_94 rfl (n := 96) rfl ?_
                refine gIsub X w d49_96 rfl (n := 97) rfl ?_
                refine gIconst X w d49_97 (z := (1 : Int32)) rfl (n := 98) rfl ?_
                refine gIsub X w d49_98 rfl (n := 99) rfl ?_
                refine gIstore X w d49_99 #[.val (.int ii), .val (.int k0), .val (.int k1), .val (.int k2), .val (.int ln), .val (.int bb), .val (.int pt), .val (.int dd), .val (.int (1 : Int32)), .val (.int (ii - (1 : Int32))), .val (.int (ln + ((2 : Int32)))), .val (.int ((ii - (ln + ((2 : Int32)))) - (1 : Int32)))] rfl (n := 101) rfl ?_
                refine gBipush X w d49_101 (z := (48 : Int32)) (by decide) (n := 103) rfl ?_
                refine gIload X w d49_103 rfl (n := 105) rfl ?_
                refine gIload X w d49_105 rfl (n := 107) rfl ?_
                refine gIconst X w d49_107 (z := (1 : Int32)) rfl (n := 108) rfl ?_
                refine gIsub X w d49_108 rfl (n := 109) rfl ?_
                refine gIload X w d49_109 rfl (n := 111) rfl ?_
                refine gIsub X w d49_111 rfl (n := 112) rfl ?_
                refine gCallSv X w [(.int ((dd - (1 : Int32)) - ((ii - (ln + ((2 : Int32)))) - (1 : Int32))))] [(.int pt), (.int (48 : Int32))] (own_pow10 l Z a0 hw ((dd - (1 : Int32)) - ((ii - (ln + ((2 : Int32)))) - (1 : Int32))) h0 n0 (Sd.le X) ) (own_wd hw 252 rfl) (own_wd hw 253 rfl) (own_wd hw 2 rfl) (own_wd hw 254 rfl) (by decide) own_pd13 rfl rfl d49_112 rfl (W := 2) (Nat.le_of_eq rfl) (by decide) (by decide) (by decide) (by decide) (n := 115) rfl ?_
                rintro T _ _ ⟨rfl, rfl⟩ X
                have nz115 : (own_pow ((dd - (1 : Int32)) - ((ii - (ln + ((2 : Int32)))) - (1 : Int32)))) ≠ 0 := own_pow_ne _
                refine gIdiv X w d49_115 nz115 rfl (n := 116) rfl ?_
                refine gBipush X w d49_116 (z := (10 : Int32)) (by decide) (n := 118) rfl ?_
                refine gIrem X w d49_118 (by decide) rfl (n := 119) rfl ?_
                refine gIadd X w d49_119 rfl (n := 120) rfl ?_
                refine gI2c X w d49_120 rfl (n := 121) rfl ?_
                exact gRet X w (t := .char) rfl (congrArg Value.int (own_nari2c _)) (Or.inl ⟨rfl, Or.inr (Or.inr (Or.inr (Or.inl rfl))), _, rfl⟩) d49_121 (by decide) (by decide) (⟨rfl, _, rfl, rfl, (congrArg Value.int (by simp only [own_exp, own_e12, own_e24, own_e59, own_e75, own_e93, own_i2c, if_neg c2, if_neg c14, if_neg c18, if_pos c32, if_neg c61, if_neg c69, if_neg c87]))⟩)
              · rintro ⟨c87, c87'⟩
                refine gBipush X w d49_90 (z := (58 : Int32)) (by decide) (n := 92) rfl ?_
                exact gRet X w (t := .char) rfl (by first | rfl | decide) (Or.inl ⟨rfl, Or.inr (Or.inr (Or.inr (Or.inl rfl))), _, rfl⟩) d49_92 (by decide) (by decide) (⟨rfl, _, rfl, rfl, (congrArg Value.int (by simp only [own_exp, own_e12, own_e24, own_e59, own_e75, own_e93, own_i2c, if_neg c2, if_neg c14, if_neg c18, if_pos c32, if_neg c61, if_neg c69, if_pos c87]))⟩)
            · rintro ⟨c69, c69'⟩
              refine gBipush X w d49_72 (z := (93 : Int32)) (by decide) (n := 74) rfl ?_
              exact gRet X w (t := .char) rfl (by first | rfl | decide) (Or.inl ⟨rfl, Or.inr (Or.inr (Or.inr (Or.inl rfl))), _, rfl⟩) d49_74 (by decide) (by decide) (⟨rfl, _, rfl, rfl, (congrArg Value.int (by simp only [own_exp, own_e12, own_e24, own_e59, own_e75, own_e93, own_i2c, if_neg c2, if_neg c14, if_neg c18, if_pos c32, if_neg c61, if_pos c69]))⟩)
        · intro c32
          refine gIload X w d49_35 rfl (n := 37) rfl ?_
          refine gIload X w d49_37 rfl (n := 39) rfl ?_
          refine gIcmp_ge X w d49_39 (n := 59) (n' := 42) (by decide) rfl rfl ?_ ?_
          · intro c39
            refine gIload X w d49_59 rfl (n := 61) rfl ?_
            refine gIf_eq X w d49_61 (n := 75) (n' := 64) (by decide) rfl rfl ?_ ?_
            · rintro ⟨c61, c61'⟩
              exact absurd c61 c2
            · rintro ⟨c61, c61'⟩
              refine gIloadN X w d49_64 rfl (n := 65) rfl ?_
              refine gIload X w d49_65 rfl (n := 67) rfl ?_
              refine gIconst X w d49_67 (z := (1 : Int32)) rfl (n := 68) rfl ?_
              refine gIadd X w d49_68 rfl (n := 69) rfl ?_
              refine gIcmp_ne X w d49_69 (n := 75) (n' := 72) (by decide) rfl rfl ?_ ?_
              · rintro ⟨c69, c69'⟩
                refine gIload X w d49_75 rfl (n := 77) rfl ?_
                refine gIconst X w d49_77 (z := (2 : Int32)) rfl (n := 78) rfl ?_
                refine gIload X w d49_78 rfl (n := 80) rfl ?_
                refine gImul X w d49_80 (z := ((2 : Int32))) (by decide) (n := 81) rfl ?_
                refine gIadd X w d49_81 rfl (n := 82) rfl ?_
                refine gIstore X w d49_82 #[.val (.int ii), .val (.int k0), .val (.int k1), .val (.int k2), .val (.int ln), .val (.int bb), .val (.int pt), .val (.int dd), .val (.int (1 : Int32)), .val (.int (ii - (1 : Int32))), .val (.int (ln + ((2 : Int32)))), .unset] rfl (n := 84) rfl ?_
                refine gIloadN X w d49_84 rfl (n := 85) rfl ?_
                refine gIload X w d49_85 rfl (n := 87) rfl ?_
                refine gIcmp_ne X w d49_87 (n := 93) (n' := 90) (by decide) rfl rfl ?_ ?_
                · rintro ⟨c87, c87'⟩
                  refine gIloadN X w d49_93 rfl (n := 94) rfl ?_
                  refine gIload X w d49_94 rfl (n := 96) rfl ?_
                  refine gIsub X w d49_96 rfl (n := 97) rfl ?_
                  refine gIconst X w d49_97 (z := (1 : Int32)) rfl (n := 98) rfl ?_
                  refine gIsub X w d49_98 rfl (n := 99) rfl ?_
                  refine gIstore X w d49_99 #[.val (.int ii), .val (.int k0), .val (.int k1), .val (.int k2), .val (.int ln), .val (.int bb), .val (.int pt), .val (.int dd), .val (.int (1 : Int32)), .val (.int (ii - (1 : Int32))), .val (.int (ln + ((2 : Int32)))), .val (.int ((ii - (ln + ((2 : Int32)))) - (1 : Int32)))] rfl (n := 101) rfl ?_
                  refine gBipush X w d49_101 (z := (48 : Int32)) (by decide) (n := 103) rfl ?_
                  refine gIload X w d49_103 rfl (n := 105) rfl ?_
                  refine gIload X w d49_105 rfl (n := 107) rfl ?_
                  refine gIconst X w d49_107 (z := (1 : Int32)) rfl (n := 108) rfl ?_
                  refine gIsub X w d49_108 rfl (n := 109) rfl ?_
                  refine gIload X w d49_109 rfl (n := 111) rfl ?_
                  refine gIsub X w d49_111 rfl (n := 112) rfl ?_
                  refine gCallSv X w [(.int ((dd - (1 : Int32)) - ((ii - (ln + ((2 : Int32)))) - (1 : Int32))))] [(.int pt), (.int (48 : Int32))] (own_pow10 l Z a0 hw ((dd - (1 : Int32)) - ((ii - (ln + ((2 : Int32)))) - (1 : Int32))) h0 n0 (Sd.le X) ) (own_wd hw 252 rfl) (own_wd hw 253 rfl) (own_wd hw 2 rfl) (own_wd hw 254 rfl) (by decide) own_pd13 rfl rfl d49_112 rfl (W := 2) (Nat.le_of_eq rfl) (by decide) (by decide) (by decide) (by decide) (n := 115) rfl ?_
                  rintro T _ _ ⟨rfl, rfl⟩ X
                  have nz115 : (own_pow ((dd - (1 : Int32)) - ((ii - (ln + ((2 : Int32)))) - (1 : Int32)))) ≠ 0 := own_pow_ne _
                  refine gIdiv X w d49_115 nz115 rfl (n := 116) rfl ?_
                  refine gBipush X w d49_116 (z := (10 : Int32)) (by decide) (n := 118) rfl ?_
                  refine gIrem X w d49_118 (by decide) rfl (n := 119) rfl ?_
                  refine gIadd X w d49_119 rfl (n := 120) rfl ?_
                  refine gI2c X w d49_120 rfl (n := 121) rfl ?_
                  exact gRet X w (t := .char) rfl (congrArg Value.int (own_nari2c _)) (Or.inl ⟨rfl, Or.inr (Or.inr (Or.inr (Or.inl rfl))), _, rfl⟩) d49_121 (by decide) (by decide) (⟨rfl, _, rfl, rfl, (congrArg Value.int (by simp only [own_exp, own_e12, own_e24, own_e59, own_e75, own_e93, own_i2c, if_neg c2, if_neg c14, if_neg c18, if_neg (Int.not_lt.mpr c32), if_pos c39, if_neg c61, if_neg c69, if_neg c87]))⟩)
                · rintro ⟨c87, c87'⟩
                  refine gBipush X w d49_90 (z := (58 : Int32)) (by decide) (n := 92) rfl ?_
                  exact gRet X w (t := .char) rfl (by first | rfl | decide) (Or.inl ⟨rfl, Or.inr (Or.inr (Or.inr (Or.inl rfl))), _, rfl⟩) d49_92 (by decide) (by decide) (⟨rfl, _, rfl, rfl, (congrArg Value.int (by simp only [own_exp, own_e12, own_e24, own_e59, own_e75, own_e93, own_i2c, if_neg c2, if_neg c14, if_neg c18, if_neg (Int.not_lt.mpr c32), if_pos c39, if_neg c61, if_neg c69, if_pos c87]))⟩)
              · rintro ⟨c69, c69'⟩
                refine gBipush X w d49_72 (z := (93 : Int32)) (by decide) (n := 74) rfl ?_
                exact gRet X w (t := .char) rfl (by first | rfl | decide) (Or.inl ⟨rfl, Or.inr (Or.inr (Or.inr (Or.inl rfl))), _, rfl⟩) d49_74 (by decide) (by decide) (⟨rfl, _, rfl, rfl, (congrArg Value.int (by simp only [own_exp, own_e12, own_e24, own_e59, own_e75, own_e93, own_i2c, if_neg c2, if_neg c14, if_neg c18, if_neg (Int.not_lt.mpr c32), if_pos c39, if_neg c61, if_pos c69]))⟩)
          · intro c39
            refine gIload X w d49_42 rfl (n := 44) rfl ?_
            refine gIf_ne X w d49_44 (n := 49) (n' := 47) (by decide) rfl rfl ?_ ?_
            · rintro ⟨c44, c44'⟩
              refine gIload X w d49_49 rfl (n := 51) rfl ?_
              refine gIconst X w d49_51 (z := (1 : Int32)) rfl (n := 52) rfl ?_
              refine gIcmp_ne X w d49_52 (n := 57) (n' := 55) (by decide) rfl rfl ?_ ?_
              · rintro ⟨c52, c52'⟩
                refine gIloadN X w d49_57 rfl (n := 58) rfl ?_
                exact gRet X w (t := .char) rfl (congrArg Value.int (own_narc hk2)) (Or.inl ⟨rfl, Or.inr (Or.inr (Or.inr (Or.inl rfl))), _, rfl⟩) d49_58 (by decide) (by decide) (⟨rfl, _, rfl, rfl, (congrArg Value.int (by simp only [own_exp, own_e12, own_e24, own_e59, own_e75, own_e93, own_i2c, if_neg c2, if_neg c14, if_neg c18, if_neg (Int.not_lt.mpr c32), if_neg (Int.not_le.mpr c39), if_neg c44, if_neg c52]))⟩)
              · rintro ⟨c52, c52'⟩
                refine gIloadN X w d49_55 rfl (n := 56) rfl ?_
                exact gRet X w (t := .char) rfl (congrArg Value.int (own_narc hk1)) (Or.inl ⟨rfl, Or.inr (Or.inr (Or.inr (Or.inl rfl))), _, rfl⟩) d49_56 (by decide) (by decide) (⟨rfl, _, rfl, rfl, (congrArg Value.int (by simp only [own_exp, own_e12, own_e24, own_e59, own_e75, own_e93, own_i2c, if_neg c2, if_neg c14, if_neg c18, if_neg (Int.not_lt.mpr c32), if_neg (Int.not_le.mpr c39), if_neg c44, if_pos c52]))⟩)
            · rintro ⟨c44, c44'⟩
              refine gIloadN X w d49_47 rfl (n := 48) rfl ?_
              exact gRet X w (t := .char) rfl (congrArg Value.int (own_narc hk0)) (Or.inl ⟨rfl, Or.inr (Or.inr (Or.inr (Or.inl rfl))), _, rfl⟩) d49_48 (by decide) (by decide) (⟨rfl, _, rfl, rfl, (congrArg Value.int (by simp only [own_exp, own_e12, own_e24, own_e59, own_e75, own_e93, own_i2c, if_neg c2, if_neg c14, if_neg c18, if_neg (Int.not_lt.mpr c32), if_neg (Int.not_le.mpr c39), if_pos c44]))⟩)
      · rintro ⟨c18, c18'⟩
        refine gBipush X w d49_21 (z := (91 : Int32)) (by decide) (n := 23) rfl ?_
        exact gRet X w (t := .char) rfl (by first | rfl | decide) (Or.inl ⟨rfl, Or.inr (Or.inr (Or.inr (Or.inl rfl))), _, rfl⟩) d49_23 (by decide) (by decide) (⟨rfl, _, rfl, rfl, (congrArg Value.int (by simp only [own_exp, own_e12, own_e24, own_e59, own_e75, own_e93, own_i2c, if_neg c2, if_neg c14, if_pos c18]))⟩)
set_option maxRecDepth 65536 in
set_option maxHeartbeats 40000000 in
theorem own_ok (l : Launch) (Z : State) (a0 : Array Value) (hw : ∀ d ∈ tables_1, d.before a0 Z = true) (s0 : Addr) (vb : Addr) (bs : List Value) (fo : Value) (ii : Int32) (ee : Int32) (k0 : Int32) (k1 : Int32) (k2 : Int32) (ln : Int32) (bb : Int32) (pt : Int32) (dd : Int32) (cs : Int32) (h0 : Heap) (n0 : Nat) {D : Addr → Prop} (hn : n0 ≤ h0.size) (P0 : Exa Z h0 s0 "java/lang/String") (P1 : Fld Z h0 s0 "java/lang/String" "value" "[B" (.ref vb)) (P2 : Fld Z h0 s0 "java/lang/String" "coder" "B" (.int (0 : Int32))) (P3 : Av Z h0 vb .byte bs) (P4 : Sta Z h0 "jdk/internal/util/Preconditions" "SIOOBE_FORMATTER" "Ljava/util/function/BiFunction;" fo) (P5 : Sta Z h0 "java/lang/String" "COMPACT_STRINGS" "Z" (.int cs)) (hk0 : 0 ≤ k0.toInt ∧ k0.toInt ≤ 255) (hk1 : 0 ≤ k1.toInt ∧ k1.toInt ≤ 255) (hk2 : 0 ≤ k2.toInt ∧ k2.toInt ≤ 255) (hcs : ¬ cs = 0) (hbl : bs.length < 2 ^ 31) (hfc : fo.category = 1) (hok : ee.toInt ≤ ii.toInt ∨ (0 ≤ ii.toInt ∧ ∃ y : Int32, bs[ii.toInt.toNat]? = some (.int y) ∧ own_ch y = (own_exp ii k0 k1 k2 ln bb pt dd))) :
    ConV l Z (⟨"com/example/tidemark/tidemark/protocol/HostPortToStringPinLaw", "ok", "(Ljava/lang/String;IICCCIZII)Z"⟩ : MethodName) method_6_code 10 (some .boolean) ({ frames := 4, cells := 0, slots := 0, locals := 53 } : Room) #[(.ref s0), (.int ii), (.int ee), (.int k0), (.int k1), (.int k2), (.int ln), (.int bb), (.int pt), (.int dd)] h0 n0 D (fun v h => h0 = h ∧ v = (.int (1 : Int32))) := by
  refine Con.of (plainFor_of_name (by first | (simp [plainName, overriddenIn]; done) | decide +kernel)) hn ?_
  intro p e s m below meth c T w X
  refine Gl.enter (ls := #[.val (.ref s0), .val (.int ii), .val (.int ee), .val (.int k0), .val (.int k1), .val (.int k2), .val (.int ln), .val (.int bb), .val (.int pt), .val (.int dd)]) (by first | (simp [entryFrame, mkF, argsToLocals, Value.category]; done) | rfl) ?_
  refine gIloadN X w d44_0 rfl (n := 1) rfl ?_
  refine gIloadN X w d44_1 rfl (n := 2) rfl ?_
  refine gIcmp_ge X w d44_2 (n := 30) (n' := 5) (by decide) rfl rfl ?_ ?_
  · intro c2
    refine gIconst X w d44_30 (z := (1 : Int32)) rfl (n := 31) rfl ?_
    refine gGoto X w d44_31 (by decide) (n := 35) rfl ?_
    exact gRetZ X w rfl (Or.inr rfl) d44_35 (by decide) (by decide) (⟨rfl, _, rfl, rfl, rfl⟩)
  · intro c2
    obtain ⟨hi0, y, hy, hch⟩ := hok.resolve_left (Int.not_le.mpr c2)
    refine gAloadN X w d44_5 rfl rfl (n := 6) rfl ?_
    refine gIloadN X w d44_6 rfl (n := 7) rfl ?_
    refine gCallVv X w [(.int ii)] [] P0 (own_sch l Z a0 hw s0 vb ii bs y fo cs h0 n0 (Sd.le X) P0 P1 P2 P3 P4 P5 (by first | assumption | decide | (simp; done) | omega) (by first | assumption | decide | (simp; done) | omega) (by first | assumption | decide | (simp; done) | omega) (by first | assumption | decide | (simp; done) | omega) (by first | assumption | decide | (simp; done) | omega)) (own_wd hw 233 rfl) (own_wd hw 234 rfl) (fun vm0 hS => notFace_of_selects (args := #[]) (mvT (State.Warmed39.trans w.2.2.1 hS.1) (own_wd hw 236 rfl))) (own_wd hw 236 rfl) (own_wd hw 235 rfl) (own_wd hw 8 rfl) (own_wd hw 237 rfl) (by decide) own_pd28 rfl rfl d44_7 rfl (W := 0) (Nat.le_of_eq rfl) (by decide) (by decide) (by decide) (by decide) (n := 10) rfl ?_
    rintro T _ _ ⟨rfl, rfl⟩ X
    refine gIloadN X w d44_10 rfl (n := 11) rfl ?_
    refine gIloadN X w d44_11 rfl (n := 12) rfl ?_
    refine gIload X w d44_12 rfl (n := 14) rfl ?_
    refine gIload X w d44_14 rfl (n := 16) rfl ?_
    refine gIload X w d44_16 rfl (n := 18) rfl ?_
    refine gIload X w d44_18 rfl (n := 20) rfl ?_
    refine gIload X w d44_20 rfl (n := 22) rfl ?_
    refine gIload X w d44_22 rfl (n := 24) rfl ?_
    refine gCallSv X w [(.int ii), (.int k0), (.int k1), (.int k2), (.int ln), (.int bb), (.int pt), (.int dd)] [(.int (own_ch y))] (own_expm l Z a0 hw ii k0 k1 k2 ln bb pt dd h0 n0 (Sd.le X) (by first | assumption | decide | (simp; done) | omega) (by first | assumption | decide | (simp; done) | omega) (by first | assumption | decide | (simp; done) | omega)) (own_wd hw 249 rfl) (own_wd hw 250 rfl) (own_wd hw 2 rfl) (own_wd hw 251 rfl) (by decide) own_pd29 rfl rfl d44_24 rfl (W := 1) (Nat.le_of_eq rfl) (by decide) (by decide) (by decide) (by decide) (n := 27) rfl ?_
    rintro T _ _ ⟨rfl, rfl⟩ X
    refine gIcmp_ne X w d44_27 (n := 34) (n' := 30) (by decide) rfl rfl ?_ ?_
    · rintro ⟨c27, c27'⟩
      exact absurd hch c27
    · rintro ⟨c27, c27'⟩
      refine gIconst X w d44_30 (z := (1 : Int32)) rfl (n := 31) rfl ?_
      refine gGoto X w d44_31 (by decide) (n := 35) rfl ?_
      exact gRetZ X w rfl (Or.inr rfl) d44_35 (by decide) (by decide) (⟨rfl, _, rfl, rfl, rfl⟩)
set_option maxRecDepth 65536 in
set_option maxHeartbeats 40000000 in
theorem own_hts_1 (l : Launch) (Z : State) (a0 : Array Value) (hw : ∀ d ∈ tables_1, d.before a0 Z = true) (a : Addr) (s0 : Addr) (pt : Int32) (vb : Addr) (hb : List Value) (cs : Int32) (on : Addr) (te : Addr) (ons : List Value) (tes : List Value) (h0 : Heap) (n0 : Nat) {D : Addr → Prop} (hn : n0 ≤ h0.size) (P0 : Exa Z h0 a "com/example/tidemark/tidemark/protocol/HostPort") (P1 : Fld Z h0 a "com/example/tidemark/tidemark/protocol/HostPort" "host" "Ljava/lang/String;" (.ref s0)) (P2 : Fld Z h0 a "com/example/tidemark/tidemark/protocol/HostPort" "port" "I" (.int pt)) (P3 : Exa Z h0 s0 "java/lang/String") (P4 : Fld Z h0 s0 "java/lang/String" "value" "[B" (.ref vb)) (P5 : Fld Z h0 s0 "java/lang/String" "coder" "B" (.int (0 : Int32))) (P6 : Av Z h0 vb .byte hb) (P7 : Sta Z h0 "java/lang/String" "COMPACT_STRINGS" "Z" (.int cs)) (P8 : Sta Z h0 "java/lang/Integer" "DigitOnes" "[B" (.ref on)) (P9 : Sta Z h0 "java/lang/Integer" "DigitTens" "[B" (.ref te)) (P10 : Av Z h0 on .byte ons) (P11 : Av Z h0 te .byte tes) (hcs : ¬ cs = 0) (hpt : 0 ≤ pt.toInt ∧ pt.toInt ≤ 65535) (hon : ∀ j : Int32, 0 ≤ j.toInt → j.toInt < 100 → ons[j.toInt.toNat]? = some (.int (48 + j % 10))) (hte : ∀ j : Int32, 0 ≤ j.toInt → j.toInt < 100 → tes[j.toInt.toNat]? = some (.int (48 + j / 10))) (hhb : (∃ y0, hb = [Value.int y0]) ∨ (∃ y0 y1, hb = [Value.int y0, Value.int y1]) ∨ (∃ y0 y1 y2, hb = [Value.int y0, Value.int y1, Value.int y2])) (hh3 : hb.length ≤ 3) (hfh : ∀ v ∈ hb, fits .byte v = true) (hbr : own_col hb) :
    ConVL l Z (⟨"com/example/tidemark/tidemark/protocol/HostPort", "toString", "()Ljava/lang/String;"⟩ : MethodName) prog_6_method_4_code 1 (some (.object "java/lang/String")) ({ frames := 6, cells := 16, slots := 112, locals := 114 } : Room) #[(.ref a)] h0 n0 D (fun v h D' => (∀ {x : Addr}, (n0 ≤ x ∧ ¬ D x) → x < h0.size → (n0 ≤ x ∧ ¬ D' x)) ∧ Keep h0 h [] ∧ ∃ (sr : Addr) (nb : Addr), v = (.ref sr) ∧ h0.size ≤ sr ∧ (n0 ≤ sr ∧ ¬ D' sr) ∧ h0.size ≤ nb ∧ (n0 ≤ nb ∧ ¬ D' nb) ∧ Exa Z h sr "java/lang/String" ∧ Fld Z h sr "java/lang/String" "value" "[B" (.ref nb) ∧ Fld Z h sr "java/lang/String" "coder" "B" (.int (0 : Int32)) ∧ Av Z h nb .byte (((([] : List Value) ++ (((([] : List Value) ++ [(.int (91 : Int32))]) ++ hb) ++ [(.int (93 : Int32))])) ++ [(.int (58 : Int32))]) ++ own_dl pt)) := by
  refine Con.of (plainFor_of_name (by first | (simp [plainName, overriddenIn]; done) | decide +kernel)) hn ?_
  intro p e s m below meth c T w X
  refine Gl.enter (ls := #[.val (.ref a)]) (by first | (simp [entryFrame, mkF, argsToLocals, Value.category]; done) | rfl) ?_
  have K_0 : Keep h0 h0 [] := Keep.refl _ _
  have hdl := own_dl5 hpt
  refine gNew X w (own_wd hw 73 rfl) (own_wd hw 74 rfl) (own_wd hw 75 rfl) d13_0 (by decide) (by decide) (n := 3) rfl ?_
  intro T hp0 ad0 ea0 na0 X E0 A0 D0
  have F_1 := Nat.le_trans K_0.1 (Nat.le_of_eq ea0.symm)
  have ne_a_ad0 : a ≠ ad0 := neOf P0.lt (Nat.le_of_eq ea0.symm)
  have ne_s0_ad0 : s0 ≠ ad0 := neOf P3.lt (Nat.le_of_eq ea0.symm)
  have ne_vb_ad0 : vb ≠ ad0 := neOf P6.lt (Nat.le_of_eq ea0.symm)
  have ne_on_ad0 : on ≠ ad0 := neOf P10.lt (Nat.le_of_eq ea0.symm)
  have ne_te_ad0 : te ≠ ad0 := neOf P11.lt (Nat.le_of_eq ea0.symm)
  have F_2 := K_0.ext E0
  have F_3 := P0.ext E0
  have F_4 := P1.ext E0
  have F_5 := P2.ext E0
  have F_6 := P3.ext E0
  have F_7 := P4.ext E0
  have F_8 := P5.ext E0
  have F_9 := P6.ext E0
  have F_10 := P7.ext E0
  have F_11 := P8.ext E0
  have F_12 := P9.ext E0
  have F_13 := P10.ext E0
  have F_14 := P11.ext E0
  have F_15 : Fld Z hp0 ad0 "java/lang/AbstractStringBuilder" "value" "[B" .null := D0 (Or.inl (own_wd hw 88 rfl)) (ty := (.array .byte)) (by decide)
  have F_16 : Fld Z hp0 ad0 "java/lang/AbstractStringBuilder" "coder" "B" (.int (0 : Int32)) := D0 (Or.inl (own_wd hw 90 rfl)) (ty := .byte) (by decide)
  have F_17 : Fld Z hp0 ad0 "java/lang/AbstractStringBuilder" "count" "I" (.int (0 : Int32)) := D0 (Or.inl (own_wd hw 137 rfl)) (ty := .int) (by decide)
  refine gDup X w d13_3 rfl (n := 4) rfl ?_
  refine gCallIn X w [] [(.ref ad0)] rfl (own_binit l Z a0 hw ad0 cs hp0 n0 (Sd.le X) A0 F_15 F_16 F_17 F_10 (by first | assumption | decide | (simp; done) | omega) na0) (own_wd hw 76 rfl) (own_wd hw 77 rfl) (own_wd hw 75 rfl) (own_wd hw 78 rfl) (by decide) own_pd5 rfl rfl d13_4 rfl (W := 1) (Nat.le_of_eq rfl) (by decide) (by decide) (by decide) (by decide) (n := 7) rfl ?_
  rintro T h_18 ⟨K_18, ub_18, g_ub_18, na_ub_18, Q0_18, Q1_18, Q2_18, Q3_18⟩ X
  have F_19 := Nat.le_trans F_2.1 g_ub_18
  have ne_a_ub_18 : a ≠ ub_18 := neOf F_3.lt g_ub_18
  have ne_s0_ub_18 : s0 ≠ ub_18 := neOf F_6.lt g_ub_18
  have ne_vb_ub_18 : vb ≠ ub_18 := neOf F_9.lt g_ub_18
  have ne_on_ub_18 : on ≠ ub_18 := neOf F_13.lt g_ub_18
  have ne_te_ub_18 : te ≠ ub_18 := neOf F_14.lt g_ub_18
  have ne_ad0_ub_18 : ad0 ≠ ub_18 := neOf A0.lt g_ub_18
  have F_20 := F_2.trans K_18 (allS (Or.inr F_1) all0)
  have F_21 := F_3.keep K_18
  have F_22 := F_4.keep K_18 (ninS ne_a_ad0 nin0)
  have F_23 := F_5.keep K_18 (ninS ne_a_ad0 nin0)
  have F_24 := F_6.keep K_18
  have F_25 := F_7.keep K_18 (ninS ne_s0_ad0 nin0)
  have F_26 := F_8.keep K_18 (ninS ne_s0_ad0 nin0)
  have F_27 := F_9.keep K_18 (ninS ne_vb_ad0 nin0)
  have F_28 := staKeep F_10 K_18 (allS (Exa.nostat A0) all0)
  have F_29 := staKeep F_11 K_18 (allS (Exa.nostat A0) all0)
  have F_30 := staKeep F_12 K_18 (allS (Exa.nostat A0) all0)
  have F_31 := F_13.keep K_18 (ninS ne_on_ad0 nin0)
  have F_32 := F_14.keep K_18 (ninS ne_te_ad0 nin0)
  have F_33 := A0.keep K_18
  refine gAloadN X w d13_7 rfl rfl (n := 8) rfl ?_
  refine gGetF X w (own_wd hw 64 rfl) Via.refl F_22 d13_8 (n := 11) rfl ?_
  intro T X
  refine gLdcH X w (own_wd hw 91 rfl) (own_str hw) (own_ew hw) (List.mem_of_getElem? (i := 2) rfl) (vs := [(.int (58 : Int32))]) ⟨by decide, by first | rfl | decide⟩ (by decide) d13_11 (k := 4) (by decide) (by decide) (by decide) (by decide) (n := 13) rfl ?_
  intro T hp11 as11 bs11 D11 X E11 A11 C11 F11 V11 R11
  obtain ⟨F_34, ne_ad0_as11, ne_ad0_bs11⟩ := R11 na0 F_33.lt
  obtain ⟨F_35, ne_ub_18_as11, ne_ub_18_bs11⟩ := R11 na_ub_18 Q3_18.lt
  have F_36 : ∀ {x : Addr}, (n0 ≤ x ∧ ¬ D x) → x < h0.size → (n0 ≤ x ∧ ¬ D11 x) := fun hx hl => (R11 hx (Nat.lt_of_lt_of_le hl F_20.1)).1
  have F_37 := F_20.ext E11
  have F_38 := F_21.ext E11
  have F_39 := F_22.ext E11
  have F_40 := F_23.ext E11
  have F_41 := F_24.ext E11
  have F_42 := F_25.ext E11
  have F_43 := F_26.ext E11
  have F_44 := F_27.ext E11
  have F_45 := F_28.ext E11
  have F_46 := F_29.ext E11
  have F_47 := F_30.ext E11
  have F_48 := F_31.ext E11
  have F_49 := F_32.ext E11
  have F_50 := F_33.ext E11
  have F_51 := Q0_18.ext E11
  have F_52 := Q1_18.ext E11
  have F_53 := Q2_18.ext E11
  have F_54 := Q3_18.ext E11
  refine gCallVv X w [(.ref as11)] [(.ref ad0)] F_41 (own_has l Z a0 hw s0 as11 vb bs11 hb cs hp11 n0 (Sd.le X) F_41 A11 F_42 F_43 F_44 F11 C11 V11 F_45 (by first | assumption | decide | (simp; done) | omega) (by first | assumption | decide | (simp; done) | omega)) (own_wd hw 94 rfl) (own_wd hw 95 rfl) (fun vm0 hS => notFace_of_selects (args := #[]) (mvT (State.Warmed39.trans w.2.2.1 hS.1) (own_wd hw 97 rfl))) (own_wd hw 97 rfl) (own_wd hw 96 rfl) (own_wd hw 8 rfl) (own_wd hw 98 rfl) (by decide) own_pd30 rfl rfl d13_13 rfl (W := 1) (Nat.le_of_eq rfl) (by decide) (by decide) (by decide) (by decide) (n := 16) rfl ?_
  rintro T _ _ ⟨rfl, b0_55, rfl, hb_55⟩ X
  refine gIf_eq X w d13_16 (n := 49) (n' := 19) (by decide) rfl rfl ?_ ?_
  · rintro ⟨c16, c16'⟩
    rcases hb_55 with g | g
    · rw [g.1] at c16; exact absurd c16 (by decide)
    · exact absurd hbr g.2
  · rintro ⟨c16, c16'⟩
    refine gNew X w (own_wd hw 73 rfl) (own_wd hw 74 rfl) (own_wd hw 75 rfl) d13_19 (by decide) (by decide) (n := 22) rfl ?_
    intro T hp19 ad19 ea19 na19 X E19 A19 D19
    have F_56 := Nat.le_trans F_37.1 (Nat.le_of_eq ea19.symm)
    have ne_a_ad19 : a ≠ ad19 := neOf F_38.lt (Nat.le_of_eq ea19.symm)
    have ne_s0_ad19 : s0 ≠ ad19 := neOf F_41.lt (Nat.le_of_eq ea19.symm)
    have ne_vb_ad19 : vb ≠ ad19 := neOf F_44.lt (Nat.le_of_eq ea19.symm)
    have ne_on_ad19 : on ≠ ad19 := neOf F_48.lt (Nat.le_of_eq ea19.symm)
    have ne_te_ad19 : te ≠ ad19 := neOf F_49.lt (Nat.le_of_eq ea19.symm)
    have ne_ad0_ad19 : ad0 ≠ ad19 := neOf F_50.lt (Nat.le_of_eq ea19.symm)
    have ne_ub_18_ad19 : ub_18 ≠ ad19 := neOf F_54.lt (Nat.le_of_eq ea19.symm)
    have ne_as11_ad19 : as11 ≠ ad19 := neOf A11.lt (Nat.le_of_eq ea19.symm)
    have ne_bs11_ad19 : bs11 ≠ ad19 := neOf V11.lt (Nat.le_of_eq ea19.symm)
    have F_57 := F_37.ext E19
    have F_58 := F_38.ext E19
    have F_59 := F_39.ext E19
    have F_60 := F_40.ext E19
    have F_61 := F_41.ext E19
    have F_62 := F_42.ext E19
    have F_63 := F_43.ext E19
    have F_64 := F_44.ext E19
    have F_65 := F_45.ext E19
    have F_66 := F_46.ext E19
    have F_67 := F_47.ext E19
    have F_68 := F_48.ext E19
    have F_69 := F_49.ext E19
    have F_70 := F_50.ext E19
    have F_71 := F_51.ext E19
    have F_72 := F_52.ext E19
    have F_73 := F_53.ext E19
    have F_74 := F_54.ext E19
    have F_75 := A11.ext E19
    have F_76 := C11.ext E19
    have F_77 := F11.ext E19
    have F_78 := V11.ext E19
    have F_79 : Fld Z hp19 ad19 "java/lang/AbstractStringBuilder" "value" "[B" .null := D19 (Or.inl (own_wd hw 88 rfl)) (ty := (.array .byte)) (by decide)
    have F_80 : Fld Z hp19 ad19 "java/lang/AbstractStringBuilder" "coder" "B" (.int (0 : Int32)) := D19 (Or.inl (own_wd hw 90 rfl)) (ty := .byte) (by decide)
    have F_81 : Fld Z hp19 ad19 "java/lang/AbstractStringBuilder" "count" "I" (.int (0 : Int32)) := D19 (Or.inl (own_wd hw 137 rfl)) (ty := .int) (by decide)
    refine gDup X w d13_22 rfl (n := 23) rfl ?_
    refine gCallIn X w [] [(.ref ad19), (.ref ad0)] rfl (own_binit l Z a0 hw ad19 cs hp19 n0 (Sd.le X) A19 F_79 F_80 F_81 F_65 (by first | assumption | decide | (simp; done) | omega) na19) (own_wd hw 76 rfl) (own_wd hw 77 rfl) (own_wd hw 75 rfl) (own_wd hw 78 rfl) (by decide) own_pd5 rfl rfl d13_23 rfl (W := 2) (Nat.le_of_eq rfl) (by decide) (by decide) (by decide) (by decide) (n := 26) rfl ?_
    rintro T h_82 ⟨K_82, ub_82, g_ub_82, na_ub_82, Q0_82, Q1_82, Q2_82, Q3_82⟩ X
    have F_83 := Nat.le_trans F_57.1 g_ub_82
    have ne_a_ub_82 : a ≠ ub_82 := neOf F_58.lt g_ub_82
    have ne_s0_ub_82 : s0 ≠ ub_82 := neOf F_61.lt g_ub_82
    have ne_vb_ub_82 : vb ≠ ub_82 := neOf F_64.lt g_ub_82
    have ne_on_ub_82 : on ≠ ub_82 := neOf F_68.lt g_ub_82
    have ne_te_ub_82 : te ≠ ub_82 := neOf F_69.lt g_ub_82
    have ne_ad0_ub_82 : ad0 ≠ ub_82 := neOf F_70.lt g_ub_82
    have ne_ub_18_ub_82 : ub_18 ≠ ub_82 := neOf F_74.lt g_ub_82
    have ne_as11_ub_82 : as11 ≠ ub_82 := neOf F_75.lt g_ub_82
    have ne_bs11_ub_82 : bs11 ≠ ub_82 := neOf F_78.lt g_ub_82
    have ne_ad19_ub_82 : ad19 ≠ ub_82 := neOf A19.lt g_ub_82
    have F_84 := F_57.trans K_82 (allS (Or.inr F_56) all0)
    have F_85 := F_58.keep K_82
    have F_86 := F_59.keep K_82 (ninS ne_a_ad19 nin0)
    have F_87 := F_60.keep K_82 (ninS ne_a_ad19 nin0)
    have F_88 := F_61.keep K_82
    have F_89 := F_62.keep K_82 (ninS ne_s0_ad19 nin0)
    have F_90 := F_63.keep K_82 (ninS ne_s0_ad19 nin0)
    have F_91 := F_64.keep K_82 (ninS ne_vb_ad19 nin0)
    have F_92 := staKeep F_65 K_82 (allS (Exa.nostat A19) all0)
    have F_93 := staKeep F_66 K_82 (allS (Exa.nostat A19) all0)
    have F_94 := staKeep F_67 K_82 (allS (Exa.nostat A19) all0)
    have F_95 := F_68.keep K_82 (ninS ne_on_ad19 nin0)
    have F_96 := F_69.keep K_82 (ninS ne_te_ad19 nin0)
    have F_97 := F_70.keep K_82
    have F_98 := F_71.keep K_82 (ninS ne_ad0_ad19 nin0)
    have F_99 := F_72.keep K_82 (ninS ne_ad0_ad19 nin0)
    have F_100 := F_73.keep K_82 (ninS ne_ad0_ad19 nin0)
    have F_101 := F_74.keep K_82 (ninS ne_ub_18_ad19 nin0)
    have F_102 := F_75.keep K_82
    have F_103 := F_76.keep K_82 (ninS ne_as11_ad19 nin0)
    have F_104 := F_77.keep K_82 (ninS ne_as11_ad19 nin0)
    have F_105 := F_78.keep K_82 (ninS ne_bs11_ad19 nin0)
    have F_106 := A19.keep K_82
    refine gLdcH X w (own_wd hw 256 rfl) (own_str hw) (own_ew hw) (List.mem_of_getElem? (i := 0) rfl) (vs := [(.int (91 : Int32))]) ⟨by decide, by first | rfl | decide⟩ (by decide) d13_26 (k := 4) (by decide) (by decide) (by decide) (by decide) (n := 28) rfl ?_
    intro T hp26 as26 bs26 D26 X E26 A26 C26 F26 V26 R26
    obtain ⟨F_107, ne_ad0_as26, ne_ad0_bs26⟩ := R26 F_34 F_97.lt
    obtain ⟨F_108, ne_ub_18_as26, ne_ub_18_bs26⟩ := R26 F_35 F_101.lt
    obtain ⟨F_109, ne_ad19_as26, ne_ad19_bs26⟩ := R26 na19 F_106.lt
    obtain ⟨F_110, ne_ub_82_as26, ne_ub_82_bs26⟩ := R26 na_ub_82 Q3_82.lt
    have F_111 : ∀ {x : Addr}, (n0 ≤ x ∧ ¬ D x) → x < h0.size → (n0 ≤ x ∧ ¬ D26 x) := fun hx hl => (R26 (F_36 hx hl) (Nat.lt_of_lt_of_le hl F_84.1)).1
    have F_112 := F_84.ext E26
    have F_113 := F_85.ext E26
    have F_114 := F_86.ext E26
    have F_115 := F_87.ext E26
    have F_116 := F_88.ext E26
    have F_117 := F_89.ext E26
    have F_118 := F_90.ext E26
    have F_119 := F_91.ext E26
    have F_120 := F_92.ext E26
    have F_121 := F_93.ext E26
    have F_122 := F_94.ext E26
    have F_123 := F_95.ext E26
    have F_124 := F_96.ext E26
    have F_125 := F_97.ext E26
    have F_126 := F_98.ext E26
    have F_127 := F_99.ext E26
    have F_128 := F_100.ext E26
    have F_129 := F_101.ext E26
    have F_130 := F_102.ext E26
    have F_131 := F_103.ext E26
    have F_132 := F_104.ext E26
    have F_133 := F_105.ext E26
    have F_134 := F_106.ext E26
    have F_135 := Q0_82.ext E26
    have F_136 := Q1_82.ext E26
    have F_137 := Q2_82.ext E26
    have F_138 := Q3_82.ext E26
    refine gCallVv X w [(.ref as26)] [(.ref ad0)] F_134 (own_bps l Z a0 hw ad19 as26 bs26 ub_82 [(.int (91 : Int32))] ([] : List Value) own_z16 cs hp26 n0 (Sd.le X) F_134 F_135 F_136 F_137 F_138 A26 F26 C26 V26 F_120 (by first | assumption | decide | (simp; done) | omega) (by first | assumption | decide) (by first | assumption | decide) (own_fit1 _ (by decide)) (by first | assumption | (simp only [List.length_append, List.length_cons, List.length_nil]; omega)) (Ne.symm ne_ub_82_bs26) (Ne.symm ne_ub_82_as26) ne_ad19_ub_82 (Ne.symm ne_ad19_as26) (Ne.symm ne_ad19_bs26) F_110 F_109) (own_wd hw 125 rfl) (own_wd hw 126 rfl) (fun vm0 hS => notFace_of_selects (args := #[]) (mvT (State.Warmed39.trans w.2.2.1 hS.1) (own_wd hw 128 rfl))) (own_wd hw 128 rfl) (own_wd hw 127 rfl) (own_wd hw 75 rfl) (own_wd hw 129 rfl) (by decide) own_pd31 rfl rfl d13_28 rfl (W := 1) (Nat.le_of_eq rfl) (by decide) (by decide) (by decide) (by decide) (n := 31) rfl ?_
    rintro T h_139 _ ⟨K_139, rs2_139, rfl, Q0_139, Q1_139, Q2_139, Q3_139, hlen_139, hfu_139⟩ X
    have F_140 := F_112.trans K_139 (allS (Or.inr F_83) (allS (Or.inr F_56) all0))
    have F_141 := F_113.keep K_139
    have F_142 := F_114.keep K_139 (ninS ne_a_ub_82 (ninS ne_a_ad19 nin0))
    have F_143 := F_115.keep K_139 (ninS ne_a_ub_82 (ninS ne_a_ad19 nin0))
    have F_144 := F_116.keep K_139
    have F_145 := F_117.keep K_139 (ninS ne_s0_ub_82 (ninS ne_s0_ad19 nin0))
    have F_146 := F_118.keep K_139 (ninS ne_s0_ub_82 (ninS ne_s0_ad19 nin0))
    have F_147 := F_119.keep K_139 (ninS ne_vb_ub_82 (ninS ne_vb_ad19 nin0))
    have F_148 := staKeep F_120 K_139 (allS (Av.nostat F_138) (allS (Exa.nostat F_134) all0))
    have F_149 := staKeep F_121 K_139 (allS (Av.nostat F_138) (allS (Exa.nostat F_134) all0))
    have F_150 := staKeep F_122 K_139 (allS (Av.nostat F_138) (allS (Exa.nostat F_134) all0))
    have F_151 := F_123.keep K_139 (ninS ne_on_ub_82 (ninS ne_on_ad19 nin0))
    have F_152 := F_124.keep K_139 (ninS ne_te_ub_82 (ninS ne_te_ad19 nin0))
    have F_153 := F_125.keep K_139
    have F_154 := F_126.keep K_139 (ninS ne_ad0_ub_82 (ninS ne_ad0_ad19 nin0))
    have F_155 := F_127.keep K_139 (ninS ne_ad0_ub_82 (ninS ne_ad0_ad19 nin0))
    have F_156 := F_128.keep K_139 (ninS ne_ad0_ub_82 (ninS ne_ad0_ad19 nin0))
    have F_157 := F_129.keep K_139 (ninS ne_ub_18_ub_82 (ninS ne_ub_18_ad19 nin0))
    have F_158 := F_130.keep K_139
    have F_159 := F_131.keep K_139 (ninS ne_as11_ub_82 (ninS ne_as11_ad19 nin0))
    have F_160 := F_132.keep K_139 (ninS ne_as11_ub_82 (ninS ne_as11_ad19 nin0))
    have F_161 := F_133.keep K_139 (ninS ne_bs11_ub_82 (ninS ne_bs11_ad19 nin0))
    have F_162 := F_134.keep K_139
    have F_163 := A26.keep K_139
    have F_164 := C26.keep K_139 (ninS (Ne.symm ne_ub_82_as26) (ninS (Ne.symm ne_ad19_as26) nin0))
    have F_165 := F26.keep K_139 (ninS (Ne.symm ne_ub_82_as26) (ninS (Ne.symm ne_ad19_as26) nin0))
    have F_166 := V26.keep K_139 (ninS (Ne.symm ne_ub_82_bs26) (ninS (Ne.symm ne_ad19_bs26) nin0))
    refine gAloadN X w d13_31 rfl rfl (n := 32) rfl ?_
    refine gGetF X w (own_wd hw 64 rfl) Via.refl F_142 d13_32 (n := 35) rfl ?_
    intro T X
    refine gCallVv X w [(.ref s0)] [(.ref ad0)] F_162 (own_bps l Z a0 hw ad19 s0 vb ub_82 hb (([] : List Value) ++ [(.int (91 : Int32))]) rs2_139 cs h_139 n0 (Sd.le X) F_162 Q1_139 Q2_139 Q3_139 Q0_139 F_144 F_145 F_146 F_147 F_148 (by first | assumption | decide | (simp; done) | omega) (by first | assumption | decide) (by first | assumption | decide) hfh (by first | assumption | (simp only [List.length_append, List.length_cons, List.length_nil]; omega)) ne_vb_ub_82 ne_s0_ub_82 ne_ad19_ub_82 ne_s0_ad19 ne_vb_ad19 F_110 F_109) (own_wd hw 125 rfl) (own_wd hw 126 rfl) (fun vm0 hS => notFace_of_selects (args := #[]) (mvT (State.Warmed39.trans w.2.2.1 hS.1) (own_wd hw 128 rfl))) (own_wd hw 128 rfl) (own_wd hw 127 rfl) (own_wd hw 75 rfl) (own_wd hw 129 rfl) (by decide) own_pd31 rfl rfl d13_35 rfl (W := 1) (Nat.le_of_eq rfl) (by decide) (by decide) (by decide) (by decide) (n := 38) rfl ?_
    rintro T h_167 _ ⟨K_167, rs2_167, rfl, Q0_167, Q1_167, Q2_167, Q3_167, hlen_167, hfu_167⟩ X
    have F_168 := F_140.trans K_167 (allS (Or.inr F_83) (allS (Or.inr F_56) all0))
    have F_169 := F_141.keep K_167
    have F_170 := F_142.keep K_167 (ninS ne_a_ub_82 (ninS ne_a_ad19 nin0))
    have F_171 := F_143.keep K_167 (ninS ne_a_ub_82 (ninS ne_a_ad19 nin0))
    have F_172 := F_144.keep K_167
    have F_173 := F_145.keep K_167 (ninS ne_s0_ub_82 (ninS ne_s0_ad19 nin0))
    have F_174 := F_146.keep K_167 (ninS ne_s0_ub_82 (ninS ne_s0_ad19 nin0))
    have F_175 := F_147.keep K_167 (ninS ne_vb_ub_82 (ninS ne_vb_ad19 nin0))
    have F_176 := staKeep F_148 K_167 (allS (Av.nostat Q0_139) (allS (Exa.nostat F_162) all0))
    have F_177 := staKeep F_149 K_167 (allS (Av.nostat Q0_139) (allS (Exa.nostat F_162) all0))
    have F_178 := staKeep F_150 K_167 (allS (Av.nostat Q0_139) (allS (Exa.nostat F_162) all0))
    have F_179 := F_151.keep K_167 (ninS ne_on_ub_82 (ninS ne_on_ad19 nin0))
    have F_180 := F_152.keep K_167 (ninS ne_te_ub_82 (ninS ne_te_ad19 nin0))
    have F_181 := F_153.keep K_167
    have F_182 := F_154.keep K_167 (ninS ne_ad0_ub_82 (ninS ne_ad0_ad19 nin0))
    have F_183 := F_155.keep K_167 (ninS ne_ad0_ub_82 (ninS ne_ad0_ad19 nin0))
    have F_184 := F_156.keep K_167 (ninS ne_ad0_ub_82 (ninS ne_ad0_ad19 nin0))
    have F_185 := F_157.keep K_167 (ninS ne_ub_18_ub_82 (ninS ne_ub_18_ad19 nin0))
    have F_186 := F_158.keep K_167
    have F_187 := F_159.keep K_167 (ninS ne_as11_ub_82 (ninS ne_as11_ad19 nin0))
    have F_188 := F_160.keep K_167 (ninS ne_as11_ub_82 (ninS ne_as11_ad19 nin0))
    have F_189 := F_161.keep K_167 (ninS ne_bs11_ub_82 (ninS ne_bs11_ad19 nin0))
    have F_190 := F_162.keep K_167
    have F_191 := F_163.keep K_167
    have F_192 := F_164.keep K_167 (ninS (Ne.symm ne_ub_82_as26) (ninS (Ne.symm ne_ad19_as26) nin0))
    have F_193 := F_165.keep K_167 (ninS (Ne.symm ne_ub_82_as26) (ninS (Ne.symm ne_ad19_as26) nin0))
    have F_194 := F_166.keep K_167 (ninS (Ne.symm ne_ub_82_bs26) (ninS (Ne.symm ne_ad19_bs26) nin0))
    refine gLdcH X w (own_wd hw 257 rfl) (own_str hw) (own_ew hw) (List.mem_of_getElem? (i := 1) rfl) (vs := [(.int (93 : Int32))]) ⟨by decide, by first | rfl | decide⟩ (by decide) d13_38 (k := 4) (by decide) (by decide) (by decide) (by decide) (n := 40) rfl ?_
    intro T hp38 as38 bs38 D38 X E38 A38 C38 F38 V38 R38
    obtain ⟨F_195, ne_ad0_as38, ne_ad0_bs38⟩ := R38 F_107 F_181.lt
    obtain ⟨F_196, ne_ub_18_as38, ne_ub_18_bs38⟩ := R38 F_108 F_185.lt
    obtain ⟨F_197, ne_ad19_as38, ne_ad19_bs38⟩ := R38 F_109 F_190.lt
    obtain ⟨F_198, ne_ub_82_as38, ne_ub_82_bs38⟩ := R38 F_110 Q0_167.lt
    have F_199 : ∀ {x : Addr}, (n0 ≤ x ∧ ¬ D x) → x < h0.size → (n0 ≤ x ∧ ¬ D38 x) := fun hx hl => (R38 (F_111 hx hl) (Nat.lt_of_lt_of_le hl F_168.1)).1
    have F_200 := F_168.ext E38
    have F_201 := F_169.ext E38
    have F_202 := F_170.ext E38
    have F_203 := F_171.ext E38
    have F_204 := F_172.ext E38
    have F_205 := F_173.ext E38
    have F_206 := F_174.ext E38
    have F_207 := F_175.ext E38
    have F_208 := F_176.ext E38
    have F_209 := F_177.ext E38
    have F_210 := F_178.ext E38
    have F_211 := F_179.ext E38
    have F_212 := F_180.ext E38
    have F_213 := F_181.ext E38
    have F_214 := F_182.ext E38
    have F_215 := F_183.ext E38
    have F_216 := F_184.ext E38
    have F_217 := F_185.ext E38
    have F_218 := F_186.ext E38
    have F_219 := F_187.ext E38
    have F_220 := F_188.ext E38
    have F_221 := F_189.ext E38
    have F_222 := F_190.ext E38
    have F_223 := F_191.ext E38
    have F_224 := F_192.ext E38
    have F_225 := F_193.ext E38
    have F_226 := F_194.ext E38
    have F_227 := Q0_167.ext E38
    have F_228 := Q1_167.ext E38
    have F_229 := Q2_167.ext E38
    have F_230 := Q3_167.ext E38
    refine gCallVv X w [(.ref as38)] [(.ref ad0)] F_222 (own_bps l Z a0 hw ad19 as38 bs38 ub_82 [(.int (93 : Int32))] ((([] : List Value) ++ [(.int (91 : Int32))]) ++ hb) rs2_167 cs hp38 n0 (Sd.le X) F_222 F_228 F_229 F_230 F_227 A38 F38 C38 V38 F_208 (by first | assumption | decide | (simp; done) | omega) (by first | assumption | decide) (by first | assumption | decide) (own_fit1 _ (by decide)) (by first | assumption | (simp only [List.length_append, List.length_cons, List.length_nil]; omega)) (Ne.symm ne_ub_82_bs38) (Ne.symm ne_ub_82_as38) ne_ad19_ub_82 (Ne.symm ne_ad19_as38) (Ne.symm ne_ad19_bs38) F_198 F_197) (own_wd hw 125 rfl) (own_wd hw 126 rfl) (fun vm0 hS => notFace_of_selects (args := #[]) (mvT (State.Warmed39.trans w.2.2.1 hS.1) (own_wd hw 128 rfl))) (own_wd hw 128 rfl) (own_wd hw 127 rfl) (own_wd hw 75 rfl) (own_wd hw 129 rfl) (by decide) own_pd31 rfl rfl d13_40 rfl (W := 1) (Nat.le_of_eq rfl) (by decide) (by decide) (by decide) (by decide) (n := 43) rfl ?_
    rintro T h_231 _ ⟨K_231, rs2_231, rfl, Q0_231, Q1_231, Q2_231, Q3_231, hlen_231, hfu_231⟩ X
    have F_232 := F_200.trans K_231 (allS (Or.inr F_83) (allS (Or.inr F_56) all0))
    have F_233 := F_201.keep K_231
    have F_234 := F_202.keep K_231 (ninS ne_a_ub_82 (ninS ne_a_ad19 nin0))
    have F_235 := F_203.keep K_231 (ninS ne_a_ub_82 (ninS ne_a_ad19 nin0))
    have F_236 := F_204.keep K_231
    have F_237 := F_205.keep K_231 (ninS ne_s0_ub_82 (ninS ne_s0_ad19 nin0))
    have F_238 := F_206.keep K_231 (ninS ne_s0_ub_82 (ninS ne_s0_ad19 nin0))
    have F_239 := F_207.keep K_231 (ninS ne_vb_ub_82 (ninS ne_vb_ad19 nin0))
    have F_240 := staKeep F_208 K_231 (allS (Av.nostat F_227) (allS (Exa.nostat F_222) all0))
    have F_241 := staKeep F_209 K_231 (allS (Av.nostat F_227) (allS (Exa.nostat F_222) all0))
    have F_242 := staKeep F_210 K_231 (allS (Av.nostat F_227) (allS (Exa.nostat F_222) all0))
    have F_243 := F_211.keep K_231 (ninS ne_on_ub_82 (ninS ne_on_ad19 nin0))
    have F_244 := F_212.keep K_231 (ninS ne_te_ub_82 (ninS ne_te_ad19 nin0))
    have F_245 := F_213.keep K_231
    have F_246 := F_214.keep K_231 (ninS ne_ad0_ub_82 (ninS ne_ad0_ad19 nin0))
    have F_247 := F_215.keep K_231 (ninS ne_ad0_ub_82 (ninS ne_ad0_ad19 nin0))
    have F_248 := F_216.keep K_231 (ninS ne_ad0_ub_82 (ninS ne_ad0_ad19 nin0))
    have F_249 := F_217.keep K_231 (ninS ne_ub_18_ub_82 (ninS ne_ub_18_ad19 nin0))
    have F_250 := F_218.keep K_231
    have F_251 := F_219.keep K_231 (ninS ne_as11_ub_82 (ninS ne_as11_ad19 nin0))
    have F_252 := F_220.keep K_231 (ninS ne_as11_ub_82 (ninS ne_as11_ad19 nin0))
    have F_253 := F_221.keep K_231 (ninS ne_bs11_ub_82 (ninS ne_bs11_ad19 nin0))
    have F_254 := F_222.keep K_231
    have F_255 := F_223.keep K_231
    have F_256 := F_224.keep K_231 (ninS (Ne.symm ne_ub_82_as26) (ninS (Ne.symm ne_ad19_as26) nin0))
    have F_257 := F_225.keep K_231 (ninS (Ne.symm ne_ub_82_as26) (ninS (Ne.symm ne_ad19_as26) nin0))
    have F_258 := F_226.keep K_231 (ninS (Ne.symm ne_ub_82_bs26) (ninS (Ne.symm ne_ad19_bs26) nin0))
    have F_259 := A38.keep K_231
    have F_260 := C38.keep K_231 (ninS (Ne.symm ne_ub_82_as38) (ninS (Ne.symm ne_ad19_as38) nin0))
    have F_261 := F38.keep K_231 (ninS (Ne.symm ne_ub_82_as38) (ninS (Ne.symm ne_ad19_as38) nin0))
    have F_262 := V38.keep K_231 (ninS (Ne.symm ne_ub_82_bs38) (ninS (Ne.symm ne_ad19_bs38) nin0))
    refine gCallVv X w [] [(.ref ad0)] F_254 (own_bts l Z a0 hw ad19 ub_82 (((([] : List Value) ++ [(.int (91 : Int32))]) ++ hb) ++ [(.int (93 : Int32))]) rs2_231 cs h_231 n0 (Sd.le X) F_254 Q1_231 Q2_231 Q3_231 Q0_231 F_240 (by first | assumption | decide | (simp; done) | omega) (by first | assumption | decide) (by first | assumption | decide) (by first | assumption | (simp only [List.length_append, List.length_cons, List.length_nil]; omega))) (own_wd hw 185 rfl) (own_wd hw 186 rfl) (fun vm0 hS => notFace_of_selects (args := #[]) (mvT (State.Warmed39.trans w.2.2.1 hS.1) (own_wd hw 188 rfl))) (own_wd hw 188 rfl) (own_wd hw 187 rfl) (own_wd hw 75 rfl) (own_wd hw 189 rfl) (by decide) own_pd24 rfl rfl d13_43 rfl (W := 1) (Nat.le_of_eq rfl) (by decide) (by decide) (by decide) (by decide) (n := 46) rfl ?_
    rintro T h_263 _ ⟨K_263, s0_263, nb_263, rfl, g_s0_263, na_s0_263, g_nb_263, na_nb_263, ne_s0_263_nb_263, Q0_263, Q1_263, Q2_263, Q3_263, Q4_263⟩ X
    have F_264 := Nat.le_trans F_232.1 g_s0_263
    have ne_a_s0_263 : a ≠ s0_263 := neOf F_233.lt g_s0_263
    have ne_s0_s0_263 : s0 ≠ s0_263 := neOf F_236.lt g_s0_263
    have ne_vb_s0_263 : vb ≠ s0_263 := neOf F_239.lt g_s0_263
    have ne_on_s0_263 : on ≠ s0_263 := neOf F_243.lt g_s0_263
    have ne_te_s0_263 : te ≠ s0_263 := neOf F_244.lt g_s0_263
    have ne_ad0_s0_263 : ad0 ≠ s0_263 := neOf F_245.lt g_s0_263
    have ne_ub_18_s0_263 : ub_18 ≠ s0_263 := neOf F_249.lt g_s0_263
    have ne_as11_s0_263 : as11 ≠ s0_263 := neOf F_250.lt g_s0_263
    have ne_bs11_s0_263 : bs11 ≠ s0_263 := neOf F_253.lt g_s0_263
    have ne_ad19_s0_263 : ad19 ≠ s0_263 := neOf F_254.lt g_s0_263
    have ne_as26_s0_263 : as26 ≠ s0_263 := neOf F_255.lt g_s0_263
    have ne_bs26_s0_263 : bs26 ≠ s0_263 := neOf F_258.lt g_s0_263
    have ne_as38_s0_263 : as38 ≠ s0_263 := neOf F_259.lt g_s0_263
    have ne_bs38_s0_263 : bs38 ≠ s0_263 := neOf F_262.lt g_s0_263
    have ne_ub_82_s0_263 : ub_82 ≠ s0_263 := neOf Q0_231.lt g_s0_263
    have F_265 := Nat.le_trans F_232.1 g_nb_263
    have ne_a_nb_263 : a ≠ nb_263 := neOf F_233.lt g_nb_263
    have ne_s0_nb_263 : s0 ≠ nb_263 := neOf F_236.lt g_nb_263
    have ne_vb_nb_263 : vb ≠ nb_263 := neOf F_239.lt g_nb_263
    have ne_on_nb_263 : on ≠ nb_263 := neOf F_243.lt g_nb_263
    have ne_te_nb_263 : te ≠ nb_263 := neOf F_244.lt g_nb_263
    have ne_ad0_nb_263 : ad0 ≠ nb_263 := neOf F_245.lt g_nb_263
    have ne_ub_18_nb_263 : ub_18 ≠ nb_263 := neOf F_249.lt g_nb_263
    have ne_as11_nb_263 : as11 ≠ nb_263 := neOf F_250.lt g_nb_263
    have ne_bs11_nb_263 : bs11 ≠ nb_263 := neOf F_253.lt g_nb_263
    have ne_ad19_nb_263 : ad19 ≠ nb_263 := neOf F_254.lt g_nb_263
    have ne_as26_nb_263 : as26 ≠ nb_263 := neOf F_255.lt g_nb_263
    have ne_bs26_nb_263 : bs26 ≠ nb_263 := neOf F_258.lt g_nb_263
    have ne_as38_nb_263 : as38 ≠ nb_263 := neOf F_259.lt g_nb_263
    have ne_bs38_nb_263 : bs38 ≠ nb_263 := neOf F_262.lt g_nb_263
    have ne_ub_82_nb_263 : ub_82 ≠ nb_263 := neOf Q0_231.lt g_nb_263
    have F_266 := F_232.trans K_263 all0
    have F_267 := F_233.keep K_263
    have F_268 := F_234.keep K_263 nin0
    have F_269 := F_235.keep K_263 nin0
    have F_270 := F_236.keep K_263
    have F_271 := F_237.keep K_263 nin0
    have F_272 := F_238.keep K_263 nin0
    have F_273 := F_239.keep K_263 nin0
    have F_274 := staKeep F_240 K_263 all0
    have F_275 := staKeep F_241 K_263 all0
    have F_276 := staKeep F_242 K_263 all0
    have F_277 := F_243.keep K_263 nin0
    have F_278 := F_244.keep K_263 nin0
    have F_279 := F_245.keep K_263
    have F_280 := F_246.keep K_263 nin0
    have F_281 := F_247.keep K_263 nin0
    have F_282 := F_248.keep K_263 nin0
    have F_283 := F_249.keep K_263 nin0
    have F_284 := F_250.keep K_263
    have F_285 := F_251.keep K_263 nin0
    have F_286 := F_252.keep K_263 nin0
    have F_287 := F_253.keep K_263 nin0
    have F_288 := F_254.keep K_263
    have F_289 := F_255.keep K_263
    have F_290 := F_256.keep K_263 nin0
    have F_291 := F_257.keep K_263 nin0
    have F_292 := F_258.keep K_263 nin0
    have F_293 := F_259.keep K_263
    have F_294 := F_260.keep K_263 nin0
    have F_295 := F_261.keep K_263 nin0
    have F_296 := F_262.keep K_263 nin0
    have F_297 := Q0_231.keep K_263 nin0
    have F_298 := Q1_231.keep K_263 nin0
    have F_299 := Q2_231.keep K_263 nin0
    have F_300 := Q3_231.keep K_263 nin0
    refine gGoto X w d13_46 (by decide) (n := 53) rfl ?_
    refine gCallVv X w [(.ref s0_263)] [] F_279 (own_bps l Z a0 hw ad0 s0_263 nb_263 ub_18 (((([] : List Value) ++ [(.int (91 : Int32))]) ++ hb) ++ [(.int (93 : Int32))]) ([] : List Value) own_z16 cs h_263 n0 (Sd.le X) F_279 F_280 F_281 F_282 F_283 Q0_263 Q1_263 Q2_263 Q3_263 F_274 (by first | assumption | decide | (simp; done) | omega) (by first | assumption | decide) (by first | assumption | decide) (own_fit3 hfh) (by first | assumption | (simp only [List.length_append, List.length_cons, List.length_nil]; omega)) (Ne.symm ne_ub_18_nb_263) (Ne.symm ne_ub_18_s0_263) ne_ad0_ub_18 (Ne.symm ne_ad0_s0_263) (Ne.symm ne_ad0_nb_263) F_196 F_195) (own_wd hw 125 rfl) (own_wd hw 126 rfl) (fun vm0 hS => notFace_of_selects (args := #[]) (mvT (State.Warmed39.trans w.2.2.1 hS.1) (own_wd hw 128 rfl))) (own_wd hw 128 rfl) (own_wd hw 127 rfl) (own_wd hw 75 rfl) (own_wd hw 129 rfl) (by decide) own_pd31 rfl rfl d13_53 rfl (W := 0) (Nat.le_of_eq rfl) (by decide) (by decide) (by decide) (by decide) (n := 56) rfl ?_
    rintro T h_301 _ ⟨K_301, rs2_301, rfl, Q0_301, Q1_301, Q2_301, Q3_301, hlen_301, hfu_301⟩ X
    have F_302 := F_266.trans K_301 (allS (Or.inr F_19) (allS (Or.inr F_1) all0))
    have F_303 := F_267.keep K_301
    have F_304 := F_268.keep K_301 (ninS ne_a_ub_18 (ninS ne_a_ad0 nin0))
    have F_305 := F_269.keep K_301 (ninS ne_a_ub_18 (ninS ne_a_ad0 nin0))
    have F_306 := F_270.keep K_301
    have F_307 := F_271.keep K_301 (ninS ne_s0_ub_18 (ninS ne_s0_ad0 nin0))
    have F_308 := F_272.keep K_301 (ninS ne_s0_ub_18 (ninS ne_s0_ad0 nin0))
    have F_309 := F_273.keep K_301 (ninS ne_vb_ub_18 (ninS ne_vb_ad0 nin0))
    have F_310 := staKeep F_274 K_301 (allS (Av.nostat F_283) (allS (Exa.nostat F_279) all0))
    have F_311 := staKeep F_275 K_301 (allS (Av.nostat F_283) (allS (Exa.nostat F_279) all0))
    have F_312 := staKeep F_276 K_301 (allS (Av.nostat F_283) (allS (Exa.nostat F_279) all0))
    have F_313 := F_277.keep K_301 (ninS ne_on_ub_18 (ninS ne_on_ad0 nin0))
    have F_314 := F_278.keep K_301 (ninS ne_te_ub_18 (ninS ne_te_ad0 nin0))
    have F_315 := F_279.keep K_301
    have F_316 := F_284.keep K_301
    have F_317 := F_285.keep K_301 (ninS (Ne.symm ne_ub_18_as11) (ninS (Ne.symm ne_ad0_as11) nin0))
    have F_318 := F_286.keep K_301 (ninS (Ne.symm ne_ub_18_as11) (ninS (Ne.symm ne_ad0_as11) nin0))
    have F_319 := F_287.keep K_301 (ninS (Ne.symm ne_ub_18_bs11) (ninS (Ne.symm ne_ad0_bs11) nin0))
    have F_320 := F_288.keep K_301
    have F_321 := F_289.keep K_301
    have F_322 := F_290.keep K_301 (ninS (Ne.symm ne_ub_18_as26) (ninS (Ne.symm ne_ad0_as26) nin0))
    have F_323 := F_291.keep K_301 (ninS (Ne.symm ne_ub_18_as26) (ninS (Ne.symm ne_ad0_as26) nin0))
    have F_324 := F_292.keep K_301 (ninS (Ne.symm ne_ub_18_bs26) (ninS (Ne.symm ne_ad0_bs26) nin0))
    have F_325 := F_293.keep K_301
    have F_326 := F_294.keep K_301 (ninS (Ne.symm ne_ub_18_as38) (ninS (Ne.symm ne_ad0_as38) nin0))
    have F_327 := F_295.keep K_301 (ninS (Ne.symm ne_ub_18_as38) (ninS (Ne.symm ne_ad0_as38) nin0))
    have F_328 := F_296.keep K_301 (ninS (Ne.symm ne_ub_18_bs38) (ninS (Ne.symm ne_ad0_bs38) nin0))
    have F_329 := F_297.keep K_301 (ninS (Ne.symm ne_ub_18_ub_82) (ninS (Ne.symm ne_ad0_ub_82) nin0))
    have F_330 := F_298.keep K_301 (ninS (Ne.symm ne_ub_18_ad19) (ninS (Ne.symm ne_ad0_ad19) nin0))
    have F_331 := F_299.keep K_301 (ninS (Ne.symm ne_ub_18_ad19) (ninS (Ne.symm ne_ad0_ad19) nin0))
    have F_332 := F_300.keep K_301 (ninS (Ne.symm ne_ub_18_ad19) (ninS (Ne.symm ne_ad0_ad19) nin0))
    have F_333 := Q0_263.keep K_301
    have F_334 := Q1_263.keep K_301 (ninS (Ne.symm ne_ub_18_s0_263) (ninS (Ne.symm ne_ad0_s0_263) nin0))
    have F_335 := Q2_263.keep K_301 (ninS (Ne.symm ne_ub_18_s0_263) (ninS (Ne.symm ne_ad0_s0_263) nin0))
    have F_336 := Q3_263.keep K_301 (ninS (Ne.symm ne_ub_18_nb_263) (ninS (Ne.symm ne_ad0_nb_263) nin0))
    have F_337 := Q4_263.keep K_301
    refine gLdcH X w (own_wd hw 91 rfl) (own_str hw) (own_ew hw) (List.mem_of_getElem? (i := 2) rfl) (vs := [(.int (58 : Int32))]) ⟨by decide, by first | rfl | decide⟩ (by decide) d13_56 (k := 4) (by decide) (by decide) (by decide) (by decide) (n := 58) rfl ?_
    intro T hp56 as56 bs56 D56 X E56 A56 C56 F56 V56 R56
    obtain ⟨F_338, ne_ad0_as56, ne_ad0_bs56⟩ := R56 F_195 F_315.lt
    obtain ⟨F_339, ne_ub_18_as56, ne_ub_18_bs56⟩ := R56 F_196 Q0_301.lt
    obtain ⟨F_340, ne_ad19_as56, ne_ad19_bs56⟩ := R56 F_197 F_320.lt
    obtain ⟨F_341, ne_ub_82_as56, ne_ub_82_bs56⟩ := R56 F_198 F_329.lt
    obtain ⟨F_342, ne_s0_263_as56, ne_s0_263_bs56⟩ := R56 na_s0_263 F_333.lt
    obtain ⟨F_343, ne_nb_263_as56, ne_nb_263_bs56⟩ := R56 na_nb_263 F_336.lt
    have F_344 : ∀ {x : Addr}, (n0 ≤ x ∧ ¬ D x) → x < h0.size → (n0 ≤ x ∧ ¬ D56 x) := fun hx hl => (R56 (F_199 hx hl) (Nat.lt_of_lt_of_le hl F_302.1)).1
    have F_345 := F_302.ext E56
    have F_346 := F_303.ext E56
    have F_347 := F_304.ext E56
    have F_348 := F_305.ext E56
    have F_349 := F_306.ext E56
    have F_350 := F_307.ext E56
    have F_351 := F_308.ext E56
    have F_352 := F_309.ext E56
    have F_353 := F_310.ext E56
    have F_354 := F_311.ext E56
    have F_355 := F_312.ext E56
    have F_356 := F_313.ext E56
    have F_357 := F_314.ext E56
    have F_358 := F_315.ext E56
    have F_359 := F_316.ext E56
    have F_360 := F_317.ext E56
    have F_361 := F_318.ext E56
    have F_362 := F_319.ext E56
    have F_363 := F_320.ext E56
    have F_364 := F_321.ext E56
    have F_365 := F_322.ext E56
    have F_366 := F_323.ext E56
    have F_367 := F_324.ext E56
    have F_368 := F_325.ext E56
    have F_369 := F_326.ext E56
    have F_370 := F_327.ext E56
    have F_371 := F_328.ext E56
    have F_372 := F_329.ext E56
    have F_373 := F_330.ext E56
    have F_374 := F_331.ext E56
    have F_375 := F_332.ext E56
    have F_376 := F_333.ext E56
    have F_377 := F_334.ext E56
    have F_378 := F_335.ext E56
    have F_379 := F_336.ext E56
    have F_380 := F_337.ext E56
    have F_381 := Q0_301.ext E56
    have F_382 := Q1_301.ext E56
    have F_383 := Q2_301.ext E56
    have F_384 := Q3_301.ext E56
    refine gCallVv X w [(.ref as56)] [] F_358 (own_bps l Z a0 hw ad0 as56 bs56 ub_18 [(.int (58 : Int32))] (([] : List Value) ++ (((([] : List Value) ++ [(.int (91 : Int32))]) ++ hb) ++ [(.int (93 : Int32))])) rs2_301 cs hp56 n0 (Sd.le X) F_358 F_382 F_383 F_384 F_381 A56 F56 C56 V56 F_353 (by first | assumption | decide | (simp; done) | omega) (by first | assumption | decide) (by first | assumption | decide) (own_fit1 _ (by decide)) (by first | assumption | (simp only [List.length_append, List.length_cons, List.length_nil]; omega)) (Ne.symm ne_ub_18_bs56) (Ne.symm ne_ub_18_as56) ne_ad0_ub_18 (Ne.symm ne_ad0_as56) (Ne.symm ne_ad0_bs56) F_339 F_338) (own_wd hw 125 rfl) (own_wd hw 126 rfl) (fun vm0 hS => notFace_of_selects (args := #[]) (mvT (State.Warmed39.trans w.2.2.1 hS.1) (own_wd hw 128 rfl))) (own_wd hw 128 rfl) (own_wd hw 127 rfl) (own_wd hw 75 rfl) (own_wd hw 129 rfl) (by decide) own_pd31 rfl rfl d13_58 rfl (W := 0) (Nat.le_of_eq rfl) (by decide) (by decide) (by decide) (by decide) (n := 61) rfl ?_
    rintro T h_385 _ ⟨K_385, rs2_385, rfl, Q0_385, Q1_385, Q2_385, Q3_385, hlen_385, hfu_385⟩ X
    have F_386 := F_345.trans K_385 (allS (Or.inr F_19) (allS (Or.inr F_1) all0))
    have F_387 := F_346.keep K_385
    have F_388 := F_347.keep K_385 (ninS ne_a_ub_18 (ninS ne_a_ad0 nin0))
    have F_389 := F_348.keep K_385 (ninS ne_a_ub_18 (ninS ne_a_ad0 nin0))
    have F_390 := F_349.keep K_385
    have F_391 := F_350.keep K_385 (ninS ne_s0_ub_18 (ninS ne_s0_ad0 nin0))
    have F_392 := F_351.keep K_385 (ninS ne_s0_ub_18 (ninS ne_s0_ad0 nin0))
    have F_393 := F_352.keep K_385 (ninS ne_vb_ub_18 (ninS ne_vb_ad0 nin0))
    have F_394 := staKeep F_353 K_385 (allS (Av.nostat F_381) (allS (Exa.nostat F_358) all0))
    have F_395 := staKeep F_354 K_385 (allS (Av.nostat F_381) (allS (Exa.nostat F_358) all0))
    have F_396 := staKeep F_355 K_385 (allS (Av.nostat F_381) (allS (Exa.nostat F_358) all0))
    have F_397 := F_356.keep K_385 (ninS ne_on_ub_18 (ninS ne_on_ad0 nin0))
    have F_398 := F_357.keep K_385 (ninS ne_te_ub_18 (ninS ne_te_ad0 nin0))
    have F_399 := F_358.keep K_385
    have F_400 := F_359.keep K_385
    have F_401 := F_360.keep K_385 (ninS (Ne.symm ne_ub_18_as11) (ninS (Ne.symm ne_ad0_as11) nin0))
    have F_402 := F_361.keep K_385 (ninS (Ne.symm ne_ub_18_as11) (ninS (Ne.symm ne_ad0_as11) nin0))
    have F_403 := F_362.keep K_385 (ninS (Ne.symm ne_ub_18_bs11) (ninS (Ne.symm ne_ad0_bs11) nin0))
    have F_404 := F_363.keep K_385
    have F_405 := F_364.keep K_385
    have F_406 := F_365.keep K_385 (ninS (Ne.symm ne_ub_18_as26) (ninS (Ne.symm ne_ad0_as26) nin0))
    have F_407 := F_366.keep K_385 (ninS (Ne.symm ne_ub_18_as26) (ninS (Ne.symm ne_ad0_as26) nin0))
    have F_408 := F_367.keep K_385 (ninS (Ne.symm ne_ub_18_bs26) (ninS (Ne.symm ne_ad0_bs26) nin0))
    have F_409 := F_368.keep K_385
    have F_410 := F_369.keep K_385 (ninS (Ne.symm ne_ub_18_as38) (ninS (Ne.symm ne_ad0_as38) nin0))
    have F_411 := F_370.keep K_385 (ninS (Ne.symm ne_ub_18_as38) (ninS (Ne.symm ne_ad0_as38) nin0))
    have F_412 := F_371.keep K_385 (ninS (Ne.symm ne_ub_18_bs38) (ninS (Ne.symm ne_ad0_bs38) nin0))
    have F_413 := F_372.keep K_385 (ninS (Ne.symm ne_ub_18_ub_82) (ninS (Ne.symm ne_ad0_ub_82) nin0))
    have F_414 := F_373.keep K_385 (ninS (Ne.symm ne_ub_18_ad19) (ninS (Ne.symm ne_ad0_ad19) nin0))
    have F_415 := F_374.keep K_385 (ninS (Ne.symm ne_ub_18_ad19) (ninS (Ne.symm ne_ad0_ad19) nin0))
    have F_416 := F_375.keep K_385 (ninS (Ne.symm ne_ub_18_ad19) (ninS (Ne.symm ne_ad0_ad19) nin0))
    have F_417 := F_376.keep K_385
    have F_418 := F_377.keep K_385 (ninS (Ne.symm ne_ub_18_s0_263) (ninS (Ne.symm ne_ad0_s0_263) nin0))
    have F_419 := F_378.keep K_385 (ninS (Ne.symm ne_ub_18_s0_263) (ninS (Ne.symm ne_ad0_s0_263) nin0))
    have F_420 := F_379.keep K_385 (ninS (Ne.symm ne_ub_18_nb_263) (ninS (Ne.symm ne_ad0_nb_263) nin0))
    have F_421 := F_380.keep K_385
    have F_422 := A56.keep K_385
    have F_423 := C56.keep K_385 (ninS (Ne.symm ne_ub_18_as56) (ninS (Ne.symm ne_ad0_as56) nin0))
    have F_424 := F56.keep K_385 (ninS (Ne.symm ne_ub_18_as56) (ninS (Ne.symm ne_ad0_as56) nin0))
    have F_425 := V56.keep K_385 (ninS (Ne.symm ne_ub_18_bs56) (ninS (Ne.symm ne_ad0_bs56) nin0))
    refine gAloadN X w d13_61 rfl rfl (n := 62) rfl ?_
    refine gGetF X w (own_wd hw 66 rfl) Via.refl F_389 d13_62 (n := 65) rfl ?_
    intro T X
    refine gCallVv X w [(.int pt)] [] F_399 (own_bpi l Z a0 hw ad0 pt ub_18 on te ons tes ((([] : List Value) ++ (((([] : List Value) ++ [(.int (91 : Int32))]) ++ hb) ++ [(.int (93 : Int32))])) ++ [(.int (58 : Int32))]) rs2_385 cs h_385 n0 (Sd.le X) F_399 Q1_385 Q2_385 Q3_385 Q0_385 F_395 F_396 F_397 F_398 F_394 (by first | assumption | decide | (simp; done) | omega) (by first | assumption | decide | (simp; done) | omega) (by first | assumption | decide | (simp; done) | omega) (by first | assumption | decide | (simp; done) | omega) (by first | assumption | decide) (by first | assumption | decide) (by first | assumption | (simp only [List.length_append, List.length_cons, List.length_nil]; omega)) ne_on_ub_18 ne_te_ub_18 ne_ad0_ub_18 ne_on_ad0 ne_te_ad0 F_339 F_338) (own_wd hw 163 rfl) (own_wd hw 164 rfl) (fun vm0 hS => notFace_of_selects (args := #[]) (mvT (State.Warmed39.trans w.2.2.1 hS.1) (own_wd hw 166 rfl))) (own_wd hw 166 rfl) (own_wd hw 165 rfl) (own_wd hw 75 rfl) (own_wd hw 167 rfl) (by decide) own_pd32 rfl rfl d13_65 rfl (W := 0) (Nat.le_of_eq rfl) (by decide) (by decide) (by decide) (by decide) (n := 68) rfl ?_
    rintro T h_426 _ ⟨K_426, rs2_426, rfl, Q0_426, Q1_426, Q2_426, Q3_426, hlen_426, hfu_426⟩ X
    have F_427 := F_386.trans K_426 (allS (Or.inr F_19) (allS (Or.inr F_1) all0))
    have F_428 := F_387.keep K_426
    have F_429 := F_388.keep K_426 (ninS ne_a_ub_18 (ninS ne_a_ad0 nin0))
    have F_430 := F_389.keep K_426 (ninS ne_a_ub_18 (ninS ne_a_ad0 nin0))
    have F_431 := F_390.keep K_426
    have F_432 := F_391.keep K_426 (ninS ne_s0_ub_18 (ninS ne_s0_ad0 nin0))
    have F_433 := F_392.keep K_426 (ninS ne_s0_ub_18 (ninS ne_s0_ad0 nin0))
    have F_434 := F_393.keep K_426 (ninS ne_vb_ub_18 (ninS ne_vb_ad0 nin0))
    have F_435 := staKeep F_394 K_426 (allS (Av.nostat Q0_385) (allS (Exa.nostat F_399) all0))
    have F_436 := staKeep F_395 K_426 (allS (Av.nostat Q0_385) (allS (Exa.nostat F_399) all0))
    have F_437 := staKeep F_396 K_426 (allS (Av.nostat Q0_385) (allS (Exa.nostat F_399) all0))
    have F_438 := F_397.keep K_426 (ninS ne_on_ub_18 (ninS ne_on_ad0 nin0))
    have F_439 := F_398.keep K_426 (ninS ne_te_ub_18 (ninS ne_te_ad0 nin0))
    have F_440 := F_399.keep K_426
    have F_441 := F_400.keep K_426
    have F_442 := F_401.keep K_426 (ninS (Ne.symm ne_ub_18_as11) (ninS (Ne.symm ne_ad0_as11) nin0))
    have F_443 := F_402.keep K_426 (ninS (Ne.symm ne_ub_18_as11) (ninS (Ne.symm ne_ad0_as11) nin0))
    have F_444 := F_403.keep K_426 (ninS (Ne.symm ne_ub_18_bs11) (ninS (Ne.symm ne_ad0_bs11) nin0))
    have F_445 := F_404.keep K_426
    have F_446 := F_405.keep K_426
    have F_447 := F_406.keep K_426 (ninS (Ne.symm ne_ub_18_as26) (ninS (Ne.symm ne_ad0_as26) nin0))
    have F_448 := F_407.keep K_426 (ninS (Ne.symm ne_ub_18_as26) (ninS (Ne.symm ne_ad0_as26) nin0))
    have F_449 := F_408.keep K_426 (ninS (Ne.symm ne_ub_18_bs26) (ninS (Ne.symm ne_ad0_bs26) nin0))
    have F_450 := F_409.keep K_426
    have F_451 := F_410.keep K_426 (ninS (Ne.symm ne_ub_18_as38) (ninS (Ne.symm ne_ad0_as38) nin0))
    have F_452 := F_411.keep K_426 (ninS (Ne.symm ne_ub_18_as38) (ninS (Ne.symm ne_ad0_as38) nin0))
    have F_453 := F_412.keep K_426 (ninS (Ne.symm ne_ub_18_bs38) (ninS (Ne.symm ne_ad0_bs38) nin0))
    have F_454 := F_413.keep K_426 (ninS (Ne.symm ne_ub_18_ub_82) (ninS (Ne.symm ne_ad0_ub_82) nin0))
    have F_455 := F_414.keep K_426 (ninS (Ne.symm ne_ub_18_ad19) (ninS (Ne.symm ne_ad0_ad19) nin0))
    have F_456 := F_415.keep K_426 (ninS (Ne.symm ne_ub_18_ad19) (ninS (Ne.symm ne_ad0_ad19) nin0))
    have F_457 := F_416.keep K_426 (ninS (Ne.symm ne_ub_18_ad19) (ninS (Ne.symm ne_ad0_ad19) nin0))
    have F_458 := F_417.keep K_426
    have F_459 := F_418.keep K_426 (ninS (Ne.symm ne_ub_18_s0_263) (ninS (Ne.symm ne_ad0_s0_263) nin0))
    have F_460 := F_419.keep K_426 (ninS (Ne.symm ne_ub_18_s0_263) (ninS (Ne.symm ne_ad0_s0_263) nin0))
    have F_461 := F_420.keep K_426 (ninS (Ne.symm ne_ub_18_nb_263) (ninS (Ne.symm ne_ad0_nb_263) nin0))
    have F_462 := F_421.keep K_426
    have F_463 := F_422.keep K_426
    have F_464 := F_423.keep K_426 (ninS (Ne.symm ne_ub_18_as56) (ninS (Ne.symm ne_ad0_as56) nin0))
    have F_465 := F_424.keep K_426 (ninS (Ne.symm ne_ub_18_as56) (ninS (Ne.symm ne_ad0_as56) nin0))
    have F_466 := F_425.keep K_426 (ninS (Ne.symm ne_ub_18_bs56) (ninS (Ne.symm ne_ad0_bs56) nin0))
    refine gCallVv X w [] [] F_440 (own_bts l Z a0 hw ad0 ub_18 (((([] : List Value) ++ (((([] : List Value) ++ [(.int (91 : Int32))]) ++ hb) ++ [(.int (93 : Int32))])) ++ [(.int (58 : Int32))]) ++ own_dl pt) rs2_426 cs h_426 n0 (Sd.le X) F_440 Q1_426 Q2_426 Q3_426 Q0_426 F_435 (by first | assumption | decide | (simp; done) | omega) (by first | assumption | decide) (by first | assumption | decide) (by first | assumption | (simp only [List.length_append, List.length_cons, List.length_nil]; omega))) (own_wd hw 185 rfl) (own_wd hw 186 rfl) (fun vm0 hS => notFace_of_selects (args := #[]) (mvT (State.Warmed39.trans w.2.2.1 hS.1) (own_wd hw 188 rfl))) (own_wd hw 188 rfl) (own_wd hw 187 rfl) (own_wd hw 75 rfl) (own_wd hw 189 rfl) (by decide) own_pd24 rfl rfl d13_68 rfl (W := 0) (Nat.le_of_eq rfl) (by decide) (by decide) (by decide) (by decide) (n := 71) rfl ?_
    rintro T h_467 _ ⟨K_467, s0_467, nb_467, rfl, g_s0_467, na_s0_467, g_nb_467, na_nb_467, ne_s0_467_nb_467, Q0_467, Q1_467, Q2_467, Q3_467, Q4_467⟩ X
    have F_468 := Nat.le_trans F_427.1 g_s0_467
    have ne_a_s0_467 : a ≠ s0_467 := neOf F_428.lt g_s0_467
    have ne_s0_s0_467 : s0 ≠ s0_467 := neOf F_431.lt g_s0_467
    have ne_vb_s0_467 : vb ≠ s0_467 := neOf F_434.lt g_s0_467
    have ne_on_s0_467 : on ≠ s0_467 := neOf F_438.lt g_s0_467
    have ne_te_s0_467 : te ≠ s0_467 := neOf F_439.lt g_s0_467
    have ne_ad0_s0_467 : ad0 ≠ s0_467 := neOf F_440.lt g_s0_467
    have ne_as11_s0_467 : as11 ≠ s0_467 := neOf F_441.lt g_s0_467
    have ne_bs11_s0_467 : bs11 ≠ s0_467 := neOf F_444.lt g_s0_467
    have ne_ad19_s0_467 : ad19 ≠ s0_467 := neOf F_445.lt g_s0_467
    have ne_as26_s0_467 : as26 ≠ s0_467 := neOf F_446.lt g_s0_467
    have ne_bs26_s0_467 : bs26 ≠ s0_467 := neOf F_449.lt g_s0_467
    have ne_as38_s0_467 : as38 ≠ s0_467 := neOf F_450.lt g_s0_467
    have ne_bs38_s0_467 : bs38 ≠ s0_467 := neOf F_453.lt g_s0_467
    have ne_ub_82_s0_467 : ub_82 ≠ s0_467 := neOf F_454.lt g_s0_467
    have ne_s0_263_s0_467 : s0_263 ≠ s0_467 := neOf F_458.lt g_s0_467
    have ne_nb_263_s0_467 : nb_263 ≠ s0_467 := neOf F_461.lt g_s0_467
    have ne_as56_s0_467 : as56 ≠ s0_467 := neOf F_463.lt g_s0_467
    have ne_bs56_s0_467 : bs56 ≠ s0_467 := neOf F_466.lt g_s0_467
    have ne_ub_18_s0_467 : ub_18 ≠ s0_467 := neOf Q0_426.lt g_s0_467
    have F_469 := Nat.le_trans F_427.1 g_nb_467
    have ne_a_nb_467 : a ≠ nb_467 := neOf F_428.lt g_nb_467
    have ne_s0_nb_467 : s0 ≠ nb_467 := neOf F_431.lt g_nb_467
    have ne_vb_nb_467 : vb ≠ nb_467 := neOf F_434.lt g_nb_467
    have ne_on_nb_467 : on ≠ nb_467 := neOf F_438.lt g_nb_467
    have ne_te_nb_467 : te ≠ nb_467 := neOf F_439.lt g_nb_467
    have ne_ad0_nb_467 : ad0 ≠ nb_467 := neOf F_440.lt g_nb_467
    have ne_as11_nb_467 : as11 ≠ nb_467 := neOf F_441.lt g_nb_467
    have ne_bs11_nb_467 : bs11 ≠ nb_467 := neOf F_444.lt g_nb_467
    have ne_ad19_nb_467 : ad19 ≠ nb_467 := neOf F_445.lt g_nb_467
    have ne_as26_nb_467 : as26 ≠ nb_467 := neOf F_446.lt g_nb_467
    have ne_bs26_nb_467 : bs26 ≠ nb_467 := neOf F_449.lt g_nb_467
    have ne_as38_nb_467 : as38 ≠ nb_467 := neOf F_450.lt g_nb_467
    have ne_bs38_nb_467 : bs38 ≠ nb_467 := neOf F_453.lt g_nb_467
    have ne_ub_82_nb_467 : ub_82 ≠ nb_467 := neOf F_454.lt g_nb_467
    have ne_s0_263_nb_467 : s0_263 ≠ nb_467 := neOf F_458.lt g_nb_467
    have ne_nb_263_nb_467 : nb_263 ≠ nb_467 := neOf F_461.lt g_nb_467
    have ne_as56_nb_467 : as56 ≠ nb_467 := neOf F_463.lt g_nb_467
    have ne_bs56_nb_467 : bs56 ≠ nb_467 := neOf F_466.lt g_nb_467
    have ne_ub_18_nb_467 : ub_18 ≠ nb_467 := neOf Q0_426.lt g_nb_467
    have F_470 := F_427.trans K_467 all0
    have F_471 := F_428.keep K_467
    have F_472 := F_429.keep K_467 nin0
    have F_473 := F_430.keep K_467 nin0
    have F_474 := F_431.keep K_467
    have F_475 := F_432.keep K_467 nin0
    have F_476 := F_433.keep K_467 nin0
    have F_477 := F_434.keep K_467 nin0
    have F_478 := staKeep F_435 K_467 all0
    have F_479 := staKeep F_436 K_467 all0
    have F_480 := staKeep F_437 K_467 all0
    have F_481 := F_438.keep K_467 nin0
    have F_482 := F_439.keep K_467 nin0
    have F_483 := F_440.keep K_467
    have F_484 := F_441.keep K_467
    have F_485 := F_442.keep K_467 nin0
    have F_486 := F_443.keep K_467 nin0
    have F_487 := F_444.keep K_467 nin0
    have F_488 := F_445.keep K_467
    have F_489 := F_446.keep K_467
    have F_490 := F_447.keep K_467 nin0
    have F_491 := F_448.keep K_467 nin0
    have F_492 := F_449.keep K_467 nin0
    have F_493 := F_450.keep K_467
    have F_494 := F_451.keep K_467 nin0
    have F_495 := F_452.keep K_467 nin0
    have F_496 := F_453.keep K_467 nin0
    have F_497 := F_454.keep K_467 nin0
    have F_498 := F_455.keep K_467 nin0
    have F_499 := F_456.keep K_467 nin0
    have F_500 := F_457.keep K_467 nin0
    have F_501 := F_458.keep K_467
    have F_502 := F_459.keep K_467 nin0
    have F_503 := F_460.keep K_467 nin0
    have F_504 := F_461.keep K_467 nin0
    have F_505 := F_462.keep K_467
    have F_506 := F_463.keep K_467
    have F_507 := F_464.keep K_467 nin0
    have F_508 := F_465.keep K_467 nin0
    have F_509 := F_466.keep K_467 nin0
    have F_510 := Q0_426.keep K_467 nin0
    have F_511 := Q1_426.keep K_467 nin0
    have F_512 := Q2_426.keep K_467 nin0
    have F_513 := Q3_426.keep K_467 nin0
    exact gRetA X w rfl rfl rfl d13_71 (by decide) (by decide) (⟨_, rfl, F_344, F_470, s0_467, nb_467, rfl, F_468, na_s0_467, F_469, na_nb_467, Q0_467, Q1_467, Q2_467, Q3_467⟩)
set_option maxRecDepth 65536 in
set_option maxHeartbeats 40000000 in
theorem own_hts_0 (l : Launch) (Z : State) (a0 : Array Value) (hw : ∀ d ∈ tables_1, d.before a0 Z = true) (a : Addr) (s0 : Addr) (pt : Int32) (vb : Addr) (hb : List Value) (cs : Int32) (on : Addr) (te : Addr) (ons : List Value) (tes : List Value) (h0 : Heap) (n0 : Nat) {D : Addr → Prop} (hn : n0 ≤ h0.size) (P0 : Exa Z h0 a "com/example/tidemark/tidemark/protocol/HostPort") (P1 : Fld Z h0 a "com/example/tidemark/tidemark/protocol/HostPort" "host" "Ljava/lang/String;" (.ref s0)) (P2 : Fld Z h0 a "com/example/tidemark/tidemark/protocol/HostPort" "port" "I" (.int pt)) (P3 : Exa Z h0 s0 "java/lang/String") (P4 : Fld Z h0 s0 "java/lang/String" "value" "[B" (.ref vb)) (P5 : Fld Z h0 s0 "java/lang/String" "coder" "B" (.int (0 : Int32))) (P6 : Av Z h0 vb .byte hb) (P7 : Sta Z h0 "java/lang/String" "COMPACT_STRINGS" "Z" (.int cs)) (P8 : Sta Z h0 "java/lang/Integer" "DigitOnes" "[B" (.ref on)) (P9 : Sta Z h0 "java/lang/Integer" "DigitTens" "[B" (.ref te)) (P10 : Av Z h0 on .byte ons) (P11 : Av Z h0 te .byte tes) (hcs : ¬ cs = 0) (hpt : 0 ≤ pt.toInt ∧ pt.toInt ≤ 65535) (hon : ∀ j : Int32, 0 ≤ j.toInt → j.toInt < 100 → ons[j.toInt.toNat]? = some (.int (48 + j % 10))) (hte : ∀ j : Int32, 0 ≤ j.toInt → j.toInt < 100 → tes[j.toInt.toNat]? = some (.int (48 + j / 10))) (hhb : (∃ y0, hb = [Value.int y0]) ∨ (∃ y0 y1, hb = [Value.int y0, Value.int y1]) ∨ (∃ y0 y1 y2, hb = [Value.int y0, Value.int y1, Value.int y2])) (hh3 : hb.length ≤ 3) (hfh : ∀ v ∈ hb, fits .byte v = true) (hbr : ¬ own_col hb) :
    ConVL l Z (⟨"com/example/tidemark/tidemark/protocol/HostPort", "toString", "()Ljava/lang/String;"⟩ : MethodName) prog_6_method_4_code 1 (some (.object "java/lang/String")) ({ frames := 6, cells := 8, slots := 56, locals := 113 } : Room) #[(.ref a)] h0 n0 D (fun v h D' => (∀ {x : Addr}, (n0 ≤ x ∧ ¬ D x) → x < h0.size → (n0 ≤ x ∧ ¬ D' x)) ∧ Keep h0 h [] ∧ ∃ (sr : Addr) (nb : Addr), v = (.ref sr) ∧ h0.size ≤ sr ∧ (n0 ≤ sr ∧ ¬ D' sr) ∧ h0.size ≤ nb ∧ (n0 ≤ nb ∧ ¬ D' nb) ∧ Exa Z h sr "java/lang/String" ∧ Fld Z h sr "java/lang/String" "value" "[B" (.ref nb) ∧ Fld Z h sr "java/lang/String" "coder" "B" (.int (0 : Int32)) ∧ Av Z h nb .byte (((([] : List Value) ++ hb) ++ [(.int (58 : Int32))]) ++ own_dl pt)) := by
  refine Con.of (plainFor_of_name (by first | (simp [plainName, overriddenIn]; done) | decide +kernel)) hn ?_
  intro p e s m below meth c T w X
  refine Gl.enter (ls := #[.val (.ref a)]) (by first | (simp [entryFrame, mkF, argsToLocals, Value.category]; done) | rfl) ?_
  have K_0 : Keep h0 h0 [] := Keep.refl _ _
  have hdl := own_dl5 hpt
  refine gNew X w (own_wd hw 73 rfl) (own_wd hw 74 rfl) (own_wd hw 75 rfl) d13_0 (by decide) (by decide) (n := 3) rfl ?_
  intro T hp0 ad0 ea0 na0 X E0 A0 D0
  have F_1 := Nat.le_trans K_0.1 (Nat.le_of_eq ea0.symm)
  have ne_a_ad0 : a ≠ ad0 := neOf P0.lt (Nat.le_of_eq ea0.symm)
  have ne_s0_ad0 : s0 ≠ ad0 := neOf P3.lt (Nat.le_of_eq ea0.symm)
  have ne_vb_ad0 : vb ≠ ad0 := neOf P6.lt (Nat.le_of_eq ea0.symm)
  have ne_on_ad0 : on ≠ ad0 := neOf P10.lt (Nat.le_of_eq ea0.symm)
  have ne_te_ad0 : te ≠ ad0 := neOf P11.lt (Nat.le_of_eq ea0.symm)
  have F_2 := K_0.ext E0
  have F_3 := P0.ext E0
  have F_4 := P1.ext E0
  have F_5 := P2.ext E0
  have F_6 := P3.ext E0
  have F_7 := P4.ext E0
  have F_8 := P5.ext E0
  have F_9 := P6.ext E0
  have F_10 := P7.ext E0
  have F_11 := P8.ext E0
  have F_12 := P9.ext E0
  have F_13 := P10.ext E0
  have F_14 := P11.ext E0
  have F_15 : Fld Z hp0 ad0 "java/lang/AbstractStringBuilder" "value" "[B" .null := D0 (Or.inl (own_wd hw 88 rfl)) (ty := (.array .byte)) (by decide)
  have F_16 : Fld Z hp0 ad0 "java/lang/AbstractStringBuilder" "coder" "B" (.int (0 : Int32)) := D0 (Or.inl (own_wd hw 90 rfl)) (ty := .byte) (by decide)
  have F_17 : Fld Z hp0 ad0 "java/lang/AbstractStringBuilder" "count" "I" (.int (0 : Int32)) := D0 (Or.inl (own_wd hw 137 rfl)) (ty := .int) (by decide)
  refine gDup X w d13_3 rfl (n := 4) rfl ?_
  refine gCallIn X w [] [(.ref ad0)] rfl (own_binit l Z a0 hw ad0 cs hp0 n0 (Sd.le X) A0 F_15 F_16 F_17 F_10 (by first | assumption | decide | (simp; done) | omega) na0) (own_wd hw 76 rfl) (own_wd hw 77 rfl) (own_wd hw 75 rfl) (own_wd hw 78 rfl) (by decide) own_pd5 rfl rfl d13_4 rfl (W := 1) (Nat.le_of_eq rfl) (by decide) (by decide) (by decide) (by decide) (n := 7) rfl ?_
  rintro T h_18 ⟨K_18, ub_18, g_ub_18, na_ub_18, Q0_18, Q1_18, Q2_18, Q3_18⟩ X
  have F_19 := Nat.le_trans F_2.1 g_ub_18
  have ne_a_ub_18 : a ≠ ub_18 := neOf F_3.lt g_ub_18
  have ne_s0_ub_18 : s0 ≠ ub_18 := neOf F_6.lt g_ub_18
  have ne_vb_ub_18 : vb ≠ ub_18 := neOf F_9.lt g_ub_18
  have ne_on_ub_18 : on ≠ ub_18 := neOf F_13.lt g_ub_18
  have ne_te_ub_18 : te ≠ ub_18 := neOf F_14.lt g_ub_18
  have ne_ad0_ub_18 : ad0 ≠ ub_18 := neOf A0.lt g_ub_18
  have F_20 := F_2.trans K_18 (allS (Or.inr F_1) all0)
  have F_21 := F_3.keep K_18
  have F_22 := F_4.keep K_18 (ninS ne_a_ad0 nin0)
  have F_23 := F_5.keep K_18 (ninS ne_a_ad0 nin0)
  have F_24 := F_6.keep K_18
  have F_25 := F_7.keep K_18 (ninS ne_s0_ad0 nin0)
  have F_26 := F_8.keep K_18 (ninS ne_s0_ad0 nin0)
  have F_27 := F_9.keep K_18 (ninS ne_vb_ad0 nin0)
  have F_28 := staKeep F_10 K_18 (allS (Exa.nostat A0) all0)
  have F_29 := staKeep F_11 K_18 (allS (Exa.nostat A0) all0)
  have F_30 := staKeep F_12 K_18 (allS (Exa.nostat A0) all0)
  have F_31 := F_13.keep K_18 (ninS ne_on_ad0 nin0)
  have F_32 := F_14.keep K_18 (ninS ne_te_ad0 nin0)
  have F_33 := A0.keep K_18
  refine gAloadN X w d13_7 rfl rfl (n := 8) rfl ?_
  refine gGetF X w (own_wd hw 64 rfl) Via.refl F_22 d13_8 (n := 11) rfl ?_
  intro T X
  refine gLdcH X w (own_wd hw 91 rfl) (own_str hw) (own_ew hw) (List.mem_of_getElem? (i := 2) rfl) (vs := [(.int (58 : Int32))]) ⟨by decide, by first | rfl | decide⟩ (by decide) d13_11 (k := 4) (by decide) (by decide) (by decide) (by decide) (n := 13) rfl ?_
  intro T hp11 as11 bs11 D11 X E11 A11 C11 F11 V11 R11
  obtain ⟨F_34, ne_ad0_as11, ne_ad0_bs11⟩ := R11 na0 F_33.lt
  obtain ⟨F_35, ne_ub_18_as11, ne_ub_18_bs11⟩ := R11 na_ub_18 Q3_18.lt
  have F_36 : ∀ {x : Addr}, (n0 ≤ x ∧ ¬ D x) → x < h0.size → (n0 ≤ x ∧ ¬ D11 x) := fun hx hl => (R11 hx (Nat.lt_of_lt_of_le hl F_20.1)).1
  have F_37 := F_20.ext E11
  have F_38 := F_21.ext E11
  have F_39 := F_22.ext E11
  have F_40 := F_23.ext E11
  have F_41 := F_24.ext E11
  have F_42 := F_25.ext E11
  have F_43 := F_26.ext E11
  have F_44 := F_27.ext E11
  have F_45 := F_28.ext E11
  have F_46 := F_29.ext E11
  have F_47 := F_30.ext E11
  have F_48 := F_31.ext E11
  have F_49 := F_32.ext E11
  have F_50 := F_33.ext E11
  have F_51 := Q0_18.ext E11
  have F_52 := Q1_18.ext E11
  have F_53 := Q2_18.ext E11
  have F_54 := Q3_18.ext E11
  refine gCallVv X w [(.ref as11)] [(.ref ad0)] F_41 (own_has l Z a0 hw s0 as11 vb bs11 hb cs hp11 n0 (Sd.le X) F_41 A11 F_42 F_43 F_44 F11 C11 V11 F_45 (by first | assumption | decide | (simp; done) | omega) (by first | assumption | decide | (simp; done) | omega)) (own_wd hw 94 rfl) (own_wd hw 95 rfl) (fun vm0 hS => notFace_of_selects (args := #[]) (mvT (State.Warmed39.trans w.2.2.1 hS.1) (own_wd hw 97 rfl))) (own_wd hw 97 rfl) (own_wd hw 96 rfl) (own_wd hw 8 rfl) (own_wd hw 98 rfl) (by decide) own_pd30 rfl rfl d13_13 rfl (W := 1) (Nat.le_of_eq rfl) (by decide) (by decide) (by decide) (by decide) (n := 16) rfl ?_
  rintro T _ _ ⟨rfl, b0_55, rfl, hb_55⟩ X
  refine gIf_eq X w d13_16 (n := 49) (n' := 19) (by decide) rfl rfl ?_ ?_
  · rintro ⟨c16, c16'⟩
    refine gAloadN X w d13_49 rfl rfl (n := 50) rfl ?_
    refine gGetF X w (own_wd hw 64 rfl) Via.refl F_39 d13_50 (n := 53) rfl ?_
    intro T X
    refine gCallVv X w [(.ref s0)] [] F_50 (own_bps l Z a0 hw ad0 s0 vb ub_18 hb ([] : List Value) own_z16 cs hp11 n0 (Sd.le X) F_50 F_51 F_52 F_53 F_54 F_41 F_42 F_43 F_44 F_45 (by first | assumption | decide | (simp; done) | omega) (by first | assumption | decide) (by first | assumption | decide) hfh (by first | assumption | (simp only [List.length_append, List.length_cons, List.length_nil]; omega)) ne_vb_ub_18 ne_s0_ub_18 ne_ad0_ub_18 ne_s0_ad0 ne_vb_ad0 F_35 F_34) (own_wd hw 125 rfl) (own_wd hw 126 rfl) (fun vm0 hS => notFace_of_selects (args := #[]) (mvT (State.Warmed39.trans w.2.2.1 hS.1) (own_wd hw 128 rfl))) (own_wd hw 128 rfl) (own_wd hw 127 rfl) (own_wd hw 75 rfl) (own_wd hw 129 rfl) (by decide) own_pd31 rfl rfl d13_53 rfl (W := 0) (Nat.le_of_eq rfl) (by decide) (by decide) (by decide) (by decide) (n := 56) rfl ?_
    rintro T h_56 _ ⟨K_56, rs2_56, rfl, Q0_56, Q1_56, Q2_56, Q3_56, hlen_56, hfu_56⟩ X
    have F_57 := F_37.trans K_56 (allS (Or.inr F_19) (allS (Or.inr F_1) all0))
    have F_58 := F_38.keep K_56
    have F_59 := F_39.keep K_56 (ninS ne_a_ub_18 (ninS ne_a_ad0 nin0))
    have F_60 := F_40.keep K_56 (ninS ne_a_ub_18 (ninS ne_a_ad0 nin0))
    have F_61 := F_41.keep K_56
    have F_62 := F_42.keep K_56 (ninS ne_s0_ub_18 (ninS ne_s0_ad0 nin0))
    have F_63 := F_43.keep K_56 (ninS ne_s0_ub_18 (ninS ne_s0_ad0 nin0))
    have F_64 := F_44.keep K_56 (ninS ne_vb_ub_18 (ninS ne_vb_ad0 nin0))
    have F_65 := staKeep F_45 K_56 (allS (Av.nostat F_54) (allS (Exa.nostat F_50) all0))
    have F_66 := staKeep F_46 K_56 (allS (Av.nostat F_54) (allS (Exa.nostat F_50) all0))
    have F_67 := staKeep F_47 K_56 (allS (Av.nostat F_54) (allS (Exa.nostat F_50) all0))
    have F_68 := F_48.keep K_56 (ninS ne_on_ub_18 (ninS ne_on_ad0 nin0))
    have F_69 := F_49.keep K_56 (ninS ne_te_ub_18 (ninS ne_te_ad0 nin0))
    have F_70 := F_50.keep K_56
    have F_71 := A11.keep K_56
    have F_72 := C11.keep K_56 (ninS (Ne.symm ne_ub_18_as11) (ninS (Ne.symm ne_ad0_as11) nin0))
    have F_73 := F11.keep K_56 (ninS (Ne.symm ne_ub_18_as11) (ninS (Ne.symm ne_ad0_as11) nin0))
    have F_74 := V11.keep K_56 (ninS (Ne.symm ne_ub_18_bs11) (ninS (Ne.symm ne_ad0_bs11) nin0))
    refine gLdcH X w (own_wd hw 91 rfl) (own_str hw) (own_ew hw) (List.mem_of_getElem? (i := 2) rfl) (vs := [(.int (58 : Int32))]) ⟨by decide, by first | rfl | decide⟩ (by decide) d13_56 (k := 4) (by decide) (by decide) (by decide) (by decide) (n := 58) rfl ?_
    intro T hp56 as56 bs56 D56 X E56 A56 C56 F56 V56 R56
    obtain ⟨F_75, ne_ad0_as56, ne_ad0_bs56⟩ := R56 F_34 F_70.lt
    obtain ⟨F_76, ne_ub_18_as56, ne_ub_18_bs56⟩ := R56 F_35 Q0_56.lt
    have F_77 : ∀ {x : Addr}, (n0 ≤ x ∧ ¬ D x) → x < h0.size → (n0 ≤ x ∧ ¬ D56 x) := fun hx hl => (R56 (F_36 hx hl) (Nat.lt_of_lt_of_le hl F_57.1)).1
    have F_78 := F_57.ext E56
    have F_79 := F_58.ext E56
    have F_80 := F_59.ext E56
    have F_81 := F_60.ext E56
    have F_82 := F_61.ext E56
    have F_83 := F_62.ext E56
    have F_84 := F_63.ext E56
    have F_85 := F_64.ext E56
    have F_86 := F_65.ext E56
    have F_87 := F_66.ext E56
    have F_88 := F_67.ext E56
    have F_89 := F_68.ext E56
    have F_90 := F_69.ext E56
    have F_91 := F_70.ext E56
    have F_92 := F_71.ext E56
    have F_93 := F_72.ext E56
    have F_94 := F_73.ext E56
    have F_95 := F_74.ext E56
    have F_96 := Q0_56.ext E56
    have F_97 := Q1_56.ext E56
    have F_98 := Q2_56.ext E56
    have F_99 := Q3_56.ext E56
    refine gCallVv X w [(.ref as56)] [] F_91 (own_bps l Z a0 hw ad0 as56 bs56 ub_18 [(.int (58 : Int32))] (([] : List Value) ++ hb) rs2_56 cs hp56 n0 (Sd.le X) F_91 F_97 F_98 F_99 F_96 A56 F56 C56 V56 F_86 (by first | assumption | decide | (simp; done) | omega) (by first | assumption | decide) (by first | assumption | decide) (own_fit1 _ (by decide)) (by first | assumption | (simp only [List.length_append, List.length_cons, List.length_nil]; omega)) (Ne.symm ne_ub_18_bs56) (Ne.symm ne_ub_18_as56) ne_ad0_ub_18 (Ne.symm ne_ad0_as56) (Ne.symm ne_ad0_bs56) F_76 F_75) (own_wd hw 125 rfl) (own_wd hw 126 rfl) (fun vm0 hS => notFace_of_selects (args := #[]) (mvT (State.Warmed39.trans w.2.2.1 hS.1) (own_wd hw 128 rfl))) (own_wd hw 128 rfl) (own_wd hw 127 rfl) (own_wd hw 75 rfl) (own_wd hw 129 rfl) (by decide) own_pd31 rfl rfl d13_58 rfl (W := 0) (Nat.le_of_eq rfl) (by decide) (by decide) (by decide) (by decide) (n := 61) rfl ?_
    rintro T h_100 _ ⟨K_100, rs2_100, rfl, Q0_100, Q1_100, Q2_100, Q3_100, hlen_100, hfu_100⟩ X
    have F_101 := F_78.trans K_100 (allS (Or.inr F_19) (allS (Or.inr F_1) all0))
    have F_102 := F_79.keep K_100
    have F_103 := F_80.keep K_100 (ninS ne_a_ub_18 (ninS ne_a_ad0 nin0))
    have F_104 := F_81.keep K_100 (ninS ne_a_ub_18 (ninS ne_a_ad0 nin0))
    have F_105 := F_82.keep K_100
    have F_106 := F_83.keep K_100 (ninS ne_s0_ub_18 (ninS ne_s0_ad0 nin0))
    have F_107 := F_84.keep K_100 (ninS ne_s0_ub_18 (ninS ne_s0_ad0 nin0))
    have F_108 := F_85.keep K_100 (ninS ne_vb_ub_18 (ninS ne_vb_ad0 nin0))
    have F_109 := staKeep F_86 K_100 (allS (Av.nostat F_96) (allS (Exa.nostat F_91) all0))
    have F_110 := staKeep F_87 K_100 (allS (Av.nostat F_96) (allS (Exa.nostat F_91) all0))
    have F_111 := staKeep F_88 K_100 (allS (Av.nostat F_96) (allS (Exa.nostat F_91) all0))
    have F_112 := F_89.keep K_100 (ninS ne_on_ub_18 (ninS ne_on_ad0 nin0))
    have F_113 := F_90.keep K_100 (ninS ne_te_ub_18 (ninS ne_te_ad0 nin0))
    have F_114 := F_91.keep K_100
    have F_115 := F_92.keep K_100
    have F_116 := F_93.keep K_100 (ninS (Ne.symm ne_ub_18_as11) (ninS (Ne.symm ne_ad0_as11) nin0))
    have F_117 := F_94.keep K_100 (ninS (Ne.symm ne_ub_18_as11) (ninS (Ne.symm ne_ad0_as11) nin0))
    have F_118 := F_95.keep K_100 (ninS (Ne.symm ne_ub_18_bs11) (ninS (Ne.symm ne_ad0_bs11) nin0))
    have F_119 := A56.keep K_100
    have F_120 := C56.keep K_100 (ninS (Ne.symm ne_ub_18_as56) (ninS (Ne.symm ne_ad0_as56) nin0))
    have F_121 := F56.keep K_100 (ninS (Ne.symm ne_ub_18_as56) (ninS (Ne.symm ne_ad0_as56) nin0))
    have F_122 := V56.keep K_100 (ninS (Ne.symm ne_ub_18_bs56) (ninS (Ne.symm ne_ad0_bs56) nin0))
    refine gAloadN X w d13_61 rfl rfl (n := 62) rfl ?_
    refine gGetF X w (own_wd hw 66 rfl) Via.refl F_104 d13_62 (n := 65) rfl ?_
    intro T X
    refine gCallVv X w [(.int pt)] [] F_114 (own_bpi l Z a0 hw ad0 pt ub_18 on te ons tes ((([] : List Value) ++ hb) ++ [(.int (58 : Int32))]) rs2_100 cs h_100 n0 (Sd.le X) F_114 Q1_100 Q2_100 Q3_100 Q0_100 F_110 F_111 F_112 F_113 F_109 (by first | assumption | decide | (simp; done) | omega) (by first | assumption | decide | (simp; done) | omega) (by first | assumption | decide | (simp; done) | omega) (by first | assumption | decide | (simp; done) | omega) (by first | assumption | decide) (by first | assumption | decide) (by first | assumption | (simp only [List.length_append, List.length_cons, List.length_nil]; omega)) ne_on_ub_18 ne_te_ub_18 ne_ad0_ub_18 ne_on_ad0 ne_te_ad0 F_76 F_75) (own_wd hw 163 rfl) (own_wd hw 164 rfl) (fun vm0 hS => notFace_of_selects (args := #[]) (mvT (State.Warmed39.trans w.2.2.1 hS.1) (own_wd hw 166 rfl))) (own_wd hw 166 rfl) (own_wd hw 165 rfl) (own_wd hw 75 rfl) (own_wd hw 167 rfl) (by decide) own_pd32 rfl rfl d13_65 rfl (W := 0) (Nat.le_of_eq rfl) (by decide) (by decide) (by decide) (by decide) (n := 68) rfl ?_
    rintro T h_123 _ ⟨K_123, rs2_123, rfl, Q0_123, Q1_123, Q2_123, Q3_123, hlen_123, hfu_123⟩ X
    have F_124 := F_101.trans K_123 (allS (Or.inr F_19) (allS (Or.inr F_1) all0))
    have F_125 := F_102.keep K_123
    have F_126 := F_103.keep K_123 (ninS ne_a_ub_18 (ninS ne_a_ad0 nin0))
    have F_127 := F_104.keep K_123 (ninS ne_a_ub_18 (ninS ne_a_ad0 nin0))
    have F_128 := F_105.keep K_123
    have F_129 := F_106.keep K_123 (ninS ne_s0_ub_18 (ninS ne_s0_ad0 nin0))
    have F_130 := F_107.keep K_123 (ninS ne_s0_ub_18 (ninS ne_s0_ad0 nin0))
    have F_131 := F_108.keep K_123 (ninS ne_vb_ub_18 (ninS ne_vb_ad0 nin0))
    have F_132 := staKeep F_109 K_123 (allS (Av.nostat Q0_100) (allS (Exa.nostat F_114) all0))
    have F_133 := staKeep F_110 K_123 (allS (Av.nostat Q0_100) (allS (Exa.nostat F_114) all0))
    have F_134 := staKeep F_111 K_123 (allS (Av.nostat Q0_100) (allS (Exa.nostat F_114) all0))
    have F_135 := F_112.keep K_123 (ninS ne_on_ub_18 (ninS ne_on_ad0 nin0))
    have F_136 := F_113.keep K_123 (ninS ne_te_ub_18 (ninS ne_te_ad0 nin0))
    have F_137 := F_114.keep K_123
    have F_138 := F_115.keep K_123
    have F_139 := F_116.keep K_123 (ninS (Ne.symm ne_ub_18_as11) (ninS (Ne.symm ne_ad0_as11) nin0))
    have F_140 := F_117.keep K_123 (ninS (Ne.symm ne_ub_18_as11) (ninS (Ne.symm ne_ad0_as11) nin0))
    have F_141 := F_118.keep K_123 (ninS (Ne.symm ne_ub_18_bs11) (ninS (Ne.symm ne_ad0_bs11) nin0))
    have F_142 := F_119.keep K_123
    have F_143 := F_120.keep K_123 (ninS (Ne.symm ne_ub_18_as56) (ninS (Ne.symm ne_ad0_as56) nin0))
    have F_144 := F_121.keep K_123 (ninS (Ne.symm ne_ub_18_as56) (ninS (Ne.symm ne_ad0_as56) nin0))
    have F_145 := F_122.keep K_123 (ninS (Ne.symm ne_ub_18_bs56) (ninS (Ne.symm ne_ad0_bs56) nin0))
    refine gCallVv X w [] [] F_137 (own_bts l Z a0 hw ad0 ub_18 (((([] : List Value) ++ hb) ++ [(.int (58 : Int32))]) ++ own_dl pt) rs2_123 cs h_123 n0 (Sd.le X) F_137 Q1_123 Q2_123 Q3_123 Q0_123 F_132 (by first | assumption | decide | (simp; done) | omega) (by first | assumption | decide) (by first | assumption | decide) (by first | assumption | (simp only [List.length_append, List.length_cons, List.length_nil]; omega))) (own_wd hw 185 rfl) (own_wd hw 186 rfl) (fun vm0 hS => notFace_of_selects (args := #[]) (mvT (State.Warmed39.trans w.2.2.1 hS.1) (own_wd hw 188 rfl))) (own_wd hw 188 rfl) (own_wd hw 187 rfl) (own_wd hw 75 rfl) (own_wd hw 189 rfl) (by decide) own_pd24 rfl rfl d13_68 rfl (W := 0) (Nat.le_of_eq rfl) (by decide) (by decide) (by decide) (by decide) (n := 71) rfl ?_
    rintro T h_146 _ ⟨K_146, s0_146, nb_146, rfl, g_s0_146, na_s0_146, g_nb_146, na_nb_146, ne_s0_146_nb_146, Q0_146, Q1_146, Q2_146, Q3_146, Q4_146⟩ X
    have F_147 := Nat.le_trans F_124.1 g_s0_146
    have ne_a_s0_146 : a ≠ s0_146 := neOf F_125.lt g_s0_146
    have ne_s0_s0_146 : s0 ≠ s0_146 := neOf F_128.lt g_s0_146
    have ne_vb_s0_146 : vb ≠ s0_146 := neOf F_131.lt g_s0_146
    have ne_on_s0_146 : on ≠ s0_146 := neOf F_135.lt g_s0_146
    have ne_te_s0_146 : te ≠ s0_146 := neOf F_136.lt g_s0_146
    have ne_ad0_s0_146 : ad0 ≠ s0_146 := neOf F_137.lt g_s0_146
    have ne_as11_s0_146 : as11 ≠ s0_146 := neOf F_138.lt g_s0_146
    have ne_bs11_s0_146 : bs11 ≠ s0_146 := neOf F_141.lt g_s0_146
    have ne_as56_s0_146 : as56 ≠ s0_146 := neOf F_142.lt g_s0_146
    have ne_bs56_s0_146 : bs56 ≠ s0_146 := neOf F_145.lt g_s0_146
    have ne_ub_18_s0_146 : ub_18 ≠ s0_146 := neOf Q0_123.lt g_s0_146
    have F_148 := Nat.le_trans F_124.1 g_nb_146
    have ne_a_nb_146 : a ≠ nb_146 := neOf F_125.lt g_nb_146
    have ne_s0_nb_146 : s0 ≠ nb_146 := neOf F_128.lt g_nb_146
    have ne_vb_nb_146 : vb ≠ nb_146 := neOf F_131.lt g_nb_146
    have ne_on_nb_146 : on ≠ nb_146 := neOf F_135.lt g_nb_146
    have ne_te_nb_146 : te ≠ nb_146 := neOf F_136.lt g_nb_146
    have ne_ad0_nb_146 : ad0 ≠ nb_146 := neOf F_137.lt g_nb_146
    have ne_as11_nb_146 : as11 ≠ nb_146 := neOf F_138.lt g_nb_146
    have ne_bs11_nb_146 : bs11 ≠ nb_146 := neOf F_141.lt g_nb_146
    have ne_as56_nb_146 : as56 ≠ nb_146 := neOf F_142.lt g_nb_146
    have ne_bs56_nb_146 : bs56 ≠ nb_146 := neOf F_145.lt g_nb_146
    have ne_ub_18_nb_146 : ub_18 ≠ nb_146 := neOf Q0_123.lt g_nb_146
    have F_149 := F_124.trans K_146 all0
    have F_150 := F_125.keep K_146
    have F_151 := F_126.keep K_146 nin0
    have F_152 := F_127.keep K_146 nin0
    have F_153 := F_128.keep K_146
    have F_154 := F_129.keep K_146 nin0
    have F_155 := F_130.keep K_146 nin0
    have F_156 := F_131.keep K_146 nin0
    have F_157 := staKeep F_132 K_146 all0
    have F_158 := staKeep F_133 K_146 all0
    have F_159 := staKeep F_134 K_146 all0
    have F_160 := F_135.keep K_146 nin0
    have F_161 := F_136.keep K_146 nin0
    have F_162 := F_137.keep K_146
    have F_163 := F_138.keep K_146
    have F_164 := F_139.keep K_146 nin0
    have F_165 := F_140.keep K_146 nin0
    have F_166 := F_141.keep K_146 nin0
    have F_167 := F_142.keep K_146
    have F_168 := F_143.keep K_146 nin0
    have F_169 := F_144.keep K_146 nin0
    have F_170 := F_145.keep K_146 nin0
    have F_171 := Q0_123.keep K_146 nin0
    have F_172 := Q1_123.keep K_146 nin0
    have F_173 := Q2_123.keep K_146 nin0
    have F_174 := Q3_123.keep K_146 nin0
    exact gRetA X w rfl rfl rfl d13_71 (by decide) (by decide) (⟨_, rfl, F_77, F_149, s0_146, nb_146, rfl, F_147, na_s0_146, F_148, na_nb_146, Q0_146, Q1_146, Q2_146, Q3_146⟩)
  · rintro ⟨c16, c16'⟩
    rcases hb_55 with g | g
    · exact absurd g.2 hbr
    · exact absurd g.1 c16
set_option maxRecDepth 65536 in
set_option maxHeartbeats 40000000 in
theorem own_tail (l : Launch) (Z : State) (a0 : Array Value) (hw : ∀ d ∈ tables_1, d.before a0 Z = true) (sr nb hs : Addr) (bs : List Value) (fo : Value) (p1 p2 p3 p4 p5 k0 k1 k2 ln bb pt cs : Int32) (h0 : Heap) (n0 : Nat) {D : Addr → Prop} (P0 : Exa Z h0 sr "java/lang/String") (P1 : Fld Z h0 sr "java/lang/String" "value" "[B" (.ref nb)) (P2 : Fld Z h0 sr "java/lang/String" "coder" "B" (.int (0 : Int32))) (P3 : Av Z h0 nb .byte bs) (P4 : Sta Z h0 "jdk/internal/util/Preconditions" "SIOOBE_FORMATTER" "Ljava/util/function/BiFunction;" fo) (P5 : Sta Z h0 "java/lang/String" "COMPACT_STRINGS" "Z" (.int cs)) (hk0 : 0 ≤ k0.toInt ∧ k0.toInt ≤ 255) (hk1 : 0 ≤ k1.toInt ∧ k1.toInt ≤ 255) (hk2 : 0 ≤ k2.toInt ∧ k2.toInt ≤ 255) (hcs : ¬ cs = 0) (hpt : 0 ≤ pt.toInt ∧ pt.toInt ≤ 65535) (hbl : bs.length < 2 ^ 31) (hfc : fo.category = 1) (he0 : bb = 0 → ln + 0 + 1 + own_nd pt = bs.length.toInt32) (he1 : ¬ bb = 0 → ln + 2 + 1 + own_nd pt = bs.length.toInt32) (H : ∀ ii : Int32, 0 ≤ ii.toInt → (bs.length.toInt32).toInt ≤ ii.toInt ∨ (0 ≤ ii.toInt ∧ ∃ y : Int32, bs[ii.toInt.toNat]? = some (.int y) ∧ own_ch y = own_exp ii k0 k1 k2 ln bb pt (own_nd pt))) {p : Program} {e : Env} {s : State} {m : MethodId} {args : Array Value} {below : List Frame} {meth : Method} {c : Code} {T : State} (w : Cx Z x.cls x.name code maxLocals ret p s m meth c) (X : Sd Z D p l e room_1 s m args below meth c n0 T h0 36 3000) :
    Gl Z p e below s n0 (fun r h _ => r = some (.int 1)) 40 3328 (T.setTop (mkF m 173 #[.val (.int p1), .val (.int p2), .val (.int p3), .val (.int p4), .val (.int p5), .val (.int k0), .val (.int k1), .val (.int k2), .val (.int ln), .val (.int pt), .val (.ref hs), .val (.ref sr), .unset, .unset, .unset] [(.int bb)])) := by
  refine gIstore X w at_173 #[.val (.int p1), .val (.int p2), .val (.int p3), .val (.int p4), .val (.int p5), .val (.int k0), .val (.int k1), .val (.int k2), .val (.int ln), .val (.int pt), .val (.ref hs), .val (.ref sr), .val (.int bb), .unset, .unset] rfl (n := 175) rfl ?_
  refine gIload X w at_175 rfl (n := 177) rfl ?_
  refine gCallSv X w [(.int pt)] [] (own_digits l Z a0 hw pt h0 n0 (Sd.le X) (by first | assumption | decide | (simp; done) | omega)) (own_wd hw 226 rfl) (own_wd hw 227 rfl) (own_wd hw 2 rfl) (own_wd hw 228 rfl) (by decide) own_pd13 rfl rfl at_177 rfl (W := 0) (Nat.le_of_eq rfl) (by decide) (by decide) (by decide) (by decide) (n := 180) rfl ?_
  rintro T _ _ ⟨rfl, rfl⟩ X
  refine gIstore X w at_180 #[.val (.int p1), .val (.int p2), .val (.int p3), .val (.int p4), .val (.int p5), .val (.int k0), .val (.int k1), .val (.int k2), .val (.int ln), .val (.int pt), .val (.ref hs), .val (.ref sr), .val (.int bb), .val (.int (own_nd pt)), .unset] rfl (n := 182) rfl ?_
  have tail2 : Gl Z p e below s n0 (fun r h _ => r = some (.int 1)) 40 3328 (T.setTop (mkF m 200 #[.val (.int p1), .val (.int p2), .val (.int p3), .val (.int p4), .val (.int p5), .val (.int k0), .val (.int k1), .val (.int k2), .val (.int ln), .val (.int pt), .val (.ref hs), .val (.ref sr), .val (.int bb), .val (.int (own_nd pt)), .unset] [(.int (bs.length.toInt32))])) := by
    refine gIstore X w at_200 #[.val (.int p1), .val (.int p2), .val (.int p3), .val (.int p4), .val (.int p5), .val (.int k0), .val (.int k1), .val (.int k2), .val (.int ln), .val (.int pt), .val (.ref hs), .val (.ref sr), .val (.int bb), .val (.int (own_nd pt)), .val (.int (bs.length.toInt32))] rfl (n := 202) rfl ?_
    refine gAload X w at_202 rfl rfl (n := 204) rfl ?_
    refine gCallVv X w [] [] P0 (own_slen l Z a0 hw sr nb bs cs h0 n0 (Sd.le X) P0 P1 P2 P3 P5 (by first | assumption | decide | (simp; done) | omega)) (own_wd hw 229 rfl) (own_wd hw 54 rfl) (fun vm0 hS => notFace_of_selects (args := #[]) (mvT (State.Warmed39.trans w.2.2.1 hS.1) (own_wd hw 56 rfl))) (own_wd hw 56 rfl) (own_wd hw 55 rfl) (own_wd hw 8 rfl) (own_wd hw 57 rfl) (by decide) own_pd7 rfl rfl at_204 rfl (W := 0) (Nat.le_of_eq rfl) (by decide) (by decide) (by decide) (by decide) (n := 207) rfl ?_
    rintro T _ _ ⟨rfl, rfl⟩ X
    refine gIload X w at_207 rfl (n := 209) rfl ?_
    refine gIcmp_eq X w at_209 (n := 214) (n' := 212) (by decide) rfl rfl ?_ ?_
    · rintro ⟨c209, c209'⟩
      refine gAload X w at_214 rfl rfl (n := 216) rfl ?_
      refine gIconst X w at_216 (z := (0 : Int32)) rfl (n := 217) rfl ?_
      refine gIload X w at_217 rfl (n := 219) rfl ?_
      refine gIload X w at_219 rfl (n := 221) rfl ?_
      refine gIload X w at_221 rfl (n := 223) rfl ?_
      refine gIload X w at_223 rfl (n := 225) rfl ?_
      refine gIload X w at_225 rfl (n := 227) rfl ?_
      refine gIload X w at_227 rfl (n := 229) rfl ?_
      refine gIload X w at_229 rfl (n := 231) rfl ?_
      refine gIload X w at_231 rfl (n := 233) rfl ?_
      refine gCallSv X w [(.ref sr), (.int (0 : Int32)), (.int (bs.length.toInt32)), (.int k0), (.int k1), (.int k2), (.int ln), (.int bb), (.int pt), (.int (own_nd pt))] [] (own_ok l Z a0 hw sr nb bs fo (0 : Int32) (bs.length.toInt32) k0 k1 k2 ln bb pt (own_nd pt) cs h0 n0 (Sd.le X) P0 P1 P2 P3 P4 P5 (by first | assumption | decide | (simp; done) | omega) (by first | assumption | decide | (simp; done) | omega) (by first | assumption | decide | (simp; done) | omega) (by first | assumption | decide | (simp; done) | omega) (by first | assumption | decide | (simp; done) | omega) (by first | assumption | decide | (simp; done) | omega) (H (0 : Int32) (by decide))) (own_wd hw 230 rfl) (own_wd hw 231 rfl) (own_wd hw 2 rfl) (own_wd hw 232 rfl) (by decide) own_pd33 rfl rfl at_233 rfl (W := 0) (Nat.le_of_eq rfl) (by decide) (by decide) (by decide) (by decide) (n := 236) rfl ?_
      rintro T _ _ ⟨rfl, rfl⟩ X
      refine gIf_eq X w at_236 (n := 498) (n' := 239) (by decide) rfl rfl ?_ ?_
      · rintro ⟨c236, c236'⟩
        exact absurd c236 (by decide)
      · rintro ⟨c236, c236'⟩
        refine gAload X w at_239 rfl rfl (n := 241) rfl ?_
        refine gIconst X w at_241 (z := (1 : Int32)) rfl (n := 242) rfl ?_
        refine gIload X w at_242 rfl (n := 244) rfl ?_
        refine gIload X w at_244 rfl (n := 246) rfl ?_
        refine gIload X w at_246 rfl (n := 248) rfl ?_
        refine gIload X w at_248 rfl (n := 250) rfl ?_
        refine gIload X w at_250 rfl (n := 252) rfl ?_
        refine gIload X w at_252 rfl (n := 254) rfl ?_
        refine gIload X w at_254 rfl (n := 256) rfl ?_
        refine gIload X w at_256 rfl (n := 258) rfl ?_
        refine gCallSv X w [(.ref sr), (.int (1 : Int32)), (.int (bs.length.toInt32)), (.int k0), (.int k1), (.int k2), (.int ln), (.int bb), (.int pt), (.int (own_nd pt))] [] (own_ok l Z a0 hw sr nb bs fo (1 : Int32) (bs.length.toInt32) k0 k1 k2 ln bb pt (own_nd pt) cs h0 n0 (Sd.le X) P0 P1 P2 P3 P4 P5 (by first | assumption | decide | (simp; done) | omega) (by first | assumption | decide | (simp; done) | omega) (by first | assumption | decide | (simp; done) | omega) (by first | assumption | decide | (simp; done) | omega) (by first | assumption | decide | (simp; done) | omega) (by first | assumption | decide | (simp; done) | omega) (H (1 : Int32) (by decide))) (own_wd hw 230 rfl) (own_wd hw 231 rfl) (own_wd hw 2 rfl) (own_wd hw 232 rfl) (by decide) own_pd33 rfl rfl at_258 rfl (W := 0) (Nat.le_of_eq rfl) (by decide) (by decide) (by decide) (by decide) (n := 261) rfl ?_
        rintro T _ _ ⟨rfl, rfl⟩ X
        refine gIf_eq X w at_261 (n := 498) (n' := 264) (by decide) rfl rfl ?_ ?_
        · rintro ⟨c261, c261'⟩
          exact absurd c261 (by decide)
        · rintro ⟨c261, c261'⟩
          refine gAload X w at_264 rfl rfl (n := 266) rfl ?_
          refine gIconst X w at_266 (z := (2 : Int32)) rfl (n := 267) rfl ?_
          refine gIload X w at_267 rfl (n := 269) rfl ?_
          refine gIload X w at_269 rfl (n := 271) rfl ?_
          refine gIload X w at_271 rfl (n := 273) rfl ?_
          refine gIload X w at_273 rfl (n := 275) rfl ?_
          refine gIload X w at_275 rfl (n := 277) rfl ?_
          refine gIload X w at_277 rfl (n := 279) rfl ?_
          refine gIload X w at_279 rfl (n := 281) rfl ?_
          refine gIload X w at_281 rfl (n := 283) rfl ?_
          refine gCallSv X w [(.ref sr), (.int (2 : Int32)), (.int (bs.length.toInt32)), (.int k0), (.int k1), (.int k2), (.int ln), (.int bb), (.int pt), (.int (own_nd pt))] [] (own_ok l Z a0 hw sr nb bs fo (2 : Int32) (bs.length.toInt32) k0 k1 k2 ln bb pt (own_nd pt) cs h0 n0 (Sd.le X) P0 P1 P2 P3 P4 P5 (by first | assumption | decide | (simp; done) | omega) (by first | assumption | decide | (simp; done) | omega) (by first | assumption | decide | (simp; done) | omega) (by first | assumption | decide | (simp; done) | omega) (by first | assumption | decide | (simp; done) | omega) (by first | assumption | decide | (simp; done) | omega) (H (2 : Int32) (by decide))) (own_wd hw 230 rfl) (own_wd hw 231 rfl) (own_wd hw 2 rfl) (own_wd hw 232 rfl) (by decide) own_pd33 rfl rfl at_283 rfl (W := 0) (Nat.le_of_eq rfl) (by decide) (by decide) (by decide) (by decide) (n := 286) rfl ?_
          rintro T _ _ ⟨rfl, rfl⟩ X
          refine gIf_eq X w at_286 (n := 498) (n' := 289) (by decide) rfl rfl ?_ ?_
          · rintro ⟨c286, c286'⟩
            exact absurd c286 (by decide)
          · rintro ⟨c286, c286'⟩
            refine gAload X w at_289 rfl rfl (n := 291) rfl ?_
            refine gIconst X w at_291 (z := (3 : Int32)) rfl (n := 292) rfl ?_
            refine gIload X w at_292 rfl (n := 294) rfl ?_
            refine gIload X w at_294 rfl (n := 296) rfl ?_
            refine gIload X w at_296 rfl (n := 298) rfl ?_
            refine gIload X w at_298 rfl (n := 300) rfl ?_
            refine gIload X w at_300 rfl (n := 302) rfl ?_
            refine gIload X w at_302 rfl (n := 304) rfl ?_
            refine gIload X w at_304 rfl (n := 306) rfl ?_
            refine gIload X w at_306 rfl (n := 308) rfl ?_
            refine gCallSv X w [(.ref sr), (.int (3 : Int32)), (.int (bs.length.toInt32)), (.int k0), (.int k1), (.int k2), (.int ln), (.int bb), (.int pt), (.int (own_nd pt))] [] (own_ok l Z a0 hw sr nb bs fo (3 : Int32) (bs.length.toInt32) k0 k1 k2 ln bb pt (own_nd pt) cs h0 n0 (Sd.le X) P0 P1 P2 P3 P4 P5 (by first | assumption | decide | (simp; done) | omega) (by first | assumption | decide | (simp; done) | omega) (by first | assumption | decide | (simp; done) | omega) (by first | assumption | decide | (simp; done) | omega) (by first | assumption | decide | (simp; done) | omega) (by first | assumption | decide | (simp; done) | omega) (H (3 : Int32) (by decide))) (own_wd hw 230 rfl) (own_wd hw 231 rfl) (own_wd hw 2 rfl) (own_wd hw 232 rfl) (by decide) own_pd33 rfl rfl at_308 rfl (W := 0) (Nat.le_of_eq rfl) (by decide) (by decide) (by decide) (by decide) (n := 311) rfl ?_
            rintro T _ _ ⟨rfl, rfl⟩ X
            refine gIf_eq X w at_311 (n := 498) (n' := 314) (by decide) rfl rfl ?_ ?_
            · rintro ⟨c311, c311'⟩
              exact absurd c311 (by decide)
            · rintro ⟨c311, c311'⟩
              refine gAload X w at_314 rfl rfl (n := 316) rfl ?_
              refine gIconst X w at_316 (z := (4 : Int32)) rfl (n := 317) rfl ?_
              refine gIload X w at_317 rfl (n := 319) rfl ?_
              refine gIload X w at_319 rfl (n := 321) rfl ?_
              refine gIload X w at_321 rfl (n := 323) rfl ?_
              refine gIload X w at_323 rfl (n := 325) rfl ?_
              refine gIload X w at_325 rfl (n := 327) rfl ?_
              refine gIload X w at_327 rfl (n := 329) rfl ?_
              refine gIload X w at_329 rfl (n := 331) rfl ?_
              refine gIload X w at_331 rfl (n := 333) rfl ?_
              refine gCallSv X w [(.ref sr), (.int (4 : Int32)), (.int (bs.length.toInt32)), (.int k0), (.int k1), (.int k2), (.int ln), (.int bb), (.int pt), (.int (own_nd pt))] [] (own_ok l Z a0 hw sr nb bs fo (4 : Int32) (bs.length.toInt32) k0 k1 k2 ln bb pt (own_nd pt) cs h0 n0 (Sd.le X) P0 P1 P2 P3 P4 P5 (by first | assumption | decide | (simp; done) | omega) (by first | assumption | decide | (simp; done) | omega) (by first | assumption | decide | (simp; done) | omega) (by first | assumption | decide | (simp; done) | omega) (by first | assumption | decide | (simp; done) | omega) (by first | assumption | decide | (simp; done) | omega) (H (4 : Int32) (by decide))) (own_wd hw 230 rfl) (own_wd hw 231 rfl) (own_wd hw 2 rfl) (own_wd hw 232 rfl) (by decide) own_pd33 rfl rfl at_333 rfl (W := 0) (Nat.le_of_eq rfl) (by decide) (by decide) (by decide) (by decide) (n := 336) rfl ?_
              rintro T _ _ ⟨rfl, rfl⟩ X
              refine gIf_eq X w at_336 (n := 498) (n' := 339) (by decide) rfl rfl ?_ ?_
              · rintro ⟨c336, c336'⟩
                exact absurd c336 (by decide)
              · rintro ⟨c336, c336'⟩
                refine gAload X w at_339 rfl rfl (n := 341) rfl ?_
                refine gIconst X w at_341 (z := (5 : Int32)) rfl (n := 342) rfl ?_
                refine gIload X w at_342 rfl (n := 344) rfl ?_
                refine gIload X w at_344 rfl (n := 346) rfl ?_
                refine gIload X w at_346 rfl (n := 348) rfl ?_
                refine gIload X w at_348 rfl (n := 350) rfl ?_
                refine gIload X w at_350 rfl (n := 352) rfl ?_
                refine gIload X w at_352 rfl (n := 354) rfl ?_
                refine gIload X w at_354 rfl (n := 356) rfl ?_
                refine gIload X w at_356 rfl (n := 358) rfl ?_
                refine gCallSv X w [(.ref sr), (.int (5 : Int32)), (.int (bs.length.toInt32)), (.int k0), (.int k1), (.int k2), (.int ln), (.int bb), (.int pt), (.int (own_nd pt))] [] (own_ok l Z a0 hw sr nb bs fo (5 : Int32) (bs.length.toInt32) k0 k1 k2 ln bb pt (own_nd pt) cs h0 n0 (Sd.le X) P0 P1 P2 P3 P4 P5 (by first | assumption | decide | (simp; done) | omega) (by first | assumption | decide | (simp; done) | omega) (by first | assumption | decide | (simp; done) | omega) (by first | assumption | decide | (simp; done) | omega) (by first | assumption | decide | (simp; done) | omega) (by first | assumption | decide | (simp; done) | omega) (H (5 : Int32) (by decide))) (own_wd hw 230 rfl) (own_wd hw 231 rfl) (own_wd hw 2 rfl) (own_wd hw 232 rfl) (by decide) own_pd33 rfl rfl at_358 rfl (W := 0) (Nat.le_of_eq rfl) (by decide) (by decide) (by decide) (by decide) (n := 361) rfl ?_
                rintro T _ _ ⟨rfl, rfl⟩ X
                refine gIf_eq X w at_361 (n := 498) (n' := 364) (by decide) rfl rfl ?_ ?_
                · rintro ⟨c361, c361'⟩
                  exact absurd c361 (by decide)
                · rintro ⟨c361, c361'⟩
                  refine gAload X w at_364 rfl rfl (n := 366) rfl ?_
                  refine gBipush X w at_366 (z := (6 : Int32)) (by decide) (n := 368) rfl ?_
                  refine gIload X w at_368 rfl (n := 370) rfl ?_
                  refine gIload X w at_370 rfl (n := 372) rfl ?_
                  refine gIload X w at_372 rfl (n := 374) rfl ?_
                  refine gIload X w at_374 rfl (n := 376) rfl ?_
                  refine gIload X w at_376 rfl (n := 378) rfl ?_
                  refine gIload X w at_378 rfl (n := 380) rfl ?_
                  refine gIload X w at_380 rfl (n := 382) rfl ?_
                  refine gIload X w at_382 rfl (n := 384) rfl ?_
                  refine gCallSv X w [(.ref sr), (.int (6 : Int32)), (.int (bs.length.toInt32)), (.int k0), (.int k1), (.int k2), (.int ln), (.int bb), (.int pt), (.int (own_nd pt))] [] (own_ok l Z a0 hw sr nb bs fo (6 : Int32) (bs.length.toInt32) k0 k1 k2 ln bb pt (own_nd pt) cs h0 n0 (Sd.le X) P0 P1 P2 P3 P4 P5 (by first | assumption | decide | (simp; done) | omega) (by first | assumption | decide | (simp; done) | omega) (by first | assumption | decide | (simp; done) | omega) (by first | assumption | decide | (simp; done) | omega) (by first | assumption | decide | (simp; done) | omega) (by first | assumption | decide | (simp; done) | omega) (H (6 : Int32) (by decide))) (own_wd hw 230 rfl) (own_wd hw 231 rfl) (own_wd hw 2 rfl) (own_wd hw 232 rfl) (by decide) own_pd33 rfl rfl at_384 rfl (W := 0) (Nat.le_of_eq rfl) (by decide) (by decide) (by decide) (by decide) (n := 387) rfl ?_
                  rintro T _ _ ⟨rfl, rfl⟩ X
                  refine gIf_eq X w at_387 (n := 498) (n' := 390) (by decide) rfl rfl ?_ ?_
                  · rintro ⟨c387, c387'⟩
                    exact absurd c387 (by decide)
                  · rintro ⟨c387, c387'⟩
                    refine gAload X w at_390 rfl rfl (n := 392) rfl ?_
                    refine gBipush X w at_392 (z := (7 : Int32)) (by decide) (n := 394) rfl ?_
                    refine gIload X w at_394 rfl (n := 396) rfl ?_
                    refine gIload X w at_396 rfl (n := 398) rfl ?_
                    refine gIload X w at_398 rfl (n := 400) rfl ?_
                    refine gIload X w at_400 rfl (n := 402) rfl ?_
                    refine gIload X w at_402 rfl (n := 404) rfl ?_
                    refine gIload X w at_404 rfl (n := 406) rfl ?_
                    refine gIload X w at_406 rfl (n := 408) rfl ?_
                    refine gIload X w at_408 rfl (n := 410) rfl ?_
                    refine gCallSv X w [(.ref sr), (.int (7 : Int32)), (.int (bs.length.toInt32)), (.int k0), (.int k1), (.int k2), (.int ln), (.int bb), (.int pt), (.int (own_nd pt))] [] (own_ok l Z a0 hw sr nb bs fo (7 : Int32) (bs.length.toInt32) k0 k1 k2 ln bb pt (own_nd pt) cs h0 n0 (Sd.le X) P0 P1 P2 P3 P4 P5 (by first | assumption | decide | (simp; done) | omega) (by first | assumption | decide | (simp; done) | omega) (by first | assumption | decide | (simp; done) | omega) (by first | assumption | decide | (simp; done) | omega) (by first | assumption | decide | (simp; done) | omega) (by first | assumption | decide | (simp; done) | omega) (H (7 : Int32) (by decide))) (own_wd hw 230 rfl) (own_wd hw 231 rfl) (own_wd hw 2 rfl) (own_wd hw 232 rfl) (by decide) own_pd33 rfl rfl at_410 rfl (W := 0) (Nat.le_of_eq rfl) (by decide) (by decide) (by decide) (by decide) (n := 413) rfl ?_
                    rintro T _ _ ⟨rfl, rfl⟩ X
                    refine gIf_eq X w at_413 (n := 498) (n' := 416) (by decide) rfl rfl ?_ ?_
                    · rintro ⟨c413, c413'⟩
                      exact absurd c413 (by decide)
                    · rintro ⟨c413, c413'⟩
                      refine gAload X w at_416 rfl rfl (n := 418) rfl ?_
                      refine gBipush X w at_418 (z := (8 : Int32)) (by decide) (n := 420) rfl ?_
                      refine gIload X w at_420 rfl (n := 422) rfl ?_
                      refine gIload X w at_422 rfl (n := 424) rfl ?_
                      refine gIload X w at_424 rfl (n := 426) rfl ?_
                      refine gIload X w at_426 rfl (n := 428) rfl ?_
                      refine gIload X w at_428 rfl (n := 430) rfl ?_
                      refine gIload X w at_430 rfl (n := 432) rfl ?_
                      refine gIload X w at_432 rfl (n := 434) rfl ?_
                      refine gIload X w at_434 rfl (n := 436) rfl ?_
                      refine gCallSv X w [(.ref sr), (.int (8 : Int32)), (.int (bs.length.toInt32)), (.int k0), (.int k1), (.int k2), (.int ln), (.int bb), (.int pt), (.int (own_nd pt))] [] (own_ok l Z a0 hw sr nb bs fo (8 : Int32) (bs.length.toInt32) k0 k1 k2 ln bb pt (own_nd pt) cs h0 n0 (Sd.le X) P0 P1 P2 P3 P4 P5 (by first | assumption | decide | (simp; done) | omega) (by first | assumption | decide | (simp; done) | omega) (by first | assumption | decide | (simp; done) | omega) (by first | assumption | decide | (simp; done) | omega) (by first | assumption | decide | (simp; done) | omega) (by first | assumption | decide | (simp; done) | omega) (H (8 : Int32) (by decide))) (own_wd hw 230 rfl) (own_wd hw 231 rfl) (own_wd hw 2 rfl) (own_wd hw 232 rfl) (by decide) own_pd33 rfl rfl at_436 rfl (W := 0) (Nat.le_of_eq rfl) (by decide) (by decide) (by decide) (by decide) (n := 439) rfl ?_
                      rintro T _ _ ⟨rfl, rfl⟩ X
                      refine gIf_eq X w at_439 (n := 498) (n' := 442) (by decide) rfl rfl ?_ ?_
                      · rintro ⟨c439, c439'⟩
                        exact absurd c439 (by decide)
                      · rintro ⟨c439, c439'⟩
                        refine gAload X w at_442 rfl rfl (n := 444) rfl ?_
                        refine gBipush X w at_444 (z := (9 : Int32)) (by decide) (n := 446) rfl ?_
                        refine gIload X w at_446 rfl (n := 448) rfl ?_
                        refine gIload X w at_448 rfl (n := 450) rfl ?_
                        refine gIload X w at_450 rfl (n := 452) rfl ?_
                        refine gIload X w at_452 rfl (n := 454) rfl ?_
                        refine gIload X w at_454 rfl (n := 456) rfl ?_
                        refine gIload X w at_456 rfl (n := 458) rfl ?_
                        refine gIload X w at_458 rfl (n := 460) rfl ?_
                        refine gIload X w at_460 rfl (n := 462) rfl ?_
                        refine gCallSv X w [(.ref sr), (.int (9 : Int32)), (.int (bs.length.toInt32)), (.int k0), (.int k1), (.int k2), (.int ln), (.int bb), (.int pt), (.int (own_nd pt))] [] (own_ok l Z a0 hw sr nb bs fo (9 : Int32) (bs.length.toInt32) k0 k1 k2 ln bb pt (own_nd pt) cs h0 n0 (Sd.le X) P0 P1 P2 P3 P4 P5 (by first | assumption | decide | (simp; done) | omega) (by first | assumption | decide | (simp; done) | omega) (by first | assumption | decide | (simp; done) | omega) (by first | assumption | decide | (simp; done) | omega) (by first | assumption | decide | (simp; done) | omega) (by first | assumption | decide | (simp; done) | omega) (H (9 : Int32) (by decide))) (own_wd hw 230 rfl) (own_wd hw 231 rfl) (own_wd hw 2 rfl) (own_wd hw 232 rfl) (by decide) own_pd33 rfl rfl at_462 rfl (W := 0) (Nat.le_of_eq rfl) (by decide) (by decide) (by decide) (by decide) (n := 465) rfl ?_
                        rintro T _ _ ⟨rfl, rfl⟩ X
                        refine gIf_eq X w at_465 (n := 498) (n' := 468) (by decide) rfl rfl ?_ ?_
                        · rintro ⟨c465, c465'⟩
                          exact absurd c465 (by decide)
                        · rintro ⟨c465, c465'⟩
                          refine gAload X w at_468 rfl rfl (n := 470) rfl ?_
                          refine gBipush X w at_470 (z := (10 : Int32)) (by decide) (n := 472) rfl ?_
                          refine gIload X w at_472 rfl (n := 474) rfl ?_
                          refine gIload X w at_474 rfl (n := 476) rfl ?_
                          refine gIload X w at_476 rfl (n := 478) rfl ?_
                          refine gIload X w at_478 rfl (n := 480) rfl ?_
                          refine gIload X w at_480 rfl (n := 482) rfl ?_
                          refine gIload X w at_482 rfl (n := 484) rfl ?_
                          refine gIload X w at_484 rfl (n := 486) rfl ?_
                          refine gIload X w at_486 rfl (n := 488) rfl ?_
                          refine gCallSv X w [(.ref sr), (.int (10 : Int32)), (.int (bs.length.toInt32)), (.int k0), (.int k1), (.int k2), (.int ln), (.int bb), (.int pt), (.int (own_nd pt))] [] (own_ok l Z a0 hw sr nb bs fo (10 : Int32) (bs.length.toInt32) k0 k1 k2 ln bb pt (own_nd pt) cs h0 n0 (Sd.le X) P0 P1 P2 P3 P4 P5 (by first | assumption | decide | (simp; done) | omega) (by first | assumption | decide | (simp; done) | omega) (by first | assumption | decide | (simp; done) | omega) (by first | assumption | decide | (simp; done) | omega) (by first | assumption | decide | (simp; done) | omega) (by first | assumption | decide | (simp; done) | omega) (H (10 : Int32) (by decide))) (own_wd hw 230 rfl) (own_wd hw 231 rfl) (own_wd hw 2 rfl) (own_wd hw 232 rfl) (by decide) own_pd33 rfl rfl at_488 rfl (W := 0) (Nat.le_of_eq rfl) (by decide) (by decide) (by decide) (by decide) (n := 491) rfl ?_
                          rintro T _ _ ⟨rfl, rfl⟩ X
                          refine gIf_eq X w at_491 (n := 498) (n' := 494) (by decide) rfl rfl ?_ ?_
                          · rintro ⟨c491, c491'⟩
                            exact absurd c491 (by decide)
                          · rintro ⟨c491, c491'⟩
                            refine gIconst X w at_494 (z := (1 : Int32)) rfl (n := 495) rfl ?_
                            refine gGoto X w at_495 (by decide) (n := 499) rfl ?_
                            exact gRetZ X w rfl (Or.inr rfl) at_499 (by decide) (by decide) (rfl)
    · rintro ⟨c209, c209'⟩
      exact absurd rfl c209
  refine gIload X w at_182 rfl (n := 184) rfl ?_
  refine gIload X w at_184 rfl (n := 186) rfl ?_
  refine gIf_eq X w at_186 (n := 193) (n' := 189) (by decide) rfl rfl ?_ ?_
  · rintro ⟨c186, c186'⟩
    refine gIconst X w at_193 (z := (0 : Int32)) rfl (n := 194) rfl ?_
    obtain ⟨x194, q194⟩ : ∃ zz_ : Int32, ln + (0 : Int32) = zz_ := ⟨_, rfl⟩
    refine gIadd X w at_194 q194 (n := 195) rfl ?_
    refine gIconst X w at_195 (z := (1 : Int32)) rfl (n := 196) rfl ?_
    obtain ⟨x196, q196⟩ : ∃ zz_ : Int32, x194 + (1 : Int32) = zz_ := ⟨_, rfl⟩
    refine gIadd X w at_196 q196 (n := 197) rfl ?_
    refine gIload X w at_197 rfl (n := 199) rfl ?_
    refine gIadd X w at_199 (z := (bs.length.toInt32)) (by rw [← q196, ← q194]; exact he0 c186) (n := 200) rfl ?_
    exact tail2
  · rintro ⟨c186, c186'⟩
    refine gIconst X w at_189 (z := (2 : Int32)) rfl (n := 190) rfl ?_
    refine gGoto X w at_190 (by decide) (n := 194) rfl ?_
    obtain ⟨x194, q194⟩ : ∃ zz_ : Int32, ln + (2 : Int32) = zz_ := ⟨_, rfl⟩
    refine gIadd X w at_194 q194 (n := 195) rfl ?_
    refine gIconst X w at_195 (z := (1 : Int32)) rfl (n := 196) rfl ?_
    obtain ⟨x196, q196⟩ : ∃ zz_ : Int32, x194 + (1 : Int32) = zz_ := ⟨_, rfl⟩
    refine gIadd X w at_196 q196 (n := 197) rfl ?_
    refine gIload X w at_197 rfl (n := 199) rfl ?_
    refine gIadd X w at_199 (z := (bs.length.toInt32)) (by rw [← q196, ← q194]; exact he1 c186) (n := 200) rfl ?_
    exact tail2
set_option maxRecDepth 65536 in
set_option maxHeartbeats 40000000 in
theorem own_law (l : Launch) (Z : State) (a0 : Array Value) (hw : ∀ d ∈ tables_1, d.before a0 Z = true) (p1 p2 p3 p4 p5 : Int32) (ccs : Int32) (fo : Value) (on te : Addr) (ons tes : List Value) (h0 : Heap) (n0 : Nat) {D : Addr → Prop} (hn : n0 ≤ h0.size) (Scs : Sta Z h0 "java/lang/String" "COMPACT_STRINGS" "Z" (.int ccs)) (hcs : ¬ ccs = 0) (Sfo : Sta Z h0 "jdk/internal/util/Preconditions" "SIOOBE_FORMATTER" "Ljava/util/function/BiFunction;" fo) (hfc : fo.category = 1) (Son : Sta Z h0 "java/lang/Integer" "DigitOnes" "[B" (.ref on)) (Ste : Sta Z h0 "java/lang/Integer" "DigitTens" "[B" (.ref te)) (Von : Av Z h0 on .byte ons) (Vte : Av Z h0 te .byte tes) (hon : ∀ j : Int32, 0 ≤ j.toInt → j.toInt < 100 → ons[j.toInt.toNat]? = some (.int (48 + j % 10))) (hte : ∀ j : Int32, 0 ≤ j.toInt → j.toInt < 100 → tes[j.toInt.toNat]? = some (.int (48 + j / 10))) :
    Con l Z x code maxLocals ret tables_1 room_1 40 3328 #[(.int p1), (.int p2), (.int p3), (.int p4), (.int p5)] h0 n0 D (fun r h _ => r = some (.int 1)) := by
  refine Con.of (plainFor_of_name (by first | (simp [plainName, overriddenIn]; done) | decide +kernel)) hn ?_
  intro p e s m below meth c T w X
  refine Gl.enter (ls := #[.val (.int p1), .val (.int p2), .val (.int p3), .val (.int p4), .val (.int p5), .unset, .unset, .unset, .unset, .unset, .unset, .unset, .unset, .unset, .unset]) (by first | (simp [entryFrame, mkF, argsToLocals, Value.category, maxLocals]; done) | rfl) ?_
  have hn3 := own_mod3 p4
  rcases hn3 with hr3 | hr3 | hr3
  · skip
    refine gIloadN X w at_0 rfl (n := 1) rfl ?_
    refine gCallSv X w [(.int p1)] [] (own_pick l Z a0 hw p1 h0 n0 (Sd.le X) ) (own_wd hw 0 rfl) (own_wd hw 1 rfl) (own_wd hw 2 rfl) (own_wd hw 3 rfl) (by decide) own_pd28 rfl rfl at_1 rfl (W := 0) (Nat.le_of_eq rfl) (by decide) (by decide) (by decide) (by decide) (n := 4) rfl ?_
    rintro T _ _ ⟨rfl, z_1, rfl, hz_1⟩ X
    refine gIstore X w at_4 #[.val (.int p1), .val (.int p2), .val (.int p3), .val (.int p4), .val (.int p5), .val (.int z_1), .unset, .unset, .unset, .unset, .unset, .unset, .unset, .unset, .unset] rfl (n := 6) rfl ?_
    refine gIloadN X w at_6 rfl (n := 7) rfl ?_
    refine gCallSv X w [(.int p2)] [] (own_pick l Z a0 hw p2 h0 n0 (Sd.le X) ) (own_wd hw 0 rfl) (own_wd hw 1 rfl) (own_wd hw 2 rfl) (own_wd hw 3 rfl) (by decide) own_pd28 rfl rfl at_7 rfl (W := 0) (Nat.le_of_eq rfl) (by decide) (by decide) (by decide) (by decide) (n := 10) rfl ?_
    rintro T _ _ ⟨rfl, z_2, rfl, hz_2⟩ X
    refine gIstore X w at_10 #[.val (.int p1), .val (.int p2), .val (.int p3), .val (.int p4), .val (.int p5), .val (.int z_1), .val (.int z_2), .unset, .unset, .unset, .unset, .unset, .unset, .unset, .unset] rfl (n := 12) rfl ?_
    refine gIloadN X w at_12 rfl (n := 13) rfl ?_
    refine gCallSv X w [(.int p3)] [] (own_pick l Z a0 hw p3 h0 n0 (Sd.le X) ) (own_wd hw 0 rfl) (own_wd hw 1 rfl) (own_wd hw 2 rfl) (own_wd hw 3 rfl) (by decide) own_pd28 rfl rfl at_13 rfl (W := 0) (Nat.le_of_eq rfl) (by decide) (by decide) (by decide) (by decide) (n := 16) rfl ?_
    rintro T _ _ ⟨rfl, z_3, rfl, hz_3⟩ X
    refine gIstore X w at_16 #[.val (.int p1), .val (.int p2), .val (.int p3), .val (.int p4), .val (.int p5), .val (.int z_1), .val (.int z_2), .val (.int z_3), .unset, .unset, .unset, .unset, .unset, .unset, .unset] rfl (n := 18) rfl ?_
    refine gIloadN X w at_18 rfl (n := 19) rfl ?_
    refine gLdc X w (own_wd hw 4 rfl) at_19 (n := 21) rfl ?_
    refine gIand X w at_21 rfl (n := 22) rfl ?_
    refine gIconst X w at_22 (z := (3 : Int32)) rfl (n := 23) rfl ?_
    refine gIrem X w at_23 (by decide) hr3 (n := 24) rfl ?_
    refine gIconst X w at_24 (z := (1 : Int32)) rfl (n := 25) rfl ?_
    refine gIadd X w at_25 (z := (1 : Int32)) (by decide) (n := 26) rfl ?_
    refine gIstore X w at_26 #[.val (.int p1), .val (.int p2), .val (.int p3), .val (.int p4), .val (.int p5), .val (.int z_1), .val (.int z_2), .val (.int z_3), .val (.int (1 : Int32)), .unset, .unset, .unset, .unset, .unset, .unset] rfl (n := 28) rfl ?_
    refine gIload X w at_28 rfl (n := 30) rfl ?_
    refine gLdc X w (own_wd hw 5 rfl) at_30 (n := 32) rfl ?_
    obtain ⟨x32, q32⟩ : ∃ zz_ : Int32, p5 &&& (65535 : Int32) = zz_ := ⟨_, rfl⟩
    refine gIand X w at_32 q32 (n := 33) rfl ?_
    have hpt := own_pt q32
    refine gIstore X w at_33 #[.val (.int p1), .val (.int p2), .val (.int p3), .val (.int p4), .val (.int p5), .val (.int z_1), .val (.int z_2), .val (.int z_3), .val (.int (1 : Int32)), .val (.int x32), .unset, .unset, .unset, .unset, .unset] rfl (n := 35) rfl ?_
    refine gIload X w at_35 rfl (n := 37) rfl ?_
    refine gIconst X w at_37 (z := (1 : Int32)) rfl (n := 38) rfl ?_
    refine gIcmp_ne X w at_38 (n := 61) (n' := 41) (by decide) rfl rfl ?_ ?_
    · rintro ⟨c38, c38'⟩
      exact absurd c38 (by decide)
    · rintro ⟨c38, c38'⟩
      refine gNew X w (own_wd hw 6 rfl) (own_wd hw 7 rfl) (own_wd hw 8 rfl) at_41 (by decide) (by decide) (n := 44) rfl ?_
      intro T hp41 ad41 ea41 na41 X E41 A41 D41
      have ne_on_ad41 : on ≠ ad41 := neOf Von.lt (Nat.le_of_eq ea41.symm)
      have ne_te_ad41 : te ≠ ad41 := neOf Vte.lt (Nat.le_of_eq ea41.symm)
      have F_4 := Scs.ext E41
      have F_5 := Sfo.ext E41
      have F_6 := Son.ext E41
      have F_7 := Ste.ext E41
      have F_8 := Von.ext E41
      have F_9 := Vte.ext E41
      have F_10 : Fld Z hp41 ad41 "java/lang/String" "coder" "B" (.int (0 : Int32)) := D41 (Or.inr (own_wd hw 33 rfl)) (ty := .byte) (by decide)
      have F_11 : Fld Z hp41 ad41 "java/lang/String" "value" "[B" .null := D41 (Or.inr (own_wd hw 35 rfl)) (ty := (.array .byte)) (by decide)
      refine gDup X w at_44 rfl (n := 45) rfl ?_
      refine gIconst X w at_45 (z := (1 : Int32)) rfl (n := 46) rfl ?_
      refine gNewP X w (own_wd hw 9 rfl) at_46 (by decide) (cap := 1) (by decide) (by decide) (by decide) (by decide) (vs := [(.int (0 : Int32))]) (ty := .char) rfl rfl (ad := "[C") (by decide) (n := 48) rfl ?_
      intro T hp46 ad46 ea46 na46 X E46 V46 A46
      have ne_on_ad46 : on ≠ ad46 := neOf F_8.lt (Nat.le_of_eq ea46.symm)
      have ne_te_ad46 : te ≠ ad46 := neOf F_9.lt (Nat.le_of_eq ea46.symm)
      have ne_ad41_ad46 : ad41 ≠ ad46 := neOf A41.lt (Nat.le_of_eq ea46.symm)
      have F_12 := F_4.ext E46
      have F_13 := F_5.ext E46
      have F_14 := F_6.ext E46
      have F_15 := F_7.ext E46
      have F_16 := F_8.ext E46
      have F_17 := F_9.ext E46
      have F_18 := A41.ext E46
      have F_19 := F_10.ext E46
      have F_20 := F_11.ext E46
      refine gDup X w at_48 rfl (n := 49) rfl ?_
      refine gIconst X w at_49 (z := (0 : Int32)) rfl (n := 50) rfl ?_
      refine gIload X w at_50 rfl (n := 52) rfl ?_
      refine gCastore X w (z := (.int z_1)) V46 (by decide) (show (0 : Int) < ((1 : Nat) : Int) from by decide) na46 (congrArg Value.int (own_narc hz_1)) (vs' := [(.int z_1)]) rfl at_52 (n := 53) rfl ?_
      intro T hp52 X W52 V52
      have F_21 := F_12.wr W52
      have F_22 := F_13.wr W52
      have F_23 := F_14.wr W52
      have F_24 := F_15.wr W52
      have F_25 := F_16.other W52 ne_on_ad46
      have F_26 := F_17.other W52 ne_te_ad46
      have F_27 := F_18.wr W52
      have F_28 := F_19.other W52 (Or.inl ne_ad41_ad46)
      have F_29 := F_20.other W52 (Or.inl ne_ad41_ad46)
      have F_30 := A46.wr W52
      refine gCallIn X w [(.ref ad46)] [(.ref ad41)] rfl (own_sinit_1 l Z a0 hw ad41 ad46 z_1 ccs hp52 n0 (Sd.le X) F_27 F_29 F_28 V52 F_21 (by first | assumption | decide | (simp; done) | omega) (by first | assumption | decide | (simp; done) | omega) (Ne.symm ne_ad41_ad46) na41) (own_wd hw 10 rfl) (own_wd hw 11 rfl) (own_wd hw 8 rfl) (own_wd hw 12 rfl) (by decide) own_pd34 rfl rfl at_53 rfl (W := 1) (Nat.le_of_eq rfl) (by decide) (by decide) (by decide) (by decide) (n := 56) rfl ?_
      rintro T h_31 ⟨K_31, b_31, g_b_31, na_b_31, Q0_31, Q1_31, Q2_31, Q3_31⟩ X
      have ne_on_b_31 : on ≠ b_31 := neOf F_25.lt g_b_31
      have ne_te_b_31 : te ≠ b_31 := neOf F_26.lt g_b_31
      have ne_ad41_b_31 : ad41 ≠ b_31 := neOf F_27.lt g_b_31
      have ne_ad46_b_31 : ad46 ≠ b_31 := neOf F_30.lt g_b_31
      have F_32 := staKeep F_21 K_31 (allS (Exa.nostat F_27) all0)
      have F_33 := staKeep F_22 K_31 (allS (Exa.nostat F_27) all0)
      have F_34 := staKeep F_23 K_31 (allS (Exa.nostat F_27) all0)
      have F_35 := staKeep F_24 K_31 (allS (Exa.nostat F_27) all0)
      have F_36 := F_25.keep K_31 (ninS ne_on_ad41 nin0)
      have F_37 := F_26.keep K_31 (ninS ne_te_ad41 nin0)
      have F_38 := F_27.keep K_31
      have F_39 := F_30.keep K_31
      have F_40 := V52.keep K_31 (ninS (Ne.symm ne_ad41_ad46) nin0)
      refine gAstore X w at_56 rfl #[.val (.int p1), .val (.int p2), .val (.int p3), .val (.int p4), .val (.int p5), .val (.int z_1), .val (.int z_2), .val (.int z_3), .val (.int (1 : Int32)), .val (.int x32), .val (.ref ad41), .unset, .unset, .unset, .unset] rfl (n := 58) rfl ?_
      refine gGoto X w at_58 (by decide) (n := 119) rfl ?_
      refine gNew X w (own_wd hw 36 rfl) (own_wd hw 37 rfl) (own_wd hw 38 rfl) at_119 (by decide) (by decide) (n := 122) rfl ?_
      intro T hp119 ad119 ea119 na119 X E119 A119 D119
      have ne_on_ad119 : on ≠ ad119 := neOf F_36.lt (Nat.le_of_eq ea119.symm)
      have ne_te_ad119 : te ≠ ad119 := neOf F_37.lt (Nat.le_of_eq ea119.symm)
      have ne_ad41_ad119 : ad41 ≠ ad119 := neOf F_38.lt (Nat.le_of_eq ea119.symm)
      have ne_ad46_ad119 : ad46 ≠ ad119 := neOf F_39.lt (Nat.le_of_eq ea119.symm)
      have ne_b_31_ad119 : b_31 ≠ ad119 := neOf Q2_31.lt (Nat.le_of_eq ea119.symm)
      have F_41 := F_32.ext E119
      have F_42 := F_33.ext E119
      have F_43 := F_34.ext E119
      have F_44 := F_35.ext E119
      have F_45 := F_36.ext E119
      have F_46 := F_37.ext E119
      have F_47 := F_38.ext E119
      have F_48 := F_39.ext E119
      have F_49 := F_40.ext E119
      have F_50 := Q0_31.ext E119
      have F_51 := Q1_31.ext E119
      have F_52 := Q2_31.ext E119
      have F_53 := Q3_31.ext E119
      have F_54 : Fld Z hp119 ad119 "com/example/tidemark/tidemark/protocol/HostPort" "host" "Ljava/lang/String;" .null := D119 (Or.inr (own_wd hw 65 rfl)) (ty := (.object "java/lang/String")) (by decide)
      have F_55 : Fld Z hp119 ad119 "com/example/tidemark/tidemark/protocol/HostPort" "port" "I" (.int (0 : Int32)) := D119 (Or.inr (own_wd hw 67 rfl)) (ty := .int) (by decide)
      refine gDup X w at_122 rfl (n := 123) rfl ?_
      refine gAload X w at_123 rfl rfl (n := 125) rfl ?_
      refine gIload X w at_125 rfl (n := 127) rfl ?_
      refine gCallIn X w [(.ref ad41), (.int x32)] [(.ref ad119)] rfl (own_hinit l Z a0 hw ad119 ad41 x32 b_31 [(.int (own_bt z_1))] ccs hp119 n0 (Sd.le X) A119 F_54 F_55 F_47 F_50 F_51 F_52 F_41 (by first | assumption | decide | (simp; done) | omega) (by first | assumption | decide | (simp; done) | omega) (by show ¬ ((1 : Nat).toInt32 = (0 : Int32)); decide) (by show ((1 : Nat).toInt32).toInt ≤ 255; decide) ne_ad41_ad119 ne_b_31_ad119 na119) (own_wd hw 39 rfl) (own_wd hw 40 rfl) (own_wd hw 38 rfl) (own_wd hw 41 rfl) (by decide) own_pd35 rfl rfl at_127 rfl (W := 1) (Nat.le_of_eq rfl) (by decide) (by decide) (by decide) (by decide) (n := 130) rfl ?_
      rintro T h_56 ⟨K_56, Q0_56, Q1_56⟩ X
      have F_57 := staKeep F_41 K_56 (allS (Exa.nostat A119) all0)
      have F_58 := staKeep F_42 K_56 (allS (Exa.nostat A119) all0)
      have F_59 := staKeep F_43 K_56 (allS (Exa.nostat A119) all0)
      have F_60 := staKeep F_44 K_56 (allS (Exa.nostat A119) all0)
      have F_61 := F_45.keep K_56 (ninS ne_on_ad119 nin0)
      have F_62 := F_46.keep K_56 (ninS ne_te_ad119 nin0)
      have F_63 := F_47.keep K_56
      have F_64 := F_48.keep K_56
      have F_65 := F_49.keep K_56 (ninS ne_ad46_ad119 nin0)
      have F_66 := F_50.keep K_56 (ninS ne_ad41_ad119 nin0)
      have F_67 := F_51.keep K_56 (ninS ne_ad41_ad119 nin0)
      have F_68 := F_52.keep K_56 (ninS ne_b_31_ad119 nin0)
      have F_69 := F_53.keep K_56
      have F_70 := A119.keep K_56
      rcases Classical.em (own_col [Value.int (own_bt z_1)]) with hbr | hbr
      · skip
        refine gCallVvL X w [] [] F_70 (own_hts_1 l Z a0 hw ad119 ad41 x32 b_31 [(.int (own_bt z_1))] ccs on te ons tes h_56 n0 (Sd.le X) F_70 Q0_56 Q1_56 F_63 F_66 F_67 F_68 F_57 F_59 F_60 F_61 F_62 (by first | assumption | decide | (simp; done) | omega) (by first | assumption | decide | (simp; done) | omega) (by first | assumption | decide | (simp; done) | omega) (by first | assumption | decide | (simp; done) | omega) (Or.inl ⟨_, rfl⟩) (by show (1 : Nat) ≤ 3; decide) (by intro v hv; simp only [List.mem_cons, List.not_mem_nil, or_false] at hv; rcases hv with rfl <;> first | decide | exact own_fitbt _ | assumption) hbr) (own_wd hw 68 rfl) (own_wd hw 69 rfl) (fun vm0 hS => notFace_of_selects (args := #[]) (mvT (State.Warmed39.trans w.2.2.1 hS.1) (own_wd hw 71 rfl))) (own_wd hw 71 rfl) (own_wd hw 70 rfl) (own_wd hw 38 rfl) (own_wd hw 72 rfl) (by decide) own_pd24 rfl rfl at_130 rfl (W := 0) (Nat.le_of_eq rfl) (by decide) (by decide) (by decide) (by decide) (n := 133) rfl ?_
        rintro T h_71 _ D_71 ⟨R_71, K_71, sr_71, nb_71, rfl, g_sr_71, na_sr_71, g_nb_71, na_nb_71, Q0_71, Q1_71, Q2_71, Q3_71⟩ X
        have F_72 := R_71 na41 F_63.lt
        have F_73 := R_71 na46 F_64.lt
        have F_74 := R_71 na_b_31 F_68.lt
        have F_75 := R_71 na119 F_70.lt
        have ne_on_sr_71 : on ≠ sr_71 := neOf F_61.lt g_sr_71
        have ne_te_sr_71 : te ≠ sr_71 := neOf F_62.lt g_sr_71
        have ne_ad41_sr_71 : ad41 ≠ sr_71 := neOf F_63.lt g_sr_71
        have ne_ad46_sr_71 : ad46 ≠ sr_71 := neOf F_64.lt g_sr_71
        have ne_b_31_sr_71 : b_31 ≠ sr_71 := neOf F_68.lt g_sr_71
        have ne_ad119_sr_71 : ad119 ≠ sr_71 := neOf F_70.lt g_sr_71
        have ne_on_nb_71 : on ≠ nb_71 := neOf F_61.lt g_nb_71
        have ne_te_nb_71 : te ≠ nb_71 := neOf F_62.lt g_nb_71
        have ne_ad41_nb_71 : ad41 ≠ nb_71 := neOf F_63.lt g_nb_71
        have ne_ad46_nb_71 : ad46 ≠ nb_71 := neOf F_64.lt g_nb_71
        have ne_b_31_nb_71 : b_31 ≠ nb_71 := neOf F_68.lt g_nb_71
        have ne_ad119_nb_71 : ad119 ≠ nb_71 := neOf F_70.lt g_nb_71
        have F_76 := staKeep F_57 K_71 all0
        have F_77 := staKeep F_58 K_71 all0
        have F_78 := staKeep F_59 K_71 all0
        have F_79 := staKeep F_60 K_71 all0
        have F_80 := F_61.keep K_71 nin0
        have F_81 := F_62.keep K_71 nin0
        have F_82 := F_63.keep K_71
        have F_83 := F_64.keep K_71
        have F_84 := F_65.keep K_71 nin0
        have F_85 := F_66.keep K_71 nin0
        have F_86 := F_67.keep K_71 nin0
        have F_87 := F_68.keep K_71 nin0
        have F_88 := F_69.keep K_71
        have F_89 := F_70.keep K_71
        have F_90 := Q0_56.keep K_71 nin0
        have F_91 := Q1_56.keep K_71 nin0
        refine gAstore X w at_133 rfl #[.val (.int p1), .val (.int p2), .val (.int p3), .val (.int p4), .val (.int p5), .val (.int z_1), .val (.int z_2), .val (.int z_3), .val (.int (1 : Int32)), .val (.int x32), .val (.ref ad41), .val (.ref sr_71), .unset, .unset, .unset] rfl (n := 135) rfl ?_
        have V2 : Av Z h_71 nb_71 .byte (Value.int 91 :: Value.int (own_bt z_1) :: Value.int 93 :: Value.int 58 :: own_dl x32) := Q3_71
        have hbl : ((Value.int 91 :: Value.int (own_bt z_1) :: Value.int 93 :: Value.int 58 :: own_dl x32)).length < 2 ^ 31 := by have := own_dl5 hpt; simp only [List.length_cons]; omega
        have tail : Gl Z p e below s n0 (fun r h _ => r = some (.int 1)) 40 3328 (T.setTop (mkF m 173 #[.val (.int p1), .val (.int p2), .val (.int p3), .val (.int p4), .val (.int p5), .val (.int z_1), .val (.int z_2), .val (.int z_3), .val (.int (1 : Int32)), .val (.int x32), .val (.ref ad41), .val (.ref sr_71), .unset, .unset, .unset] [(.int (1 : Int32))])) := own_tail l Z a0 hw sr_71 nb_71 ad41 (Value.int 91 :: Value.int (own_bt z_1) :: Value.int 93 :: Value.int 58 :: own_dl x32) fo p1 p2 p3 p4 p5 z_1 z_2 z_3 (1 : Int32) (1 : Int32) x32 ccs h_71 n0 Q0_71 Q1_71 Q2_71 V2 F_77 F_76 hz_1 hz_2 hz_3 hcs hpt hbl hfc (fun q => absurd q (by decide)) (fun _ => own_E_1_1 hpt) (own_H_1_1 hz_1 hz_2 hz_3 hpt) w (Sd.mono X (by decide) (by decide))
        refine gIload X w at_135 rfl (n := 137) rfl ?_
        refine gBipush X w at_137 (z := (58 : Int32)) (by decide) (n := 139) rfl ?_
        refine gIcmp_eq X w at_139 (n := 168) (n' := 142) (by decide) rfl rfl ?_ ?_
        · rintro ⟨c139, c139'⟩
          refine gIconst X w at_168 (z := (1 : Int32)) rfl (n := 169) rfl ?_
          refine gGoto X w at_169 (by decide) (n := 173) rfl ?_
          exact tail
        · rintro ⟨c139, c139'⟩
          refine gIload X w at_142 rfl (n := 144) rfl ?_
          refine gIconst X w at_144 (z := (1 : Int32)) rfl (n := 145) rfl ?_
          refine gIcmp_le X w at_145 (n := 155) (n' := 148) (by decide) rfl rfl ?_ ?_
          · intro c145
            refine gIload X w at_155 rfl (n := 157) rfl ?_
            refine gIconst X w at_157 (z := (2 : Int32)) rfl (n := 158) rfl ?_
            refine gIcmp_le X w at_158 (n := 172) (n' := 161) (by decide) rfl rfl ?_ ?_
            · intro c158
              exact ((fun q => c139 (own_bt58 hz_1 q)) (own_colD1 hbr)).elim
            · intro c158
              exact absurd c158 (by decide)
          · intro c145
            exact absurd c145 (by decide)
      · skip
        refine gCallVvL X w [] [] F_70 (own_hts_0 l Z a0 hw ad119 ad41 x32 b_31 [(.int (own_bt z_1))] ccs on te ons tes h_56 n0 (Sd.le X) F_70 Q0_56 Q1_56 F_63 F_66 F_67 F_68 F_57 F_59 F_60 F_61 F_62 (by first | assumption | decide | (simp; done) | omega) (by first | assumption | decide | (simp; done) | omega) (by first | assumption | decide | (simp; done) | omega) (by first | assumption | decide | (simp; done) | omega) (Or.inl ⟨_, rfl⟩) (by show (1 : Nat) ≤ 3; decide) (by intro v hv; simp only [List.mem_cons, List.not_mem_nil, or_false] at hv; rcases hv with rfl <;> first | decide | exact own_fitbt _ | assumption) hbr) (own_wd hw 68 rfl) (own_wd hw 69 rfl) (fun vm0 hS => notFace_of_selects (args := #[]) (mvT (State.Warmed39.trans w.2.2.1 hS.1) (own_wd hw 71 rfl))) (own_wd hw 71 rfl) (own_wd hw 70 rfl) (own_wd hw 38 rfl) (own_wd hw 72 rfl) (by decide) own_pd24 rfl rfl at_130 rfl (W := 0) (Nat.le_of_eq rfl) (by decide) (by decide) (by decide) (by decide) (n := 133) rfl ?_
        rintro T h_92 _ D_92 ⟨R_92, K_92, sr_92, nb_92, rfl, g_sr_92, na_sr_92, g_nb_92, na_nb_92, Q0_92, Q1_92, Q2_92, Q3_92⟩ X
        have F_93 := R_92 na41 F_63.lt
        have F_94 := R_92 na46 F_64.lt
        have F_95 := R_92 na_b_31 F_68.lt
        have F_96 := R_92 na119 F_70.lt
        have ne_on_sr_92 : on ≠ sr_92 := neOf F_61.lt g_sr_92
        have ne_te_sr_92 : te ≠ sr_92 := neOf F_62.lt g_sr_92
        have ne_ad41_sr_92 : ad41 ≠ sr_92 := neOf F_63.lt g_sr_92
        have ne_ad46_sr_92 : ad46 ≠ sr_92 := neOf F_64.lt g_sr_92
        have ne_b_31_sr_92 : b_31 ≠ sr_92 := neOf F_68.lt g_sr_92
        have ne_ad119_sr_92 : ad119 ≠ sr_92 := neOf F_70.lt g_sr_92
        have ne_on_nb_92 : on ≠ nb_92 := neOf F_61.lt g_nb_92
        have ne_te_nb_92 : te ≠ nb_92 := neOf F_62.lt g_nb_92
        have ne_ad41_nb_92 : ad41 ≠ nb_92 := neOf F_63.lt g_nb_92
        have ne_ad46_nb_92 : ad46 ≠ nb_92 := neOf F_64.lt g_nb_92
        have ne_b_31_nb_92 : b_31 ≠ nb_92 := neOf F_68.lt g_nb_92
        have ne_ad119_nb_92 : ad119 ≠ nb_92 := neOf F_70.lt g_nb_92
        have F_97 := staKeep F_57 K_92 all0
        have F_98 := staKeep F_58 K_92 all0
        have F_99 := staKeep F_59 K_92 all0
        have F_100 := staKeep F_60 K_92 all0
        have F_101 := F_61.keep K_92 nin0
        have F_102 := F_62.keep K_92 nin0
        have F_103 := F_63.keep K_92
        have F_104 := F_64.keep K_92
        have F_105 := F_65.keep K_92 nin0
        have F_106 := F_66.keep K_92 nin0
        have F_107 := F_67.keep K_92 nin0
        have F_108 := F_68.keep K_92 nin0
        have F_109 := F_69.keep K_92
        have F_110 := F_70.keep K_92
        have F_111 := Q0_56.keep K_92 nin0
        have F_112 := Q1_56.keep K_92 nin0
        refine gAstore X w at_133 rfl #[.val (.int p1), .val (.int p2), .val (.int p3), .val (.int p4), .val (.int p5), .val (.int z_1), .val (.int z_2), .val (.int z_3), .val (.int (1 : Int32)), .val (.int x32), .val (.ref ad41), .val (.ref sr_92), .unset, .unset, .unset] rfl (n := 135) rfl ?_
        have V2 : Av Z h_92 nb_92 .byte (Value.int (own_bt z_1) :: Value.int 58 :: own_dl x32) := Q3_92
        have hbl : ((Value.int (own_bt z_1) :: Value.int 58 :: own_dl x32)).length < 2 ^ 31 := by have := own_dl5 hpt; simp only [List.length_cons]; omega
        have tail : Gl Z p e below s n0 (fun r h _ => r = some (.int 1)) 40 3328 (T.setTop (mkF m 173 #[.val (.int p1), .val (.int p2), .val (.int p3), .val (.int p4), .val (.int p5), .val (.int z_1), .val (.int z_2), .val (.int z_3), .val (.int (1 : Int32)), .val (.int x32), .val (.ref ad41), .val (.ref sr_92), .unset, .unset, .unset] [(.int (0 : Int32))])) := own_tail l Z a0 hw sr_92 nb_92 ad41 (Value.int (own_bt z_1) :: Value.int 58 :: own_dl x32) fo p1 p2 p3 p4 p5 z_1 z_2 z_3 (1 : Int32) (0 : Int32) x32 ccs h_92 n0 Q0_92 Q1_92 Q2_92 V2 F_98 F_97 hz_1 hz_2 hz_3 hcs hpt hbl hfc (fun _ => own_E_1_0 hpt) (fun q => absurd rfl q) (own_H_1_0 hz_1 hz_2 hz_3 hpt) w (Sd.mono X (by decide) (by decide))
        refine gIload X w at_135 rfl (n := 137) rfl ?_
        refine gBipush X w at_137 (z := (58 : Int32)) (by decide) (n := 139) rfl ?_
        refine gIcmp_eq X w at_139 (n := 168) (n' := 142) (by decide) rfl rfl ?_ ?_
        · rintro ⟨c139, c139'⟩
          exact absurd (own_colT1 (own_58bt c139)) hbr
        · rintro ⟨c139, c139'⟩
          refine gIload X w at_142 rfl (n := 144) rfl ?_
          refine gIconst X w at_144 (z := (1 : Int32)) rfl (n := 145) rfl ?_
          refine gIcmp_le X w at_145 (n := 155) (n' := 148) (by decide) rfl rfl ?_ ?_
          · intro c145
            refine gIload X w at_155 rfl (n := 157) rfl ?_
            refine gIconst X w at_157 (z := (2 : Int32)) rfl (n := 158) rfl ?_
            refine gIcmp_le X w at_158 (n := 172) (n' := 161) (by decide) rfl rfl ?_ ?_
            · intro c158
              refine gIconst X w at_172 (z := (0 : Int32)) rfl (n := 173) rfl ?_
              exact tail
            · intro c158
              exact absurd c158 (by decide)
          · intro c145
            exact absurd c145 (by decide)
  · skip
    refine gIloadN X w at_0 rfl (n := 1) rfl ?_
    refine gCallSv X w [(.int p1)] [] (own_pick l Z a0 hw p1 h0 n0 (Sd.le X) ) (own_wd hw 0 rfl) (own_wd hw 1 rfl) (own_wd hw 2 rfl) (own_wd hw 3 rfl) (by decide) own_pd28 rfl rfl at_1 rfl (W := 0) (Nat.le_of_eq rfl) (by decide) (by decide) (by decide) (by decide) (n := 4) rfl ?_
    rintro T _ _ ⟨rfl, z_1, rfl, hz_1⟩ X
    refine gIstore X w at_4 #[.val (.int p1), .val (.int p2), .val (.int p3), .val (.int p4), .val (.int p5), .val (.int z_1), .unset, .unset, .unset, .unset, .unset, .unset, .unset, .unset, .unset] rfl (n := 6) rfl ?_
    refine gIloadN X w at_6 rfl (n := 7) rfl ?_
    refine gCallSv X w [(.int p2)] [] (own_pick l Z a0 hw p2 h0 n0 (Sd.le X) ) (own_wd hw 0 rfl) (own_wd hw 1 rfl) (own_wd hw 2 rfl) (own_wd hw 3 rfl) (by decide) own_pd28 rfl rfl at_7 rfl (W := 0) (Nat.le_of_eq rfl) (by decide) (by decide) (by decide) (by decide) (n := 10) rfl ?_
    rintro T _ _ ⟨rfl, z_2, rfl, hz_2⟩ X
    refine gIstore X w at_10 #[.val (.int p1), .val (.int p2), .val (.int p3), .val (.int p4), .val (.int p5), .val (.int z_1), .val (.int z_2), .unset, .unset, .unset, .unset, .unset, .unset, .unset, .unset] rfl (n := 12) rfl ?_
    refine gIloadN X w at_12 rfl (n := 13) rfl ?_
    refine gCallSv X w [(.int p3)] [] (own_pick l Z a0 hw p3 h0 n0 (Sd.le X) ) (own_wd hw 0 rfl) (own_wd hw 1 rfl) (own_wd hw 2 rfl) (own_wd hw 3 rfl) (by decide) own_pd28 rfl rfl at_13 rfl (W := 0) (Nat.le_of_eq rfl) (by decide) (by decide) (by decide) (by decide) (n := 16) rfl ?_
    rintro T _ _ ⟨rfl, z_3, rfl, hz_3⟩ X
    refine gIstore X w at_16 #[.val (.int p1), .val (.int p2), .val (.int p3), .val (.int p4), .val (.int p5), .val (.int z_1), .val (.int z_2), .val (.int z_3), .unset, .unset, .unset, .unset, .unset, .unset, .unset] rfl (n := 18) rfl ?_
    refine gIloadN X w at_18 rfl (n := 19) rfl ?_
    refine gLdc X w (own_wd hw 4 rfl) at_19 (n := 21) rfl ?_
    refine gIand X w at_21 rfl (n := 22) rfl ?_
    refine gIconst X w at_22 (z := (3 : Int32)) rfl (n := 23) rfl ?_
    refine gIrem X w at_23 (by decide) hr3 (n := 24) rfl ?_
    refine gIconst X w at_24 (z := (1 : Int32)) rfl (n := 25) rfl ?_
    refine gIadd X w at_25 (z := (2 : Int32)) (by decide) (n := 26) rfl ?_
    refine gIstore X w at_26 #[.val (.int p1), .val (.int p2), .val (.int p3), .val (.int p4), .val (.int p5), .val (.int z_1), .val (.int z_2), .val (.int z_3), .val (.int (2 : Int32)), .unset, .unset, .unset, .unset, .unset, .unset] rfl (n := 28) rfl ?_
    refine gIload X w at_28 rfl (n := 30) rfl ?_
    refine gLdc X w (own_wd hw 5 rfl) at_30 (n := 32) rfl ?_
    obtain ⟨x32, q32⟩ : ∃ zz_ : Int32, p5 &&& (65535 : Int32) = zz_ := ⟨_, rfl⟩
    refine gIand X w at_32 q32 (n := 33) rfl ?_
    have hpt := own_pt q32
    refine gIstore X w at_33 #[.val (.int p1), .val (.int p2), .val (.int p3), .val (.int p4), .val (.int p5), .val (.int z_1), .val (.int z_2), .val (.int z_3), .val (.int (2 : Int32)), .val (.int x32), .unset, .unset, .unset, .unset, .unset] rfl (n := 35) rfl ?_
    refine gIload X w at_35 rfl (n := 37) rfl ?_
    refine gIconst X w at_37 (z := (1 : Int32)) rfl (n := 38) rfl ?_
    refine gIcmp_ne X w at_38 (n := 61) (n' := 41) (by decide) rfl rfl ?_ ?_
    · rintro ⟨c38, c38'⟩
      refine gIload X w at_61 rfl (n := 63) rfl ?_
      refine gIconst X w at_63 (z := (2 : Int32)) rfl (n := 64) rfl ?_
      refine gIcmp_ne X w at_64 (n := 92) (n' := 67) (by decide) rfl rfl ?_ ?_
      · rintro ⟨c64, c64'⟩
        exact absurd c64 (by decide)
      · rintro ⟨c64, c64'⟩
        refine gNew X w (own_wd hw 6 rfl) (own_wd hw 7 rfl) (own_wd hw 8 rfl) at_67 (by decide) (by decide) (n := 70) rfl ?_
        intro T hp67 ad67 ea67 na67 X E67 A67 D67
        have ne_on_ad67 : on ≠ ad67 := neOf Von.lt (Nat.le_of_eq ea67.symm)
        have ne_te_ad67 : te ≠ ad67 := neOf Vte.lt (Nat.le_of_eq ea67.symm)
        have F_4 := Scs.ext E67
        have F_5 := Sfo.ext E67
        have F_6 := Son.ext E67
        have F_7 := Ste.ext E67
        have F_8 := Von.ext E67
        have F_9 := Vte.ext E67
        have F_10 : Fld Z hp67 ad67 "java/lang/String" "coder" "B" (.int (0 : Int32)) := D67 (Or.inr (own_wd hw 33 rfl)) (ty := .byte) (by decide)
        have F_11 : Fld Z hp67 ad67 "java/lang/String" "value" "[B" .null := D67 (Or.inr (own_wd hw 35 rfl)) (ty := (.array .byte)) (by decide)
        refine gDup X w at_70 rfl (n := 71) rfl ?_
        refine gIconst X w at_71 (z := (2 : Int32)) rfl (n := 72) rfl ?_
        refine gNewP X w (own_wd hw 9 rfl) at_72 (by decide) (cap := 2) (by decide) (by decide) (by decide) (by decide) (vs := [(.int (0 : Int32)), (.int (0 : Int32))]) (ty := .char) rfl rfl (ad := "[C") (by decide) (n := 74) rfl ?_
        intro T hp72 ad72 ea72 na72 X E72 V72 A72
        have ne_on_ad72 : on ≠ ad72 := neOf F_8.lt (Nat.le_of_eq ea72.symm)
        have ne_te_ad72 : te ≠ ad72 := neOf F_9.lt (Nat.le_of_eq ea72.symm)
        have ne_ad67_ad72 : ad67 ≠ ad72 := neOf A67.lt (Nat.le_of_eq ea72.symm)
        have F_12 := F_4.ext E72
        have F_13 := F_5.ext E72
        have F_14 := F_6.ext E72
        have F_15 := F_7.ext E72
        have F_16 := F_8.ext E72
        have F_17 := F_9.ext E72
        have F_18 := A67.ext E72
        have F_19 := F_10.ext E72
        have F_20 := F_11.ext E72
        refine gDup X w at_74 rfl (n := 75) rfl ?_
        refine gIconst X w at_75 (z := (0 : Int32)) rfl (n := 76) rfl ?_
        refine gIload X w at_76 rfl (n := 78) rfl ?_
        refine gCastore X w (z := (.int z_1)) V72 (by decide) (show (0 : Int) < ((2 : Nat) : Int) from by decide) na72 (congrArg Value.int (own_narc hz_1)) (vs' := [(.int z_1), (.int (0 : Int32))]) rfl at_78 (n := 79) rfl ?_
        intro T hp78 X W78 V78
        have F_21 := F_12.wr W78
        have F_22 := F_13.wr W78
        have F_23 := F_14.wr W78
        have F_24 := F_15.wr W78
        have F_25 := F_16.other W78 ne_on_ad72
        have F_26 := F_17.other W78 ne_te_ad72
        have F_27 := F_18.wr W78
        have F_28 := F_19.other W78 (Or.inl ne_ad67_ad72)
        have F_29 := F_20.other W78 (Or.inl ne_ad67_ad72)
        have F_30 := A72.wr W78
        refine gDup X w at_79 rfl (n := 80) rfl ?_
        refine gIconst X w at_80 (z := (1 : Int32)) rfl (n := 81) rfl ?_
        refine gIload X w at_81 rfl (n := 83) rfl ?_
        refine gCastore X w (z := (.int z_2)) V78 (by decide) (show (1 : Int) < ((2 : Nat) : Int) from by decide) na72 (congrArg Value.int (own_narc hz_2)) (vs' := [(.int z_1), (.int z_2)]) rfl at_83 (n := 84) rfl ?_
        intro T hp83 X W83 V83
        have F_31 := F_21.wr W83
        have F_32 := F_22.wr W83
        have F_33 := F_23.wr W83
        have F_34 := F_24.wr W83
        have F_35 := F_25.other W83 ne_on_ad72
        have F_36 := F_26.other W83 ne_te_ad72
        have F_37 := F_27.wr W83
        have F_38 := F_28.other W83 (Or.inl ne_ad67_ad72)
        have F_39 := F_29.other W83 (Or.inl ne_ad67_ad72)
        have F_40 := F_30.wr W83
        refine gCallIn X w [(.ref ad72)] [(.ref ad67)] rfl (own_sinit_2 l Z a0 hw ad67 ad72 z_1 z_2 ccs hp83 n0 (Sd.le X) F_37 F_39 F_38 V83 F_31 (by first | assumption | decide | (simp; done) | omega) (by first | assumption | decide | (simp; done) | omega) (by first | assumption | decide | (simp; done) | omega) (Ne.symm ne_ad67_ad72) na67) (own_wd hw 10 rfl) (own_wd hw 11 rfl) (own_wd hw 8 rfl) (own_wd hw 12 rfl) (by decide) own_pd34 rfl rfl at_84 rfl (W := 1) (Nat.le_of_eq rfl) (by decide) (by decide) (by decide) (by decide) (n := 87) rfl ?_
        rintro T h_41 ⟨K_41, b_41, g_b_41, na_b_41, Q0_41, Q1_41, Q2_41, Q3_41⟩ X
        have ne_on_b_41 : on ≠ b_41 := neOf F_35.lt g_b_41
        have ne_te_b_41 : te ≠ b_41 := neOf F_36.lt g_b_41
        have ne_ad67_b_41 : ad67 ≠ b_41 := neOf F_37.lt g_b_41
        have ne_ad72_b_41 : ad72 ≠ b_41 := neOf F_40.lt g_b_41
        have F_42 := staKeep F_31 K_41 (allS (Exa.nostat F_37) all0)
        have F_43 := staKeep F_32 K_41 (allS (Exa.nostat F_37) all0)
        have F_44 := staKeep F_33 K_41 (allS (Exa.nostat F_37) all0)
        have F_45 := staKeep F_34 K_41 (allS (Exa.nostat F_37) all0)
        have F_46 := F_35.keep K_41 (ninS ne_on_ad67 nin0)
        have F_47 := F_36.keep K_41 (ninS ne_te_ad67 nin0)
        have F_48 := F_37.keep K_41
        have F_49 := F_40.keep K_41
        have F_50 := V83.keep K_41 (ninS (Ne.symm ne_ad67_ad72) nin0)
        refine gAstore X w at_87 rfl #[.val (.int p1), .val (.int p2), .val (.int p3), .val (.int p4), .val (.int p5), .val (.int z_1), .val (.int z_2), .val (.int z_3), .val (.int (2 : Int32)), .val (.int x32), .val (.ref ad67), .unset, .unset, .unset, .unset] rfl (n := 89) rfl ?_
        refine gGoto X w at_89 (by decide) (n := 119) rfl ?_
        refine gNew X w (own_wd hw 36 rfl) (own_wd hw 37 rfl) (own_wd hw 38 rfl) at_119 (by decide) (by decide) (n := 122) rfl ?_
        intro T hp119 ad119 ea119 na119 X E119 A119 D119
        have ne_on_ad119 : on ≠ ad119 := neOf F_46.lt (Nat.le_of_eq ea119.symm)
        have ne_te_ad119 : te ≠ ad119 := neOf F_47.lt (Nat.le_of_eq ea119.symm)
        have ne_ad67_ad119 : ad67 ≠ ad119 := neOf F_48.lt (Nat.le_of_eq ea119.symm)
        have ne_ad72_ad119 : ad72 ≠ ad119 := neOf F_49.lt (Nat.le_of_eq ea119.symm)
        have ne_b_41_ad119 : b_41 ≠ ad119 := neOf Q2_41.lt (Nat.le_of_eq ea119.symm)
        have F_51 := F_42.ext E119
        have F_52 := F_43.ext E119
        have F_53 := F_44.ext E119
        have F_54 := F_45.ext E119
        have F_55 := F_46.ext E119
        have F_56 := F_47.ext E119
        have F_57 := F_48.ext E119
        have F_58 := F_49.ext E119
        have F_59 := F_50.ext E119
        have F_60 := Q0_41.ext E119
        have F_61 := Q1_41.ext E119
        have F_62 := Q2_41.ext E119
        have F_63 := Q3_41.ext E119
        have F_64 : Fld Z hp119 ad119 "com/example/tidemark/tidemark/protocol/HostPort" "host" "Ljava/lang/String;" .null := D119 (Or.inr (own_wd hw 65 rfl)) (ty := (.object "java/lang/String")) (by decide)
        have F_65 : Fld Z hp119 ad119 "com/example/tidemark/tidemark/protocol/HostPort" "port" "I" (.int (0 : Int32)) := D119 (Or.inr (own_wd hw 67 rfl)) (ty := .int) (by decide)
        refine gDup X w at_122 rfl (n := 123) rfl ?_
        refine gAload X w at_123 rfl rfl (n := 125) rfl ?_
        refine gIload X w at_125 rfl (n := 127) rfl ?_
        refine gCallIn X w [(.ref ad67), (.int x32)] [(.ref ad119)] rfl (own_hinit l Z a0 hw ad119 ad67 x32 b_41 [(.int (own_bt z_1)), (.int (own_bt z_2))] ccs hp119 n0 (Sd.le X) A119 F_64 F_65 F_57 F_60 F_61 F_62 F_51 (by first | assumption | decide | (simp; done) | omega) (by first | assumption | decide | (simp; done) | omega) (by show ¬ ((2 : Nat).toInt32 = (0 : Int32)); decide) (by show ((2 : Nat).toInt32).toInt ≤ 255; decide) ne_ad67_ad119 ne_b_41_ad119 na119) (own_wd hw 39 rfl) (own_wd hw 40 rfl) (own_wd hw 38 rfl) (own_wd hw 41 rfl) (by decide) own_pd35 rfl rfl at_127 rfl (W := 1) (Nat.le_of_eq rfl) (by decide) (by decide) (by decide) (by decide) (n := 130) rfl ?_
        rintro T h_66 ⟨K_66, Q0_66, Q1_66⟩ X
        have F_67 := staKeep F_51 K_66 (allS (Exa.nostat A119) all0)
        have F_68 := staKeep F_52 K_66 (allS (Exa.nostat A119) all0)
        have F_69 := staKeep F_53 K_66 (allS (Exa.nostat A119) all0)
        have F_70 := staKeep F_54 K_66 (allS (Exa.nostat A119) all0)
        have F_71 := F_55.keep K_66 (ninS ne_on_ad119 nin0)
        have F_72 := F_56.keep K_66 (ninS ne_te_ad119 nin0)
        have F_73 := F_57.keep K_66
        have F_74 := F_58.keep K_66
        have F_75 := F_59.keep K_66 (ninS ne_ad72_ad119 nin0)
        have F_76 := F_60.keep K_66 (ninS ne_ad67_ad119 nin0)
        have F_77 := F_61.keep K_66 (ninS ne_ad67_ad119 nin0)
        have F_78 := F_62.keep K_66 (ninS ne_b_41_ad119 nin0)
        have F_79 := F_63.keep K_66
        have F_80 := A119.keep K_66
        rcases Classical.em (own_col [Value.int (own_bt z_1), Value.int (own_bt z_2)]) with hbr | hbr
        · skip
          refine gCallVvL X w [] [] F_80 (own_hts_1 l Z a0 hw ad119 ad67 x32 b_41 [(.int (own_bt z_1)), (.int (own_bt z_2))] ccs on te ons tes h_66 n0 (Sd.le X) F_80 Q0_66 Q1_66 F_73 F_76 F_77 F_78 F_67 F_69 F_70 F_71 F_72 (by first | assumption | decide | (simp; done) | omega) (by first | assumption | decide | (simp; done) | omega) (by first | assumption | decide | (simp; done) | omega) (by first | assumption | decide | (simp; done) | omega) (Or.inr (Or.inl ⟨_, _, rfl⟩)) (by show (2 : Nat) ≤ 3; decide) (by intro v hv; simp only [List.mem_cons, List.not_mem_nil, or_false] at hv; rcases hv with rfl | rfl <;> first | decide | exact own_fitbt _ | assumption) hbr) (own_wd hw 68 rfl) (own_wd hw 69 rfl) (fun vm0 hS => notFace_of_selects (args := #[]) (mvT (State.Warmed39.trans w.2.2.1 hS.1) (own_wd hw 71 rfl))) (own_wd hw 71 rfl) (own_wd hw 70 rfl) (own_wd hw 38 rfl) (own_wd hw 72 rfl) (by decide) own_pd24 rfl rfl at_130 rfl (W := 0) (Nat.le_of_eq rfl) (by decide) (by decide) (by decide) (by decide) (n := 133) rfl ?_
          rintro T h_81 _ D_81 ⟨R_81, K_81, sr_81, nb_81, rfl, g_sr_81, na_sr_81, g_nb_81, na_nb_81, Q0_81, Q1_81, Q2_81, Q3_81⟩ X
          have F_82 := R_81 na67 F_73.lt
          have F_83 := R_81 na72 F_74.lt
          have F_84 := R_81 na_b_41 F_78.lt
          have F_85 := R_81 na119 F_80.lt
          have ne_on_sr_81 : on ≠ sr_81 := neOf F_71.lt g_sr_81
          have ne_te_sr_81 : te ≠ sr_81 := neOf F_72.lt g_sr_81
          have ne_ad67_sr_81 : ad67 ≠ sr_81 := neOf F_73.lt g_sr_81
          have ne_ad72_sr_81 : ad72 ≠ sr_81 := neOf F_74.lt g_sr_81
          have ne_b_41_sr_81 : b_41 ≠ sr_81 := neOf F_78.lt g_sr_81
          have ne_ad119_sr_81 : ad119 ≠ sr_81 := neOf F_80.lt g_sr_81
          have ne_on_nb_81 : on ≠ nb_81 := neOf F_71.lt g_nb_81
          have ne_te_nb_81 : te ≠ nb_81 := neOf F_72.lt g_nb_81
          have ne_ad67_nb_81 : ad67 ≠ nb_81 := neOf F_73.lt g_nb_81
          have ne_ad72_nb_81 : ad72 ≠ nb_81 := neOf F_74.lt g_nb_81
          have ne_b_41_nb_81 : b_41 ≠ nb_81 := neOf F_78.lt g_nb_81
          have ne_ad119_nb_81 : ad119 ≠ nb_81 := neOf F_80.lt g_nb_81
          have F_86 := staKeep F_67 K_81 all0
          have F_87 := staKeep F_68 K_81 all0
          have F_88 := staKeep F_69 K_81 all0
          have F_89 := staKeep F_70 K_81 all0
          have F_90 := F_71.keep K_81 nin0
          have F_91 := F_72.keep K_81 nin0
          have F_92 := F_73.keep K_81
          have F_93 := F_74.keep K_81
          have F_94 := F_75.keep K_81 nin0
          have F_95 := F_76.keep K_81 nin0
          have F_96 := F_77.keep K_81 nin0
          have F_97 := F_78.keep K_81 nin0
          have F_98 := F_79.keep K_81
          have F_99 := F_80.keep K_81
          have F_100 := Q0_66.keep K_81 nin0
          have F_101 := Q1_66.keep K_81 nin0
          refine gAstore X w at_133 rfl #[.val (.int p1), .val (.int p2), .val (.int p3), .val (.int p4), .val (.int p5), .val (.int z_1), .val (.int z_2), .val (.int z_3), .val (.int (2 : Int32)), .val (.int x32), .val (.ref ad67), .val (.ref sr_81), .unset, .unset, .unset] rfl (n := 135) rfl ?_
          have V2 : Av Z h_81 nb_81 .byte (Value.int 91 :: Value.int (own_bt z_1) :: Value.int (own_bt z_2) :: Value.int 93 :: Value.int 58 :: own_dl x32) := Q3_81
          have hbl : ((Value.int 91 :: Value.int (own_bt z_1) :: Value.int (own_bt z_2) :: Value.int 93 :: Value.int 58 :: own_dl x32)).length < 2 ^ 31 := by have := own_dl5 hpt; simp only [List.length_cons]; omega
          have tail : Gl Z p e below s n0 (fun r h _ => r = some (.int 1)) 40 3328 (T.setTop (mkF m 173 #[.val (.int p1), .val (.int p2), .val (.int p3), .val (.int p4), .val (.int p5), .val (.int z_1), .val (.int z_2), .val (.int z_3), .val (.int (2 : Int32)), .val (.int x32), .val (.ref ad67), .val (.ref sr_81), .unset, .unset, .unset] [(.int (1 : Int32))])) := own_tail l Z a0 hw sr_81 nb_81 ad67 (Value.int 91 :: Value.int (own_bt z_1) :: Value.int (own_bt z_2) :: Value.int 93 :: Value.int 58 :: own_dl x32) fo p1 p2 p3 p4 p5 z_1 z_2 z_3 (2 : Int32) (1 : Int32) x32 ccs h_81 n0 Q0_81 Q1_81 Q2_81 V2 F_87 F_86 hz_1 hz_2 hz_3 hcs hpt hbl hfc (fun q => absurd q (by decide)) (fun _ => own_E_2_1 hpt) (own_H_2_1 hz_1 hz_2 hz_3 hpt) w (Sd.mono X (by decide) (by decide))
          refine gIload X w at_135 rfl (n := 137) rfl ?_
          refine gBipush X w at_137 (z := (58 : Int32)) (by decide) (n := 139) rfl ?_
          refine gIcmp_eq X w at_139 (n := 168) (n' := 142) (by decide) rfl rfl ?_ ?_
          · rintro ⟨c139, c139'⟩
            refine gIconst X w at_168 (z := (1 : Int32)) rfl (n := 169) rfl ?_
            refine gGoto X w at_169 (by decide) (n := 173) rfl ?_
            exact tail
          · rintro ⟨c139, c139'⟩
            refine gIload X w at_142 rfl (n := 144) rfl ?_
            refine gIconst X w at_144 (z := (1 : Int32)) rfl (n := 145) rfl ?_
            refine gIcmp_le X w at_145 (n := 155) (n' := 148) (by decide) rfl rfl ?_ ?_
            · intro c145
              exact absurd c145 (by decide)
            · intro c145
              refine gIload X w at_148 rfl (n := 150) rfl ?_
              refine gBipush X w at_150 (z := (58 : Int32)) (by decide) (n := 152) rfl ?_
              refine gIcmp_eq X w at_152 (n := 168) (n' := 155) (by decide) rfl rfl ?_ ?_
              · rintro ⟨c152, c152'⟩
                refine gIconst X w at_168 (z := (1 : Int32)) rfl (n := 169) rfl ?_
                refine gGoto X w at_169 (by decide) (n := 173) rfl ?_
                exact tail
              · rintro ⟨c152, c152'⟩
                refine gIload X w at_155 rfl (n := 157) rfl ?_
                refine gIconst X w at_157 (z := (2 : Int32)) rfl (n := 158) rfl ?_
                refine gIcmp_le X w at_158 (n := 172) (n' := 161) (by decide) rfl rfl ?_ ?_
                · intro c158
                  exact ((own_colD2 hbr).elim (fun q => c139 (own_bt58 hz_1 q)) (fun q => c152 (own_bt58 hz_2 q))).elim
                · intro c158
                  exact absurd c158 (by decide)
        · skip
          refine gCallVvL X w [] [] F_80 (own_hts_0 l Z a0 hw ad119 ad67 x32 b_41 [(.int (own_bt z_1)), (.int (own_bt z_2))] ccs on te ons tes h_66 n0 (Sd.le X) F_80 Q0_66 Q1_66 F_73 F_76 F_77 F_78 F_67 F_69 F_70 F_71 F_72 (by first | assumption | decide | (simp; done) | omega) (by first | assumption | decide | (simp; done) | omega) (by first | assumption | decide | (simp; done) | omega) (by first | assumption | decide | (simp; done) | omega) (Or.inr (Or.inl ⟨_, _, rfl⟩)) (by show (2 : Nat) ≤ 3; decide) (by intro v hv; simp only [List.mem_cons, List.not_mem_nil, or_false] at hv; rcases hv with rfl | rfl <;> first | decide | exact own_fitbt _ | assumption) hbr) (own_wd hw 68 rfl) (own_wd hw 69 rfl) (fun vm0 hS => notFace_of_selects (args := #[]) (mvT (State.Warmed39.trans w.2.2.1 hS.1) (own_wd hw 71 rfl))) (own_wd hw 71 rfl) (own_wd hw 70 rfl) (own_wd hw 38 rfl) (own_wd hw 72 rfl) (by decide) own_pd24 rfl rfl at_130 rfl (W := 0) (Nat.le_of_eq rfl) (by decide) (by decide) (by decide) (by decide) (n := 133) rfl ?_
          rintro T h_102 _ D_102 ⟨R_102, K_102, sr_102, nb_102, rfl, g_sr_102, na_sr_102, g_nb_102, na_nb_102, Q0_102, Q1_102, Q2_102, Q3_102⟩ X
          have F_103 := R_102 na67 F_73.lt
          have F_104 := R_102 na72 F_74.lt
          have F_105 := R_102 na_b_41 F_78.lt
          have F_106 := R_102 na119 F_80.lt
          have ne_on_sr_102 : on ≠ sr_102 := neOf F_71.lt g_sr_102
          have ne_te_sr_102 : te ≠ sr_102 := neOf F_72.lt g_sr_102
          have ne_ad67_sr_102 : ad67 ≠ sr_102 := neOf F_73.lt g_sr_102
          have ne_ad72_sr_102 : ad72 ≠ sr_102 := neOf F_74.lt g_sr_102
          have ne_b_41_sr_102 : b_41 ≠ sr_102 := neOf F_78.lt g_sr_102
          have ne_ad119_sr_102 : ad119 ≠ sr_102 := neOf F_80.lt g_sr_102
          have ne_on_nb_102 : on ≠ nb_102 := neOf F_71.lt g_nb_102
          have ne_te_nb_102 : te ≠ nb_102 := neOf F_72.lt g_nb_102
          have ne_ad67_nb_102 : ad67 ≠ nb_102 := neOf F_73.lt g_nb_102
          have ne_ad72_nb_102 : ad72 ≠ nb_102 := neOf F_74.lt g_nb_102
          have ne_b_41_nb_102 : b_41 ≠ nb_102 := neOf F_78.lt g_nb_102
          have ne_ad119_nb_102 : ad119 ≠ nb_102 := neOf F_80.lt g_nb_102
          have F_107 := staKeep F_67 K_102 all0
          have F_108 := staKeep F_68 K_102 all0
          have F_109 := staKeep F_69 K_102 all0
          have F_110 := staKeep F_70 K_102 all0
          have F_111 := F_71.keep K_102 nin0
          have F_112 := F_72.keep K_102 nin0
          have F_113 := F_73.keep K_102
          have F_114 := F_74.keep K_102
          have F_115 := F_75.keep K_102 nin0
          have F_116 := F_76.keep K_102 nin0
          have F_117 := F_77.keep K_102 nin0
          have F_118 := F_78.keep K_102 nin0
          have F_119 := F_79.keep K_102
          have F_120 := F_80.keep K_102
          have F_121 := Q0_66.keep K_102 nin0
          have F_122 := Q1_66.keep K_102 nin0
          refine gAstore X w at_133 rfl #[.val (.int p1), .val (.int p2), .val (.int p3), .val (.int p4), .val (.int p5), .val (.int z_1), .val (.int z_2), .val (.int z_3), .val (.int (2 : Int32)), .val (.int x32), .val (.ref ad67), .val (.ref sr_102), .unset, .unset, .unset] rfl (n := 135) rfl ?_
          have V2 : Av Z h_102 nb_102 .byte (Value.int (own_bt z_1) :: Value.int (own_bt z_2) :: Value.int 58 :: own_dl x32) := Q3_102
          have hbl : ((Value.int (own_bt z_1) :: Value.int (own_bt z_2) :: Value.int 58 :: own_dl x32)).length < 2 ^ 31 := by have := own_dl5 hpt; simp only [List.length_cons]; omega
          have tail : Gl Z p e below s n0 (fun r h _ => r = some (.int 1)) 40 3328 (T.setTop (mkF m 173 #[.val (.int p1), .val (.int p2), .val (.int p3), .val (.int p4), .val (.int p5), .val (.int z_1), .val (.int z_2), .val (.int z_3), .val (.int (2 : Int32)), .val (.int x32), .val (.ref ad67), .val (.ref sr_102), .unset, .unset, .unset] [(.int (0 : Int32))])) := own_tail l Z a0 hw sr_102 nb_102 ad67 (Value.int (own_bt z_1) :: Value.int (own_bt z_2) :: Value.int 58 :: own_dl x32) fo p1 p2 p3 p4 p5 z_1 z_2 z_3 (2 : Int32) (0 : Int32) x32 ccs h_102 n0 Q0_102 Q1_102 Q2_102 V2 F_108 F_107 hz_1 hz_2 hz_3 hcs hpt hbl hfc (fun _ => own_E_2_0 hpt) (fun q => absurd rfl q) (own_H_2_0 hz_1 hz_2 hz_3 hpt) w (Sd.mono X (by decide) (by decide))
          refine gIload X w at_135 rfl (n := 137) rfl ?_
          refine gBipush X w at_137 (z := (58 : Int32)) (by decide) (n := 139) rfl ?_
          refine gIcmp_eq X w at_139 (n := 168) (n' := 142) (by decide) rfl rfl ?_ ?_
          · rintro ⟨c139, c139'⟩
            exact absurd (own_colT2 (Or.inl (own_58bt c139))) hbr
          · rintro ⟨c139, c139'⟩
            refine gIload X w at_142 rfl (n := 144) rfl ?_
            refine gIconst X w at_144 (z := (1 : Int32)) rfl (n := 145) rfl ?_
            refine gIcmp_le X w at_145 (n := 155) (n' := 148) (by decide) rfl rfl ?_ ?_
            · intro c145
              exact absurd c145 (by decide)
            · intro c145
              refine gIload X w at_148 rfl (n := 150) rfl ?_
              refine gBipush X w at_150 (z := (58 : Int32)) (by decide) (n := 152) rfl ?_
              refine gIcmp_eq X w at_152 (n := 168) (n' := 155) (by decide) rfl rfl ?_ ?_
              · rintro ⟨c152, c152'⟩
                exact absurd (own_colT2 (Or.inr (own_58bt c152))) hbr
              · rintro ⟨c152, c152'⟩
                refine gIload X w at_155 rfl (n := 157) rfl ?_
                refine gIconst X w at_157 (z := (2 : Int32)) rfl (n := 158) rfl ?_
                refine gIcmp_le X w at_158 (n := 172) (n' := 161) (by decide) rfl rfl ?_ ?_
                · intro c158
                  refine gIconst X w at_172 (z := (0 : Int32)) rfl (n := 173) rfl ?_
                  exact tail
                · intro c158
                  exact absurd c158 (by decide)
    · rintro ⟨c38, c38'⟩
      exact absurd c38 (by decide)
  · skip
    refine gIloadN X w at_0 rfl (n := 1) rfl ?_
    refine gCallSv X w [(.int p1)] [] (own_pick l Z a0 hw p1 h0 n0 (Sd.le X) ) (own_wd hw 0 rfl) (own_wd hw 1 rfl) (own_wd hw 2 rfl) (own_wd hw 3 rfl) (by decide) own_pd28 rfl rfl at_1 rfl (W := 0) (Nat.le_of_eq rfl) (by decide) (by decide) (by decide) (by decide) (n := 4) rfl ?_
    rintro T _ _ ⟨rfl, z_1, rfl, hz_1⟩ X
    refine gIstore X w at_4 #[.val (.int p1), .val (.int p2), .val (.int p3), .val (.int p4), .val (.int p5), .val (.int z_1), .unset, .unset, .unset, .unset, .unset, .unset, .unset, .unset, .unset] rfl (n := 6) rfl ?_
    refine gIloadN X w at_6 rfl (n := 7) rfl ?_
    refine gCallSv X w [(.int p2)] [] (own_pick l Z a0 hw p2 h0 n0 (Sd.le X) ) (own_wd hw 0 rfl) (own_wd hw 1 rfl) (own_wd hw 2 rfl) (own_wd hw 3 rfl) (by decide) own_pd28 rfl rfl at_7 rfl (W := 0) (Nat.le_of_eq rfl) (by decide) (by decide) (by decide) (by decide) (n := 10) rfl ?_
    rintro T _ _ ⟨rfl, z_2, rfl, hz_2⟩ X
    refine gIstore X w at_10 #[.val (.int p1), .val (.int p2), .val (.int p3), .val (.int p4), .val (.int p5), .val (.int z_1), .val (.int z_2), .unset, .unset, .unset, .unset, .unset, .unset, .unset, .unset] rfl (n := 12) rfl ?_
    refine gIloadN X w at_12 rfl (n := 13) rfl ?_
    refine gCallSv X w [(.int p3)] [] (own_pick l Z a0 hw p3 h0 n0 (Sd.le X) ) (own_wd hw 0 rfl) (own_wd hw 1 rfl) (own_wd hw 2 rfl) (own_wd hw 3 rfl) (by decide) own_pd28 rfl rfl at_13 rfl (W := 0) (Nat.le_of_eq rfl) (by decide) (by decide) (by decide) (by decide) (n := 16) rfl ?_
    rintro T _ _ ⟨rfl, z_3, rfl, hz_3⟩ X
    refine gIstore X w at_16 #[.val (.int p1), .val (.int p2), .val (.int p3), .val (.int p4), .val (.int p5), .val (.int z_1), .val (.int z_2), .val (.int z_3), .unset, .unset, .unset, .unset, .unset, .unset, .unset] rfl (n := 18) rfl ?_
    refine gIloadN X w at_18 rfl (n := 19) rfl ?_
    refine gLdc X w (own_wd hw 4 rfl) at_19 (n := 21) rfl ?_
    refine gIand X w at_21 rfl (n := 22) rfl ?_
    refine gIconst X w at_22 (z := (3 : Int32)) rfl (n := 23) rfl ?_
    refine gIrem X w at_23 (by decide) hr3 (n := 24) rfl ?_
    refine gIconst X w at_24 (z := (1 : Int32)) rfl (n := 25) rfl ?_
    refine gIadd X w at_25 (z := (3 : Int32)) (by decide) (n := 26) rfl ?_
    refine gIstore X w at_26 #[.val (.int p1), .val (.int p2), .val (.int p3), .val (.int p4), .val (.int p5), .val (.int z_1), .val (.int z_2), .val (.int z_3), .val (.int (3 : Int32)), .unset, .unset, .unset, .unset, .unset, .unset] rfl (n := 28) rfl ?_
    refine gIload X w at_28 rfl (n := 30) rfl ?_
    refine gLdc X w (own_wd hw 5 rfl) at_30 (n := 32) rfl ?_
    obtain ⟨x32, q32⟩ : ∃ zz_ : Int32, p5 &&& (65535 : Int32) = zz_ := ⟨_, rfl⟩
    refine gIand X w at_32 q32 (n := 33) rfl ?_
    have hpt := own_pt q32
    refine gIstore X w at_33 #[.val (.int p1), .val (.int p2), .val (.int p3), .val (.int p4), .val (.int p5), .val (.int z_1), .val (.int z_2), .val (.int z_3), .val (.int (3 : Int32)), .val (.int x32), .unset, .unset, .unset, .unset, .unset] rfl (n := 35) rfl ?_
    refine gIload X w at_35 rfl (n := 37) rfl ?_
    refine gIconst X w at_37 (z := (1 : Int32)) rfl (n := 38) rfl ?_
    refine gIcmp_ne X w at_38 (n := 61) (n' := 41) (by decide) rfl rfl ?_ ?_
    · rintro ⟨c38, c38'⟩
      refine gIload X w at_61 rfl (n := 63) rfl ?_
      refine gIconst X w at_63 (z := (2 : Int32)) rfl (n := 64) rfl ?_
      refine gIcmp_ne X w at_64 (n := 92) (n' := 67) (by decide) rfl rfl ?_ ?_
      · rintro ⟨c64, c64'⟩
        refine gNew X w (own_wd hw 6 rfl) (own_wd hw 7 rfl) (own_wd hw 8 rfl) at_92 (by decide) (by decide) (n := 95) rfl ?_
        intro T hp92 ad92 ea92 na92 X E92 A92 D92
        have ne_on_ad92 : on ≠ ad92 := neOf Von.lt (Nat.le_of_eq ea92.symm)
        have ne_te_ad92 : te ≠ ad92 := neOf Vte.lt (Nat.le_of_eq ea92.symm)
        have F_4 := Scs.ext E92
        have F_5 := Sfo.ext E92
        have F_6 := Son.ext E92
        have F_7 := Ste.ext E92
        have F_8 := Von.ext E92
        have F_9 := Vte.ext E92
        have F_10 : Fld Z hp92 ad92 "java/lang/String" "coder" "B" (.int (0 : Int32)) := D92 (Or.inr (own_wd hw 33 rfl)) (ty := .byte) (by decide)
        have F_11 : Fld Z hp92 ad92 "java/lang/String" "value" "[B" .null := D92 (Or.inr (own_wd hw 35 rfl)) (ty := (.array .byte)) (by decide)
        refine gDup X w at_95 rfl (n := 96) rfl ?_
        refine gIconst X w at_96 (z := (3 : Int32)) rfl (n := 97) rfl ?_
        refine gNewP X w (own_wd hw 9 rfl) at_97 (by decide) (cap := 3) (by decide) (by decide) (by decide) (by decide) (vs := [(.int (0 : Int32)), (.int (0 : Int32)), (.int (0 : Int32))]) (ty := .char) rfl rfl (ad := "[C") (by decide) (n := 99) rfl ?_
        intro T hp97 ad97 ea97 na97 X E97 V97 A97
        have ne_on_ad97 : on ≠ ad97 := neOf F_8.lt (Nat.le_of_eq ea97.symm)
        have ne_te_ad97 : te ≠ ad97 := neOf F_9.lt (Nat.le_of_eq ea97.symm)
        have ne_ad92_ad97 : ad92 ≠ ad97 := neOf A92.lt (Nat.le_of_eq ea97.symm)
        have F_12 := F_4.ext E97
        have F_13 := F_5.ext E97
        have F_14 := F_6.ext E97
        have F_15 := F_7.ext E97
        have F_16 := F_8.ext E97
        have F_17 := F_9.ext E97
        have F_18 := A92.ext E97
        have F_19 := F_10.ext E97
        have F_20 := F_11.ext E97
        refine gDup X w at_99 rfl (n := 100) rfl ?_
        refine gIconst X w at_100 (z := (0 : Int32)) rfl (n := 101) rfl ?_
        refine gIload X w at_101 rfl (n := 103) rfl ?_
        refine gCastore X w (z := (.int z_1)) V97 (by decide) (show (0 : Int) < ((3 : Nat) : Int) from by decide) na97 (congrArg Value.int (own_narc hz_1)) (vs' := [(.int z_1), (.int (0 : Int32)), (.int (0 : Int32))]) rfl at_103 (n := 104) rfl ?_
        intro T hp103 X W103 V103
        have F_21 := F_12.wr W103
        have F_22 := F_13.wr W103
        have F_23 := F_14.wr W103
        have F_24 := F_15.wr W103
        have F_25 := F_16.other W103 ne_on_ad97
        have F_26 := F_17.other W103 ne_te_ad97
        have F_27 := F_18.wr W103
        have F_28 := F_19.other W103 (Or.inl ne_ad92_ad97)
        have F_29 := F_20.other W103 (Or.inl ne_ad92_ad97)
        have F_30 := A97.wr W103
        refine gDup X w at_104 rfl (n := 105) rfl ?_
        refine gIconst X w at_105 (z := (1 : Int32)) rfl (n := 106) rfl ?_
        refine gIload X w at_106 rfl (n := 108) rfl ?_
        refine gCastore X w (z := (.int z_2)) V103 (by decide) (show (1 : Int) < ((3 : Nat) : Int) from by decide) na97 (congrArg Value.int (own_narc hz_2)) (vs' := [(.int z_1), (.int z_2), (.int (0 : Int32))]) rfl at_108 (n := 109) rfl ?_
        intro T hp108 X W108 V108
        have F_31 := F_21.wr W108
        have F_32 := F_22.wr W108
        have F_33 := F_23.wr W108
        have F_34 := F_24.wr W108
        have F_35 := F_25.other W108 ne_on_ad97
        have F_36 := F_26.other W108 ne_te_ad97
        have F_37 := F_27.wr W108
        have F_38 := F_28.other W108 (Or.inl ne_ad92_ad97)
        have F_39 := F_29.other W108 (Or.inl ne_ad92_ad97)
        have F_40 := F_30.wr W108
        refine gDup X w at_109 rfl (n := 110) rfl ?_
        refine gIconst X w at_110 (z := (2 : Int32)) rfl (n := 111) rfl ?_
        refine gIload X w at_111 rfl (n := 113) rfl ?_
        refine gCastore X w (z := (.int z_3)) V108 (by decide) (show (2 : Int) < ((3 : Nat) : Int) from by decide) na97 (congrArg Value.int (own_narc hz_3)) (vs' := [(.int z_1), (.int z_2), (.int z_3)]) rfl at_113 (n := 114) rfl ?_
        intro T hp113 X W113 V113
        have F_41 := F_31.wr W113
        have F_42 := F_32.wr W113
        have F_43 := F_33.wr W113
        have F_44 := F_34.wr W113
        have F_45 := F_35.other W113 ne_on_ad97
        have F_46 := F_36.other W113 ne_te_ad97
        have F_47 := F_37.wr W113
        have F_48 := F_38.other W113 (Or.inl ne_ad92_ad97)
        have F_49 := F_39.other W113 (Or.inl ne_ad92_ad97)
        have F_50 := F_40.wr W113
        refine gCallIn X w [(.ref ad97)] [(.ref ad92)] rfl (own_sinit_3 l Z a0 hw ad92 ad97 z_1 z_2 z_3 ccs hp113 n0 (Sd.le X) F_47 F_49 F_48 V113 F_41 (by first | assumption | decide | (simp; done) | omega) (by first | assumption | decide | (simp; done) | omega) (by first | assumption | decide | (simp; done) | omega) (by first | assumption | decide | (simp; done) | omega) (Ne.symm ne_ad92_ad97) na92) (own_wd hw 10 rfl) (own_wd hw 11 rfl) (own_wd hw 8 rfl) (own_wd hw 12 rfl) (by decide) own_pd34 rfl rfl at_114 rfl (W := 1) (Nat.le_of_eq rfl) (by decide) (by decide) (by decide) (by decide) (n := 117) rfl ?_
        rintro T h_51 ⟨K_51, b_51, g_b_51, na_b_51, Q0_51, Q1_51, Q2_51, Q3_51⟩ X
        have ne_on_b_51 : on ≠ b_51 := neOf F_45.lt g_b_51
        have ne_te_b_51 : te ≠ b_51 := neOf F_46.lt g_b_51
        have ne_ad92_b_51 : ad92 ≠ b_51 := neOf F_47.lt g_b_51
        have ne_ad97_b_51 : ad97 ≠ b_51 := neOf F_50.lt g_b_51
        have F_52 := staKeep F_41 K_51 (allS (Exa.nostat F_47) all0)
        have F_53 := staKeep F_42 K_51 (allS (Exa.nostat F_47) all0)
        have F_54 := staKeep F_43 K_51 (allS (Exa.nostat F_47) all0)
        have F_55 := staKeep F_44 K_51 (allS (Exa.nostat F_47) all0)
        have F_56 := F_45.keep K_51 (ninS ne_on_ad92 nin0)
        have F_57 := F_46.keep K_51 (ninS ne_te_ad92 nin0)
        have F_58 := F_47.keep K_51
        have F_59 := F_50.keep K_51
        have F_60 := V113.keep K_51 (ninS (Ne.symm ne_ad92_ad97) nin0)
        refine gAstore X w at_117 rfl #[.val (.int p1), .val (.int p2), .val (.int p3), .val (.int p4), .val (.int p5), .val (.int z_1), .val (.int z_2), .val (.int z_3), .val (.int (3 : Int32)), .val (.int x32), .val (.ref ad92), .unset, .unset, .unset, .unset] rfl (n := 119) rfl ?_
        refine gNew X w (own_wd hw 36 rfl) (own_wd hw 37 rfl) (own_wd hw 38 rfl) at_119 (by decide) (by decide) (n := 122) rfl ?_
        intro T hp119 ad119 ea119 na119 X E119 A119 D119
        have ne_on_ad119 : on ≠ ad119 := neOf F_56.lt (Nat.le_of_eq ea119.symm)
        have ne_te_ad119 : te ≠ ad119 := neOf F_57.lt (Nat.le_of_eq ea119.symm)
        have ne_ad92_ad119 : ad92 ≠ ad119 := neOf F_58.lt (Nat.le_of_eq ea119.symm)
        have ne_ad97_ad119 : ad97 ≠ ad119 := neOf F_59.lt (Nat.le_of_eq ea119.symm)
        have ne_b_51_ad119 : b_51 ≠ ad119 := neOf Q2_51.lt (Nat.le_of_eq ea119.symm)
        have F_61 := F_52.ext E119
        have F_62 := F_53.ext E119
        have F_63 := F_54.ext E119
        have F_64 := F_55.ext E119
        have F_65 := F_56.ext E119
        have F_66 := F_57.ext E119
        have F_67 := F_58.ext E119
        have F_68 := F_59.ext E119
        have F_69 := F_60.ext E119
        have F_70 := Q0_51.ext E119
        have F_71 := Q1_51.ext E119
        have F_72 := Q2_51.ext E119
        have F_73 := Q3_51.ext E119
        have F_74 : Fld Z hp119 ad119 "com/example/tidemark/tidemark/protocol/HostPort" "host" "Ljava/lang/String;" .null := D119 (Or.inr (own_wd hw 65 rfl)) (ty := (.object "java/lang/String")) (by decide)
        have F_75 : Fld Z hp119 ad119 "com/example/tidemark/tidemark/protocol/HostPort" "port" "I" (.int (0 : Int32)) := D119 (Or.inr (own_wd hw 67 rfl)) (ty := .int) (by decide)
        refine gDup X w at_122 rfl (n := 123) rfl ?_
        refine gAload X w at_123 rfl rfl (n := 125) rfl ?_
        refine gIload X w at_125 rfl (n := 127) rfl ?_
        refine gCallIn X w [(.ref ad92), (.int x32)] [(.ref ad119)] rfl (own_hinit l Z a0 hw ad119 ad92 x32 b_51 [(.int (own_bt z_1)), (.int (own_bt z_2)), (.int (own_bt z_3))] ccs hp119 n0 (Sd.le X) A119 F_74 F_75 F_67 F_70 F_71 F_72 F_61 (by first | assumption | decide | (simp; done) | omega) (by first | assumption | decide | (simp; done) | omega) (by show ¬ ((3 : Nat).toInt32 = (0 : Int32)); decide) (by show ((3 : Nat).toInt32).toInt ≤ 255; decide) ne_ad92_ad119 ne_b_51_ad119 na119) (own_wd hw 39 rfl) (own_wd hw 40 rfl) (own_wd hw 38 rfl) (own_wd hw 41 rfl) (by decide) own_pd35 rfl rfl at_127 rfl (W := 1) (Nat.le_of_eq rfl) (by decide) (by decide) (by decide) (by decide) (n := 130) rfl ?_
        rintro T h_76 ⟨K_76, Q0_76, Q1_76⟩ X
        have F_77 := staKeep F_61 K_76 (allS (Exa.nostat A119) all0)
        have F_78 := staKeep F_62 K_76 (allS (Exa.nostat A119) all0)
        have F_79 := staKeep F_63 K_76 (allS (Exa.nostat A119) all0)
        have F_80 := staKeep F_64 K_76 (allS (Exa.nostat A119) all0)
        have F_81 := F_65.keep K_76 (ninS ne_on_ad119 nin0)
        have F_82 := F_66.keep K_76 (ninS ne_te_ad119 nin0)
        have F_83 := F_67.keep K_76
        have F_84 := F_68.keep K_76
        have F_85 := F_69.keep K_76 (ninS ne_ad97_ad119 nin0)
        have F_86 := F_70.keep K_76 (ninS ne_ad92_ad119 nin0)
        have F_87 := F_71.keep K_76 (ninS ne_ad92_ad119 nin0)
        have F_88 := F_72.keep K_76 (ninS ne_b_51_ad119 nin0)
        have F_89 := F_73.keep K_76
        have F_90 := A119.keep K_76
        rcases Classical.em (own_col [Value.int (own_bt z_1), Value.int (own_bt z_2), Value.int (own_bt z_3)]) with hbr | hbr
        · skip
          refine gCallVvL X w [] [] F_90 (own_hts_1 l Z a0 hw ad119 ad92 x32 b_51 [(.int (own_bt z_1)), (.int (own_bt z_2)), (.int (own_bt z_3))] ccs on te ons tes h_76 n0 (Sd.le X) F_90 Q0_76 Q1_76 F_83 F_86 F_87 F_88 F_77 F_79 F_80 F_81 F_82 (by first | assumption | decide | (simp; done) | omega) (by first | assumption | decide | (simp; done) | omega) (by first | assumption | decide | (simp; done) | omega) (by first | assumption | decide | (simp; done) | omega) (Or.inr (Or.inr ⟨_, _, _, rfl⟩)) (by show (3 : Nat) ≤ 3; decide) (by intro v hv; simp only [List.mem_cons, List.not_mem_nil, or_false] at hv; rcases hv with rfl | rfl | rfl <;> first | decide | exact own_fitbt _ | assumption) hbr) (own_wd hw 68 rfl) (own_wd hw 69 rfl) (fun vm0 hS => notFace_of_selects (args := #[]) (mvT (State.Warmed39.trans w.2.2.1 hS.1) (own_wd hw 71 rfl))) (own_wd hw 71 rfl) (own_wd hw 70 rfl) (own_wd hw 38 rfl) (own_wd hw 72 rfl) (by decide) own_pd24 rfl rfl at_130 rfl (W := 0) (Nat.le_of_eq rfl) (by decide) (by decide) (by decide) (by decide) (n := 133) rfl ?_
          rintro T h_91 _ D_91 ⟨R_91, K_91, sr_91, nb_91, rfl, g_sr_91, na_sr_91, g_nb_91, na_nb_91, Q0_91, Q1_91, Q2_91, Q3_91⟩ X
          have F_92 := R_91 na92 F_83.lt
          have F_93 := R_91 na97 F_84.lt
          have F_94 := R_91 na_b_51 F_88.lt
          have F_95 := R_91 na119 F_90.lt
          have ne_on_sr_91 : on ≠ sr_91 := neOf F_81.lt g_sr_91
          have ne_te_sr_91 : te ≠ sr_91 := neOf F_82.lt g_sr_91
          have ne_ad92_sr_91 : ad92 ≠ sr_91 := neOf F_83.lt g_sr_91
          have ne_ad97_sr_91 : ad97 ≠ sr_91 := neOf F_84.lt g_sr_91
          have ne_b_51_sr_91 : b_51 ≠ sr_91 := neOf F_88.lt g_sr_91
          have ne_ad119_sr_91 : ad119 ≠ sr_91 := neOf F_90.lt g_sr_91
          have ne_on_nb_91 : on ≠ nb_91 := neOf F_81.lt g_nb_91
          have ne_te_nb_91 : te ≠ nb_91 := neOf F_82.lt g_nb_91
          have ne_ad92_nb_91 : ad92 ≠ nb_91 := neOf F_83.lt g_nb_91
          have ne_ad97_nb_91 : ad97 ≠ nb_91 := neOf F_84.lt g_nb_91
          have ne_b_51_nb_91 : b_51 ≠ nb_91 := neOf F_88.lt g_nb_91
          have ne_ad119_nb_91 : ad119 ≠ nb_91 := neOf F_90.lt g_nb_91
          have F_96 := staKeep F_77 K_91 all0
          have F_97 := staKeep F_78 K_91 all0
          have F_98 := staKeep F_79 K_91 all0
          have F_99 := staKeep F_80 K_91 all0
          have F_100 := F_81.keep K_91 nin0
          have F_101 := F_82.keep K_91 nin0
          have F_102 := F_83.keep K_91
          have F_103 := F_84.keep K_91
          have F_104 := F_85.keep K_91 nin0
          have F_105 := F_86.keep K_91 nin0
          have F_106 := F_87.keep K_91 nin0
          have F_107 := F_88.keep K_91 nin0
          have F_108 := F_89.keep K_91
          have F_109 := F_90.keep K_91
          have F_110 := Q0_76.keep K_91 nin0
          have F_111 := Q1_76.keep K_91 nin0
          refine gAstore X w at_133 rfl #[.val (.int p1), .val (.int p2), .val (.int p3), .val (.int p4), .val (.int p5), .val (.int z_1), .val (.int z_2), .val (.int z_3), .val (.int (3 : Int32)), .val (.int x32), .val (.ref ad92), .val (.ref sr_91), .unset, .unset, .unset] rfl (n := 135) rfl ?_
          have V2 : Av Z h_91 nb_91 .byte (Value.int 91 :: Value.int (own_bt z_1) :: Value.int (own_bt z_2) :: Value.int (own_bt z_3) :: Value.int 93 :: Value.int 58 :: own_dl x32) := Q3_91
          have hbl : ((Value.int 91 :: Value.int (own_bt z_1) :: Value.int (own_bt z_2) :: Value.int (own_bt z_3) :: Value.int 93 :: Value.int 58 :: own_dl x32)).length < 2 ^ 31 := by have := own_dl5 hpt; simp only [List.length_cons]; omega
          have tail : Gl Z p e below s n0 (fun r h _ => r = some (.int 1)) 40 3328 (T.setTop (mkF m 173 #[.val (.int p1), .val (.int p2), .val (.int p3), .val (.int p4), .val (.int p5), .val (.int z_1), .val (.int z_2), .val (.int z_3), .val (.int (3 : Int32)), .val (.int x32), .val (.ref ad92), .val (.ref sr_91), .unset, .unset, .unset] [(.int (1 : Int32))])) := own_tail l Z a0 hw sr_91 nb_91 ad92 (Value.int 91 :: Value.int (own_bt z_1) :: Value.int (own_bt z_2) :: Value.int (own_bt z_3) :: Value.int 93 :: Value.int 58 :: own_dl x32) fo p1 p2 p3 p4 p5 z_1 z_2 z_3 (3 : Int32) (1 : Int32) x32 ccs h_91 n0 Q0_91 Q1_91 Q2_91 V2 F_97 F_96 hz_1 hz_2 hz_3 hcs hpt hbl hfc (fun q => absurd q (by decide)) (fun _ => own_E_3_1 hpt) (own_H_3_1 hz_1 hz_2 hz_3 hpt) w (Sd.mono X (by decide) (by decide))
          refine gIload X w at_135 rfl (n := 137) rfl ?_
          refine gBipush X w at_137 (z := (58 : Int32)) (by decide) (n := 139) rfl ?_
          refine gIcmp_eq X w at_139 (n := 168) (n' := 142) (by decide) rfl rfl ?_ ?_
          · rintro ⟨c139, c139'⟩
            refine gIconst X w at_168 (z := (1 : Int32)) rfl (n := 169) rfl ?_
            refine gGoto X w at_169 (by decide) (n := 173) rfl ?_
            exact tail
          · rintro ⟨c139, c139'⟩
            refine gIload X w at_142 rfl (n := 144) rfl ?_
            refine gIconst X w at_144 (z := (1 : Int32)) rfl (n := 145) rfl ?_
            refine gIcmp_le X w at_145 (n := 155) (n' := 148) (by decide) rfl rfl ?_ ?_
            · intro c145
              exact absurd c145 (by decide)
            · intro c145
              refine gIload X w at_148 rfl (n := 150) rfl ?_
              refine gBipush X w at_150 (z := (58 : Int32)) (by decide) (n := 152) rfl ?_
              refine gIcmp_eq X w at_152 (n := 168) (n' := 155) (by decide) rfl rfl ?_ ?_
              · rintro ⟨c152, c152'⟩
                refine gIconst X w at_168 (z := (1 : Int32)) rfl (n := 169) rfl ?_
                refine gGoto X w at_169 (by decide) (n := 173) rfl ?_
                exact tail
              · rintro ⟨c152, c152'⟩
                refine gIload X w at_155 rfl (n := 157) rfl ?_
                refine gIconst X w at_157 (z := (2 : Int32)) rfl (n := 158) rfl ?_
                refine gIcmp_le X w at_158 (n := 172) (n' := 161) (by decide) rfl rfl ?_ ?_
                · intro c158
                  exact absurd c158 (by decide)
                · intro c158
                  refine gIload X w at_161 rfl (n := 163) rfl ?_
                  refine gBipush X w at_163 (z := (58 : Int32)) (by decide) (n := 165) rfl ?_
                  refine gIcmp_ne X w at_165 (n := 172) (n' := 168) (by decide) rfl rfl ?_ ?_
                  · rintro ⟨c165, c165'⟩
                    exact ((own_colD3 hbr).elim (fun q => c139 (own_bt58 hz_1 q)) (fun q => q.elim (fun q => c152 (own_bt58 hz_2 q)) (fun q => c165 (own_bt58 hz_3 q)))).elim
                  · rintro ⟨c165, c165'⟩
                    refine gIconst X w at_168 (z := (1 : Int32)) rfl (n := 169) rfl ?_
                    refine gGoto X w at_169 (by decide) (n := 173) rfl ?_
                    exact tail
        · skip
          refine gCallVvL X w [] [] F_90 (own_hts_0 l Z a0 hw ad119 ad92 x32 b_51 [(.int (own_bt z_1)), (.int (own_bt z_2)), (.int (own_bt z_3))] ccs on te ons tes h_76 n0 (Sd.le X) F_90 Q0_76 Q1_76 F_83 F_86 F_87 F_88 F_77 F_79 F_80 F_81 F_82 (by first | assumption | decide | (simp; done) | omega) (by first | assumption | decide | (simp; done) | omega) (by first | assumption | decide | (simp; done) | omega) (by first | assumption | decide | (simp; done) | omega) (Or.inr (Or.inr ⟨_, _, _, rfl⟩)) (by show (3 : Nat) ≤ 3; decide) (by intro v hv; simp only [List.mem_cons, List.not_mem_nil, or_false] at hv; rcases hv with rfl | rfl | rfl <;> first | decide | exact own_fitbt _ | assumption) hbr) (own_wd hw 68 rfl) (own_wd hw 69 rfl) (fun vm0 hS => notFace_of_selects (args := #[]) (mvT (State.Warmed39.trans w.2.2.1 hS.1) (own_wd hw 71 rfl))) (own_wd hw 71 rfl) (own_wd hw 70 rfl) (own_wd hw 38 rfl) (own_wd hw 72 rfl) (by decide) own_pd24 rfl rfl at_130 rfl (W := 0) (Nat.le_of_eq rfl) (by decide) (by decide) (by decide) (by decide) (n := 133) rfl ?_
          rintro T h_112 _ D_112 ⟨R_112, K_112, sr_112, nb_112, rfl, g_sr_112, na_sr_112, g_nb_112, na_nb_112, Q0_112, Q1_112, Q2_112, Q3_112⟩ X
          have F_113 := R_112 na92 F_83.lt
          have F_114 := R_112 na97 F_84.lt
          have F_115 := R_112 na_b_51 F_88.lt
          have F_116 := R_112 na119 F_90.lt
          have ne_on_sr_112 : on ≠ sr_112 := neOf F_81.lt g_sr_112
          have ne_te_sr_112 : te ≠ sr_112 := neOf F_82.lt g_sr_112
          have ne_ad92_sr_112 : ad92 ≠ sr_112 := neOf F_83.lt g_sr_112
          have ne_ad97_sr_112 : ad97 ≠ sr_112 := neOf F_84.lt g_sr_112
          have ne_b_51_sr_112 : b_51 ≠ sr_112 := neOf F_88.lt g_sr_112
          have ne_ad119_sr_112 : ad119 ≠ sr_112 := neOf F_90.lt g_sr_112
          have ne_on_nb_112 : on ≠ nb_112 := neOf F_81.lt g_nb_112
          have ne_te_nb_112 : te ≠ nb_112 := neOf F_82.lt g_nb_112
          have ne_ad92_nb_112 : ad92 ≠ nb_112 := neOf F_83.lt g_nb_112
          have ne_ad97_nb_112 : ad97 ≠ nb_112 := neOf F_84.lt g_nb_112
          have ne_b_51_nb_112 : b_51 ≠ nb_112 := neOf F_88.lt g_nb_112
          have ne_ad119_nb_112 : ad119 ≠ nb_112 := neOf F_90.lt g_nb_112
          have F_117 := staKeep F_77 K_112 all0
          have F_118 := staKeep F_78 K_112 all0
          have F_119 := staKeep F_79 K_112 all0
          have F_120 := staKeep F_80 K_112 all0
          have F_121 := F_81.keep K_112 nin0
          have F_122 := F_82.keep K_112 nin0
          have F_123 := F_83.keep K_112
          have F_124 := F_84.keep K_112
          have F_125 := F_85.keep K_112 nin0
          have F_126 := F_86.keep K_112 nin0
          have F_127 := F_87.keep K_112 nin0
          have F_128 := F_88.keep K_112 nin0
          have F_129 := F_89.keep K_112
          have F_130 := F_90.keep K_112
          have F_131 := Q0_76.keep K_112 nin0
          have F_132 := Q1_76.keep K_112 nin0
          refine gAstore X w at_133 rfl #[.val (.int p1), .val (.int p2), .val (.int p3), .val (.int p4), .val (.int p5), .val (.int z_1), .val (.int z_2), .val (.int z_3), .val (.int (3 : Int32)), .val (.int x32), .val (.ref ad92), .val (.ref sr_112), .unset, .unset, .unset] rfl (n := 135) rfl ?_
          have V2 : Av Z h_112 nb_112 .byte (Value.int (own_bt z_1) :: Value.int (own_bt z_2) :: Value.int (own_bt z_3) :: Value.int 58 :: own_dl x32) := Q3_112
          have hbl : ((Value.int (own_bt z_1) :: Value.int (own_bt z_2) :: Value.int (own_bt z_3) :: Value.int 58 :: own_dl x32)).length < 2 ^ 31 := by have := own_dl5 hpt; simp only [List.length_cons]; omega
          have tail : Gl Z p e below s n0 (fun r h _ => r = some (.int 1)) 40 3328 (T.setTop (mkF m 173 #[.val (.int p1), .val (.int p2), .val (.int p3), .val (.int p4), .val (.int p5), .val (.int z_1), .val (.int z_2), .val (.int z_3), .val (.int (3 : Int32)), .val (.int x32), .val (.ref ad92), .val (.ref sr_112), .unset, .unset, .unset] [(.int (0 : Int32))])) := own_tail l Z a0 hw sr_112 nb_112 ad92 (Value.int (own_bt z_1) :: Value.int (own_bt z_2) :: Value.int (own_bt z_3) :: Value.int 58 :: own_dl x32) fo p1 p2 p3 p4 p5 z_1 z_2 z_3 (3 : Int32) (0 : Int32) x32 ccs h_112 n0 Q0_112 Q1_112 Q2_112 V2 F_118 F_117 hz_1 hz_2 hz_3 hcs hpt hbl hfc (fun _ => own_E_3_0 hpt) (fun q => absurd rfl q) (own_H_3_0 hz_1 hz_2 hz_3 hpt) w (Sd.mono X (by decide) (by decide))
          refine gIload X w at_135 rfl (n := 137) rfl ?_
          refine gBipush X w at_137 (z := (58 : Int32)) (by decide) (n := 139) rfl ?_
          refine gIcmp_eq X w at_139 (n := 168) (n' := 142) (by decide) rfl rfl ?_ ?_
          · rintro ⟨c139, c139'⟩
            exact absurd (own_colT3 (Or.inl (own_58bt c139))) hbr
          · rintro ⟨c139, c139'⟩
            refine gIload X w at_142 rfl (n := 144) rfl ?_
            refine gIconst X w at_144 (z := (1 : Int32)) rfl (n := 145) rfl ?_
            refine gIcmp_le X w at_145 (n := 155) (n' := 148) (by decide) rfl rfl ?_ ?_
            · intro c145
              exact absurd c145 (by decide)
            · intro c145
              refine gIload X w at_148 rfl (n := 150) rfl ?_
              refine gBipush X w at_150 (z := (58 : Int32)) (by decide) (n := 152) rfl ?_
              refine gIcmp_eq X w at_152 (n := 168) (n' := 155) (by decide) rfl rfl ?_ ?_
              · rintro ⟨c152, c152'⟩
                exact absurd (own_colT3 (Or.inr (Or.inl (own_58bt c152)))) hbr
              · rintro ⟨c152, c152'⟩
                refine gIload X w at_155 rfl (n := 157) rfl ?_
                refine gIconst X w at_157 (z := (2 : Int32)) rfl (n := 158) rfl ?_
                refine gIcmp_le X w at_158 (n := 172) (n' := 161) (by decide) rfl rfl ?_ ?_
                · intro c158
                  exact absurd c158 (by decide)
                · intro c158
                  refine gIload X w at_161 rfl (n := 163) rfl ?_
                  refine gBipush X w at_163 (z := (58 : Int32)) (by decide) (n := 165) rfl ?_
                  refine gIcmp_ne X w at_165 (n := 172) (n' := 168) (by decide) rfl rfl ?_ ?_
                  · rintro ⟨c165, c165'⟩
                    refine gIconst X w at_172 (z := (0 : Int32)) rfl (n := 173) rfl ?_
                    exact tail
                  · rintro ⟨c165, c165'⟩
                    exact absurd (own_colT3 (Or.inr (Or.inr (own_58bt c165)))) hbr
      · rintro ⟨c64, c64'⟩
        exact absurd c64 (by decide)
    · rintro ⟨c38, c38'⟩
      exact absurd c38 (by decide)
set_option maxRecDepth 65536 in
set_option maxHeartbeats 40000000 in
theorem comes_1 {Post : Tables → Env → Array Value → State → Outcome → State → Prop} (hpost : ∀ tb e args s v u, (limb_1_1.after args s (.returned v) u = true ∧ limb_1_2.after args s (.returned v) u = true ∧ True) → ReturnedEndW s (.returned v) u (Jvm.fieldLocs frame_1_writes args s ++ Jvm.arrayLocs frame_1_arrays args s ++ Jvm.staticLocs frame_1_statics s) 40 3328 → Post tb e args s (.returned v) u) :
    ArmFor flags0 classFile x code maxLocals ret World_1 tables_1 room_1 Calls_1 rest_1 Pre_1 Post := by
  intro l hfl _ _ p e ha hc hk s m args below hf hA hF happ hP
  obtain ⟨hcalls, hrest, hpre⟩ := hP
  obtain ⟨-, -, -, hnamed, -, -, -, hat⟩ := (Spec.applies_iff hf).mp happ
  obtain ⟨hg, hn⟩ := and_e (Cond.before_iff.mp (show (Jvm.Cond.and given_1 narrow_1).before args s = true from hpre))
  obtain ⟨hcnt, g0⟩ := and_e hg
  obtain ⟨w0, w1, w2, w3, w4, rfl⟩ : ∃ w0 w1 w2 w3 w4 : Value, args = #[w0, w1, w2, w3, w4] := by
    have hs : args.size = 5 := by simpa [Cond.value, given_1] using hcnt
    obtain ⟨L⟩ := args
    match L, hs with
    | [w0, w1, w2, w3, w4], _ => exact ⟨w0, w1, w2, w3, w4, rfl⟩
  have hw := fun d (hd : d ∈ tables_1) => atoms_spec (ws := Jvm.Cond.code x code maxLocals ret :: tables_1) hat d (List.mem_cons_of_mem _ hd)
  have hfit : Fit s := fun {y c} hc i hi => by
    obtain ⟨ha, rfl⟩ := Array.getElem?_eq_some_iff.mp hc
    have q := List.all_eq_true.mp ((Array.all_eq_true_iff_forall_mem.mp hF) _ (Array.getElem_mem ha)) i (List.mem_range.mpr hi)
    simpa [Array.getElem?_eq_getElem hi] using q
  obtain ⟨k0, g1⟩ := and_e g0
  obtain ⟨k1, g2⟩ := and_e g1
  obtain ⟨k2, g3⟩ := and_e g2
  obtain ⟨k3, g4⟩ := and_e g3
  obtain ⟨i0, e0⟩ := is_v k0
  obtain rfl : w0 = (.int i0) := Option.some.inj e0
  obtain ⟨i1, e1⟩ := is_v k1
  obtain rfl : w1 = (.int i1) := Option.some.inj e1
  obtain ⟨i2, e2⟩ := is_v k2
  obtain rfl : w2 = (.int i2) := Option.some.inj e2
  obtain ⟨i3, e3⟩ := is_v k3
  obtain rfl : w3 = (.int i3) := Option.some.inj e3
  obtain ⟨i4, e4⟩ := is_v g4
  obtain rfl : w4 = (.int i4) := Option.some.inj e4
  have hr_ := Cond.before_iff.mp (show rest_1_c.before _ s = true from hrest)
  obtain ⟨r_0, hr_0⟩ := and_e hr_
  obtain ⟨r_1, hr_1⟩ := and_e hr_0
  obtain ⟨r_2, hr_2⟩ := and_e hr_1
  obtain ⟨r_3, hr_3⟩ := and_e hr_2
  obtain ⟨r_4, hr_4⟩ := and_e hr_3
  obtain ⟨r_5, hr_5⟩ := and_e hr_4
  obtain ⟨r_6, hr_6⟩ := and_e hr_5
  obtain ⟨r_7, hr_7⟩ := and_e hr_6
  obtain ⟨r_8, hr_8⟩ := and_e hr_7
  obtain ⟨r_9, hr_9⟩ := and_e hr_8
  obtain ⟨r_10, hr_10⟩ := and_e hr_9
  obtain ⟨r_11, hr_11⟩ := and_e hr_10
  obtain ⟨r_12, hr_12⟩ := and_e hr_11
  obtain ⟨r_13, hr_13⟩ := and_e hr_12
  obtain ⟨r_14, hr_14⟩ := and_e hr_13
  obtain ⟨r_15, hr_15⟩ := and_e hr_14
  obtain ⟨r_16, hr_16⟩ := and_e hr_15
  obtain ⟨r_17, hr_17⟩ := and_e hr_16
  obtain ⟨r_18, hr_18⟩ := and_e hr_17
  obtain ⟨r_19, hr_19⟩ := and_e hr_18
  obtain ⟨ccs, eccs⟩ := is_v r_1
  have Scs := Sta.start eccs (Or.inl (Cond.before_iff.mpr r_0))
  have cwp := r_2
  have hcs : ¬ ccs = 0 := own_nz eccs r_2
  obtain ⟨fo, efo, hfo⟩ := isR_v r_8
  have Sfo := Sta.start efo (Or.inl (Cond.before_iff.mpr r_7))
  have hfc := own_cat hfo
  obtain ⟨on, eon⟩ := exa_v r_12
  have Eon := Exa.start eon r_12
  have eon' : ∀ idx, (Jvm.Term.static "java/lang/Integer" "DigitOnes" "[B").eval #[.int i0, .int i1, .int i2, .int i3, .int i4] s none idx s = some (.ref on) := fun idx => eon
  have Son := Sta.start eon (Or.inl (Cond.before_iff.mpr r_11))
  have lon := eqI rfl r_13
  obtain ⟨con, Aon⟩ := own_arrB eon Eon lon (own_wd hw 25 rfl)
  have zon : (con.slots.size : Int) = 100 := own_len eon Aon lon
  have hon := own_tab (g := fun j => 48 + j % 10) eon' Aon zon r_14 (fun j nn => by simp [Term.eval, (back32 nn).1])
  obtain ⟨te, ete⟩ := exa_v r_17
  have Ete := Exa.start ete r_17
  have ete' : ∀ idx, (Jvm.Term.static "java/lang/Integer" "DigitTens" "[B").eval #[.int i0, .int i1, .int i2, .int i3, .int i4] s none idx s = some (.ref te) := fun idx => ete
  have Ste := Sta.start ete (Or.inl (Cond.before_iff.mpr r_16))
  have lte := eqI rfl r_18
  obtain ⟨cte, Ate⟩ := own_arrB ete Ete lte (own_wd hw 25 rfl)
  have zte : (cte.slots.size : Int) = 100 := own_len ete Ate lte
  have hte := own_tab (g := fun j => 48 + j / 10) ete' Ate zte r_19 (fun j nn => by simp [Term.eval, (back32 nn).1])
  have HD := Hd.start (own_ew hw) (fun p hp => hcalls.1 p hp) (Cond.before_iff.mpr cwp) (own_wd hw 25 rfl) (own_wd hw 7 rfl)
  obtain ⟨n, o, h1, h2, h3, _, L, _, rfl, ⟨rfl, N, -⟩, hq⟩ := own_law l s _ hw i0 i1 i2 i3 i4 ccs fo on te con.slots.toList cte.slots.toList s.heap s.heap.size (Nat.le_refl _) Scs hcs Sfo hfc Son Ste ⟨con, Aon, by simp⟩ ⟨cte, Ate, by simp⟩ hon hte p e ha hc hk s m _ below hf ((Spec.applies_iff_loose hf).mp happ).1 ⟨rfl, State.Warmed39.refl s, rfl, HD⟩ trivial
  refine ⟨n, _, h1, h2, h3, hpost _ _ _ _ _ _ ⟨Cond.after_iff.mpr rfl, Cond.after_iff.mpr (eq_i res_at (Term.int_eval (1)) rfl), trivial⟩ ⟨hq.1, hq.2.1, hq.2.2.1, (hq.2.2.2.sift fun y hy => Or.inr (N y hy)).mono (by decide) (by decide)⟩⟩
theorem main_1_1 : Claimed_1_1 := comes_1 fun _ _ _ _ _ _ h hF => ⟨h.1, hF⟩
theorem main_1_2 : Claimed_1_2 := comes_1 fun _ _ _ _ _ _ h hF => ⟨h.2.1, hF⟩
end Jvm.Pilot.@@N@@
namespace Jvm.Pilot.@@N@@
open Jvm Jvm.ClassFile Sem Op Lib Jvm.Free Jvm.Stand Jvm.Pilot.@@N@@.Jvm.D
/-! MADE BY PROGRAM (witnessworld.py) out of the Statement's table words and the real class files: 27 classes; the members and pool entries that the words name. The judged class is class 1, her method 1. -/
namespace start1
open Jvm.ClassFile
def u (s : String) : CpInfo := .utf8 (stringToUtf16 s)
/-- a pool by its gaps: so many unusable entries, then the entry; so many at the end -/
def gap : Nat → List CpInfo → List CpInfo
  | 0, r => r
  | n + 1, r => .unusable :: gap n r
def poolList (es : List (Nat × CpInfo)) (last : Nat) : List CpInfo := es.foldr (fun e r => gap e.1 (e.2 :: r)) (gap last [])
def pool (es : List (Nat × CpInfo)) (last : Nat) : Array CpInfo := ⟨poolList es last⟩
def fileOf (pool : Array CpInfo) (this : Nat) (attrs : Array Attribute := #[]) (ms : Array MethodInfo := #[]) (fl : Nat := 33) (sup : Nat := 0) (ifs : Array Nat := #[]) (fds : Array FieldInfo := #[]) : ClassFile where
  minorVersion := 0
  majorVersion := 65
  constantPool := pool
  accessFlags := fl
  thisClass := this
  superClass := sup
  interfaces := ifs
  fields := fds
  methods := ms
  attributes := attrs
def plain (name : String) (sup : Option ClassId) : Class where
  name := name
  kind := .ordinary
  loader := none
  accessFlags := 33
  super := sup
  interfaces := #[]
  cf := none
  fields := #[]
  methods := #[]
  instanceTypes := #[]
  staticTypes := #[]
  resolved := #[]
  callSites := []
  init := .initialized
  statics := none
  mirror := none

def pool0 : Array CpInfo := pool [(5, u "<init>"), (0, u "()V"), (1, .class_ 10), (1, u "java/lang/Object")] 113

def k0c0 : Code := { maxStack := 0, maxLocals := 1, code := object_method_1_code, exceptionTable := #[], attributes := #[] }
def k0m0 : Method := { name := "<init>", desc := "()V", sig := { parameters := [], returnType := none }, accessFlags := 1, code := some k0c0 }
/-- java/lang/Object -/
def k0 : Class := { plain "java/lang/Object" none with
  accessFlags := 33
  interfaces := #[]
  cf := some (fileOf pool0 8 #[] #[{ accessFlags := 1, nameIndex := 5, descriptorIndex := 6, attributes := #[] }] 33 0 #[] #[])
  fields := #[]
  methods := #[k0m0]
  instanceTypes := #[]
  staticTypes := #[]
  resolved := Array.replicate 124 none
  statics := none }

def pool1 : Array CpInfo := pool [(2, .class_ 4), (1, u "java/lang/Object"), (0, u "<init>"), (0, u "()V"), (0, .methodref 8 9), (0, .class_ 10), (0, .nameAndType 11 12), (0, u "com/example/tidemark/tidemark/protocol/HostPortToStringPinLaw"), (0, u "pick"), (0, u "(I)C"), (0, .integer 2147483647), (0, .integer 65535), (0, .class_ 16), (0, u "java/lang/String"), (0, .methodref 15 18), (0, .nameAndType 5 19), (0, u "([C)V"), (0, .class_ 21), (0, u "com/example/tidemark/tidemark/protocol/HostPort"), (0, .methodref 20 23), (0, .nameAndType 5 24), (0, u "(Ljava/lang/String;I)V"), (0, .methodref 20 26), (0, .nameAndType 27 28), (0, u "toString"), (0, u "()Ljava/lang/String;"), (0, .methodref 8 30), (0, .nameAndType 31 32), (0, u "digits"), (0, u "(I)I"), (0, .methodref 15 34), (0, .nameAndType 35 36), (0, u "length"), (0, u "()I"), (0, .methodref 8 38), (0, .nameAndType 39 40), (0, u "ok"), (0, u "(Ljava/lang/String;IICCCIZII)Z"), (0, .methodref 15 42), (0, .nameAndType 43 12), (0, u "charAt"), (0, .methodref 8 45), (0, .nameAndType 46 47), (0, u "exp"), (0, u "(ICCCIZII)C"), (0, .methodref 8 49), (0, .nameAndType 50 32), (0, u "pow10"), (2, u "law"), (0, u "(IIIII)Z")] 3

def k1m0 : Method := { name := "<init>", desc := "()V", sig := { parameters := [], returnType := none }, accessFlags := 1, code := none }
def k1c1 : Code := { maxStack := 10, maxLocals := 15, code := code, exceptionTable := #[], attributes := #[] }
def k1m1 : Method := { name := "law", desc := "(IIIII)Z", sig := { parameters := [.int, .int, .int, .int, .int], returnType := some .boolean }, accessFlags := 9, code := some k1c1 }
def k1c2 : Code := { maxStack := 2, maxLocals := 1, code := method_3_code, exceptionTable := #[], attributes := #[] }
def k1m2 : Method := { name := "pick", desc := "(I)C", sig := { parameters := [.int], returnType := some .char }, accessFlags := 10, code := some k1c2 }
def k1c3 : Code := { maxStack := 2, maxLocals := 1, code := method_4_code, exceptionTable := #[], attributes := #[] }
def k1m3 : Method := { name := "digits", desc := "(I)I", sig := { parameters := [.int], returnType := some .int }, accessFlags := 10, code := some k1c3 }
def k1c4 : Code := { maxStack := 2, maxLocals := 1, code := method_5_code, exceptionTable := #[], attributes := #[] }
def k1m4 : Method := { name := "pow10", desc := "(I)I", sig := { parameters := [.int], returnType := some .int }, accessFlags := 10, code := some k1c4 }
def k1c5 : Code := { maxStack := 9, maxLocals := 10, code := method_6_code, exceptionTable := #[], attributes := #[] }
def k1m5 : Method := { name := "ok", desc := "(Ljava/lang/String;IICCCIZII)Z", sig := { parameters := [(.object "java/lang/String"), .int, .int, .char, .char, .char, .int, .boolean, .int, .int], returnType := some .boolean }, accessFlags := 10, code := some k1c5 }
def k1c6 : Code := { maxStack := 4, maxLocals := 12, code := method_7_code, exceptionTable := #[], attributes := #[] }
def k1m6 : Method := { name := "exp", desc := "(ICCCIZII)C", sig := { parameters := [.int, .char, .char, .char, .int, .boolean, .int, .int], returnType := some .char }, accessFlags := 10, code := some k1c6 }
/-- com/example/tidemark/tidemark/protocol/HostPortToStringPinLaw -/
def k1 : Class := { plain "com/example/tidemark/tidemark/protocol/HostPortToStringPinLaw" (some 0) with
  accessFlags := 49
  interfaces := #[]
  cf := some (fileOf pool1 8 #[] #[{ accessFlags := 1, nameIndex := 5, descriptorIndex := 6, attributes := #[] }, { accessFlags := 9, nameIndex := 53, descriptorIndex := 54, attributes := #[] }, { accessFlags := 10, nameIndex := 11, descriptorIndex := 12, attributes := #[] }, { accessFlags := 10, nameIndex := 31, descriptorIndex := 32, attributes := #[] }, { accessFlags := 10, nameIndex := 50, descriptorIndex := 32, attributes := #[] }, { accessFlags := 10, nameIndex := 39, descriptorIndex := 40, attributes := #[] }, { accessFlags := 10, nameIndex := 46, descriptorIndex := 47, attributes := #[] }] 49 2 #[] #[])
  fields := #[]
  methods := #[k1m0, k1m1, k1m2, k1m3, k1m4, k1m5, k1m6]
  instanceTypes := #[]
  staticTypes := #[]
  resolved := Array.replicate 58 none
  statics := none }

def pool2 : Array CpInfo := pool [(1, .class_ 2), (0, u "java/io/Serializable"), (0, .class_ 4), (0, u "java/lang/Object")] 2

/-- java/io/Serializable -/
def k2 : Class := { plain "java/io/Serializable" (some 0) with
  accessFlags := 1537
  interfaces := #[]
  cf := some (fileOf pool2 1 #[] #[] 1537 3 #[] #[])
  fields := #[]
  methods := #[]
  instanceTypes := #[]
  staticTypes := #[]
  resolved := Array.replicate 7 none
  statics := none }

def pool3 : Array CpInfo := pool [(1, .class_ 2), (0, u "java/lang/Comparable"), (0, .class_ 4), (0, u "java/lang/Object")] 7

/-- java/lang/Comparable -/
def k3 : Class := { plain "java/lang/Comparable" (some 0) with
  accessFlags := 1537
  interfaces := #[]
  cf := some (fileOf pool3 1 #[] #[] 1537 3 #[] #[])
  fields := #[]
  methods := #[]
  instanceTypes := #[]
  staticTypes := #[]
  resolved := Array.replicate 12 none
  statics := none }

def pool4 : Array CpInfo := pool [(2, .class_ 4), (1, u "java/lang/CharSequence"), (42, .class_ 48), (0, u "java/lang/CharSequence$1CodePointIterator"), (10, .class_ 60), (0, u "java/lang/CharSequence$1CharIterator"), (5, .class_ 67), (0, u "java/lang/Object"), (10, u "toString"), (0, u "()Ljava/lang/String;")] 51

def k4m0 : Method := { name := "toString", desc := "()Ljava/lang/String;", sig := { parameters := [], returnType := some (.object "java/lang/String") }, accessFlags := 1025, code := none }
/-- java/lang/CharSequence -/
def k4 : Class := { plain "java/lang/CharSequence" (some 0) with
  accessFlags := 1537
  interfaces := #[]
  cf := some (fileOf pool4 2 #[.nestMembers #[47, 59]] #[{ accessFlags := 1025, nameIndex := 78, descriptorIndex := 79, attributes := #[] }] 1537 66 #[] #[])
  fields := #[]
  methods := #[k4m0]
  instanceTypes := #[]
  staticTypes := #[]
  resolved := Array.replicate 131 none
  statics := none }

def pool5 : Array CpInfo := pool [(1, .class_ 2), (0, u "java/lang/constant/Constable"), (0, .class_ 4), (0, u "java/lang/Object")] 6

/-- java/lang/constant/Constable -/
def k5 : Class := { plain "java/lang/constant/Constable" (some 0) with
  accessFlags := 1537
  interfaces := #[]
  cf := some (fileOf pool5 1 #[] #[] 1537 3 #[] #[])
  fields := #[]
  methods := #[]
  instanceTypes := #[]
  staticTypes := #[]
  resolved := Array.replicate 11 none
  statics := none }

def pool6 : Array CpInfo := pool [(1, .class_ 2), (0, u "java/lang/constant/ConstantDesc"), (0, .class_ 4), (0, u "java/lang/Object")] 32

/-- java/lang/constant/ConstantDesc -/
def k6 : Class := { plain "java/lang/constant/ConstantDesc" (some 0) with
  accessFlags := 1537
  interfaces := #[]
  cf := some (fileOf pool6 1 #[] #[] 1537 3 #[] #[])
  fields := #[]
  methods := #[]
  instanceTypes := #[]
  staticTypes := #[]
  resolved := Array.replicate 37 none
  statics := none }

def pool7 : Array CpInfo := pool [(1, .methodref 2 3), (0, .class_ 4), (0, .nameAndType 5 6), (0, u "java/lang/Object"), (0, u "<init>"), (0, u "()V"), (2, .fieldref 10 11), (0, .class_ 12), (0, .nameAndType 13 14), (0, u "java/lang/String"), (0, u "value"), (0, u "[B"), (0, .fieldref 10 16), (0, .nameAndType 17 18), (0, u "coder"), (0, u "B"), (2, u "hash"), (0, u "I"), (2, u "hashIsZero"), (0, u "Z"), (0, .methodref 10 28), (0, .nameAndType 5 29), (0, u "([CIILjava/lang/Void;)V"), (8, .fieldref 10 39), (0, .nameAndType 40 26), (0, u "COMPACT_STRINGS"), (1, .class_ 44), (1, u "java/lang/StringUTF16"), (0, u "compress"), (1, .methodref 42 48), (0, .nameAndType 49 50), (0, u "coderFromArrayLen"), (0, u "([BI)B"), (3, .methodref 55 56), (0, .class_ 57), (0, .nameAndType 58 59), (0, u "java/util/Arrays"), (0, u "copyOfRange"), (0, u "([BII)[B"), (47, .class_ 109), (1, u "java/lang/StringLatin1"), (32, u "()Z"), (34, .methodref 42 178), (0, .nameAndType 45 179), (0, u "([CII)[B"), (13, .class_ 195), (1, u "java/lang/System"), (16, .methodref 193 213), (0, .nameAndType 214 215), (0, u "arraycopy"), (0, u "(Ljava/lang/Object;ILjava/lang/Object;II)V"), (118, u "()I"), (0, .methodref 10 336), (0, .nameAndType 17 337), (0, u "()B"), (2, u "()[B"), (22, u "([BI)C"), (27, u "(II)V"), (35, u "(I)C"), (34, .nameAndType 463 464), (0, u "toString"), (0, u "()Ljava/lang/String;"), (24, .methodref 10 490), (0, .nameAndType 5 491), (0, u "(Ljava/lang/AbstractStringBuilder;Ljava/lang/Void;)V"), (0, .methodref 10 493), (0, .nameAndType 494 142), (0, u "isLatin1"), (0, .methodref 107 496), (0, .nameAndType 497 363), (0, u "charAt"), (3, u "checkIndex"), (4, .nameAndType 507 334), (0, u "length"), (24, u "getBytes"), (15, u "(Ljava/lang/CharSequence;)Z"), (0, .methodref 550 506), (0, .class_ 551), (0, u "java/lang/AbstractStringBuilder"), (0, .methodref 550 553), (0, .nameAndType 554 340), (0, u "getValue"), (20, .class_ 576), (0, u "java/lang/CharSequence"), (12, u "([B[B)I"), (9, u "CASE_INSENSITIVE_ORDER"), (0, u "Ljava/util/Comparator;"), (34, u "indexOf"), (11, .methodref 107 648), (0, .nameAndType 635 589), (43, u "isEmpty"), (17, .interfaceMethodref 575 462), (0, .methodref 10 712), (0, .nameAndType 635 713), (0, u "(Ljava/lang/String;)I"), (107, u "([BIB)V"), (188, u "([C)V"), (36, .methodref 550 493), (5, .fieldref 1054 1055), (0, .class_ 1056), (0, .nameAndType 1057 1058), (0, u "jdk/internal/util/Preconditions"), (0, u "SIOOBE_FORMATTER"), (0, u "Ljava/util/function/BiFunction;"), (0, .methodref 1054 1060), (0, .nameAndType 501 1061), (0, u "(IILjava/util/function/BiFunction;)I"), (39, u "serialPersistentFields"), (0, u "[Ljava/io/ObjectStreamField;"), (0, .class_ 1104), (0, u "java/lang/String$CaseInsensitiveComparator"), (1, .class_ 1107), (0, u "java/io/Serializable"), (0, .class_ 1109), (0, u "java/lang/Comparable"), (0, .class_ 1111), (0, u "java/lang/constant/Constable"), (0, .class_ 1113), (0, u "java/lang/constant/ConstantDesc"), (2, u "serialVersionUID"), (0, u "J"), (3, u "REPL"), (0, u "C"), (2, u "LATIN1"), (1, u "UTF16"), (105, u "(Ljava/lang/StringBuilder;)V"), (57, u "contains")] 159

def k7m0 : Method := { name := "<init>", desc := "()V", sig := { parameters := [], returnType := none }, accessFlags := 1, code := none }
def k7c1 : Code := { maxStack := 5, maxLocals := 2, code := jdk_42_method_3_code, exceptionTable := #[], attributes := #[] }
def k7m1 : Method := { name := "<init>", desc := "([C)V", sig := { parameters := [(.array .char)], returnType := none }, accessFlags := 1, code := some k7c1 }
def k7c2 : Code := { maxStack := 3, maxLocals := 2, code := jdk_42_method_53_code, exceptionTable := #[], attributes := #[] }
def k7m2 : Method := { name := "<init>", desc := "(Ljava/lang/StringBuilder;)V", sig := { parameters := [(.object "java/lang/StringBuilder")], returnType := none }, accessFlags := 1, code := some k7c2 }
def k7c3 : Code := { maxStack := 2, maxLocals := 1, code := jdk_42_method_54_code, exceptionTable := #[], attributes := #[] }
def k7m3 : Method := { name := "length", desc := "()I", sig := { parameters := [], returnType := some .int }, accessFlags := 1, code := some k7c3 }
def k7c4 : Code := { maxStack := 1, maxLocals := 1, code := jdk_42_method_55_code, exceptionTable := #[], attributes := #[] }
def k7m4 : Method := { name := "isEmpty", desc := "()Z", sig := { parameters := [], returnType := some .boolean }, accessFlags := 1, code := some k7c4 }
def k7c5 : Code := { maxStack := 2, maxLocals := 2, code := jdk_42_method_56_code, exceptionTable := #[], attributes := #[] }
def k7m5 : Method := { name := "charAt", desc := "(I)C", sig := { parameters := [.int], returnType := some .char }, accessFlags := 1, code := some k7c5 }
def k7c6 : Code := { maxStack := 2, maxLocals := 3, code := jdk_42_method_84_code, exceptionTable := #[], attributes := #[] }
def k7m6 : Method := { name := "indexOf", desc := "(Ljava/lang/String;)I", sig := { parameters := [(.object "java/lang/String")], returnType := some .int }, accessFlags := 1, code := some k7c6 }
def k7c7 : Code := { maxStack := 2, maxLocals := 2, code := jdk_42_method_97_code, exceptionTable := #[], attributes := #[] }
def k7m7 : Method := { name := "contains", desc := "(Ljava/lang/CharSequence;)Z", sig := { parameters := [(.object "java/lang/CharSequence")], returnType := some .boolean }, accessFlags := 1, code := some k7c7 }
def k7c8 : Code := { maxStack := 1, maxLocals := 1, code := jdk_42_method_126_code, exceptionTable := #[], attributes := #[] }
def k7m8 : Method := { name := "toString", desc := "()Ljava/lang/String;", sig := { parameters := [], returnType := some (.object "java/lang/String") }, accessFlags := 1, code := some k7c8 }
def k7c9 : Code := { maxStack := 5, maxLocals := 4, code := jdk_42_method_147_code, exceptionTable := #[], attributes := #[] }
def k7m9 : Method := { name := "getBytes", desc := "([BIB)V", sig := { parameters := [(.array .byte), .int, .byte], returnType := none }, accessFlags := 0, code := some k7c9 }
def k7c10 : Code := { maxStack := 4, maxLocals := 6, code := jdk_42_method_149_code, exceptionTable := #[], attributes := #[] }
def k7m10 : Method := { name := "<init>", desc := "([CIILjava/lang/Void;)V", sig := { parameters := [(.array .char), .int, .int, (.object "java/lang/Void")], returnType := none }, accessFlags := 2, code := some k7c10 }
def k7c11 : Code := { maxStack := 5, maxLocals := 5, code := jdk_42_method_150_code, exceptionTable := #[], attributes := #[] }
def k7m11 : Method := { name := "<init>", desc := "(Ljava/lang/AbstractStringBuilder;Ljava/lang/Void;)V", sig := { parameters := [(.object "java/lang/AbstractStringBuilder"), (.object "java/lang/Void")], returnType := none }, accessFlags := 0, code := some k7c11 }
def k7c12 : Code := { maxStack := 1, maxLocals := 1, code := jdk_42_method_152_code, exceptionTable := #[], attributes := #[] }
def k7m12 : Method := { name := "coder", desc := "()B", sig := { parameters := [], returnType := some .byte }, accessFlags := 0, code := some k7c12 }
def k7c13 : Code := { maxStack := 1, maxLocals := 1, code := jdk_42_method_154_code, exceptionTable := #[], attributes := #[] }
def k7m13 : Method := { name := "isLatin1", desc := "()Z", sig := { parameters := [], returnType := some .boolean }, accessFlags := 0, code := some k7c13 }
def k7c14 : Code := { maxStack := 3, maxLocals := 2, code := jdk_42_method_155_code, exceptionTable := #[], attributes := #[] }
def k7m14 : Method := { name := "checkIndex", desc := "(II)V", sig := { parameters := [.int, .int], returnType := none }, accessFlags := 8, code := some k7c14 }
/-- java/lang/String -/
def k7 : Class := { plain "java/lang/String" (some 0) with
  accessFlags := 49
  interfaces := #[2, 3, 4, 5, 6]
  cf := some (fileOf pool7 10 #[.nestMembers #[1103]] #[{ accessFlags := 1, nameIndex := 5, descriptorIndex := 6, attributes := #[] }, { accessFlags := 1, nameIndex := 5, descriptorIndex := 1010, attributes := #[] }, { accessFlags := 1, nameIndex := 5, descriptorIndex := 1233, attributes := #[] }, { accessFlags := 1, nameIndex := 507, descriptorIndex := 334, attributes := #[] }, { accessFlags := 1, nameIndex := 692, descriptorIndex := 142, attributes := #[] }, { accessFlags := 1, nameIndex := 497, descriptorIndex := 427, attributes := #[] }, { accessFlags := 1, nameIndex := 635, descriptorIndex := 713, attributes := #[] }, { accessFlags := 1, nameIndex := 1291, descriptorIndex := 548, attributes := #[] }, { accessFlags := 1, nameIndex := 463, descriptorIndex := 464, attributes := #[] }, { accessFlags := 0, nameIndex := 532, descriptorIndex := 821, attributes := #[] }, { accessFlags := 2, nameIndex := 5, descriptorIndex := 29, attributes := #[] }, { accessFlags := 0, nameIndex := 5, descriptorIndex := 491, attributes := #[] }, { accessFlags := 0, nameIndex := 17, descriptorIndex := 337, attributes := #[] }, { accessFlags := 0, nameIndex := 494, descriptorIndex := 142, attributes := #[] }, { accessFlags := 8, nameIndex := 501, descriptorIndex := 391, attributes := #[] }] 49 2 #[1106, 1108, 575, 1110, 1112] #[{ accessFlags := 18, nameIndex := 13, descriptorIndex := 14, attributes := #[] }, { accessFlags := 18, nameIndex := 17, descriptorIndex := 18, attributes := #[] }, { accessFlags := 2, nameIndex := 21, descriptorIndex := 22, attributes := #[] }, { accessFlags := 2, nameIndex := 25, descriptorIndex := 26, attributes := #[] }, { accessFlags := 26, nameIndex := 1116, descriptorIndex := 1117, attributes := #[] }, { accessFlags := 24, nameIndex := 40, descriptorIndex := 26, attributes := #[] }, { accessFlags := 26, nameIndex := 1101, descriptorIndex := 1102, attributes := #[] }, { accessFlags := 26, nameIndex := 1121, descriptorIndex := 1122, attributes := #[] }, { accessFlags := 25, nameIndex := 599, descriptorIndex := 600, attributes := #[] }, { accessFlags := 24, nameIndex := 1125, descriptorIndex := 18, attributes := #[] }, { accessFlags := 24, nameIndex := 1127, descriptorIndex := 18, attributes := #[] }])
  fields := #[{ name := "value", type := (.array .byte), accessFlags := 18, slot := 0, constantValue := 0 }, { name := "coder", type := .byte, accessFlags := 18, slot := 1, constantValue := 0 }, { name := "hash", type := .int, accessFlags := 2, slot := 2, constantValue := 0 }, { name := "hashIsZero", type := .boolean, accessFlags := 2, slot := 3, constantValue := 0 }, { name := "serialVersionUID", type := .long, accessFlags := 26, slot := 0, constantValue := 0 }, { name := "COMPACT_STRINGS", type := .boolean, accessFlags := 24, slot := 1, constantValue := 0 }, { name := "serialPersistentFields", type := (.array (.object "java/io/ObjectStreamField")), accessFlags := 26, slot := 2, constantValue := 0 }, { name := "REPL", type := .char, accessFlags := 26, slot := 3, constantValue := 0 }, { name := "CASE_INSENSITIVE_ORDER", type := (.object "java/util/Comparator"), accessFlags := 25, slot := 4, constantValue := 0 }, { name := "LATIN1", type := .byte, accessFlags := 24, slot := 5, constantValue := 0 }, { name := "UTF16", type := .byte, accessFlags := 24, slot := 6, constantValue := 0 }]
  methods := #[k7m0, k7m1, k7m2, k7m3, k7m4, k7m5, k7m6, k7m7, k7m8, k7m9, k7m10, k7m11, k7m12, k7m13, k7m14]
  instanceTypes := #[(.array .byte), .byte, .int, .boolean]
  staticTypes := #[.long, .boolean, (.array (.object "java/io/ObjectStreamField")), .char, (.object "java/util/Comparator"), .byte, .byte]
  resolved := Array.replicate 1451 none
  statics := some 0 }

def pool8 : Array CpInfo := pool [(6, .class_ 8), (1, u "java/lang/Object"), (0, u "<init>"), (0, u "()V"), (1, .class_ 14), (1, u "java/lang/StringUTF16"), (31, u "$assertionsDisabled"), (0, u "Z"), (13, u "HI_BYTE_SHIFT"), (0, u "I"), (2, u "LO_BYTE_SHIFT"), (49, .methodref 12 116), (0, .nameAndType 117 118), (0, u "compress"), (0, u "([CI[BII)I"), (3, u "([CII)[B"), (138, u "coderFromArrayLen"), (0, u "([BI)B"), (106, .class_ 371), (1, u "java/lang/StringUTF16$LinesSpliterator"), (58, u "MAX_LENGTH"), (196, .class_ 628), (0, u "java/lang/StringUTF16$CodePointsSpliterator"), (0, .class_ 630), (0, u "java/lang/StringUTF16$CharsSpliterator")] 4

def k8m0 : Method := { name := "<init>", desc := "()V", sig := { parameters := [], returnType := none }, accessFlags := 0, code := none }
def k8c1 : Code := { maxStack := 2, maxLocals := 2, code := jdk_52_method_15_code, exceptionTable := #[], attributes := #[] }
def k8m1 : Method := { name := "coderFromArrayLen", desc := "([BI)B", sig := { parameters := [(.array .byte), .int], returnType := some .byte }, accessFlags := 8, code := some k8c1 }
def k8c2 : Code := { maxStack := 5, maxLocals := 6, code := jdk_52_method_16_code, exceptionTable := #[], attributes := #[] }
def k8m2 : Method := { name := "compress", desc := "([CII)[B", sig := { parameters := [(.array .char), .int, .int], returnType := some (.array .byte) }, accessFlags := 9, code := some k8c2 }
def k8c3 : Code := { maxStack := 3, maxLocals := 7, code := jdk_52_method_21_code, exceptionTable := #[], attributes := #[] }
def k8m3 : Method := { name := "compress", desc := "([CI[BII)I", sig := { parameters := [(.array .char), .int, (.array .byte), .int, .int], returnType := some .int }, accessFlags := 9, code := some k8c3 }
/-- java/lang/StringUTF16 -/
def k8 : Class := { plain "java/lang/StringUTF16" (some 0) with
  accessFlags := 48
  interfaces := #[]
  cf := some (fileOf pool8 12 #[.nestMembers #[627, 629, 369]] #[{ accessFlags := 0, nameIndex := 9, descriptorIndex := 10, attributes := #[] }, { accessFlags := 8, nameIndex := 261, descriptorIndex := 262, attributes := #[] }, { accessFlags := 9, nameIndex := 117, descriptorIndex := 122, attributes := #[] }, { accessFlags := 9, nameIndex := 117, descriptorIndex := 118, attributes := #[] }] 48 6 #[] #[{ accessFlags := 26, nameIndex := 61, descriptorIndex := 62, attributes := #[] }, { accessFlags := 26, nameIndex := 65, descriptorIndex := 62, attributes := #[] }, { accessFlags := 24, nameIndex := 430, descriptorIndex := 62, attributes := #[] }, { accessFlags := 4120, nameIndex := 46, descriptorIndex := 47, attributes := #[] }])
  fields := #[{ name := "HI_BYTE_SHIFT", type := .int, accessFlags := 26, slot := 0, constantValue := 0 }, { name := "LO_BYTE_SHIFT", type := .int, accessFlags := 26, slot := 1, constantValue := 0 }, { name := "MAX_LENGTH", type := .int, accessFlags := 24, slot := 2, constantValue := 0 }, { name := "$assertionsDisabled", type := .boolean, accessFlags := 4120, slot := 3, constantValue := 0 }]
  methods := #[k8m0, k8m1, k8m2, k8m3]
  instanceTypes := #[]
  staticTypes := #[.int, .int, .int, .boolean]
  resolved := Array.replicate 635 none
  statics := none }

def pool9 : Array CpInfo := pool [(1, .methodref 2 3), (0, .class_ 4), (0, .nameAndType 5 6), (0, u "java/lang/Object"), (0, u "<init>"), (0, u "()V"), (0, .class_ 8), (0, u "java/lang/Record")] 13

def k9c0 : Code := { maxStack := 1, maxLocals := 1, code := jdk_30_method_1_code, exceptionTable := #[], attributes := #[] }
def k9m0 : Method := { name := "<init>", desc := "()V", sig := { parameters := [], returnType := none }, accessFlags := 4, code := some k9c0 }
/-- java/lang/Record -/
def k9 : Class := { plain "java/lang/Record" (some 0) with
  accessFlags := 1057
  interfaces := #[]
  cf := some (fileOf pool9 7 #[] #[{ accessFlags := 4, nameIndex := 5, descriptorIndex := 6, attributes := #[] }] 1057 2 #[] #[])
  fields := #[]
  methods := #[k9m0]
  instanceTypes := #[]
  staticTypes := #[]
  resolved := Array.replicate 22 none
  statics := none }

def pool10 : Array CpInfo := pool [(1, .methodref 2 3), (0, .class_ 4), (0, .nameAndType 5 6), (0, u "java/lang/Record"), (0, u "<init>"), (0, u "()V"), (0, .methodref 8 9), (0, .class_ 10), (0, .nameAndType 11 12), (0, u "java/lang/String"), (0, u "isEmpty"), (0, u "()Z"), (7, .methodref 8 21), (0, .nameAndType 22 23), (0, u "length"), (0, u "()I"), (0, .class_ 25), (0, u "com/example/tidemark/tidemark/protocol/HostPort"), (2, .integer 65535), (0, .class_ 30), (0, u "java/lang/StringBuilder"), (0, .methodref 29 3), (2, .methodref 29 35), (0, .nameAndType 36 37), (0, u "append"), (0, u "(Ljava/lang/String;)Ljava/lang/StringBuilder;"), (0, .methodref 29 39), (0, .nameAndType 36 40), (0, u "(I)Ljava/lang/StringBuilder;"), (2, .methodref 29 44), (0, .nameAndType 45 46), (0, u "toString"), (0, u "()Ljava/lang/String;"), (0, .fieldref 24 48), (0, .nameAndType 49 50), (0, u "host"), (0, u "Ljava/lang/String;"), (0, .fieldref 24 52), (0, .nameAndType 53 54), (0, u "port"), (0, u "I"), (12, .string 68), (0, u "["), (4, .string 74), (0, u "]"), (21, u "(Ljava/lang/String;I)V"), (2, u "ORDER"), (0, u "Ljava/util/Comparator;"), (6, .string 108), (0, u ":"), (0, .methodref 8 110), (0, .nameAndType 111 112), (0, u "contains"), (0, u "(Ljava/lang/CharSequence;)Z"), (27, .class_ 141), (0, u "java/lang/Comparable"), (0, u "MAX_HOST_LENGTH")] 54

def k10c0 : Code := { maxStack := 4, maxLocals := 3, code := prog_6_method_1_code, exceptionTable := #[], attributes := #[] }
def k10m0 : Method := { name := "<init>", desc := "(Ljava/lang/String;I)V", sig := { parameters := [(.object "java/lang/String"), .int], returnType := none }, accessFlags := 1, code := some k10c0 }
def k10c1 : Code := { maxStack := 3, maxLocals := 1, code := prog_6_method_4_code, exceptionTable := #[], attributes := #[] }
def k10m1 : Method := { name := "toString", desc := "()Ljava/lang/String;", sig := { parameters := [], returnType := some (.object "java/lang/String") }, accessFlags := 1, code := some k10c1 }
/-- com/example/tidemark/tidemark/protocol/HostPort -/
def k10 : Class := { plain "com/example/tidemark/tidemark/protocol/HostPort" (some 9) with
  accessFlags := 49
  interfaces := #[3]
  cf := some (fileOf pool10 24 #[] #[{ accessFlags := 1, nameIndex := 5, descriptorIndex := 96, attributes := #[] }, { accessFlags := 1, nameIndex := 45, descriptorIndex := 46, attributes := #[] }] 49 2 #[140] #[{ accessFlags := 18, nameIndex := 49, descriptorIndex := 50, attributes := #[] }, { accessFlags := 18, nameIndex := 53, descriptorIndex := 54, attributes := #[] }, { accessFlags := 26, nameIndex := 142, descriptorIndex := 54, attributes := #[] }, { accessFlags := 26, nameIndex := 99, descriptorIndex := 100, attributes := #[] }])
  fields := #[{ name := "host", type := (.object "java/lang/String"), accessFlags := 18, slot := 0, constantValue := 0 }, { name := "port", type := .int, accessFlags := 18, slot := 1, constantValue := 0 }, { name := "MAX_HOST_LENGTH", type := .int, accessFlags := 26, slot := 0, constantValue := 0 }, { name := "ORDER", type := (.object "java/util/Comparator"), accessFlags := 26, slot := 1, constantValue := 0 }]
  methods := #[k10m0, k10m1]
  instanceTypes := #[(.object "java/lang/String"), .int]
  staticTypes := #[.int, (.object "java/util/Comparator")]
  resolved := Array.replicate 197 none
  statics := none }

def pool11 : Array CpInfo := pool [(1, .class_ 2), (0, u "java/lang/Appendable"), (0, .class_ 4), (0, u "java/lang/Object")] 9

/-- java/lang/Appendable -/
def k11 : Class := { plain "java/lang/Appendable" (some 0) with
  accessFlags := 1537
  interfaces := #[]
  cf := some (fileOf pool11 1 #[] #[] 1537 3 #[] #[])
  fields := #[]
  methods := #[]
  instanceTypes := #[]
  staticTypes := #[]
  resolved := Array.replicate 14 none
  statics := none }

def pool12 : Array CpInfo := pool [(1, .class_ 2), (0, u "java/lang/String"), (0, .methodref 4 5), (0, .class_ 6), (0, .nameAndType 7 8), (0, u "java/lang/Object"), (0, u "<init>"), (0, u "()V"), (1, .class_ 12), (1, u "java/lang/AbstractStringBuilder"), (0, u "EMPTYVALUE"), (0, u "[B"), (0, .fieldref 10 16), (0, .nameAndType 17 14), (0, u "value"), (0, .fieldref 1 19), (0, .nameAndType 20 21), (0, u "COMPACT_STRINGS"), (0, u "Z"), (0, .fieldref 10 23), (0, .nameAndType 24 25), (0, u "coder"), (0, u "B"), (6, .methodref 1 33), (0, .nameAndType 34 35), (0, u "length"), (0, u "()I"), (0, .class_ 37), (0, u "java/lang/Integer"), (2, .methodref 1 41), (0, .nameAndType 24 42), (0, u "()B"), (2, u "append"), (0, u "(Ljava/lang/String;)Ljava/lang/AbstractStringBuilder;"), (1, .class_ 49), (0, u "java/lang/CharSequence"), (19, u "(Ljava/lang/String;)V"), (5, u "maybeLatin1"), (3, .fieldref 10 80), (0, .nameAndType 81 82), (0, u "count"), (0, u "I"), (0, .methodref 10 84), (0, .nameAndType 85 86), (0, u "isLatin1"), (0, u "()Z"), (13, .methodref 10 101), (0, .nameAndType 102 103), (0, u "ensureCapacityInternal"), (0, u "(I)V"), (3, u "(I)I"), (80, u "getChars"), (19, .methodref 10 209), (0, .nameAndType 210 211), (0, u "putStringAt"), (0, u "(ILjava/lang/String;)V"), (5, u "inflateIfNeededFor"), (2, .nameAndType 221 222), (0, u "getBytes"), (0, u "([BIB)V"), (22, .methodref 36 246), (0, .nameAndType 247 107), (0, u "stringSize"), (0, .methodref 36 249), (0, .nameAndType 188 250), (0, u "(II[B)I"), (146, .methodref 10 398), (0, .nameAndType 217 69), (0, .methodref 1 220), (3, u "()[B"), (40, .class_ 445), (0, u "java/lang/Appendable"), (65, u "(I)Ljava/lang/AbstractStringBuilder;"), (40, u "getValue")] 56

def k12m0 : Method := { name := "<init>", desc := "()V", sig := { parameters := [], returnType := none }, accessFlags := 0, code := none }
def k12c1 : Code := { maxStack := 2, maxLocals := 2, code := jdk_68_method_2_code, exceptionTable := #[], attributes := #[] }
def k12m1 : Method := { name := "<init>", desc := "(I)V", sig := { parameters := [.int], returnType := none }, accessFlags := 0, code := some k12c1 }
def k12c2 : Code := { maxStack := 1, maxLocals := 1, code := jdk_68_method_6_code, exceptionTable := #[], attributes := #[] }
def k12m2 : Method := { name := "length", desc := "()I", sig := { parameters := [], returnType := some .int }, accessFlags := 1, code := some k12c2 }
def k12c3 : Code := { maxStack := 4, maxLocals := 3, code := jdk_68_method_9_code, exceptionTable := #[], attributes := #[] }
def k12m3 : Method := { name := "ensureCapacityInternal", desc := "(I)V", sig := { parameters := [.int], returnType := none }, accessFlags := 2, code := some k12c3 }
def k12c4 : Code := { maxStack := 3, maxLocals := 3, code := jdk_68_method_22_code, exceptionTable := #[], attributes := #[] }
def k12m4 : Method := { name := "append", desc := "(Ljava/lang/String;)Ljava/lang/AbstractStringBuilder;", sig := { parameters := [(.object "java/lang/String")], returnType := some (.object "java/lang/AbstractStringBuilder") }, accessFlags := 1, code := some k12c4 }
def k12c5 : Code := { maxStack := 4, maxLocals := 4, code := jdk_68_method_32_code, exceptionTable := #[], attributes := #[] }
def k12m5 : Method := { name := "append", desc := "(I)Ljava/lang/AbstractStringBuilder;", sig := { parameters := [.int], returnType := some (.object "java/lang/AbstractStringBuilder") }, accessFlags := 1, code := some k12c5 }
def k12c6 : Code := { maxStack := 1, maxLocals := 1, code := jdk_68_method_64_code, exceptionTable := #[], attributes := #[] }
def k12m6 : Method := { name := "getValue", desc := "()[B", sig := { parameters := [], returnType := some (.array .byte) }, accessFlags := 16, code := some k12c6 }
def k12c7 : Code := { maxStack := 1, maxLocals := 1, code := jdk_68_method_68_code, exceptionTable := #[], attributes := #[] }
def k12m7 : Method := { name := "isLatin1", desc := "()Z", sig := { parameters := [], returnType := some .boolean }, accessFlags := 16, code := some k12c7 }
def k12c8 : Code := { maxStack := 2, maxLocals := 2, code := jdk_68_method_71_code, exceptionTable := #[], attributes := #[] }
def k12m8 : Method := { name := "inflateIfNeededFor", desc := "(Ljava/lang/String;)V", sig := { parameters := [(.object "java/lang/String")], returnType := none }, accessFlags := 2, code := some k12c8 }
def k12c9 : Code := { maxStack := 4, maxLocals := 3, code := jdk_68_method_73_code, exceptionTable := #[], attributes := #[] }
def k12m9 : Method := { name := "putStringAt", desc := "(ILjava/lang/String;)V", sig := { parameters := [.int, (.object "java/lang/String")], returnType := none }, accessFlags := 2, code := some k12c9 }
/-- java/lang/AbstractStringBuilder -/
def k12 : Class := { plain "java/lang/AbstractStringBuilder" (some 0) with
  accessFlags := 1056
  interfaces := #[11, 4]
  cf := some (fileOf pool12 10 #[] #[{ accessFlags := 0, nameIndex := 7, descriptorIndex := 8, attributes := #[] }, { accessFlags := 0, nameIndex := 7, descriptorIndex := 103, attributes := #[] }, { accessFlags := 1, nameIndex := 34, descriptorIndex := 35, attributes := #[] }, { accessFlags := 2, nameIndex := 102, descriptorIndex := 103, attributes := #[] }, { accessFlags := 1, nameIndex := 45, descriptorIndex := 46, attributes := #[] }, { accessFlags := 1, nameIndex := 45, descriptorIndex := 511, attributes := #[] }, { accessFlags := 16, nameIndex := 552, descriptorIndex := 403, attributes := #[] }, { accessFlags := 16, nameIndex := 85, descriptorIndex := 86, attributes := #[] }, { accessFlags := 2, nameIndex := 217, descriptorIndex := 69, attributes := #[] }, { accessFlags := 2, nameIndex := 210, descriptorIndex := 211, attributes := #[] }] 1056 4 #[444, 48] #[{ accessFlags := 0, nameIndex := 17, descriptorIndex := 14, attributes := #[] }, { accessFlags := 0, nameIndex := 24, descriptorIndex := 25, attributes := #[] }, { accessFlags := 0, nameIndex := 75, descriptorIndex := 21, attributes := #[] }, { accessFlags := 0, nameIndex := 81, descriptorIndex := 82, attributes := #[] }, { accessFlags := 26, nameIndex := 13, descriptorIndex := 14, attributes := #[] }])
  fields := #[{ name := "value", type := (.array .byte), accessFlags := 0, slot := 0, constantValue := 0 }, { name := "coder", type := .byte, accessFlags := 0, slot := 1, constantValue := 0 }, { name := "maybeLatin1", type := .boolean, accessFlags := 0, slot := 2, constantValue := 0 }, { name := "count", type := .int, accessFlags := 0, slot := 3, constantValue := 0 }, { name := "EMPTYVALUE", type := (.array .byte), accessFlags := 26, slot := 0, constantValue := 0 }]
  methods := #[k12m0, k12m1, k12m2, k12m3, k12m4, k12m5, k12m6, k12m7, k12m8, k12m9]
  instanceTypes := #[(.array .byte), .byte, .boolean, .int]
  staticTypes := #[(.array .byte)]
  resolved := Array.replicate 609 none
  statics := none }

def pool13 : Array CpInfo := pool [(1, .methodref 2 3), (0, .class_ 4), (0, .nameAndType 5 6), (0, u "java/lang/AbstractStringBuilder"), (0, u "<init>"), (0, u "(I)V"), (11, .class_ 20), (1, u "java/lang/String"), (3, .class_ 26), (1, u "java/lang/StringBuilder"), (0, u "append"), (0, u "(Ljava/lang/String;)Ljava/lang/StringBuilder;"), (0, .methodref 2 30), (0, .nameAndType 27 31), (0, u "(Ljava/lang/String;)Ljava/lang/AbstractStringBuilder;"), (21, .methodref 2 54), (0, .nameAndType 27 55), (0, u "(I)Ljava/lang/AbstractStringBuilder;"), (81, .methodref 18 138), (0, .nameAndType 5 139), (0, u "(Ljava/lang/StringBuilder;)V"), (5, u "()V"), (10, u "()I"), (111, u "(I)Ljava/lang/StringBuilder;"), (74, .methodref 2 344), (0, .nameAndType 345 156), (0, u "length"), (3, .class_ 350), (0, u "java/lang/Appendable"), (0, .class_ 352), (0, u "java/io/Serializable"), (0, .class_ 354), (0, u "java/lang/Comparable"), (0, .class_ 356), (0, u "java/lang/CharSequence"), (0, u "serialVersionUID"), (0, u "J"), (40, u "toString"), (0, u "()Ljava/lang/String;")] 21

def k13c0 : Code := { maxStack := 2, maxLocals := 1, code := jdk_67_method_1_code, exceptionTable := #[], attributes := #[] }
def k13m0 : Method := { name := "<init>", desc := "()V", sig := { parameters := [], returnType := none }, accessFlags := 1, code := some k13c0 }
def k13c1 : Code := { maxStack := 2, maxLocals := 2, code := jdk_67_method_7_code, exceptionTable := #[], attributes := #[] }
def k13m1 : Method := { name := "append", desc := "(Ljava/lang/String;)Ljava/lang/StringBuilder;", sig := { parameters := [(.object "java/lang/String")], returnType := some (.object "java/lang/StringBuilder") }, accessFlags := 1, code := some k13c1 }
def k13c2 : Code := { maxStack := 2, maxLocals := 2, code := jdk_67_method_15_code, exceptionTable := #[], attributes := #[] }
def k13m2 : Method := { name := "append", desc := "(I)Ljava/lang/StringBuilder;", sig := { parameters := [.int], returnType := some (.object "java/lang/StringBuilder") }, accessFlags := 1, code := some k13c2 }
def k13c3 : Code := { maxStack := 3, maxLocals := 1, code := jdk_67_method_42_code, exceptionTable := #[], attributes := #[] }
def k13m3 : Method := { name := "toString", desc := "()Ljava/lang/String;", sig := { parameters := [], returnType := some (.object "java/lang/String") }, accessFlags := 1, code := some k13c3 }
def k13c4 : Code := { maxStack := 1, maxLocals := 1, code := jdk_67_method_93_code, exceptionTable := #[], attributes := #[] }
def k13m4 : Method := { name := "length", desc := "()I", sig := { parameters := [], returnType := some .int }, accessFlags := 4161, code := some k13c4 }
/-- java/lang/StringBuilder -/
def k13 : Class := { plain "java/lang/StringBuilder" (some 12) with
  accessFlags := 49
  interfaces := #[11, 2, 3, 4]
  cf := some (fileOf pool13 24 #[] #[{ accessFlags := 1, nameIndex := 5, descriptorIndex := 145, attributes := #[] }, { accessFlags := 1, nameIndex := 27, descriptorIndex := 28, attributes := #[] }, { accessFlags := 1, nameIndex := 27, descriptorIndex := 268, attributes := #[] }, { accessFlags := 1, nameIndex := 399, descriptorIndex := 400, attributes := #[] }, { accessFlags := 4161, nameIndex := 345, descriptorIndex := 156, attributes := #[] }] 49 2 #[349, 351, 353, 355] #[{ accessFlags := 24, nameIndex := 357, descriptorIndex := 358, attributes := #[] }])
  fields := #[{ name := "serialVersionUID", type := .long, accessFlags := 24, slot := 0, constantValue := 0 }]
  methods := #[k13m0, k13m1, k13m2, k13m3, k13m4]
  instanceTypes := #[(.array .byte), .byte, .boolean, .int]
  staticTypes := #[.long]
  resolved := Array.replicate 422 none
  statics := none }

def pool14 : Array CpInfo := pool [(1, .class_ 2), (0, u "java/lang/String"), (1, .class_ 6), (1, u "java/lang/Object"), (0, u "<init>"), (0, u "()V"), (0, .methodref 1 10), (0, .nameAndType 11 12), (0, u "checkIndex"), (0, u "(II)V"), (1, .class_ 16), (1, u "java/lang/StringLatin1"), (36, u "([BI)C"), (45, .methodref 14 100), (0, .nameAndType 101 102), (0, u "indexOf"), (0, u "([BI[BII)I"), (18, u "$assertionsDisabled"), (0, u "Z"), (98, .class_ 223), (1, u "java/lang/StringLatin1$LinesSpliterator"), (28, u "charAt"), (34, u "([B[B)I"), (102, .class_ 391), (0, u "java/lang/StringLatin1$CharsSpliterator")] 3

def k14m0 : Method := { name := "<init>", desc := "()V", sig := { parameters := [], returnType := none }, accessFlags := 0, code := none }
def k14c1 : Code := { maxStack := 2, maxLocals := 2, code := jdk_43_method_2_code, exceptionTable := #[], attributes := #[] }
def k14m1 : Method := { name := "charAt", desc := "([BI)C", sig := { parameters := [(.array .byte), .int], returnType := some .char }, accessFlags := 9, code := some k14c1 }
def k14c2 : Code := { maxStack := 5, maxLocals := 2, code := jdk_43_method_24_code, exceptionTable := #[], attributes := #[] }
def k14m2 : Method := { name := "indexOf", desc := "([B[B)I", sig := { parameters := [(.array .byte), (.array .byte)], returnType := some .int }, accessFlags := 9, code := some k14c2 }
def k14c3 : Code := { maxStack := 3, maxLocals := 11, code := jdk_43_method_25_code, exceptionTable := #[], attributes := #[] }
def k14m3 : Method := { name := "indexOf", desc := "([BI[BII)I", sig := { parameters := [(.array .byte), .int, (.array .byte), .int, .int], returnType := some .int }, accessFlags := 9, code := some k14c3 }
/-- java/lang/StringLatin1 -/
def k14 : Class := { plain "java/lang/StringLatin1" (some 0) with
  accessFlags := 48
  interfaces := #[]
  cf := some (fileOf pool14 14 #[.nestMembers #[390, 221]] #[{ accessFlags := 0, nameIndex := 7, descriptorIndex := 8, attributes := #[] }, { accessFlags := 9, nameIndex := 252, descriptorIndex := 53, attributes := #[] }, { accessFlags := 9, nameIndex := 101, descriptorIndex := 287, attributes := #[] }, { accessFlags := 9, nameIndex := 101, descriptorIndex := 102, attributes := #[] }] 48 4 #[] #[{ accessFlags := 4120, nameIndex := 121, descriptorIndex := 122, attributes := #[] }])
  fields := #[{ name := "$assertionsDisabled", type := .boolean, accessFlags := 4120, slot := 0, constantValue := 0 }]
  methods := #[k14m0, k14m1, k14m2, k14m3]
  instanceTypes := #[]
  staticTypes := #[.boolean]
  resolved := Array.replicate 395 none
  statics := none }

def pool15 : Array CpInfo := pool [(2, .class_ 4), (1, u "java/lang/Object"), (0, u "<init>"), (0, u "()V"), (1, .class_ 10), (1, u "java/lang/System"), (0, u "allowSecurityManager"), (0, u "I"), (16, u "cons"), (0, u "Ljava/io/Console;"), (77, .class_ 110), (1, u "java/lang/System$CallersHolder"), (43, u "initialErrStream"), (0, u "Ljava/io/PrintStream;"), (19, u "security"), (0, u "Ljava/lang/SecurityManager;"), (31, .class_ 209), (0, u "java/lang/System$1"), (7, u "props"), (0, u "Ljava/util/Properties;"), (2, u "lineSeparator"), (0, u "Ljava/lang/String;"), (96, .class_ 321), (1, u "java/lang/System$LoggerFinder"), (5, .class_ 328), (0, u "java/lang/System$Logger"), (67, u "err"), (2, u "out"), (91, u "notSupportedJnuEncoding"), (15, u "in"), (17, u "initialIn"), (0, u "Ljava/io/InputStream;"), (35, u "bootLayer"), (0, u "Ljava/lang/ModuleLayer;"), (99, .class_ 664), (0, u "java/lang/System$2"), (9, u "NEVER"), (2, u "MAYBE"), (49, u "arraycopy"), (0, u "(Ljava/lang/Object;ILjava/lang/Object;II)V"), (72, .class_ 802), (0, u "java/lang/System$Logger$Level")] 31

def k15m0 : Method := { name := "<init>", desc := "()V", sig := { parameters := [], returnType := none }, accessFlags := 2, code := none }
def k15m1 : Method := { name := "arraycopy", desc := "(Ljava/lang/Object;ILjava/lang/Object;II)V", sig := { parameters := [(.object "java/lang/Object"), .int, (.object "java/lang/Object"), .int, .int], returnType := none }, accessFlags := 265, code := none }
/-- java/lang/System -/
def k15 : Class := { plain "java/lang/System" (some 0) with
  accessFlags := 49
  interfaces := #[]
  cf := some (fileOf pool15 8 #[.nestMembers #[319, 327, 801, 108, 663, 208]] #[{ accessFlags := 2, nameIndex := 5, descriptorIndex := 6, attributes := #[] }, { accessFlags := 265, nameIndex := 727, descriptorIndex := 728, attributes := #[] }] 49 2 #[] #[{ accessFlags := 25, nameIndex := 507, descriptorIndex := 526, attributes := #[] }, { accessFlags := 25, nameIndex := 399, descriptorIndex := 155, attributes := #[] }, { accessFlags := 25, nameIndex := 396, descriptorIndex := 155, attributes := #[] }, { accessFlags := 10, nameIndex := 525, descriptorIndex := 526, attributes := #[] }, { accessFlags := 26, nameIndex := 674, descriptorIndex := 12, attributes := #[] }, { accessFlags := 26, nameIndex := 677, descriptorIndex := 12, attributes := #[] }, { accessFlags := 10, nameIndex := 11, descriptorIndex := 12, attributes := #[] }, { accessFlags := 74, nameIndex := 175, descriptorIndex := 176, attributes := #[] }, { accessFlags := 10, nameIndex := 491, descriptorIndex := 222, attributes := #[] }, { accessFlags := 74, nameIndex := 29, descriptorIndex := 30, attributes := #[] }, { accessFlags := 74, nameIndex := 154, descriptorIndex := 155, attributes := #[] }, { accessFlags := 10, nameIndex := 217, descriptorIndex := 218, attributes := #[] }, { accessFlags := 10, nameIndex := 221, descriptorIndex := 222, attributes := #[] }, { accessFlags := 8, nameIndex := 562, descriptorIndex := 563, attributes := #[] }])
  fields := #[{ name := "in", type := (.object "java/io/InputStream"), accessFlags := 25, slot := 0, constantValue := 0 }, { name := "out", type := (.object "java/io/PrintStream"), accessFlags := 25, slot := 1, constantValue := 0 }, { name := "err", type := (.object "java/io/PrintStream"), accessFlags := 25, slot := 2, constantValue := 0 }, { name := "initialIn", type := (.object "java/io/InputStream"), accessFlags := 10, slot := 3, constantValue := 0 }, { name := "NEVER", type := .int, accessFlags := 26, slot := 4, constantValue := 0 }, { name := "MAYBE", type := .int, accessFlags := 26, slot := 5, constantValue := 0 }, { name := "allowSecurityManager", type := .int, accessFlags := 10, slot := 6, constantValue := 0 }, { name := "security", type := (.object "java/lang/SecurityManager"), accessFlags := 74, slot := 7, constantValue := 0 }, { name := "notSupportedJnuEncoding", type := (.object "java/lang/String"), accessFlags := 10, slot := 8, constantValue := 0 }, { name := "cons", type := (.object "java/io/Console"), accessFlags := 74, slot := 9, constantValue := 0 }, { name := "initialErrStream", type := (.object "java/io/PrintStream"), accessFlags := 74, slot := 10, constantValue := 0 }, { name := "props", type := (.object "java/util/Properties"), accessFlags := 10, slot := 11, constantValue := 0 }, { name := "lineSeparator", type := (.object "java/lang/String"), accessFlags := 10, slot := 12, constantValue := 0 }, { name := "bootLayer", type := (.object "java/lang/ModuleLayer"), accessFlags := 8, slot := 13, constantValue := 0 }]
  methods := #[k15m0, k15m1]
  instanceTypes := #[]
  staticTypes := #[(.object "java/io/InputStream"), (.object "java/io/PrintStream"), (.object "java/io/PrintStream"), (.object "java/io/InputStream"), .int, .int, .int, (.object "java/lang/SecurityManager"), (.object "java/lang/String"), (.object "java/io/Console"), (.object "java/io/PrintStream"), (.object "java/util/Properties"), (.object "java/lang/String"), (.object "java/lang/ModuleLayer")]
  resolved := Array.replicate 834 none
  statics := none }

def pool16 : Array CpInfo := pool [(2, .class_ 4), (1, u "java/lang/Object"), (0, u "<init>"), (0, u "()V"), (1, .class_ 10), (1, u "java/lang/Number"), (2, .class_ 14), (0, u "java/io/Serializable"), (0, u "serialVersionUID"), (0, u "J")] 20

def k16m0 : Method := { name := "<init>", desc := "()V", sig := { parameters := [], returnType := none }, accessFlags := 1, code := none }
/-- java/lang/Number -/
def k16 : Class := { plain "java/lang/Number" (some 0) with
  accessFlags := 1057
  interfaces := #[2]
  cf := some (fileOf pool16 8 #[] #[{ accessFlags := 1, nameIndex := 5, descriptorIndex := 6, attributes := #[] }] 1057 2 #[13] #[{ accessFlags := 26, nameIndex := 15, descriptorIndex := 16, attributes := #[] }])
  fields := #[{ name := "serialVersionUID", type := .long, accessFlags := 26, slot := 0, constantValue := 0 }]
  methods := #[k16m0]
  instanceTypes := #[]
  staticTypes := #[.long]
  resolved := Array.replicate 37 none
  statics := none }

def pool17 : Array CpInfo := pool [(1, .class_ 2), (0, u "java/lang/Integer"), (16, u "digits"), (0, u "[C"), (33, u "(I)I"), (19, u "stringSize"), (2, u "getChars"), (0, u "(II[B)I"), (4, .fieldref 1 84), (0, .nameAndType 85 86), (0, u "DigitOnes"), (0, u "[B"), (0, .fieldref 1 88), (0, .nameAndType 89 86), (0, u "DigitTens"), (99, .class_ 190), (0, u "java/lang/Integer$IntegerCache"), (3, u "I"), (8, .class_ 204), (0, u "java/lang/Number"), (2, u "value"), (94, u "TYPE"), (0, u "Ljava/lang/Class;"), (0, .class_ 305), (0, u "java/lang/Comparable"), (0, .class_ 307), (0, u "java/lang/constant/Constable"), (0, .class_ 309), (0, u "java/lang/constant/ConstantDesc"), (0, u "MIN_VALUE"), (1, u "MAX_VALUE"), (3, u "SIZE"), (1, u "BYTES"), (1, u "serialVersionUID"), (0, u "J")] 131

def k17c0 : Code := { maxStack := 4, maxLocals := 7, code := jdk_33_method_12_code, exceptionTable := #[], attributes := #[] }
def k17m0 : Method := { name := "getChars", desc := "(II[B)I", sig := { parameters := [.int, .int, (.array .byte)], returnType := some .int }, accessFlags := 8, code := some k17c0 }
def k17c1 : Code := { maxStack := 2, maxLocals := 4, code := jdk_33_method_13_code, exceptionTable := #[], attributes := #[] }
def k17m1 : Method := { name := "stringSize", desc := "(I)I", sig := { parameters := [.int], returnType := some .int }, accessFlags := 8, code := some k17c1 }
/-- java/lang/Integer -/
def k17 : Class := { plain "java/lang/Integer" (some 16) with
  accessFlags := 49
  interfaces := #[3, 5, 6]
  cf := some (fileOf pool17 1 #[.nestMembers #[189]] #[{ accessFlags := 8, nameIndex := 77, descriptorIndex := 78, attributes := #[] }, { accessFlags := 8, nameIndex := 74, descriptorIndex := 54, attributes := #[] }] 49 203 #[304, 306, 308] #[{ accessFlags := 25, nameIndex := 310, descriptorIndex := 194, attributes := #[] }, { accessFlags := 25, nameIndex := 312, descriptorIndex := 194, attributes := #[] }, { accessFlags := 25, nameIndex := 302, descriptorIndex := 303, attributes := #[] }, { accessFlags := 24, nameIndex := 19, descriptorIndex := 20, attributes := #[] }, { accessFlags := 24, nameIndex := 89, descriptorIndex := 86, attributes := #[] }, { accessFlags := 24, nameIndex := 85, descriptorIndex := 86, attributes := #[] }, { accessFlags := 18, nameIndex := 207, descriptorIndex := 194, attributes := #[] }, { accessFlags := 25, nameIndex := 316, descriptorIndex := 194, attributes := #[] }, { accessFlags := 25, nameIndex := 318, descriptorIndex := 194, attributes := #[] }, { accessFlags := 26, nameIndex := 320, descriptorIndex := 321, attributes := #[] }])
  fields := #[{ name := "MIN_VALUE", type := .int, accessFlags := 25, slot := 0, constantValue := 0 }, { name := "MAX_VALUE", type := .int, accessFlags := 25, slot := 1, constantValue := 0 }, { name := "TYPE", type := (.object "java/lang/Class"), accessFlags := 25, slot := 2, constantValue := 0 }, { name := "digits", type := (.array .char), accessFlags := 24, slot := 3, constantValue := 0 }, { name := "DigitTens", type := (.array .byte), accessFlags := 24, slot := 4, constantValue := 0 }, { name := "DigitOnes", type := (.array .byte), accessFlags := 24, slot := 5, constantValue := 0 }, { name := "value", type := .int, accessFlags := 18, slot := 0, constantValue := 0 }, { name := "SIZE", type := .int, accessFlags := 25, slot := 6, constantValue := 0 }, { name := "BYTES", type := .int, accessFlags := 25, slot := 7, constantValue := 0 }, { name := "serialVersionUID", type := .long, accessFlags := 26, slot := 8, constantValue := 0 }]
  methods := #[k17m0, k17m1]
  instanceTypes := #[.int]
  staticTypes := #[.int, .int, (.object "java/lang/Class"), (.array .char), (.array .byte), (.array .byte), .int, .int, .long]
  resolved := Array.replicate 453 none
  statics := some 1 }

def pool18 : Array CpInfo := pool [(2, .class_ 4), (1, u "java/lang/Object"), (0, u "<init>"), (0, u "()V"), (7, .class_ 16), (1, u "java/util/Arrays"), (57, .class_ 76), (1, u "java/util/Arrays$NaturalOrder"), (36, .class_ 115), (1, u "java/util/Arrays$LegacyMergeSort"), (1, u "Z"), (21, u "copyOfRange"), (10, .methodref 151 152), (0, .class_ 153), (0, .nameAndType 154 155), (0, u "java/lang/System"), (0, u "arraycopy"), (0, u "(Ljava/lang/Object;ILjava/lang/Object;II)V"), (148, .methodref 305 306), (0, .class_ 307), (0, .nameAndType 308 309), (0, u "java/lang/Math"), (0, u "min"), (0, u "(II)I"), (29, .methodref 14 340), (0, .nameAndType 341 342), (0, u "copyOfRangeByte"), (0, u "([BII)[B"), (0, .methodref 14 344), (0, .nameAndType 345 346), (0, u "checkLength"), (0, u "(II)V"), (28, .class_ 376), (0, u "java/util/Arrays$ArrayList"), (68, u "$assertionsDisabled"), (269, u "MIN_ARRAY_SORT_GRAN"), (0, u "I"), (2, u "INSERTIONSORT_THRESHOLD"), (255, .class_ 976), (0, u "java/util/Arrays$ArrayItr")] 52

def k18m0 : Method := { name := "<init>", desc := "()V", sig := { parameters := [], returnType := none }, accessFlags := 2, code := none }
def k18c1 : Code := { maxStack := 4, maxLocals := 2, code := jdk_65_method_131_code, exceptionTable := #[], attributes := #[] }
def k18m1 : Method := { name := "checkLength", desc := "(II)V", sig := { parameters := [.int, .int], returnType := none }, accessFlags := 10, code := some k18c1 }
def k18c2 : Code := { maxStack := 3, maxLocals := 3, code := jdk_65_method_132_code, exceptionTable := #[], attributes := #[] }
def k18m2 : Method := { name := "copyOfRange", desc := "([BII)[B", sig := { parameters := [(.array .byte), .int, .int], returnType := some (.array .byte) }, accessFlags := 9, code := some k18c2 }
def k18c3 : Code := { maxStack := 6, maxLocals := 5, code := jdk_65_method_133_code, exceptionTable := #[], attributes := #[] }
def k18m3 : Method := { name := "copyOfRangeByte", desc := "([BII)[B", sig := { parameters := [(.array .byte), .int, .int], returnType := some (.array .byte) }, accessFlags := 10, code := some k18c3 }
/-- java/util/Arrays -/
def k18 : Class := { plain "java/util/Arrays" (some 0) with
  accessFlags := 49
  interfaces := #[]
  cf := some (fileOf pool18 14 #[.nestMembers #[975, 375, 113, 74]] #[{ accessFlags := 2, nameIndex := 5, descriptorIndex := 6, attributes := #[] }, { accessFlags := 10, nameIndex := 345, descriptorIndex := 346, attributes := #[] }, { accessFlags := 9, nameIndex := 139, descriptorIndex := 342, attributes := #[] }, { accessFlags := 10, nameIndex := 341, descriptorIndex := 342, attributes := #[] }] 49 2 #[] #[{ accessFlags := 26, nameIndex := 715, descriptorIndex := 716, attributes := #[] }, { accessFlags := 26, nameIndex := 719, descriptorIndex := 716, attributes := #[] }, { accessFlags := 4120, nameIndex := 445, descriptorIndex := 117, attributes := #[] }])
  fields := #[{ name := "MIN_ARRAY_SORT_GRAN", type := .int, accessFlags := 26, slot := 0, constantValue := 0 }, { name := "INSERTIONSORT_THRESHOLD", type := .int, accessFlags := 26, slot := 1, constantValue := 0 }, { name := "$assertionsDisabled", type := .boolean, accessFlags := 4120, slot := 2, constantValue := 0 }]
  methods := #[k18m0, k18m1, k18m2, k18m3]
  instanceTypes := #[]
  staticTypes := #[.int, .int, .boolean]
  resolved := Array.replicate 1029 none
  statics := none }

def pool19 : Array CpInfo := pool [(1, .class_ 2), (0, u "java/lang/Math"), (1, .class_ 6), (1, u "java/lang/Object"), (0, u "<init>"), (0, u "()V"), (89, .class_ 100), (1, u "java/lang/Math$RandomNumberGeneratorHolder"), (71, u "negativeZeroFloatBits"), (0, u "J"), (2, u "negativeZeroDoubleBits"), (24, u "min"), (43, u "$assertionsDisabled"), (0, u "Z"), (88, u "(II)I"), (2, u "twoToTheDoubleScaleDown"), (0, u "D"), (4, u "twoToTheDoubleScaleUp"), (9, u "E"), (3, u "PI"), (2, u "TAU"), (2, u "DEGREES_TO_RADIANS"), (0, u "RADIANS_TO_DEGREES")] 94

def k19m0 : Method := { name := "<init>", desc := "()V", sig := { parameters := [], returnType := none }, accessFlags := 2, code := none }
def k19c1 : Code := { maxStack := 2, maxLocals := 2, code := jdk_29_method_69_code, exceptionTable := #[], attributes := #[] }
def k19m1 : Method := { name := "min", desc := "(II)I", sig := { parameters := [.int, .int], returnType := some .int }, accessFlags := 9, code := some k19c1 }
/-- java/lang/Math -/
def k19 : Class := { plain "java/lang/Math" (some 0) with
  accessFlags := 49
  interfaces := #[]
  cf := some (fileOf pool19 1 #[.nestMembers #[98]] #[{ accessFlags := 2, nameIndex := 7, descriptorIndex := 8, attributes := #[] }, { accessFlags := 9, nameIndex := 201, descriptorIndex := 335, attributes := #[] }] 49 4 #[] #[{ accessFlags := 25, nameIndex := 354, descriptorIndex := 339, attributes := #[] }, { accessFlags := 25, nameIndex := 358, descriptorIndex := 339, attributes := #[] }, { accessFlags := 25, nameIndex := 361, descriptorIndex := 339, attributes := #[] }, { accessFlags := 26, nameIndex := 364, descriptorIndex := 339, attributes := #[] }, { accessFlags := 26, nameIndex := 365, descriptorIndex := 339, attributes := #[] }, { accessFlags := 26, nameIndex := 172, descriptorIndex := 173, attributes := #[] }, { accessFlags := 26, nameIndex := 176, descriptorIndex := 173, attributes := #[] }, { accessFlags := 8, nameIndex := 344, descriptorIndex := 339, attributes := #[] }, { accessFlags := 8, nameIndex := 338, descriptorIndex := 339, attributes := #[] }, { accessFlags := 4120, nameIndex := 245, descriptorIndex := 246, attributes := #[] }])
  fields := #[{ name := "E", type := .double, accessFlags := 25, slot := 0, constantValue := 0 }, { name := "PI", type := .double, accessFlags := 25, slot := 1, constantValue := 0 }, { name := "TAU", type := .double, accessFlags := 25, slot := 2, constantValue := 0 }, { name := "DEGREES_TO_RADIANS", type := .double, accessFlags := 26, slot := 3, constantValue := 0 }, { name := "RADIANS_TO_DEGREES", type := .double, accessFlags := 26, slot := 4, constantValue := 0 }, { name := "negativeZeroFloatBits", type := .long, accessFlags := 26, slot := 5, constantValue := 0 }, { name := "negativeZeroDoubleBits", type := .long, accessFlags := 26, slot := 6, constantValue := 0 }, { name := "twoToTheDoubleScaleUp", type := .double, accessFlags := 8, slot := 7, constantValue := 0 }, { name := "twoToTheDoubleScaleDown", type := .double, accessFlags := 8, slot := 8, constantValue := 0 }, { name := "$assertionsDisabled", type := .boolean, accessFlags := 4120, slot := 9, constantValue := 0 }]
  methods := #[k19m0, k19m1]
  instanceTypes := #[]
  staticTypes := #[.double, .double, .double, .double, .double, .long, .long, .double, .double, .boolean]
  resolved := Array.replicate 460 none
  statics := none }

def pool20 : Array CpInfo := pool [(2, .class_ 4), (1, u "java/lang/Object"), (0, u "<init>"), (0, u "()V"), (17, .class_ 26), (1, u "jdk/internal/util/Preconditions"), (6, u "checkIndex"), (21, .class_ 56), (0, u "jdk/internal/util/Preconditions$4"), (57, .class_ 115), (0, u "jdk/internal/util/Preconditions$1"), (7, u "SIOOBE_FORMATTER"), (0, u "Ljava/util/function/BiFunction;"), (0, .class_ 126), (0, u "jdk/internal/util/Preconditions$2"), (3, u "AIOOBE_FORMATTER"), (0, .class_ 132), (0, u "jdk/internal/util/Preconditions$3"), (3, u "IOOBE_FORMATTER"), (41, u "(IILjava/util/function/BiFunction;)I")] 15

def k20m0 : Method := { name := "<init>", desc := "()V", sig := { parameters := [], returnType := none }, accessFlags := 1, code := none }
def k20c1 : Code := { maxStack := 3, maxLocals := 3, code := jdk_41_method_11_code, exceptionTable := #[], attributes := #[] }
def k20m1 : Method := { name := "checkIndex", desc := "(IILjava/util/function/BiFunction;)I", sig := { parameters := [.int, .int, (.object "java/util/function/BiFunction")], returnType := some .int }, accessFlags := 9, code := some k20c1 }
/-- jdk/internal/util/Preconditions -/
def k20 : Class := { plain "jdk/internal/util/Preconditions" (some 0) with
  accessFlags := 33
  interfaces := #[]
  cf := some (fileOf pool20 24 #[.nestMembers #[55, 131, 125, 114]] #[{ accessFlags := 1, nameIndex := 5, descriptorIndex := 6, attributes := #[] }, { accessFlags := 9, nameIndex := 33, descriptorIndex := 178, attributes := #[] }] 33 2 #[] #[{ accessFlags := 25, nameIndex := 123, descriptorIndex := 124, attributes := #[] }, { accessFlags := 25, nameIndex := 130, descriptorIndex := 124, attributes := #[] }, { accessFlags := 25, nameIndex := 136, descriptorIndex := 124, attributes := #[] }])
  fields := #[{ name := "SIOOBE_FORMATTER", type := (.object "java/util/function/BiFunction"), accessFlags := 25, slot := 0, constantValue := 0 }, { name := "AIOOBE_FORMATTER", type := (.object "java/util/function/BiFunction"), accessFlags := 25, slot := 1, constantValue := 0 }, { name := "IOOBE_FORMATTER", type := (.object "java/util/function/BiFunction"), accessFlags := 25, slot := 2, constantValue := 0 }]
  methods := #[k20m0, k20m1]
  instanceTypes := #[]
  staticTypes := #[(.object "java/util/function/BiFunction"), (.object "java/util/function/BiFunction"), (.object "java/util/function/BiFunction")]
  resolved := Array.replicate 194 none
  statics := some 2 }

def pool21 : Array CpInfo := pool [(9, u "<init>"), (6, .class_ 18), (1, u "java/lang/Object"), (0, u "()V"), (1, .class_ 23), (1, u "jdk/internal/util/ArraysSupport"), (0, u "LOG2_ARRAY_LONG_INDEX_SCALE"), (0, u "I"), (2, u "U"), (0, u "Ljdk/internal/misc/Unsafe;"), (8, u "BIG_ENDIAN"), (0, u "Z"), (8, u "LOG2_BYTE_BIT_SIZE"), (4, u "LOG2_ARRAY_INT_INDEX_SCALE"), (54, u "JLA"), (0, u "Ljdk/internal/access/JavaLangAccess;"), (11, u "LOG2_ARRAY_BOOLEAN_INDEX_SCALE"), (9, u "LOG2_ARRAY_BYTE_INDEX_SCALE"), (5, u "LOG2_ARRAY_CHAR_INDEX_SCALE"), (5, u "LOG2_ARRAY_SHORT_INDEX_SCALE"), (18, u "LOG2_ARRAY_FLOAT_INDEX_SCALE"), (24, u "LOG2_ARRAY_DOUBLE_INDEX_SCALE"), (89, u "T_BOOLEAN"), (2, u "T_CHAR"), (1, u "T_FLOAT"), (1, u "T_DOUBLE"), (1, u "T_BYTE"), (1, u "T_SHORT"), (1, u "T_INT"), (1, u "T_LONG"), (1, u "SOFT_MAX_ARRAY_LENGTH")] 83

def k21m0 : Method := { name := "<init>", desc := "()V", sig := { parameters := [], returnType := none }, accessFlags := 2, code := none }
/-- jdk/internal/util/ArraysSupport -/
def k21 : Class := { plain "jdk/internal/util/ArraysSupport" (some 0) with
  accessFlags := 33
  interfaces := #[]
  cf := some (fileOf pool21 21 #[] #[{ accessFlags := 2, nameIndex := 9, descriptorIndex := 19, attributes := #[] }] 33 16 #[] #[{ accessFlags := 24, nameIndex := 28, descriptorIndex := 29, attributes := #[] }, { accessFlags := 26, nameIndex := 38, descriptorIndex := 39, attributes := #[] }, { accessFlags := 25, nameIndex := 121, descriptorIndex := 25, attributes := #[] }, { accessFlags := 25, nameIndex := 131, descriptorIndex := 25, attributes := #[] }, { accessFlags := 25, nameIndex := 137, descriptorIndex := 25, attributes := #[] }, { accessFlags := 25, nameIndex := 143, descriptorIndex := 25, attributes := #[] }, { accessFlags := 25, nameIndex := 53, descriptorIndex := 25, attributes := #[] }, { accessFlags := 25, nameIndex := 24, descriptorIndex := 25, attributes := #[] }, { accessFlags := 25, nameIndex := 162, descriptorIndex := 25, attributes := #[] }, { accessFlags := 25, nameIndex := 187, descriptorIndex := 25, attributes := #[] }, { accessFlags := 26, nameIndex := 48, descriptorIndex := 25, attributes := #[] }, { accessFlags := 25, nameIndex := 277, descriptorIndex := 25, attributes := #[] }, { accessFlags := 25, nameIndex := 280, descriptorIndex := 25, attributes := #[] }, { accessFlags := 25, nameIndex := 282, descriptorIndex := 25, attributes := #[] }, { accessFlags := 25, nameIndex := 284, descriptorIndex := 25, attributes := #[] }, { accessFlags := 25, nameIndex := 286, descriptorIndex := 25, attributes := #[] }, { accessFlags := 25, nameIndex := 288, descriptorIndex := 25, attributes := #[] }, { accessFlags := 25, nameIndex := 290, descriptorIndex := 25, attributes := #[] }, { accessFlags := 25, nameIndex := 292, descriptorIndex := 25, attributes := #[] }, { accessFlags := 26, nameIndex := 108, descriptorIndex := 109, attributes := #[] }, { accessFlags := 25, nameIndex := 294, descriptorIndex := 25, attributes := #[] }])
  fields := #[{ name := "U", type := (.object "jdk/internal/misc/Unsafe"), accessFlags := 24, slot := 0, constantValue := 0 }, { name := "BIG_ENDIAN", type := .boolean, accessFlags := 26, slot := 1, constantValue := 0 }, { name := "LOG2_ARRAY_BOOLEAN_INDEX_SCALE", type := .int, accessFlags := 25, slot := 2, constantValue := 0 }, { name := "LOG2_ARRAY_BYTE_INDEX_SCALE", type := .int, accessFlags := 25, slot := 3, constantValue := 0 }, { name := "LOG2_ARRAY_CHAR_INDEX_SCALE", type := .int, accessFlags := 25, slot := 4, constantValue := 0 }, { name := "LOG2_ARRAY_SHORT_INDEX_SCALE", type := .int, accessFlags := 25, slot := 5, constantValue := 0 }, { name := "LOG2_ARRAY_INT_INDEX_SCALE", type := .int, accessFlags := 25, slot := 6, constantValue := 0 }, { name := "LOG2_ARRAY_LONG_INDEX_SCALE", type := .int, accessFlags := 25, slot := 7, constantValue := 0 }, { name := "LOG2_ARRAY_FLOAT_INDEX_SCALE", type := .int, accessFlags := 25, slot := 8, constantValue := 0 }, { name := "LOG2_ARRAY_DOUBLE_INDEX_SCALE", type := .int, accessFlags := 25, slot := 9, constantValue := 0 }, { name := "LOG2_BYTE_BIT_SIZE", type := .int, accessFlags := 26, slot := 10, constantValue := 0 }, { name := "T_BOOLEAN", type := .int, accessFlags := 25, slot := 11, constantValue := 0 }, { name := "T_CHAR", type := .int, accessFlags := 25, slot := 12, constantValue := 0 }, { name := "T_FLOAT", type := .int, accessFlags := 25, slot := 13, constantValue := 0 }, { name := "T_DOUBLE", type := .int, accessFlags := 25, slot := 14, constantValue := 0 }, { name := "T_BYTE", type := .int, accessFlags := 25, slot := 15, constantValue := 0 }, { name := "T_SHORT", type := .int, accessFlags := 25, slot := 16, constantValue := 0 }, { name := "T_INT", type := .int, accessFlags := 25, slot := 17, constantValue := 0 }, { name := "T_LONG", type := .int, accessFlags := 25, slot := 18, constantValue := 0 }, { name := "JLA", type := (.object "jdk/internal/access/JavaLangAccess"), accessFlags := 26, slot := 19, constantValue := 0 }, { name := "SOFT_MAX_ARRAY_LENGTH", type := .int, accessFlags := 25, slot := 20, constantValue := 0 }]
  methods := #[k21m0]
  instanceTypes := #[]
  staticTypes := #[(.object "jdk/internal/misc/Unsafe"), .boolean, .int, .int, .int, .int, .int, .int, .int, .int, .int, .int, .int, .int, .int, .int, .int, .int, .int, (.object "jdk/internal/access/JavaLangAccess"), .int]
  resolved := Array.replicate 378 none
  statics := none }

def pool22 : Array CpInfo := pool [(1, u "java/lang/Cloneable"), (0, .class_ 1), (0, u "java/lang/Object"), (0, .class_ 3)] 3

/-- java/lang/Cloneable -/
def k22 : Class := { plain "java/lang/Cloneable" (some 0) with
  accessFlags := 1537
  interfaces := #[]
  cf := some (fileOf pool22 2 #[] #[] 1537 4 #[] #[])
  fields := #[]
  methods := #[]
  instanceTypes := #[]
  staticTypes := #[]
  resolved := Array.replicate 8 none
  statics := none }

/-- the primitive byte -/
def k23 : Class := { plain "byte" none with kind := .primitive 'B', accessFlags := 0x411 }
/-- [B -/
def k24 : Class := { plain "[B" (some 0) with kind := .array 23 .byte, interfaces := #[22, 2], accessFlags := 1041 }

/-- the primitive char -/
def k25 : Class := { plain "char" none with kind := .primitive 'C', accessFlags := 0x411 }
/-- [C -/
def k26 : Class := { plain "[C" (some 0) with kind := .array 25 .char, interfaces := #[22, 2], accessFlags := 1041 }

def heap : Heap := #[{ cls := 7, slots := #[.long 0, .int 1, .null, .int 0, .null, .int 0, .int 0], vm := .statics 7 },
  { cls := 17, slots := #[.int 0, .int 0, .null, .null, .ref 4, .ref 3, .int 0, .int 0, .long 0], vm := .statics 17 },
  { cls := 20, slots := #[.null, .null, .null], vm := .statics 20 },
  { cls := 24, slots := #[.int 48, .int 49, .int 50, .int 51, .int 52, .int 53, .int 54, .int 55, .int 56, .int 57, .int 48, .int 49, .int 50, .int 51, .int 52, .int 53, .int 54, .int 55, .int 56, .int 57, .int 48, .int 49, .int 50, .int 51, .int 52, .int 53, .int 54, .int 55, .int 56, .int 57, .int 48, .int 49, .int 50, .int 51, .int 52, .int 53, .int 54, .int 55, .int 56, .int 57, .int 48, .int 49, .int 50, .int 51, .int 52, .int 53, .int 54, .int 55, .int 56, .int 57, .int 48, .int 49, .int 50, .int 51, .int 52, .int 53, .int 54, .int 55, .int 56, .int 57, .int 48, .int 49, .int 50, .int 51, .int 52, .int 53, .int 54, .int 55, .int 56, .int 57, .int 48, .int 49, .int 50, .int 51, .int 52, .int 53, .int 54, .int 55, .int 56, .int 57, .int 48, .int 49, .int 50, .int 51, .int 52, .int 53, .int 54, .int 55, .int 56, .int 57, .int 48, .int 49, .int 50, .int 51, .int 52, .int 53, .int 54, .int 55, .int 56, .int 57], vm := .none },
  { cls := 24, slots := #[.int 48, .int 48, .int 48, .int 48, .int 48, .int 48, .int 48, .int 48, .int 48, .int 48, .int 49, .int 49, .int 49, .int 49, .int 49, .int 49, .int 49, .int 49, .int 49, .int 49, .int 50, .int 50, .int 50, .int 50, .int 50, .int 50, .int 50, .int 50, .int 50, .int 50, .int 51, .int 51, .int 51, .int 51, .int 51, .int 51, .int 51, .int 51, .int 51, .int 51, .int 52, .int 52, .int 52, .int 52, .int 52, .int 52, .int 52, .int 52, .int 52, .int 52, .int 53, .int 53, .int 53, .int 53, .int 53, .int 53, .int 53, .int 53, .int 53, .int 53, .int 54, .int 54, .int 54, .int 54, .int 54, .int 54, .int 54, .int 54, .int 54, .int 54, .int 55, .int 55, .int 55, .int 55, .int 55, .int 55, .int 55, .int 55, .int 55, .int 55, .int 56, .int 56, .int 56, .int 56, .int 56, .int 56, .int 56, .int 56, .int 56, .int 56, .int 57, .int 57, .int 57, .int 57, .int 57, .int 57, .int 57, .int 57, .int 57, .int 57], vm := .none }]
def classes : Array Class := #[k0, k1, k2, k3, k4, k5, k6, k7, k8, k9, k10, k11, k12, k13, k14, k15, k16, k17, k18, k19, k20, k21, k22, k23, k24, k25, k26]
def interned : List (Array UInt16 × Addr) := []
def slotsUsed : Nat := 219
def theMethod : MethodId := ⟨1, 1⟩
def args0 : Array Value := #[.int 97, .int 98, .int 99, .int 1, .int 80]
def aboutOver (below : List Frame) : State where
  vm := { classes := classes, interned := interned.toArray }
  heap := heap
  slotsUsed := slotsUsed
  threads := #[{ frames := .invoking theMethod args0 :: below }]
def below0 : List Frame := [.native { method := ⟨0, 0⟩, args := #[] }]
def about1 : State := aboutOver below0
def p0 : Program := .bare "" "" ""
def e0 : Env := launch0.env 0 0 0
theorem w_frames : about1.frames = Frame.invoking theMethod args0 :: below0 := rfl
set_option maxRecDepth 65536 in
theorem w_args : argsFit about1.vm theMethod args0 = true := by decide +kernel
set_option maxRecDepth 65536 in
theorem w_heap : heapFits about1 = true := by decide +kernel
set_option maxRecDepth 65536 in
theorem w_runnable : about1.curStatus? = some .runnable := by decide +kernel
set_option maxRecDepth 65536 in
theorem w_alone : about1.alone = true := by decide +kernel
set_option maxRecDepth 65536 in
theorem w_named : about1.methodNamed? x = some theMethod := by decide +kernel
set_option maxRecDepth 65536 in
theorem w_hears : about1.hears theMethod below0 = true := by decide +kernel
set_option maxRecDepth 65536 in
theorem w_ripe : about1.ripe theMethod args0 below0 = true := by decide +kernel
theorem w_running : about1.status = .running := rfl
set_option maxRecDepth 65536 in
theorem w_room : about1.hasRoom e0.platform room_1 = true :=
  launch0.hasRoom_least _ room_1 (by decide +kernel) (by decide +kernel) (by decide +kernel) (by decide +kernel) (by decide +kernel) (by decide +kernel)
theorem allAtoms_all (ts : List Jvm.Cond) (a : Array Jvm.Value) (st : Jvm.State) : (allAtoms ts).before a st = ts.all (fun c => c.before a st) := by
  induction ts with
  | nil => rfl
  | cons c t ih =>
    show (Jvm.Cond.and c (allAtoms t)).before a st = _
    rw [Jvm.Cond.before_and, ih, List.all_cons]
def words1 : List Jvm.Cond := Jvm.Cond.code x code maxLocals ret :: tables_1
/-- a 'code' word, met by the world's own term for the bytes: nothing is compared byte by byte -/
theorem code_word {y : MethodName} {bytes : ByteArray} {mx : Nat} {rt : Option FieldType} {a : Array Value} {s : State} {m : MethodId} {meth : Method} {c : Code} (h1 : s.methodNamed? y = some m) (h2 : s.vm.method? m = some meth) (h3 : meth.code = some c) (h4 : c.code = bytes)
    (h5 : (c.maxLocals == mx && c.exceptionTable.isEmpty && decide (c.maxStack ≤ mostOperands) && decide (meth.sig.returnType = rt) && !meth.locks && decide (parseMethodDescriptor y.desc = some meth.sig)) = true) : (Jvm.Cond.code y bytes mx rt).before a s = true := by
  simp only [Bool.and_eq_true, beq_iff_eq, Bool.not_eq_true', decide_eq_true_eq] at h5
  obtain ⟨⟨⟨⟨⟨g1, g2⟩, g3⟩, g4⟩, g5⟩, g6⟩ := h5
  simp [Cond.before, Cond.holds, Cond.value, h1, h2, h3, h4, g1, g2, g3, g4, g5, g6]
def isCode : Jvm.Cond → Bool
  | .code _ _ _ _ => true
  | _ => false
theorem all_split {L : List Jvm.Cond} {P : Jvm.Cond → Bool} (h1 : L.all (fun c => isCode c || P c) = true) (h2 : ∀ c ∈ L.filter isCode, P c = true) : L.all P = true := by
  refine List.all_eq_true.mpr fun c hc => ?_
  have h := List.all_eq_true.mp h1 c hc
  rcases Bool.eq_false_or_eq_true (isCode c) with hi | hi
  · exact h2 c (List.mem_filter.mpr ⟨hc, hi⟩)
  · simpa [hi] using h
set_option maxRecDepth 65536 in
theorem w_c0 : (Jvm.Cond.code x code maxLocals ret).before args0 about1 = true := code_word (m := ⟨1, 1⟩) (meth := k1m1) (c := k1c1) (by decide +kernel) rfl rfl rfl (by decide +kernel)
set_option maxRecDepth 65536 in
theorem w_c1 : (Jvm.Cond.code ({ cls := "com/example/tidemark/tidemark/protocol/HostPortToStringPinLaw", name := "pick", desc := "(I)C" } : Jvm.MethodName) method_3_code (1 : Nat) (Option.some Jvm.ClassFile.FieldType.char)).before args0 about1 = true := code_word (m := ⟨1, 2⟩) (meth := k1m2) (c := k1c2) (by decide +kernel) rfl rfl rfl (by decide +kernel)
set_option maxRecDepth 65536 in
theorem w_c2 : (Jvm.Cond.code ({ cls := "java/lang/String", name := "<init>", desc := "([C)V" } : Jvm.MethodName) jdk_42_method_3_code (2 : Nat) (Option.none : Option Jvm.ClassFile.FieldType)).before args0 about1 = true := code_word (m := ⟨7, 1⟩) (meth := k7m1) (c := k7c1) (by decide +kernel) rfl rfl rfl (by decide +kernel)
set_option maxRecDepth 65536 in
theorem w_c3 : (Jvm.Cond.code ({ cls := "java/lang/String", name := "<init>", desc := "([CIILjava/lang/Void;)V" } : Jvm.MethodName) jdk_42_method_149_code (6 : Nat) (Option.none : Option Jvm.ClassFile.FieldType)).before args0 about1 = true := code_word (m := ⟨7, 10⟩) (meth := k7m10) (c := k7c10) (by decide +kernel) rfl rfl rfl (by decide +kernel)
set_option maxRecDepth 65536 in
theorem w_c4 : (Jvm.Cond.code ({ cls := "java/lang/Object", name := "<init>", desc := "()V" } : Jvm.MethodName) object_method_1_code (1 : Nat) (Option.none : Option Jvm.ClassFile.FieldType)).before args0 about1 = true := code_word (m := ⟨0, 0⟩) (meth := k0m0) (c := k0c0) (by decide +kernel) rfl rfl rfl (by decide +kernel)
set_option maxRecDepth 65536 in
theorem w_c5 : (Jvm.Cond.code ({ cls := "java/lang/StringUTF16", name := "compress", desc := "([CII)[B" } : Jvm.MethodName) jdk_52_method_16_code (6 : Nat) (Option.some (Jvm.ClassFile.FieldType.array Jvm.ClassFile.FieldType.byte))).before args0 about1 = true := code_word (m := ⟨8, 2⟩) (meth := k8m2) (c := k8c2) (by decide +kernel) rfl rfl rfl (by decide +kernel)
set_option maxRecDepth 65536 in
theorem w_c6 : (Jvm.Cond.code ({ cls := "java/lang/StringUTF16", name := "compress", desc := "([CI[BII)I" } : Jvm.MethodName) jdk_52_method_21_code (7 : Nat) (Option.some Jvm.ClassFile.FieldType.int)).before args0 about1 = true := code_word (m := ⟨8, 3⟩) (meth := k8m3) (c := k8c3) (by decide +kernel) rfl rfl rfl (by decide +kernel)
set_option maxRecDepth 65536 in
theorem w_c7 : (Jvm.Cond.code ({ cls := "java/lang/StringUTF16", name := "coderFromArrayLen", desc := "([BI)B" } : Jvm.MethodName) jdk_52_method_15_code (2 : Nat) (Option.some Jvm.ClassFile.FieldType.byte)).before args0 about1 = true := code_word (m := ⟨8, 1⟩) (meth := k8m1) (c := k8c1) (by decide +kernel) rfl rfl rfl (by decide +kernel)
set_option maxRecDepth 65536 in
theorem w_c8 : (Jvm.Cond.code ({ cls := "com/example/tidemark/tidemark/protocol/HostPort", name := "<init>", desc := "(Ljava/lang/String;I)V" } : Jvm.MethodName) prog_6_method_1_code (3 : Nat) (Option.none : Option Jvm.ClassFile.FieldType)).before args0 about1 = true := code_word (m := ⟨10, 0⟩) (meth := k10m0) (c := k10c0) (by decide +kernel) rfl rfl rfl (by decide +kernel)
set_option maxRecDepth 65536 in
theorem w_c9 : (Jvm.Cond.code ({ cls := "java/lang/Record", name := "<init>", desc := "()V" } : Jvm.MethodName) jdk_30_method_1_code (1 : Nat) (Option.none : Option Jvm.ClassFile.FieldType)).before args0 about1 = true := code_word (m := ⟨9, 0⟩) (meth := k9m0) (c := k9c0) (by decide +kernel) rfl rfl rfl (by decide +kernel)
set_option maxRecDepth 65536 in
theorem w_c10 : (Jvm.Cond.code ({ cls := "java/lang/String", name := "isEmpty", desc := "()Z" } : Jvm.MethodName) jdk_42_method_55_code (1 : Nat) (Option.some Jvm.ClassFile.FieldType.boolean)).before args0 about1 = true := code_word (m := ⟨7, 4⟩) (meth := k7m4) (c := k7c4) (by decide +kernel) rfl rfl rfl (by decide +kernel)
set_option maxRecDepth 65536 in
theorem w_c11 : (Jvm.Cond.code ({ cls := "java/lang/String", name := "length", desc := "()I" } : Jvm.MethodName) jdk_42_method_54_code (1 : Nat) (Option.some Jvm.ClassFile.FieldType.int)).before args0 about1 = true := code_word (m := ⟨7, 3⟩) (meth := k7m3) (c := k7c3) (by decide +kernel) rfl rfl rfl (by decide +kernel)
set_option maxRecDepth 65536 in
theorem w_c12 : (Jvm.Cond.code ({ cls := "java/lang/String", name := "coder", desc := "()B" } : Jvm.MethodName) jdk_42_method_152_code (1 : Nat) (Option.some Jvm.ClassFile.FieldType.byte)).before args0 about1 = true := code_word (m := ⟨7, 12⟩) (meth := k7m12) (c := k7c12) (by decide +kernel) rfl rfl rfl (by decide +kernel)
set_option maxRecDepth 65536 in
theorem w_c13 : (Jvm.Cond.code ({ cls := "com/example/tidemark/tidemark/protocol/HostPort", name := "toString", desc := "()Ljava/lang/String;" } : Jvm.MethodName) prog_6_method_4_code (1 : Nat) (Option.some (Jvm.ClassFile.FieldType.object "java/lang/String"))).before args0 about1 = true := code_word (m := ⟨10, 1⟩) (meth := k10m1) (c := k10c1) (by decide +kernel) rfl rfl rfl (by decide +kernel)
set_option maxRecDepth 65536 in
theorem w_c14 : (Jvm.Cond.code ({ cls := "java/lang/StringBuilder", name := "<init>", desc := "()V" } : Jvm.MethodName) jdk_67_method_1_code (1 : Nat) (Option.none : Option Jvm.ClassFile.FieldType)).before args0 about1 = true := code_word (m := ⟨13, 0⟩) (meth := k13m0) (c := k13c0) (by decide +kernel) rfl rfl rfl (by decide +kernel)
set_option maxRecDepth 65536 in
theorem w_c15 : (Jvm.Cond.code ({ cls := "java/lang/AbstractStringBuilder", name := "<init>", desc := "(I)V" } : Jvm.MethodName) jdk_68_method_2_code (2 : Nat) (Option.none : Option Jvm.ClassFile.FieldType)).before args0 about1 = true := code_word (m := ⟨12, 1⟩) (meth := k12m1) (c := k12c1) (by decide +kernel) rfl rfl rfl (by decide +kernel)
set_option maxRecDepth 65536 in
theorem w_c16 : (Jvm.Cond.code ({ cls := "java/lang/String", name := "contains", desc := "(Ljava/lang/CharSequence;)Z" } : Jvm.MethodName) jdk_42_method_97_code (2 : Nat) (Option.some Jvm.ClassFile.FieldType.boolean)).before args0 about1 = true := code_word (m := ⟨7, 7⟩) (meth := k7m7) (c := k7c7) (by decide +kernel) rfl rfl rfl (by decide +kernel)
set_option maxRecDepth 65536 in
theorem w_c17 : (Jvm.Cond.code ({ cls := "java/lang/String", name := "toString", desc := "()Ljava/lang/String;" } : Jvm.MethodName) jdk_42_method_126_code (1 : Nat) (Option.some (Jvm.ClassFile.FieldType.object "java/lang/String"))).before args0 about1 = true := code_word (m := ⟨7, 8⟩) (meth := k7m8) (c := k7c8) (by decide +kernel) rfl rfl rfl (by decide +kernel)
set_option maxRecDepth 65536 in
theorem w_c18 : (Jvm.Cond.code ({ cls := "java/lang/String", name := "indexOf", desc := "(Ljava/lang/String;)I" } : Jvm.MethodName) jdk_42_method_84_code (3 : Nat) (Option.some Jvm.ClassFile.FieldType.int)).before args0 about1 = true := code_word (m := ⟨7, 6⟩) (meth := k7m6) (c := k7c6) (by decide +kernel) rfl rfl rfl (by decide +kernel)
set_option maxRecDepth 65536 in
theorem w_c19 : (Jvm.Cond.code ({ cls := "java/lang/String", name := "isLatin1", desc := "()Z" } : Jvm.MethodName) jdk_42_method_154_code (1 : Nat) (Option.some Jvm.ClassFile.FieldType.boolean)).before args0 about1 = true := code_word (m := ⟨7, 13⟩) (meth := k7m13) (c := k7c13) (by decide +kernel) rfl rfl rfl (by decide +kernel)
set_option maxRecDepth 65536 in
theorem w_c20 : (Jvm.Cond.code ({ cls := "java/lang/StringLatin1", name := "indexOf", desc := "([B[B)I" } : Jvm.MethodName) jdk_43_method_24_code (2 : Nat) (Option.some Jvm.ClassFile.FieldType.int)).before args0 about1 = true := code_word (m := ⟨14, 2⟩) (meth := k14m2) (c := k14c2) (by decide +kernel) rfl rfl rfl (by decide +kernel)
set_option maxRecDepth 65536 in
theorem w_c21 : (Jvm.Cond.code ({ cls := "java/lang/StringLatin1", name := "indexOf", desc := "([BI[BII)I" } : Jvm.MethodName) jdk_43_method_25_code (11 : Nat) (Option.some Jvm.ClassFile.FieldType.int)).before args0 about1 = true := code_word (m := ⟨14, 3⟩) (meth := k14m3) (c := k14c3) (by decide +kernel) rfl rfl rfl (by decide +kernel)
set_option maxRecDepth 65536 in
theorem w_c22 : (Jvm.Cond.code ({ cls := "java/lang/StringBuilder", name := "append", desc := "(Ljava/lang/String;)Ljava/lang/StringBuilder;" } : Jvm.MethodName) jdk_67_method_7_code (2 : Nat) (Option.some (Jvm.ClassFile.FieldType.object "java/lang/StringBuilder"))).before args0 about1 = true := code_word (m := ⟨13, 1⟩) (meth := k13m1) (c := k13c1) (by decide +kernel) rfl rfl rfl (by decide +kernel)
set_option maxRecDepth 65536 in
theorem w_c23 : (Jvm.Cond.code ({ cls := "java/lang/AbstractStringBuilder", name := "append", desc := "(Ljava/lang/String;)Ljava/lang/AbstractStringBuilder;" } : Jvm.MethodName) jdk_68_method_22_code (3 : Nat) (Option.some (Jvm.ClassFile.FieldType.object "java/lang/AbstractStringBuilder"))).before args0 about1 = true := code_word (m := ⟨12, 4⟩) (meth := k12m4) (c := k12c4) (by decide +kernel) rfl rfl rfl (by decide +kernel)
set_option maxRecDepth 65536 in
theorem w_c24 : (Jvm.Cond.code ({ cls := "java/lang/AbstractStringBuilder", name := "ensureCapacityInternal", desc := "(I)V" } : Jvm.MethodName) jdk_68_method_9_code (3 : Nat) (Option.none : Option Jvm.ClassFile.FieldType)).before args0 about1 = true := code_word (m := ⟨12, 3⟩) (meth := k12m3) (c := k12c3) (by decide +kernel) rfl rfl rfl (by decide +kernel)
set_option maxRecDepth 65536 in
theorem w_c25 : (Jvm.Cond.code ({ cls := "java/lang/AbstractStringBuilder", name := "putStringAt", desc := "(ILjava/lang/String;)V" } : Jvm.MethodName) jdk_68_method_73_code (3 : Nat) (Option.none : Option Jvm.ClassFile.FieldType)).before args0 about1 = true := code_word (m := ⟨12, 9⟩) (meth := k12m9) (c := k12c9) (by decide +kernel) rfl rfl rfl (by decide +kernel)
set_option maxRecDepth 65536 in
theorem w_c26 : (Jvm.Cond.code ({ cls := "java/lang/AbstractStringBuilder", name := "inflateIfNeededFor", desc := "(Ljava/lang/String;)V" } : Jvm.MethodName) jdk_68_method_71_code (2 : Nat) (Option.none : Option Jvm.ClassFile.FieldType)).before args0 about1 = true := code_word (m := ⟨12, 8⟩) (meth := k12m8) (c := k12c8) (by decide +kernel) rfl rfl rfl (by decide +kernel)
set_option maxRecDepth 65536 in
theorem w_c27 : (Jvm.Cond.code ({ cls := "java/lang/String", name := "getBytes", desc := "([BIB)V" } : Jvm.MethodName) jdk_42_method_147_code (4 : Nat) (Option.none : Option Jvm.ClassFile.FieldType)).before args0 about1 = true := code_word (m := ⟨7, 9⟩) (meth := k7m9) (c := k7c9) (by decide +kernel) rfl rfl rfl (by decide +kernel)
set_option maxRecDepth 65536 in
theorem w_c28 : (Jvm.Cond.code ({ cls := "java/lang/StringBuilder", name := "append", desc := "(I)Ljava/lang/StringBuilder;" } : Jvm.MethodName) jdk_67_method_15_code (2 : Nat) (Option.some (Jvm.ClassFile.FieldType.object "java/lang/StringBuilder"))).before args0 about1 = true := code_word (m := ⟨13, 2⟩) (meth := k13m2) (c := k13c2) (by decide +kernel) rfl rfl rfl (by decide +kernel)
set_option maxRecDepth 65536 in
theorem w_c29 : (Jvm.Cond.code ({ cls := "java/lang/AbstractStringBuilder", name := "append", desc := "(I)Ljava/lang/AbstractStringBuilder;" } : Jvm.MethodName) jdk_68_method_32_code (4 : Nat) (Option.some (Jvm.ClassFile.FieldType.object "java/lang/AbstractStringBuilder"))).before args0 about1 = true := code_word (m := ⟨12, 5⟩) (meth := k12m5) (c := k12c5) (by decide +kernel) rfl rfl rfl (by decide +kernel)
set_option maxRecDepth 65536 in
theorem w_c30 : (Jvm.Cond.code ({ cls := "java/lang/Integer", name := "stringSize", desc := "(I)I" } : Jvm.MethodName) jdk_33_method_13_code (4 : Nat) (Option.some Jvm.ClassFile.FieldType.int)).before args0 about1 = true := code_word (m := ⟨17, 1⟩) (meth := k17m1) (c := k17c1) (by decide +kernel) rfl rfl rfl (by decide +kernel)
set_option maxRecDepth 65536 in
theorem w_c31 : (Jvm.Cond.code ({ cls := "java/lang/AbstractStringBuilder", name := "isLatin1", desc := "()Z" } : Jvm.MethodName) jdk_68_method_68_code (1 : Nat) (Option.some Jvm.ClassFile.FieldType.boolean)).before args0 about1 = true := code_word (m := ⟨12, 7⟩) (meth := k12m7) (c := k12c7) (by decide +kernel) rfl rfl rfl (by decide +kernel)
set_option maxRecDepth 65536 in
theorem w_c32 : (Jvm.Cond.code ({ cls := "java/lang/Integer", name := "getChars", desc := "(II[B)I" } : Jvm.MethodName) jdk_33_method_12_code (7 : Nat) (Option.some Jvm.ClassFile.FieldType.int)).before args0 about1 = true := code_word (m := ⟨17, 0⟩) (meth := k17m0) (c := k17c0) (by decide +kernel) rfl rfl rfl (by decide +kernel)
set_option maxRecDepth 65536 in
theorem w_c33 : (Jvm.Cond.code ({ cls := "java/lang/StringBuilder", name := "toString", desc := "()Ljava/lang/String;" } : Jvm.MethodName) jdk_67_method_42_code (1 : Nat) (Option.some (Jvm.ClassFile.FieldType.object "java/lang/String"))).before args0 about1 = true := code_word (m := ⟨13, 3⟩) (meth := k13m3) (c := k13c3) (by decide +kernel) rfl rfl rfl (by decide +kernel)
set_option maxRecDepth 65536 in
theorem w_c34 : (Jvm.Cond.code ({ cls := "java/lang/String", name := "<init>", desc := "(Ljava/lang/StringBuilder;)V" } : Jvm.MethodName) jdk_42_method_53_code (2 : Nat) (Option.none : Option Jvm.ClassFile.FieldType)).before args0 about1 = true := code_word (m := ⟨7, 2⟩) (meth := k7m2) (c := k7c2) (by decide +kernel) rfl rfl rfl (by decide +kernel)
set_option maxRecDepth 65536 in
theorem w_c35 : (Jvm.Cond.code ({ cls := "java/lang/String", name := "<init>", desc := "(Ljava/lang/AbstractStringBuilder;Ljava/lang/Void;)V" } : Jvm.MethodName) jdk_42_method_150_code (5 : Nat) (Option.none : Option Jvm.ClassFile.FieldType)).before args0 about1 = true := code_word (m := ⟨7, 11⟩) (meth := k7m11) (c := k7c11) (by decide +kernel) rfl rfl rfl (by decide +kernel)
set_option maxRecDepth 65536 in
theorem w_c36 : (Jvm.Cond.code ({ cls := "java/lang/AbstractStringBuilder", name := "getValue", desc := "()[B" } : Jvm.MethodName) jdk_68_method_64_code (1 : Nat) (Option.some (Jvm.ClassFile.FieldType.array Jvm.ClassFile.FieldType.byte))).before args0 about1 = true := code_word (m := ⟨12, 6⟩) (meth := k12m6) (c := k12c6) (by decide +kernel) rfl rfl rfl (by decide +kernel)
set_option maxRecDepth 65536 in
theorem w_c37 : (Jvm.Cond.code ({ cls := "java/lang/StringBuilder", name := "length", desc := "()I" } : Jvm.MethodName) jdk_67_method_93_code (1 : Nat) (Option.some Jvm.ClassFile.FieldType.int)).before args0 about1 = true := code_word (m := ⟨13, 4⟩) (meth := k13m4) (c := k13c4) (by decide +kernel) rfl rfl rfl (by decide +kernel)
set_option maxRecDepth 65536 in
theorem w_c38 : (Jvm.Cond.code ({ cls := "java/lang/AbstractStringBuilder", name := "length", desc := "()I" } : Jvm.MethodName) jdk_68_method_6_code (1 : Nat) (Option.some Jvm.ClassFile.FieldType.int)).before args0 about1 = true := code_word (m := ⟨12, 2⟩) (meth := k12m2) (c := k12c2) (by decide +kernel) rfl rfl rfl (by decide +kernel)
set_option maxRecDepth 65536 in
theorem w_c39 : (Jvm.Cond.code ({ cls := "java/util/Arrays", name := "copyOfRange", desc := "([BII)[B" } : Jvm.MethodName) jdk_65_method_132_code (3 : Nat) (Option.some (Jvm.ClassFile.FieldType.array Jvm.ClassFile.FieldType.byte))).before args0 about1 = true := code_word (m := ⟨18, 2⟩) (meth := k18m2) (c := k18c2) (by decide +kernel) rfl rfl rfl (by decide +kernel)
set_option maxRecDepth 65536 in
theorem w_c40 : (Jvm.Cond.code ({ cls := "java/util/Arrays", name := "copyOfRangeByte", desc := "([BII)[B" } : Jvm.MethodName) jdk_65_method_133_code (5 : Nat) (Option.some (Jvm.ClassFile.FieldType.array Jvm.ClassFile.FieldType.byte))).before args0 about1 = true := code_word (m := ⟨18, 3⟩) (meth := k18m3) (c := k18c3) (by decide +kernel) rfl rfl rfl (by decide +kernel)
set_option maxRecDepth 65536 in
theorem w_c41 : (Jvm.Cond.code ({ cls := "java/util/Arrays", name := "checkLength", desc := "(II)V" } : Jvm.MethodName) jdk_65_method_131_code (2 : Nat) (Option.none : Option Jvm.ClassFile.FieldType)).before args0 about1 = true := code_word (m := ⟨18, 1⟩) (meth := k18m1) (c := k18c1) (by decide +kernel) rfl rfl rfl (by decide +kernel)
set_option maxRecDepth 65536 in
theorem w_c42 : (Jvm.Cond.code ({ cls := "java/lang/Math", name := "min", desc := "(II)I" } : Jvm.MethodName) jdk_29_method_69_code (2 : Nat) (Option.some Jvm.ClassFile.FieldType.int)).before args0 about1 = true := code_word (m := ⟨19, 1⟩) (meth := k19m1) (c := k19c1) (by decide +kernel) rfl rfl rfl (by decide +kernel)
set_option maxRecDepth 65536 in
theorem w_c43 : (Jvm.Cond.code ({ cls := "com/example/tidemark/tidemark/protocol/HostPortToStringPinLaw", name := "digits", desc := "(I)I" } : Jvm.MethodName) method_4_code (1 : Nat) (Option.some Jvm.ClassFile.FieldType.int)).before args0 about1 = true := code_word (m := ⟨1, 3⟩) (meth := k1m3) (c := k1c3) (by decide +kernel) rfl rfl rfl (by decide +kernel)
set_option maxRecDepth 65536 in
theorem w_c44 : (Jvm.Cond.code ({ cls := "com/example/tidemark/tidemark/protocol/HostPortToStringPinLaw", name := "ok", desc := "(Ljava/lang/String;IICCCIZII)Z" } : Jvm.MethodName) method_6_code (10 : Nat) (Option.some Jvm.ClassFile.FieldType.boolean)).before args0 about1 = true := code_word (m := ⟨1, 5⟩) (meth := k1m5) (c := k1c5) (by decide +kernel) rfl rfl rfl (by decide +kernel)
set_option maxRecDepth 65536 in
theorem w_c45 : (Jvm.Cond.code ({ cls := "java/lang/String", name := "charAt", desc := "(I)C" } : Jvm.MethodName) jdk_42_method_56_code (2 : Nat) (Option.some Jvm.ClassFile.FieldType.char)).before args0 about1 = true := code_word (m := ⟨7, 5⟩) (meth := k7m5) (c := k7c5) (by decide +kernel) rfl rfl rfl (by decide +kernel)
set_option maxRecDepth 65536 in
theorem w_c46 : (Jvm.Cond.code ({ cls := "java/lang/StringLatin1", name := "charAt", desc := "([BI)C" } : Jvm.MethodName) jdk_43_method_2_code (2 : Nat) (Option.some Jvm.ClassFile.FieldType.char)).before args0 about1 = true := code_word (m := ⟨14, 1⟩) (meth := k14m1) (c := k14c1) (by decide +kernel) rfl rfl rfl (by decide +kernel)
set_option maxRecDepth 65536 in
theorem w_c47 : (Jvm.Cond.code ({ cls := "java/lang/String", name := "checkIndex", desc := "(II)V" } : Jvm.MethodName) jdk_42_method_155_code (2 : Nat) (Option.none : Option Jvm.ClassFile.FieldType)).before args0 about1 = true := code_word (m := ⟨7, 14⟩) (meth := k7m14) (c := k7c14) (by decide +kernel) rfl rfl rfl (by decide +kernel)
set_option maxRecDepth 65536 in
theorem w_c48 : (Jvm.Cond.code ({ cls := "jdk/internal/util/Preconditions", name := "checkIndex", desc := "(IILjava/util/function/BiFunction;)I" } : Jvm.MethodName) jdk_41_method_11_code (3 : Nat) (Option.some Jvm.ClassFile.FieldType.int)).before args0 about1 = true := code_word (m := ⟨20, 1⟩) (meth := k20m1) (c := k20c1) (by decide +kernel) rfl rfl rfl (by decide +kernel)
set_option maxRecDepth 65536 in
theorem w_c49 : (Jvm.Cond.code ({ cls := "com/example/tidemark/tidemark/protocol/HostPortToStringPinLaw", name := "exp", desc := "(ICCCIZII)C" } : Jvm.MethodName) method_7_code (12 : Nat) (Option.some Jvm.ClassFile.FieldType.char)).before args0 about1 = true := code_word (m := ⟨1, 6⟩) (meth := k1m6) (c := k1c6) (by decide +kernel) rfl rfl rfl (by decide +kernel)
set_option maxRecDepth 65536 in
theorem w_c50 : (Jvm.Cond.code ({ cls := "com/example/tidemark/tidemark/protocol/HostPortToStringPinLaw", name := "pow10", desc := "(I)I" } : Jvm.MethodName) method_5_code (1 : Nat) (Option.some Jvm.ClassFile.FieldType.int)).before args0 about1 = true := code_word (m := ⟨1, 4⟩) (meth := k1m4) (c := k1c4) (by decide +kernel) rfl rfl rfl (by decide +kernel)
def codes1 : List Jvm.Cond := [Jvm.Cond.code x code maxLocals ret, Jvm.Cond.code ({ cls := "com/example/tidemark/tidemark/protocol/HostPortToStringPinLaw", name := "pick", desc := "(I)C" } : Jvm.MethodName) method_3_code (1 : Nat) (Option.some Jvm.ClassFile.FieldType.char), Jvm.Cond.code ({ cls := "java/lang/String", name := "<init>", desc := "([C)V" } : Jvm.MethodName) jdk_42_method_3_code (2 : Nat) (Option.none : Option Jvm.ClassFile.FieldType), Jvm.Cond.code ({ cls := "java/lang/String", name := "<init>", desc := "([CIILjava/lang/Void;)V" } : Jvm.MethodName) jdk_42_method_149_code (6 : Nat) (Option.none : Option Jvm.ClassFile.FieldType), Jvm.Cond.code ({ cls := "java/lang/Object", name := "<init>", desc := "()V" } : Jvm.MethodName) object_method_1_code (1 : Nat) (Option.none : Option Jvm.ClassFile.FieldType), Jvm.Cond.code ({ cls := "java/lang/StringUTF16", name := "compress", desc := "([CII)[B" } : Jvm.MethodName) jdk_52_method_16_code (6 : Nat) (Option.some (Jvm.ClassFile.FieldType.array Jvm.ClassFile.FieldType.byte)), Jvm.Cond.code ({ cls := "java/lang/StringUTF16", name := "compress", desc := "([CI[BII)I" } : Jvm.MethodName) jdk_52_method_21_code (7 : Nat) (Option.some Jvm.ClassFile.FieldType.int), Jvm.Cond.code ({ cls := "java/lang/StringUTF16", name := "coderFromArrayLen", desc := "([BI)B" } : Jvm.MethodName) jdk_52_method_15_code (2 : Nat) (Option.some Jvm.ClassFile.FieldType.byte), Jvm.Cond.code ({ cls := "com/example/tidemark/tidemark/protocol/HostPort", name := "<init>", desc := "(Ljava/lang/String;I)V" } : Jvm.MethodName) prog_6_method_1_code (3 : Nat) (Option.none : Option Jvm.ClassFile.FieldType), Jvm.Cond.code ({ cls := "java/lang/Record", name := "<init>", desc := "()V" } : Jvm.MethodName) jdk_30_method_1_code (1 : Nat) (Option.none : Option Jvm.ClassFile.FieldType), Jvm.Cond.code ({ cls := "java/lang/String", name := "isEmpty", desc := "()Z" } : Jvm.MethodName) jdk_42_method_55_code (1 : Nat) (Option.some Jvm.ClassFile.FieldType.boolean), Jvm.Cond.code ({ cls := "java/lang/String", name := "length", desc := "()I" } : Jvm.MethodName) jdk_42_method_54_code (1 : Nat) (Option.some Jvm.ClassFile.FieldType.int), Jvm.Cond.code ({ cls := "java/lang/String", name := "coder", desc := "()B" } : Jvm.MethodName) jdk_42_method_152_code (1 : Nat) (Option.some Jvm.ClassFile.FieldType.byte), Jvm.Cond.code ({ cls := "com/example/tidemark/tidemark/protocol/HostPort", name := "toString", desc := "()Ljava/lang/String;" } : Jvm.MethodName) prog_6_method_4_code (1 : Nat) (Option.some (Jvm.ClassFile.FieldType.object "java/lang/String")), Jvm.Cond.code ({ cls := "java/lang/StringBuilder", name := "<init>", desc := "()V" } : Jvm.MethodName) jdk_67_method_1_code (1 : Nat) (Option.none : Option Jvm.ClassFile.FieldType), Jvm.Cond.code ({ cls := "java/lang/AbstractStringBuilder", name := "<init>", desc := "(I)V" } : Jvm.MethodName) jdk_68_method_2_code (2 : Nat) (Option.none : Option Jvm.ClassFile.FieldType), Jvm.Cond.code ({ cls := "java/lang/String", name := "contains", desc := "(Ljava/lang/CharSequence;)Z" } : Jvm.MethodName) jdk_42_method_97_code (2 : Nat) (Option.some Jvm.ClassFile.FieldType.boolean), Jvm.Cond.code ({ cls := "java/lang/String", name := "toString", desc := "()Ljava/lang/String;" } : Jvm.MethodName) jdk_42_method_126_code (1 : Nat) (Option.some (Jvm.ClassFile.FieldType.object "java/lang/String")), Jvm.Cond.code ({ cls := "java/lang/String", name := "indexOf", desc := "(Ljava/lang/String;)I" } : Jvm.MethodName) jdk_42_method_84_code (3 : Nat) (Option.some Jvm.ClassFile.FieldType.int), Jvm.Cond.code ({ cls := "java/lang/String", name := "isLatin1", desc := "()Z" } : Jvm.MethodName) jdk_42_method_154_code (1 : Nat) (Option.some Jvm.ClassFile.FieldType.boolean), Jvm.Cond.code ({ cls := "java/lang/StringLatin1", name := "indexOf", desc := "([B[B)I" } : Jvm.MethodName) jdk_43_method_24_code (2 : Nat) (Option.some Jvm.ClassFile.FieldType.int), Jvm.Cond.code ({ cls := "java/lang/StringLatin1", name := "indexOf", desc := "([BI[BII)I" } : Jvm.MethodName) jdk_43_method_25_code (11 : Nat) (Option.some Jvm.ClassFile.FieldType.int), Jvm.Cond.code ({ cls := "java/lang/StringBuilder", name := "append", desc := "(Ljava/lang/String;)Ljava/lang/StringBuilder;" } : Jvm.MethodName) jdk_67_method_7_code (2 : Nat) (Option.some (Jvm.ClassFile.FieldType.object "java/lang/StringBuilder")), Jvm.Cond.code ({ cls := "java/lang/AbstractStringBuilder", name := "append", desc := "(Ljava/lang/String;)Ljava/lang/AbstractStringBuilder;" } : Jvm.MethodName) jdk_68_method_22_code (3 : Nat) (Option.some (Jvm.ClassFile.FieldType.object "java/lang/AbstractStringBuilder")), Jvm.Cond.code ({ cls := "java/lang/AbstractStringBuilder", name := "ensureCapacityInternal", desc := "(I)V" } : Jvm.MethodName) jdk_68_method_9_code (3 : Nat) (Option.none : Option Jvm.ClassFile.FieldType), Jvm.Cond.code ({ cls := "java/lang/AbstractStringBuilder", name := "putStringAt", desc := "(ILjava/lang/String;)V" } : Jvm.MethodName) jdk_68_method_73_code (3 : Nat) (Option.none : Option Jvm.ClassFile.FieldType), Jvm.Cond.code ({ cls := "java/lang/AbstractStringBuilder", name := "inflateIfNeededFor", desc := "(Ljava/lang/String;)V" } : Jvm.MethodName) jdk_68_method_71_code (2 : Nat) (Option.none : Option Jvm.ClassFile.FieldType), Jvm.Cond.code ({ cls := "java/lang/String", name := "getBytes", desc := "([BIB)V" } : Jvm.MethodName) jdk_42_method_147_code (4 : Nat) (Option.none : Option Jvm.ClassFile.FieldType), Jvm.Cond.code ({ cls := "java/lang/StringBuilder", name := "append", desc := "(I)Ljava/lang/StringBuilder;" } : Jvm.MethodName) jdk_67_method_15_code (2 : Nat) (Option.some (Jvm.ClassFile.FieldType.object "java/lang/StringBuilder")), Jvm.Cond.code ({ cls := "java/lang/AbstractStringBuilder", name := "append", desc := "(I)Ljava/lang/AbstractStringBuilder;" } : Jvm.MethodName) jdk_68_method_32_code (4 : Nat) (Option.some (Jvm.ClassFile.FieldType.object "java/lang/AbstractStringBuilder")), Jvm.Cond.code ({ cls := "java/lang/Integer", name := "stringSize", desc := "(I)I" } : Jvm.MethodName) jdk_33_method_13_code (4 : Nat) (Option.some Jvm.ClassFile.FieldType.int), Jvm.Cond.code ({ cls := "java/lang/AbstractStringBuilder", name := "isLatin1", desc := "()Z" } : Jvm.MethodName) jdk_68_method_68_code (1 : Nat) (Option.some Jvm.ClassFile.FieldType.boolean), Jvm.Cond.code ({ cls := "java/lang/Integer", name := "getChars", desc := "(II[B)I" } : Jvm.MethodName) jdk_33_method_12_code (7 : Nat) (Option.some Jvm.ClassFile.FieldType.int), Jvm.Cond.code ({ cls := "java/lang/StringBuilder", name := "toString", desc := "()Ljava/lang/String;" } : Jvm.MethodName) jdk_67_method_42_code (1 : Nat) (Option.some (Jvm.ClassFile.FieldType.object "java/lang/String")), Jvm.Cond.code ({ cls := "java/lang/String", name := "<init>", desc := "(Ljava/lang/StringBuilder;)V" } : Jvm.MethodName) jdk_42_method_53_code (2 : Nat) (Option.none : Option Jvm.ClassFile.FieldType), Jvm.Cond.code ({ cls := "java/lang/String", name := "<init>", desc := "(Ljava/lang/AbstractStringBuilder;Ljava/lang/Void;)V" } : Jvm.MethodName) jdk_42_method_150_code (5 : Nat) (Option.none : Option Jvm.ClassFile.FieldType), Jvm.Cond.code ({ cls := "java/lang/AbstractStringBuilder", name := "getValue", desc := "()[B" } : Jvm.MethodName) jdk_68_method_64_code (1 : Nat) (Option.some (Jvm.ClassFile.FieldType.array Jvm.ClassFile.FieldType.byte)), Jvm.Cond.code ({ cls := "java/lang/StringBuilder", name := "length", desc := "()I" } : Jvm.MethodName) jdk_67_method_93_code (1 : Nat) (Option.some Jvm.ClassFile.FieldType.int), Jvm.Cond.code ({ cls := "java/lang/AbstractStringBuilder", name := "length", desc := "()I" } : Jvm.MethodName) jdk_68_method_6_code (1 : Nat) (Option.some Jvm.ClassFile.FieldType.int), Jvm.Cond.code ({ cls := "java/util/Arrays", name := "copyOfRange", desc := "([BII)[B" } : Jvm.MethodName) jdk_65_method_132_code (3 : Nat) (Option.some (Jvm.ClassFile.FieldType.array Jvm.ClassFile.FieldType.byte)), Jvm.Cond.code ({ cls := "java/util/Arrays", name := "copyOfRangeByte", desc := "([BII)[B" } : Jvm.MethodName) jdk_65_method_133_code (5 : Nat) (Option.some (Jvm.ClassFile.FieldType.array Jvm.ClassFile.FieldType.byte)), Jvm.Cond.code ({ cls := "java/util/Arrays", name := "checkLength", desc := "(II)V" } : Jvm.MethodName) jdk_65_method_131_code (2 : Nat) (Option.none : Option Jvm.ClassFile.FieldType), Jvm.Cond.code ({ cls := "java/lang/Math", name := "min", desc := "(II)I" } : Jvm.MethodName) jdk_29_method_69_code (2 : Nat) (Option.some Jvm.ClassFile.FieldType.int), Jvm.Cond.code ({ cls := "com/example/tidemark/tidemark/protocol/HostPortToStringPinLaw", name := "digits", desc := "(I)I" } : Jvm.MethodName) method_4_code (1 : Nat) (Option.some Jvm.ClassFile.FieldType.int), Jvm.Cond.code ({ cls := "com/example/tidemark/tidemark/protocol/HostPortToStringPinLaw", name := "ok", desc := "(Ljava/lang/String;IICCCIZII)Z" } : Jvm.MethodName) method_6_code (10 : Nat) (Option.some Jvm.ClassFile.FieldType.boolean), Jvm.Cond.code ({ cls := "java/lang/String", name := "charAt", desc := "(I)C" } : Jvm.MethodName) jdk_42_method_56_code (2 : Nat) (Option.some Jvm.ClassFile.FieldType.char), Jvm.Cond.code ({ cls := "java/lang/StringLatin1", name := "charAt", desc := "([BI)C" } : Jvm.MethodName) jdk_43_method_2_code (2 : Nat) (Option.some Jvm.ClassFile.FieldType.char), Jvm.Cond.code ({ cls := "java/lang/String", name := "checkIndex", desc := "(II)V" } : Jvm.MethodName) jdk_42_method_155_code (2 : Nat) (Option.none : Option Jvm.ClassFile.FieldType), Jvm.Cond.code ({ cls := "jdk/internal/util/Preconditions", name := "checkIndex", desc := "(IILjava/util/function/BiFunction;)I" } : Jvm.MethodName) jdk_41_method_11_code (3 : Nat) (Option.some Jvm.ClassFile.FieldType.int), Jvm.Cond.code ({ cls := "com/example/tidemark/tidemark/protocol/HostPortToStringPinLaw", name := "exp", desc := "(ICCCIZII)C" } : Jvm.MethodName) method_7_code (12 : Nat) (Option.some Jvm.ClassFile.FieldType.char), Jvm.Cond.code ({ cls := "com/example/tidemark/tidemark/protocol/HostPortToStringPinLaw", name := "pow10", desc := "(I)I" } : Jvm.MethodName) method_5_code (1 : Nat) (Option.some Jvm.ClassFile.FieldType.int)]
set_option maxRecDepth 65536 in
theorem codes_eq : words1.filter isCode = codes1 := rfl
theorem w_codes : ∀ c ∈ words1.filter isCode, c.before args0 about1 = true := by
  rw [codes_eq]
  intro c hc
  simp only [codes1, List.mem_cons, List.not_mem_nil, or_false] at hc
  rcases hc with rfl | rfl | rfl | rfl | rfl | rfl | rfl | rfl | rfl | rfl | rfl | rfl | rfl | rfl | rfl | rfl | rfl | rfl | rfl | rfl | rfl | rfl | rfl | rfl | rfl | rfl | rfl | rfl | rfl | rfl | rfl | rfl | rfl | rfl | rfl | rfl | rfl | rfl | rfl | rfl | rfl | rfl | rfl | rfl | rfl | rfl | rfl | rfl | rfl | rfl | rfl
  · exact w_c0
  · exact w_c1
  · exact w_c2
  · exact w_c3
  · exact w_c4
  · exact w_c5
  · exact w_c6
  · exact w_c7
  · exact w_c8
  · exact w_c9
  · exact w_c10
  · exact w_c11
  · exact w_c12
  · exact w_c13
  · exact w_c14
  · exact w_c15
  · exact w_c16
  · exact w_c17
  · exact w_c18
  · exact w_c19
  · exact w_c20
  · exact w_c21
  · exact w_c22
  · exact w_c23
  · exact w_c24
  · exact w_c25
  · exact w_c26
  · exact w_c27
  · exact w_c28
  · exact w_c29
  · exact w_c30
  · exact w_c31
  · exact w_c32
  · exact w_c33
  · exact w_c34
  · exact w_c35
  · exact w_c36
  · exact w_c37
  · exact w_c38
  · exact w_c39
  · exact w_c40
  · exact w_c41
  · exact w_c42
  · exact w_c43
  · exact w_c44
  · exact w_c45
  · exact w_c46
  · exact w_c47
  · exact w_c48
  · exact w_c49
  · exact w_c50
set_option maxRecDepth 65536 in
theorem w_t1 : (words1.take 24).all (fun c => isCode c || c.before args0 about1) = true := by decide +kernel
set_option maxRecDepth 65536 in
theorem w_t2 : ((words1.drop 24).take 24).all (fun c => isCode c || c.before args0 about1) = true := by decide +kernel
set_option maxRecDepth 65536 in
theorem w_t3 : (((words1.drop 24).drop 24).take 24).all (fun c => isCode c || c.before args0 about1) = true := by decide +kernel
set_option maxRecDepth 65536 in
theorem w_t4 : ((((words1.drop 24).drop 24).drop 24).take 24).all (fun c => isCode c || c.before args0 about1) = true := by decide +kernel
set_option maxRecDepth 65536 in
theorem w_t5 : (((((words1.drop 24).drop 24).drop 24).drop 24).take 24).all (fun c => isCode c || c.before args0 about1) = true := by decide +kernel
set_option maxRecDepth 65536 in
theorem w_t6 : ((((((words1.drop 24).drop 24).drop 24).drop 24).drop 24).take 24).all (fun c => isCode c || c.before args0 about1) = true := by decide +kernel
set_option maxRecDepth 65536 in
theorem w_t7 : (((((((words1.drop 24).drop 24).drop 24).drop 24).drop 24).drop 24).take 24).all (fun c => isCode c || c.before args0 about1) = true := by decide +kernel
set_option maxRecDepth 65536 in
theorem w_t8 : ((((((((words1.drop 24).drop 24).drop 24).drop 24).drop 24).drop 24).drop 24).take 24).all (fun c => isCode c || c.before args0 about1) = true := by decide +kernel
set_option maxRecDepth 65536 in
theorem w_t9 : (((((((((words1.drop 24).drop 24).drop 24).drop 24).drop 24).drop 24).drop 24).drop 24).take 24).all (fun c => isCode c || c.before args0 about1) = true := by decide +kernel
set_option maxRecDepth 65536 in
theorem w_t10 : ((((((((((words1.drop 24).drop 24).drop 24).drop 24).drop 24).drop 24).drop 24).drop 24).drop 24).take 24).all (fun c => isCode c || c.before args0 about1) = true := by decide +kernel
set_option maxRecDepth 65536 in
theorem w_t11 : ((((((((((words1.drop 24).drop 24).drop 24).drop 24).drop 24).drop 24).drop 24).drop 24).drop 24).drop 24).all (fun c => isCode c || c.before args0 about1) = true := by decide +kernel
theorem w_tables : (allAtoms (Jvm.Cond.code x code maxLocals ret :: tables_1)).before args0 about1 = true := by
  rw [allAtoms_all]
  show words1.all (fun c => c.before args0 about1) = true
  refine all_split ?_ w_codes
  rw [← List.take_append_drop 24 words1, List.all_append, w_t1, ← List.take_append_drop 24 (words1.drop 24), List.all_append, w_t2, ← List.take_append_drop 24 ((words1.drop 24).drop 24), List.all_append, w_t3, ← List.take_append_drop 24 (((words1.drop 24).drop 24).drop 24), List.all_append, w_t4, ← List.take_append_drop 24 ((((words1.drop 24).drop 24).drop 24).drop 24), List.all_append, w_t5, ← List.take_append_drop 24 (((((words1.drop 24).drop 24).drop 24).drop 24).drop 24), List.all_append, w_t6, ← List.take_append_drop 24 ((((((words1.drop 24).drop 24).drop 24).drop 24).drop 24).drop 24), List.all_append, w_t7, ← List.take_append_drop 24 (((((((words1.drop 24).drop 24).drop 24).drop 24).drop 24).drop 24).drop 24), List.all_append, w_t8, ← List.take_append_drop 24 ((((((((words1.drop 24).drop 24).drop 24).drop 24).drop 24).drop 24).drop 24).drop 24), List.all_append, w_t9, ← List.take_append_drop 24 (((((((((words1.drop 24).drop 24).drop 24).drop 24).drop 24).drop 24).drop 24).drop 24).drop 24), List.all_append, w_t10, w_t11]
  rfl
set_option maxRecDepth 65536 in
theorem w_rest : rest_1_c.before args0 about1 = true := by decide +kernel
set_option maxRecDepth 65536 in
theorem w_case : (Jvm.Cond.and given_1 narrow_1).before args0 about1 = true := by decide +kernel
set_option maxRecDepth 65536 in
theorem w_consts : constsHeld consts_1 about1 := Jvm.Lit.constsHeldB_iff.mp (by decide +kernel)
theorem w_applies : (headSpec (Jvm.Cond.code x code maxLocals ret :: tables_1) room_1).applies x e0.platform about1 = true :=
  (Spec.applies_iff w_frames).mpr ⟨w_running, w_runnable, w_alone, w_named, w_hears, w_ripe, w_room, w_tables⟩
theorem atStart : AtStart classFile x code maxLocals ret World_1 tables_1 room_1 Calls_1 rest_1 Pre_1 launch0 p0 e0 about1 theMethod args0 below0 :=
  ⟨lists_1, trivial, launch0.admits_env _ _ _, launch0.least_env, fairChoices_fair.cas, fairChoices_fair.clock, w_frames, w_args, w_heap, w_applies, ⟨w_consts, trivial⟩, w_rest, w_case⟩
end start1
theorem witness_1 : WitnessClaimed_1 := ⟨start1.p0, start1.e0, start1.about1, start1.theMethod, start1.args0, start1.below0, start1.atStart⟩
end Jvm.Pilot.@@N@@
