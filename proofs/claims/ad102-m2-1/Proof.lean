import JvmDerived
import JvmDerived.Pilot.@@N@@Statement
import JvmDerived.Pilot.@@N@@Code
set_option linter.unusedVariables false
set_option linter.unusedSimpArgs false

namespace Jvm.GoKit
open Jvm Jvm.ClassFile Sem Op Lib Jvm.Free Jvm.Stand Jvm.LawKit Jvm.RoadKit Bundle
/-- what goes with a Stand over the re-based start -/
def Hid (s Z : State) (wd : Bool) (EL : List (String × Nat)) (n0 : Nat) (ow0 ow : List Addr) (T : State) (locs : List Loc) (vm0 : Vm) (k0 : Nat) (h : Heap) : Prop :=
  s.Since vm0 k0 ∧ k0 ≤ h.size ∧ Z.Warmed39 vm0 ∧ T.heap = h ∧ Fr n0 locs ∧ CHr Z EL s.vm s.heap vm0 h ∧ Keep s.heap h ow0 ∧ Old Z n0 h ∧ (∀ x ∈ ow, Safe Z EL vm0 h x ∧ x < h.size ∧ n0 ≤ x ∧ (x ∈ ow0 ∨ s.heap.size ≤ x)) ∧ (wd = true ∨ s.WarmedH vm0)
/-- what a body leaves -/
def FinS (s Z : State) (wd ro : Bool) (EL : List (String × Nat)) (n0 : Nat) (ow0 : List Addr) (R : Room) (Q : Option Value → Heap → Prop) (o : Outcome) (t : State) : Prop :=
  ∃ v L, o = .returned v ∧ Q v t.heap ∧ Fr n0 L ∧ CHr Z EL s.vm s.heap t.vm t.heap ∧ Keep s.heap t.heap ow0 ∧ ReturnedEndW s o t L R.cells R.slots ∧ (wd = true ∨ s.WarmedH t.vm) ∧ (ro = true → ∀ d, v = some (.ref d) → Safe Z EL t.vm t.heap d ∧ d < t.heap.size ∧ n0 ≤ d ∧ s.heap.size ≤ d)
/-- from wherever the walk stands with heap h at the frame g, the run ends in Q -/
def Run (p : Program) (l : Launch) (e : Env) (R : Room) (s : State) (m : MethodId) (args : Array Value) (below : List Frame) (meth : Method) (c : Code) (Z : State) (wd ro : Bool) (EL : List (String × Nat)) (n0 : Nat) (ow0 : List Addr) (Q : Option Value → Heap → Prop)
    (h : Heap) (ow : List Addr) (cells slots : Nat) (g : JFrame) : Prop :=
  ∀ (T : State) (locs : List Loc) (vm0 : Vm) (k0 : Nat), Stand p l e R (s.setVm vm0) m args below meth c T locs cells slots → Hid s Z wd EL n0 ow0 ow T locs vm0 k0 h →
    ∃ s₂ o, Steps p.tables e below (T.setTop g) s₂ ∧ s₂.status = .running ∧ Ended s₂ below o ∧ FinS s Z wd ro EL n0 ow0 R Q o s₂
/-- a method's contract -/
def Con (l : Launch) (Z : State) (wd ro : Bool) (EL : List (String × Nat)) (n0 : Nat) (y : MethodName) (bytes : ByteArray) (maxL : Nat) (ret : Option FieldType) (rm : Room) (ws : List Jvm.Cond) (as' : Array Value) (h0 : Heap) (ow : List Addr) (Q : Option Value → Heap → Prop) : Prop :=
  MetFree l y (head1 (Jvm.Cond.code y bytes maxL ret :: ws) rm) (fun a U => a = as' ∧ Z.Warmed39 U.vm ∧ U.heap = h0 ∧ Old Z n0 h0 ∧ CHv Z EL U.vm h0 ∧ ∀ x ∈ ow, Safe Z EL U.vm h0 x ∧ x < h0.size ∧ n0 ≤ x) (fun _ _ _ _ _ => True) (fun _ U o U' => FinS U Z wd ro EL n0 ow rm Q o U')
/-- what stays of a body -/
def Gd (p : Program) (s : State) (m : MethodId) (meth : Method) (c : Code) (y : MethodName) (bytes : ByteArray) (maxL : Nat) (ret : Option FieldType) (Z : State) (a0 : Array Value) (EL : List (String × Nat)) : Prop :=
  p.tables.exec = Jvm.exec ∧ c.code = bytes ∧ c.maxLocals = maxL ∧ s.vm.findClass y.cls = some m.cls ∧ meth.sig.returnType = ret ∧ meth.name = y.name ∧ meth.locks = false ∧ EW Z a0 EL
section
variable {p : Program} {l : Launch} {e : Env} {R : Room} {s : State} {m : MethodId} {args : Array Value} {below : List Frame} {meth : Method} {c : Code} {Z : State} {wd ro : Bool} {EL : List (String × Nat)} {n0 : Nat} {ow0 : List Addr} {Q : Option Value → Heap → Prop}
variable {h : Heap} {ow : List Addr} {cells slots cells' slots' : Nat} {pc pc' : Nat} {Ls Ls' : Array Slot} {st rest : List Value} {y : MethodName} {bytes : ByteArray} {maxL : Nat} {ret : Option FieldType} {a0 : Array Value}
theorem Con.intro {ws : List Jvm.Cond} {as' : Array Value} (hx : plainFor y = true) (hEL : EW Z a0 EL)
    (body : ∀ (p : Program) (e : Env) (s : State) (m : MethodId) (below : List Frame) (meth : Method) (c : Code), s.heap = h → Gd p s m meth c y bytes maxL ret Z a0 EL → Run p l e R s m as' below meth c Z wd ro EL n0 ow Q h ow 0 0 (entryFrame m as' maxL)) :
    Con l Z wd ro EL n0 y bytes maxL ret R ws as' h ow Q := by
  refine MetFree.of_bodySF hx hisR ?_
  intro p e s m args below meth c s₁ Bd hml0 hP hK
  obtain ⟨rfl, hZ, hh, hO, hC, hS⟩ := hP
  have e0 : s₁.heap = h := by rw [← hh, Bd.state]; rfl
  have X0 : Stand p l e R s m args below meth c s₁ [] 0 0 := Stand.of_body Bd
  refine body p e s m below meth c hh ⟨Bd.exec, Bd.bytes, hml0, findClass_of_methodNamed Bd.named, Bd.returns, (name_of_methodNamed Bd.named Bd.method).1, Bd.notSynchronized, hEL⟩ s₁ [] s.vm h.size X0 ?_
  have hc : CHr Z EL s.vm s.heap s.vm h := by rw [hh]; exact CHr.refl hC
  refine ⟨(State.WarmedH.refl s).since _, Nat.le_refl _, hZ, e0, Fr.nil _, hc, by rw [hh]; exact Keep.refl _ _, hO, fun x hx => ⟨(hS x hx).1, (hS x hx).2.1, (hS x hx).2.2, Or.inl hx⟩, Or.inr (State.WarmedH.refl s)⟩
theorem Run.stp {g g' : JFrame} (stp : ∀ (T : State) (locs : List Loc) (vm0 : Vm) (k0 : Nat), Stand p l e R (s.setVm vm0) m args below meth c T locs cells slots → Hid s Z wd EL n0 ow0 ow T locs vm0 k0 h → ∀ t, Steps p.tables e below (T.setTop g') t → Steps p.tables e below (T.setTop g) t)
    (K : Run p l e R s m args below meth c Z wd ro EL n0 ow0 Q h ow cells slots g') : Run p l e R s m args below meth c Z wd ro EL n0 ow0 Q h ow cells slots g := fun T locs vm0 k0 X H => by
  obtain ⟨s₂, o, a, b⟩ := K T locs vm0 k0 X H
  exact ⟨s₂, o, stp T locs vm0 k0 X H _ a, b⟩
theorem Run.mov {g g' : JFrame} (stp : ∀ (T : State) (locs : List Loc) (vm0 : Vm) (k0 : Nat), Stand p l e R (s.setVm vm0) m args below meth c T locs cells slots → Hid s Z wd EL n0 ow0 ow T locs vm0 k0 h →
      ∃ T', Stand p l e R (s.setVm vm0) m args below meth c T' locs cells slots ∧ T'.heap = h ∧ ∀ t, Steps p.tables e below (T'.setTop g') t → Steps p.tables e below (T.setTop g) t)
    (K : Run p l e R s m args below meth c Z wd ro EL n0 ow0 Q h ow cells slots g') : Run p l e R s m args below meth c Z wd ro EL n0 ow0 Q h ow cells slots g := fun T locs vm0 k0 X H => by
  obtain ⟨T', X', eT, st⟩ := stp T locs vm0 k0 X H
  obtain ⟨i1, i2, i3, -, i5⟩ := H
  obtain ⟨s₂, o, a, b⟩ := K T' locs vm0 k0 X' ⟨i1, i2, i3, eT, i5⟩
  exact ⟨s₂, o, st _ a, b⟩
theorem Run.mono {g : JFrame} {cells' slots' : Nat} (hc : cells ≤ cells') (hs : slots ≤ slots') (K : Run p l e R s m args below meth c Z wd ro EL n0 ow0 Q h ow cells' slots' g) : Run p l e R s m args below meth c Z wd ro EL n0 ow0 Q h ow cells slots g := fun T locs vm0 k0 X H => K T locs vm0 k0 (X.mono hc hs) H
theorem Run.owless {g : JFrame} {ow' : List Addr} (hs : ∀ x ∈ ow', x ∈ ow) (K : Run p l e R s m args below meth c Z wd ro EL n0 ow0 Q h ow' cells slots g) : Run p l e R s m args below meth c Z wd ro EL n0 ow0 Q h ow cells slots g := fun T locs vm0 k0 X H => by
  obtain ⟨i1, i2, i3, i4, i5, i6, i7, i8, i9, i10⟩ := H
  exact K T locs vm0 k0 X ⟨i1, i2, i3, i4, i5, i6, i7, i8, fun x q => i9 x (hs x q), i10⟩
/-- what is known at every point -/
theorem Run.know {g : JFrame} (K : Ext Z.heap h → Keep s.heap h ow0 → (∀ x ∈ ow, x < h.size ∧ n0 ≤ x ∧ (x ∈ ow0 ∨ s.heap.size ≤ x)) → Run p l e R s m args below meth c Z wd ro EL n0 ow0 Q h ow cells slots g) : Run p l e R s m args below meth c Z wd ro EL n0 ow0 Q h ow cells slots g := fun T locs vm0 k0 X H =>
  K H.2.2.2.2.2.2.2.1.2 H.2.2.2.2.2.2.1 (fun x q => (H.2.2.2.2.2.2.2.2.1 x q).2) T locs vm0 k0 X H
theorem Gd.own (G : Gd p s m meth c y bytes maxL ret Z a0 EL) {vm0 : Vm} {k0 : Nat} (hS : s.Since vm0 k0) : vm0.findClass y.cls = some m.cls := (hS.1.alike.findClass _ _).trans G.2.2.2.1
theorem Gd.hb (G : Gd p s m meth c y bytes maxL ret Z a0 EL) {pc : Nat} {r : Except ClassFile.DecodeError (ClassFile.Instr × Nat)} (h2 : ClassFile.decode bytes pc = r) : ClassFile.decode c.code pc = r := Jvm.hb G.2.1 h2
theorem Hid.cell {T : State} {locs : List Loc} {vm0 : Vm} {k0 : Nat} {a : Addr} {cl : Cell} {ty : FieldType} (H : Hid s Z wd EL n0 ow0 ow T locs vm0 k0 h) (A : Arr Z h a cl ty) : T.heap[a]? = some cl := by
  rw [H.2.2.2.1]; exact A.1
theorem Hid.arr {T : State} {locs : List Loc} {vm0 : Vm} {k0 : Nat} {a : Addr} {cl : Cell} {ty : FieldType} (H : Hid s Z wd EL n0 ow0 ow T locs vm0 k0 h) (A : Arr Z h a cl ty) : (s.setVm vm0).isArrayOf cl ty := State.isArrayOf_alike (T := s.setVm vm0) H.2.2.1.alike A.2.1
/-- a write at a place that is ours -/
theorem Hid.wr {T T' : State} {locs : List Loc} {vm0 : Vm} {k0 sl : Nat} {h' : Heap} {a : Addr} {v : Value} (H : Hid s Z wd EL n0 ow0 ow T locs vm0 k0 h) (W : Wr h h' a sl v) (ha : a ∈ ow) (eT : T'.heap = h') : Hid s Z wd EL n0 ow0 ow T' (locs ++ [⟨a, sl⟩]) vm0 k0 h' := by
  obtain ⟨i1, i2, i3, i4, i5, i6, i7, i8, i9, i10⟩ := H
  obtain ⟨S, q1, q2, q3⟩ := i9 a ha
  have hsz : h'.size = h.size := W.size
  refine ⟨i1, by rw [hsz]; exact i2, i3, eT, i5.app (fun y hy => by cases List.mem_singleton.mp hy; exact q2), i6.trans (CHr.wr W S i6.1), i7.wr W q3, i8.wr W q2, fun x hx => ?_, i10⟩
  obtain ⟨S', r1, r2, r3⟩ := i9 x hx
  exact ⟨Safe.wr W S i6.1 S', by rw [hsz]; exact r1, r2, r3⟩
theorem instNAt {T : State} {locs : List Loc} {vm0 : Vm} (X : Stand p l e R (s.setVm vm0) m args below meth c T locs cells slots) (hx : p.tables.exec = Jvm.exec) (hZ : Z.Warmed39 vm0) {own K D : String} {index : Nat} (hown : vm0.findClass own = some m.cls) (w : (Jvm.Cond.classLink own index K).before a0 Z = true) (eT : T.heap = h) {a : Addr} (F : Ins Z h a K false) (E : Exa Z h a D)
    {g : JFrame} (hg : g.method = m) {rest : List Value} (hs : g.stack = .ref a :: rest) (hd : decode c.code g.pc = .ok (.instanceof index, 3)) : ∃ T', Stand p l e R (s.setVm vm0) m args below meth c T' locs cells slots ∧ T'.heap = h ∧ ∀ target, Steps p.tables e below (T'.setTop { g with pc := g.pc + 3, stack := .int 0 :: rest }) target → Steps p.tables e below (T.setTop g) target := by
  obtain ⟨cell, cT, h1, h2, h3⟩ := F
  obtain ⟨cell', k, e1, -, e3, e4, -⟩ := E
  cases h1.symm.trans e1
  obtain ⟨k', q, -⟩ := hZ.alike.2.2 _ _ e3
  obtain ⟨vm', X', st⟩ := Sym.instanceofNoAt X hx hown (mv (s := s.setVm vm0) hZ w) (by rw [eT]; exact h1) e4 q (by show vm0.findClass K = _; rw [hZ.alike.findClass]; exact h2) (by show vm0.assignable _ _ = _; rw [hZ.alike.assignable]; simpa [e4] using h3) hg hs hd
  exact ⟨_, X', eT, st⟩
/-- a new cell -/
theorem Hid.ext {T T' : State} {locs : List Loc} {vm0 : Vm} {k0 : Nat} {h' : Heap} (H : Hid s Z wd EL n0 ow0 ow T locs vm0 k0 h) (E : Ext h h') (hlt : h.size < h'.size) (eT : T'.heap = h') : Hid s Z wd EL n0 ow0 (h.size :: ow) T' locs vm0 k0 h' := by
  obtain ⟨i1, i2, i3, i4, i5, i6, i7, i8, i9, i10⟩ := H
  refine ⟨i1, Nat.le_trans i2 E.1, i3, eT, i5, i6.trans (CHr.ext E i6.1), i7.ext E, i8.ext E, fun x hx => ?_, i10⟩
  rcases List.mem_cons.mp hx with rfl | hx
  · exact ⟨(Safe.new (Nat.le_refl _)).ext E i6.1, hlt, i8.1 ▸ i8.2.1, Or.inr i7.1⟩
  · obtain ⟨S', r1, r2, r3⟩ := i9 x hx
    exact ⟨S'.ext E i6.1, Nat.lt_of_lt_of_le r1 E.1, r2, r3⟩
theorem aloadN (G : Gd p s m meth c y bytes maxL ret Z a0 EL) {k : Fin 4} {v : Value} (hd : decode bytes pc = .ok (.aload_n k, 1)) (hl : Ls[k.val]? = some (.val v)) (hv : v.isRef = true) (hp : pc + 1 = pc') (K : Run p l e R s m args below meth c Z wd ro EL n0 ow0 Q h ow cells slots (mkF m pc' Ls (v :: st))) : Run p l e R s m args below meth c Z wd ro EL n0 ow0 Q h ow cells slots (mkF m pc Ls st) := by
  subst hp
  exact Run.stp (fun T locs vm0 k0 X H t k => XS.aloadN X.here G.1 rfl (G.hb hd) hl hv k) K
theorem aload (G : Gd p s m meth c y bytes maxL ret Z a0 EL) {k : Nat} {v : Value} (hd : decode bytes pc = .ok (.aload k, 2)) (hl : Ls[k]? = some (.val v)) (hv : v.isRef = true) (hp : pc + 2 = pc') (K : Run p l e R s m args below meth c Z wd ro EL n0 ow0 Q h ow cells slots (mkF m pc' Ls (v :: st))) : Run p l e R s m args below meth c Z wd ro EL n0 ow0 Q h ow cells slots (mkF m pc Ls st) := by
  subst hp
  exact Run.stp (fun T locs vm0 k0 X H t k => XS.aload X.here G.1 rfl (G.hb hd) hl hv k) K
theorem iloadN (G : Gd p s m meth c y bytes maxL ret Z a0 EL) {k : Fin 4} {v : Int32} (hd : decode bytes pc = .ok (.iload_n k, 1)) (hl : Ls[k.val]? = some (.val (.int v))) (hp : pc + 1 = pc') (K : Run p l e R s m args below meth c Z wd ro EL n0 ow0 Q h ow cells slots (mkF m pc' Ls (.int v :: st))) : Run p l e R s m args below meth c Z wd ro EL n0 ow0 Q h ow cells slots (mkF m pc Ls st) := by
  subst hp
  exact Run.stp (fun T locs vm0 k0 X H t k => XS.iloadN X.here G.1 rfl (G.hb hd) hl k) K
theorem iload (G : Gd p s m meth c y bytes maxL ret Z a0 EL) {k : Nat} {v : Int32} (hd : decode bytes pc = .ok (.iload k, 2)) (hl : Ls[k]? = some (.val (.int v))) (hp : pc + 2 = pc') (K : Run p l e R s m args below meth c Z wd ro EL n0 ow0 Q h ow cells slots (mkF m pc' Ls (.int v :: st))) : Run p l e R s m args below meth c Z wd ro EL n0 ow0 Q h ow cells slots (mkF m pc Ls st) := by
  subst hp
  exact Run.stp (fun T locs vm0 k0 X H t k => XS.iload X.here G.1 rfl (G.hb hd) hl k) K
theorem iconst (G : Gd p s m meth c y bytes maxL ret Z a0 EL) {i : Int} (v : Int32) (hd : decode bytes pc = .ok (.iconst i, 1)) (hv : Int32.ofInt i = v) (hp : pc + 1 = pc') (K : Run p l e R s m args below meth c Z wd ro EL n0 ow0 Q h ow cells slots (mkF m pc' Ls (.int v :: st))) : Run p l e R s m args below meth c Z wd ro EL n0 ow0 Q h ow cells slots (mkF m pc Ls st) := by
  subst hp
  exact Run.stp (fun T locs vm0 k0 X H t k => XT.iconstV X.here G.1 rfl v (G.hb hd) hv k) K
theorem bipush (G : Gd p s m meth c y bytes maxL ret Z a0 EL) {i : Int} (v : Int32) (hd : decode bytes pc = .ok (.bipush i, 2)) (hv : (Int8.ofInt i).toInt32 = v) (hp : pc + 2 = pc') (K : Run p l e R s m args below meth c Z wd ro EL n0 ow0 Q h ow cells slots (mkF m pc' Ls (.int v :: st))) : Run p l e R s m args below meth c Z wd ro EL n0 ow0 Q h ow cells slots (mkF m pc Ls st) := by
  subst hp
  exact Run.stp (fun T locs vm0 k0 X H t k => XT.bipushV X.here G.1 rfl v (G.hb hd) hv k) K
theorem sipush (G : Gd p s m meth c y bytes maxL ret Z a0 EL) {i : Int} (v : Int32) (hd : decode bytes pc = .ok (.sipush i, 3)) (hv : (Int16.ofInt i).toInt32 = v) (hp : pc + 3 = pc') (K : Run p l e R s m args below meth c Z wd ro EL n0 ow0 Q h ow cells slots (mkF m pc' Ls (.int v :: st))) : Run p l e R s m args below meth c Z wd ro EL n0 ow0 Q h ow cells slots (mkF m pc Ls st) := by
  subst hp
  exact Run.stp (fun T locs vm0 k0 X H t k => XT.sipushV X.here G.1 rfl v (G.hb hd) hv k) K
theorem aconstNull (G : Gd p s m meth c y bytes maxL ret Z a0 EL)  (hd : decode bytes pc = .ok (.aconst_null, 1))  (hp : pc + 1 = pc') (K : Run p l e R s m args below meth c Z wd ro EL n0 ow0 Q h ow cells slots (mkF m pc' Ls (.null :: st))) : Run p l e R s m args below meth c Z wd ro EL n0 ow0 Q h ow cells slots (mkF m pc Ls st) := by
  subst hp
  exact Run.stp (fun T locs vm0 k0 X H t k => XS.aconstNull X.here G.1 rfl (G.hb hd) k) K
theorem dup (G : Gd p s m meth c y bytes maxL ret Z a0 EL) {v : Value} (hd : decode bytes pc = .ok (.dup, 1)) (hv : v.category = 1) (hp : pc + 1 = pc') (K : Run p l e R s m args below meth c Z wd ro EL n0 ow0 Q h ow cells slots (mkF m pc' Ls (v :: v :: rest))) : Run p l e R s m args below meth c Z wd ro EL n0 ow0 Q h ow cells slots (mkF m pc Ls (v :: rest)) := by
  subst hp
  exact Run.stp (fun T locs vm0 k0 X H t k => XS.dup X.here G.1 rfl (G.hb hd) rfl hv k) K
theorem pop (G : Gd p s m meth c y bytes maxL ret Z a0 EL) {v : Value} (hd : decode bytes pc = .ok (.pop, 1)) (hv : v.category = 1) (hp : pc + 1 = pc') (K : Run p l e R s m args below meth c Z wd ro EL n0 ow0 Q h ow cells slots (mkF m pc' Ls rest)) : Run p l e R s m args below meth c Z wd ro EL n0 ow0 Q h ow cells slots (mkF m pc Ls (v :: rest)) := by
  subst hp
  exact Run.stp (fun T locs vm0 k0 X H t k => XT.pop X.here G.1 rfl (G.hb hd) rfl hv k) K
theorem dupX1 (G : Gd p s m meth c y bytes maxL ret Z a0 EL) {v w : Value} (hd : decode bytes pc = .ok (.dup_x1, 1)) (hv : v.category = 1) (hw : w.category = 1) (hp : pc + 1 = pc') (K : Run p l e R s m args below meth c Z wd ro EL n0 ow0 Q h ow cells slots (mkF m pc' Ls (v :: w :: v :: rest))) : Run p l e R s m args below meth c Z wd ro EL n0 ow0 Q h ow cells slots (mkF m pc Ls (v :: w :: rest)) := by
  subst hp
  exact Run.stp (fun T locs vm0 k0 X H t k => XT.dupX1 X.here G.1 rfl (G.hb hd) rfl hv hw k) K
theorem istoreN (G : Gd p s m meth c y bytes maxL ret Z a0 EL) {k : Fin 4} {x : Int32} (hd : decode bytes pc = .ok (.istore_n k, 1)) (hl : storeLocals Ls k.val (.int x) = some Ls') (hp : pc + 1 = pc') (K : Run p l e R s m args below meth c Z wd ro EL n0 ow0 Q h ow cells slots (mkF m pc' Ls' rest)) : Run p l e R s m args below meth c Z wd ro EL n0 ow0 Q h ow cells slots (mkF m pc Ls (.int x :: rest)) := by
  subst hp
  exact Run.stp (fun T locs vm0 k0 X H t k => XS.istoreN X.here G.1 rfl (G.hb hd) rfl hl k) K
theorem istore (G : Gd p s m meth c y bytes maxL ret Z a0 EL) {k : Nat} {x : Int32} (hd : decode bytes pc = .ok (.istore k, 2)) (hl : storeLocals Ls k (.int x) = some Ls') (hp : pc + 2 = pc') (K : Run p l e R s m args below meth c Z wd ro EL n0 ow0 Q h ow cells slots (mkF m pc' Ls' rest)) : Run p l e R s m args below meth c Z wd ro EL n0 ow0 Q h ow cells slots (mkF m pc Ls (.int x :: rest)) := by
  subst hp
  exact Run.stp (fun T locs vm0 k0 X H t k => XS.istore X.here G.1 rfl (G.hb hd) rfl hl k) K
theorem astoreN (G : Gd p s m meth c y bytes maxL ret Z a0 EL) {k : Fin 4} {x : Value} (hd : decode bytes pc = .ok (.astore_n k, 1)) (hv : x.isRef = true) (hl : storeLocals Ls k.val x = some Ls') (hp : pc + 1 = pc') (K : Run p l e R s m args below meth c Z wd ro EL n0 ow0 Q h ow cells slots (mkF m pc' Ls' rest)) : Run p l e R s m args below meth c Z wd ro EL n0 ow0 Q h ow cells slots (mkF m pc Ls (x :: rest)) := by
  subst hp
  exact Run.stp (fun T locs vm0 k0 X H t k => XS.astoreN X.here G.1 rfl (G.hb hd) rfl hv hl k) K
theorem astore (G : Gd p s m meth c y bytes maxL ret Z a0 EL) {k : Nat} {x : Value} (hd : decode bytes pc = .ok (.astore k, 2)) (hv : x.isRef = true) (hl : storeLocals Ls k x = some Ls') (hp : pc + 2 = pc') (K : Run p l e R s m args below meth c Z wd ro EL n0 ow0 Q h ow cells slots (mkF m pc' Ls' rest)) : Run p l e R s m args below meth c Z wd ro EL n0 ow0 Q h ow cells slots (mkF m pc Ls (x :: rest)) := by
  subst hp
  exact Run.stp (fun T locs vm0 k0 X H t k => XS.astore X.here G.1 rfl (G.hb hd) rfl hv hl k) K
theorem iinc (G : Gd p s m meth c y bytes maxL ret Z a0 EL) {k : Nat} {i : Int} {x : Int32} (v : Int32) (hd : decode bytes pc = .ok (.iinc k i, 3)) (hv : Int32.ofInt i = v) (hl : Ls[k]? = some (.val (.int x))) (hl' : storeLocals Ls k (.int (x + v)) = some Ls') (hp : pc + 3 = pc') (K : Run p l e R s m args below meth c Z wd ro EL n0 ow0 Q h ow cells slots (mkF m pc' Ls' st)) : Run p l e R s m args below meth c Z wd ro EL n0 ow0 Q h ow cells slots (mkF m pc Ls st) := by
  subst hp
  exact Run.stp (fun T locs vm0 k0 X H t k => XT.iincV X.here G.1 rfl v (G.hb hd) hv hl hl' k) K
theorem iadd (G : Gd p s m meth c y bytes maxL ret Z a0 EL) {x z : Int32} (hd : decode bytes pc = .ok (.iadd, 1))  (hp : pc + 1 = pc') (K : ∀ v : Int32, v = x + z → Run p l e R s m args below meth c Z wd ro EL n0 ow0 Q h ow cells slots (mkF m pc' Ls (.int v :: rest))) : Run p l e R s m args below meth c Z wd ro EL n0 ow0 Q h ow cells slots (mkF m pc Ls (.int z :: .int x :: rest)) := by
  subst hp
  exact Run.stp (fun T locs vm0 k0 X H t k => XS.iadd X.here G.1 rfl (G.hb hd) rfl k) (K _ rfl)
theorem isub (G : Gd p s m meth c y bytes maxL ret Z a0 EL) {x z : Int32} (hd : decode bytes pc = .ok (.isub, 1))  (hp : pc + 1 = pc') (K : ∀ v : Int32, v = x - z → Run p l e R s m args below meth c Z wd ro EL n0 ow0 Q h ow cells slots (mkF m pc' Ls (.int v :: rest))) : Run p l e R s m args below meth c Z wd ro EL n0 ow0 Q h ow cells slots (mkF m pc Ls (.int z :: .int x :: rest)) := by
  subst hp
  exact Run.stp (fun T locs vm0 k0 X H t k => XS.isub X.here G.1 rfl (G.hb hd) rfl k) (K _ rfl)
theorem iand (G : Gd p s m meth c y bytes maxL ret Z a0 EL) {x z : Int32} (hd : decode bytes pc = .ok (.iand, 1))  (hp : pc + 1 = pc') (K : ∀ v : Int32, v = x &&& z → Run p l e R s m args below meth c Z wd ro EL n0 ow0 Q h ow cells slots (mkF m pc' Ls (.int v :: rest))) : Run p l e R s m args below meth c Z wd ro EL n0 ow0 Q h ow cells slots (mkF m pc Ls (.int z :: .int x :: rest)) := by
  subst hp
  exact Run.stp (fun T locs vm0 k0 X H t k => XS.iand X.here G.1 rfl (G.hb hd) rfl k) (K _ rfl)
theorem imul (G : Gd p s m meth c y bytes maxL ret Z a0 EL) {x z : Int32} (hd : decode bytes pc = .ok (.imul, 1))  (hp : pc + 1 = pc') (K : ∀ v : Int32, v = x * z → Run p l e R s m args below meth c Z wd ro EL n0 ow0 Q h ow cells slots (mkF m pc' Ls (.int v :: rest))) : Run p l e R s m args below meth c Z wd ro EL n0 ow0 Q h ow cells slots (mkF m pc Ls (.int z :: .int x :: rest)) := by
  subst hp
  exact Run.stp (fun T locs vm0 k0 X H t k => XS.imul X.here G.1 rfl (G.hb hd) rfl k) (K _ rfl)
theorem ior (G : Gd p s m meth c y bytes maxL ret Z a0 EL) {x z : Int32} (hd : decode bytes pc = .ok (.ior, 1))  (hp : pc + 1 = pc') (K : ∀ v : Int32, v = x ||| z → Run p l e R s m args below meth c Z wd ro EL n0 ow0 Q h ow cells slots (mkF m pc' Ls (.int v :: rest))) : Run p l e R s m args below meth c Z wd ro EL n0 ow0 Q h ow cells slots (mkF m pc Ls (.int z :: .int x :: rest)) := by
  subst hp
  exact Run.stp (fun T locs vm0 k0 X H t k => XT.ior X.here G.1 rfl (G.hb hd) rfl k) (K _ rfl)
theorem ixor (G : Gd p s m meth c y bytes maxL ret Z a0 EL) {x z : Int32} (hd : decode bytes pc = .ok (.ixor, 1))  (hp : pc + 1 = pc') (K : ∀ v : Int32, v = x ^^^ z → Run p l e R s m args below meth c Z wd ro EL n0 ow0 Q h ow cells slots (mkF m pc' Ls (.int v :: rest))) : Run p l e R s m args below meth c Z wd ro EL n0 ow0 Q h ow cells slots (mkF m pc Ls (.int z :: .int x :: rest)) := by
  subst hp
  exact Run.stp (fun T locs vm0 k0 X H t k => XT.ixor X.here G.1 rfl (G.hb hd) rfl k) (K _ rfl)
theorem irem (G : Gd p s m meth c y bytes maxL ret Z a0 EL) {x z : Int32} (hd : decode bytes pc = .ok (.irem, 1)) (hz : z ≠ 0) (hp : pc + 1 = pc') (K : ∀ v : Int32, v = x % z → Run p l e R s m args below meth c Z wd ro EL n0 ow0 Q h ow cells slots (mkF m pc' Ls (.int v :: rest))) : Run p l e R s m args below meth c Z wd ro EL n0 ow0 Q h ow cells slots (mkF m pc Ls (.int z :: .int x :: rest)) := by
  subst hp
  exact Run.stp (fun T locs vm0 k0 X H t k => iremM X G.1 rfl (G.hb hd) rfl hz k) (K _ rfl)
theorem ineg (G : Gd p s m meth c y bytes maxL ret Z a0 EL) {x : Int32} (hd : decode bytes pc = .ok (.ineg, 1)) (hp : pc + 1 = pc') (K : ∀ v : Int32, v = -x → Run p l e R s m args below meth c Z wd ro EL n0 ow0 Q h ow cells slots (mkF m pc' Ls (.int v :: rest))) : Run p l e R s m args below meth c Z wd ro EL n0 ow0 Q h ow cells slots (mkF m pc Ls (.int x :: rest)) := by
  subst hp
  exact Run.stp (fun T locs vm0 k0 X H t k => XS.ineg X.here G.1 rfl (G.hb hd) rfl k) (K _ rfl)
theorem i2c (G : Gd p s m meth c y bytes maxL ret Z a0 EL) {x : Int32} (hd : decode bytes pc = .ok (.i2c, 1)) (hp : pc + 1 = pc') (K : ∀ v : Int32, v = x.toUInt32.toUInt16.toUInt32.toInt32 → Run p l e R s m args below meth c Z wd ro EL n0 ow0 Q h ow cells slots (mkF m pc' Ls (.int v :: rest))) : Run p l e R s m args below meth c Z wd ro EL n0 ow0 Q h ow cells slots (mkF m pc Ls (.int x :: rest)) := by
  subst hp
  exact Run.stp (fun T locs vm0 k0 X H t k => XT.i2c X.here G.1 rfl (G.hb hd) rfl k) (K _ rfl)
theorem i2b (G : Gd p s m meth c y bytes maxL ret Z a0 EL) {x : Int32} (hd : decode bytes pc = .ok (.i2b, 1)) (hp : pc + 1 = pc') (K : ∀ v : Int32, v = x.toInt8.toInt32 → Run p l e R s m args below meth c Z wd ro EL n0 ow0 Q h ow cells slots (mkF m pc' Ls (.int v :: rest))) : Run p l e R s m args below meth c Z wd ro EL n0 ow0 Q h ow cells slots (mkF m pc Ls (.int x :: rest)) := by
  subst hp
  exact Run.stp (fun T locs vm0 k0 X H t k => XT.i2b X.here G.1 rfl (G.hb hd) rfl k) (K _ rfl)
theorem ishl (G : Gd p s m meth c y bytes maxL ret Z a0 EL) {x z : Int32} (hd : decode bytes pc = .ok (.ishl, 1))  (hp : pc + 1 = pc') (K : ∀ v : Int32, v = x <<< (z &&& 31) → Run p l e R s m args below meth c Z wd ro EL n0 ow0 Q h ow cells slots (mkF m pc' Ls (.int v :: rest))) : Run p l e R s m args below meth c Z wd ro EL n0 ow0 Q h ow cells slots (mkF m pc Ls (.int z :: .int x :: rest)) := by
  subst hp
  exact Run.stp (fun T locs vm0 k0 X H t k => XT.ishl X.here G.1 rfl (G.hb hd) rfl k) (K _ rfl)
theorem ishr (G : Gd p s m meth c y bytes maxL ret Z a0 EL) {x z : Int32} (hd : decode bytes pc = .ok (.ishr, 1))  (hp : pc + 1 = pc') (K : ∀ v : Int32, v = x >>> (z &&& 31) → Run p l e R s m args below meth c Z wd ro EL n0 ow0 Q h ow cells slots (mkF m pc' Ls (.int v :: rest))) : Run p l e R s m args below meth c Z wd ro EL n0 ow0 Q h ow cells slots (mkF m pc Ls (.int z :: .int x :: rest)) := by
  subst hp
  exact Run.stp (fun T locs vm0 k0 X H t k => XT.ishr X.here G.1 rfl (G.hb hd) rfl k) (K _ rfl)
theorem iushr (G : Gd p s m meth c y bytes maxL ret Z a0 EL) {x z : Int32} (hd : decode bytes pc = .ok (.iushr, 1))  (hp : pc + 1 = pc') (K : ∀ v : Int32, v = (x.toUInt32 >>> (z &&& 31).toUInt32).toInt32 → Run p l e R s m args below meth c Z wd ro EL n0 ow0 Q h ow cells slots (mkF m pc' Ls (.int v :: rest))) : Run p l e R s m args below meth c Z wd ro EL n0 ow0 Q h ow cells slots (mkF m pc Ls (.int z :: .int x :: rest)) := by
  subst hp
  exact Run.stp (fun T locs vm0 k0 X H t k => XT.iushr X.here G.1 rfl (G.hb hd) rfl k) (K _ rfl)
theorem goto (G : Gd p s m meth c y bytes maxL ret Z a0 EL) {o : Int} (hd : decode bytes pc = .ok (.goto o, 3)) (ho : 0 ≤ (pc : Int) + o) (hp : ((pc : Int) + o).toNat = pc') (K : Run p l e R s m args below meth c Z wd ro EL n0 ow0 Q h ow cells slots (mkF m pc' Ls st)) : Run p l e R s m args below meth c Z wd ro EL n0 ow0 Q h ow cells slots (mkF m pc Ls st) :=
  Run.stp (fun T locs vm0 k0 X H t k => XS.goto X.here G.1 rfl rfl (G.hb hd) ho hp k) K
theorem icmp_eq_t (G : Gd p s m meth c y bytes maxL ret Z a0 EL) {o : Int} {x z : Int32} (hd : decode bytes pc = .ok (.if_icmp .eq o, 3)) (hc : x = z) (ho : 0 ≤ (pc : Int) + o) (hp : ((pc : Int) + o).toNat = pc') (K : Run p l e R s m args below meth c Z wd ro EL n0 ow0 Q h ow cells slots (mkF m pc' Ls rest)) : Run p l e R s m args below meth c Z wd ro EL n0 ow0 Q h ow cells slots (mkF m pc Ls (.int z :: .int x :: rest)) :=
  Run.stp (fun T locs vm0 k0 X H t k => XS.icmpYes X.here G.1 rfl rfl (G.hb hd) rfl (XT.ii_eq_t hc) ho hp k) K
theorem icmp_eq_f (G : Gd p s m meth c y bytes maxL ret Z a0 EL) {o : Int} {x z : Int32} (hd : decode bytes pc = .ok (.if_icmp .eq o, 3)) (hc : ¬ x = z) (hp : pc + 3 = pc') (K : Run p l e R s m args below meth c Z wd ro EL n0 ow0 Q h ow cells slots (mkF m pc' Ls rest)) : Run p l e R s m args below meth c Z wd ro EL n0 ow0 Q h ow cells slots (mkF m pc Ls (.int z :: .int x :: rest)) := by
  subst hp
  exact Run.stp (fun T locs vm0 k0 X H t k => XS.icmpNo X.here G.1 rfl (G.hb hd) rfl (XT.ii_eq_f hc) k) K
theorem icmp_eq (G : Gd p s m meth c y bytes maxL ret Z a0 EL) {o : Int} {x z : Int32} {pt pf : Nat} (hd : decode bytes pc = .ok (.if_icmp .eq o, 3)) (ho : 0 ≤ (pc : Int) + o) (hp : ((pc : Int) + o).toNat = pt) (hq : pc + 3 = pf) (K1 : (x = z) → Run p l e R s m args below meth c Z wd ro EL n0 ow0 Q h ow cells slots (mkF m pt Ls rest)) (K2 : (¬ x = z) → Run p l e R s m args below meth c Z wd ro EL n0 ow0 Q h ow cells slots (mkF m pf Ls rest)) : Run p l e R s m args below meth c Z wd ro EL n0 ow0 Q h ow cells slots (mkF m pc Ls (.int z :: .int x :: rest)) := by
  by_cases q : x = z
  · exact icmp_eq_t G hd q ho hp (K1 q)
  · exact icmp_eq_f G hd q hq (K2 q)
theorem icmp_ne_t (G : Gd p s m meth c y bytes maxL ret Z a0 EL) {o : Int} {x z : Int32} (hd : decode bytes pc = .ok (.if_icmp .ne o, 3)) (hc : ¬ x = z) (ho : 0 ≤ (pc : Int) + o) (hp : ((pc : Int) + o).toNat = pc') (K : Run p l e R s m args below meth c Z wd ro EL n0 ow0 Q h ow cells slots (mkF m pc' Ls rest)) : Run p l e R s m args below meth c Z wd ro EL n0 ow0 Q h ow cells slots (mkF m pc Ls (.int z :: .int x :: rest)) :=
  Run.stp (fun T locs vm0 k0 X H t k => XS.icmpYes X.here G.1 rfl rfl (G.hb hd) rfl (XT.ii_ne_t hc) ho hp k) K
theorem icmp_ne_f (G : Gd p s m meth c y bytes maxL ret Z a0 EL) {o : Int} {x z : Int32} (hd : decode bytes pc = .ok (.if_icmp .ne o, 3)) (hc : x = z) (hp : pc + 3 = pc') (K : Run p l e R s m args below meth c Z wd ro EL n0 ow0 Q h ow cells slots (mkF m pc' Ls rest)) : Run p l e R s m args below meth c Z wd ro EL n0 ow0 Q h ow cells slots (mkF m pc Ls (.int z :: .int x :: rest)) := by
  subst hp
  exact Run.stp (fun T locs vm0 k0 X H t k => XS.icmpNo X.here G.1 rfl (G.hb hd) rfl (XT.ii_ne_f hc) k) K
theorem icmp_ne (G : Gd p s m meth c y bytes maxL ret Z a0 EL) {o : Int} {x z : Int32} {pt pf : Nat} (hd : decode bytes pc = .ok (.if_icmp .ne o, 3)) (ho : 0 ≤ (pc : Int) + o) (hp : ((pc : Int) + o).toNat = pt) (hq : pc + 3 = pf) (K1 : (¬ x = z) → Run p l e R s m args below meth c Z wd ro EL n0 ow0 Q h ow cells slots (mkF m pt Ls rest)) (K2 : (x = z) → Run p l e R s m args below meth c Z wd ro EL n0 ow0 Q h ow cells slots (mkF m pf Ls rest)) : Run p l e R s m args below meth c Z wd ro EL n0 ow0 Q h ow cells slots (mkF m pc Ls (.int z :: .int x :: rest)) := by
  by_cases q : x = z
  · exact icmp_ne_f G hd q hq (K2 q)
  · exact icmp_ne_t G hd q ho hp (K1 q)
theorem icmp_lt_t (G : Gd p s m meth c y bytes maxL ret Z a0 EL) {o : Int} {x z : Int32} (hd : decode bytes pc = .ok (.if_icmp .lt o, 3)) (hc : x < z) (ho : 0 ≤ (pc : Int) + o) (hp : ((pc : Int) + o).toNat = pc') (K : Run p l e R s m args below meth c Z wd ro EL n0 ow0 Q h ow cells slots (mkF m pc' Ls rest)) : Run p l e R s m args below meth c Z wd ro EL n0 ow0 Q h ow cells slots (mkF m pc Ls (.int z :: .int x :: rest)) :=
  Run.stp (fun T locs vm0 k0 X H t k => XS.icmpYes X.here G.1 rfl rfl (G.hb hd) rfl (XT.ii_lt_t hc) ho hp k) K
theorem icmp_lt_f (G : Gd p s m meth c y bytes maxL ret Z a0 EL) {o : Int} {x z : Int32} (hd : decode bytes pc = .ok (.if_icmp .lt o, 3)) (hc : ¬ x < z) (hp : pc + 3 = pc') (K : Run p l e R s m args below meth c Z wd ro EL n0 ow0 Q h ow cells slots (mkF m pc' Ls rest)) : Run p l e R s m args below meth c Z wd ro EL n0 ow0 Q h ow cells slots (mkF m pc Ls (.int z :: .int x :: rest)) := by
  subst hp
  exact Run.stp (fun T locs vm0 k0 X H t k => XS.icmpNo X.here G.1 rfl (G.hb hd) rfl (XT.ii_lt_f hc) k) K
theorem icmp_lt (G : Gd p s m meth c y bytes maxL ret Z a0 EL) {o : Int} {x z : Int32} {pt pf : Nat} (hd : decode bytes pc = .ok (.if_icmp .lt o, 3)) (ho : 0 ≤ (pc : Int) + o) (hp : ((pc : Int) + o).toNat = pt) (hq : pc + 3 = pf) (K1 : (x < z) → Run p l e R s m args below meth c Z wd ro EL n0 ow0 Q h ow cells slots (mkF m pt Ls rest)) (K2 : (¬ x < z) → Run p l e R s m args below meth c Z wd ro EL n0 ow0 Q h ow cells slots (mkF m pf Ls rest)) : Run p l e R s m args below meth c Z wd ro EL n0 ow0 Q h ow cells slots (mkF m pc Ls (.int z :: .int x :: rest)) := by
  by_cases q : x < z
  · exact icmp_lt_t G hd q ho hp (K1 q)
  · exact icmp_lt_f G hd q hq (K2 q)
theorem icmp_ge_t (G : Gd p s m meth c y bytes maxL ret Z a0 EL) {o : Int} {x z : Int32} (hd : decode bytes pc = .ok (.if_icmp .ge o, 3)) (hc : ¬ x < z) (ho : 0 ≤ (pc : Int) + o) (hp : ((pc : Int) + o).toNat = pc') (K : Run p l e R s m args below meth c Z wd ro EL n0 ow0 Q h ow cells slots (mkF m pc' Ls rest)) : Run p l e R s m args below meth c Z wd ro EL n0 ow0 Q h ow cells slots (mkF m pc Ls (.int z :: .int x :: rest)) :=
  Run.stp (fun T locs vm0 k0 X H t k => XS.icmpYes X.here G.1 rfl rfl (G.hb hd) rfl (XT.ii_ge_t hc) ho hp k) K
theorem icmp_ge_f (G : Gd p s m meth c y bytes maxL ret Z a0 EL) {o : Int} {x z : Int32} (hd : decode bytes pc = .ok (.if_icmp .ge o, 3)) (hc : x < z) (hp : pc + 3 = pc') (K : Run p l e R s m args below meth c Z wd ro EL n0 ow0 Q h ow cells slots (mkF m pc' Ls rest)) : Run p l e R s m args below meth c Z wd ro EL n0 ow0 Q h ow cells slots (mkF m pc Ls (.int z :: .int x :: rest)) := by
  subst hp
  exact Run.stp (fun T locs vm0 k0 X H t k => XS.icmpNo X.here G.1 rfl (G.hb hd) rfl (XT.ii_ge_f hc) k) K
theorem icmp_ge (G : Gd p s m meth c y bytes maxL ret Z a0 EL) {o : Int} {x z : Int32} {pt pf : Nat} (hd : decode bytes pc = .ok (.if_icmp .ge o, 3)) (ho : 0 ≤ (pc : Int) + o) (hp : ((pc : Int) + o).toNat = pt) (hq : pc + 3 = pf) (K1 : (¬ x < z) → Run p l e R s m args below meth c Z wd ro EL n0 ow0 Q h ow cells slots (mkF m pt Ls rest)) (K2 : (x < z) → Run p l e R s m args below meth c Z wd ro EL n0 ow0 Q h ow cells slots (mkF m pf Ls rest)) : Run p l e R s m args below meth c Z wd ro EL n0 ow0 Q h ow cells slots (mkF m pc Ls (.int z :: .int x :: rest)) := by
  by_cases q : x < z
  · exact icmp_ge_f G hd q hq (K2 q)
  · exact icmp_ge_t G hd q ho hp (K1 q)
theorem icmp_gt_t (G : Gd p s m meth c y bytes maxL ret Z a0 EL) {o : Int} {x z : Int32} (hd : decode bytes pc = .ok (.if_icmp .gt o, 3)) (hc : z < x) (ho : 0 ≤ (pc : Int) + o) (hp : ((pc : Int) + o).toNat = pc') (K : Run p l e R s m args below meth c Z wd ro EL n0 ow0 Q h ow cells slots (mkF m pc' Ls rest)) : Run p l e R s m args below meth c Z wd ro EL n0 ow0 Q h ow cells slots (mkF m pc Ls (.int z :: .int x :: rest)) :=
  Run.stp (fun T locs vm0 k0 X H t k => XS.icmpYes X.here G.1 rfl rfl (G.hb hd) rfl (XT.ii_gt_t hc) ho hp k) K
theorem icmp_gt_f (G : Gd p s m meth c y bytes maxL ret Z a0 EL) {o : Int} {x z : Int32} (hd : decode bytes pc = .ok (.if_icmp .gt o, 3)) (hc : ¬ z < x) (hp : pc + 3 = pc') (K : Run p l e R s m args below meth c Z wd ro EL n0 ow0 Q h ow cells slots (mkF m pc' Ls rest)) : Run p l e R s m args below meth c Z wd ro EL n0 ow0 Q h ow cells slots (mkF m pc Ls (.int z :: .int x :: rest)) := by
  subst hp
  exact Run.stp (fun T locs vm0 k0 X H t k => XS.icmpNo X.here G.1 rfl (G.hb hd) rfl (XT.ii_gt_f hc) k) K
theorem icmp_gt (G : Gd p s m meth c y bytes maxL ret Z a0 EL) {o : Int} {x z : Int32} {pt pf : Nat} (hd : decode bytes pc = .ok (.if_icmp .gt o, 3)) (ho : 0 ≤ (pc : Int) + o) (hp : ((pc : Int) + o).toNat = pt) (hq : pc + 3 = pf) (K1 : (z < x) → Run p l e R s m args below meth c Z wd ro EL n0 ow0 Q h ow cells slots (mkF m pt Ls rest)) (K2 : (¬ z < x) → Run p l e R s m args below meth c Z wd ro EL n0 ow0 Q h ow cells slots (mkF m pf Ls rest)) : Run p l e R s m args below meth c Z wd ro EL n0 ow0 Q h ow cells slots (mkF m pc Ls (.int z :: .int x :: rest)) := by
  by_cases q : z < x
  · exact icmp_gt_t G hd q ho hp (K1 q)
  · exact icmp_gt_f G hd q hq (K2 q)
theorem icmp_le_t (G : Gd p s m meth c y bytes maxL ret Z a0 EL) {o : Int} {x z : Int32} (hd : decode bytes pc = .ok (.if_icmp .le o, 3)) (hc : ¬ z < x) (ho : 0 ≤ (pc : Int) + o) (hp : ((pc : Int) + o).toNat = pc') (K : Run p l e R s m args below meth c Z wd ro EL n0 ow0 Q h ow cells slots (mkF m pc' Ls rest)) : Run p l e R s m args below meth c Z wd ro EL n0 ow0 Q h ow cells slots (mkF m pc Ls (.int z :: .int x :: rest)) :=
  Run.stp (fun T locs vm0 k0 X H t k => XS.icmpYes X.here G.1 rfl rfl (G.hb hd) rfl (XT.ii_le_t hc) ho hp k) K
theorem icmp_le_f (G : Gd p s m meth c y bytes maxL ret Z a0 EL) {o : Int} {x z : Int32} (hd : decode bytes pc = .ok (.if_icmp .le o, 3)) (hc : z < x) (hp : pc + 3 = pc') (K : Run p l e R s m args below meth c Z wd ro EL n0 ow0 Q h ow cells slots (mkF m pc' Ls rest)) : Run p l e R s m args below meth c Z wd ro EL n0 ow0 Q h ow cells slots (mkF m pc Ls (.int z :: .int x :: rest)) := by
  subst hp
  exact Run.stp (fun T locs vm0 k0 X H t k => XS.icmpNo X.here G.1 rfl (G.hb hd) rfl (XT.ii_le_f hc) k) K
theorem icmp_le (G : Gd p s m meth c y bytes maxL ret Z a0 EL) {o : Int} {x z : Int32} {pt pf : Nat} (hd : decode bytes pc = .ok (.if_icmp .le o, 3)) (ho : 0 ≤ (pc : Int) + o) (hp : ((pc : Int) + o).toNat = pt) (hq : pc + 3 = pf) (K1 : (¬ z < x) → Run p l e R s m args below meth c Z wd ro EL n0 ow0 Q h ow cells slots (mkF m pt Ls rest)) (K2 : (z < x) → Run p l e R s m args below meth c Z wd ro EL n0 ow0 Q h ow cells slots (mkF m pf Ls rest)) : Run p l e R s m args below meth c Z wd ro EL n0 ow0 Q h ow cells slots (mkF m pc Ls (.int z :: .int x :: rest)) := by
  by_cases q : z < x
  · exact icmp_le_f G hd q hq (K2 q)
  · exact icmp_le_t G hd q ho hp (K1 q)
theorem if_eq_t (G : Gd p s m meth c y bytes maxL ret Z a0 EL) {o : Int} {x : Int32} (hd : decode bytes pc = .ok (.ifCond .eq o, 3)) (hc : x = 0) (ho : 0 ≤ (pc : Int) + o) (hp : ((pc : Int) + o).toNat = pc') (K : Run p l e R s m args below meth c Z wd ro EL n0 ow0 Q h ow cells slots (mkF m pc' Ls rest)) : Run p l e R s m args below meth c Z wd ro EL n0 ow0 Q h ow cells slots (mkF m pc Ls (.int x :: rest)) :=
  Run.stp (fun T locs vm0 k0 X H t k => XS.ifYes X.here G.1 rfl rfl (G.hb hd) rfl (XT.i0_eq_t hc) ho hp k) K
theorem if_eq_f (G : Gd p s m meth c y bytes maxL ret Z a0 EL) {o : Int} {x : Int32} (hd : decode bytes pc = .ok (.ifCond .eq o, 3)) (hc : ¬ x = 0) (hp : pc + 3 = pc') (K : Run p l e R s m args below meth c Z wd ro EL n0 ow0 Q h ow cells slots (mkF m pc' Ls rest)) : Run p l e R s m args below meth c Z wd ro EL n0 ow0 Q h ow cells slots (mkF m pc Ls (.int x :: rest)) := by
  subst hp
  exact Run.stp (fun T locs vm0 k0 X H t k => XS.ifNo X.here G.1 rfl (G.hb hd) rfl (XT.i0_eq_f hc) k) K
theorem if_eq (G : Gd p s m meth c y bytes maxL ret Z a0 EL) {o : Int} {x : Int32} {pt pf : Nat} (hd : decode bytes pc = .ok (.ifCond .eq o, 3)) (ho : 0 ≤ (pc : Int) + o) (hp : ((pc : Int) + o).toNat = pt) (hq : pc + 3 = pf) (K1 : (x = 0) → Run p l e R s m args below meth c Z wd ro EL n0 ow0 Q h ow cells slots (mkF m pt Ls rest)) (K2 : (¬ x = 0) → Run p l e R s m args below meth c Z wd ro EL n0 ow0 Q h ow cells slots (mkF m pf Ls rest)) : Run p l e R s m args below meth c Z wd ro EL n0 ow0 Q h ow cells slots (mkF m pc Ls (.int x :: rest)) := by
  by_cases q : x = 0
  · exact if_eq_t G hd q ho hp (K1 q)
  · exact if_eq_f G hd q hq (K2 q)
theorem if_ne_t (G : Gd p s m meth c y bytes maxL ret Z a0 EL) {o : Int} {x : Int32} (hd : decode bytes pc = .ok (.ifCond .ne o, 3)) (hc : ¬ x = 0) (ho : 0 ≤ (pc : Int) + o) (hp : ((pc : Int) + o).toNat = pc') (K : Run p l e R s m args below meth c Z wd ro EL n0 ow0 Q h ow cells slots (mkF m pc' Ls rest)) : Run p l e R s m args below meth c Z wd ro EL n0 ow0 Q h ow cells slots (mkF m pc Ls (.int x :: rest)) :=
  Run.stp (fun T locs vm0 k0 X H t k => XS.ifYes X.here G.1 rfl rfl (G.hb hd) rfl (XT.i0_ne_t hc) ho hp k) K
theorem if_ne_f (G : Gd p s m meth c y bytes maxL ret Z a0 EL) {o : Int} {x : Int32} (hd : decode bytes pc = .ok (.ifCond .ne o, 3)) (hc : x = 0) (hp : pc + 3 = pc') (K : Run p l e R s m args below meth c Z wd ro EL n0 ow0 Q h ow cells slots (mkF m pc' Ls rest)) : Run p l e R s m args below meth c Z wd ro EL n0 ow0 Q h ow cells slots (mkF m pc Ls (.int x :: rest)) := by
  subst hp
  exact Run.stp (fun T locs vm0 k0 X H t k => XS.ifNo X.here G.1 rfl (G.hb hd) rfl (XT.i0_ne_f hc) k) K
theorem if_ne (G : Gd p s m meth c y bytes maxL ret Z a0 EL) {o : Int} {x : Int32} {pt pf : Nat} (hd : decode bytes pc = .ok (.ifCond .ne o, 3)) (ho : 0 ≤ (pc : Int) + o) (hp : ((pc : Int) + o).toNat = pt) (hq : pc + 3 = pf) (K1 : (¬ x = 0) → Run p l e R s m args below meth c Z wd ro EL n0 ow0 Q h ow cells slots (mkF m pt Ls rest)) (K2 : (x = 0) → Run p l e R s m args below meth c Z wd ro EL n0 ow0 Q h ow cells slots (mkF m pf Ls rest)) : Run p l e R s m args below meth c Z wd ro EL n0 ow0 Q h ow cells slots (mkF m pc Ls (.int x :: rest)) := by
  by_cases q : x = 0
  · exact if_ne_f G hd q hq (K2 q)
  · exact if_ne_t G hd q ho hp (K1 q)
theorem if_lt_t (G : Gd p s m meth c y bytes maxL ret Z a0 EL) {o : Int} {x : Int32} (hd : decode bytes pc = .ok (.ifCond .lt o, 3)) (hc : x < 0) (ho : 0 ≤ (pc : Int) + o) (hp : ((pc : Int) + o).toNat = pc') (K : Run p l e R s m args below meth c Z wd ro EL n0 ow0 Q h ow cells slots (mkF m pc' Ls rest)) : Run p l e R s m args below meth c Z wd ro EL n0 ow0 Q h ow cells slots (mkF m pc Ls (.int x :: rest)) :=
  Run.stp (fun T locs vm0 k0 X H t k => XS.ifYes X.here G.1 rfl rfl (G.hb hd) rfl (XT.i0_lt_t hc) ho hp k) K
theorem if_lt_f (G : Gd p s m meth c y bytes maxL ret Z a0 EL) {o : Int} {x : Int32} (hd : decode bytes pc = .ok (.ifCond .lt o, 3)) (hc : ¬ x < 0) (hp : pc + 3 = pc') (K : Run p l e R s m args below meth c Z wd ro EL n0 ow0 Q h ow cells slots (mkF m pc' Ls rest)) : Run p l e R s m args below meth c Z wd ro EL n0 ow0 Q h ow cells slots (mkF m pc Ls (.int x :: rest)) := by
  subst hp
  exact Run.stp (fun T locs vm0 k0 X H t k => XS.ifNo X.here G.1 rfl (G.hb hd) rfl (XT.i0_lt_f hc) k) K
theorem if_lt (G : Gd p s m meth c y bytes maxL ret Z a0 EL) {o : Int} {x : Int32} {pt pf : Nat} (hd : decode bytes pc = .ok (.ifCond .lt o, 3)) (ho : 0 ≤ (pc : Int) + o) (hp : ((pc : Int) + o).toNat = pt) (hq : pc + 3 = pf) (K1 : (x < 0) → Run p l e R s m args below meth c Z wd ro EL n0 ow0 Q h ow cells slots (mkF m pt Ls rest)) (K2 : (¬ x < 0) → Run p l e R s m args below meth c Z wd ro EL n0 ow0 Q h ow cells slots (mkF m pf Ls rest)) : Run p l e R s m args below meth c Z wd ro EL n0 ow0 Q h ow cells slots (mkF m pc Ls (.int x :: rest)) := by
  by_cases q : x < 0
  · exact if_lt_t G hd q ho hp (K1 q)
  · exact if_lt_f G hd q hq (K2 q)
theorem if_ge_t (G : Gd p s m meth c y bytes maxL ret Z a0 EL) {o : Int} {x : Int32} (hd : decode bytes pc = .ok (.ifCond .ge o, 3)) (hc : ¬ x < 0) (ho : 0 ≤ (pc : Int) + o) (hp : ((pc : Int) + o).toNat = pc') (K : Run p l e R s m args below meth c Z wd ro EL n0 ow0 Q h ow cells slots (mkF m pc' Ls rest)) : Run p l e R s m args below meth c Z wd ro EL n0 ow0 Q h ow cells slots (mkF m pc Ls (.int x :: rest)) :=
  Run.stp (fun T locs vm0 k0 X H t k => XS.ifYes X.here G.1 rfl rfl (G.hb hd) rfl (XT.i0_ge_t hc) ho hp k) K
theorem if_ge_f (G : Gd p s m meth c y bytes maxL ret Z a0 EL) {o : Int} {x : Int32} (hd : decode bytes pc = .ok (.ifCond .ge o, 3)) (hc : x < 0) (hp : pc + 3 = pc') (K : Run p l e R s m args below meth c Z wd ro EL n0 ow0 Q h ow cells slots (mkF m pc' Ls rest)) : Run p l e R s m args below meth c Z wd ro EL n0 ow0 Q h ow cells slots (mkF m pc Ls (.int x :: rest)) := by
  subst hp
  exact Run.stp (fun T locs vm0 k0 X H t k => XS.ifNo X.here G.1 rfl (G.hb hd) rfl (XT.i0_ge_f hc) k) K
theorem if_ge (G : Gd p s m meth c y bytes maxL ret Z a0 EL) {o : Int} {x : Int32} {pt pf : Nat} (hd : decode bytes pc = .ok (.ifCond .ge o, 3)) (ho : 0 ≤ (pc : Int) + o) (hp : ((pc : Int) + o).toNat = pt) (hq : pc + 3 = pf) (K1 : (¬ x < 0) → Run p l e R s m args below meth c Z wd ro EL n0 ow0 Q h ow cells slots (mkF m pt Ls rest)) (K2 : (x < 0) → Run p l e R s m args below meth c Z wd ro EL n0 ow0 Q h ow cells slots (mkF m pf Ls rest)) : Run p l e R s m args below meth c Z wd ro EL n0 ow0 Q h ow cells slots (mkF m pc Ls (.int x :: rest)) := by
  by_cases q : x < 0
  · exact if_ge_f G hd q hq (K2 q)
  · exact if_ge_t G hd q ho hp (K1 q)
theorem if_gt_t (G : Gd p s m meth c y bytes maxL ret Z a0 EL) {o : Int} {x : Int32} (hd : decode bytes pc = .ok (.ifCond .gt o, 3)) (hc : 0 < x) (ho : 0 ≤ (pc : Int) + o) (hp : ((pc : Int) + o).toNat = pc') (K : Run p l e R s m args below meth c Z wd ro EL n0 ow0 Q h ow cells slots (mkF m pc' Ls rest)) : Run p l e R s m args below meth c Z wd ro EL n0 ow0 Q h ow cells slots (mkF m pc Ls (.int x :: rest)) :=
  Run.stp (fun T locs vm0 k0 X H t k => XS.ifYes X.here G.1 rfl rfl (G.hb hd) rfl (XT.i0_gt_t hc) ho hp k) K
theorem if_gt_f (G : Gd p s m meth c y bytes maxL ret Z a0 EL) {o : Int} {x : Int32} (hd : decode bytes pc = .ok (.ifCond .gt o, 3)) (hc : ¬ 0 < x) (hp : pc + 3 = pc') (K : Run p l e R s m args below meth c Z wd ro EL n0 ow0 Q h ow cells slots (mkF m pc' Ls rest)) : Run p l e R s m args below meth c Z wd ro EL n0 ow0 Q h ow cells slots (mkF m pc Ls (.int x :: rest)) := by
  subst hp
  exact Run.stp (fun T locs vm0 k0 X H t k => XS.ifNo X.here G.1 rfl (G.hb hd) rfl (XT.i0_gt_f hc) k) K
theorem if_gt (G : Gd p s m meth c y bytes maxL ret Z a0 EL) {o : Int} {x : Int32} {pt pf : Nat} (hd : decode bytes pc = .ok (.ifCond .gt o, 3)) (ho : 0 ≤ (pc : Int) + o) (hp : ((pc : Int) + o).toNat = pt) (hq : pc + 3 = pf) (K1 : (0 < x) → Run p l e R s m args below meth c Z wd ro EL n0 ow0 Q h ow cells slots (mkF m pt Ls rest)) (K2 : (¬ 0 < x) → Run p l e R s m args below meth c Z wd ro EL n0 ow0 Q h ow cells slots (mkF m pf Ls rest)) : Run p l e R s m args below meth c Z wd ro EL n0 ow0 Q h ow cells slots (mkF m pc Ls (.int x :: rest)) := by
  by_cases q : 0 < x
  · exact if_gt_t G hd q ho hp (K1 q)
  · exact if_gt_f G hd q hq (K2 q)
theorem if_le_t (G : Gd p s m meth c y bytes maxL ret Z a0 EL) {o : Int} {x : Int32} (hd : decode bytes pc = .ok (.ifCond .le o, 3)) (hc : ¬ 0 < x) (ho : 0 ≤ (pc : Int) + o) (hp : ((pc : Int) + o).toNat = pc') (K : Run p l e R s m args below meth c Z wd ro EL n0 ow0 Q h ow cells slots (mkF m pc' Ls rest)) : Run p l e R s m args below meth c Z wd ro EL n0 ow0 Q h ow cells slots (mkF m pc Ls (.int x :: rest)) :=
  Run.stp (fun T locs vm0 k0 X H t k => XS.ifYes X.here G.1 rfl rfl (G.hb hd) rfl (XT.i0_le_t hc) ho hp k) K
theorem if_le_f (G : Gd p s m meth c y bytes maxL ret Z a0 EL) {o : Int} {x : Int32} (hd : decode bytes pc = .ok (.ifCond .le o, 3)) (hc : 0 < x) (hp : pc + 3 = pc') (K : Run p l e R s m args below meth c Z wd ro EL n0 ow0 Q h ow cells slots (mkF m pc' Ls rest)) : Run p l e R s m args below meth c Z wd ro EL n0 ow0 Q h ow cells slots (mkF m pc Ls (.int x :: rest)) := by
  subst hp
  exact Run.stp (fun T locs vm0 k0 X H t k => XS.ifNo X.here G.1 rfl (G.hb hd) rfl (XT.i0_le_f hc) k) K
theorem if_le (G : Gd p s m meth c y bytes maxL ret Z a0 EL) {o : Int} {x : Int32} {pt pf : Nat} (hd : decode bytes pc = .ok (.ifCond .le o, 3)) (ho : 0 ≤ (pc : Int) + o) (hp : ((pc : Int) + o).toNat = pt) (hq : pc + 3 = pf) (K1 : (¬ 0 < x) → Run p l e R s m args below meth c Z wd ro EL n0 ow0 Q h ow cells slots (mkF m pt Ls rest)) (K2 : (0 < x) → Run p l e R s m args below meth c Z wd ro EL n0 ow0 Q h ow cells slots (mkF m pf Ls rest)) : Run p l e R s m args below meth c Z wd ro EL n0 ow0 Q h ow cells slots (mkF m pc Ls (.int x :: rest)) := by
  by_cases q : 0 < x
  · exact if_le_f G hd q hq (K2 q)
  · exact if_le_t G hd q ho hp (K1 q)
theorem ifnull_t (G : Gd p s m meth c y bytes maxL ret Z a0 EL) {o : Int} (hd : decode bytes pc = .ok (.ifnull o, 3)) (ho : 0 ≤ (pc : Int) + o) (hp : ((pc : Int) + o).toNat = pc') (K : Run p l e R s m args below meth c Z wd ro EL n0 ow0 Q h ow cells slots (mkF m pc' Ls rest)) : Run p l e R s m args below meth c Z wd ro EL n0 ow0 Q h ow cells slots (mkF m pc Ls (.null :: rest)) :=
  Run.stp (fun T locs vm0 k0 X H t k => XS.ifnullYes X.here G.1 rfl rfl (G.hb hd) rfl ho hp k) K
theorem ifnull_f (G : Gd p s m meth c y bytes maxL ret Z a0 EL) {o : Int} {b : Addr} (hd : decode bytes pc = .ok (.ifnull o, 3)) (hp : pc + 3 = pc') (K : Run p l e R s m args below meth c Z wd ro EL n0 ow0 Q h ow cells slots (mkF m pc' Ls rest)) : Run p l e R s m args below meth c Z wd ro EL n0 ow0 Q h ow cells slots (mkF m pc Ls (.ref b :: rest)) := by
  subst hp
  exact Run.stp (fun T locs vm0 k0 X H t k => XS.ifnullNo X.here G.1 rfl (G.hb hd) rfl k) K
theorem ifnonnull_t (G : Gd p s m meth c y bytes maxL ret Z a0 EL) {o : Int} {b : Addr} (hd : decode bytes pc = .ok (.ifnonnull o, 3)) (ho : 0 ≤ (pc : Int) + o) (hp : ((pc : Int) + o).toNat = pc') (K : Run p l e R s m args below meth c Z wd ro EL n0 ow0 Q h ow cells slots (mkF m pc' Ls rest)) : Run p l e R s m args below meth c Z wd ro EL n0 ow0 Q h ow cells slots (mkF m pc Ls (.ref b :: rest)) :=
  Run.stp (fun T locs vm0 k0 X H t k => XT.ifnonnullYes X.here G.1 rfl rfl (G.hb hd) rfl ho hp k) K
theorem ifnonnull_f (G : Gd p s m meth c y bytes maxL ret Z a0 EL) {o : Int} (hd : decode bytes pc = .ok (.ifnonnull o, 3)) (hp : pc + 3 = pc') (K : Run p l e R s m args below meth c Z wd ro EL n0 ow0 Q h ow cells slots (mkF m pc' Ls rest)) : Run p l e R s m args below meth c Z wd ro EL n0 ow0 Q h ow cells slots (mkF m pc Ls (.null :: rest)) := by
  subst hp
  exact Run.stp (fun T locs vm0 k0 X H t k => XT.ifnonnullNo X.here G.1 rfl (G.hb hd) rfl k) K
theorem acmp_eq_t (G : Gd p s m meth c y bytes maxL ret Z a0 EL) {o : Int} {v w : Value} (hd : decode bytes pc = .ok (.if_acmp .eq o, 3)) (hv : v.isRef = true) (hw : w.isRef = true) (hc : v = w) (ho : 0 ≤ (pc : Int) + o) (hp : ((pc : Int) + o).toNat = pc') (K : Run p l e R s m args below meth c Z wd ro EL n0 ow0 Q h ow cells slots (mkF m pc' Ls rest)) : Run p l e R s m args below meth c Z wd ro EL n0 ow0 Q h ow cells slots (mkF m pc Ls (w :: v :: rest)) :=
  Run.stp (fun T locs vm0 k0 X H t k => XT.acmpYes X.here G.1 rfl rfl (G.hb hd) rfl hv hw (XT.aa_eq_t hc) ho hp k) K
theorem acmp_eq_f (G : Gd p s m meth c y bytes maxL ret Z a0 EL) {o : Int} {v w : Value} (hd : decode bytes pc = .ok (.if_acmp .eq o, 3)) (hv : v.isRef = true) (hw : w.isRef = true) (hc : ¬ v = w) (hp : pc + 3 = pc') (K : Run p l e R s m args below meth c Z wd ro EL n0 ow0 Q h ow cells slots (mkF m pc' Ls rest)) : Run p l e R s m args below meth c Z wd ro EL n0 ow0 Q h ow cells slots (mkF m pc Ls (w :: v :: rest)) := by
  subst hp
  exact Run.stp (fun T locs vm0 k0 X H t k => XT.acmpNo X.here G.1 rfl (G.hb hd) rfl hv hw (XT.aa_eq_f hc) k) K
theorem acmp_ne_t (G : Gd p s m meth c y bytes maxL ret Z a0 EL) {o : Int} {v w : Value} (hd : decode bytes pc = .ok (.if_acmp .ne o, 3)) (hv : v.isRef = true) (hw : w.isRef = true) (hc : ¬ v = w) (ho : 0 ≤ (pc : Int) + o) (hp : ((pc : Int) + o).toNat = pc') (K : Run p l e R s m args below meth c Z wd ro EL n0 ow0 Q h ow cells slots (mkF m pc' Ls rest)) : Run p l e R s m args below meth c Z wd ro EL n0 ow0 Q h ow cells slots (mkF m pc Ls (w :: v :: rest)) :=
  Run.stp (fun T locs vm0 k0 X H t k => XT.acmpYes X.here G.1 rfl rfl (G.hb hd) rfl hv hw (XT.aa_ne_t hc) ho hp k) K
theorem acmp_ne_f (G : Gd p s m meth c y bytes maxL ret Z a0 EL) {o : Int} {v w : Value} (hd : decode bytes pc = .ok (.if_acmp .ne o, 3)) (hv : v.isRef = true) (hw : w.isRef = true) (hc : v = w) (hp : pc + 3 = pc') (K : Run p l e R s m args below meth c Z wd ro EL n0 ow0 Q h ow cells slots (mkF m pc' Ls rest)) : Run p l e R s m args below meth c Z wd ro EL n0 ow0 Q h ow cells slots (mkF m pc Ls (w :: v :: rest)) := by
  subst hp
  exact Run.stp (fun T locs vm0 k0 X H t k => XT.acmpNo X.here G.1 rfl (G.hb hd) rfl hv hw (XT.aa_ne_f hc) k) K
theorem ldcInt (G : Gd p s m meth c y bytes maxL ret Z a0 EL) {idx : Nat} {v : Int32} (hd : decode bytes pc = .ok (.ldc idx, 2)) (w : (Jvm.Cond.constant y.cls idx v).before a0 Z = true) (hp : pc + 2 = pc') (K : Run p l e R s m args below meth c Z wd ro EL n0 ow0 Q h ow cells slots (mkF m pc' Ls (.int v :: st))) : Run p l e R s m args below meth c Z wd ro EL n0 ow0 Q h ow cells slots (mkF m pc Ls st) := by
  subst hp
  exact Run.stp (fun T locs vm0 k0 X H t k => X.ldcI G.1 (G.own H.1) (mv (s := s.setVm vm0) H.2.2.1 w) rfl (G.hb hd) k) K
theorem getf (G : Gd p s m meth c y bytes maxL ret Z a0 EL) {idx : Nat} {R0 O n d : String} {a : Addr} {v : Value} (hd : decode bytes pc = .ok (.getfield idx, 3)) (w : (Jvm.Cond.fieldLink y.cls idx R0 n d).before a0 Z = true) (via : Via Z R0 O n d) (F : Fld Z h a O n d v) (hp : pc + 3 = pc') (K : Run p l e R s m args below meth c Z wd ro EL n0 ow0 Q h ow cells slots (mkF m pc' Ls (v :: rest))) : Run p l e R s m args below meth c Z wd ro EL n0 ow0 Q h ow cells slots (mkF m pc Ls (.ref a :: rest)) := by
  subst hp
  exact Run.mov (fun T locs vm0 k0 X H => getF X G.1 H.2.2.1 (host := "") (G.own H.1) (Or.inl w) via H.2.2.2.1 F rfl rfl (G.hb hd)) K
theorem gets (G : Gd p s m meth c y bytes maxL ret Z a0 EL) {idx : Nat} {R0 O n d : String} {v : Value} (hd : decode bytes pc = .ok (.getstatic idx, 3)) (w : (Jvm.Cond.fieldLink y.cls idx R0 n d).before a0 Z = true) (via : Via Z R0 O n d) (F : Sta Z Z.heap O n d v) (hp : pc + 3 = pc') (K : Run p l e R s m args below meth c Z wd ro EL n0 ow0 Q h ow cells slots (mkF m pc' Ls (v :: st))) : Run p l e R s m args below meth c Z wd ro EL n0 ow0 Q h ow cells slots (mkF m pc Ls st) := by
  subst hp
  exact Run.mov (fun T locs vm0 k0 X H => getS X G.1 H.2.2.1 (host := "") (G.own H.1) w via H.2.2.2.1 (F.ext H.2.2.2.2.2.2.2.1.2) rfl (G.hb hd)) K
theorem putf (G : Gd p s m meth c y bytes maxL ret Z a0 EL) {idx kk : Nat} {R0 O n d C : String} {a : Addr} {v old : Value} {ty : FieldType} (hd : decode bytes pc = .ok (.putfield idx, 3)) (w : (Jvm.Cond.fieldLink y.cls idx R0 n d).before a0 Z = true) (via : Via Z R0 O n d) (F : Fld Z h a O n d old) (E : Exa Z h a C) (L : (Jvm.Cond.lays C O n d).before a0 Z = true ∨ ((Jvm.Cond.laysFinal C O n d).before a0 Z = true ∧ y.cls = O ∧ y.name = "<init>")) (wi : (Jvm.Cond.instantiable C kk).before a0 Z = true) (hty : parseFieldDescriptor d = some ty) (hn : narrow ty v = v) (hf : fits ty v = true) (ha : a ∈ ow) (hp : pc + 3 = pc')
    (K : ∀ h', Wr h h' a (RoadKit.slotOf Z O n d) v → Run p l e R s m args below meth c Z wd ro EL n0 ow0 Q h' ow cells slots (mkF m pc' Ls rest)) : Run p l e R s m args below meth c Z wd ro EL n0 ow0 Q h ow cells slots (mkF m pc Ls (v :: .ref a :: rest)) := by
  subst hp
  intro T locs vm0 k0 X H
  obtain ⟨T', h', X', eT, W, st⟩ := putF X G.1 H.2.2.1 (host := "") (G.own H.1) (Or.inl w) via H.2.2.2.1 F E (L.imp id fun q => ⟨q.1, q.2.1, G.2.2.2.2.2.1.trans q.2.2⟩) wi hty hn hf (g := mkF m pc Ls (v :: .ref a :: rest)) rfl rfl (G.hb hd)
  obtain ⟨s₂, o, q, r⟩ := K h' W T' _ vm0 k0 X' (H.wr W ha eT)
  exact ⟨s₂, o, st _ q, r⟩
theorem castOk (G : Gd p s m meth c y bytes maxL ret Z a0 EL) {idx : Nat} {C : String} {a : Addr} (hd : decode bytes pc = .ok (.checkcast idx, 3)) (w : (Jvm.Cond.classLink y.cls idx C).before a0 Z = true) (F : Ins Z h a C true) (hp : pc + 3 = pc') (K : Run p l e R s m args below meth c Z wd ro EL n0 ow0 Q h ow cells slots (mkF m pc' Ls (.ref a :: rest))) : Run p l e R s m args below meth c Z wd ro EL n0 ow0 Q h ow cells slots (mkF m pc Ls (.ref a :: rest)) := by
  subst hp
  exact Run.mov (fun T locs vm0 k0 X H => castY X G.1 H.2.2.1 (G.own H.1) w H.2.2.2.1 F rfl rfl (G.hb hd)) K
theorem instYes (G : Gd p s m meth c y bytes maxL ret Z a0 EL) {idx : Nat} {C : String} {a : Addr} (hd : decode bytes pc = .ok (.instanceof idx, 3)) (w : (Jvm.Cond.classLink y.cls idx C).before a0 Z = true) (F : Ins Z h a C true) (hp : pc + 3 = pc') (K : Run p l e R s m args below meth c Z wd ro EL n0 ow0 Q h ow cells slots (mkF m pc' Ls (.int 1 :: rest))) : Run p l e R s m args below meth c Z wd ro EL n0 ow0 Q h ow cells slots (mkF m pc Ls (.ref a :: rest)) := by
  subst hp
  exact Run.mov (fun T locs vm0 k0 X H => instY X G.1 H.2.2.1 (G.own H.1) w H.2.2.2.1 F rfl rfl (G.hb hd)) K
theorem instNo (G : Gd p s m meth c y bytes maxL ret Z a0 EL) {idx : Nat} {C D : String} {a : Addr} (hd : decode bytes pc = .ok (.instanceof idx, 3)) (w : (Jvm.Cond.classLink y.cls idx C).before a0 Z = true) (F : Ins Z h a C false) (E : Exa Z h a D) (hp : pc + 3 = pc') (K : Run p l e R s m args below meth c Z wd ro EL n0 ow0 Q h ow cells slots (mkF m pc' Ls (.int 0 :: rest))) : Run p l e R s m args below meth c Z wd ro EL n0 ow0 Q h ow cells slots (mkF m pc Ls (.ref a :: rest)) := by
  subst hp
  exact Run.mov (fun T locs vm0 k0 X H => instNAt X G.1 H.2.2.1 (G.own H.1) w H.2.2.2.1 F E rfl rfl (G.hb hd)) K
theorem arrlen (G : Gd p s m meth c y bytes maxL ret Z a0 EL) {a : Addr} {cl : Cell} {ty : FieldType} (hd : decode bytes pc = .ok (.arraylength, 1)) (A : Arr Z h a cl ty) (hp : pc + 1 = pc') (K : Run p l e R s m args below meth c Z wd ro EL n0 ow0 Q h ow cells slots (mkF m pc' Ls (.int cl.slots.size.toInt32 :: rest))) : Run p l e R s m args below meth c Z wd ro EL n0 ow0 Q h ow cells slots (mkF m pc Ls (.ref a :: rest)) := by
  subst hp
  exact Run.stp (fun T locs vm0 k0 X H t k => X.arraylength G.1 (H.cell A) (H.arr A) (g := mkF m pc Ls (.ref a :: rest)) rfl rfl (G.hb hd) t k) K
theorem caload (G : Gd p s m meth c y bytes maxL ret Z a0 EL) {a : Addr} {cl : Cell} {j : Int32} {v : Value} (hd : decode bytes pc = .ok (.caload, 1)) (A : Arr Z h a cl .char) (hj : ¬ (j < 0 ∨ cl.slots.size ≤ j.toNatClampNeg)) (hv : cl.slots[j.toNatClampNeg]? = some v) (hp : pc + 1 = pc') (K : Run p l e R s m args below meth c Z wd ro EL n0 ow0 Q h ow cells slots (mkF m pc' Ls (v :: rest))) : Run p l e R s m args below meth c Z wd ro EL n0 ow0 Q h ow cells slots (mkF m pc Ls (.int j :: .ref a :: rest)) := by
  subst hp
  exact Run.stp (fun T locs vm0 k0 X H t k => X.caload G.1 (H.cell A) (H.arr A) A.2.2 hj hv (g := mkF m pc Ls (.int j :: .ref a :: rest)) rfl rfl (G.hb hd) t k) K
theorem baload (G : Gd p s m meth c y bytes maxL ret Z a0 EL) {a : Addr} {cl : Cell} {j : Int32} {v : Value} (hd : decode bytes pc = .ok (.baload, 1)) (A : Arr Z h a cl .byte) (hj : ¬ (j < 0 ∨ cl.slots.size ≤ j.toNatClampNeg)) (hv : cl.slots[j.toNatClampNeg]? = some v) (hp : pc + 1 = pc') (K : Run p l e R s m args below meth c Z wd ro EL n0 ow0 Q h ow cells slots (mkF m pc' Ls (v :: rest))) : Run p l e R s m args below meth c Z wd ro EL n0 ow0 Q h ow cells slots (mkF m pc Ls (.int j :: .ref a :: rest)) := by
  subst hp
  exact Run.stp (fun T locs vm0 k0 X H t k => X.baloadBytes G.1 (H.cell A) (H.arr A) A.2.2 hj hv (g := mkF m pc Ls (.int j :: .ref a :: rest)) rfl rfl (G.hb hd) t k) K
theorem iaload (G : Gd p s m meth c y bytes maxL ret Z a0 EL) {a : Addr} {cl : Cell} {j : Int32} {v : Value} (hd : decode bytes pc = .ok (.iaload, 1)) (A : Arr Z h a cl .int) (hj : ¬ (j < 0 ∨ cl.slots.size ≤ j.toNatClampNeg)) (hv : cl.slots[j.toNatClampNeg]? = some v) (hp : pc + 1 = pc') (K : Run p l e R s m args below meth c Z wd ro EL n0 ow0 Q h ow cells slots (mkF m pc' Ls (v :: rest))) : Run p l e R s m args below meth c Z wd ro EL n0 ow0 Q h ow cells slots (mkF m pc Ls (.int j :: .ref a :: rest)) := by
  subst hp
  exact Run.stp (fun T locs vm0 k0 X H t k => X.iaload G.1 (H.cell A) (H.arr A) A.2.2 hj hv (g := mkF m pc Ls (.int j :: .ref a :: rest)) rfl rfl (G.hb hd) t k) K
theorem aaload (G : Gd p s m meth c y bytes maxL ret Z a0 EL) {a : Addr} {cl : Cell} {j : Int32} {v : Value} {ty : FieldType} (hd : decode bytes pc = .ok (.aaload, 1)) (A : Arr Z h a cl ty) (hty : ty.isReference = true) (hj : ¬ (j < 0 ∨ cl.slots.size ≤ j.toNatClampNeg)) (hv : cl.slots[j.toNatClampNeg]? = some v) (hp : pc + 1 = pc') (K : Run p l e R s m args below meth c Z wd ro EL n0 ow0 Q h ow cells slots (mkF m pc' Ls (v :: rest))) : Run p l e R s m args below meth c Z wd ro EL n0 ow0 Q h ow cells slots (mkF m pc Ls (.int j :: .ref a :: rest)) := by
  subst hp
  exact Run.stp (fun T locs vm0 k0 X H t k => X.aaload G.1 (H.cell A) (H.arr A) hty A.2.2 hj hv (g := mkF m pc Ls (.int j :: .ref a :: rest)) rfl rfl (G.hb hd) t k) K
theorem castore (G : Gd p s m meth c y bytes maxL ret Z a0 EL) {a : Addr} {cl : Cell} {j x : Int32} (hd : decode bytes pc = .ok (.castore, 1)) (A : Arr Z h a cl .char) (hj : ¬ (j < 0 ∨ cl.slots.size ≤ j.toNatClampNeg)) (ha : a ∈ ow) (hp : pc + 1 = pc') (K : ∀ h', Wr h h' a j.toNatClampNeg (.int (nar .char x)) → Run p l e R s m args below meth c Z wd ro EL n0 ow0 Q h' ow cells slots (mkF m pc' Ls rest)) : Run p l e R s m args below meth c Z wd ro EL n0 ow0 Q h ow cells slots (mkF m pc Ls (.int x :: .int j :: .ref a :: rest)) := by
  subst hp
  intro T locs vm0 k0 X H
  obtain ⟨T', h', X', eT, W, st⟩ := stC X G.1 H.2.2.1 H.2.2.2.1 A hj (g := mkF m pc Ls (.int x :: .int j :: .ref a :: rest)) rfl rfl (G.hb hd)
  obtain ⟨s₂, o, q, r⟩ := K h' W T' _ vm0 k0 X' (H.wr W ha eT)
  exact ⟨s₂, o, st _ q, r⟩
theorem bastore (G : Gd p s m meth c y bytes maxL ret Z a0 EL) {a : Addr} {cl : Cell} {j x : Int32} (hd : decode bytes pc = .ok (.bastore, 1)) (A : Arr Z h a cl .byte) (hj : ¬ (j < 0 ∨ cl.slots.size ≤ j.toNatClampNeg)) (ha : a ∈ ow) (hp : pc + 1 = pc') (K : ∀ h', Wr h h' a j.toNatClampNeg (.int (nar .byte x)) → Run p l e R s m args below meth c Z wd ro EL n0 ow0 Q h' ow cells slots (mkF m pc' Ls rest)) : Run p l e R s m args below meth c Z wd ro EL n0 ow0 Q h ow cells slots (mkF m pc Ls (.int x :: .int j :: .ref a :: rest)) := by
  subst hp
  intro T locs vm0 k0 X H
  obtain ⟨T', h', X', eT, W, st⟩ := stB X G.1 H.2.2.1 H.2.2.2.1 A hj (g := mkF m pc Ls (.int x :: .int j :: .ref a :: rest)) rfl rfl (G.hb hd)
  obtain ⟨s₂, o, q, r⟩ := K h' W T' _ vm0 k0 X' (H.wr W ha eT)
  exact ⟨s₂, o, st _ q, r⟩
theorem newarr (G : Gd p s m meth c y bytes maxL ret Z a0 EL) {aty : ArrayType} {n : Int32} {cap : Nat} (hd : decode bytes pc = .ok (.newarray aty, 2)) (w : (Jvm.Cond.arrayClass (newarray.typeOf aty)).before a0 Z = true) (hn : ¬ n < 0) (hcap : n.toNatClampNeg ≤ cap) (hb : cap * 8 ≤ 536870912) (hc : cells + 1 ≤ R.cells) (hl : slots + cap ≤ R.slots) (hc' : cells + 1 = cells') (hs' : slots + cap = slots') (hp : pc + 2 = pc')
    (K : ∀ (h' : Heap) (cA : ClassId) (a : Addr), a = h.size → Ext h h' → Arr Z h' a (newA cA (newarray.typeOf aty) n) (newarray.typeOf aty) → Run p l e R s m args below meth c Z wd ro EL n0 ow0 Q h' (a :: ow) cells' slots' (mkF m pc' Ls (.ref a :: rest))) : Run p l e R s m args below meth c Z wd ro EL n0 ow0 Q h ow cells slots (mkF m pc Ls (.int n :: rest)) := by
  subst hp hc' hs'
  intro T locs vm0 k0 X H
  obtain ⟨T', h', cA, X', eT, E, A, st⟩ := newP X G.1 H.2.2.1 w H.2.2.2.1 (g := mkF m pc Ls (.int n :: rest)) rfl (G.hb hd) rfl hn hcap hb hc hl
  obtain ⟨s₂, o, q, r⟩ := K h' cA h.size rfl E A T' _ vm0 k0 X' (H.ext E A.lt eT)
  exact ⟨s₂, o, st _ q, r⟩
theorem newobj (G : Gd p s m meth c y bytes maxL ret Z a0 EL) {idx n : Nat} {C : String} (hd : decode bytes pc = .ok (.new idx, 3)) (w : (Jvm.Cond.classLink y.cls idx C).before a0 Z = true) (wi : (Jvm.Cond.instantiable C n).before a0 Z = true) (wz : (Jvm.Cond.initialized C).before a0 Z = true) (hc : cells + 1 ≤ R.cells) (hl : slots + n ≤ R.slots) (hc' : cells + 1 = cells') (hs' : slots + n = slots') (hp : pc + 3 = pc')
    (K : ∀ (h' : Heap) (a : Addr), a = h.size → Ext h h' → Exa Z h' a C → (∀ {O nm d : String} {ty : FieldType}, Laid Z a0 C O nm d → parseFieldDescriptor d = some ty → Fld Z h' a O nm d (defaultValue ty)) → Run p l e R s m args below meth c Z wd ro EL n0 ow0 Q h' (a :: ow) cells' slots' (mkF m pc' Ls (.ref a :: st))) : Run p l e R s m args below meth c Z wd ro EL n0 ow0 Q h ow cells slots (mkF m pc Ls st) := by
  subst hp hc' hs'
  intro T locs vm0 k0 X H
  obtain ⟨T', h', X', eT, E, A, D, -, st⟩ := newO X G.1 H.2.2.1 (G.own H.1) w wi wz H.2.2.2.1 (g := mkF m pc Ls st) rfl (G.hb hd) hc hl
  obtain ⟨s₂, o, q, r⟩ := K h' h.size rfl E A D T' _ vm0 k0 X' (H.ext E A.lt eT)
  exact ⟨s₂, o, st _ q, r⟩
theorem initObj (G : Gd p s m meth c y bytes maxL ret Z a0 EL) {idx : Nat} {a : Addr} {W : Nat} (hd : decode bytes pc = .ok (.invokespecial idx, 3)) (w1 : (Jvm.Cond.methodLink y.cls idx Lib.objectInit).before a0 Z = true) (w2 : (Jvm.Cond.instanceMethod Lib.objectInit).before a0 Z = true) (w3 : (Jvm.Cond.code Lib.objectInit ⟨#[0xb1]⟩ 1 none).before a0 Z = true) (hsz : Ls.size = maxL) (hf : 1 ≤ R.frames) (hW : (rest.map fun v => v.category).sum ≤ W) (hl : W + 12 ≤ R.locals) (hp : pc + 3 = pc') (K : Run p l e R s m args below meth c Z wd ro EL n0 ow0 Q h ow cells slots (mkF m pc' Ls rest)) : Run p l e R s m args below meth c Z wd ro EL n0 ow0 Q h ow cells slots (mkF m pc Ls (.ref a :: rest)) := by
  subst hp
  exact Run.mov (fun T locs vm0 k0 X H => initO X G.1 H.2.2.1 (G.own H.1) w1 w2 w3 H.2.2.2.1 rfl (hsz.trans G.2.2.1.symm) rfl (G.hb hd) hf (by show 2 * 0 + _ ≤ W; omega) hl) K
theorem instNull (G : Gd p s m meth c y bytes maxL ret Z a0 EL) {idx : Nat} (hd : decode bytes pc = .ok (.instanceof idx, 3)) (hp : pc + 3 = pc') (K : Run p l e R s m args below meth c Z wd ro EL n0 ow0 Q h ow cells slots (mkF m pc' Ls (.int 0 :: rest))) : Run p l e R s m args below meth c Z wd ro EL n0 ow0 Q h ow cells slots (mkF m pc Ls (.null :: rest)) := by
  subst hp
  exact Run.stp (fun T locs vm0 k0 X H t k => X.instanceofNull G.1 (g := mkF m pc Ls (.null :: rest)) rfl rfl (G.hb hd) t k) K
theorem cloneArr (G : Gd p s m meth c y bytes maxL ret Z a0 EL) {idx cap W : Nat} {ad : String} {a : Addr} {cl : Cell} {ty : FieldType} (hd : decode bytes pc = .ok (.invokevirtual idx, 3)) (w1 : (Jvm.Cond.methodLink y.cls idx ⟨ad, "clone", "()Ljava/lang/Object;"⟩).before a0 Z = true) (w2 : (Jvm.Cond.sameMethod ad "java/lang/Object" "clone" "()Ljava/lang/Object;").before a0 Z = true) (w3 : (Jvm.Cond.native ⟨"java/lang/Object", "clone", "()Ljava/lang/Object;"⟩).before a0 Z = true) (w4 : (Jvm.Cond.instanceMethod ⟨"java/lang/Object", "clone", "()Ljava/lang/Object;"⟩).before a0 Z = true) (w5 : (Jvm.Cond.selects ad ⟨ad, "clone", "()Ljava/lang/Object;"⟩ ⟨"java/lang/Object", "clone", "()Ljava/lang/Object;"⟩).before a0 Z = true) (w6 : (Jvm.Cond.castable ad "java/lang/Cloneable").before a0 Z = true)
    (A : Arr Z h a cl ty) (E : Exa Z h a ad) (F : FitC Z cl) (hsz : Ls.size = maxL) (hf : 1 ≤ R.frames) (hW : (rest.map fun v => v.category).sum ≤ W) (hl : W + 14 ≤ R.locals) (hcap : cl.slots.size ≤ cap) (hc : cells + 1 ≤ R.cells) (hsl : slots + cap ≤ R.slots) (hc' : cells + 1 = cells') (hs' : slots + cap = slots') (hp : pc + 3 = pc')
    (K : ∀ (h' : Heap) (a' : Addr), a' = h.size → Ext h h' → Arr Z h' a' (cloneOf cl) ty → Exa Z h' a' ad → Run p l e R s m args below meth c Z wd ro EL n0 ow0 Q h' (a' :: ow) cells' slots' (mkF m pc' Ls (.ref a' :: rest))) : Run p l e R s m args below meth c Z wd ro EL n0 ow0 Q h ow cells slots (mkF m pc Ls (.ref a :: rest)) := by
  subst hp hc' hs'
  intro T locs vm0 k0 X H
  obtain ⟨T', h', X', eT, Ex, A', E', st⟩ := cloneA X G.1 H.2.2.1 (G.own H.1) w1 w2 w3 w4 w5 w6 H.2.2.2.1 A E F (g := mkF m pc Ls (.ref a :: rest)) rfl (hsz.trans G.2.2.1.symm) rfl (G.hb hd) hf (W := W) (by show 2 * 0 + _ ≤ W; omega) hl hcap hc hsl
  obtain ⟨s₂, o, q, r⟩ := K h' h.size rfl Ex A' E' T' _ vm0 k0 X' (H.ext Ex A'.lt eT)
  exact ⟨s₂, o, st _ q, r⟩
theorem ldcStr (G : Gd p s m meth c y bytes maxL ret Z a0 EL) {idx n : Nat} {text : String} {vs : List Value} {z : Int32} (hd : decode bytes pc = .ok (.ldc idx, 2)) (hwd : wd = true) (w : (Jvm.Cond.stringLink y.cls idx text).before a0 Z = true) (wS : ∀ a ∈ Bundle.stringAtoms, a.before a0 Z = true) (hmem : (y.cls, idx) ∈ EL)
    (ht : (∀ c ∈ text.toList, c.toNat < 256) ∧ text.toList.map (fun c => Value.int (Jvm.Lit.byteI c.toNat.toUInt16)) = vs) (hz : ¬ z < 0) (hl : z.toNatClampNeg = vs.length) (hn : 4 * text.toList.length ≤ n) (hbig : n ≤ 536870912) (hc : cells + 2 ≤ R.cells) (hl' : slots + (n + 4) ≤ R.slots) (hc' : cells + 2 = cells') (hs' : slots + (n + 4) = slots') (hp : pc + 2 = pc')
    (K : ∀ (a b : Addr) (k : ClassId) (h' : Heap), Ext h h' → Exa Z h' a "java/lang/String" → Fld Z h' a "java/lang/String" "coder" "B" (.int 0) → Fld Z h' a "java/lang/String" "value" "[B" (.ref b) → Arv Z h' b k .byte z vs (.int 0) → (∀ x ∈ ow, x ≠ a ∧ x ≠ b) → Run p l e R s m args below meth c Z wd ro EL n0 ow0 Q h' ow cells' slots' (mkF m pc' Ls (.ref a :: st))) : Run p l e R s m args below meth c Z wd ro EL n0 ow0 Q h ow cells slots (mkF m pc Ls st) := by
  subst hp hc' hs'
  intro T locs vm0 k0 X H
  obtain ⟨i1, i2, i3, i4, i5, i6, i7, i8, i9, i10⟩ := H
  obtain ⟨a, T', h', k1, b, k, X', eT, E, hS, hk, hW, -, q1, q2, q3, q4, -, -, hC, -, hne, st⟩ := ldcCH X G.1 i3 (G.own i1) w wS i4 i1 i2 G.2.2.2.2.2.2.2 hmem i6.1 ht hz hl (g := mkF m pc Ls st) rfl (G.hb hd) hn hbig hc hl'
  have hsafe : ∀ x ∈ ow, Safe Z EL T'.vm h' x := fun x hx => hC.safe (i9 x hx).2.1 (i9 x hx).1
  obtain ⟨s₂, o, q, r⟩ := K a b k h' E q1 q2 q3 q4 (fun x hx => hne x (hsafe x hx)) T' locs T'.vm k1 X' ⟨hS, hk, hW, eT, i5, i6.trans hC, i7.ext E, i8.ext E, fun x hx => ⟨hsafe x hx, Nat.lt_of_lt_of_le (i9 x hx).2.1 E.1, (i9 x hx).2.2⟩, Or.inl hwd⟩
  exact ⟨s₂, o, st _ q, r⟩
theorem ldcOpaque (G : Gd p s m meth c y bytes maxL ret Z a0 EL) {idx n : Nat} {text : String} (hd : decode bytes pc = .ok (.ldc idx, 2)) (hwd : wd = true) (w : (Jvm.Cond.stringLink y.cls idx text).before a0 Z = true) (wS : ∀ a ∈ Bundle.stringAtoms, a.before a0 Z = true)
    (hn : 4 * text.toList.length ≤ n) (hbig : n ≤ 536870912) (hc : cells + 2 ≤ R.cells) (hl' : slots + (n + 4) ≤ R.slots) (hc' : cells + 2 = cells') (hs' : slots + (n + 4) = slots') (hp : pc + 2 = pc')
    (K : ∀ (a : Addr) (h' : Heap), Ext h h' → Run p l e R s m args below meth c Z wd ro EL n0 ow0 Q h' ow cells' slots' (mkF m pc' Ls (.ref a :: st))) : Run p l e R s m args below meth c Z wd ro EL n0 ow0 Q h ow cells slots (mkF m pc Ls st) := by
  subst hp hc' hs'
  intro T locs vm0 k0 X H
  obtain ⟨i1, i2, i3, i4, i5, i6, i7, i8, i9, i10⟩ := H
  obtain ⟨a, T', h', k1, X', eT, E, hS, hk, hW, -, hC, -, st⟩ := ldcOH X G.1 i3 (G.own i1) w wS i4 i1 i2 G.2.2.2.2.2.2.2 i6.1 (g := mkF m pc Ls st) rfl (G.hb hd) hn hbig hc hl'
  have hsafe : ∀ x ∈ ow, Safe Z EL T'.vm h' x := fun x hx => hC.safe (i9 x hx).2.1 (i9 x hx).1
  obtain ⟨s₂, o, q, r⟩ := K a h' E T' locs T'.vm k1 X' ⟨hS, hk, hW, eT, i5, i6.trans hC, i7.ext E, i8.ext E, fun x hx => ⟨hsafe x hx, Nat.lt_of_lt_of_le (i9 x hx).2.1 E.1, (i9 x hx).2.2⟩, Or.inl hwd⟩
  exact ⟨s₂, o, st _ q, r⟩
theorem fin (G : Gd p s m meth c y bytes maxL ret Z a0 EL) {v : Option Value} {g : JFrame} (hro : ro = true → ∀ d, v = some (.ref d) → d ∈ ow ∧ d ∉ ow0) (hv : ret = none → v = none) (hc : cells ≤ R.cells) (hs : slots ≤ R.slots) (q : Q v h)
    (stp : ∀ (T : State) (locs : List Loc) (vm0 : Vm) (k0 : Nat) (fs : List Frame), Stand p l e R (s.setVm vm0) m args below meth c T locs cells slots → (∀ (f : JFrame) (acts : List Action), f.method = m → f.locked = none → f.entered = [] → (doReturn e (T.setTop f) acts v).1 = T.setFrames fs) → Steps p.tables e below (T.setTop g) (T.setFrames fs)) : Run p l e R s m args below meth c Z wd ro EL n0 ow0 Q h ow cells slots g := by
  intro T locs vm0 k0 X H
  obtain ⟨i1, i2, i3, i4, i5, i6, i7, i8, i9, i10⟩ := H
  obtain ⟨fs, hr, hrun, hended, hW⟩ := X.leaveW i1 (by rw [i4]; exact i2) (v := v) (fun h => hv (G.2.2.2.2.1.symm.trans h)) G.2.2.2.2.2.2.1
  have hT : (T.setFrames fs).heap = h := i4
  have hA := CHv.at X i3 G.2.2.2.2.2.2.2 i6.1
  refine ⟨_, _, stp T locs vm0 k0 fs X hr, hrun, hended, v, locs, rfl, by rw [hT]; exact q, i5, by rw [hT]; exact i6.trans hA, by rw [hT]; exact i7, ⟨hW.1, hW.2.1, hW.2.2.1, hW.2.2.2.mono hc hs⟩, i10.imp id (fun w => State.WarmedH.trans (t := s.setVm vm0) w X.warmed), fun hr d hd => ?_⟩
  obtain ⟨q1, q2⟩ := hro hr d hd
  obtain ⟨w1, w2, w3, w4⟩ := i9 d q1
  rw [hT]
  exact ⟨hA.safe w2 w1, w2, w3, w4.elim (fun z => absurd z q2) id⟩
theorem retInt (G : Gd p s m meth c y bytes maxL ret Z a0 EL) {z : Int32} (hd : decode bytes pc = .ok (.ireturn, 1)) (hret : ret = some .int) (hc : cells ≤ R.cells) (hs : slots ≤ R.slots) (q : Q (some (.int z)) h) : Run p l e R s m args below meth c Z wd ro EL n0 ow0 Q h ow cells slots (mkF m pc Ls (.int z :: rest)) :=
  fin G (fun _ d z => by cases z) (fun h => by rw [hret] at h; cases h) hc hs q fun T locs vm0 k0 fs X hr => retOut X G.1 (G.2.2.2.2.1.trans hret) rfl (Or.inl ⟨rfl, Or.inl rfl, z, rfl⟩) (G.hb hd) hr
theorem retNar (G : Gd p s m meth c y bytes maxL ret Z a0 EL) {z : Int32} {t : FieldType} (hd : decode bytes pc = .ok (.ireturn, 1)) (hret : ret = some t) (ht : t = .boolean ∨ t = .byte ∨ t = .char ∨ t = .short) (hc : cells ≤ R.cells) (hs : slots ≤ R.slots) (q : Q (some (.int (nar t z))) h) : Run p l e R s m args below meth c Z wd ro EL n0 ow0 Q h ow cells slots (mkF m pc Ls (.int z :: rest)) :=
  fin G (fun _ d z => by cases z) (fun h => by rw [hret] at h; cases h) hc hs q fun T locs vm0 k0 fs X hr => retN X G.1 (G.2.2.2.2.1.trans hret) ht (G.hb hd) hr
theorem retRef (G : Gd p s m meth c y bytes maxL ret Z a0 EL) {v : Value} {t : FieldType} (hro : ro = false) (hd : decode bytes pc = .ok (.areturn, 1)) (hret : ret = some t) (ht : t.isReference = true) (hv : v.isRef = true) (hc : cells ≤ R.cells) (hs : slots ≤ R.slots) (q : Q (some v) h) : Run p l e R s m args below meth c Z wd ro EL n0 ow0 Q h ow cells slots (mkF m pc Ls (v :: rest)) :=
  fin G (fun z => by rw [hro] at z; cases z) (fun h => by rw [hret] at h; cases h) hc hs q fun T locs vm0 k0 fs X hr => retOut X G.1 (G.2.2.2.2.1.trans hret) (by cases t <;> cases v <;> first | rfl | (simp [Value.isRef, FieldType.isReference] at hv ht)) (Or.inr (Or.inr (Or.inr (Or.inr ⟨rfl, ht, hv⟩)))) (G.hb hd) hr
theorem retOwn (G : Gd p s m meth c y bytes maxL ret Z a0 EL) {a : Addr} {t : FieldType} (ha : a ∈ ow) (hn : a ∉ ow0) (hd : decode bytes pc = .ok (.areturn, 1)) (hret : ret = some t) (ht : t.isReference = true) (hc : cells ≤ R.cells) (hs : slots ≤ R.slots) (q : Q (some (.ref a)) h) : Run p l e R s m args below meth c Z wd ro EL n0 ow0 Q h ow cells slots (mkF m pc Ls (.ref a :: rest)) :=
  fin G (fun _ d z => by cases z; exact ⟨ha, hn⟩) (fun h => by rw [hret] at h; cases h) hc hs q fun T locs vm0 k0 fs X hr => retOut X G.1 (G.2.2.2.2.1.trans hret) (by cases t <;> first | rfl | (simp [FieldType.isReference] at ht)) (Or.inr (Or.inr (Or.inr (Or.inr ⟨rfl, ht, rfl⟩)))) (G.hb hd) hr
theorem retVoid (G : Gd p s m meth c y bytes maxL ret Z a0 EL) (hd : decode bytes pc = .ok (.return_, 1)) (hret : ret = none) (hc : cells ≤ R.cells) (hs : slots ≤ R.slots) (q : Q none h) : Run p l e R s m args below meth c Z wd ro EL n0 ow0 Q h ow cells slots (mkF m pc Ls []) :=
  fin G (fun _ d z => by cases z) (fun _ => rfl) hc hs q fun T locs vm0 k0 fs X hr => X.returnOut G.1 (G.2.2.2.2.1.trans hret) (G.hb hd) hr
/-- a callee's contract pays the call -/
theorem backG {y' : MethodName} {bytes' : ByteArray} {maxL' : Nat} {ret' : Option FieldType} {rm : Room} {len W : Nat} {as' : Array Value} {owc : List Addr} {Q' : Option Value → Heap → Prop} {ro' : Bool} {vm0 : Vm}
    (C : Con l Z wd ro' EL n0 y' bytes' maxL' ret' rm [] as' h owc Q') (hZ : Z.Warmed39 vm0) (wc : (Jvm.Cond.code y' bytes' maxL' ret').before a0 Z = true) (wz : (Jvm.Cond.initialized y'.cls).before a0 Z = true) (hf : rm.frames + 1 ≤ R.frames) (hl : W + (maxL' + 11) + rm.locals ≤ R.locals) (hEL : EW Z a0 EL) (H : CHv Z EL vm0 h) (hO : Old Z n0 h) (hS : ∀ x ∈ owc, Safe Z EL vm0 h x ∧ x < h.size ∧ n0 ≤ x) :
    BackS l R p e below (s.setVm vm0) args y' len W (fun A a => a = as' ∧ A.U.heap = h ∧ A.cells + rm.cells ≤ R.cells ∧ A.slots + rm.slots ≤ R.slots)
      (fun A _ v B => ∃ L, Q' v B.U.heap ∧ Fr n0 L ∧ Keep h B.U.heap owc ∧ B.locs = A.locs ++ L ∧ B.cells = A.cells + rm.cells ∧ B.slots = A.slots + rm.slots ∧ CHr Z EL vm0 h B.U.vm B.U.heap ∧ (wd = true ∨ (s.setVm vm0).WarmedH B.U.vm) ∧ (ro' = true → ∀ d, v = some (.ref d) → Safe Z EL B.U.vm B.U.heap d ∧ d < B.U.heap.size ∧ n0 ≤ d ∧ h.size ≤ d)) :=
  BackS.of_freeW (bytes := bytes') (maxL := maxL') (ret := ret') (E := fun _ first o t L k n => k = rm.cells ∧ n = rm.slots ∧ (∃ v, o = .returned v ∧ Q' v t.heap) ∧ Fr n0 L ∧ Keep first.heap t.heap owc ∧ CHr Z EL first.vm first.heap t.vm t.heap ∧ (wd = true ∨ first.WarmedH t.vm) ∧ (ro' = true → ∀ v d, o = .returned v → v = some (.ref d) → Safe Z EL t.vm t.heap d ∧ d < t.heap.size ∧ n0 ≤ d ∧ first.heap.size ≤ d)) C hf hl
    (fun m meth c A a Y hp => have hU : Z.Warmed39 A.U.vm := wtrans (s := s.setVm vm0) hZ Y.warmed
      ⟨by show (Cond.and _ .tt).before a A.U = true; rw [Cond.before_and, mv hU wc]; rfl, mv hU wc, mv hU wz, hp.2.2.1, hp.2.2.2⟩)
    (fun m meth c A a g mk Y hp => ⟨hp.1, wtrans (s := s.setVm vm0) hZ Y.warmed, hp.2.1, hO, (CHv.at Y hZ hEL H).1, fun x hx => ⟨(CHv.at Y hZ hEL H).safe (hS x hx).2.1 (hS x hx).1, (hS x hx).2⟩⟩) (fun _ _ _ _ _ _ _ _ _ => trivial)
    (fun _ _ _ _ ⟨v, L, h1, h2, h3, h4, h5, h6, h7, h8⟩ => ⟨L, _, _, h6, rfl, rfl, ⟨v, h1, h2⟩, h3, h5, h4, h7, fun hr w d e1 e2 => h8 hr d (by rw [h1] at e1; cases e1; exact e2)⟩)
    (fun m meth c A a g mk v t L k n Y hp _ _ ⟨e1, e2, ⟨v', e3, e4⟩, e5, e6, e7, e8, e9⟩ => by
      cases e3; subst e1 e2
      have hh : (A.U.calling g mk a).heap = h := hp.2.1
      rw [hh] at e6 e7 e9
      exact ⟨L, e4, e5, e6, rfl, rfl, rfl, (CHv.at Y hZ hEL H).trans e7, e8.imp id (fun w => State.WarmedH.trans (t := A.U) Y.warmed w), fun hr d hd => e9 hr v d rfl hd⟩)
theorem Hid.call {T T' : State} {locs L : List Loc} {vm0 : Vm} {k0 : Nat} {owc : List Addr} (H : Hid s Z wd EL n0 ow0 ow T locs vm0 k0 h) (how : ∀ x ∈ owc, x ∈ ow) (hS : (s.setVm vm0).Since T'.vm T'.heap.size) (N : Fr n0 L) (K : Keep h T'.heap owc) (hC : CHr Z EL vm0 h T'.vm T'.heap) (hw : wd = true ∨ (s.setVm vm0).WarmedH T'.vm) :
    Hid s Z wd EL n0 ow0 ow T' (locs ++ L) T'.vm T'.heap.size T'.heap := by
  obtain ⟨i1, i2, i3, i4, i5, i6, i7, i8, i9, i10⟩ := H
  refine ⟨i1.trans hS (Nat.le_trans i2 K.1), Nat.le_refl _, State.Warmed39.trans (t := s.setVm vm0) i3 hS.1, rfl, i5.app N, i6.trans hC, i7.trans K (fun x hx => (i9 x (how x hx)).2.2.2), i8.keep K (fun x hx => (i9 x (how x hx)).2.2.1), fun x hx => ⟨hC.safe (i9 x hx).2.1 (i9 x hx).1, Nat.lt_of_lt_of_le (i9 x hx).2.1 K.1, (i9 x hx).2.2⟩, ?_⟩
  rcases hw with hw | hw
  · exact Or.inl hw
  · exact i10.imp id fun w => State.WarmedH.trans (t := s.setVm vm0) w hw
theorem Hid.own {T : State} {locs : List Loc} {vm0 : Vm} {k0 : Nat} {d : Addr} (H : Hid s Z wd EL n0 ow0 ow T locs vm0 k0 h) (q : Safe Z EL vm0 h d ∧ d < h.size ∧ n0 ≤ d ∧ (d ∈ ow0 ∨ s.heap.size ≤ d)) : Hid s Z wd EL n0 ow0 (d :: ow) T locs vm0 k0 h := by
  obtain ⟨i1, i2, i3, i4, i5, i6, i7, i8, i9, i10⟩ := H
  refine ⟨i1, i2, i3, i4, i5, i6, i7, i8, fun x hx => ?_, i10⟩
  rcases List.mem_cons.mp hx with rfl | hx
  · exact q
  · exact i9 x hx
theorem callStatic (G : Gd p s m meth c y bytes maxL ret Z a0 EL) {idx : Nat} {y' : MethodName} {bytes' : ByteArray} {maxL' : Nat} {ret' : Option FieldType} {rm : Room} {W : Nat} {argsL : List Value} {owc : List Addr} {Q' : Option Value → Heap → Prop} {ro' : Bool} (hd : decode bytes pc = .ok (.invokestatic idx, 3))
    (w1 : (Jvm.Cond.methodLink y.cls idx y').before a0 Z = true) (w2 : (Jvm.Cond.static y').before a0 Z = true) (w3 : (Jvm.Cond.initialized y'.cls).before a0 Z = true) (w4 : (Jvm.Cond.code y' bytes' maxL' ret').before a0 Z = true) (hy : y'.cls ≠ "java/lang/invoke/MethodHandle" ∧ y'.cls ≠ "java/lang/invoke/VarHandle")
    (C : Con l Z wd ro' EL n0 y' bytes' maxL' ret' rm [] argsL.toArray h owc Q') (hst : st = argsL.reverse ++ rest) (hlen : ∀ sig, parseMethodDescriptor y'.desc = some sig → argsL.length = sig.parameters.length) (hsz : Ls.size = maxL) (hfr : rm.frames + 1 ≤ R.frames) (hW : (rest.map fun v => v.category).sum ≤ W) (hlo : W + (maxL' + 11) + rm.locals ≤ R.locals) (hc : cells + rm.cells ≤ R.cells) (hs : slots + rm.slots ≤ R.slots) (how : ∀ x ∈ owc, x ∈ ow) (hc' : cells + rm.cells = cells') (hs' : slots + rm.slots = slots') (hp : pc + 3 = pc')
    (K : ∀ (v : Option Value) (h' : Heap), Q' v h' → Keep h h' owc → Run p l e R s m args below meth c Z wd ro EL n0 ow0 Q h' ow cells' slots' (mkF m pc' Ls (v.toList ++ rest))) : Run p l e R s m args below meth c Z wd ro EL n0 ow0 Q h ow cells slots (mkF m pc Ls st) := by
  subst hp hst hc' hs'
  intro T locs vm0 k0 X H
  have hZ := H.2.2.1
  obtain ⟨v, vm₁, B, -, X', hS, -, ⟨L, q1, q2, q3, q4, q5, q6, q7, q8, q9⟩, stp⟩ := callSS X G.1 (bytes := bytes') (maxL := maxL') (ret := ret') (G.own H.1) (mv (s := s.setVm vm0) hZ w1) (mv (s := s.setVm vm0) hZ w2) (mv (s := s.setVm vm0) hZ w3) (mv (s := s.setVm vm0) hZ w4) hy
    (backG C hZ w4 w3 hfr hlo G.2.2.2.2.2.2.2 H.2.2.2.2.2.1.1 H.2.2.2.2.2.2.2.1 (fun x hx => ⟨(H.2.2.2.2.2.2.2.2.1 x (how x hx)).1, (H.2.2.2.2.2.2.2.2.1 x (how x hx)).2.1, (H.2.2.2.2.2.2.2.2.1 x (how x hx)).2.2.1⟩)) (g := mkF m pc Ls (argsL.reverse ++ rest)) rfl (hsz.trans G.2.2.1.symm) hlen rfl (by show 2 * 0 + _ ≤ W; omega) (G.hb hd) (fun _ _ => ⟨rfl, H.2.2.2.1, hc, hs⟩)
  obtain ⟨T', Lc, kc, nc⟩ := B
  dsimp only [Pt.U, Pt.locs, Pt.cells, Pt.slots] at X' q1 q3 q4 q5 q6 q7 q8 q9 hS stp
  subst q4 q5 q6
  obtain ⟨s₂, o, q, r⟩ := K v T'.heap q1 q3 T' (locs ++ L) T'.vm T'.heap.size X' (H.call how hS q2 q3 q7 q8)
  exact ⟨s₂, o, stp.trans q, r⟩
theorem callStaticO (G : Gd p s m meth c y bytes maxL ret Z a0 EL) {idx : Nat} {y' : MethodName} {bytes' : ByteArray} {maxL' : Nat} {ret' : Option FieldType} {rm : Room} {W : Nat} {argsL : List Value} {owc : List Addr} {Q' : Option Value → Heap → Prop} (hd : decode bytes pc = .ok (.invokestatic idx, 3))
    (w1 : (Jvm.Cond.methodLink y.cls idx y').before a0 Z = true) (w2 : (Jvm.Cond.static y').before a0 Z = true) (w3 : (Jvm.Cond.initialized y'.cls).before a0 Z = true) (w4 : (Jvm.Cond.code y' bytes' maxL' ret').before a0 Z = true) (hy : y'.cls ≠ "java/lang/invoke/MethodHandle" ∧ y'.cls ≠ "java/lang/invoke/VarHandle")
    (C : Con l Z wd true EL n0 y' bytes' maxL' ret' rm [] argsL.toArray h owc Q') (hst : st = argsL.reverse ++ rest) (hlen : ∀ sig, parseMethodDescriptor y'.desc = some sig → argsL.length = sig.parameters.length) (hsz : Ls.size = maxL) (hfr : rm.frames + 1 ≤ R.frames) (hW : (rest.map fun v => v.category).sum ≤ W) (hlo : W + (maxL' + 11) + rm.locals ≤ R.locals) (hc : cells + rm.cells ≤ R.cells) (hs : slots + rm.slots ≤ R.slots) (how : ∀ x ∈ owc, x ∈ ow) (hc' : cells + rm.cells = cells') (hs' : slots + rm.slots = slots') (hp : pc + 3 = pc')
    (hq : ∀ v h', Q' v h' → ∃ d, v = some (.ref d)) (K : ∀ (d : Addr) (h' : Heap), Q' (some (.ref d)) h' → Keep h h' owc → h.size ≤ d → Run p l e R s m args below meth c Z wd ro EL n0 ow0 Q h' (d :: ow) cells' slots' (mkF m pc' Ls (.ref d :: rest))) : Run p l e R s m args below meth c Z wd ro EL n0 ow0 Q h ow cells slots (mkF m pc Ls st) := by
  subst hp hst hc' hs'
  intro T locs vm0 k0 X H
  have hZ := H.2.2.1
  obtain ⟨v, vm₁, B, -, X', hS, -, ⟨L, q1, q2, q3, q4, q5, q6, q7, q8, q9⟩, stp⟩ := callSS X G.1 (bytes := bytes') (maxL := maxL') (ret := ret') (G.own H.1) (mv (s := s.setVm vm0) hZ w1) (mv (s := s.setVm vm0) hZ w2) (mv (s := s.setVm vm0) hZ w3) (mv (s := s.setVm vm0) hZ w4) hy
    (backG C hZ w4 w3 hfr hlo G.2.2.2.2.2.2.2 H.2.2.2.2.2.1.1 H.2.2.2.2.2.2.2.1 (fun x hx => ⟨(H.2.2.2.2.2.2.2.2.1 x (how x hx)).1, (H.2.2.2.2.2.2.2.2.1 x (how x hx)).2.1, (H.2.2.2.2.2.2.2.2.1 x (how x hx)).2.2.1⟩)) (g := mkF m pc Ls (argsL.reverse ++ rest)) rfl (hsz.trans G.2.2.1.symm) hlen rfl (by show 2 * 0 + _ ≤ W; omega) (G.hb hd) (fun _ _ => ⟨rfl, H.2.2.2.1, hc, hs⟩)
  obtain ⟨T', Lc, kc, nc⟩ := B
  dsimp only [Pt.U, Pt.locs, Pt.cells, Pt.slots] at X' q1 q3 q4 q5 q6 q7 q8 q9 hS stp
  subst q4 q5 q6
  obtain ⟨d, rfl⟩ := hq _ _ q1
  obtain ⟨o1, o2, o3, o4⟩ := q9 rfl d rfl
  obtain ⟨s₂, o, q, r⟩ := K d T'.heap q1 q3 o4 T' (locs ++ L) T'.vm T'.heap.size X' ((H.call how hS q2 q3 q7 q8).own ⟨o1, o2, o3, Or.inr (Nat.le_trans H.2.2.2.2.2.2.1.1 o4)⟩)
  exact ⟨s₂, o, stp.trans q, r⟩
theorem callSpecial (G : Gd p s m meth c y bytes maxL ret Z a0 EL) {idx : Nat} {y' : MethodName} {bytes' : ByteArray} {maxL' : Nat} {rm : Room} {W : Nat} {a : Addr} {argsL : List Value} {owc : List Addr} {Q' : Option Value → Heap → Prop} {ro' : Bool} (hd : decode bytes pc = .ok (.invokespecial idx, 3)) (hn : y'.name = "<init>")
    (w1 : (Jvm.Cond.methodLink y.cls idx y').before a0 Z = true) (w2 : (Jvm.Cond.instanceMethod y').before a0 Z = true) (w3 : (Jvm.Cond.initialized y'.cls).before a0 Z = true) (w4 : (Jvm.Cond.code y' bytes' maxL' none).before a0 Z = true) (hy : y'.cls ≠ "java/lang/invoke/MethodHandle" ∧ y'.cls ≠ "java/lang/invoke/VarHandle")
    (C : Con l Z wd ro' EL n0 y' bytes' maxL' none rm [] (.ref a :: argsL).toArray h owc Q') (hst : st = argsL.reverse ++ .ref a :: rest) (hlen : ∀ sig, parseMethodDescriptor y'.desc = some sig → argsL.length = sig.parameters.length) (hsz : Ls.size = maxL) (hfr : rm.frames + 1 ≤ R.frames) (hW : (rest.map fun v => v.category).sum ≤ W) (hlo : W + (maxL' + 11) + rm.locals ≤ R.locals) (hc : cells + rm.cells ≤ R.cells) (hs : slots + rm.slots ≤ R.slots) (how : ∀ x ∈ owc, x ∈ ow) (hc' : cells + rm.cells = cells') (hs' : slots + rm.slots = slots') (hp : pc + 3 = pc')
    (K : ∀ (v : Option Value) (h' : Heap), Q' v h' → Keep h h' owc → Run p l e R s m args below meth c Z wd ro EL n0 ow0 Q h' ow cells' slots' (mkF m pc' Ls (v.toList ++ rest))) : Run p l e R s m args below meth c Z wd ro EL n0 ow0 Q h ow cells slots (mkF m pc Ls st) := by
  subst hp hst hc' hs'
  intro T locs vm0 k0 X H
  have hZ := H.2.2.1
  obtain ⟨v, vm₁, B, -, X', hS, -, ⟨L, q1, q2, q3, q4, q5, q6, q7, q8, q9⟩, stp⟩ := X.specialBackS G.1 (bytes := bytes') (maxL := maxL') hn (G.own H.1) (mv (s := s.setVm vm0) hZ w1) (mv (s := s.setVm vm0) hZ w2) (mv (s := s.setVm vm0) hZ w4) hy
    (backG C hZ w4 w3 hfr hlo G.2.2.2.2.2.2.2 H.2.2.2.2.2.1.1 H.2.2.2.2.2.2.2.1 (fun x hx => ⟨(H.2.2.2.2.2.2.2.2.1 x (how x hx)).1, (H.2.2.2.2.2.2.2.2.1 x (how x hx)).2.1, (H.2.2.2.2.2.2.2.2.1 x (how x hx)).2.2.1⟩)) (g := mkF m pc Ls (argsL.reverse ++ .ref a :: rest)) rfl (hsz.trans G.2.2.1.symm) (Steps.refl _) hlen rfl (by show 2 * 0 + _ ≤ W; omega) (G.hb hd) (fun _ _ => ⟨rfl, H.2.2.2.1, hc, hs⟩)
  obtain ⟨T', Lc, kc, nc⟩ := B
  dsimp only [Pt.U, Pt.locs, Pt.cells, Pt.slots] at X' q1 q3 q4 q5 q6 q7 q8 q9 hS stp
  subst q4 q5 q6
  obtain ⟨s₂, o, q, r⟩ := K v T'.heap q1 q3 T' (locs ++ L) T'.vm T'.heap.size X' (H.call how hS q2 q3 q7 q8)
  exact ⟨s₂, o, stp.trans q, r⟩
theorem callVirtual (G : Gd p s m meth c y bytes maxL ret Z a0 EL) {idx : Nat} {y' z' : MethodName} {D : String} {bytes' : ByteArray} {maxL' : Nat} {ret' : Option FieldType} {rm : Room} {W : Nat} {a : Addr} {argsL : List Value} {owc : List Addr} {Q' : Option Value → Heap → Prop} {ro' : Bool} (hd : decode bytes pc = .ok (.invokevirtual idx, 3))
    (w1 : (Jvm.Cond.methodLink y.cls idx y').before a0 Z = true) (w2 : (Jvm.Cond.declares y').before a0 Z = true) (w3 : (Jvm.Cond.selects D y' z').before a0 Z = true) (hnf : ∀ (s : State), Z.Warmed39 s.vm → NotFace s y') (w4 : (Jvm.Cond.instanceMethod z').before a0 Z = true) (w5 : (Jvm.Cond.initialized z'.cls).before a0 Z = true) (w6 : (Jvm.Cond.code z' bytes' maxL' ret').before a0 Z = true) (hy : y'.cls ≠ "java/lang/invoke/MethodHandle" ∧ y'.cls ≠ "java/lang/invoke/VarHandle")
    (E : Exa Z h a D) (C : Con l Z wd ro' EL n0 z' bytes' maxL' ret' rm [] (.ref a :: argsL).toArray h owc Q') (hst : st = argsL.reverse ++ .ref a :: rest) (hlen : ∀ sig, parseMethodDescriptor y'.desc = some sig → argsL.length = sig.parameters.length) (hsz : Ls.size = maxL) (hfr : rm.frames + 1 ≤ R.frames) (hW : (rest.map fun v => v.category).sum ≤ W) (hlo : W + (maxL' + 11) + rm.locals ≤ R.locals) (hc : cells + rm.cells ≤ R.cells) (hs : slots + rm.slots ≤ R.slots) (how : ∀ x ∈ owc, x ∈ ow) (hc' : cells + rm.cells = cells') (hs' : slots + rm.slots = slots') (hp : pc + 3 = pc')
    (K : ∀ (v : Option Value) (h' : Heap), Q' v h' → Keep h h' owc → Run p l e R s m args below meth c Z wd ro EL n0 ow0 Q h' ow cells' slots' (mkF m pc' Ls (v.toList ++ rest))) : Run p l e R s m args below meth c Z wd ro EL n0 ow0 Q h ow cells slots (mkF m pc Ls st) := by
  subst hp hst hc' hs'
  intro T locs vm0 k0 X H
  have hZ := H.2.2.1
  obtain ⟨cq, kq, r1, -, r3⟩ := isOf (s := s.setVm vm0) (T := T) hZ H.2.2.2.1 E
  obtain ⟨v, vm₁, B, -, X', hS, -, ⟨L, q1, q2, q3, q4, q5, q6, q7, q8, q9⟩, stp⟩ := X.virtualBackS G.1 (G.own H.1) (mv (s := s.setVm vm0) hZ w1) (mv (s := s.setVm vm0) hZ w2) (hnf (s.setVm vm0) hZ) (mv (s := s.setVm vm0) hZ w3) (mv (s := s.setVm vm0) hZ w4) hy
    (backG C hZ w6 w5 hfr hlo G.2.2.2.2.2.2.2 H.2.2.2.2.2.1.1 H.2.2.2.2.2.2.2.1 (fun x hx => ⟨(H.2.2.2.2.2.2.2.2.1 x (how x hx)).1, (H.2.2.2.2.2.2.2.2.1 x (how x hx)).2.1, (H.2.2.2.2.2.2.2.2.1 x (how x hx)).2.2.1⟩)) r1 r3 (g := mkF m pc Ls (argsL.reverse ++ .ref a :: rest)) rfl (hsz.trans G.2.2.1.symm) (Steps.refl _) hlen rfl (by show 2 * 0 + _ ≤ W; omega) (G.hb hd) (fun _ _ => ⟨rfl, H.2.2.2.1, hc, hs⟩)
  obtain ⟨T', Lc, kc, nc⟩ := B
  dsimp only [Pt.U, Pt.locs, Pt.cells, Pt.slots] at X' q1 q3 q4 q5 q6 q7 q8 q9 hS stp
  subst q4 q5 q6
  obtain ⟨s₂, o, q, r⟩ := K v T'.heap q1 q3 T' (locs ++ L) T'.vm T'.heap.size X' (H.call how hS q2 q3 q7 q8)
  exact ⟨s₂, o, stp.trans q, r⟩
theorem callFace (G : Gd p s m meth c y bytes maxL ret Z a0 EL) {idx count : Nat} {y' z' : MethodName} {D : String} {bytes' : ByteArray} {maxL' : Nat} {ret' : Option FieldType} {rm : Room} {W : Nat} {a : Addr} {argsL : List Value} {owc : List Addr} {Q' : Option Value → Heap → Prop} {ro' : Bool} (hd : decode bytes pc = .ok (.invokeinterface idx count, 5))
    (w1 : (Jvm.Cond.methodLink y.cls idx y').before a0 Z = true) (w2 : (Jvm.Cond.declares y').before a0 Z = true) (w3 : (Jvm.Cond.selects D y' z').before a0 Z = true) (wf : ∀ (a1 : Array Value) (s : State), Z.Warmed39 s.vm → (Jvm.Cond.interfaceMethod y'.cls y'.cls y'.name y'.desc).before a1 s = true) (wp : (Jvm.Cond.publicMethod z').before a0 Z = true) (wu : (Jvm.Cond.unhidden D y'.name y'.desc).before a0 Z = true) (wk : (Jvm.Cond.castable D y'.cls).before a0 Z = true) (w4 : (Jvm.Cond.instanceMethod z').before a0 Z = true) (w5 : (Jvm.Cond.initialized z'.cls).before a0 Z = true) (w6 : (Jvm.Cond.code z' bytes' maxL' ret').before a0 Z = true) (hy : y'.cls ≠ "java/lang/invoke/MethodHandle" ∧ y'.cls ≠ "java/lang/invoke/VarHandle")
    (E : Exa Z h a D) (C : Con l Z wd ro' EL n0 z' bytes' maxL' ret' rm [] (.ref a :: argsL).toArray h owc Q') (hst : st = argsL.reverse ++ .ref a :: rest) (hlen : ∀ sig, parseMethodDescriptor y'.desc = some sig → argsL.length = sig.parameters.length) (hsz : Ls.size = maxL) (hfr : rm.frames + 1 ≤ R.frames) (hW : (rest.map fun v => v.category).sum ≤ W) (hlo : W + (maxL' + 11) + rm.locals ≤ R.locals) (hc : cells + rm.cells ≤ R.cells) (hs : slots + rm.slots ≤ R.slots) (how : ∀ x ∈ owc, x ∈ ow) (hc' : cells + rm.cells = cells') (hs' : slots + rm.slots = slots') (hp : pc + 5 = pc')
    (K : ∀ (v : Option Value) (h' : Heap), Q' v h' → Keep h h' owc → Run p l e R s m args below meth c Z wd ro EL n0 ow0 Q h' ow cells' slots' (mkF m pc' Ls (v.toList ++ rest))) : Run p l e R s m args below meth c Z wd ro EL n0 ow0 Q h ow cells slots (mkF m pc Ls st) := by
  subst hp hst hc' hs'
  intro T locs vm0 k0 X H
  have hZ := H.2.2.1
  obtain ⟨cq, kq, r1, r2, r3⟩ := isOf (s := s.setVm vm0) (T := T) hZ H.2.2.2.1 E
  obtain ⟨v, vm₁, B, -, X', hS, -, ⟨L, q1, q2, q3, q4, q5, q6, q7, q8, q9⟩, stp⟩ := X.interfaceBackS G.1 (G.own H.1) (mv (s := s.setVm vm0) hZ w1) (mv (s := s.setVm vm0) hZ w2) (wf _ (s.setVm vm0) hZ) (mv (s := s.setVm vm0) hZ w3) (mv (s := s.setVm vm0) hZ w4) (mv (s := s.setVm vm0) hZ wp) (mv (s := s.setVm vm0) hZ wu) (mv (s := s.setVm vm0) hZ wk) hy
    (backG C hZ w6 w5 hfr hlo G.2.2.2.2.2.2.2 H.2.2.2.2.2.1.1 H.2.2.2.2.2.2.2.1 (fun x hx => ⟨(H.2.2.2.2.2.2.2.2.1 x (how x hx)).1, (H.2.2.2.2.2.2.2.2.1 x (how x hx)).2.1, (H.2.2.2.2.2.2.2.2.1 x (how x hx)).2.2.1⟩)) r1 r2 r3 (g := mkF m pc Ls (argsL.reverse ++ .ref a :: rest)) rfl (hsz.trans G.2.2.1.symm) (Steps.refl _) hlen rfl (by show 2 * 0 + _ ≤ W; omega) (G.hb hd) (fun _ _ => ⟨rfl, H.2.2.2.1, hc, hs⟩)
  obtain ⟨T', Lc, kc, nc⟩ := B
  dsimp only [Pt.U, Pt.locs, Pt.cells, Pt.slots] at X' q1 q3 q4 q5 q6 q7 q8 q9 hS stp
  subst q4 q5 q6
  obtain ⟨s₂, o, q, r⟩ := K v T'.heap q1 q3 T' (locs ++ L) T'.vm T'.heap.size X' (H.call how hS q2 q3 q7 q8)
  exact ⟨s₂, o, stp.trans q, r⟩
theorem nface {y' : MethodName} {D : String} (w3 : (Jvm.Cond.selects D y' y').before a0 Z = true) : ∀ (s : State), Z.Warmed39 s.vm → NotFace s y' := fun s hZ => notFace_of_selects (args := #[]) (mv (s := s) hZ w3)
end
end Jvm.GoKit


namespace Jvm.GoKit
open Jvm Jvm.ClassFile Sem Op Lib Jvm.Free Jvm.Stand Jvm.LawKit Jvm.RoadKit Bundle
theorem wi {L : List Jvm.Cond} {a0 : Array Value} {Z : State} (hw : ∀ d ∈ L, d.before a0 Z = true) (i : Nat) {d : Jvm.Cond} (h : L[i]? = some d) : d.before a0 Z = true := hw _ (List.mem_of_getElem? h)
/-- an array of chars or bytes, with its values -/
def IA (Z : State) (h : Heap) (b : Addr) (ty : FieldType) (xs : List Int32) : Prop := ∃ cl : Cell, Arr Z h b cl ty ∧ cl.slots = (xs.map Value.int).toArray ∧ xs.length < 2 ^ 31
section
variable {p : Program} {l : Launch} {e : Env} {R : Room} {s : State} {m : MethodId} {args : Array Value} {below : List Frame} {meth : Method} {c : Code} {Z : State} {wd ro ro' : Bool} {EL : List (String × Nat)} {n0 : Nat} {ow0 : List Addr} {Q : Option Value → Heap → Prop}
variable {h h' : Heap} {ow : List Addr} {cells slots cells' slots' : Nat} {pc pc' : Nat} {Ls Ls' : Array Slot} {st rest : List Value} {y : MethodName} {bytes : ByteArray} {maxL : Nat} {ret : Option FieldType} {a0 : Array Value}
variable {a b : Addr} {ty : FieldType} {xs : List Int32} {i : Nat} {x x' z j : Int32} {ws : List Addr} {sl : Nat} {v : Value}
theorem IA.lt (A : IA Z h b ty xs) : b < h.size := by obtain ⟨cl, A, -⟩ := A; exact A.lt
theorem IA.ext (A : IA Z h b ty xs) (E : Ext h h') : IA Z h' b ty xs := by obtain ⟨cl, A, r⟩ := A; exact ⟨cl, A.ext E, r⟩
theorem IA.other (A : IA Z h b ty xs) (W : Wr h h' a sl v) (q : b ≠ a) : IA Z h' b ty xs := by obtain ⟨cl, A, r⟩ := A; exact ⟨cl, A.other W q, r⟩
theorem IA.keep (A : IA Z h b ty xs) (K : Keep h h' ws) (q : b ∉ ws) : IA Z h' b ty xs := by obtain ⟨cl, A, r⟩ := A; exact ⟨cl, ⟨K.2.1 b cl A.1 q, A.2⟩, r⟩
theorem IA.new {cA : ClassId} {n : Int32} {k : Nat} (A : Arr Z h a (newA cA ty n) ty) (hk : n.toNatClampNeg = k) (hd : defaultValue ty = .int 0) : IA Z h a ty (List.replicate k 0) := by
  refine ⟨_, A, ?_, ?_⟩
  · subst hk; simp [newA, hd]
  · rw [List.length_replicate, ← hk]
    have := n.toInt_lt
    simp only [Int32.toNatClampNeg]; omega
theorem idx_ok {cl : Cell} {j : Int32} {i n : Nat} (hs : cl.slots.size = n) (hj : j.toNatClampNeg = i) (hj0 : ¬ j < 0) (hi : i < n) : ¬ (j < 0 ∨ cl.slots.size ≤ j.toNatClampNeg) := by
  rintro (q | q)
  · exact hj0 q
  · omega
theorem IA.set (A : IA Z h a ty xs) (W : Wr h h' a i (.int x)) (hi : i < xs.length) : IA Z h' a ty (xs.set i x) := by
  obtain ⟨cl, A, e, hl⟩ := A
  refine ⟨_, A.same W, ?_, by simpa using hl⟩
  simp only [Cell.setSlot]
  rw [e, ← Array.toList_inj]
  simp [List.map_set]
theorem castI (G : Gd p s m meth c y bytes maxL ret Z a0 EL) (hd : decode bytes pc = .ok (.castore, 1)) (A : IA Z h a .char xs) (hj : j.toNatClampNeg = i) (hj0 : ¬ j < 0) (hi : i < xs.length) (hx : nar .char x = x') (ha : a ∈ ow) (hp : pc + 1 = pc')
    (K : ∀ h', Wr h h' a i (.int x') → IA Z h' a .char (xs.set i x') → Run p l e R s m args below meth c Z wd ro EL n0 ow0 Q h' ow cells slots (mkF m pc' Ls rest)) : Run p l e R s m args below meth c Z wd ro EL n0 ow0 Q h ow cells slots (mkF m pc Ls (.int x :: .int j :: .ref a :: rest)) := by
  obtain ⟨cl, A1, e1, hl⟩ := id A
  refine castore G hd A1 (idx_ok (by rw [e1]; simp) hj hj0 hi) ha hp fun h' W => ?_
  rw [hj, hx] at W
  exact K h' W (A.set W hi)
theorem bastI (G : Gd p s m meth c y bytes maxL ret Z a0 EL) (hd : decode bytes pc = .ok (.bastore, 1)) (A : IA Z h a .byte xs) (hj : j.toNatClampNeg = i) (hj0 : ¬ j < 0) (hi : i < xs.length) (hx : nar .byte x = x') (ha : a ∈ ow) (hp : pc + 1 = pc')
    (K : ∀ h', Wr h h' a i (.int x') → IA Z h' a .byte (xs.set i x') → Run p l e R s m args below meth c Z wd ro EL n0 ow0 Q h' ow cells slots (mkF m pc' Ls rest)) : Run p l e R s m args below meth c Z wd ro EL n0 ow0 Q h ow cells slots (mkF m pc Ls (.int x :: .int j :: .ref a :: rest)) := by
  obtain ⟨cl, A1, e1, hl⟩ := id A
  refine bastore G hd A1 (idx_ok (by rw [e1]; simp) hj hj0 hi) ha hp fun h' W => ?_
  rw [hj, hx] at W
  exact K h' W (A.set W hi)
theorem caloadI (G : Gd p s m meth c y bytes maxL ret Z a0 EL) (hd : decode bytes pc = .ok (.caload, 1)) (A : IA Z h a .char xs) (hj : j.toNatClampNeg = i) (hj0 : ¬ j < 0) (hv : xs[i]? = some x) (hp : pc + 1 = pc') (K : Run p l e R s m args below meth c Z wd ro EL n0 ow0 Q h ow cells slots (mkF m pc' Ls (.int x :: rest))) : Run p l e R s m args below meth c Z wd ro EL n0 ow0 Q h ow cells slots (mkF m pc Ls (.int j :: .ref a :: rest)) := by
  obtain ⟨cl, A1, e1, hl⟩ := A
  have hi := (List.getElem?_eq_some_iff.mp hv).1
  exact caload G hd A1 (idx_ok (by rw [e1]; simp) hj hj0 hi) (by rw [e1, hj]; simp [hv]) hp K
theorem baloadI (G : Gd p s m meth c y bytes maxL ret Z a0 EL) (hd : decode bytes pc = .ok (.baload, 1)) (A : IA Z h a .byte xs) (hj : j.toNatClampNeg = i) (hj0 : ¬ j < 0) (hv : xs[i]? = some x) (hp : pc + 1 = pc') (K : Run p l e R s m args below meth c Z wd ro EL n0 ow0 Q h ow cells slots (mkF m pc' Ls (.int x :: rest))) : Run p l e R s m args below meth c Z wd ro EL n0 ow0 Q h ow cells slots (mkF m pc Ls (.int j :: .ref a :: rest)) := by
  obtain ⟨cl, A1, e1, hl⟩ := A
  have hi := (List.getElem?_eq_some_iff.mp hv).1
  exact baload G hd A1 (idx_ok (by rw [e1]; simp) hj hj0 hi) (by rw [e1, hj]; simp [hv]) hp K
theorem arrlenI (G : Gd p s m meth c y bytes maxL ret Z a0 EL) (hd : decode bytes pc = .ok (.arraylength, 1)) (A : IA Z h a ty xs) (hz : xs.length.toInt32 = z) (hp : pc + 1 = pc') (K : Run p l e R s m args below meth c Z wd ro EL n0 ow0 Q h ow cells slots (mkF m pc' Ls (.int z :: rest))) : Run p l e R s m args below meth c Z wd ro EL n0 ow0 Q h ow cells slots (mkF m pc Ls (.ref a :: rest)) := by
  obtain ⟨cl, A1, e1, hl⟩ := A
  refine arrlen G hd A1 hp ?_
  rw [e1, List.size_toArray, List.length_map, hz]
  exact K
theorem newcI (G : Gd p s m meth c y bytes maxL ret Z a0 EL) {n : Int32} {k cap : Nat} (hd : decode bytes pc = .ok (.newarray .char, 2)) (w : (Jvm.Cond.arrayClass .char).before a0 Z = true) (hn : ¬ n < 0) (hk : n.toNatClampNeg = k) (hcap : k ≤ cap) (hb : cap * 8 ≤ 536870912) (hc : cells + 1 ≤ R.cells) (hl : slots + cap ≤ R.slots) (hc' : cells + 1 = cells') (hs' : slots + cap = slots') (hp : pc + 2 = pc')
    (K : ∀ (h' : Heap) (a : Addr), a = h.size → Ext h h' → IA Z h' a .char (List.replicate k 0) → Run p l e R s m args below meth c Z wd ro EL n0 ow0 Q h' (a :: ow) cells' slots' (mkF m pc' Ls (.ref a :: rest))) : Run p l e R s m args below meth c Z wd ro EL n0 ow0 Q h ow cells slots (mkF m pc Ls (.int n :: rest)) :=
  newarr G hd w hn (hk ▸ hcap) hb hc hl hc' hs' hp fun h' cA a g E A => K h' a g E (IA.new A hk rfl)
theorem newbI (G : Gd p s m meth c y bytes maxL ret Z a0 EL) {n : Int32} {k cap : Nat} (hd : decode bytes pc = .ok (.newarray .byte, 2)) (w : (Jvm.Cond.arrayClass .byte).before a0 Z = true) (hn : ¬ n < 0) (hk : n.toNatClampNeg = k) (hcap : k ≤ cap) (hb : cap * 8 ≤ 536870912) (hc : cells + 1 ≤ R.cells) (hl : slots + cap ≤ R.slots) (hc' : cells + 1 = cells') (hs' : slots + cap = slots') (hp : pc + 2 = pc')
    (K : ∀ (h' : Heap) (a : Addr), a = h.size → Ext h h' → IA Z h' a .byte (List.replicate k 0) → Run p l e R s m args below meth c Z wd ro EL n0 ow0 Q h' (a :: ow) cells' slots' (mkF m pc' Ls (.ref a :: rest))) : Run p l e R s m args below meth c Z wd ro EL n0 ow0 Q h ow cells slots (mkF m pc Ls (.int n :: rest)) :=
  newarr G hd w hn (hk ▸ hcap) hb hc hl hc' hs' hp fun h' cA a g E A => K h' a g E (IA.new A hk rfl)
/-- calls of a callee that leaves the heap as it was -/
theorem callStaticP (G : Gd p s m meth c y bytes maxL ret Z a0 EL) {idx : Nat} {y' : MethodName} {bytes' : ByteArray} {maxL' : Nat} {ret' : Option FieldType} {rm : Room} {W : Nat} {argsL : List Value} {r : Option Value} (hd : decode bytes pc = .ok (.invokestatic idx, 3))
    (w1 : (Jvm.Cond.methodLink y.cls idx y').before a0 Z = true) (w2 : (Jvm.Cond.static y').before a0 Z = true) (w3 : (Jvm.Cond.initialized y'.cls).before a0 Z = true) (w4 : (Jvm.Cond.code y' bytes' maxL' ret').before a0 Z = true) (hy : y'.cls ≠ "java/lang/invoke/MethodHandle" ∧ y'.cls ≠ "java/lang/invoke/VarHandle")
    (C : Con l Z wd ro' EL n0 y' bytes' maxL' ret' rm [] argsL.toArray h [] (fun v h' => v = r ∧ h' = h)) (hst : st = argsL.reverse ++ rest) (hlen : ∀ sig, parseMethodDescriptor y'.desc = some sig → argsL.length = sig.parameters.length) (hsz : Ls.size = maxL) (hfr : rm.frames + 1 ≤ R.frames) (hW : (rest.map fun v => v.category).sum ≤ W) (hlo : W + (maxL' + 11) + rm.locals ≤ R.locals) (hc : cells + rm.cells ≤ R.cells) (hs : slots + rm.slots ≤ R.slots) (hc' : cells + rm.cells = cells') (hs' : slots + rm.slots = slots') (hp : pc + 3 = pc')
    (K : Run p l e R s m args below meth c Z wd ro EL n0 ow0 Q h ow cells' slots' (mkF m pc' Ls (r.toList ++ rest))) : Run p l e R s m args below meth c Z wd ro EL n0 ow0 Q h ow cells slots (mkF m pc Ls st) :=
  callStatic G hd w1 w2 w3 w4 hy C hst hlen hsz hfr hW hlo hc hs (fun _ q => nomatch q) hc' hs' hp fun v h' q _ => by rw [q.1, q.2]; exact K
theorem callVirtualP (G : Gd p s m meth c y bytes maxL ret Z a0 EL) {idx : Nat} {y' : MethodName} {D : String} {bytes' : ByteArray} {maxL' : Nat} {ret' : Option FieldType} {rm : Room} {W : Nat} {a : Addr} {argsL : List Value} {r : Option Value} (hd : decode bytes pc = .ok (.invokevirtual idx, 3))
    (w1 : (Jvm.Cond.methodLink y.cls idx y').before a0 Z = true) (w2 : (Jvm.Cond.declares y').before a0 Z = true) (w3 : (Jvm.Cond.selects D y' y').before a0 Z = true) (w4 : (Jvm.Cond.instanceMethod y').before a0 Z = true) (w5 : (Jvm.Cond.initialized y'.cls).before a0 Z = true) (w6 : (Jvm.Cond.code y' bytes' maxL' ret').before a0 Z = true) (hy : y'.cls ≠ "java/lang/invoke/MethodHandle" ∧ y'.cls ≠ "java/lang/invoke/VarHandle")
    (E : Exa Z h a D) (C : Con l Z wd ro' EL n0 y' bytes' maxL' ret' rm [] (.ref a :: argsL).toArray h [] (fun v h' => v = r ∧ h' = h)) (hst : st = argsL.reverse ++ .ref a :: rest) (hlen : ∀ sig, parseMethodDescriptor y'.desc = some sig → argsL.length = sig.parameters.length) (hsz : Ls.size = maxL) (hfr : rm.frames + 1 ≤ R.frames) (hW : (rest.map fun v => v.category).sum ≤ W) (hlo : W + (maxL' + 11) + rm.locals ≤ R.locals) (hc : cells + rm.cells ≤ R.cells) (hs : slots + rm.slots ≤ R.slots) (hc' : cells + rm.cells = cells') (hs' : slots + rm.slots = slots') (hp : pc + 3 = pc')
    (K : Run p l e R s m args below meth c Z wd ro EL n0 ow0 Q h ow cells' slots' (mkF m pc' Ls (r.toList ++ rest))) : Run p l e R s m args below meth c Z wd ro EL n0 ow0 Q h ow cells slots (mkF m pc Ls st) :=
  callVirtual G hd w1 w2 w3 (nface w3) w4 w5 w6 hy E C hst hlen hsz hfr hW hlo hc hs (fun _ q => nomatch q) hc' hs' hp fun v h' q _ => by rw [q.1, q.2]; exact K
theorem callFaceP (G : Gd p s m meth c y bytes maxL ret Z a0 EL) {idx count : Nat} {y' z' : MethodName} {D : String} {bytes' : ByteArray} {maxL' : Nat} {ret' : Option FieldType} {rm : Room} {W : Nat} {a : Addr} {argsL : List Value} {r : Option Value} (hd : decode bytes pc = .ok (.invokeinterface idx count, 5))
    (w1 : (Jvm.Cond.methodLink y.cls idx y').before a0 Z = true) (w2 : (Jvm.Cond.declares y').before a0 Z = true) (w3 : (Jvm.Cond.selects D y' z').before a0 Z = true) (wf : ∀ (a1 : Array Value) (s : State), Z.Warmed39 s.vm → (Jvm.Cond.interfaceMethod y'.cls y'.cls y'.name y'.desc).before a1 s = true) (wp : (Jvm.Cond.publicMethod z').before a0 Z = true) (wu : (Jvm.Cond.unhidden D y'.name y'.desc).before a0 Z = true) (wk : (Jvm.Cond.castable D y'.cls).before a0 Z = true) (w4 : (Jvm.Cond.instanceMethod z').before a0 Z = true) (w5 : (Jvm.Cond.initialized z'.cls).before a0 Z = true) (w6 : (Jvm.Cond.code z' bytes' maxL' ret').before a0 Z = true) (hy : y'.cls ≠ "java/lang/invoke/MethodHandle" ∧ y'.cls ≠ "java/lang/invoke/VarHandle")
    (E : Exa Z h a D) (C : Con l Z wd ro' EL n0 z' bytes' maxL' ret' rm [] (.ref a :: argsL).toArray h [] (fun v h' => v = r ∧ h' = h)) (hst : st = argsL.reverse ++ .ref a :: rest) (hlen : ∀ sig, parseMethodDescriptor y'.desc = some sig → argsL.length = sig.parameters.length) (hsz : Ls.size = maxL) (hfr : rm.frames + 1 ≤ R.frames) (hW : (rest.map fun v => v.category).sum ≤ W) (hlo : W + (maxL' + 11) + rm.locals ≤ R.locals) (hc : cells + rm.cells ≤ R.cells) (hs : slots + rm.slots ≤ R.slots) (hc' : cells + rm.cells = cells') (hs' : slots + rm.slots = slots') (hp : pc + 5 = pc')
    (K : Run p l e R s m args below meth c Z wd ro EL n0 ow0 Q h ow cells' slots' (mkF m pc' Ls (r.toList ++ rest))) : Run p l e R s m args below meth c Z wd ro EL n0 ow0 Q h ow cells slots (mkF m pc Ls st) :=
  callFace G hd w1 w2 w3 wf wp wu wk w4 w5 w6 hy E C hst hlen hsz hfr hW hlo hc hs (fun _ q => nomatch q) hc' hs' hp fun v h' q _ => by rw [q.1, q.2]; exact K
/-- a Latin-1 String of known chars -/
def Lat (Z : State) (h : Heap) (a : Addr) (cs : List Int32) : Prop := Exa Z h a "java/lang/String" ∧ (∃ b, Fld Z h a "java/lang/String" "value" "[B" (.ref b) ∧ Fld Z h a "java/lang/String" "coder" "B" (.int 0) ∧ IA Z h b .byte (cs.map fun c => c.toInt8.toInt32)) ∧ ∀ c ∈ cs, 0 ≤ c.toInt ∧ c.toInt < 256
theorem Lat.ext {cs : List Int32} (S : Lat Z h a cs) (E : Ext h h') : Lat Z h' a cs := by
  obtain ⟨S1, ⟨b, S2, S3, S4⟩, S5⟩ := S
  exact ⟨S1.ext E, ⟨b, S2.ext E, S3.ext E, S4.ext E⟩, S5⟩
theorem Lat.keep {cs : List Int32} (S : Lat Z h a cs) (K : Keep h h' []) : Lat Z h' a cs := by
  obtain ⟨S1, ⟨b, S2, S3, S4⟩, S5⟩ := S
  exact ⟨S1.keep K, ⟨b, S2.keep K nin0, S3.keep K nin0, S4.keep K nin0⟩, S5⟩
theorem Lat.lt {cs : List Int32} (S : Lat Z h a cs) : a < h.size := S.1.lt
theorem IA.ne {n : Nat} {C : String} (A : IA Z h b ty xs) (E : Exa Z h a C) (wi : (Jvm.Cond.instantiable C n).before a0 Z = true) : b ≠ a := by obtain ⟨cl, A, -⟩ := A; exact (ne_arr E wi A).symm
theorem IA.neTy {ty' : FieldType} {ys : List Int32} (A : IA Z h b ty xs) (B : IA Z h a ty' ys) (hn : ty ≠ ty') : b ≠ a := fun q => by
  subst q
  obtain ⟨c1, A, -⟩ := A
  obtain ⟨c2, B, -⟩ := B
  cases A.1.symm.trans B.1
  obtain ⟨-, k1, e1, p1, r1⟩ := A.2.1
  obtain ⟨-, k2, e2, p2, r2⟩ := B.2.1
  cases e1.symm.trans e2
  have := r1.symm.trans r2
  injection this with _ q
  exact hn q
theorem IA.len (A : IA Z h b ty xs) : xs.length < 2 ^ 31 := by obtain ⟨-, -, -, h⟩ := A; exact h
theorem Lat.wrI {cs : List Int32} {n : Nat} (S : Lat Z h a cs) (W : Wr h h' b sl v) (A : IA Z h b ty xs) (ht : ty ≠ .byte) (wi : (Jvm.Cond.instantiable "java/lang/String" n).before a0 Z = true) : Lat Z h' a cs := by
  obtain ⟨E, ⟨d, V, C, B⟩, l⟩ := S
  have n1 : a ≠ b := fun q => IA.ne A E wi q.symm
  exact ⟨E.wr W, ⟨d, V.other W (Or.inl n1), C.other W (Or.inl n1), B.other W (IA.neTy B A (fun q => ht q.symm))⟩, l⟩
theorem con_mono {y' : MethodName} {bytes' : ByteArray} {maxL' : Nat} {ret' : Option FieldType} {rm : Room} {ws : List Jvm.Cond} {as' : Array Value} {owc : List Addr} {Q1 Q2 : Option Value → Heap → Prop} (C : Con l Z wd ro EL n0 y' bytes' maxL' ret' rm ws as' h owc Q1) (q : ∀ v h', Q1 v h' → Q2 v h') : Con l Z wd ro EL n0 y' bytes' maxL' ret' rm ws as' h owc Q2 := by
  intro p e a1 a2 a3 s m args below a4 a5 a6 a7
  obtain ⟨n, o, b1, b2, b3, v, L, b4, b5, b6⟩ := C p e a1 a2 a3 s m args below a4 a5 a6 a7
  exact ⟨n, o, b1, b2, b3, v, L, b4, q _ _ b5, b6⟩
theorem castRun {g g' : JFrame} (q : g = g') (K : Run p l e R s m args below meth c Z wd ro EL n0 ow0 Q h ow cells slots g') : Run p l e R s m args below meth c Z wd ro EL n0 ow0 Q h ow cells slots g := q ▸ K
theorem toI_toInt {i : Nat} (h : i < 2 ^ 31) : i.toInt32.toInt = i := len_toInt h
theorem toI_clamp {i : Nat} (h : i < 2 ^ 31) : i.toInt32.toNatClampNeg = i := by simp only [Int32.toNatClampNeg, toI_toInt h]; rfl
theorem toI_nn {i : Nat} (h : i < 2 ^ 31) : ¬ i.toInt32 < 0 := by
  rw [Int32.lt_iff_toInt_lt, toI_toInt h]; show ¬ (i : Int) < 0; omega
theorem toI_lt {i k : Nat} (h : i < 2 ^ 31) (h' : k < 2 ^ 31) : i.toInt32 < k.toInt32 ↔ i < k := by
  rw [Int32.lt_iff_toInt_lt, toI_toInt h, toI_toInt h']; omega
theorem toI_succ (i : Nat) : i.toInt32 + 1 = (i + 1).toInt32 := by
  apply Int32.toBitVec_inj.mp
  simp [Nat.toInt32, BitVec.ofNat_add]
theorem toI_eq {i k : Nat} (h : i < 2 ^ 31) (h' : k < 2 ^ 31) : i.toInt32 = k.toInt32 ↔ i = k := by
  refine ⟨fun q => ?_, fun q => by rw [q]⟩
  have := congrArg Int32.toInt q
  rw [toI_toInt h, toI_toInt h'] at this; omega
theorem lo8_nar (c : Int32) : nar .byte (c.toInt8.toInt32) = c.toInt8.toInt32 := by simp [nar]
theorem nar_i2c (x : Int32) : nar .char (x.toUInt32.toUInt16.toUInt32.toInt32) = x.toUInt32.toUInt16.toUInt32.toInt32 := by simp only [nar, UInt32.toUInt32_toInt32, UInt16.toUInt16_toUInt32]
theorem set_fill (f : Int32 → Int32) (cs : List Int32) (i k : Nat) (c : Int32) (hc : cs[i]? = some c) : (((cs.take i).map f) ++ List.replicate (k + 1) 0).set i (f c) = ((cs.take (i + 1)).map f) ++ List.replicate k 0 := by
  have hi := (List.getElem?_eq_some_iff.mp hc).1
  have hl : ((cs.take i).map f).length = i := by simp; omega
  rw [List.set_append_right _ _ (by omega), hl, Nat.sub_self, List.replicate_succ, List.set_cons_zero, List.take_add_one, hc]
  simp
theorem and_rng (x m : Int32) (M : Nat) (hm : m.toBitVec.toNat = M) (hM : M < 2 ^ 31) : 0 ≤ (x &&& m).toInt ∧ (x &&& m).toInt ≤ M := by
  have h : (x &&& m).toBitVec.toNat ≤ M := by
    show (x.toBitVec &&& m.toBitVec).toNat ≤ M
    rw [BitVec.toNat_and, ← hm]; exact Nat.and_le_right
  have e : (x &&& m).toInt = ((x &&& m).toBitVec.toNat : Int) := by
    show (x &&& m).toBitVec.toInt = _
    rw [BitVec.toInt_eq_toNat_cond]; rw [if_pos (by omega)]
  omega
theorem and255_rng (x : Int32) : 0 ≤ (x &&& 255).toInt ∧ (x &&& 255).toInt < 256 := by
  have := and_rng x 255 255 rfl (by decide); omega
theorem ch8 (x v w : Int32) (h1 : v = x &&& 255) (h2 : w = v.toUInt32.toUInt16.toUInt32.toInt32) : 0 ≤ w.toInt ∧ w.toInt < 256 := by
  subst h1 h2; rw [i2c_mask]; exact and255_rng x
theorem bool_ok {z : Int32} (h : z = 0 ∨ z = 1) : narrow .boolean (.int z) = .int z ∧ fits .boolean (.int z) = true ∧ nar .boolean z = z := by
  rcases h with rfl | rfl <;> exact ⟨rfl, rfl, rfl⟩
theorem ref_ok {v : Value} (C : String) (h : v.isRef = true) : narrow (.object C) v = v ∧ fits (.object C) v = true := by
  rcases ref_cases h with rfl | ⟨r, rfl⟩ <;> exact ⟨rfl, rfl⟩
theorem rem_rng (x m : Int32) (hx : 0 ≤ x.toInt) (hm : 0 < m.toInt) : 0 ≤ (x % m).toInt ∧ (x % m).toInt < m.toInt := by
  rw [Int32.toInt_mod, Int.tmod_eq_emod_of_nonneg hx]
  exact ⟨Int.emod_nonneg _ (by omega), Int.emod_lt_of_pos _ hm⟩
theorem and31_rem {x v w m : Int32} (h1 : v = x &&& 2147483647) (h2 : w = v % m) (hm : 0 < m.toInt) : 0 ≤ w.toInt ∧ w.toInt < m.toInt := by
  subst h1 h2; exact rem_rng _ _ (and_rng x 2147483647 2147483647 rfl (by decide)).1 hm
/-- compact strings are on -/
def Cst (Z : State) : Prop := ∃ cz : Int32, Sta Z Z.heap "java/lang/String" "COMPACT_STRINGS" "Z" (.int cz) ∧ cz ≠ 0
theorem keepExt (K : Keep h h' []) : Ext h h' := ⟨K.1, fun x c q => K.2.1 x c q nin0⟩
theorem extKeep (E : Ext h h') : Keep h h' [] := (Keep.refl h []).ext E
end
end Jvm.GoKit

namespace Jvm.Pilot.@@N@@
open Jvm Jvm.ClassFile Sem Op Lib Jvm.Free Jvm.Stand Jvm.LawKit Jvm.RoadKit Jvm.GoKit Bundle Jvm.Pilot.@@N@@.Jvm.D
abbrev ELs : List (String × Nat) := consts_1
theorem hELs {Z : State} {a0 : Array Value} (hw : ∀ d ∈ tables_1, d.before a0 Z = true) : EW Z a0 ELs := EW.cons (wi hw 23 rfl) (by decide +kernel) (EW.nil)
theorem wS {Z : State} {a0 : Array Value} (hw : ∀ d ∈ tables_1, d.before a0 Z = true) : ∀ a ∈ Bundle.stringAtoms, a.before a0 Z = true := by
  intro d hd
  simp only [Bundle.stringAtoms, List.mem_cons, List.not_mem_nil, or_false] at hd
  rcases hd with rfl | rfl | rfl | rfl | rfl | rfl | rfl
  · exact (wi hw 11 rfl)
  · exact (wi hw 10 rfl)
  · exact (wi hw 24 rfl)
  · exact (wi hw 25 rfl)
  · exact (wi hw 26 rfl)
  · exact (wi hw 27 rfl)
  · exact (wi hw 28 rfl)
theorem iaLit {Z : State} {h : Heap} {b : Addr} {k : ClassId} {z : Int32} {vs : List Value} {cs : List Int32} (A : Arv Z h b k .byte z vs (.int 0)) (hz : z.toNatClampNeg = cs.length) (hv : vs = cs.map fun c => Value.int c.toInt8.toInt32) : IA Z h b .byte (cs.map fun c => c.toInt8.toInt32) := by
  obtain ⟨c, A1, -, e, hn, H, -⟩ := A
  refine ⟨c, A1, ?_, ?_⟩
  · apply Array.ext_getElem?
    intro i
    by_cases hi : i < c.slots.size
    · rw [H i hi, hv]
      have : i < cs.length := by omega
      simp [this]
    · rw [Array.getElem?_eq_none (by omega), Array.getElem?_eq_none (by simp; omega)]
  · rw [List.length_map, ← hz]
    have := z.toInt_lt
    simp only [Int32.toNatClampNeg]; omega
theorem latLit {Z : State} {h : Heap} {a b : Addr} {k : ClassId} {z : Int32} {vs : List Value} {cs : List Int32} (X : Exa Z h a "java/lang/String") (FC : Fld Z h a "java/lang/String" "coder" "B" (.int 0)) (FV : Fld Z h a "java/lang/String" "value" "[B" (.ref b)) (A : Arv Z h b k .byte z vs (.int 0)) (hz : z.toNatClampNeg = cs.length) (hv : vs = cs.map fun c => Value.int c.toInt8.toInt32) (hl : ∀ c ∈ cs, 0 ≤ c.toInt ∧ c.toInt < 256) : Lat Z h a cs :=
  ⟨X, ⟨b, FV, FC, iaLit A hz hv⟩, hl⟩
theorem sh0 (x : Int32) : x >>> ((0 : Int32) &&& 31) = x := by rw [show ((0 : Int32) &&& 31) = 0 from rfl]; exact Int32.shiftRight_zero
theorem d19_0 : decode jdk_52_method_15_code 0 = .ok (.iload_n 1, 1) := by decide +kernel
theorem d19_1 : decode jdk_52_method_15_code 1 = .ok (.aload_n 0, 1) := by decide +kernel
theorem d19_2 : decode jdk_52_method_15_code 2 = .ok (.arraylength, 1) := by decide +kernel
theorem d19_3 : decode jdk_52_method_15_code 3 = .ok (.isub, 1) := by decide +kernel
theorem d19_4 : decode jdk_52_method_15_code 4 = .ok (.bipush 31, 2) := by decide +kernel
theorem d19_6 : decode jdk_52_method_15_code 6 = .ok (.iushr, 1) := by decide +kernel
theorem d19_7 : decode jdk_52_method_15_code 7 = .ok (.i2b, 1) := by decide +kernel
theorem d19_8 : decode jdk_52_method_15_code 8 = .ok (.ireturn, 1) := by decide +kernel
theorem pn_java_lang_StringUTF16 : plainName "java/lang/StringUTF16" = true := by first | (simp [plainName, overriddenIn]; done) | decide +kernel
abbrev rm_con_coderLen : Room := { frames := 0, cells := 0, slots := 0, locals := 0 }
set_option maxRecDepth 65536 in
set_option maxHeartbeats 40000000 in
theorem con_coderLen (l : Launch) {Z : State} {a0 : Array Value} (hw : ∀ d ∈ tables_1, d.before a0 Z = true) {n0 : Nat} {h0 : Heap} {d : Addr} {xs : List Int32} (A : IA Z h0 d .byte xs) :
    Con l Z true false ELs n0 (⟨"java/lang/StringUTF16", "coderFromArrayLen", "([BI)B"⟩ : MethodName) jdk_52_method_15_code 2 (some .byte) rm_con_coderLen [] #[(.ref d), (.int xs.length.toInt32)] h0 [] (fun v h => v = some (.int 0) ∧ h = h0) := by
  refine Con.intro (plainFor_of_name pn_java_lang_StringUTF16) (hELs hw) ?_
  intro p e s m below meth c hh G
  refine castRun (g' := mkF m 0 #[.val (.ref d), .val (.int xs.length.toInt32)] []) (by first | rfl | (simp [entryFrame, mkF, argsToLocals, Value.category, maxLocals]; done)) ?_
  refine GoKit.iloadN G d19_0 rfl (pc' := 1) rfl ?_
  refine GoKit.aloadN G d19_1 rfl rfl (pc' := 2) rfl ?_
  refine GoKit.arrlenI G d19_2 A (z := xs.length.toInt32) rfl (pc' := 3) rfl ?_
  refine GoKit.isub G d19_3 (pc' := 4) rfl (fun v1 hqv1 => ?_)
  refine GoKit.bipush G (31 : Int32) d19_4 rfl (pc' := 6) rfl ?_
  refine GoKit.iushr G d19_6 (pc' := 7) rfl (fun v2 hqv2 => ?_)
  refine GoKit.i2b G d19_7 (pc' := 8) rfl (fun v3 hqv3 => ?_)
  refine GoKit.retNar G d19_8 (t := .byte) rfl (by simp) (by decide) (by decide) ?_
  exact ⟨by subst_vars; rw [show (xs.length.toInt32 - xs.length.toInt32 : Int32) = 0 from Int32.sub_self _]; rfl, rfl⟩
theorem lat_le {c : Int32} (h : 0 ≤ c.toInt ∧ c.toInt < 256) : ¬ (255 : Int32) < c := by rw [Int32.lt_iff_toInt_lt]; show ¬ (255 : Int) < c.toInt; omega
theorem d18_3 : decode jdk_52_method_21_code 3 = .ok (.iload 5, 2) := by decide +kernel
theorem d18_5 : decode jdk_52_method_21_code 5 = .ok (.iload 4, 2) := by decide +kernel
theorem d18_7 : decode jdk_52_method_21_code 7 = .ok (.if_icmp .ge 37, 3) := by decide +kernel
theorem d18_44 : decode jdk_52_method_21_code 44 = .ok (.iload 4, 2) := by decide +kernel
theorem d18_46 : decode jdk_52_method_21_code 46 = .ok (.ireturn, 1) := by decide +kernel
theorem d18_10 : decode jdk_52_method_21_code 10 = .ok (.aload_n 0, 1) := by decide +kernel
theorem d18_11 : decode jdk_52_method_21_code 11 = .ok (.iload_n 1, 1) := by decide +kernel
theorem d18_12 : decode jdk_52_method_21_code 12 = .ok (.caload, 1) := by decide +kernel
theorem d18_13 : decode jdk_52_method_21_code 13 = .ok (.istore 6, 2) := by decide +kernel
theorem d18_15 : decode jdk_52_method_21_code 15 = .ok (.iload 6, 2) := by decide +kernel
theorem d18_17 : decode jdk_52_method_21_code 17 = .ok (.sipush 255, 3) := by decide +kernel
theorem d18_20 : decode jdk_52_method_21_code 20 = .ok (.if_icmp .le 6, 3) := by decide +kernel
theorem d18_26 : decode jdk_52_method_21_code 26 = .ok (.aload_n 2, 1) := by decide +kernel
theorem d18_27 : decode jdk_52_method_21_code 27 = .ok (.iload_n 3, 1) := by decide +kernel
theorem d18_28 : decode jdk_52_method_21_code 28 = .ok (.iload 6, 2) := by decide +kernel
theorem d18_30 : decode jdk_52_method_21_code 30 = .ok (.i2b, 1) := by decide +kernel
theorem d18_31 : decode jdk_52_method_21_code 31 = .ok (.bastore, 1) := by decide +kernel
theorem d18_32 : decode jdk_52_method_21_code 32 = .ok (.iinc 1 1, 3) := by decide +kernel
theorem d18_35 : decode jdk_52_method_21_code 35 = .ok (.iinc 3 1, 3) := by decide +kernel
theorem d18_38 : decode jdk_52_method_21_code 38 = .ok (.iinc 5 1, 3) := by decide +kernel
theorem d18_41 : decode jdk_52_method_21_code 41 = .ok (.goto (-38), 3) := by decide +kernel
theorem d18_0 : decode jdk_52_method_21_code 0 = .ok (.iconst 0, 1) := by decide +kernel
theorem d18_1 : decode jdk_52_method_21_code 1 = .ok (.istore 5, 2) := by decide +kernel
abbrev rm_con_compress5 : Room := { frames := 0, cells := 0, slots := 0, locals := 0 }
set_option maxRecDepth 65536 in
set_option maxHeartbeats 40000000 in
theorem con_compress5 (l : Launch) {Z : State} {a0 : Array Value} (hw : ∀ d ∈ tables_1, d.before a0 Z = true) {n0 : Nat} {h0 : Heap} {b d : Addr} {cs : List Int32} (A : IA Z h0 b .char cs) (D : IA Z h0 d .byte (List.replicate cs.length 0)) (hlat : ∀ c ∈ cs, 0 ≤ c.toInt ∧ c.toInt < 256) :
    Con l Z true false ELs n0 (⟨"java/lang/StringUTF16", "compress", "([CI[BII)I"⟩ : MethodName) jdk_52_method_21_code 7 (some .int) rm_con_compress5 [] #[(.ref b), (.int 0), (.ref d), (.int 0), (.int cs.length.toInt32)] h0 [d] (fun v h => v = some (.int cs.length.toInt32) ∧ IA Z h d .byte (cs.map fun c => c.toInt8.toInt32)) := by
  refine Con.intro (plainFor_of_name pn_java_lang_StringUTF16) (hELs hw) ?_
  intro p e s m below meth c hh G
  refine castRun (g' := mkF m 0 #[.val (.ref b), .val (.int 0), .val (.ref d), .val (.int 0), .val (.int cs.length.toInt32), .unset, .unset] []) (by first | rfl | (simp [entryFrame, mkF, argsToLocals, Value.category, maxLocals]; done)) ?_
  have hl := A.len
  have loop : ∀ (k i : Nat) (h : Heap) (sl : Slot), i + k = cs.length → IA Z h b .char cs → IA Z h d .byte ((cs.take i).map (fun c => c.toInt8.toInt32) ++ List.replicate k 0) → (sl = .unset ∨ ∃ w, sl = .val w ∧ w.category = 1) →
      Run p l e rm_con_compress5 s m #[.ref b, .int 0, .ref d, .int 0, .int cs.length.toInt32] below meth c Z true false ELs n0 [d] (fun v h => v = some (.int cs.length.toInt32) ∧ IA Z h d .byte (cs.map fun c => c.toInt8.toInt32)) h [d] 0 0 (mkF m 3 #[.val (.ref b), .val (.int i.toInt32), .val (.ref d), .val (.int i.toInt32), .val (.int cs.length.toInt32), .val (.int i.toInt32), sl] []) := by
    intro k; induction k with
    | zero =>
      intro i h sl hik A D hsl
      have hi : i = cs.length := by omega
      subst hi
      refine GoKit.iload G d18_3 rfl (pc' := 5) rfl ?_
      refine GoKit.iload G d18_5 rfl (pc' := 7) rfl ?_
      refine GoKit.icmp_ge_t G d18_7 Int32.lt_irrefl (by decide) (pc' := 44) rfl ?_
      refine GoKit.iload G d18_44 rfl (pc' := 46) rfl ?_
      refine GoKit.retInt G d18_46 rfl (by decide) (by decide) ?_
      exact ⟨rfl, by simpa using D⟩
    | succ k ih =>
      intro i h sl hik A D hsl
      have hi : i < cs.length := by omega
      obtain ⟨ch, hch⟩ : ∃ ch, cs[i]? = some ch := ⟨cs[i], List.getElem?_eq_getElem hi⟩
      have hcl := hlat ch (List.mem_of_getElem? hch)
      refine GoKit.iload G d18_3 rfl (pc' := 5) rfl ?_
      refine GoKit.iload G d18_5 rfl (pc' := 7) rfl ?_
      refine GoKit.icmp_ge_f G d18_7 ((toI_lt (by omega) (by omega)).mpr hi) (pc' := 10) rfl ?_
      refine GoKit.aloadN G d18_10 rfl rfl (pc' := 11) rfl ?_
      refine GoKit.iloadN G d18_11 rfl (pc' := 12) rfl ?_
      refine GoKit.caloadI G d18_12 A (i := i) (toI_clamp (by omega)) (toI_nn (by omega)) hch (pc' := 13) rfl ?_
      refine GoKit.istore G d18_13 (Ls' := #[.val (.ref b), .val (.int i.toInt32), .val (.ref d), .val (.int i.toInt32), .val (.int cs.length.toInt32), .val (.int i.toInt32), .val (.int ch)]) (XS.store1 rfl hsl rfl) (pc' := 15) rfl ?_
      refine GoKit.iload G d18_15 rfl (pc' := 17) rfl ?_
      refine GoKit.sipush G (255 : Int32) d18_17 rfl (pc' := 20) rfl ?_
      refine GoKit.icmp_le_t G d18_20 (lat_le hcl) (by decide) (pc' := 26) rfl ?_
      refine GoKit.aloadN G d18_26 rfl rfl (pc' := 27) rfl ?_
      refine GoKit.iloadN G d18_27 rfl (pc' := 28) rfl ?_
      refine GoKit.iload G d18_28 rfl (pc' := 30) rfl ?_
      refine GoKit.i2b G d18_30 (pc' := 31) rfl (fun v1 hqv1 => ?_)
      refine GoKit.bastI G d18_31 D (i := i) (toI_clamp (by omega)) (toI_nn (by omega)) (by simp; omega) (x' := ch.toInt8.toInt32) (by rw [hqv1]; exact lo8_nar _) (List.Mem.head _) (pc' := 32) rfl (fun h' W' D' => ?_)
      rw [set_fill _ cs i k ch hch] at D'
      refine GoKit.iinc G (1 : Int32) d18_32 rfl rfl (Ls' := #[.val (.ref b), .val (.int (i.toInt32 + (1 : Int32))), .val (.ref d), .val (.int i.toInt32), .val (.int cs.length.toInt32), .val (.int i.toInt32), .val (.int ch)]) rfl (pc' := 35) rfl ?_
      generalize hqv2 : (i.toInt32 + (1 : Int32)) = v2
      refine GoKit.iinc G (1 : Int32) d18_35 rfl rfl (Ls' := #[.val (.ref b), .val (.int v2), .val (.ref d), .val (.int (i.toInt32 + (1 : Int32))), .val (.int cs.length.toInt32), .val (.int i.toInt32), .val (.int ch)]) rfl (pc' := 38) rfl ?_
      generalize hqv3 : (i.toInt32 + (1 : Int32)) = v3
      refine GoKit.iinc G (1 : Int32) d18_38 rfl rfl (Ls' := #[.val (.ref b), .val (.int v2), .val (.ref d), .val (.int v3), .val (.int cs.length.toInt32), .val (.int (i.toInt32 + (1 : Int32))), .val (.int ch)]) rfl (pc' := 41) rfl ?_
      generalize hqv4 : (i.toInt32 + (1 : Int32)) = v4
      refine GoKit.goto G d18_41 (by decide) (pc' := 3) rfl ?_
      rw [toI_succ] at hqv2; subst hqv2
      rw [toI_succ] at hqv3; subst hqv3
      rw [toI_succ] at hqv4; subst hqv4
      exact ih (i + 1) h' (.val (.int ch)) (by omega) (A.other W' (IA.neTy A D (by decide))) D' (Or.inr ⟨_, rfl, rfl⟩)
  refine GoKit.iconst G (0 : Int32) d18_0 rfl (pc' := 1) rfl ?_
  refine GoKit.istore G d18_1 (Ls' := #[.val (.ref b), .val (.int (0 : Int32)), .val (.ref d), .val (.int (0 : Int32)), .val (.int cs.length.toInt32), .val (.int (0 : Int32)), .unset]) rfl (pc' := 3) rfl ?_
  exact loop cs.length 0 h0 .unset (by omega) A (by simpa using D) (Or.inl rfl)
theorem d17_0 : decode jdk_52_method_16_code 0 = .ok (.iload_n 2, 1) := by decide +kernel
theorem d17_1 : decode jdk_52_method_16_code 1 = .ok (.newarray .byte, 2) := by decide +kernel
theorem d17_3 : decode jdk_52_method_16_code 3 = .ok (.astore_n 3, 1) := by decide +kernel
theorem d17_4 : decode jdk_52_method_16_code 4 = .ok (.aload_n 0, 1) := by decide +kernel
theorem d17_5 : decode jdk_52_method_16_code 5 = .ok (.iload_n 1, 1) := by decide +kernel
theorem d17_6 : decode jdk_52_method_16_code 6 = .ok (.aload_n 3, 1) := by decide +kernel
theorem d17_7 : decode jdk_52_method_16_code 7 = .ok (.iconst 0, 1) := by decide +kernel
theorem d17_8 : decode jdk_52_method_16_code 8 = .ok (.iload_n 2, 1) := by decide +kernel
theorem d17_9 : decode jdk_52_method_16_code 9 = .ok (.invokestatic 115, 3) := by decide +kernel
theorem pd_0 : parseMethodDescriptor "([CI[BII)I" = some ⟨[(.array .char), .int, (.array .byte), .int, .int], some .int⟩ := by decide +kernel
theorem d17_12 : decode jdk_52_method_16_code 12 = .ok (.istore 4, 2) := by decide +kernel
theorem d17_14 : decode jdk_52_method_16_code 14 = .ok (.iload 4, 2) := by decide +kernel
theorem d17_16 : decode jdk_52_method_16_code 16 = .ok (.iload_n 2, 1) := by decide +kernel
theorem d17_17 : decode jdk_52_method_16_code 17 = .ok (.if_icmp .eq 40, 3) := by decide +kernel
theorem d17_57 : decode jdk_52_method_16_code 57 = .ok (.aload_n 3, 1) := by decide +kernel
theorem d17_58 : decode jdk_52_method_16_code 58 = .ok (.areturn, 1) := by decide +kernel
abbrev rm_con_compress3 : Room := { frames := 1, cells := 1, slots := 4, locals := 18 }
set_option maxRecDepth 65536 in
set_option maxHeartbeats 40000000 in
theorem con_compress3 (l : Launch) {Z : State} {a0 : Array Value} (hw : ∀ d ∈ tables_1, d.before a0 Z = true) {n0 : Nat} {h0 : Heap} {b : Addr} {cs : List Int32} (A : IA Z h0 b .char cs) (hcap : cs.length ≤ 4) (hlat : ∀ c ∈ cs, 0 ≤ c.toInt ∧ c.toInt < 256) :
    Con l Z true false ELs n0 (⟨"java/lang/StringUTF16", "compress", "([CII)[B"⟩ : MethodName) jdk_52_method_16_code 6 (some (.array .byte)) rm_con_compress3 [] #[(.ref b), (.int 0), (.int cs.length.toInt32)] h0 [] (fun v h => ∃ d, v = some (.ref d) ∧ IA Z h d .byte (cs.map fun c => c.toInt8.toInt32)) := by
  refine Con.intro (plainFor_of_name pn_java_lang_StringUTF16) (hELs hw) ?_
  intro p e s m below meth c hh G
  refine castRun (g' := mkF m 0 #[.val (.ref b), .val (.int 0), .val (.int cs.length.toInt32), .unset, .unset, .unset] []) (by first | rfl | (simp [entryFrame, mkF, argsToLocals, Value.category, maxLocals]; done)) ?_
  have hl := A.len
  refine GoKit.iloadN G d17_0 rfl (pc' := 1) rfl ?_
  refine GoKit.newbI G d17_1 (wi hw 24 rfl) (toI_nn hl) (k := cs.length) (cap := 4) (toI_clamp hl) hcap (by decide) (by decide) (by decide) (cells' := 1) (slots' := 4) rfl rfl (pc' := 3) rfl (fun h4 a1 ga1 E2 A3 => ?_)
  refine GoKit.astoreN G d17_3 rfl (Ls' := #[.val (.ref b), .val (.int 0), .val (.int cs.length.toInt32), .val (.ref a1), .unset, .unset]) rfl (pc' := 4) rfl ?_
  refine GoKit.aloadN G d17_4 rfl rfl (pc' := 5) rfl ?_
  refine GoKit.iloadN G d17_5 rfl (pc' := 6) rfl ?_
  refine GoKit.aloadN G d17_6 rfl rfl (pc' := 7) rfl ?_
  refine GoKit.iconst G (0 : Int32) d17_7 rfl (pc' := 8) rfl ?_
  refine GoKit.iloadN G d17_8 rfl (pc' := 9) rfl ?_
  refine GoKit.callStatic G d17_9 (wi hw 85 rfl) (wi hw 86 rfl) (wi hw 83 rfl) (wi hw 87 rfl) (by decide) (owc := [a1]) (W := 0) (argsL := [(.ref b), (.int 0), (.ref a1), (.int (0 : Int32)), (.int cs.length.toInt32)]) (rest := []) (con_compress5 l hw (A.ext E2) A3 hlat) rfl (lenOf pd_0 rfl) rfl (by decide) (Nat.le_of_eq rfl) (by decide) (by decide) (by decide) (by intro x hx; simp only [List.mem_cons, List.not_mem_nil, or_false] at hx ⊢; simp [hx]) (cells' := 1) (slots' := 4) rfl rfl (pc' := 12) rfl (fun r5 h8 q6 K7 => ?_)
  obtain ⟨rfl, A9⟩ := q6
  show Run _ _ _ _ _ _ _ _ _ _ _ _ _ _ _ _ _ _ _ _ _ (mkF m 12 #[.val (.ref b), .val (.int 0), .val (.int cs.length.toInt32), .val (.ref a1), .unset, .unset] [(.int cs.length.toInt32)])
  refine GoKit.istore G d17_12 (Ls' := #[.val (.ref b), .val (.int 0), .val (.int cs.length.toInt32), .val (.ref a1), .val (.int cs.length.toInt32), .unset]) rfl (pc' := 14) rfl ?_
  refine GoKit.iload G d17_14 rfl (pc' := 16) rfl ?_
  refine GoKit.iloadN G d17_16 rfl (pc' := 17) rfl ?_
  refine GoKit.icmp_eq_t G d17_17 rfl (by decide) (pc' := 57) rfl ?_
  refine GoKit.aloadN G d17_57 rfl rfl (pc' := 58) rfl ?_
  refine GoKit.retRef G rfl d17_58 rfl rfl rfl (by decide) (by decide) ?_
  exact ⟨_, rfl, A9⟩
theorem d4_0 : decode jdk_42_method_149_code 0 = .ok (.aload_n 0, 1) := by decide +kernel
theorem d4_1 : decode jdk_42_method_149_code 1 = .ok (.invokespecial 1, 3) := by decide +kernel
theorem d4_4 : decode jdk_42_method_149_code 4 = .ok (.iload_n 3, 1) := by decide +kernel
theorem d4_5 : decode jdk_42_method_149_code 5 = .ok (.ifCond .ne 22, 3) := by decide +kernel
theorem d4_27 : decode jdk_42_method_149_code 27 = .ok (.getstatic 38, 3) := by decide +kernel
theorem d4_30 : decode jdk_42_method_149_code 30 = .ok (.ifCond .eq 28, 3) := by decide +kernel
theorem d4_33 : decode jdk_42_method_149_code 33 = .ok (.aload_n 1, 1) := by decide +kernel
theorem d4_34 : decode jdk_42_method_149_code 34 = .ok (.iload_n 2, 1) := by decide +kernel
theorem d4_35 : decode jdk_42_method_149_code 35 = .ok (.iload_n 3, 1) := by decide +kernel
theorem d4_36 : decode jdk_42_method_149_code 36 = .ok (.invokestatic 177, 3) := by decide +kernel
theorem pd_1 : parseMethodDescriptor "([CII)[B" = some ⟨[(.array .char), .int, .int], some (.array .byte)⟩ := by decide +kernel
theorem d4_39 : decode jdk_42_method_149_code 39 = .ok (.astore 5, 2) := by decide +kernel
theorem d4_41 : decode jdk_42_method_149_code 41 = .ok (.aload_n 0, 1) := by decide +kernel
theorem d4_42 : decode jdk_42_method_149_code 42 = .ok (.aload 5, 2) := by decide +kernel
theorem d4_44 : decode jdk_42_method_149_code 44 = .ok (.iload_n 3, 1) := by decide +kernel
theorem d4_45 : decode jdk_42_method_149_code 45 = .ok (.invokestatic 47, 3) := by decide +kernel
theorem pd_2 : parseMethodDescriptor "([BI)B" = some ⟨[(.array .byte), .int], some .byte⟩ := by decide +kernel
theorem d4_48 : decode jdk_42_method_149_code 48 = .ok (.putfield 15, 3) := by decide +kernel
theorem d4_51 : decode jdk_42_method_149_code 51 = .ok (.aload_n 0, 1) := by decide +kernel
theorem d4_52 : decode jdk_42_method_149_code 52 = .ok (.aload 5, 2) := by decide +kernel
theorem d4_54 : decode jdk_42_method_149_code 54 = .ok (.putfield 9, 3) := by decide +kernel
theorem d4_57 : decode jdk_42_method_149_code 57 = .ok (.return_, 1) := by decide +kernel
theorem pn_java_lang_String : plainName "java/lang/String" = true := by first | (simp [plainName, overriddenIn]; done) | decide +kernel
abbrev rm_con_strInit4 : Room := { frames := 2, cells := 1, slots := 4, locals := 35 }
set_option maxRecDepth 65536 in
set_option maxHeartbeats 40000000 in
theorem con_strInit4 (l : Launch) {Z : State} {a0 : Array Value} (hw : ∀ d ∈ tables_1, d.before a0 Z = true) {n0 : Nat} {h0 : Heap} {a b : Addr} {cs : List Int32} (E : Exa Z h0 a "java/lang/String") (FV : Fld Z h0 a "java/lang/String" "value" "[B" .null) (FC : Fld Z h0 a "java/lang/String" "coder" "B" (.int 0)) (A : IA Z h0 b .char cs) (hcap : cs.length ≤ 4) (hlat : ∀ c ∈ cs, 0 ≤ c.toInt ∧ c.toInt < 256) (hne : cs ≠ []) (HC : Cst Z) :
    Con l Z true false ELs n0 (⟨"java/lang/String", "<init>", "([CIILjava/lang/Void;)V"⟩ : MethodName) jdk_42_method_149_code 6 none rm_con_strInit4 [] #[(.ref a), (.ref b), (.int 0), (.int cs.length.toInt32), .null] h0 [a] (fun v h => v = none ∧ Lat Z h a cs) := by
  refine Con.intro (plainFor_of_name pn_java_lang_String) (hELs hw) ?_
  intro p e s m below meth c hh G
  refine castRun (g' := mkF m 0 #[.val (.ref a), .val (.ref b), .val (.int 0), .val (.int cs.length.toInt32), .val .null, .unset] []) (by first | rfl | (simp [entryFrame, mkF, argsToLocals, Value.category, maxLocals]; done)) ?_
  obtain ⟨cz, SC, hcz⟩ := HC
  have hl := A.len
  have hz : ¬ cs.length.toInt32 = 0 := fun q => hne (List.length_eq_zero_iff.mp ((toI_eq (k := 0) hl (by decide)).mp q))
  refine GoKit.aloadN G d4_0 rfl rfl (pc' := 1) rfl ?_
  refine GoKit.initObj G d4_1 (wi hw 20 rfl) (wi hw 21 rfl) (wi hw 22 rfl) rfl (by decide) (W := 0) (Nat.le_of_eq rfl) (by decide) (pc' := 4) rfl ?_
  refine GoKit.iloadN G d4_4 rfl (pc' := 5) rfl ?_
  refine GoKit.if_ne_t G d4_5 hz (by decide) (pc' := 27) rfl ?_
  refine GoKit.gets G d4_27 (wi hw 50 rfl) Via.refl SC (pc' := 30) rfl ?_
  refine GoKit.if_eq_f G d4_30 hcz (pc' := 33) rfl ?_
  refine GoKit.aloadN G d4_33 rfl rfl (pc' := 34) rfl ?_
  refine GoKit.iloadN G d4_34 rfl (pc' := 35) rfl ?_
  refine GoKit.iloadN G d4_35 rfl (pc' := 36) rfl ?_
  refine GoKit.callStatic G d4_36 (wi hw 81 rfl) (wi hw 82 rfl) (wi hw 83 rfl) (wi hw 84 rfl) (by decide) (owc := []) (W := 0) (argsL := [(.ref b), (.int 0), (.int cs.length.toInt32)]) (rest := []) (con_compress3 l hw A hcap hlat) rfl (lenOf pd_1 rfl) rfl (by decide) (Nat.le_of_eq rfl) (by decide) (by decide) (by decide) (fun _ q => nomatch q) (cells' := 1) (slots' := 4) rfl rfl (pc' := 39) rfl (fun r1 h4 q2 K3 => ?_)
  obtain ⟨d5, rfl, A6⟩ := q2
  have ne7 := IA.ne A6 (E.keep K3) (wi hw 10 rfl)
  show Run _ _ _ _ _ _ _ _ _ _ _ _ _ _ _ _ _ _ _ _ _ (mkF m 39 #[.val (.ref a), .val (.ref b), .val (.int 0), .val (.int cs.length.toInt32), .val .null, .unset] [(.ref d5)])
  refine GoKit.astore G d4_39 rfl (Ls' := #[.val (.ref a), .val (.ref b), .val (.int 0), .val (.int cs.length.toInt32), .val .null, .val (.ref d5)]) rfl (pc' := 41) rfl ?_
  refine GoKit.aloadN G d4_41 rfl rfl (pc' := 42) rfl ?_
  refine GoKit.aload G d4_42 rfl rfl (pc' := 44) rfl ?_
  refine GoKit.iloadN G d4_44 rfl (pc' := 45) rfl ?_
  refine GoKit.callStaticP G d4_45 (wi hw 88 rfl) (wi hw 89 rfl) (wi hw 83 rfl) (wi hw 90 rfl) (by decide) (W := 1) (argsL := [(.ref d5), (.int cs.length.toInt32)]) (rest := [(.ref a)]) ((by simpa using con_coderLen l hw A6)) rfl (lenOf pd_2 rfl) rfl (by decide) (Nat.le_of_eq rfl) (by decide) (by decide) (by decide) (cells' := 1) (slots' := 4) rfl rfl (pc' := 48) rfl ?_
  show Run _ _ _ _ _ _ _ _ _ _ _ _ _ _ _ _ _ _ _ _ _ (mkF m 48 #[.val (.ref a), .val (.ref b), .val (.int 0), .val (.int cs.length.toInt32), .val .null, .val (.ref d5)] [(.int 0), (.ref a)])
  refine GoKit.putf G d4_48 (wi hw 30 rfl) Via.refl (FC.keep K3 nin0) (E.keep K3) (Or.inr ⟨(wi hw 26 rfl), rfl, rfl⟩) (wi hw 10 rfl) (ty := .byte) (by decide) rfl rfl (List.Mem.head _) (pc' := 51) rfl (fun h9 W8 => ?_)
  have F10 := ((FC.keep K3 nin0)).same W8
  refine GoKit.aloadN G d4_51 rfl rfl (pc' := 52) rfl ?_
  refine GoKit.aload G d4_52 rfl rfl (pc' := 54) rfl ?_
  refine GoKit.putf G d4_54 (wi hw 29 rfl) Via.refl ((FV.keep K3 nin0).other W8 (Or.inr (slot_ne (Or.inr (wi hw 25 rfl)) (Or.inr (wi hw 26 rfl)) (by decide) (by decide : _ = some (.array .byte)) (by decide : _ = some .byte)))) ((E.keep K3).wr W8) (Or.inr ⟨(wi hw 25 rfl), rfl, rfl⟩) (wi hw 10 rfl) (ty := (.array .byte)) (by decide) rfl rfl (List.Mem.head _) (pc' := 57) rfl (fun h12 W11 => ?_)
  have F13 := (((FV.keep K3 nin0).other W8 (Or.inr (slot_ne (Or.inr (wi hw 25 rfl)) (Or.inr (wi hw 26 rfl)) (by decide) (by decide : _ = some (.array .byte)) (by decide : _ = some .byte))))).same W11
  refine GoKit.retVoid G d4_57 rfl (by decide) (by decide) ?_
  exact ⟨rfl, (((E.keep K3).wr W8).wr W11), ⟨d5, F13, (F10.other W11 (Or.inr (slot_ne (Or.inr (wi hw 26 rfl)) (Or.inr (wi hw 25 rfl)) (by decide) (by decide : _ = some .byte) (by decide : _ = some (.array .byte))))), ((A6.other W8 ne7).other W11 ne7)⟩, hlat⟩
theorem d3_0 : decode jdk_42_method_3_code 0 = .ok (.aload_n 0, 1) := by decide +kernel
theorem d3_1 : decode jdk_42_method_3_code 1 = .ok (.aload_n 1, 1) := by decide +kernel
theorem d3_2 : decode jdk_42_method_3_code 2 = .ok (.iconst 0, 1) := by decide +kernel
theorem d3_3 : decode jdk_42_method_3_code 3 = .ok (.aload_n 1, 1) := by decide +kernel
theorem d3_4 : decode jdk_42_method_3_code 4 = .ok (.arraylength, 1) := by decide +kernel
theorem d3_5 : decode jdk_42_method_3_code 5 = .ok (.aconst_null, 1) := by decide +kernel
theorem d3_6 : decode jdk_42_method_3_code 6 = .ok (.invokespecial 27, 3) := by decide +kernel
theorem pd_3 : parseMethodDescriptor "([CIILjava/lang/Void;)V" = some ⟨[(.array .char), .int, .int, (.object "java/lang/Void")], none⟩ := by decide +kernel
theorem d3_9 : decode jdk_42_method_3_code 9 = .ok (.return_, 1) := by decide +kernel
abbrev rm_con_strInit : Room := { frames := 5, cells := 2, slots := 12, locals := 74 }
set_option maxRecDepth 65536 in
set_option maxHeartbeats 40000000 in
theorem con_strInit (l : Launch) {Z : State} {a0 : Array Value} (hw : ∀ d ∈ tables_1, d.before a0 Z = true) {n0 : Nat} {h0 : Heap} {a b : Addr} {cs : List Int32} (E : Exa Z h0 a "java/lang/String") (FV : Fld Z h0 a "java/lang/String" "value" "[B" .null) (FC : Fld Z h0 a "java/lang/String" "coder" "B" (.int 0)) (A : IA Z h0 b .char cs) (hcap : cs.length ≤ 4) (hlat : ∀ c ∈ cs, 0 ≤ c.toInt ∧ c.toInt < 256) (hne : cs ≠ []) (HC : Cst Z) :
    Con l Z true false ELs n0 (⟨"java/lang/String", "<init>", "([C)V"⟩ : MethodName) jdk_42_method_3_code 2 none rm_con_strInit [] #[(.ref a), (.ref b)] h0 [a] (fun v h => v = none ∧ Lat Z h a cs) := by
  refine Con.intro (plainFor_of_name pn_java_lang_String) (hELs hw) ?_
  intro p e s m below meth c hh G
  refine castRun (g' := mkF m 0 #[.val (.ref a), .val (.ref b)] []) (by first | rfl | (simp [entryFrame, mkF, argsToLocals, Value.category, maxLocals]; done)) ?_
  refine GoKit.aloadN G d3_0 rfl rfl (pc' := 1) rfl ?_
  refine GoKit.aloadN G d3_1 rfl rfl (pc' := 2) rfl ?_
  refine GoKit.iconst G (0 : Int32) d3_2 rfl (pc' := 3) rfl ?_
  refine GoKit.aloadN G d3_3 rfl rfl (pc' := 4) rfl ?_
  refine GoKit.arrlenI G d3_4 A (z := cs.length.toInt32) rfl (pc' := 5) rfl ?_
  refine GoKit.aconstNull G d3_5 (pc' := 6) rfl ?_
  refine GoKit.callSpecial G d3_6 rfl (wi hw 16 rfl) (wi hw 17 rfl) (wi hw 11 rfl) (wi hw 19 rfl) (by decide) (owc := [a]) (W := 0) (argsL := [(.ref b), (.int (0 : Int32)), (.int cs.length.toInt32), .null]) (rest := []) (con_strInit4 l hw E FV FC A hcap hlat hne HC) rfl (lenOf pd_3 rfl) rfl (by decide) (Nat.le_of_eq rfl) (by decide) (by decide) (by decide) (by intro x hx; simp only [List.mem_cons, List.not_mem_nil, or_false] at hx ⊢; simp [hx]) (cells' := 1) (slots' := 4) rfl rfl (pc' := 9) rfl (fun r1 h4 q2 K3 => ?_)
  obtain ⟨rfl, S5⟩ := q2
  show Run _ _ _ _ _ _ _ _ _ _ _ _ _ _ _ _ _ _ _ _ _ (mkF m 9 #[.val (.ref a), .val (.ref b)] [])
  refine GoKit.retVoid G d3_9 rfl (by decide) (by decide) ?_
  exact ⟨rfl, S5⟩
def b0 (c : Int32) : Int32 := c.toInt8.toInt32
def b1 (c : Int32) : Int32 := (c >>> ((8 : Int32) &&& 31)).toInt8.toInt32
def u16 : List Int32 → List Int32
  | [] => []
  | c :: cs => b0 c :: b1 c :: u16 cs
theorem u16_len : ∀ cs, (u16 cs).length = 2 * cs.length
  | [] => rfl
  | c :: cs => by simp only [u16, List.length_cons, u16_len cs]; omega
theorem u16_app : ∀ cs ds, u16 (cs ++ ds) = u16 cs ++ u16 ds
  | [], ds => rfl
  | c :: cs, ds => by simp only [List.cons_append, u16, u16_app cs ds]
theorem u16_get0 : ∀ (cs : List Int32) (i : Nat) (c : Int32), cs[i]? = some c → (u16 cs)[2 * i]? = some (b0 c) ∧ (u16 cs)[2 * i + 1]? = some (b1 c)
  | [], i, c, h => by cases h
  | d :: cs, 0, c, h => by
    have e : d = c := by simpa using h
    subst e; exact ⟨rfl, rfl⟩
  | d :: cs, i + 1, c, h => by
    have := u16_get0 cs i c (by simpa using h)
    rw [show 2 * (i + 1) = 2 * i + 1 + 1 from by omega]
    simpa [u16] using this
theorem u16_set (cs : List Int32) (i k : Nat) (c : Int32) (hc : cs[i]? = some c) : ((u16 (cs.take i) ++ List.replicate (2 * (k + 1)) 0).set (2 * i) (b0 c)).set (2 * i + 1) (b1 c) = u16 (cs.take (i + 1)) ++ List.replicate (2 * k) 0 := by
  have hi := (List.getElem?_eq_some_iff.mp hc).1
  have hl : (u16 (cs.take i)).length = 2 * i := by rw [u16_len]; simp; omega
  rw [List.take_add_one, hc, u16_app, List.set_append_right _ _ (by omega), List.set_append_right _ _ (by omega), hl, show 2 * i - 2 * i = 0 from by omega, show 2 * i + 1 - 2 * i = 1 from by omega, show 2 * (k + 1) = 2 * k + 1 + 1 from by omega, List.replicate_succ, List.replicate_succ]
  simp [u16]
theorem shl1 {i : Nat} (h : i < 2 ^ 30) : i.toInt32 <<< ((1 : Int32) &&& 31) = (2 * i).toInt32 := by
  apply Int32.toBitVec_inj.mp
  show (BitVec.ofNat 32 i) <<< (1 : Nat) = BitVec.ofNat 32 (2 * i)
  apply BitVec.eq_of_toNat_eq
  simp [BitVec.toNat_shiftLeft, Nat.shiftLeft_eq]
  omega
theorem shr1 {i : Nat} (h : i < 2 ^ 30) : (2 * i).toInt32 >>> ((1 : Int32) &&& 31) = i.toInt32 := by
  apply Int32.toBitVec_inj.mp
  show (BitVec.ofNat 32 (2 * i)).sshiftRight (1 : Nat) = BitVec.ofNat 32 i
  rw [BitVec.sshiftRight_eq_of_msb_false (by rw [BitVec.msb_eq_false_iff_two_mul_lt]; simp; omega)]
  apply BitVec.eq_of_toNat_eq
  simp [BitVec.toNat_ushiftRight, Nat.shiftRight_eq_div_pow]
  omega
theorem sx8 (x : BitVec 8) : (x.signExtend 32) &&& 255#32 = x.setWidth 32 := by
  revert x; decide +kernel
theorem u16_bv (c : BitVec 32) (h : c.toNat < 65536) : ((((((c.setWidth 8).signExtend 32) &&& 255#32) <<< 0) ||| (((((c.sshiftRight 8).setWidth 8).signExtend 32) &&& 255#32) <<< 8)).setWidth 16).setWidth 32 = c := by
  rw [sx8, sx8, BitVec.sshiftRight_eq_of_msb_false (by rw [BitVec.msb_eq_false_iff_two_mul_lt]; omega)]
  apply BitVec.eq_of_toNat_eq
  simp only [BitVec.toNat_setWidth, BitVec.toNat_or, BitVec.toNat_shiftLeft, BitVec.toNat_ushiftRight, Nat.shiftRight_eq_div_pow]
  generalize c.toNat = n at h
  have e1 : (n % 2 ^ 8 % 2 ^ 32) <<< 0 % 2 ^ 32 = n % 256 := by rw [Nat.shiftLeft_zero]; omega
  have e2 : (n / 2 ^ 8 % 2 ^ 8 % 2 ^ 32) <<< 8 % 2 ^ 32 = (n / 256) <<< 8 := by rw [Nat.shiftLeft_eq, Nat.shiftLeft_eq]; omega
  rw [e1, e2, Nat.or_comm, ← Nat.shiftLeft_add_eq_or_of_lt (by omega : n % 256 < 2 ^ 8), Nat.shiftLeft_eq]
  omega
theorem toNat16 {c : Int32} (h : 0 ≤ c.toInt ∧ c.toInt < 65536) : c.toBitVec.toNat < 65536 := by
  have h1 : c.toBitVec.toInt = c.toInt := rfl
  have h2 := BitVec.toInt_eq_toNat_cond c.toBitVec
  have := c.toBitVec.isLt
  split at h2 <;> omega
theorem sl0 (x : Int32) : (x <<< ((0 : Int32) &&& 31)).toBitVec = x.toBitVec <<< 0 := rfl
theorem sl8 (x : Int32) : (x <<< ((8 : Int32) &&& 31)).toBitVec = x.toBitVec <<< 8 := rfl
theorem sr8 (x : Int32) : (x >>> ((8 : Int32) &&& 31)).toBitVec = x.toBitVec.sshiftRight 8 := rfl
theorem u16_back {c : Int32} (h : 0 ≤ c.toInt ∧ c.toInt < 65536) : nar .char ((((b0 c &&& 255) <<< ((0 : Int32) &&& 31)) ||| ((b1 c &&& 255) <<< ((8 : Int32) &&& 31))).toUInt32.toUInt16.toUInt32.toInt32) = c := by
  have e := u16_bv c.toBitVec (toNat16 h)
  have n16 : ∀ x : Int32, nar .char (x.toUInt32.toUInt16.toUInt32.toInt32) = x.toUInt32.toUInt16.toUInt32.toInt32 := fun x => by simp only [nar, UInt32.toUInt32_toInt32, UInt16.toUInt16_toUInt32]
  rw [n16]
  apply Int32.toBitVec_inj.mp
  show ((((b0 c &&& 255) <<< ((0 : Int32) &&& 31)).toBitVec ||| ((b1 c &&& 255) <<< ((8 : Int32) &&& 31)).toBitVec).setWidth 16).setWidth 32 = c.toBitVec
  rw [sl0, sl8]
  show (((((((c.toBitVec).signExtend 8).signExtend 32) &&& 255#32) <<< 0) ||| (((((c >>> ((8 : Int32) &&& 31)).toBitVec.signExtend 8).signExtend 32) &&& 255#32) <<< 8)).setWidth 16).setWidth 32 = c.toBitVec
  rw [sr8, BitVec.signExtend_eq_setWidth_of_le _ (by decide : 8 ≤ 32), BitVec.signExtend_eq_setWidth_of_le _ (by decide : 8 ≤ 32)]
  exact e
theorem nar16 {c : Int32} (h : 0 ≤ c.toInt ∧ c.toInt < 65536) : nar .char c = c := by
  apply Int32.toBitVec_inj.mp
  have e := toNat16 h
  show ((c.toBitVec.setWidth 16).setWidth 32) = c.toBitVec
  apply BitVec.eq_of_toNat_eq
  simp
  omega
theorem coderU {n : Nat} (h1 : 0 < n) (h2 : n < 2 ^ 30) : nar .byte (((n.toInt32 - (2 * n).toInt32).toUInt32 >>> ((31 : Int32) &&& 31).toUInt32).toInt32.toInt8.toInt32) = 1 := by
  have e : (n.toInt32 - (2 * n).toInt32).toUInt32 >>> ((31 : Int32) &&& 31).toUInt32 = 1 := by
    apply UInt32.toBitVec_inj.mp
    show ((BitVec.ofNat 32 n) - (BitVec.ofNat 32 (2 * n))) >>> (31 : Nat) = 1#32
    apply BitVec.eq_of_toNat_eq
    rw [BitVec.toNat_ushiftRight, Nat.shiftRight_eq_div_pow, BitVec.toNat_sub]
    simp
    omega
  rw [e]; rfl
def U16 (Z : State) (h : Heap) (a : Addr) (cs : List Int32) : Prop := Exa Z h a "java/lang/String" ∧ (∃ b, Fld Z h a "java/lang/String" "value" "[B" (.ref b) ∧ Fld Z h a "java/lang/String" "coder" "B" (.int 1) ∧ IA Z h b .byte (u16 cs)) ∧ (∀ c ∈ cs, 0 ≤ c.toInt ∧ c.toInt < 65536) ∧ cs.length < 2 ^ 29
def Str (Z : State) (h : Heap) (a : Addr) (cs : List Int32) : Prop := Lat Z h a cs ∨ U16 Z h a cs
theorem str_keep {Z : State} {h h' : Heap} {a : Addr} {cs : List Int32} (S : Str Z h a cs) (K : Keep h h' []) : Str Z h' a cs := by
  rcases S with S | ⟨E, ⟨b, V, C, A⟩, l⟩
  · exact Or.inl (S.keep K)
  · exact Or.inr ⟨E.keep K, ⟨b, V.keep K nin0, C.keep K nin0, A.keep K nin0⟩, l⟩
theorem str_exa {Z : State} {h : Heap} {a : Addr} {cs : List Int32} (S : Str Z h a cs) : Exa Z h a "java/lang/String" := by
  rcases S with S | S
  · exact S.1
  · exact S.1
theorem str_len {Z : State} {h : Heap} {a : Addr} {cs : List Int32} (S : Str Z h a cs) : cs.length < 2 ^ 31 := by
  rcases S with ⟨-, ⟨b, -, -, A⟩, -⟩ | ⟨-, -, -, l⟩
  · have := A.len; simpa using this
  · omega
theorem str_ch {Z : State} {h : Heap} {a : Addr} {cs : List Int32} (S : Str Z h a cs) : ∀ c ∈ cs, 0 ≤ c.toInt ∧ c.toInt < 65536 := by
  rcases S with ⟨-, -, l⟩ | ⟨-, -, l, -⟩
  · intro c hc; have := l c hc; omega
  · exact l
theorem first_big : ∀ {cs : List Int32}, (∀ c ∈ cs, 0 ≤ c.toInt ∧ c.toInt < 65536) → ¬ (∀ c ∈ cs, 0 ≤ c.toInt ∧ c.toInt < 256) → ∃ (i : Nat) (c : Int32), cs[i]? = some c ∧ 255 < c.toInt ∧ ∀ j, j < i → ∀ d, cs[j]? = some d → 0 ≤ d.toInt ∧ d.toInt < 256
  | [], _, h => absurd (fun _ q => nomatch q) h
  | c :: cs, h1, h2 => by
    by_cases q : c.toInt < 256
    · obtain ⟨i, d, e1, e2, e3⟩ := first_big (cs := cs) (fun x hx => h1 x (List.Mem.tail _ hx)) (fun r => h2 fun x hx => by
        rcases List.mem_cons.mp hx with rfl | hx
        · exact ⟨(h1 _ (List.Mem.head _)).1, q⟩
        · exact r x hx)
      refine ⟨i + 1, d, by simpa using e1, e2, fun j hj x hx => ?_⟩
      cases j with
      | zero =>
        have : c = x := by simpa using hx
        subst this
        exact ⟨(h1 _ (List.Mem.head _)).1, q⟩
      | succ j => exact e3 j (by omega) x (by simpa using hx)
    · exact ⟨0, c, rfl, by omega, fun j hj => absurd hj (Nat.not_lt_zero j)⟩
def Ust (Z : State) : Prop := Sta Z Z.heap "java/lang/StringUTF16" "$assertionsDisabled" "Z" (.int 1) ∧ Sta Z Z.heap "java/lang/StringUTF16" "HI_BYTE_SHIFT" "I" (.int 0) ∧ Sta Z Z.heap "java/lang/StringUTF16" "LO_BYTE_SHIFT" "I" (.int 8)
theorem d23_0 : decode jdk_52_method_3_code 0 = .ok (.iload_n 0, 1) := by decide +kernel
theorem d23_1 : decode jdk_52_method_3_code 1 = .ok (.ifCond .ge 11, 3) := by decide +kernel
theorem d23_12 : decode jdk_52_method_3_code 12 = .ok (.iload_n 0, 1) := by decide +kernel
theorem d23_13 : decode jdk_52_method_3_code 13 = .ok (.ldc 20, 2) := by decide +kernel
theorem d23_15 : decode jdk_52_method_3_code 15 = .ok (.if_icmp .lt 40, 3) := by decide +kernel
theorem d23_55 : decode jdk_52_method_3_code 55 = .ok (.iload_n 0, 1) := by decide +kernel
theorem d23_56 : decode jdk_52_method_3_code 56 = .ok (.iconst 1, 1) := by decide +kernel
theorem d23_57 : decode jdk_52_method_3_code 57 = .ok (.ishl, 1) := by decide +kernel
theorem d23_58 : decode jdk_52_method_3_code 58 = .ok (.ireturn, 1) := by decide +kernel
abbrev rm_con_nbl : Room := { frames := 0, cells := 0, slots := 0, locals := 0 }
set_option maxRecDepth 65536 in
set_option maxHeartbeats 40000000 in
theorem con_nbl (l : Launch) {Z : State} {a0 : Array Value} (hw : ∀ d ∈ tables_1, d.before a0 Z = true) {n0 : Nat} {h0 : Heap} {n : Nat} (hn : n < 2 ^ 29) :
    Con l Z true false ELs n0 (⟨"java/lang/StringUTF16", "newBytesLength", "(I)I"⟩ : MethodName) jdk_52_method_3_code 1 (some .int) rm_con_nbl [] #[(.int n.toInt32)] h0 [] (fun v h => v = some (.int (2 * n).toInt32) ∧ h = h0) := by
  refine Con.intro (plainFor_of_name pn_java_lang_StringUTF16) (hELs hw) ?_
  intro p e s m below meth c hh G
  refine castRun (g' := mkF m 0 #[.val (.int n.toInt32)] []) (by first | rfl | (simp [entryFrame, mkF, argsToLocals, Value.category, maxLocals]; done)) ?_
  refine GoKit.iloadN G d23_0 rfl (pc' := 1) rfl ?_
  refine GoKit.if_ge_t G d23_1 (toI_nn (by omega)) (by decide) (pc' := 12) rfl ?_
  refine GoKit.iloadN G d23_12 rfl (pc' := 13) rfl ?_
  refine GoKit.ldcInt G d23_13 (wi hw 103 rfl) (pc' := 15) rfl ?_
  refine GoKit.icmp_lt_t G d23_15 ((toI_lt (k := 1073741823) (by omega) (by omega)).mpr (by omega)) (by decide) (pc' := 55) rfl ?_
  refine GoKit.iloadN G d23_55 rfl (pc' := 56) rfl ?_
  refine GoKit.iconst G (1 : Int32) d23_56 rfl (pc' := 57) rfl ?_
  refine GoKit.ishl G d23_57 (pc' := 58) rfl (fun v1 hqv1 => ?_)
  obtain rfl : v1 = (2 * n).toInt32 := by rw [hqv1]; exact shl1 (by omega)
  refine GoKit.retInt G d23_58 rfl (by decide) (by decide) ?_
  exact ⟨rfl, rfl⟩
theorem d22_0 : decode jdk_52_method_2_code 0 = .ok (.iload_n 0, 1) := by decide +kernel
theorem d22_1 : decode jdk_52_method_2_code 1 = .ok (.invokestatic 11, 3) := by decide +kernel
theorem pd_4 : parseMethodDescriptor "(I)I" = some ⟨[.int], some .int⟩ := by decide +kernel
theorem d22_4 : decode jdk_52_method_2_code 4 = .ok (.newarray .byte, 2) := by decide +kernel
theorem d22_6 : decode jdk_52_method_2_code 6 = .ok (.areturn, 1) := by decide +kernel
abbrev rm_con_nbf : Room := { frames := 1, cells := 1, slots := 8, locals := 12 }
set_option maxRecDepth 65536 in
set_option maxHeartbeats 40000000 in
theorem con_nbf (l : Launch) {Z : State} {a0 : Array Value} (hw : ∀ d ∈ tables_1, d.before a0 Z = true) {n0 : Nat} {h0 : Heap} {n : Nat} (hn : n ≤ 4) :
    Con l Z true true ELs n0 (⟨"java/lang/StringUTF16", "newBytesFor", "(I)[B"⟩ : MethodName) jdk_52_method_2_code 1 (some (.array .byte)) rm_con_nbf [] #[(.int n.toInt32)] h0 [] (fun v h => ∃ d, v = some (.ref d) ∧ IA Z h d .byte (List.replicate (2 * n) 0)) := by
  refine Con.intro (plainFor_of_name pn_java_lang_StringUTF16) (hELs hw) ?_
  intro p e s m below meth c hh G
  refine castRun (g' := mkF m 0 #[.val (.int n.toInt32)] []) (by first | rfl | (simp [entryFrame, mkF, argsToLocals, Value.category, maxLocals]; done)) ?_
  refine GoKit.iloadN G d22_0 rfl (pc' := 1) rfl ?_
  refine GoKit.callStaticP G d22_1 (wi hw 100 rfl) (wi hw 101 rfl) (wi hw 83 rfl) (wi hw 102 rfl) (by decide) (W := 0) (argsL := [(.int n.toInt32)]) (rest := []) (con_nbl l hw (by omega)) rfl (lenOf pd_4 rfl) rfl (by decide) (Nat.le_of_eq rfl) (by decide) (by decide) (by decide) (cells' := 0) (slots' := 0) rfl rfl (pc' := 4) rfl ?_
  show Run _ _ _ _ _ _ _ _ _ _ _ _ _ _ _ _ _ _ _ _ _ (mkF m 4 #[.val (.int n.toInt32)] [(.int (2 * n).toInt32)])
  refine GoKit.newbI G d22_4 (wi hw 24 rfl) (toI_nn (by omega)) (k := 2 * n) (cap := 8) (toI_clamp (by omega)) (by omega) (by decide) (by decide) (by decide) (cells' := 1) (slots' := 8) rfl rfl (pc' := 6) rfl (fun h4 a1 ga1 E2 A3 => ?_)
  refine GoKit.retOwn G (List.Mem.head _) (fun q => nomatch q) d22_6 rfl rfl (by decide) (by decide) ?_
  exact ⟨_, rfl, A3⟩
theorem d24_0 : decode jdk_52_method_4_code 0 = .ok (.getstatic 44, 3) := by decide +kernel
theorem d24_3 : decode jdk_52_method_4_code 3 = .ok (.ifCond .ne 25, 3) := by decide +kernel
theorem d24_28 : decode jdk_52_method_4_code 28 = .ok (.iload_n 1, 1) := by decide +kernel
theorem d24_29 : decode jdk_52_method_4_code 29 = .ok (.iconst 1, 1) := by decide +kernel
theorem d24_30 : decode jdk_52_method_4_code 30 = .ok (.ishl, 1) := by decide +kernel
theorem d24_31 : decode jdk_52_method_4_code 31 = .ok (.istore_n 1, 1) := by decide +kernel
theorem d24_32 : decode jdk_52_method_4_code 32 = .ok (.aload_n 0, 1) := by decide +kernel
theorem d24_33 : decode jdk_52_method_4_code 33 = .ok (.iload_n 1, 1) := by decide +kernel
theorem d24_34 : decode jdk_52_method_4_code 34 = .ok (.iinc 1 1, 3) := by decide +kernel
theorem d24_37 : decode jdk_52_method_4_code 37 = .ok (.iload_n 2, 1) := by decide +kernel
theorem d24_38 : decode jdk_52_method_4_code 38 = .ok (.getstatic 59, 3) := by decide +kernel
theorem d24_41 : decode jdk_52_method_4_code 41 = .ok (.ishr, 1) := by decide +kernel
theorem d24_42 : decode jdk_52_method_4_code 42 = .ok (.i2b, 1) := by decide +kernel
theorem d24_43 : decode jdk_52_method_4_code 43 = .ok (.bastore, 1) := by decide +kernel
theorem d24_44 : decode jdk_52_method_4_code 44 = .ok (.aload_n 0, 1) := by decide +kernel
theorem d24_45 : decode jdk_52_method_4_code 45 = .ok (.iload_n 1, 1) := by decide +kernel
theorem d24_46 : decode jdk_52_method_4_code 46 = .ok (.iload_n 2, 1) := by decide +kernel
theorem d24_47 : decode jdk_52_method_4_code 47 = .ok (.getstatic 63, 3) := by decide +kernel
theorem d24_50 : decode jdk_52_method_4_code 50 = .ok (.ishr, 1) := by decide +kernel
theorem d24_51 : decode jdk_52_method_4_code 51 = .ok (.i2b, 1) := by decide +kernel
theorem d24_52 : decode jdk_52_method_4_code 52 = .ok (.bastore, 1) := by decide +kernel
theorem d24_53 : decode jdk_52_method_4_code 53 = .ok (.return_, 1) := by decide +kernel
abbrev rm_con_putChar : Room := { frames := 0, cells := 0, slots := 0, locals := 0 }
set_option maxRecDepth 65536 in
set_option maxHeartbeats 40000000 in
theorem con_putChar (l : Launch) {Z : State} {a0 : Array Value} (hw : ∀ d ∈ tables_1, d.before a0 Z = true) {n0 : Nat} {h0 : Heap} {b : Addr} {ys : List Int32} {i : Nat} {c1 : Int32} (A : IA Z h0 b .byte ys) (hi : 2 * i + 1 < ys.length) (HU : Ust Z) :
    Con l Z true false ELs n0 (⟨"java/lang/StringUTF16", "putChar", "([BII)V"⟩ : MethodName) jdk_52_method_4_code 3 none rm_con_putChar [] #[(.ref b), (.int i.toInt32), (.int c1)] h0 [b] (fun v h => v = none ∧ IA Z h b .byte ((ys.set (2 * i) (b0 c1)).set (2 * i + 1) (b1 c1))) := by
  refine Con.intro (plainFor_of_name pn_java_lang_StringUTF16) (hELs hw) ?_
  intro p e s m below meth c hh G
  refine castRun (g' := mkF m 0 #[.val (.ref b), .val (.int i.toInt32), .val (.int c1)] []) (by first | rfl | (simp [entryFrame, mkF, argsToLocals, Value.category, maxLocals]; done)) ?_
  have hl := A.len
  refine GoKit.gets G d24_0 (wi hw 107 rfl) Via.refl HU.1 (pc' := 3) rfl ?_
  refine GoKit.if_ne_t G d24_3 (by decide) (by decide) (pc' := 28) rfl ?_
  refine GoKit.iloadN G d24_28 rfl (pc' := 29) rfl ?_
  refine GoKit.iconst G (1 : Int32) d24_29 rfl (pc' := 30) rfl ?_
  refine GoKit.ishl G d24_30 (pc' := 31) rfl (fun v1 hqv1 => ?_)
  obtain rfl : v1 = (2 * i).toInt32 := by rw [hqv1]; exact shl1 (by omega)
  refine GoKit.istoreN G d24_31 (Ls' := #[.val (.ref b), .val (.int (2 * i).toInt32), .val (.int c1)]) rfl (pc' := 32) rfl ?_
  refine GoKit.aloadN G d24_32 rfl rfl (pc' := 33) rfl ?_
  refine GoKit.iloadN G d24_33 rfl (pc' := 34) rfl ?_
  refine GoKit.iinc G (1 : Int32) d24_34 rfl rfl (Ls' := #[.val (.ref b), .val (.int ((2 * i).toInt32 + (1 : Int32))), .val (.int c1)]) rfl (pc' := 37) rfl ?_
  generalize hqv2 : ((2 * i).toInt32 + (1 : Int32)) = v2
  rw [toI_succ] at hqv2; subst hqv2
  refine GoKit.iloadN G d24_37 rfl (pc' := 38) rfl ?_
  refine GoKit.gets G d24_38 (wi hw 108 rfl) Via.refl HU.2.1 (pc' := 41) rfl ?_
  refine GoKit.ishr G d24_41 (pc' := 42) rfl (fun v3 hqv3 => ?_)
  refine GoKit.i2b G d24_42 (pc' := 43) rfl (fun v4 hqv4 => ?_)
  refine GoKit.bastI G d24_43 A (i := 2 * i) (toI_clamp (by omega)) (toI_nn (by omega)) (by omega) (x' := b0 c1) (by subst_vars; rw [sh0]; first | rfl | exact lo8_nar _) (List.Mem.head _) (pc' := 44) rfl (fun h7 W5 A6 => ?_)
  refine GoKit.aloadN G d24_44 rfl rfl (pc' := 45) rfl ?_
  refine GoKit.iloadN G d24_45 rfl (pc' := 46) rfl ?_
  refine GoKit.iloadN G d24_46 rfl (pc' := 47) rfl ?_
  refine GoKit.gets G d24_47 (wi hw 109 rfl) Via.refl HU.2.2 (pc' := 50) rfl ?_
  refine GoKit.ishr G d24_50 (pc' := 51) rfl (fun v8 hqv8 => ?_)
  refine GoKit.i2b G d24_51 (pc' := 52) rfl (fun v9 hqv9 => ?_)
  refine GoKit.bastI G d24_52 A6 (i := 2 * i + 1) (toI_clamp (by omega)) (toI_nn (by omega)) (by rw [List.length_set]; omega) (x' := b1 c1) (by subst_vars; rw [show ((c1 >>> ((8 : Int32) &&& 31)).toInt8.toInt32) = b1 c1 from rfl]; first | rfl | exact lo8_nar _) (List.Mem.head _) (pc' := 53) rfl (fun h12 W10 A11 => ?_)
  refine GoKit.retVoid G d24_53 rfl (by decide) (by decide) ?_
  exact ⟨rfl, A11⟩
theorem d25_0 : decode jdk_52_method_5_code 0 = .ok (.getstatic 44, 3) := by decide +kernel
theorem d25_3 : decode jdk_52_method_5_code 3 = .ok (.ifCond .ne 25, 3) := by decide +kernel
theorem d25_28 : decode jdk_52_method_5_code 28 = .ok (.iload_n 1, 1) := by decide +kernel
theorem d25_29 : decode jdk_52_method_5_code 29 = .ok (.iconst 1, 1) := by decide +kernel
theorem d25_30 : decode jdk_52_method_5_code 30 = .ok (.ishl, 1) := by decide +kernel
theorem d25_31 : decode jdk_52_method_5_code 31 = .ok (.istore_n 1, 1) := by decide +kernel
theorem d25_32 : decode jdk_52_method_5_code 32 = .ok (.aload_n 0, 1) := by decide +kernel
theorem d25_33 : decode jdk_52_method_5_code 33 = .ok (.iload_n 1, 1) := by decide +kernel
theorem d25_34 : decode jdk_52_method_5_code 34 = .ok (.iinc 1 1, 3) := by decide +kernel
theorem d25_37 : decode jdk_52_method_5_code 37 = .ok (.baload, 1) := by decide +kernel
theorem d25_38 : decode jdk_52_method_5_code 38 = .ok (.sipush 255, 3) := by decide +kernel
theorem d25_41 : decode jdk_52_method_5_code 41 = .ok (.iand, 1) := by decide +kernel
theorem d25_42 : decode jdk_52_method_5_code 42 = .ok (.getstatic 59, 3) := by decide +kernel
theorem d25_45 : decode jdk_52_method_5_code 45 = .ok (.ishl, 1) := by decide +kernel
theorem d25_46 : decode jdk_52_method_5_code 46 = .ok (.aload_n 0, 1) := by decide +kernel
theorem d25_47 : decode jdk_52_method_5_code 47 = .ok (.iload_n 1, 1) := by decide +kernel
theorem d25_48 : decode jdk_52_method_5_code 48 = .ok (.baload, 1) := by decide +kernel
theorem d25_49 : decode jdk_52_method_5_code 49 = .ok (.sipush 255, 3) := by decide +kernel
theorem d25_52 : decode jdk_52_method_5_code 52 = .ok (.iand, 1) := by decide +kernel
theorem d25_53 : decode jdk_52_method_5_code 53 = .ok (.getstatic 63, 3) := by decide +kernel
theorem d25_56 : decode jdk_52_method_5_code 56 = .ok (.ishl, 1) := by decide +kernel
theorem d25_57 : decode jdk_52_method_5_code 57 = .ok (.ior, 1) := by decide +kernel
theorem d25_58 : decode jdk_52_method_5_code 58 = .ok (.i2c, 1) := by decide +kernel
theorem d25_59 : decode jdk_52_method_5_code 59 = .ok (.ireturn, 1) := by decide +kernel
abbrev rm_con_getChar : Room := { frames := 0, cells := 0, slots := 0, locals := 0 }
set_option maxRecDepth 65536 in
set_option maxHeartbeats 40000000 in
theorem con_getChar (l : Launch) {Z : State} {a0 : Array Value} (hw : ∀ d ∈ tables_1, d.before a0 Z = true) {n0 : Nat} {h0 : Heap} {b : Addr} {cs : List Int32} {i : Nat} {ch : Int32} (A : IA Z h0 b .byte (u16 cs)) (hi : cs[i]? = some ch) (hch : ∀ c ∈ cs, 0 ≤ c.toInt ∧ c.toInt < 65536) (HU : Ust Z) :
    Con l Z true false ELs n0 (⟨"java/lang/StringUTF16", "getChar", "([BI)C"⟩ : MethodName) jdk_52_method_5_code 2 (some .char) rm_con_getChar [] #[(.ref b), (.int i.toInt32)] h0 [] (fun v h => v = some (.int ch) ∧ h = h0) := by
  refine Con.intro (plainFor_of_name pn_java_lang_StringUTF16) (hELs hw) ?_
  intro p e s m below meth c hh G
  refine castRun (g' := mkF m 0 #[.val (.ref b), .val (.int i.toInt32)] []) (by first | rfl | (simp [entryFrame, mkF, argsToLocals, Value.category, maxLocals]; done)) ?_
  have hl := A.len
  rw [u16_len] at hl
  have hil := (List.getElem?_eq_some_iff.mp hi).1
  obtain ⟨g0, g1⟩ := u16_get0 cs i ch hi
  refine GoKit.gets G d25_0 (wi hw 107 rfl) Via.refl HU.1 (pc' := 3) rfl ?_
  refine GoKit.if_ne_t G d25_3 (by decide) (by decide) (pc' := 28) rfl ?_
  refine GoKit.iloadN G d25_28 rfl (pc' := 29) rfl ?_
  refine GoKit.iconst G (1 : Int32) d25_29 rfl (pc' := 30) rfl ?_
  refine GoKit.ishl G d25_30 (pc' := 31) rfl (fun v1 hqv1 => ?_)
  obtain rfl : v1 = (2 * i).toInt32 := by rw [hqv1]; exact shl1 (by omega)
  refine GoKit.istoreN G d25_31 (Ls' := #[.val (.ref b), .val (.int (2 * i).toInt32)]) rfl (pc' := 32) rfl ?_
  refine GoKit.aloadN G d25_32 rfl rfl (pc' := 33) rfl ?_
  refine GoKit.iloadN G d25_33 rfl (pc' := 34) rfl ?_
  refine GoKit.iinc G (1 : Int32) d25_34 rfl rfl (Ls' := #[.val (.ref b), .val (.int ((2 * i).toInt32 + (1 : Int32)))]) rfl (pc' := 37) rfl ?_
  generalize hqv2 : ((2 * i).toInt32 + (1 : Int32)) = v2
  rw [toI_succ] at hqv2; subst hqv2
  refine GoKit.baloadI G d25_37 A (i := 2 * i) (toI_clamp (by omega)) (toI_nn (by omega)) (x := b0 ch) g0 (pc' := 38) rfl ?_
  refine GoKit.sipush G (255 : Int32) d25_38 rfl (pc' := 41) rfl ?_
  refine GoKit.iand G d25_41 (pc' := 42) rfl (fun v3 hqv3 => ?_)
  refine GoKit.gets G d25_42 (wi hw 108 rfl) Via.refl HU.2.1 (pc' := 45) rfl ?_
  refine GoKit.ishl G d25_45 (pc' := 46) rfl (fun v4 hqv4 => ?_)
  refine GoKit.aloadN G d25_46 rfl rfl (pc' := 47) rfl ?_
  refine GoKit.iloadN G d25_47 rfl (pc' := 48) rfl ?_
  refine GoKit.baloadI G d25_48 A (i := 2 * i + 1) (toI_clamp (by omega)) (toI_nn (by omega)) (x := b1 ch) g1 (pc' := 49) rfl ?_
  refine GoKit.sipush G (255 : Int32) d25_49 rfl (pc' := 52) rfl ?_
  refine GoKit.iand G d25_52 (pc' := 53) rfl (fun v5 hqv5 => ?_)
  refine GoKit.gets G d25_53 (wi hw 109 rfl) Via.refl HU.2.2 (pc' := 56) rfl ?_
  refine GoKit.ishl G d25_56 (pc' := 57) rfl (fun v6 hqv6 => ?_)
  refine GoKit.ior G d25_57 (pc' := 58) rfl (fun v7 hqv7 => ?_)
  refine GoKit.i2c G d25_58 (pc' := 59) rfl (fun v8 hqv8 => ?_)
  have c9 : nar .char v8 = v8 := by rw [hqv8]; exact nar_i2c _
  refine GoKit.retNar G d25_59 (t := .char) rfl (by simp) (by decide) (by decide) ?_
  exact ⟨by subst_vars; rw [u16_back (hch ch (List.mem_of_getElem? hi))], rfl⟩
theorem d21_8 : decode jdk_52_method_14_code 8 = .ok (.iload 4, 2) := by decide +kernel
theorem d21_10 : decode jdk_52_method_14_code 10 = .ok (.iload_n 2, 1) := by decide +kernel
theorem d21_11 : decode jdk_52_method_14_code 11 = .ok (.if_icmp .ge 21, 3) := by decide +kernel
theorem d21_32 : decode jdk_52_method_14_code 32 = .ok (.aload_n 3, 1) := by decide +kernel
theorem d21_33 : decode jdk_52_method_14_code 33 = .ok (.areturn, 1) := by decide +kernel
theorem d21_14 : decode jdk_52_method_14_code 14 = .ok (.aload_n 3, 1) := by decide +kernel
theorem d21_15 : decode jdk_52_method_14_code 15 = .ok (.iload 4, 2) := by decide +kernel
theorem d21_17 : decode jdk_52_method_14_code 17 = .ok (.aload_n 0, 1) := by decide +kernel
theorem d21_18 : decode jdk_52_method_14_code 18 = .ok (.iload_n 1, 1) := by decide +kernel
theorem d21_19 : decode jdk_52_method_14_code 19 = .ok (.caload, 1) := by decide +kernel
theorem d21_20 : decode jdk_52_method_14_code 20 = .ok (.invokestatic 111, 3) := by decide +kernel
theorem pd_5 : parseMethodDescriptor "([BII)V" = some ⟨[(.array .byte), .int, .int], none⟩ := by decide +kernel
theorem d21_23 : decode jdk_52_method_14_code 23 = .ok (.iinc 1 1, 3) := by decide +kernel
theorem d21_26 : decode jdk_52_method_14_code 26 = .ok (.iinc 4 1, 3) := by decide +kernel
theorem d21_29 : decode jdk_52_method_14_code 29 = .ok (.goto (-21), 3) := by decide +kernel
theorem d21_0 : decode jdk_52_method_14_code 0 = .ok (.iload_n 2, 1) := by decide +kernel
theorem d21_1 : decode jdk_52_method_14_code 1 = .ok (.invokestatic 107, 3) := by decide +kernel
theorem pd_6 : parseMethodDescriptor "(I)[B" = some ⟨[.int], some (.array .byte)⟩ := by decide +kernel
theorem d21_4 : decode jdk_52_method_14_code 4 = .ok (.astore_n 3, 1) := by decide +kernel
theorem d21_5 : decode jdk_52_method_14_code 5 = .ok (.iconst 0, 1) := by decide +kernel
theorem d21_6 : decode jdk_52_method_14_code 6 = .ok (.istore 4, 2) := by decide +kernel
abbrev rm_con_toBytesU : Room := { frames := 2, cells := 1, slots := 8, locals := 24 }
set_option maxRecDepth 65536 in
set_option maxHeartbeats 40000000 in
theorem con_toBytesU (l : Launch) {Z : State} {a0 : Array Value} (hw : ∀ d ∈ tables_1, d.before a0 Z = true) {n0 : Nat} {h0 : Heap} {b : Addr} {cs : List Int32} (A : IA Z h0 b .char cs) (hcap : cs.length ≤ 4) (HU : Ust Z) :
    Con l Z true false ELs n0 (⟨"java/lang/StringUTF16", "toBytes", "([CII)[B"⟩ : MethodName) jdk_52_method_14_code 5 (some (.array .byte)) rm_con_toBytesU [] #[(.ref b), (.int 0), (.int cs.length.toInt32)] h0 [] (fun v h => ∃ d, v = some (.ref d) ∧ IA Z h d .byte (u16 cs)) := by
  refine Con.intro (plainFor_of_name pn_java_lang_StringUTF16) (hELs hw) ?_
  intro p e s m below meth c hh G
  refine castRun (g' := mkF m 0 #[.val (.ref b), .val (.int 0), .val (.int cs.length.toInt32), .unset, .unset] []) (by first | rfl | (simp [entryFrame, mkF, argsToLocals, Value.category, maxLocals]; done)) ?_
  have hl := A.len
  have loop : ∀ (k i : Nat) (d : Addr) (h : Heap), i + k = cs.length → IA Z h b .char cs → IA Z h d .byte (u16 (cs.take i) ++ List.replicate (2 * k) 0) →
      Run p l e rm_con_toBytesU s m #[.ref b, .int 0, .int cs.length.toInt32] below meth c Z true false ELs n0 [] (fun v h => ∃ d, v = some (.ref d) ∧ IA Z h d .byte (u16 cs)) h [d] 1 8 (mkF m 8 #[.val (.ref b), .val (.int i.toInt32), .val (.int cs.length.toInt32), .val (.ref d), .val (.int i.toInt32)] []) := by
    intro k; induction k with
    | zero =>
      intro i d h hik A D
      have hi : i = cs.length := by omega
      subst hi
      refine GoKit.iload G d21_8 rfl (pc' := 10) rfl ?_
      refine GoKit.iloadN G d21_10 rfl (pc' := 11) rfl ?_
      refine GoKit.icmp_ge_t G d21_11 Int32.lt_irrefl (by decide) (pc' := 32) rfl ?_
      refine GoKit.aloadN G d21_32 rfl rfl (pc' := 33) rfl ?_
      refine GoKit.retRef G rfl d21_33 rfl rfl rfl (by decide) (by decide) ?_
      exact ⟨_, rfl, by simpa using D⟩
    | succ k ih =>
      intro i d h hik A D
      have hi : i < cs.length := by omega
      obtain ⟨ch, hc⟩ : ∃ ch, cs[i]? = some ch := ⟨cs[i], List.getElem?_eq_getElem hi⟩
      have hdl : (u16 (cs.take i) ++ List.replicate (2 * (k + 1)) 0).length = 2 * cs.length := by rw [List.length_append, u16_len, List.length_replicate, List.length_take]; omega
      refine GoKit.iload G d21_8 rfl (pc' := 10) rfl ?_
      refine GoKit.iloadN G d21_10 rfl (pc' := 11) rfl ?_
      refine GoKit.icmp_ge_f G d21_11 ((toI_lt (by omega) (by omega)).mpr hi) (pc' := 14) rfl ?_
      refine GoKit.aloadN G d21_14 rfl rfl (pc' := 15) rfl ?_
      refine GoKit.iload G d21_15 rfl (pc' := 17) rfl ?_
      refine GoKit.aloadN G d21_17 rfl rfl (pc' := 18) rfl ?_
      refine GoKit.iloadN G d21_18 rfl (pc' := 19) rfl ?_
      refine GoKit.caloadI G d21_19 A (i := i) (toI_clamp (by omega)) (toI_nn (by omega)) hc (pc' := 20) rfl ?_
      refine GoKit.callStatic G d21_20 (wi hw 104 rfl) (wi hw 105 rfl) (wi hw 83 rfl) (wi hw 106 rfl) (by decide) (owc := [d]) (W := 0) (argsL := [(.ref d), (.int i.toInt32), (.int ch)]) (rest := []) (con_putChar l hw D (by omega) HU) rfl (lenOf pd_5 rfl) rfl (by decide) (Nat.le_of_eq rfl) (by decide) (by decide) (by decide) (by intro x hx; simp only [List.mem_cons, List.not_mem_nil, or_false] at hx ⊢; simp [hx]) (cells' := 1) (slots' := 8) rfl rfl (pc' := 23) rfl (fun r1 h4 q2 K3 => ?_)
      obtain ⟨rfl, A5⟩ := q2
      rw [u16_set cs i k ch hc] at A5
      show Run _ _ _ _ _ _ _ _ _ _ _ _ _ _ _ _ _ _ _ _ _ (mkF m 23 #[.val (.ref b), .val (.int i.toInt32), .val (.int cs.length.toInt32), .val (.ref d), .val (.int i.toInt32)] [])
      refine GoKit.iinc G (1 : Int32) d21_23 rfl rfl (Ls' := #[.val (.ref b), .val (.int (i.toInt32 + (1 : Int32))), .val (.int cs.length.toInt32), .val (.ref d), .val (.int i.toInt32)]) rfl (pc' := 26) rfl ?_
      generalize hqv6 : (i.toInt32 + (1 : Int32)) = v6
      refine GoKit.iinc G (1 : Int32) d21_26 rfl rfl (Ls' := #[.val (.ref b), .val (.int v6), .val (.int cs.length.toInt32), .val (.ref d), .val (.int (i.toInt32 + (1 : Int32)))]) rfl (pc' := 29) rfl ?_
      generalize hqv7 : (i.toInt32 + (1 : Int32)) = v7
      refine GoKit.goto G d21_29 (by decide) (pc' := 8) rfl ?_
      rw [toI_succ] at hqv6; subst hqv6
      rw [toI_succ] at hqv7; subst hqv7
      exact ih (i + 1) d h4 (by omega) (A.keep K3 (ninS (IA.neTy A D (by decide)) nin0)) A5
  refine GoKit.iloadN G d21_0 rfl (pc' := 1) rfl ?_
  refine GoKit.callStaticO G d21_1 (wi hw 97 rfl) (wi hw 98 rfl) (wi hw 83 rfl) (wi hw 99 rfl) (by decide) (owc := []) (W := 0) (argsL := [(.int cs.length.toInt32)]) (rest := []) (con_nbf l hw hcap) rfl (lenOf pd_6 rfl) rfl (by decide) (Nat.le_of_eq rfl) (by decide) (by decide) (by decide) (fun _ q => nomatch q) (cells' := 1) (slots' := 8) rfl rfl (pc' := 4) rfl (fun _ _ ⟨d, e, _⟩ => ⟨d, e⟩) (fun d12 h11 q9 K10 le13 => ?_)
  obtain ⟨_, e15, A14⟩ := q9
  cases e15
  show Run _ _ _ _ _ _ _ _ _ _ _ _ _ _ _ _ _ _ _ _ _ (mkF m 4 #[.val (.ref b), .val (.int (0 : Int32)), .val (.int cs.length.toInt32), .unset, .unset] [(.ref d12)])
  refine GoKit.astoreN G d21_4 rfl (Ls' := #[.val (.ref b), .val (.int (0 : Int32)), .val (.int cs.length.toInt32), .val (.ref d12), .unset]) rfl (pc' := 5) rfl ?_
  refine GoKit.iconst G (0 : Int32) d21_5 rfl (pc' := 6) rfl ?_
  refine GoKit.istore G d21_6 (Ls' := #[.val (.ref b), .val (.int (0 : Int32)), .val (.int cs.length.toInt32), .val (.ref d12), .val (.int (0 : Int32))]) rfl (pc' := 8) rfl ?_
  exact loop cs.length 0 d12 h11 (by omega) (A.keep K10 nin0) (by simpa [u16] using A14)
theorem big_lt {c : Int32} (h : 255 < c.toInt) : (255 : Int32) < c := by rw [Int32.lt_iff_toInt_lt]; exact h
theorem d18_23 : decode jdk_52_method_21_code 23 = .ok (.iload 5, 2) := by decide +kernel
theorem d18_25 : decode jdk_52_method_21_code 25 = .ok (.ireturn, 1) := by decide +kernel
abbrev rm_con_compress5U : Room := { frames := 0, cells := 0, slots := 0, locals := 0 }
set_option maxRecDepth 65536 in
set_option maxHeartbeats 40000000 in
theorem con_compress5U (l : Launch) {Z : State} {a0 : Array Value} (hw : ∀ d ∈ tables_1, d.before a0 Z = true) {n0 : Nat} {h0 : Heap} {b d : Addr} {cs : List Int32} (A : IA Z h0 b .char cs) (D : IA Z h0 d .byte (List.replicate cs.length 0)) {i0 : Nat} {c0 : Int32} (hi0 : cs[i0]? = some c0) (hb0 : 255 < c0.toInt) (hlow : ∀ j, j < i0 → ∀ d, cs[j]? = some d → 0 ≤ d.toInt ∧ d.toInt < 256) :
    Con l Z true false ELs n0 (⟨"java/lang/StringUTF16", "compress", "([CI[BII)I"⟩ : MethodName) jdk_52_method_21_code 7 (some .int) rm_con_compress5U [] #[(.ref b), (.int 0), (.ref d), (.int 0), (.int cs.length.toInt32)] h0 [d] (fun v h => v = some (.int i0.toInt32)) := by
  refine Con.intro (plainFor_of_name pn_java_lang_StringUTF16) (hELs hw) ?_
  intro p e s m below meth c hh G
  refine castRun (g' := mkF m 0 #[.val (.ref b), .val (.int 0), .val (.ref d), .val (.int 0), .val (.int cs.length.toInt32), .unset, .unset] []) (by first | rfl | (simp [entryFrame, mkF, argsToLocals, Value.category, maxLocals]; done)) ?_
  have hl := A.len
  have hil := (List.getElem?_eq_some_iff.mp hi0).1
  have loop : ∀ (k i : Nat) (h : Heap) (ys : List Int32) (sl : Slot), i + k = i0 → IA Z h b .char cs → IA Z h d .byte ys → ys.length = cs.length → (sl = .unset ∨ ∃ w, sl = .val w ∧ w.category = 1) →
      Run p l e rm_con_compress5U s m #[.ref b, .int 0, .ref d, .int 0, .int cs.length.toInt32] below meth c Z true false ELs n0 [d] (fun v h => v = some (.int i0.toInt32)) h [d] 0 0 (mkF m 3 #[.val (.ref b), .val (.int i.toInt32), .val (.ref d), .val (.int i.toInt32), .val (.int cs.length.toInt32), .val (.int i.toInt32), sl] []) := by
    intro k; induction k with
    | zero =>
      intro i h ys sl hik A D hys hsl
      have e0 : i = i0 := by omega
      subst e0
      refine GoKit.iload G d18_3 rfl (pc' := 5) rfl ?_
      refine GoKit.iload G d18_5 rfl (pc' := 7) rfl ?_
      refine GoKit.icmp_ge_f G d18_7 ((toI_lt (by omega) (by omega)).mpr hil) (pc' := 10) rfl ?_
      refine GoKit.aloadN G d18_10 rfl rfl (pc' := 11) rfl ?_
      refine GoKit.iloadN G d18_11 rfl (pc' := 12) rfl ?_
      refine GoKit.caloadI G d18_12 A (i := i) (toI_clamp (by omega)) (toI_nn (by omega)) hi0 (pc' := 13) rfl ?_
      refine GoKit.istore G d18_13 (Ls' := #[.val (.ref b), .val (.int i.toInt32), .val (.ref d), .val (.int i.toInt32), .val (.int cs.length.toInt32), .val (.int i.toInt32), .val (.int c0)]) (XS.store1 rfl hsl rfl) (pc' := 15) rfl ?_
      refine GoKit.iload G d18_15 rfl (pc' := 17) rfl ?_
      refine GoKit.sipush G (255 : Int32) d18_17 rfl (pc' := 20) rfl ?_
      refine GoKit.icmp_le_f G d18_20 (big_lt hb0) (pc' := 23) rfl ?_
      refine GoKit.iload G d18_23 rfl (pc' := 25) rfl ?_
      refine GoKit.retInt G d18_25 rfl (by decide) (by decide) ?_
      exact rfl
    | succ k ih =>
      intro i h ys sl hik A D hys hsl
      obtain ⟨ch, hc⟩ : ∃ ch, cs[i]? = some ch := ⟨cs[i]'(by omega), List.getElem?_eq_getElem (by omega)⟩
      have hcl := hlow i (by omega) ch hc
      refine GoKit.iload G d18_3 rfl (pc' := 5) rfl ?_
      refine GoKit.iload G d18_5 rfl (pc' := 7) rfl ?_
      refine GoKit.icmp_ge_f G d18_7 ((toI_lt (by omega) (by omega)).mpr (by omega)) (pc' := 10) rfl ?_
      refine GoKit.aloadN G d18_10 rfl rfl (pc' := 11) rfl ?_
      refine GoKit.iloadN G d18_11 rfl (pc' := 12) rfl ?_
      refine GoKit.caloadI G d18_12 A (i := i) (toI_clamp (by omega)) (toI_nn (by omega)) hc (pc' := 13) rfl ?_
      refine GoKit.istore G d18_13 (Ls' := #[.val (.ref b), .val (.int i.toInt32), .val (.ref d), .val (.int i.toInt32), .val (.int cs.length.toInt32), .val (.int i.toInt32), .val (.int ch)]) (XS.store1 rfl hsl rfl) (pc' := 15) rfl ?_
      refine GoKit.iload G d18_15 rfl (pc' := 17) rfl ?_
      refine GoKit.sipush G (255 : Int32) d18_17 rfl (pc' := 20) rfl ?_
      refine GoKit.icmp_le_t G d18_20 (lat_le hcl) (by decide) (pc' := 26) rfl ?_
      refine GoKit.aloadN G d18_26 rfl rfl (pc' := 27) rfl ?_
      refine GoKit.iloadN G d18_27 rfl (pc' := 28) rfl ?_
      refine GoKit.iload G d18_28 rfl (pc' := 30) rfl ?_
      refine GoKit.i2b G d18_30 (pc' := 31) rfl (fun v1 hqv1 => ?_)
      refine GoKit.bastI G d18_31 D (i := i) (toI_clamp (by omega)) (toI_nn (by omega)) (by omega) (x' := ch.toInt8.toInt32) (by rw [hqv1]; exact lo8_nar _) (List.Mem.head _) (pc' := 32) rfl (fun h' W' D' => ?_)
      refine GoKit.iinc G (1 : Int32) d18_32 rfl rfl (Ls' := #[.val (.ref b), .val (.int (i.toInt32 + (1 : Int32))), .val (.ref d), .val (.int i.toInt32), .val (.int cs.length.toInt32), .val (.int i.toInt32), .val (.int ch)]) rfl (pc' := 35) rfl ?_
      generalize hqv2 : (i.toInt32 + (1 : Int32)) = v2
      refine GoKit.iinc G (1 : Int32) d18_35 rfl rfl (Ls' := #[.val (.ref b), .val (.int v2), .val (.ref d), .val (.int (i.toInt32 + (1 : Int32))), .val (.int cs.length.toInt32), .val (.int i.toInt32), .val (.int ch)]) rfl (pc' := 38) rfl ?_
      generalize hqv3 : (i.toInt32 + (1 : Int32)) = v3
      refine GoKit.iinc G (1 : Int32) d18_38 rfl rfl (Ls' := #[.val (.ref b), .val (.int v2), .val (.ref d), .val (.int v3), .val (.int cs.length.toInt32), .val (.int (i.toInt32 + (1 : Int32))), .val (.int ch)]) rfl (pc' := 41) rfl ?_
      generalize hqv4 : (i.toInt32 + (1 : Int32)) = v4
      refine GoKit.goto G d18_41 (by decide) (pc' := 3) rfl ?_
      rw [toI_succ] at hqv2; subst hqv2
      rw [toI_succ] at hqv3; subst hqv3
      rw [toI_succ] at hqv4; subst hqv4
      exact ih (i + 1) h' _ (.val (.int ch)) (by omega) (A.other W' (IA.neTy A D (by decide))) D' (by rw [List.length_set]; exact hys) (Or.inr ⟨_, rfl, rfl⟩)
  refine GoKit.iconst G (0 : Int32) d18_0 rfl (pc' := 1) rfl ?_
  refine GoKit.istore G d18_1 (Ls' := #[.val (.ref b), .val (.int (0 : Int32)), .val (.ref d), .val (.int (0 : Int32)), .val (.int cs.length.toInt32), .val (.int (0 : Int32)), .unset]) rfl (pc' := 3) rfl ?_
  exact loop i0 0 h0 _ .unset (by omega) A D (by simp) (Or.inl rfl)
theorem d17_20 : decode jdk_52_method_16_code 20 = .ok (.aload_n 0, 1) := by decide +kernel
theorem d17_21 : decode jdk_52_method_16_code 21 = .ok (.iload_n 1, 1) := by decide +kernel
theorem d17_22 : decode jdk_52_method_16_code 22 = .ok (.iload_n 2, 1) := by decide +kernel
theorem d17_23 : decode jdk_52_method_16_code 23 = .ok (.invokestatic 119, 3) := by decide +kernel
theorem d17_26 : decode jdk_52_method_16_code 26 = .ok (.astore 5, 2) := by decide +kernel
theorem d17_28 : decode jdk_52_method_16_code 28 = .ok (.aload 5, 2) := by decide +kernel
theorem d17_30 : decode jdk_52_method_16_code 30 = .ok (.iload 4, 2) := by decide +kernel
theorem d17_32 : decode jdk_52_method_16_code 32 = .ok (.invokestatic 71, 3) := by decide +kernel
theorem pd_7 : parseMethodDescriptor "([BI)C" = some ⟨[(.array .byte), .int], some .char⟩ := by decide +kernel
theorem d17_35 : decode jdk_52_method_16_code 35 = .ok (.sipush 255, 3) := by decide +kernel
theorem d17_38 : decode jdk_52_method_16_code 38 = .ok (.if_icmp .gt 16, 3) := by decide +kernel
theorem d17_54 : decode jdk_52_method_16_code 54 = .ok (.aload 5, 2) := by decide +kernel
theorem d17_56 : decode jdk_52_method_16_code 56 = .ok (.areturn, 1) := by decide +kernel
abbrev rm_con_compress3U : Room := { frames := 3, cells := 2, slots := 12, locals := 40 }
set_option maxRecDepth 65536 in
set_option maxHeartbeats 40000000 in
theorem con_compress3U (l : Launch) {Z : State} {a0 : Array Value} (hw : ∀ d ∈ tables_1, d.before a0 Z = true) {n0 : Nat} {h0 : Heap} {b : Addr} {cs : List Int32} (A : IA Z h0 b .char cs) (hcap : cs.length ≤ 4) (hch : ∀ c ∈ cs, 0 ≤ c.toInt ∧ c.toInt < 65536) {i0 : Nat} {c0 : Int32} (hi0 : cs[i0]? = some c0) (hb0 : 255 < c0.toInt) (hlow : ∀ j, j < i0 → ∀ d, cs[j]? = some d → 0 ≤ d.toInt ∧ d.toInt < 256) (HU : Ust Z) :
    Con l Z true false ELs n0 (⟨"java/lang/StringUTF16", "compress", "([CII)[B"⟩ : MethodName) jdk_52_method_16_code 6 (some (.array .byte)) rm_con_compress3U [] #[(.ref b), (.int 0), (.int cs.length.toInt32)] h0 [] (fun v h => ∃ d, v = some (.ref d) ∧ IA Z h d .byte (u16 cs)) := by
  refine Con.intro (plainFor_of_name pn_java_lang_StringUTF16) (hELs hw) ?_
  intro p e s m below meth c hh G
  refine castRun (g' := mkF m 0 #[.val (.ref b), .val (.int 0), .val (.int cs.length.toInt32), .unset, .unset, .unset] []) (by first | rfl | (simp [entryFrame, mkF, argsToLocals, Value.category, maxLocals]; done)) ?_
  have hl := A.len
  have hil := (List.getElem?_eq_some_iff.mp hi0).1
  refine GoKit.iloadN G d17_0 rfl (pc' := 1) rfl ?_
  refine GoKit.newbI G d17_1 (wi hw 24 rfl) (toI_nn hl) (k := cs.length) (cap := 4) (toI_clamp hl) hcap (by decide) (by decide) (by decide) (cells' := 1) (slots' := 4) rfl rfl (pc' := 3) rfl (fun h4 a1 ga1 E2 A3 => ?_)
  refine GoKit.astoreN G d17_3 rfl (Ls' := #[.val (.ref b), .val (.int 0), .val (.int cs.length.toInt32), .val (.ref a1), .unset, .unset]) rfl (pc' := 4) rfl ?_
  refine GoKit.aloadN G d17_4 rfl rfl (pc' := 5) rfl ?_
  refine GoKit.iloadN G d17_5 rfl (pc' := 6) rfl ?_
  refine GoKit.aloadN G d17_6 rfl rfl (pc' := 7) rfl ?_
  refine GoKit.iconst G (0 : Int32) d17_7 rfl (pc' := 8) rfl ?_
  refine GoKit.iloadN G d17_8 rfl (pc' := 9) rfl ?_
  refine GoKit.callStatic G d17_9 (wi hw 85 rfl) (wi hw 86 rfl) (wi hw 83 rfl) (wi hw 87 rfl) (by decide) (owc := [a1]) (W := 0) (argsL := [(.ref b), (.int 0), (.ref a1), (.int (0 : Int32)), (.int cs.length.toInt32)]) (rest := []) (con_compress5U l hw (A.ext E2) A3 hi0 hb0 hlow) rfl (lenOf pd_0 rfl) rfl (by decide) (Nat.le_of_eq rfl) (by decide) (by decide) (by decide) (by intro x hx; simp only [List.mem_cons, List.not_mem_nil, or_false] at hx ⊢; simp [hx]) (cells' := 1) (slots' := 4) rfl rfl (pc' := 12) rfl (fun r5 h8 q6 K7 => ?_)
  obtain rfl := q6
  show Run _ _ _ _ _ _ _ _ _ _ _ _ _ _ _ _ _ _ _ _ _ (mkF m 12 #[.val (.ref b), .val (.int 0), .val (.int cs.length.toInt32), .val (.ref a1), .unset, .unset] [(.int i0.toInt32)])
  refine GoKit.istore G d17_12 (Ls' := #[.val (.ref b), .val (.int 0), .val (.int cs.length.toInt32), .val (.ref a1), .val (.int i0.toInt32), .unset]) rfl (pc' := 14) rfl ?_
  refine GoKit.iload G d17_14 rfl (pc' := 16) rfl ?_
  refine GoKit.iloadN G d17_16 rfl (pc' := 17) rfl ?_
  refine GoKit.icmp_eq_f G d17_17 (fun q => Nat.ne_of_lt hil ((toI_eq (by omega) hl).mp q)) (pc' := 20) rfl ?_
  refine GoKit.aloadN G d17_20 rfl rfl (pc' := 21) rfl ?_
  refine GoKit.iloadN G d17_21 rfl (pc' := 22) rfl ?_
  refine GoKit.iloadN G d17_22 rfl (pc' := 23) rfl ?_
  refine GoKit.callStatic G d17_23 (wi hw 94 rfl) (wi hw 95 rfl) (wi hw 83 rfl) (wi hw 96 rfl) (by decide) (owc := []) (W := 0) (argsL := [(.ref b), (.int 0), (.int cs.length.toInt32)]) (rest := []) (con_toBytesU l hw ((A.ext E2).keep K7 (ninS (Nat.ne_of_lt (Nat.lt_of_lt_of_le (A).lt (Nat.le_of_eq ga1.symm))) nin0)) hcap HU) rfl (lenOf pd_1 rfl) rfl (by decide) (Nat.le_of_eq rfl) (by decide) (by decide) (by decide) (fun _ q => nomatch q) (cells' := 2) (slots' := 12) rfl rfl (pc' := 26) rfl (fun r9 h12 q10 K11 => ?_)
  obtain ⟨d13, rfl, A14⟩ := q10
  show Run _ _ _ _ _ _ _ _ _ _ _ _ _ _ _ _ _ _ _ _ _ (mkF m 26 #[.val (.ref b), .val (.int 0), .val (.int cs.length.toInt32), .val (.ref a1), .val (.int i0.toInt32), .unset] [(.ref d13)])
  refine GoKit.astore G d17_26 rfl (Ls' := #[.val (.ref b), .val (.int 0), .val (.int cs.length.toInt32), .val (.ref a1), .val (.int i0.toInt32), .val (.ref d13)]) rfl (pc' := 28) rfl ?_
  refine GoKit.aload G d17_28 rfl rfl (pc' := 30) rfl ?_
  refine GoKit.iload G d17_30 rfl (pc' := 32) rfl ?_
  refine GoKit.callStaticP G d17_32 (wi hw 110 rfl) (wi hw 111 rfl) (wi hw 83 rfl) (wi hw 112 rfl) (by decide) (W := 0) (argsL := [(.ref d13), (.int i0.toInt32)]) (rest := []) (con_getChar l hw A14 hi0 hch HU) rfl (lenOf pd_7 rfl) rfl (by decide) (Nat.le_of_eq rfl) (by decide) (by decide) (by decide) (cells' := 2) (slots' := 12) rfl rfl (pc' := 35) rfl ?_
  show Run _ _ _ _ _ _ _ _ _ _ _ _ _ _ _ _ _ _ _ _ _ (mkF m 35 #[.val (.ref b), .val (.int 0), .val (.int cs.length.toInt32), .val (.ref a1), .val (.int i0.toInt32), .val (.ref d13)] [(.int c0)])
  refine GoKit.sipush G (255 : Int32) d17_35 rfl (pc' := 38) rfl ?_
  refine GoKit.icmp_gt_t G d17_38 (big_lt hb0) (by decide) (pc' := 54) rfl ?_
  refine GoKit.aload G d17_54 rfl rfl (pc' := 56) rfl ?_
  refine GoKit.retRef G rfl d17_56 rfl rfl rfl (by decide) (by decide) ?_
  exact ⟨_, rfl, A14⟩
abbrev rm_con_coderLenU : Room := { frames := 0, cells := 0, slots := 0, locals := 0 }
set_option maxRecDepth 65536 in
set_option maxHeartbeats 40000000 in
theorem con_coderLenU (l : Launch) {Z : State} {a0 : Array Value} (hw : ∀ d ∈ tables_1, d.before a0 Z = true) {n0 : Nat} {h0 : Heap} {d : Addr} {cs : List Int32} (A : IA Z h0 d .byte (u16 cs)) (hn : 0 < cs.length) (hl : cs.length < 2 ^ 30) :
    Con l Z true false ELs n0 (⟨"java/lang/StringUTF16", "coderFromArrayLen", "([BI)B"⟩ : MethodName) jdk_52_method_15_code 2 (some .byte) rm_con_coderLenU [] #[(.ref d), (.int cs.length.toInt32)] h0 [] (fun v h => v = some (.int 1) ∧ h = h0) := by
  refine Con.intro (plainFor_of_name pn_java_lang_StringUTF16) (hELs hw) ?_
  intro p e s m below meth c hh G
  refine castRun (g' := mkF m 0 #[.val (.ref d), .val (.int cs.length.toInt32)] []) (by first | rfl | (simp [entryFrame, mkF, argsToLocals, Value.category, maxLocals]; done)) ?_
  refine GoKit.iloadN G d19_0 rfl (pc' := 1) rfl ?_
  refine GoKit.aloadN G d19_1 rfl rfl (pc' := 2) rfl ?_
  refine GoKit.arrlenI G d19_2 A (z := (2 * cs.length).toInt32) (by rw [u16_len]) (pc' := 3) rfl ?_
  refine GoKit.isub G d19_3 (pc' := 4) rfl (fun v1 hqv1 => ?_)
  refine GoKit.bipush G (31 : Int32) d19_4 rfl (pc' := 6) rfl ?_
  refine GoKit.iushr G d19_6 (pc' := 7) rfl (fun v2 hqv2 => ?_)
  refine GoKit.i2b G d19_7 (pc' := 8) rfl (fun v3 hqv3 => ?_)
  refine GoKit.retNar G d19_8 (t := .byte) rfl (by simp) (by decide) (by decide) ?_
  exact ⟨by subst_vars; rw [coderU hn hl], rfl⟩
abbrev rm_con_strInit4U : Room := { frames := 4, cells := 2, slots := 12, locals := 57 }
set_option maxRecDepth 65536 in
set_option maxHeartbeats 40000000 in
theorem con_strInit4U (l : Launch) {Z : State} {a0 : Array Value} (hw : ∀ d ∈ tables_1, d.before a0 Z = true) {n0 : Nat} {h0 : Heap} {a b : Addr} {cs : List Int32} (E : Exa Z h0 a "java/lang/String") (FV : Fld Z h0 a "java/lang/String" "value" "[B" .null) (FC : Fld Z h0 a "java/lang/String" "coder" "B" (.int 0)) (A : IA Z h0 b .char cs) (hcap : cs.length ≤ 4) (hch : ∀ c ∈ cs, 0 ≤ c.toInt ∧ c.toInt < 65536) {i0 : Nat} {c0 : Int32} (hi0 : cs[i0]? = some c0) (hb0 : 255 < c0.toInt) (hlow : ∀ j, j < i0 → ∀ d, cs[j]? = some d → 0 ≤ d.toInt ∧ d.toInt < 256) (HC : Cst Z) (HU : Ust Z) :
    Con l Z true false ELs n0 (⟨"java/lang/String", "<init>", "([CIILjava/lang/Void;)V"⟩ : MethodName) jdk_42_method_149_code 6 none rm_con_strInit4U [] #[(.ref a), (.ref b), (.int 0), (.int cs.length.toInt32), .null] h0 [a] (fun v h => v = none ∧ U16 Z h a cs) := by
  refine Con.intro (plainFor_of_name pn_java_lang_String) (hELs hw) ?_
  intro p e s m below meth c hh G
  refine castRun (g' := mkF m 0 #[.val (.ref a), .val (.ref b), .val (.int 0), .val (.int cs.length.toInt32), .val .null, .unset] []) (by first | rfl | (simp [entryFrame, mkF, argsToLocals, Value.category, maxLocals]; done)) ?_
  obtain ⟨cz, SC, hcz⟩ := id HC
  have hl := A.len
  have hil := (List.getElem?_eq_some_iff.mp hi0).1
  refine GoKit.aloadN G d4_0 rfl rfl (pc' := 1) rfl ?_
  refine GoKit.initObj G d4_1 (wi hw 20 rfl) (wi hw 21 rfl) (wi hw 22 rfl) rfl (by decide) (W := 0) (Nat.le_of_eq rfl) (by decide) (pc' := 4) rfl ?_
  refine GoKit.iloadN G d4_4 rfl (pc' := 5) rfl ?_
  refine GoKit.if_ne_t G d4_5 (fun q => by have := (toI_eq (k := 0) hl (by decide)).mp q; omega) (by decide) (pc' := 27) rfl ?_
  refine GoKit.gets G d4_27 (wi hw 50 rfl) Via.refl SC (pc' := 30) rfl ?_
  refine GoKit.if_eq_f G d4_30 hcz (pc' := 33) rfl ?_
  refine GoKit.aloadN G d4_33 rfl rfl (pc' := 34) rfl ?_
  refine GoKit.iloadN G d4_34 rfl (pc' := 35) rfl ?_
  refine GoKit.iloadN G d4_35 rfl (pc' := 36) rfl ?_
  refine GoKit.callStatic G d4_36 (wi hw 81 rfl) (wi hw 82 rfl) (wi hw 83 rfl) (wi hw 84 rfl) (by decide) (owc := []) (W := 0) (argsL := [(.ref b), (.int 0), (.int cs.length.toInt32)]) (rest := []) (con_compress3U l hw A hcap hch hi0 hb0 hlow HU) rfl (lenOf pd_1 rfl) rfl (by decide) (Nat.le_of_eq rfl) (by decide) (by decide) (by decide) (fun _ q => nomatch q) (cells' := 2) (slots' := 12) rfl rfl (pc' := 39) rfl (fun r1 h4 q2 K3 => ?_)
  obtain ⟨d5, rfl, A6⟩ := q2
  have ne7 := IA.ne A6 (E.keep K3) (wi hw 10 rfl)
  show Run _ _ _ _ _ _ _ _ _ _ _ _ _ _ _ _ _ _ _ _ _ (mkF m 39 #[.val (.ref a), .val (.ref b), .val (.int 0), .val (.int cs.length.toInt32), .val .null, .unset] [(.ref d5)])
  refine GoKit.astore G d4_39 rfl (Ls' := #[.val (.ref a), .val (.ref b), .val (.int 0), .val (.int cs.length.toInt32), .val .null, .val (.ref d5)]) rfl (pc' := 41) rfl ?_
  refine GoKit.aloadN G d4_41 rfl rfl (pc' := 42) rfl ?_
  refine GoKit.aload G d4_42 rfl rfl (pc' := 44) rfl ?_
  refine GoKit.iloadN G d4_44 rfl (pc' := 45) rfl ?_
  refine GoKit.callStaticP G d4_45 (wi hw 88 rfl) (wi hw 89 rfl) (wi hw 83 rfl) (wi hw 90 rfl) (by decide) (W := 1) (argsL := [(.ref d5), (.int cs.length.toInt32)]) (rest := [(.ref a)]) (con_coderLenU l hw A6 (by omega) (by omega)) rfl (lenOf pd_2 rfl) rfl (by decide) (Nat.le_of_eq rfl) (by decide) (by decide) (by decide) (cells' := 2) (slots' := 12) rfl rfl (pc' := 48) rfl ?_
  show Run _ _ _ _ _ _ _ _ _ _ _ _ _ _ _ _ _ _ _ _ _ (mkF m 48 #[.val (.ref a), .val (.ref b), .val (.int 0), .val (.int cs.length.toInt32), .val .null, .val (.ref d5)] [(.int 1), (.ref a)])
  refine GoKit.putf G d4_48 (wi hw 30 rfl) Via.refl (FC.keep K3 nin0) (E.keep K3) (Or.inr ⟨(wi hw 26 rfl), rfl, rfl⟩) (wi hw 10 rfl) (ty := .byte) (by decide) rfl rfl (List.Mem.head _) (pc' := 51) rfl (fun h9 W8 => ?_)
  have F10 := ((FC.keep K3 nin0)).same W8
  refine GoKit.aloadN G d4_51 rfl rfl (pc' := 52) rfl ?_
  refine GoKit.aload G d4_52 rfl rfl (pc' := 54) rfl ?_
  refine GoKit.putf G d4_54 (wi hw 29 rfl) Via.refl ((FV.keep K3 nin0).other W8 (Or.inr (slot_ne (Or.inr (wi hw 25 rfl)) (Or.inr (wi hw 26 rfl)) (by decide) (by decide : _ = some (.array .byte)) (by decide : _ = some .byte)))) ((E.keep K3).wr W8) (Or.inr ⟨(wi hw 25 rfl), rfl, rfl⟩) (wi hw 10 rfl) (ty := (.array .byte)) (by decide) rfl rfl (List.Mem.head _) (pc' := 57) rfl (fun h12 W11 => ?_)
  have F13 := (((FV.keep K3 nin0).other W8 (Or.inr (slot_ne (Or.inr (wi hw 25 rfl)) (Or.inr (wi hw 26 rfl)) (by decide) (by decide : _ = some (.array .byte)) (by decide : _ = some .byte))))).same W11
  refine GoKit.retVoid G d4_57 rfl (by decide) (by decide) ?_
  exact ⟨rfl, (((E.keep K3).wr W8).wr W11), ⟨d5, F13, (F10.other W11 (Or.inr (slot_ne (Or.inr (wi hw 26 rfl)) (Or.inr (wi hw 25 rfl)) (by decide) (by decide : _ = some .byte) (by decide : _ = some (.array .byte))))), ((A6.other W8 ne7).other W11 ne7)⟩, hch, by omega⟩
abbrev rm_con_strInitU : Room := { frames := 5, cells := 2, slots := 12, locals := 74 }
set_option maxRecDepth 65536 in
set_option maxHeartbeats 40000000 in
theorem con_strInitU (l : Launch) {Z : State} {a0 : Array Value} (hw : ∀ d ∈ tables_1, d.before a0 Z = true) {n0 : Nat} {h0 : Heap} {a b : Addr} {cs : List Int32} (E : Exa Z h0 a "java/lang/String") (FV : Fld Z h0 a "java/lang/String" "value" "[B" .null) (FC : Fld Z h0 a "java/lang/String" "coder" "B" (.int 0)) (A : IA Z h0 b .char cs) (hcap : cs.length ≤ 4) (hch : ∀ c ∈ cs, 0 ≤ c.toInt ∧ c.toInt < 65536) {i0 : Nat} {c0 : Int32} (hi0 : cs[i0]? = some c0) (hb0 : 255 < c0.toInt) (hlow : ∀ j, j < i0 → ∀ d, cs[j]? = some d → 0 ≤ d.toInt ∧ d.toInt < 256) (HC : Cst Z) (HU : Ust Z) :
    Con l Z true false ELs n0 (⟨"java/lang/String", "<init>", "([C)V"⟩ : MethodName) jdk_42_method_3_code 2 none rm_con_strInitU [] #[(.ref a), (.ref b)] h0 [a] (fun v h => v = none ∧ Str Z h a cs) := by
  refine Con.intro (plainFor_of_name pn_java_lang_String) (hELs hw) ?_
  intro p e s m below meth c hh G
  refine castRun (g' := mkF m 0 #[.val (.ref a), .val (.ref b)] []) (by first | rfl | (simp [entryFrame, mkF, argsToLocals, Value.category, maxLocals]; done)) ?_
  refine GoKit.aloadN G d3_0 rfl rfl (pc' := 1) rfl ?_
  refine GoKit.aloadN G d3_1 rfl rfl (pc' := 2) rfl ?_
  refine GoKit.iconst G (0 : Int32) d3_2 rfl (pc' := 3) rfl ?_
  refine GoKit.aloadN G d3_3 rfl rfl (pc' := 4) rfl ?_
  refine GoKit.arrlenI G d3_4 A (z := cs.length.toInt32) rfl (pc' := 5) rfl ?_
  refine GoKit.aconstNull G d3_5 (pc' := 6) rfl ?_
  refine GoKit.callSpecial G d3_6 rfl (wi hw 16 rfl) (wi hw 17 rfl) (wi hw 11 rfl) (wi hw 19 rfl) (by decide) (owc := [a]) (W := 0) (argsL := [(.ref b), (.int (0 : Int32)), (.int cs.length.toInt32), .null]) (rest := []) (con_strInit4U l hw E FV FC A hcap hch hi0 hb0 hlow HC HU) rfl (lenOf pd_3 rfl) rfl (by decide) (Nat.le_of_eq rfl) (by decide) (by decide) (by decide) (by intro x hx; simp only [List.mem_cons, List.not_mem_nil, or_false] at hx ⊢; simp [hx]) (cells' := 2) (slots' := 12) rfl rfl (pc' := 9) rfl (fun r1 h4 q2 K3 => ?_)
  obtain ⟨rfl, S5⟩ := q2
  show Run _ _ _ _ _ _ _ _ _ _ _ _ _ _ _ _ _ _ _ _ _ (mkF m 9 #[.val (.ref a), .val (.ref b)] [])
  refine GoKit.retVoid G d3_9 rfl (by decide) (by decide) ?_
  exact ⟨rfl, Or.inr S5⟩
theorem con_strInitS (l : Launch) {Z : State} {a0 : Array Value} (hw : ∀ d ∈ tables_1, d.before a0 Z = true) {n0 : Nat} {h0 : Heap} {a b : Addr} {cs : List Int32} (E : Exa Z h0 a "java/lang/String") (FV : Fld Z h0 a "java/lang/String" "value" "[B" .null) (FC : Fld Z h0 a "java/lang/String" "coder" "B" (.int 0)) (A : IA Z h0 b .char cs) (hcap : cs.length ≤ 4) (hch : ∀ c ∈ cs, 0 ≤ c.toInt ∧ c.toInt < 65536) (hne : cs ≠ []) (HC : Cst Z) (HU : Ust Z) :
    Con l Z true false ELs n0 (⟨"java/lang/String", "<init>", "([C)V"⟩ : MethodName) jdk_42_method_3_code 2 none rm_con_strInitU [] #[.ref a, .ref b] h0 [a] (fun v h => v = none ∧ Str Z h a cs) := by
  by_cases hl : ∀ c ∈ cs, 0 ≤ c.toInt ∧ c.toInt < 256
  · exact con_mono (con_strInit l hw E FV FC A hcap hl hne HC) fun v h q => ⟨q.1, Or.inl q.2⟩
  · obtain ⟨i0, c0, h1, h2, h3⟩ := first_big hch hl
    exact con_strInitU l hw E FV FC A hcap hch h1 h2 h3 HC HU
theorem d4_8 : decode jdk_42_method_149_code 8 = .ok (.aload_n 0, 1) := by decide +kernel
theorem d4_9 : decode jdk_42_method_149_code 9 = .ok (.ldc 7, 2) := by decide +kernel
theorem d4_11 : decode jdk_42_method_149_code 11 = .ok (.getfield 9, 3) := by decide +kernel
theorem d4_14 : decode jdk_42_method_149_code 14 = .ok (.putfield 9, 3) := by decide +kernel
theorem d4_17 : decode jdk_42_method_149_code 17 = .ok (.aload_n 0, 1) := by decide +kernel
theorem d4_18 : decode jdk_42_method_149_code 18 = .ok (.ldc 7, 2) := by decide +kernel
theorem d4_20 : decode jdk_42_method_149_code 20 = .ok (.getfield 15, 3) := by decide +kernel
theorem d4_23 : decode jdk_42_method_149_code 23 = .ok (.putfield 15, 3) := by decide +kernel
theorem d4_26 : decode jdk_42_method_149_code 26 = .ok (.return_, 1) := by decide +kernel
abbrev rm_con_strInitE4 : Room := { frames := 1, cells := 4, slots := 8, locals := 12 }
set_option maxRecDepth 65536 in
set_option maxHeartbeats 40000000 in
theorem con_strInitE4 (l : Launch) {Z : State} {a0 : Array Value} (hw : ∀ d ∈ tables_1, d.before a0 Z = true) {n0 : Nat} {h0 : Heap} {a b : Addr} (E : Exa Z h0 a "java/lang/String") (FV : Fld Z h0 a "java/lang/String" "value" "[B" .null) (FC : Fld Z h0 a "java/lang/String" "coder" "B" (.int 0)) (A : IA Z h0 b .char []) :
    Con l Z true false ELs n0 (⟨"java/lang/String", "<init>", "([CIILjava/lang/Void;)V"⟩ : MethodName) jdk_42_method_149_code 6 none rm_con_strInitE4 [] #[(.ref a), (.ref b), (.int 0), (.int 0), .null] h0 [a] (fun v h => v = none ∧ Lat Z h a []) := by
  refine Con.intro (plainFor_of_name pn_java_lang_String) (hELs hw) ?_
  intro p e s m below meth c hh G
  refine castRun (g' := mkF m 0 #[.val (.ref a), .val (.ref b), .val (.int 0), .val (.int 0), .val .null, .unset] []) (by first | rfl | (simp [entryFrame, mkF, argsToLocals, Value.category, maxLocals]; done)) ?_
  refine GoKit.aloadN G d4_0 rfl rfl (pc' := 1) rfl ?_
  refine GoKit.initObj G d4_1 (wi hw 20 rfl) (wi hw 21 rfl) (wi hw 22 rfl) rfl (by decide) (W := 0) (Nat.le_of_eq rfl) (by decide) (pc' := 4) rfl ?_
  refine GoKit.iloadN G d4_4 rfl (pc' := 5) rfl ?_
  refine GoKit.if_ne_f G d4_5 rfl (pc' := 8) rfl ?_
  refine GoKit.aloadN G d4_8 rfl rfl (pc' := 9) rfl ?_
  refine GoKit.ldcStr G d4_9 rfl (wi hw 23 rfl) (wS hw) (by decide) (vs := []) (z := (0 : Int32)) ⟨by decide +kernel, by decide +kernel⟩ (by decide) rfl (n := 0) (by decide +kernel) (by decide) (by decide) (by decide) (cells' := 2) (slots' := 4) rfl rfl (pc' := 11) rfl (fun a1 b2 k3 h10 E4 X5 FC6 FV7 A8 N9 => ?_)
  have S11 : Lat Z h10 a1 [] := latLit X5 FC6 FV7 A8 rfl (by decide +kernel) (by decide +kernel)
  have A12 : IA Z h10 b2 .byte (([] : List Int32).map fun c => c.toInt8.toInt32) := iaLit A8 rfl (by decide +kernel)
  refine GoKit.getf G d4_11 (wi hw 29 rfl) Via.refl FV7 (pc' := 14) rfl ?_
  refine GoKit.putf G d4_14 (wi hw 29 rfl) Via.refl (FV.ext E4) (E.ext E4) (Or.inr ⟨(wi hw 25 rfl), rfl, rfl⟩) (wi hw 10 rfl) (ty := (.array .byte)) (by decide) rfl rfl (List.Mem.head _) (pc' := 17) rfl (fun h14 W13 => ?_)
  have F15 := ((FV.ext E4)).same W13
  refine GoKit.aloadN G d4_17 rfl rfl (pc' := 18) rfl ?_
  refine GoKit.ldcStr G d4_18 rfl (wi hw 23 rfl) (wS hw) (by decide) (vs := []) (z := (0 : Int32)) ⟨by decide +kernel, by decide +kernel⟩ (by decide) rfl (n := 0) (by decide +kernel) (by decide) (by decide) (by decide) (cells' := 4) (slots' := 8) rfl rfl (pc' := 20) rfl (fun a16 b17 k18 h25 E19 X20 FC21 FV22 A23 N24 => ?_)
  have S26 : Lat Z h25 a16 [] := latLit X20 FC21 FV22 A23 rfl (by decide +kernel) (by decide +kernel)
  have A27 : IA Z h25 b17 .byte (([] : List Int32).map fun c => c.toInt8.toInt32) := iaLit A23 rfl (by decide +kernel)
  refine GoKit.getf G d4_20 (wi hw 30 rfl) Via.refl FC21 (pc' := 23) rfl ?_
  refine GoKit.putf G d4_23 (wi hw 30 rfl) Via.refl (((FC.ext E4).other W13 (Or.inr (slot_ne (Or.inr (wi hw 26 rfl)) (Or.inr (wi hw 25 rfl)) (by decide) (by decide : _ = some .byte) (by decide : _ = some (.array .byte))))).ext E19) (((E.ext E4).wr W13).ext E19) (Or.inr ⟨(wi hw 26 rfl), rfl, rfl⟩) (wi hw 10 rfl) (ty := .byte) (by decide) rfl rfl (List.Mem.head _) (pc' := 26) rfl (fun h29 W28 => ?_)
  have F30 := ((((FC.ext E4).other W13 (Or.inr (slot_ne (Or.inr (wi hw 26 rfl)) (Or.inr (wi hw 25 rfl)) (by decide) (by decide : _ = some .byte) (by decide : _ = some (.array .byte))))).ext E19)).same W28
  refine GoKit.retVoid G d4_26 rfl (by decide) (by decide) ?_
  exact ⟨rfl, ((((E.ext E4).wr W13).ext E19).wr W28), ⟨b2, ((F15.ext E19).other W28 (Or.inr (slot_ne (Or.inr (wi hw 25 rfl)) (Or.inr (wi hw 26 rfl)) (by decide) (by decide : _ = some (.array .byte)) (by decide : _ = some .byte)))), F30, (((A12.other W13 (Ne.symm (N9 _ (List.Mem.head _)).2)).ext E19).other W28 (Ne.symm (N9 _ (List.Mem.head _)).2))⟩, fun _ q => nomatch q⟩
abbrev rm_con_strInitE : Room := { frames := 2, cells := 4, slots := 8, locals := 29 }
set_option maxRecDepth 65536 in
set_option maxHeartbeats 40000000 in
theorem con_strInitE (l : Launch) {Z : State} {a0 : Array Value} (hw : ∀ d ∈ tables_1, d.before a0 Z = true) {n0 : Nat} {h0 : Heap} {a b : Addr} (E : Exa Z h0 a "java/lang/String") (FV : Fld Z h0 a "java/lang/String" "value" "[B" .null) (FC : Fld Z h0 a "java/lang/String" "coder" "B" (.int 0)) (A : IA Z h0 b .char []) :
    Con l Z true false ELs n0 (⟨"java/lang/String", "<init>", "([C)V"⟩ : MethodName) jdk_42_method_3_code 2 none rm_con_strInitE [] #[(.ref a), (.ref b)] h0 [a] (fun v h => v = none ∧ Lat Z h a []) := by
  refine Con.intro (plainFor_of_name pn_java_lang_String) (hELs hw) ?_
  intro p e s m below meth c hh G
  refine castRun (g' := mkF m 0 #[.val (.ref a), .val (.ref b)] []) (by first | rfl | (simp [entryFrame, mkF, argsToLocals, Value.category, maxLocals]; done)) ?_
  refine GoKit.aloadN G d3_0 rfl rfl (pc' := 1) rfl ?_
  refine GoKit.aloadN G d3_1 rfl rfl (pc' := 2) rfl ?_
  refine GoKit.iconst G (0 : Int32) d3_2 rfl (pc' := 3) rfl ?_
  refine GoKit.aloadN G d3_3 rfl rfl (pc' := 4) rfl ?_
  refine GoKit.arrlenI G d3_4 A (z := (0 : Int32)) rfl (pc' := 5) rfl ?_
  refine GoKit.aconstNull G d3_5 (pc' := 6) rfl ?_
  refine GoKit.callSpecial G d3_6 rfl (wi hw 16 rfl) (wi hw 17 rfl) (wi hw 11 rfl) (wi hw 19 rfl) (by decide) (owc := [a]) (W := 0) (argsL := [(.ref b), (.int (0 : Int32)), (.int (0 : Int32)), .null]) (rest := []) (con_strInitE4 l hw E FV FC A) rfl (lenOf pd_3 rfl) rfl (by decide) (Nat.le_of_eq rfl) (by decide) (by decide) (by decide) (by intro x hx; simp only [List.mem_cons, List.not_mem_nil, or_false] at hx ⊢; simp [hx]) (cells' := 4) (slots' := 8) rfl rfl (pc' := 9) rfl (fun r1 h4 q2 K3 => ?_)
  obtain ⟨rfl, S5⟩ := q2
  show Run _ _ _ _ _ _ _ _ _ _ _ _ _ _ _ _ _ _ _ _ _ (mkF m 9 #[.val (.ref a), .val (.ref b)] [])
  refine GoKit.retVoid G d3_9 rfl (by decide) (by decide) ?_
  exact ⟨rfl, S5⟩
theorem d11_0 : decode jdk_42_method_152_code 0 = .ok (.getstatic 38, 3) := by decide +kernel
theorem d11_3 : decode jdk_42_method_152_code 3 = .ok (.ifCond .eq 10, 3) := by decide +kernel
theorem d11_6 : decode jdk_42_method_152_code 6 = .ok (.aload_n 0, 1) := by decide +kernel
theorem d11_7 : decode jdk_42_method_152_code 7 = .ok (.getfield 15, 3) := by decide +kernel
theorem d11_10 : decode jdk_42_method_152_code 10 = .ok (.goto 4, 3) := by decide +kernel
theorem d11_14 : decode jdk_42_method_152_code 14 = .ok (.ireturn, 1) := by decide +kernel
abbrev rm_con_coderU : Room := { frames := 0, cells := 0, slots := 0, locals := 0 }
set_option maxRecDepth 65536 in
set_option maxHeartbeats 40000000 in
theorem con_coderU (l : Launch) {Z : State} {a0 : Array Value} (hw : ∀ d ∈ tables_1, d.before a0 Z = true) {n0 : Nat} {h0 : Heap} {a : Addr} {cs : List Int32} (S : U16 Z h0 a cs) (HC : Cst Z) :
    Con l Z true false ELs n0 (⟨"java/lang/String", "coder", "()B"⟩ : MethodName) jdk_42_method_152_code 1 (some .byte) rm_con_coderU [] #[(.ref a)] h0 [] (fun v h => v = some (.int 1) ∧ h = h0) := by
  refine Con.intro (plainFor_of_name pn_java_lang_String) (hELs hw) ?_
  intro p e s m below meth c hh G
  refine castRun (g' := mkF m 0 #[.val (.ref a)] []) (by first | rfl | (simp [entryFrame, mkF, argsToLocals, Value.category, maxLocals]; done)) ?_
  obtain ⟨E, ⟨b, FV, FC, A⟩, hch, hln⟩ := id S
  obtain ⟨cz, SC, hcz⟩ := id HC
  refine GoKit.gets G d11_0 (wi hw 50 rfl) Via.refl SC (pc' := 3) rfl ?_
  refine GoKit.if_eq_f G d11_3 hcz (pc' := 6) rfl ?_
  refine GoKit.aloadN G d11_6 rfl rfl (pc' := 7) rfl ?_
  refine GoKit.getf G d11_7 (wi hw 30 rfl) Via.refl FC (pc' := 10) rfl ?_
  refine GoKit.goto G d11_10 (by decide) (pc' := 14) rfl ?_
  refine GoKit.retNar G d11_14 (t := .byte) rfl (by simp) (by decide) (by decide) ?_
  exact ⟨rfl, rfl⟩
abbrev rm_con_coderL : Room := { frames := 0, cells := 0, slots := 0, locals := 0 }
set_option maxRecDepth 65536 in
set_option maxHeartbeats 40000000 in
theorem con_coderL (l : Launch) {Z : State} {a0 : Array Value} (hw : ∀ d ∈ tables_1, d.before a0 Z = true) {n0 : Nat} {h0 : Heap} {a : Addr} {cs : List Int32} (S : Lat Z h0 a cs) (HC : Cst Z) :
    Con l Z true false ELs n0 (⟨"java/lang/String", "coder", "()B"⟩ : MethodName) jdk_42_method_152_code 1 (some .byte) rm_con_coderL [] #[(.ref a)] h0 [] (fun v h => v = some (.int 0) ∧ h = h0) := by
  refine Con.intro (plainFor_of_name pn_java_lang_String) (hELs hw) ?_
  intro p e s m below meth c hh G
  refine castRun (g' := mkF m 0 #[.val (.ref a)] []) (by first | rfl | (simp [entryFrame, mkF, argsToLocals, Value.category, maxLocals]; done)) ?_
  obtain ⟨E, ⟨b, FV, FC, A⟩, hlat⟩ := id S
  obtain ⟨cz, SC, hcz⟩ := id HC
  refine GoKit.gets G d11_0 (wi hw 50 rfl) Via.refl SC (pc' := 3) rfl ?_
  refine GoKit.if_eq_f G d11_3 hcz (pc' := 6) rfl ?_
  refine GoKit.aloadN G d11_6 rfl rfl (pc' := 7) rfl ?_
  refine GoKit.getf G d11_7 (wi hw 30 rfl) Via.refl FC (pc' := 10) rfl ?_
  refine GoKit.goto G d11_10 (by decide) (pc' := 14) rfl ?_
  refine GoKit.retNar G d11_14 (t := .byte) rfl (by simp) (by decide) (by decide) ?_
  exact ⟨rfl, rfl⟩
theorem d10_0 : decode jdk_42_method_54_code 0 = .ok (.aload_n 0, 1) := by decide +kernel
theorem d10_1 : decode jdk_42_method_54_code 1 = .ok (.getfield 9, 3) := by decide +kernel
theorem d10_4 : decode jdk_42_method_54_code 4 = .ok (.arraylength, 1) := by decide +kernel
theorem d10_5 : decode jdk_42_method_54_code 5 = .ok (.aload_n 0, 1) := by decide +kernel
theorem d10_6 : decode jdk_42_method_54_code 6 = .ok (.invokevirtual 335, 3) := by decide +kernel
theorem pd_8 : parseMethodDescriptor "()B" = some ⟨[], some .byte⟩ := by decide +kernel
theorem d10_9 : decode jdk_42_method_54_code 9 = .ok (.ishr, 1) := by decide +kernel
theorem d10_10 : decode jdk_42_method_54_code 10 = .ok (.ireturn, 1) := by decide +kernel
abbrev rm_con_lenSL : Room := { frames := 1, cells := 0, slots := 0, locals := 13 }
set_option maxRecDepth 65536 in
set_option maxHeartbeats 40000000 in
theorem con_lenSL (l : Launch) {Z : State} {a0 : Array Value} (hw : ∀ d ∈ tables_1, d.before a0 Z = true) {n0 : Nat} {h0 : Heap} {a : Addr} {cs : List Int32} (S : Lat Z h0 a cs) (HC : Cst Z) :
    Con l Z true false ELs n0 (⟨"java/lang/String", "length", "()I"⟩ : MethodName) jdk_42_method_54_code 1 (some .int) rm_con_lenSL [] #[(.ref a)] h0 [] (fun v h => v = some (.int cs.length.toInt32) ∧ h = h0) := by
  refine Con.intro (plainFor_of_name pn_java_lang_String) (hELs hw) ?_
  intro p e s m below meth c hh G
  refine castRun (g' := mkF m 0 #[.val (.ref a)] []) (by first | rfl | (simp [entryFrame, mkF, argsToLocals, Value.category, maxLocals]; done)) ?_
  obtain ⟨E, ⟨b, FV, FC, A⟩, hlat⟩ := id S
  refine GoKit.aloadN G d10_0 rfl rfl (pc' := 1) rfl ?_
  refine GoKit.getf G d10_1 (wi hw 29 rfl) Via.refl FV (pc' := 4) rfl ?_
  refine GoKit.arrlenI G d10_4 A (z := cs.length.toInt32) (by simp) (pc' := 5) rfl ?_
  refine GoKit.aloadN G d10_5 rfl rfl (pc' := 6) rfl ?_
  refine GoKit.callVirtualP G d10_6 (wi hw 56 rfl) (wi hw 57 rfl) (wi hw 59 rfl) (wi hw 58 rfl) (wi hw 11 rfl) (wi hw 60 rfl) (by decide) E (W := 1) (argsL := []) (rest := [(.int cs.length.toInt32)]) (con_coderL l hw S HC) rfl (lenOf pd_8 rfl) rfl (by decide) (Nat.le_of_eq rfl) (by decide) (by decide) (by decide) (cells' := 0) (slots' := 0) rfl rfl (pc' := 9) rfl ?_
  show Run _ _ _ _ _ _ _ _ _ _ _ _ _ _ _ _ _ _ _ _ _ (mkF m 9 #[.val (.ref a)] [(.int 0), (.int cs.length.toInt32)])
  refine GoKit.ishr G d10_9 (pc' := 10) rfl (fun v1 hqv1 => ?_)
  refine GoKit.retInt G d10_10 rfl (by decide) (by decide) ?_
  exact ⟨by subst_vars; rw [sh0], rfl⟩
abbrev rm_con_lenSU : Room := { frames := 1, cells := 0, slots := 0, locals := 13 }
set_option maxRecDepth 65536 in
set_option maxHeartbeats 40000000 in
theorem con_lenSU (l : Launch) {Z : State} {a0 : Array Value} (hw : ∀ d ∈ tables_1, d.before a0 Z = true) {n0 : Nat} {h0 : Heap} {a : Addr} {cs : List Int32} (S : U16 Z h0 a cs) (HC : Cst Z) :
    Con l Z true false ELs n0 (⟨"java/lang/String", "length", "()I"⟩ : MethodName) jdk_42_method_54_code 1 (some .int) rm_con_lenSU [] #[(.ref a)] h0 [] (fun v h => v = some (.int cs.length.toInt32) ∧ h = h0) := by
  refine Con.intro (plainFor_of_name pn_java_lang_String) (hELs hw) ?_
  intro p e s m below meth c hh G
  refine castRun (g' := mkF m 0 #[.val (.ref a)] []) (by first | rfl | (simp [entryFrame, mkF, argsToLocals, Value.category, maxLocals]; done)) ?_
  obtain ⟨E, ⟨b, FV, FC, A⟩, hch, hln⟩ := id S
  refine GoKit.aloadN G d10_0 rfl rfl (pc' := 1) rfl ?_
  refine GoKit.getf G d10_1 (wi hw 29 rfl) Via.refl FV (pc' := 4) rfl ?_
  refine GoKit.arrlenI G d10_4 A (z := (2 * cs.length).toInt32) (by rw [u16_len]) (pc' := 5) rfl ?_
  refine GoKit.aloadN G d10_5 rfl rfl (pc' := 6) rfl ?_
  refine GoKit.callVirtualP G d10_6 (wi hw 56 rfl) (wi hw 57 rfl) (wi hw 59 rfl) (wi hw 58 rfl) (wi hw 11 rfl) (wi hw 60 rfl) (by decide) E (W := 1) (argsL := []) (rest := [(.int (2 * cs.length).toInt32)]) (con_coderU l hw S HC) rfl (lenOf pd_8 rfl) rfl (by decide) (Nat.le_of_eq rfl) (by decide) (by decide) (by decide) (cells' := 0) (slots' := 0) rfl rfl (pc' := 9) rfl ?_
  show Run _ _ _ _ _ _ _ _ _ _ _ _ _ _ _ _ _ _ _ _ _ (mkF m 9 #[.val (.ref a)] [(.int 1), (.int (2 * cs.length).toInt32)])
  refine GoKit.ishr G d10_9 (pc' := 10) rfl (fun v1 hqv1 => ?_)
  refine GoKit.retInt G d10_10 rfl (by decide) (by decide) ?_
  exact ⟨by subst_vars; rw [shr1 (by omega)], rfl⟩
theorem con_lenS (l : Launch) {Z : State} {a0 : Array Value} (hw : ∀ d ∈ tables_1, d.before a0 Z = true) {n0 : Nat} {h0 : Heap} {a : Addr} {cs : List Int32} (S : Str Z h0 a cs) (HC : Cst Z) :
    Con l Z true false ELs n0 (⟨"java/lang/String", "length", "()I"⟩ : MethodName) jdk_42_method_54_code 1 (some .int) rm_con_lenSL [] #[(.ref a)] h0 [] (fun v h => v = some (.int cs.length.toInt32) ∧ h = h0) := by
  rcases S with S | S
  · exact con_lenSL l hw S HC
  · exact con_lenSU l hw S HC
theorem d9_0 : decode jdk_42_method_154_code 0 = .ok (.getstatic 38, 3) := by decide +kernel
theorem d9_3 : decode jdk_42_method_154_code 3 = .ok (.ifCond .eq 14, 3) := by decide +kernel
theorem d9_6 : decode jdk_42_method_154_code 6 = .ok (.aload_n 0, 1) := by decide +kernel
theorem d9_7 : decode jdk_42_method_154_code 7 = .ok (.getfield 15, 3) := by decide +kernel
theorem d9_10 : decode jdk_42_method_154_code 10 = .ok (.ifCond .ne 7, 3) := by decide +kernel
theorem d9_13 : decode jdk_42_method_154_code 13 = .ok (.iconst 1, 1) := by decide +kernel
theorem d9_14 : decode jdk_42_method_154_code 14 = .ok (.goto 4, 3) := by decide +kernel
theorem d9_18 : decode jdk_42_method_154_code 18 = .ok (.ireturn, 1) := by decide +kernel
abbrev rm_con_isLatL : Room := { frames := 0, cells := 0, slots := 0, locals := 0 }
set_option maxRecDepth 65536 in
set_option maxHeartbeats 40000000 in
theorem con_isLatL (l : Launch) {Z : State} {a0 : Array Value} (hw : ∀ d ∈ tables_1, d.before a0 Z = true) {n0 : Nat} {h0 : Heap} {a : Addr} {cs : List Int32} (S : Lat Z h0 a cs) (HC : Cst Z) :
    Con l Z true false ELs n0 (⟨"java/lang/String", "isLatin1", "()Z"⟩ : MethodName) jdk_42_method_154_code 1 (some .boolean) rm_con_isLatL [] #[(.ref a)] h0 [] (fun v h => v = some (.int 1) ∧ h = h0) := by
  refine Con.intro (plainFor_of_name pn_java_lang_String) (hELs hw) ?_
  intro p e s m below meth c hh G
  refine castRun (g' := mkF m 0 #[.val (.ref a)] []) (by first | rfl | (simp [entryFrame, mkF, argsToLocals, Value.category, maxLocals]; done)) ?_
  obtain ⟨E, ⟨b, FV, FC, A⟩, hlat⟩ := id S
  obtain ⟨cz, SC, hcz⟩ := id HC
  refine GoKit.gets G d9_0 (wi hw 50 rfl) Via.refl SC (pc' := 3) rfl ?_
  refine GoKit.if_eq_f G d9_3 hcz (pc' := 6) rfl ?_
  refine GoKit.aloadN G d9_6 rfl rfl (pc' := 7) rfl ?_
  refine GoKit.getf G d9_7 (wi hw 30 rfl) Via.refl FC (pc' := 10) rfl ?_
  refine GoKit.if_ne_f G d9_10 rfl (pc' := 13) rfl ?_
  refine GoKit.iconst G (1 : Int32) d9_13 rfl (pc' := 14) rfl ?_
  refine GoKit.goto G d9_14 (by decide) (pc' := 18) rfl ?_
  refine GoKit.retNar G d9_18 (t := .boolean) rfl (by simp) (by decide) (by decide) ?_
  exact ⟨rfl, rfl⟩
theorem d9_17 : decode jdk_42_method_154_code 17 = .ok (.iconst 0, 1) := by decide +kernel
abbrev rm_con_isLatU : Room := { frames := 0, cells := 0, slots := 0, locals := 0 }
set_option maxRecDepth 65536 in
set_option maxHeartbeats 40000000 in
theorem con_isLatU (l : Launch) {Z : State} {a0 : Array Value} (hw : ∀ d ∈ tables_1, d.before a0 Z = true) {n0 : Nat} {h0 : Heap} {a : Addr} {cs : List Int32} (S : U16 Z h0 a cs) (HC : Cst Z) :
    Con l Z true false ELs n0 (⟨"java/lang/String", "isLatin1", "()Z"⟩ : MethodName) jdk_42_method_154_code 1 (some .boolean) rm_con_isLatU [] #[(.ref a)] h0 [] (fun v h => v = some (.int 0) ∧ h = h0) := by
  refine Con.intro (plainFor_of_name pn_java_lang_String) (hELs hw) ?_
  intro p e s m below meth c hh G
  refine castRun (g' := mkF m 0 #[.val (.ref a)] []) (by first | rfl | (simp [entryFrame, mkF, argsToLocals, Value.category, maxLocals]; done)) ?_
  obtain ⟨E, ⟨b, FV, FC, A⟩, hch, hln⟩ := id S
  obtain ⟨cz, SC, hcz⟩ := id HC
  refine GoKit.gets G d9_0 (wi hw 50 rfl) Via.refl SC (pc' := 3) rfl ?_
  refine GoKit.if_eq_f G d9_3 hcz (pc' := 6) rfl ?_
  refine GoKit.aloadN G d9_6 rfl rfl (pc' := 7) rfl ?_
  refine GoKit.getf G d9_7 (wi hw 30 rfl) Via.refl FC (pc' := 10) rfl ?_
  refine GoKit.if_ne_t G d9_10 (by decide) (by decide) (pc' := 17) rfl ?_
  refine GoKit.iconst G (0 : Int32) d9_17 rfl (pc' := 18) rfl ?_
  refine GoKit.retNar G d9_18 (t := .boolean) rfl (by simp) (by decide) (by decide) ?_
  exact ⟨rfl, rfl⟩
/-- the formatter's static is a reference -/
def Frm (Z : State) : Prop := ∃ fv : Value, Sta Z Z.heap "jdk/internal/util/Preconditions" "SIOOBE_FORMATTER" "Ljava/util/function/BiFunction;" fv ∧ fv.isRef = true
theorem lo8_mask (c : Int32) (h : 0 ≤ c.toInt ∧ c.toInt < 256) : nar .char ((c.toInt8.toInt32 &&& 255).toUInt32.toUInt16.toUInt32.toInt32) = c := by
  obtain ⟨n, hn, rfl⟩ : ∃ n : Nat, n < 256 ∧ c = Int32.ofNat n := by
    refine ⟨c.toInt.toNat, by omega, ?_⟩
    apply Int32.toInt_inj.mp
    rw [show Int32.ofNat c.toInt.toNat = c.toInt.toNat.toInt32 from rfl, toI_toInt (by omega)]; omega
  revert n; decide +kernel
def max32 (x z : Int32) : Int32 := if x < z then z else x
theorem d14_0 : decode jdk_29_method_65_code 0 = .ok (.iload_n 0, 1) := by decide +kernel
theorem d14_1 : decode jdk_29_method_65_code 1 = .ok (.iload_n 1, 1) := by decide +kernel
theorem d14_2 : decode jdk_29_method_65_code 2 = .ok (.if_icmp .lt 7, 3) := by decide +kernel
theorem d14_9 : decode jdk_29_method_65_code 9 = .ok (.iload_n 1, 1) := by decide +kernel
theorem d14_10 : decode jdk_29_method_65_code 10 = .ok (.ireturn, 1) := by decide +kernel
theorem d14_5 : decode jdk_29_method_65_code 5 = .ok (.iload_n 0, 1) := by decide +kernel
theorem d14_6 : decode jdk_29_method_65_code 6 = .ok (.goto 4, 3) := by decide +kernel
abbrev rm_con_max : Room := { frames := 0, cells := 0, slots := 0, locals := 0 }
set_option maxRecDepth 65536 in
set_option maxHeartbeats 40000000 in
theorem con_max (l : Launch) {Z : State} {a0 : Array Value} (hw : ∀ d ∈ tables_1, d.before a0 Z = true) {n0 : Nat} {h0 : Heap} (x z : Int32) :
    Con l Z true false ELs n0 (⟨"java/lang/Math", "max", "(II)I"⟩ : MethodName) jdk_29_method_65_code 2 (some .int) rm_con_max [] #[(.int x), (.int z)] h0 [] (fun v h => v = some (.int (max32 x z)) ∧ h = h0) := by
  refine Con.intro (Jvm.Free.JP.mathPlain rfl (by decide +kernel)) (hELs hw) ?_
  intro p e s m below meth c hh G
  refine castRun (g' := mkF m 0 #[.val (.int x), .val (.int z)] []) (by first | rfl | (simp [entryFrame, mkF, argsToLocals, Value.category, maxLocals]; done)) ?_
  refine GoKit.iloadN G d14_0 rfl (pc' := 1) rfl ?_
  refine GoKit.iloadN G d14_1 rfl (pc' := 2) rfl ?_
  refine GoKit.icmp_lt G d14_2 (by decide) (pt := 9) (pf := 5) rfl rfl (fun hb1 => ?_) (fun hb1 => ?_)
  · refine GoKit.iloadN G d14_9 rfl (pc' := 10) rfl ?_
    refine GoKit.retInt G d14_10 rfl (by decide) (by decide) ?_
    exact ⟨by simp [max32, hb1], rfl⟩
  · refine GoKit.iloadN G d14_5 rfl (pc' := 6) rfl ?_
    refine GoKit.goto G d14_6 (by decide) (pc' := 10) rfl ?_
    refine GoKit.retInt G d14_10 rfl (by decide) (by decide) ?_
    exact ⟨by simp [max32, hb1], rfl⟩
def min32 (x z : Int32) : Int32 := if z < x then z else x
theorem d15_0 : decode jdk_29_method_69_code 0 = .ok (.iload_n 0, 1) := by decide +kernel
theorem d15_1 : decode jdk_29_method_69_code 1 = .ok (.iload_n 1, 1) := by decide +kernel
theorem d15_2 : decode jdk_29_method_69_code 2 = .ok (.if_icmp .gt 7, 3) := by decide +kernel
theorem d15_9 : decode jdk_29_method_69_code 9 = .ok (.iload_n 1, 1) := by decide +kernel
theorem d15_10 : decode jdk_29_method_69_code 10 = .ok (.ireturn, 1) := by decide +kernel
theorem d15_5 : decode jdk_29_method_69_code 5 = .ok (.iload_n 0, 1) := by decide +kernel
theorem d15_6 : decode jdk_29_method_69_code 6 = .ok (.goto 4, 3) := by decide +kernel
abbrev rm_con_min : Room := { frames := 0, cells := 0, slots := 0, locals := 0 }
set_option maxRecDepth 65536 in
set_option maxHeartbeats 40000000 in
theorem con_min (l : Launch) {Z : State} {a0 : Array Value} (hw : ∀ d ∈ tables_1, d.before a0 Z = true) {n0 : Nat} {h0 : Heap} (x z : Int32) :
    Con l Z true false ELs n0 (⟨"java/lang/Math", "min", "(II)I"⟩ : MethodName) jdk_29_method_69_code 2 (some .int) rm_con_min [] #[(.int x), (.int z)] h0 [] (fun v h => v = some (.int (min32 x z)) ∧ h = h0) := by
  refine Con.intro (Jvm.Free.JP.mathPlain rfl (by decide +kernel)) (hELs hw) ?_
  intro p e s m below meth c hh G
  refine castRun (g' := mkF m 0 #[.val (.int x), .val (.int z)] []) (by first | rfl | (simp [entryFrame, mkF, argsToLocals, Value.category, maxLocals]; done)) ?_
  refine GoKit.iloadN G d15_0 rfl (pc' := 1) rfl ?_
  refine GoKit.iloadN G d15_1 rfl (pc' := 2) rfl ?_
  refine GoKit.icmp_gt G d15_2 (by decide) (pt := 9) (pf := 5) rfl rfl (fun hb1 => ?_) (fun hb1 => ?_)
  · refine GoKit.iloadN G d15_9 rfl (pc' := 10) rfl ?_
    refine GoKit.retInt G d15_10 rfl (by decide) (by decide) ?_
    exact ⟨by simp [min32, hb1], rfl⟩
  · refine GoKit.iloadN G d15_5 rfl (pc' := 6) rfl ?_
    refine GoKit.goto G d15_6 (by decide) (pc' := 10) rfl ?_
    refine GoKit.retInt G d15_10 rfl (by decide) (by decide) ?_
    exact ⟨by simp [min32, hb1], rfl⟩
def idxFrom : List Int32 → Int32 → Nat → Int32
  | [], _, _ => -1
  | c :: cs, x, i => if c = x then i.toInt32 else idxFrom cs x (i + 1)
theorem idx_hit {cs : List Int32} {i : Nat} {c x : Int32} (h : cs[i]? = some c) (hd : c = x) : idxFrom (cs.drop i) x i = i.toInt32 := by
  obtain ⟨hi, rfl⟩ := List.getElem?_eq_some_iff.mp h
  rw [List.drop_eq_getElem_cons hi, idxFrom, if_pos hd]
theorem idx_miss {cs : List Int32} {i : Nat} {c x : Int32} (h : cs[i]? = some c) (hd : ¬ c = x) : idxFrom (cs.drop i) x i = idxFrom (cs.drop (i + 1)) x (i + 1) := by
  obtain ⟨hi, rfl⟩ := List.getElem?_eq_some_iff.mp h
  rw [List.drop_eq_getElem_cons hi, idxFrom, if_neg hd]
theorem idx_none {x : Int32} : ∀ {cs : List Int32} {i : Nat}, x ∉ cs → idxFrom cs x i = -1
  | [], _, _ => rfl
  | c :: cs, i, h => by
    rw [idxFrom, if_neg (fun (q : c = x) => h (by rw [q]; exact List.Mem.head _))]
    exact idx_none fun q => h (List.Mem.tail _ q)
theorem idx_some {x : Int32} : ∀ {cs : List Int32} {i : Nat}, i + cs.length < 2 ^ 31 → x ∈ cs → ¬ idxFrom cs x i < 0
  | c :: cs, i, hl, h => by
    rw [idxFrom]
    simp only [List.length_cons] at hl
    split
    · exact toI_nn (by omega)
    · rename_i hn
      rcases List.mem_cons.mp h with rfl | h
      · exact absurd rfl hn
      · exact idx_some (by omega) h
theorem min_self (x : Int32) : min32 x x = x := by simp [min32]
theorem b8_inj {c d : Int32} (hc : 0 ≤ c.toInt ∧ c.toInt < 256) (hd : 0 ≤ d.toInt ∧ d.toInt < 256) (h : c.toInt8.toInt32 = d.toInt8.toInt32) : c = d := by
  rw [← lo8_mask c hc, ← lo8_mask d hd, h]
theorem i2c_rng {x v : Int32} (h : v = x.toUInt32.toUInt16.toUInt32.toInt32) : 0 ≤ v.toInt ∧ v.toInt < 65536 := by
  subst h
  have e : (x.toUInt32.toUInt16.toUInt32.toInt32).toInt = (((x.toBitVec.setWidth 16).setWidth 32).toInt) := rfl
  rw [e, BitVec.toInt_eq_toNat_of_lt (by simp; omega)]; simp; omega
theorem ite_f {P : Prop} [Decidable P] (h : (if P then (1 : Int32) else 0) = 0) : ¬ P := fun q => by rw [if_pos q] at h; exact absurd h (by decide)
theorem ite_t {P : Prop} [Decidable P] (h : ¬ (if P then (1 : Int32) else 0) = 0) : P := Classical.byContradiction fun q => h (if_neg q)
theorem d13_0 : decode jdk_43_method_4_code 0 = .ok (.iload_n 0, 1) := by decide +kernel
theorem d13_1 : decode jdk_43_method_4_code 1 = .ok (.ifCond .lt 14, 3) := by decide +kernel
theorem d13_15 : decode jdk_43_method_4_code 15 = .ok (.iconst 0, 1) := by decide +kernel
theorem d13_16 : decode jdk_43_method_4_code 16 = .ok (.ireturn, 1) := by decide +kernel
theorem d13_4 : decode jdk_43_method_4_code 4 = .ok (.iload_n 0, 1) := by decide +kernel
theorem d13_5 : decode jdk_43_method_4_code 5 = .ok (.sipush 255, 3) := by decide +kernel
theorem d13_8 : decode jdk_43_method_4_code 8 = .ok (.if_icmp .gt 7, 3) := by decide +kernel
theorem d13_11 : decode jdk_43_method_4_code 11 = .ok (.iconst 1, 1) := by decide +kernel
theorem d13_12 : decode jdk_43_method_4_code 12 = .ok (.goto 4, 3) := by decide +kernel
theorem pn_java_lang_StringLatin1 : plainName "java/lang/StringLatin1" = true := by first | (simp [plainName, overriddenIn]; done) | decide +kernel
abbrev rm_con_canEnc : Room := { frames := 0, cells := 0, slots := 0, locals := 0 }
set_option maxRecDepth 65536 in
set_option maxHeartbeats 40000000 in
theorem con_canEnc (l : Launch) {Z : State} {a0 : Array Value} (hw : ∀ d ∈ tables_1, d.before a0 Z = true) {n0 : Nat} {h0 : Heap} (x : Int32) :
    Con l Z true false ELs n0 (⟨"java/lang/StringLatin1", "canEncode", "(I)Z"⟩ : MethodName) jdk_43_method_4_code 1 (some .boolean) rm_con_canEnc [] #[(.int x)] h0 [] (fun v h => v = some (.int (if 0 ≤ x.toInt ∧ x.toInt < 256 then 1 else 0)) ∧ h = h0) := by
  refine Con.intro (plainFor_of_name pn_java_lang_StringLatin1) (hELs hw) ?_
  intro p e s m below meth c hh G
  refine castRun (g' := mkF m 0 #[.val (.int x)] []) (by first | rfl | (simp [entryFrame, mkF, argsToLocals, Value.category, maxLocals]; done)) ?_
  refine GoKit.iloadN G d13_0 rfl (pc' := 1) rfl ?_
  refine GoKit.if_lt G d13_1 (by decide) (pt := 15) (pf := 4) rfl rfl (fun hb1 => ?_) (fun hb1 => ?_)
  · refine GoKit.iconst G (0 : Int32) d13_15 rfl (pc' := 16) rfl ?_
    refine GoKit.retNar G d13_16 (t := .boolean) rfl (by simp) (by decide) (by decide) ?_
    exact ⟨by rw [if_neg (by simp only [gt_iff_lt, ge_iff_le, ne_eq, Int32.lt_iff_toInt_lt, Int32.le_iff_toInt_le, ← Int32.toInt_inj, show (0 : Int32).toInt = 0 from rfl, show (255 : Int32).toInt = 255 from rfl] at hb1; omega)]; rfl, rfl⟩
  · refine GoKit.iloadN G d13_4 rfl (pc' := 5) rfl ?_
    refine GoKit.sipush G (255 : Int32) d13_5 rfl (pc' := 8) rfl ?_
    refine GoKit.icmp_gt G d13_8 (by decide) (pt := 15) (pf := 11) rfl rfl (fun hb2 => ?_) (fun hb2 => ?_)
    · refine GoKit.iconst G (0 : Int32) d13_15 rfl (pc' := 16) rfl ?_
      refine GoKit.retNar G d13_16 (t := .boolean) rfl (by simp) (by decide) (by decide) ?_
      exact ⟨by rw [if_neg (by simp only [gt_iff_lt, ge_iff_le, ne_eq, Int32.lt_iff_toInt_lt, Int32.le_iff_toInt_le, ← Int32.toInt_inj, show (0 : Int32).toInt = 0 from rfl, show (255 : Int32).toInt = 255 from rfl] at hb1 hb2; omega)]; rfl, rfl⟩
    · refine GoKit.iconst G (1 : Int32) d13_11 rfl (pc' := 12) rfl ?_
      refine GoKit.goto G d13_12 (by decide) (pc' := 16) rfl ?_
      refine GoKit.retNar G d13_16 (t := .boolean) rfl (by simp) (by decide) (by decide) ?_
      exact ⟨by rw [if_pos (by simp only [gt_iff_lt, ge_iff_le, ne_eq, Int32.lt_iff_toInt_lt, Int32.le_iff_toInt_le, ← Int32.toInt_inj, show (0 : Int32).toInt = 0 from rfl, show (255 : Int32).toInt = 255 from rfl] at hb1 hb2; omega)]; rfl, rfl⟩
theorem d20_7 : decode jdk_43_method_23_code 7 = .ok (.iload 5, 2) := by decide +kernel
theorem d20_9 : decode jdk_43_method_23_code 9 = .ok (.iload_n 3, 1) := by decide +kernel
theorem d20_10 : decode jdk_43_method_23_code 10 = .ok (.if_icmp .ge 21, 3) := by decide +kernel
theorem d20_31 : decode jdk_43_method_23_code 31 = .ok (.iconst (-1), 1) := by decide +kernel
theorem d20_32 : decode jdk_43_method_23_code 32 = .ok (.ireturn, 1) := by decide +kernel
theorem d20_13 : decode jdk_43_method_23_code 13 = .ok (.aload_n 0, 1) := by decide +kernel
theorem d20_14 : decode jdk_43_method_23_code 14 = .ok (.iload 5, 2) := by decide +kernel
theorem d20_16 : decode jdk_43_method_23_code 16 = .ok (.baload, 1) := by decide +kernel
theorem d20_17 : decode jdk_43_method_23_code 17 = .ok (.iload 4, 2) := by decide +kernel
theorem d20_19 : decode jdk_43_method_23_code 19 = .ok (.if_icmp .ne 6, 3) := by decide +kernel
theorem d20_25 : decode jdk_43_method_23_code 25 = .ok (.iinc 5 1, 3) := by decide +kernel
theorem d20_28 : decode jdk_43_method_23_code 28 = .ok (.goto (-21), 3) := by decide +kernel
theorem d20_22 : decode jdk_43_method_23_code 22 = .ok (.iload 5, 2) := by decide +kernel
theorem d20_24 : decode jdk_43_method_23_code 24 = .ok (.ireturn, 1) := by decide +kernel
theorem d20_0 : decode jdk_43_method_23_code 0 = .ok (.iload_n 1, 1) := by decide +kernel
theorem d20_1 : decode jdk_43_method_23_code 1 = .ok (.i2b, 1) := by decide +kernel
theorem d20_2 : decode jdk_43_method_23_code 2 = .ok (.istore 4, 2) := by decide +kernel
theorem d20_4 : decode jdk_43_method_23_code 4 = .ok (.iload_n 2, 1) := by decide +kernel
theorem d20_5 : decode jdk_43_method_23_code 5 = .ok (.istore 5, 2) := by decide +kernel
abbrev rm_con_idxChar : Room := { frames := 0, cells := 0, slots := 0, locals := 0 }
set_option maxRecDepth 65536 in
set_option maxHeartbeats 40000000 in
theorem con_idxChar (l : Launch) {Z : State} {a0 : Array Value} (hw : ∀ d ∈ tables_1, d.before a0 Z = true) {n0 : Nat} {h0 : Heap} {b : Addr} {cs : List Int32} {x : Int32} (A : IA Z h0 b .byte (cs.map fun c => c.toInt8.toInt32)) (hlat : ∀ c ∈ cs, 0 ≤ c.toInt ∧ c.toInt < 256) (hx : 0 ≤ x.toInt ∧ x.toInt < 256) :
    Con l Z true false ELs n0 (⟨"java/lang/StringLatin1", "indexOfChar", "([BIII)I"⟩ : MethodName) jdk_43_method_23_code 6 (some .int) rm_con_idxChar [] #[(.ref b), (.int x), (.int (0 : Int32)), (.int cs.length.toInt32)] h0 [] (fun v h => v = some (.int (idxFrom cs x 0)) ∧ h = h0) := by
  refine Con.intro (plainFor_of_name pn_java_lang_StringLatin1) (hELs hw) ?_
  intro p e s m below meth c hh G
  refine castRun (g' := mkF m 0 #[.val (.ref b), .val (.int x), .val (.int (0 : Int32)), .val (.int cs.length.toInt32), .unset, .unset] []) (by first | rfl | (simp [entryFrame, mkF, argsToLocals, Value.category, maxLocals]; done)) ?_
  have hl := A.len
  rw [List.length_map] at hl
  have loop : ∀ (k i : Nat), i + k = cs.length → idxFrom (cs.drop i) x i = idxFrom cs x 0 →
      Run p l e rm_con_idxChar s m #[.ref b, .int x, .int (0 : Int32), .int cs.length.toInt32] below meth c Z true false ELs n0 [] (fun v h => v = some (.int (idxFrom cs x 0)) ∧ h = h0) h0 [] 0 0 (mkF m 7 #[.val (.ref b), .val (.int x), .val (.int (0 : Int32)), .val (.int cs.length.toInt32), .val (.int x.toInt8.toInt32), .val (.int i.toInt32)] []) := by
    intro k; induction k with
    | zero =>
      intro i hik hF
      have hi : i = cs.length := by omega
      subst hi
      refine GoKit.iload G d20_7 rfl (pc' := 9) rfl ?_
      refine GoKit.iloadN G d20_9 rfl (pc' := 10) rfl ?_
      refine GoKit.icmp_ge_t G d20_10 Int32.lt_irrefl (by decide) (pc' := 31) rfl ?_
      refine GoKit.iconst G (-1 : Int32) d20_31 rfl (pc' := 32) rfl ?_
      refine GoKit.retInt G d20_32 rfl (by decide) (by decide) ?_
      exact ⟨by rw [← hF]; simp [idxFrom], rfl⟩
    | succ k ih =>
      intro i hik hF
      have hi : i < cs.length := by omega
      obtain ⟨ch, hch⟩ : ∃ ch, cs[i]? = some ch := ⟨cs[i], List.getElem?_eq_getElem hi⟩
      refine GoKit.iload G d20_7 rfl (pc' := 9) rfl ?_
      refine GoKit.iloadN G d20_9 rfl (pc' := 10) rfl ?_
      refine GoKit.icmp_ge_f G d20_10 ((toI_lt (by omega) (by omega)).mpr hi) (pc' := 13) rfl ?_
      refine GoKit.aloadN G d20_13 rfl rfl (pc' := 14) rfl ?_
      refine GoKit.iload G d20_14 rfl (pc' := 16) rfl ?_
      refine GoKit.baloadI G d20_16 A (i := i) (toI_clamp (by omega)) (toI_nn (by omega)) (x := ch.toInt8.toInt32) (by simp [hch]) (pc' := 17) rfl ?_
      refine GoKit.iload G d20_17 rfl (pc' := 19) rfl ?_
      refine GoKit.icmp_ne G d20_19 (by decide) (pt := 25) (pf := 22) rfl rfl (fun hb1 => ?_) (fun hb1 => ?_)
      · refine GoKit.iinc G (1 : Int32) d20_25 rfl rfl (Ls' := #[.val (.ref b), .val (.int x), .val (.int (0 : Int32)), .val (.int cs.length.toInt32), .val (.int x.toInt8.toInt32), .val (.int (i.toInt32 + (1 : Int32)))]) rfl (pc' := 28) rfl ?_
        generalize hqv2 : (i.toInt32 + (1 : Int32)) = v2
        refine GoKit.goto G d20_28 (by decide) (pc' := 7) rfl ?_
        rw [toI_succ] at hqv2; subst hqv2
        exact ih (i + 1) (by omega) (by rw [← hF, idx_miss hch (fun q => (by simpa using hb1 : ¬ _) (by rw [q]))])
      · refine GoKit.iload G d20_22 rfl (pc' := 24) rfl ?_
        refine GoKit.retInt G d20_24 rfl (by decide) (by decide) ?_
        exact ⟨by rw [← hF, idx_hit hch (b8_inj (hlat ch (List.mem_of_getElem? hch)) hx (by simpa using hb1))], rfl⟩
  refine GoKit.iloadN G d20_0 rfl (pc' := 1) rfl ?_
  refine GoKit.i2b G d20_1 (pc' := 2) rfl (fun v3 hqv3 => ?_)
  refine GoKit.istore G d20_2 (Ls' := #[.val (.ref b), .val (.int x), .val (.int (0 : Int32)), .val (.int cs.length.toInt32), .val (.int v3), .unset]) rfl (pc' := 4) rfl ?_
  refine GoKit.iloadN G d20_4 rfl (pc' := 5) rfl ?_
  refine GoKit.istore G d20_5 (Ls' := #[.val (.ref b), .val (.int x), .val (.int (0 : Int32)), .val (.int cs.length.toInt32), .val (.int v3), .val (.int (0 : Int32))]) rfl (pc' := 7) rfl ?_
  subst hqv3
  exact loop cs.length 0 (by omega) rfl
theorem d12_0 : decode jdk_43_method_22_code 0 = .ok (.iload_n 1, 1) := by decide +kernel
theorem d12_1 : decode jdk_43_method_22_code 1 = .ok (.invokestatic 88, 3) := by decide +kernel
theorem pd_9 : parseMethodDescriptor "(I)Z" = some ⟨[.int], some .boolean⟩ := by decide +kernel
theorem d12_4 : decode jdk_43_method_22_code 4 = .ok (.ifCond .ne 5, 3) := by decide +kernel
theorem d12_9 : decode jdk_43_method_22_code 9 = .ok (.iload_n 2, 1) := by decide +kernel
theorem d12_10 : decode jdk_43_method_22_code 10 = .ok (.iconst 0, 1) := by decide +kernel
theorem d12_11 : decode jdk_43_method_22_code 11 = .ok (.invokestatic 92, 3) := by decide +kernel
theorem pd_10 : parseMethodDescriptor "(II)I" = some ⟨[.int, .int], some .int⟩ := by decide +kernel
theorem d12_14 : decode jdk_43_method_22_code 14 = .ok (.istore_n 2, 1) := by decide +kernel
theorem d12_15 : decode jdk_43_method_22_code 15 = .ok (.iload_n 3, 1) := by decide +kernel
theorem d12_16 : decode jdk_43_method_22_code 16 = .ok (.aload_n 0, 1) := by decide +kernel
theorem d12_17 : decode jdk_43_method_22_code 17 = .ok (.arraylength, 1) := by decide +kernel
theorem d12_18 : decode jdk_43_method_22_code 18 = .ok (.invokestatic 38, 3) := by decide +kernel
theorem d12_21 : decode jdk_43_method_22_code 21 = .ok (.istore_n 3, 1) := by decide +kernel
theorem d12_22 : decode jdk_43_method_22_code 22 = .ok (.iload_n 2, 1) := by decide +kernel
theorem d12_23 : decode jdk_43_method_22_code 23 = .ok (.iload_n 3, 1) := by decide +kernel
theorem d12_24 : decode jdk_43_method_22_code 24 = .ok (.if_icmp .lt 5, 3) := by decide +kernel
theorem d12_29 : decode jdk_43_method_22_code 29 = .ok (.aload_n 0, 1) := by decide +kernel
theorem d12_30 : decode jdk_43_method_22_code 30 = .ok (.iload_n 1, 1) := by decide +kernel
theorem d12_31 : decode jdk_43_method_22_code 31 = .ok (.iload_n 2, 1) := by decide +kernel
theorem d12_32 : decode jdk_43_method_22_code 32 = .ok (.iload_n 3, 1) := by decide +kernel
theorem d12_33 : decode jdk_43_method_22_code 33 = .ok (.invokestatic 95, 3) := by decide +kernel
theorem pd_11 : parseMethodDescriptor "([BIII)I" = some ⟨[(.array .byte), .int, .int, .int], some .int⟩ := by decide +kernel
theorem d12_36 : decode jdk_43_method_22_code 36 = .ok (.ireturn, 1) := by decide +kernel
theorem d12_27 : decode jdk_43_method_22_code 27 = .ok (.iconst (-1), 1) := by decide +kernel
theorem d12_28 : decode jdk_43_method_22_code 28 = .ok (.ireturn, 1) := by decide +kernel
theorem d12_7 : decode jdk_43_method_22_code 7 = .ok (.iconst (-1), 1) := by decide +kernel
theorem d12_8 : decode jdk_43_method_22_code 8 = .ok (.ireturn, 1) := by decide +kernel
abbrev rm_con_latIdx : Room := { frames := 1, cells := 0, slots := 0, locals := 17 }
set_option maxRecDepth 65536 in
set_option maxHeartbeats 40000000 in
theorem con_latIdx (l : Launch) {Z : State} {a0 : Array Value} (hw : ∀ d ∈ tables_1, d.before a0 Z = true) {n0 : Nat} {h0 : Heap} {b : Addr} {cs : List Int32} (x : Int32) (A : IA Z h0 b .byte (cs.map fun c => c.toInt8.toInt32)) (hlat : ∀ c ∈ cs, 0 ≤ c.toInt ∧ c.toInt < 256) :
    Con l Z true false ELs n0 (⟨"java/lang/StringLatin1", "indexOf", "([BIII)I"⟩ : MethodName) jdk_43_method_22_code 4 (some .int) rm_con_latIdx [] #[(.ref b), (.int x), (.int (0 : Int32)), (.int cs.length.toInt32)] h0 [] (fun v h => v = some (.int (idxFrom cs x 0)) ∧ h = h0) := by
  refine Con.intro (plainFor_of_name pn_java_lang_StringLatin1) (hELs hw) ?_
  intro p e s m below meth c hh G
  refine castRun (g' := mkF m 0 #[.val (.ref b), .val (.int x), .val (.int (0 : Int32)), .val (.int cs.length.toInt32)] []) (by first | rfl | (simp [entryFrame, mkF, argsToLocals, Value.category, maxLocals]; done)) ?_
  have hl := A.len
  rw [List.length_map] at hl
  refine GoKit.iloadN G d12_0 rfl (pc' := 1) rfl ?_
  refine GoKit.callStaticP G d12_1 (wi hw 65 rfl) (wi hw 66 rfl) (wi hw 63 rfl) (wi hw 67 rfl) (by decide) (W := 0) (argsL := [(.int x)]) (rest := []) (con_canEnc l hw x) rfl (lenOf pd_9 rfl) rfl (by decide) (Nat.le_of_eq rfl) (by decide) (by decide) (by decide) (cells' := 0) (slots' := 0) rfl rfl (pc' := 4) rfl ?_
  show Run _ _ _ _ _ _ _ _ _ _ _ _ _ _ _ _ _ _ _ _ _ (mkF m 4 #[.val (.ref b), .val (.int x), .val (.int (0 : Int32)), .val (.int cs.length.toInt32)] [(.int (if 0 ≤ x.toInt ∧ x.toInt < 256 then 1 else 0))])
  refine GoKit.if_ne G d12_4 (by decide) (pt := 9) (pf := 7) rfl rfl (fun hb1 => ?_) (fun hb1 => ?_)
  · refine GoKit.iloadN G d12_9 rfl (pc' := 10) rfl ?_
    refine GoKit.iconst G (0 : Int32) d12_10 rfl (pc' := 11) rfl ?_
    refine GoKit.callStaticP G d12_11 (wi hw 68 rfl) (wi hw 69 rfl) (wi hw 70 rfl) (wi hw 71 rfl) (by decide) (W := 0) (argsL := [(.int (0 : Int32)), (.int (0 : Int32))]) (rest := []) (con_max l hw (0 : Int32) (0 : Int32)) rfl (lenOf pd_10 rfl) rfl (by decide) (Nat.le_of_eq rfl) (by decide) (by decide) (by decide) (cells' := 0) (slots' := 0) rfl rfl (pc' := 14) rfl ?_
    show Run _ _ _ _ _ _ _ _ _ _ _ _ _ _ _ _ _ _ _ _ _ (mkF m 14 #[.val (.ref b), .val (.int x), .val (.int (0 : Int32)), .val (.int cs.length.toInt32)] [(.int (max32 (0 : Int32) (0 : Int32)))])
    rw [show max32 0 0 = 0 from rfl]
    refine GoKit.istoreN G d12_14 (Ls' := #[.val (.ref b), .val (.int x), .val (.int (0 : Int32)), .val (.int cs.length.toInt32)]) rfl (pc' := 15) rfl ?_
    refine GoKit.iloadN G d12_15 rfl (pc' := 16) rfl ?_
    refine GoKit.aloadN G d12_16 rfl rfl (pc' := 17) rfl ?_
    refine GoKit.arrlenI G d12_17 A (z := cs.length.toInt32) (by simp) (pc' := 18) rfl ?_
    refine GoKit.callStaticP G d12_18 (wi hw 72 rfl) (wi hw 73 rfl) (wi hw 70 rfl) (wi hw 74 rfl) (by decide) (W := 0) (argsL := [(.int cs.length.toInt32), (.int cs.length.toInt32)]) (rest := []) (con_min l hw cs.length.toInt32 cs.length.toInt32) rfl (lenOf pd_10 rfl) rfl (by decide) (Nat.le_of_eq rfl) (by decide) (by decide) (by decide) (cells' := 0) (slots' := 0) rfl rfl (pc' := 21) rfl ?_
    show Run _ _ _ _ _ _ _ _ _ _ _ _ _ _ _ _ _ _ _ _ _ (mkF m 21 #[.val (.ref b), .val (.int x), .val (.int (0 : Int32)), .val (.int cs.length.toInt32)] [(.int (min32 cs.length.toInt32 cs.length.toInt32))])
    rw [min_self]
    refine GoKit.istoreN G d12_21 (Ls' := #[.val (.ref b), .val (.int x), .val (.int (0 : Int32)), .val (.int cs.length.toInt32)]) rfl (pc' := 22) rfl ?_
    refine GoKit.iloadN G d12_22 rfl (pc' := 23) rfl ?_
    refine GoKit.iloadN G d12_23 rfl (pc' := 24) rfl ?_
    refine GoKit.icmp_lt G d12_24 (by decide) (pt := 29) (pf := 27) rfl rfl (fun hb2 => ?_) (fun hb2 => ?_)
    · refine GoKit.aloadN G d12_29 rfl rfl (pc' := 30) rfl ?_
      refine GoKit.iloadN G d12_30 rfl (pc' := 31) rfl ?_
      refine GoKit.iloadN G d12_31 rfl (pc' := 32) rfl ?_
      refine GoKit.iloadN G d12_32 rfl (pc' := 33) rfl ?_
      refine GoKit.callStaticP G d12_33 (wi hw 91 rfl) (wi hw 92 rfl) (wi hw 63 rfl) (wi hw 93 rfl) (by decide) (W := 0) (argsL := [(.ref b), (.int x), (.int (0 : Int32)), (.int cs.length.toInt32)]) (rest := []) (con_idxChar l hw A hlat (Classical.byContradiction fun q => hb1 (if_neg q))) rfl (lenOf pd_11 rfl) rfl (by decide) (Nat.le_of_eq rfl) (by decide) (by decide) (by decide) (cells' := 0) (slots' := 0) rfl rfl (pc' := 36) rfl ?_
      show Run _ _ _ _ _ _ _ _ _ _ _ _ _ _ _ _ _ _ _ _ _ (mkF m 36 #[.val (.ref b), .val (.int x), .val (.int (0 : Int32)), .val (.int cs.length.toInt32)] [(.int (idxFrom cs x 0))])
      refine GoKit.retInt G d12_36 rfl (by decide) (by decide) ?_
      exact ⟨rfl, rfl⟩
    · refine GoKit.iconst G (-1 : Int32) d12_27 rfl (pc' := 28) rfl ?_
      refine GoKit.retInt G d12_28 rfl (by decide) (by decide) ?_
      exact ⟨by rw [List.length_eq_zero_iff.mp (Nat.le_zero.mp (Nat.le_of_not_lt fun q => hb2 ((toI_lt (i := 0) (by decide) hl).mpr q)))]; rfl, rfl⟩
  · refine GoKit.iconst G (-1 : Int32) d12_7 rfl (pc' := 8) rfl ?_
    refine GoKit.retInt G d12_8 rfl (by decide) (by decide) ?_
    exact ⟨by rw [idx_none (fun q => ite_f (by simpa using hb1) (hlat x q))], rfl⟩
theorem d8_0 : decode jdk_42_method_80_code 0 = .ok (.aload_n 0, 1) := by decide +kernel
theorem d8_1 : decode jdk_42_method_80_code 1 = .ok (.invokevirtual 492, 3) := by decide +kernel
theorem pd_12 : parseMethodDescriptor "()Z" = some ⟨[], some .boolean⟩ := by decide +kernel
theorem d8_4 : decode jdk_42_method_80_code 4 = .ok (.ifCond .eq 19, 3) := by decide +kernel
theorem d8_7 : decode jdk_42_method_80_code 7 = .ok (.aload_n 0, 1) := by decide +kernel
theorem d8_8 : decode jdk_42_method_80_code 8 = .ok (.getfield 9, 3) := by decide +kernel
theorem d8_11 : decode jdk_42_method_80_code 11 = .ok (.iload_n 1, 1) := by decide +kernel
theorem d8_12 : decode jdk_42_method_80_code 12 = .ok (.iload_n 2, 1) := by decide +kernel
theorem d8_13 : decode jdk_42_method_80_code 13 = .ok (.aload_n 0, 1) := by decide +kernel
theorem d8_14 : decode jdk_42_method_80_code 14 = .ok (.invokevirtual 505, 3) := by decide +kernel
theorem pd_13 : parseMethodDescriptor "()I" = some ⟨[], some .int⟩ := by decide +kernel
theorem d8_17 : decode jdk_42_method_80_code 17 = .ok (.invokestatic 637, 3) := by decide +kernel
theorem d8_20 : decode jdk_42_method_80_code 20 = .ok (.goto 16, 3) := by decide +kernel
theorem d8_36 : decode jdk_42_method_80_code 36 = .ok (.ireturn, 1) := by decide +kernel
abbrev rm_con_idx2L : Room := { frames := 2, cells := 0, slots := 0, locals := 32 }
set_option maxRecDepth 65536 in
set_option maxHeartbeats 40000000 in
theorem con_idx2L (l : Launch) {Z : State} {a0 : Array Value} (hw : ∀ d ∈ tables_1, d.before a0 Z = true) {n0 : Nat} {h0 : Heap} {a : Addr} {cs : List Int32} (x : Int32) (S : Lat Z h0 a cs) (HC : Cst Z) :
    Con l Z true false ELs n0 (⟨"java/lang/String", "indexOf", "(II)I"⟩ : MethodName) jdk_42_method_80_code 3 (some .int) rm_con_idx2L [] #[(.ref a), (.int x), (.int (0 : Int32))] h0 [] (fun v h => v = some (.int (idxFrom cs x 0)) ∧ h = h0) := by
  refine Con.intro (plainFor_of_name pn_java_lang_String) (hELs hw) ?_
  intro p e s m below meth c hh G
  refine castRun (g' := mkF m 0 #[.val (.ref a), .val (.int x), .val (.int (0 : Int32))] []) (by first | rfl | (simp [entryFrame, mkF, argsToLocals, Value.category, maxLocals]; done)) ?_
  obtain ⟨E, ⟨b, FV, FC, A⟩, hlat⟩ := id S
  refine GoKit.aloadN G d8_0 rfl rfl (pc' := 1) rfl ?_
  refine GoKit.callVirtualP G d8_1 (wi hw 45 rfl) (wi hw 46 rfl) (wi hw 48 rfl) (wi hw 47 rfl) (wi hw 11 rfl) (wi hw 49 rfl) (by decide) E (W := 0) (argsL := []) (rest := []) (con_isLatL l hw S HC) rfl (lenOf pd_12 rfl) rfl (by decide) (Nat.le_of_eq rfl) (by decide) (by decide) (by decide) (cells' := 0) (slots' := 0) rfl rfl (pc' := 4) rfl ?_
  show Run _ _ _ _ _ _ _ _ _ _ _ _ _ _ _ _ _ _ _ _ _ (mkF m 4 #[.val (.ref a), .val (.int x), .val (.int (0 : Int32))] [(.int 1)])
  refine GoKit.if_eq_f G d8_4 (by decide) (pc' := 7) rfl ?_
  refine GoKit.aloadN G d8_7 rfl rfl (pc' := 8) rfl ?_
  refine GoKit.getf G d8_8 (wi hw 29 rfl) Via.refl FV (pc' := 11) rfl ?_
  refine GoKit.iloadN G d8_11 rfl (pc' := 12) rfl ?_
  refine GoKit.iloadN G d8_12 rfl (pc' := 13) rfl ?_
  refine GoKit.aloadN G d8_13 rfl rfl (pc' := 14) rfl ?_
  refine GoKit.callVirtualP G d8_14 (wi hw 51 rfl) (wi hw 52 rfl) (wi hw 54 rfl) (wi hw 53 rfl) (wi hw 11 rfl) (wi hw 55 rfl) (by decide) E (W := 3) (argsL := []) (rest := [(.int (0 : Int32)), (.int x), (.ref b)]) (con_lenSL l hw S HC) rfl (lenOf pd_13 rfl) rfl (by decide) (Nat.le_of_eq rfl) (by decide) (by decide) (by decide) (cells' := 0) (slots' := 0) rfl rfl (pc' := 17) rfl ?_
  show Run _ _ _ _ _ _ _ _ _ _ _ _ _ _ _ _ _ _ _ _ _ (mkF m 17 #[.val (.ref a), .val (.int x), .val (.int (0 : Int32))] [(.int cs.length.toInt32), (.int (0 : Int32)), (.int x), (.ref b)])
  refine GoKit.callStaticP G d8_17 (wi hw 61 rfl) (wi hw 62 rfl) (wi hw 63 rfl) (wi hw 64 rfl) (by decide) (W := 0) (argsL := [(.ref b), (.int x), (.int (0 : Int32)), (.int cs.length.toInt32)]) (rest := []) (con_latIdx l hw x A hlat) rfl (lenOf pd_11 rfl) rfl (by decide) (Nat.le_of_eq rfl) (by decide) (by decide) (by decide) (cells' := 0) (slots' := 0) rfl rfl (pc' := 20) rfl ?_
  show Run _ _ _ _ _ _ _ _ _ _ _ _ _ _ _ _ _ _ _ _ _ (mkF m 20 #[.val (.ref a), .val (.int x), .val (.int (0 : Int32))] [(.int (idxFrom cs x 0))])
  refine GoKit.goto G d8_20 (by decide) (pc' := 36) rfl ?_
  refine GoKit.retInt G d8_36 rfl (by decide) (by decide) ?_
  exact ⟨rfl, rfl⟩
theorem d7_0 : decode jdk_42_method_79_code 0 = .ok (.aload_n 0, 1) := by decide +kernel
theorem d7_1 : decode jdk_42_method_79_code 1 = .ok (.iload_n 1, 1) := by decide +kernel
theorem d7_2 : decode jdk_42_method_79_code 2 = .ok (.iconst 0, 1) := by decide +kernel
theorem d7_3 : decode jdk_42_method_79_code 3 = .ok (.invokevirtual 633, 3) := by decide +kernel
theorem d7_6 : decode jdk_42_method_79_code 6 = .ok (.ireturn, 1) := by decide +kernel
abbrev rm_con_idxL : Room := { frames := 3, cells := 0, slots := 0, locals := 46 }
set_option maxRecDepth 65536 in
set_option maxHeartbeats 40000000 in
theorem con_idxL (l : Launch) {Z : State} {a0 : Array Value} (hw : ∀ d ∈ tables_1, d.before a0 Z = true) {n0 : Nat} {h0 : Heap} {a : Addr} {cs : List Int32} (x : Int32) (S : Lat Z h0 a cs) (HC : Cst Z) :
    Con l Z true false ELs n0 (⟨"java/lang/String", "indexOf", "(I)I"⟩ : MethodName) jdk_42_method_79_code 2 (some .int) rm_con_idxL [] #[(.ref a), (.int x)] h0 [] (fun v h => v = some (.int (idxFrom cs x 0)) ∧ h = h0) := by
  refine Con.intro (plainFor_of_name pn_java_lang_String) (hELs hw) ?_
  intro p e s m below meth c hh G
  refine castRun (g' := mkF m 0 #[.val (.ref a), .val (.int x)] []) (by first | rfl | (simp [entryFrame, mkF, argsToLocals, Value.category, maxLocals]; done)) ?_
  refine GoKit.aloadN G d7_0 rfl rfl (pc' := 1) rfl ?_
  refine GoKit.iloadN G d7_1 rfl (pc' := 2) rfl ?_
  refine GoKit.iconst G (0 : Int32) d7_2 rfl (pc' := 3) rfl ?_
  refine GoKit.callVirtualP G d7_3 (wi hw 40 rfl) (wi hw 41 rfl) (wi hw 43 rfl) (wi hw 42 rfl) (wi hw 11 rfl) (wi hw 44 rfl) (by decide) S.1 (W := 0) (argsL := [(.int x), (.int (0 : Int32))]) (rest := []) (con_idx2L l hw x S HC) rfl (lenOf pd_10 rfl) rfl (by decide) (Nat.le_of_eq rfl) (by decide) (by decide) (by decide) (cells' := 0) (slots' := 0) rfl rfl (pc' := 6) rfl ?_
  show Run _ _ _ _ _ _ _ _ _ _ _ _ _ _ _ _ _ _ _ _ _ (mkF m 6 #[.val (.ref a), .val (.int x)] [(.int (idxFrom cs x 0))])
  refine GoKit.retInt G d7_6 rfl (by decide) (by decide) ?_
  exact ⟨rfl, rfl⟩
theorem cases5 {v : Int32} (h : 0 ≤ v.toInt ∧ v.toInt < 5) : v = 0 ∨ v = 1 ∨ v = 2 ∨ v = 3 ∨ v = 4 := by
  have h2 : v.toInt = 0 ∨ v.toInt = 1 ∨ v.toInt = 2 ∨ v.toInt = 3 ∨ v.toInt = 4 := by omega
  rcases h2 with h2 | h2 | h2 | h2 | h2
  · exact Or.inl (Int32.toInt_inj.mp h2)
  · exact Or.inr (Or.inl (Int32.toInt_inj.mp h2))
  · exact Or.inr (Or.inr (Or.inl (Int32.toInt_inj.mp h2)))
  · exact Or.inr (Or.inr (Or.inr (Or.inl (Int32.toInt_inj.mp h2))))
  · exact Or.inr (Or.inr (Or.inr (Or.inr (Int32.toInt_inj.mp h2))))
theorem d2_0 : decode method_3_code 0 = .ok (.iload_n 0, 1) := by decide +kernel
theorem d2_1 : decode method_3_code 1 = .ok (.ifCond .ne 14, 3) := by decide +kernel
theorem d2_4 : decode method_3_code 4 = .ok (.new 8, 3) := by decide +kernel
theorem d2_7 : decode method_3_code 7 = .ok (.dup, 1) := by decide +kernel
theorem d2_8 : decode method_3_code 8 = .ok (.iconst 0, 1) := by decide +kernel
theorem d2_9 : decode method_3_code 9 = .ok (.newarray .char, 2) := by decide +kernel
theorem d2_11 : decode method_3_code 11 = .ok (.invokespecial 10, 3) := by decide +kernel
theorem pd_14 : parseMethodDescriptor "([C)V" = some ⟨[(.array .char)], none⟩ := by decide +kernel
theorem d2_14 : decode method_3_code 14 = .ok (.areturn, 1) := by decide +kernel
theorem pn_com_example_realmwarden_realmwarden_password_BindPasswordFileCheckedPinLaw : plainName "com/example/realmwarden/realmwarden/password/BindPasswordFileCheckedPinLaw" = true := by first | (simp [plainName, overriddenIn]; done) | decide +kernel
abbrev rm_con_make0 : Room := { frames := 3, cells := 6, slots := 12, locals := 43 }
set_option maxRecDepth 65536 in
set_option maxHeartbeats 40000000 in
theorem con_make0 (l : Launch) {Z : State} {a0 : Array Value} (hw : ∀ d ∈ tables_1, d.before a0 Z = true) {n0 : Nat} {h0 : Heap} {x0 : Int32} (H0 : 0 ≤ x0.toInt ∧ x0.toInt < 65536) {x1 : Int32} (H1 : 0 ≤ x1.toInt ∧ x1.toInt < 65536) {x2 : Int32} (H2 : 0 ≤ x2.toInt ∧ x2.toInt < 65536) {x3 : Int32} (H3 : 0 ≤ x3.toInt ∧ x3.toInt < 65536) (HC : Cst Z) (HU : Ust Z) :
    Con l Z true false ELs n0 (⟨"com/example/realmwarden/realmwarden/password/BindPasswordFileCheckedPinLaw", "draw", "(ICCCC)Ljava/lang/String;"⟩ : MethodName) method_3_code 5 (some (.object "java/lang/String")) rm_con_make0 [] #[(.int (0 : Int32)), (.int x0), (.int x1), (.int x2), (.int x3)] h0 [] (fun v h => ∃ a, v = some (.ref a) ∧ Lat Z h a []) := by
  refine Con.intro (plainFor_of_name pn_com_example_realmwarden_realmwarden_password_BindPasswordFileCheckedPinLaw) (hELs hw) ?_
  intro p e s m below meth c hh G
  refine castRun (g' := mkF m 0 #[.val (.int (0 : Int32)), .val (.int x0), .val (.int x1), .val (.int x2), .val (.int x3)] []) (by first | rfl | (simp [entryFrame, mkF, argsToLocals, Value.category, maxLocals]; done)) ?_
  refine GoKit.iloadN G d2_0 rfl (pc' := 1) rfl ?_
  refine GoKit.if_ne_f G d2_1 (by decide) (pc' := 4) rfl ?_
  refine GoKit.newobj G d2_4 (wi hw 9 rfl) (wi hw 10 rfl) (wi hw 11 rfl) (by decide) (by decide) (cells' := 1) (slots' := 4) rfl rfl (pc' := 7) rfl (fun h5 a1 ga1 E2 X3 D4 => ?_)
  have F6 : Fld Z h5 a1 "java/lang/String" "value" "[B" .null := D4 (Or.inr (wi hw 25 rfl)) (ty := (.array .byte)) (by decide)
  have F7 : Fld Z h5 a1 "java/lang/String" "coder" "B" (.int 0) := D4 (Or.inr (wi hw 26 rfl)) (ty := .byte) (by decide)
  refine GoKit.dup G d2_7 rfl (pc' := 8) rfl ?_
  refine GoKit.iconst G (0 : Int32) d2_8 rfl (pc' := 9) rfl ?_
  refine GoKit.newcI G d2_9 (wi hw 12 rfl) (by decide) (k := 0) (cap := 0) rfl (Nat.le_refl _) (by decide) (by decide) (by decide) (cells' := 2) (slots' := 4) rfl rfl (pc' := 11) rfl (fun h11 a8 ga8 E9 A10 => ?_)
  refine GoKit.callSpecial G d2_11 rfl (wi hw 13 rfl) (wi hw 14 rfl) (wi hw 11 rfl) (wi hw 15 rfl) (by decide) (owc := [a1]) (W := 1) (argsL := [(.ref a8)]) (rest := [(.ref a1)]) (con_strInitE l hw (X3.ext E9) (F6.ext E9) (F7.ext E9) A10) rfl (lenOf pd_14 rfl) rfl (by decide) (Nat.le_of_eq rfl) (by decide) (by decide) (by decide) (by intro x hx; simp only [List.mem_cons, List.not_mem_nil, or_false] at hx ⊢; simp [hx]) (cells' := 6) (slots' := 12) rfl rfl (pc' := 14) rfl (fun r12 h15 q13 K14 => ?_)
  obtain ⟨rfl, S16⟩ := q13
  show Run _ _ _ _ _ _ _ _ _ _ _ _ _ _ _ _ _ _ _ _ _ (mkF m 14 #[.val (.int (0 : Int32)), .val (.int x0), .val (.int x1), .val (.int x2), .val (.int x3)] [(.ref a1)])
  refine GoKit.retRef G rfl d2_14 rfl rfl rfl (by decide) (by decide) ?_
  exact ⟨_, rfl, S16⟩
theorem d2_15 : decode method_3_code 15 = .ok (.iload_n 0, 1) := by decide +kernel
theorem d2_16 : decode method_3_code 16 = .ok (.iconst 1, 1) := by decide +kernel
theorem d2_17 : decode method_3_code 17 = .ok (.if_icmp .ne 18, 3) := by decide +kernel
theorem d2_20 : decode method_3_code 20 = .ok (.new 8, 3) := by decide +kernel
theorem d2_23 : decode method_3_code 23 = .ok (.dup, 1) := by decide +kernel
theorem d2_24 : decode method_3_code 24 = .ok (.iconst 1, 1) := by decide +kernel
theorem d2_25 : decode method_3_code 25 = .ok (.newarray .char, 2) := by decide +kernel
theorem d2_27 : decode method_3_code 27 = .ok (.dup, 1) := by decide +kernel
theorem d2_28 : decode method_3_code 28 = .ok (.iconst 0, 1) := by decide +kernel
theorem d2_29 : decode method_3_code 29 = .ok (.iload_n 1, 1) := by decide +kernel
theorem d2_30 : decode method_3_code 30 = .ok (.castore, 1) := by decide +kernel
theorem d2_31 : decode method_3_code 31 = .ok (.invokespecial 10, 3) := by decide +kernel
theorem d2_34 : decode method_3_code 34 = .ok (.areturn, 1) := by decide +kernel
abbrev rm_con_make1 : Room := { frames := 6, cells := 4, slots := 17, locals := 88 }
set_option maxRecDepth 65536 in
set_option maxHeartbeats 40000000 in
theorem con_make1 (l : Launch) {Z : State} {a0 : Array Value} (hw : ∀ d ∈ tables_1, d.before a0 Z = true) {n0 : Nat} {h0 : Heap} {x0 : Int32} (H0 : 0 ≤ x0.toInt ∧ x0.toInt < 65536) {x1 : Int32} (H1 : 0 ≤ x1.toInt ∧ x1.toInt < 65536) {x2 : Int32} (H2 : 0 ≤ x2.toInt ∧ x2.toInt < 65536) {x3 : Int32} (H3 : 0 ≤ x3.toInt ∧ x3.toInt < 65536) (HC : Cst Z) (HU : Ust Z) :
    Con l Z true false ELs n0 (⟨"com/example/realmwarden/realmwarden/password/BindPasswordFileCheckedPinLaw", "draw", "(ICCCC)Ljava/lang/String;"⟩ : MethodName) method_3_code 5 (some (.object "java/lang/String")) rm_con_make1 [] #[(.int (1 : Int32)), (.int x0), (.int x1), (.int x2), (.int x3)] h0 [] (fun v h => ∃ a, v = some (.ref a) ∧ Str Z h a [x0]) := by
  refine Con.intro (plainFor_of_name pn_com_example_realmwarden_realmwarden_password_BindPasswordFileCheckedPinLaw) (hELs hw) ?_
  intro p e s m below meth c hh G
  refine castRun (g' := mkF m 0 #[.val (.int (1 : Int32)), .val (.int x0), .val (.int x1), .val (.int x2), .val (.int x3)] []) (by first | rfl | (simp [entryFrame, mkF, argsToLocals, Value.category, maxLocals]; done)) ?_
  refine GoKit.iloadN G d2_0 rfl (pc' := 1) rfl ?_
  refine GoKit.if_ne_t G d2_1 (by decide) (by decide) (pc' := 15) rfl ?_
  refine GoKit.iloadN G d2_15 rfl (pc' := 16) rfl ?_
  refine GoKit.iconst G (1 : Int32) d2_16 rfl (pc' := 17) rfl ?_
  refine GoKit.icmp_ne_f G d2_17 (by decide) (pc' := 20) rfl ?_
  refine GoKit.newobj G d2_20 (wi hw 9 rfl) (wi hw 10 rfl) (wi hw 11 rfl) (by decide) (by decide) (cells' := 1) (slots' := 4) rfl rfl (pc' := 23) rfl (fun h5 a1 ga1 E2 X3 D4 => ?_)
  have F6 : Fld Z h5 a1 "java/lang/String" "value" "[B" .null := D4 (Or.inr (wi hw 25 rfl)) (ty := (.array .byte)) (by decide)
  have F7 : Fld Z h5 a1 "java/lang/String" "coder" "B" (.int 0) := D4 (Or.inr (wi hw 26 rfl)) (ty := .byte) (by decide)
  refine GoKit.dup G d2_23 rfl (pc' := 24) rfl ?_
  refine GoKit.iconst G (1 : Int32) d2_24 rfl (pc' := 25) rfl ?_
  refine GoKit.newcI G d2_25 (wi hw 12 rfl) (by decide) (k := 1) (cap := 1) rfl (Nat.le_refl _) (by decide) (by decide) (by decide) (cells' := 2) (slots' := 5) rfl rfl (pc' := 27) rfl (fun h11 a8 ga8 E9 A10 => ?_)
  refine GoKit.dup G d2_27 rfl (pc' := 28) rfl ?_
  refine GoKit.iconst G (0 : Int32) d2_28 rfl (pc' := 29) rfl ?_
  refine GoKit.iloadN G d2_29 rfl (pc' := 30) rfl ?_
  refine GoKit.castI G d2_30 A10 (i := 0) rfl (by decide) (Nat.le_of_ble_eq_true rfl) (nar16 H0) (List.Mem.head _) (pc' := 31) rfl (fun h14 W12 A13 => ?_)
  change IA Z h14 a8 .char [x0] at A13
  have ha15 : ∀ c ∈ ([x0] : List Int32), 0 ≤ c.toInt ∧ c.toInt < 65536 := by
    intro c hc
    simp only [List.mem_cons, List.not_mem_nil, or_false] at hc
    rcases hc with hc
    · rw [hc]; exact H0
  refine GoKit.callSpecial G d2_31 rfl (wi hw 13 rfl) (wi hw 14 rfl) (wi hw 11 rfl) (wi hw 15 rfl) (by decide) (owc := [a1]) (W := 1) (argsL := [(.ref a8)]) (rest := [(.ref a1)]) (con_strInitS l hw ((X3.ext E9).wr W12) ((F6.ext E9).other W12 (Or.inl (Nat.ne_of_lt (Nat.lt_of_lt_of_le (X3).lt (Nat.le_of_eq ga8.symm))))) ((F7.ext E9).other W12 (Or.inl (Nat.ne_of_lt (Nat.lt_of_lt_of_le (X3).lt (Nat.le_of_eq ga8.symm))))) A13 (Nat.le_of_ble_eq_true rfl) ha15 (by simp) HC HU) rfl (lenOf pd_14 rfl) rfl (by decide) (Nat.le_of_eq rfl) (by decide) (by decide) (by decide) (by intro x hx; simp only [List.mem_cons, List.not_mem_nil, or_false] at hx ⊢; simp [hx]) (cells' := 4) (slots' := 17) rfl rfl (pc' := 34) rfl (fun r16 h19 q17 K18 => ?_)
  obtain ⟨rfl, S20⟩ := q17
  show Run _ _ _ _ _ _ _ _ _ _ _ _ _ _ _ _ _ _ _ _ _ (mkF m 34 #[.val (.int (1 : Int32)), .val (.int x0), .val (.int x1), .val (.int x2), .val (.int x3)] [(.ref a1)])
  refine GoKit.retRef G rfl d2_34 rfl rfl rfl (by decide) (by decide) ?_
  exact ⟨_, rfl, S20⟩
theorem d2_35 : decode method_3_code 35 = .ok (.iload_n 0, 1) := by decide +kernel
theorem d2_36 : decode method_3_code 36 = .ok (.iconst 2, 1) := by decide +kernel
theorem d2_37 : decode method_3_code 37 = .ok (.if_icmp .ne 22, 3) := by decide +kernel
theorem d2_40 : decode method_3_code 40 = .ok (.new 8, 3) := by decide +kernel
theorem d2_43 : decode method_3_code 43 = .ok (.dup, 1) := by decide +kernel
theorem d2_44 : decode method_3_code 44 = .ok (.iconst 2, 1) := by decide +kernel
theorem d2_45 : decode method_3_code 45 = .ok (.newarray .char, 2) := by decide +kernel
theorem d2_47 : decode method_3_code 47 = .ok (.dup, 1) := by decide +kernel
theorem d2_48 : decode method_3_code 48 = .ok (.iconst 0, 1) := by decide +kernel
theorem d2_49 : decode method_3_code 49 = .ok (.iload_n 1, 1) := by decide +kernel
theorem d2_50 : decode method_3_code 50 = .ok (.castore, 1) := by decide +kernel
theorem d2_51 : decode method_3_code 51 = .ok (.dup, 1) := by decide +kernel
theorem d2_52 : decode method_3_code 52 = .ok (.iconst 1, 1) := by decide +kernel
theorem d2_53 : decode method_3_code 53 = .ok (.iload_n 2, 1) := by decide +kernel
theorem d2_54 : decode method_3_code 54 = .ok (.castore, 1) := by decide +kernel
theorem d2_55 : decode method_3_code 55 = .ok (.invokespecial 10, 3) := by decide +kernel
theorem d2_58 : decode method_3_code 58 = .ok (.areturn, 1) := by decide +kernel
abbrev rm_con_make2 : Room := { frames := 6, cells := 4, slots := 18, locals := 88 }
set_option maxRecDepth 65536 in
set_option maxHeartbeats 40000000 in
theorem con_make2 (l : Launch) {Z : State} {a0 : Array Value} (hw : ∀ d ∈ tables_1, d.before a0 Z = true) {n0 : Nat} {h0 : Heap} {x0 : Int32} (H0 : 0 ≤ x0.toInt ∧ x0.toInt < 65536) {x1 : Int32} (H1 : 0 ≤ x1.toInt ∧ x1.toInt < 65536) {x2 : Int32} (H2 : 0 ≤ x2.toInt ∧ x2.toInt < 65536) {x3 : Int32} (H3 : 0 ≤ x3.toInt ∧ x3.toInt < 65536) (HC : Cst Z) (HU : Ust Z) :
    Con l Z true false ELs n0 (⟨"com/example/realmwarden/realmwarden/password/BindPasswordFileCheckedPinLaw", "draw", "(ICCCC)Ljava/lang/String;"⟩ : MethodName) method_3_code 5 (some (.object "java/lang/String")) rm_con_make2 [] #[(.int (2 : Int32)), (.int x0), (.int x1), (.int x2), (.int x3)] h0 [] (fun v h => ∃ a, v = some (.ref a) ∧ Str Z h a [x0, x1]) := by
  refine Con.intro (plainFor_of_name pn_com_example_realmwarden_realmwarden_password_BindPasswordFileCheckedPinLaw) (hELs hw) ?_
  intro p e s m below meth c hh G
  refine castRun (g' := mkF m 0 #[.val (.int (2 : Int32)), .val (.int x0), .val (.int x1), .val (.int x2), .val (.int x3)] []) (by first | rfl | (simp [entryFrame, mkF, argsToLocals, Value.category, maxLocals]; done)) ?_
  refine GoKit.iloadN G d2_0 rfl (pc' := 1) rfl ?_
  refine GoKit.if_ne_t G d2_1 (by decide) (by decide) (pc' := 15) rfl ?_
  refine GoKit.iloadN G d2_15 rfl (pc' := 16) rfl ?_
  refine GoKit.iconst G (1 : Int32) d2_16 rfl (pc' := 17) rfl ?_
  refine GoKit.icmp_ne_t G d2_17 (by decide) (by decide) (pc' := 35) rfl ?_
  refine GoKit.iloadN G d2_35 rfl (pc' := 36) rfl ?_
  refine GoKit.iconst G (2 : Int32) d2_36 rfl (pc' := 37) rfl ?_
  refine GoKit.icmp_ne_f G d2_37 (by decide) (pc' := 40) rfl ?_
  refine GoKit.newobj G d2_40 (wi hw 9 rfl) (wi hw 10 rfl) (wi hw 11 rfl) (by decide) (by decide) (cells' := 1) (slots' := 4) rfl rfl (pc' := 43) rfl (fun h5 a1 ga1 E2 X3 D4 => ?_)
  have F6 : Fld Z h5 a1 "java/lang/String" "value" "[B" .null := D4 (Or.inr (wi hw 25 rfl)) (ty := (.array .byte)) (by decide)
  have F7 : Fld Z h5 a1 "java/lang/String" "coder" "B" (.int 0) := D4 (Or.inr (wi hw 26 rfl)) (ty := .byte) (by decide)
  refine GoKit.dup G d2_43 rfl (pc' := 44) rfl ?_
  refine GoKit.iconst G (2 : Int32) d2_44 rfl (pc' := 45) rfl ?_
  refine GoKit.newcI G d2_45 (wi hw 12 rfl) (by decide) (k := 2) (cap := 2) rfl (Nat.le_refl _) (by decide) (by decide) (by decide) (cells' := 2) (slots' := 6) rfl rfl (pc' := 47) rfl (fun h11 a8 ga8 E9 A10 => ?_)
  refine GoKit.dup G d2_47 rfl (pc' := 48) rfl ?_
  refine GoKit.iconst G (0 : Int32) d2_48 rfl (pc' := 49) rfl ?_
  refine GoKit.iloadN G d2_49 rfl (pc' := 50) rfl ?_
  refine GoKit.castI G d2_50 A10 (i := 0) rfl (by decide) (Nat.le_of_ble_eq_true rfl) (nar16 H0) (List.Mem.head _) (pc' := 51) rfl (fun h14 W12 A13 => ?_)
  change IA Z h14 a8 .char [x0, 0] at A13
  refine GoKit.dup G d2_51 rfl (pc' := 52) rfl ?_
  refine GoKit.iconst G (1 : Int32) d2_52 rfl (pc' := 53) rfl ?_
  refine GoKit.iloadN G d2_53 rfl (pc' := 54) rfl ?_
  refine GoKit.castI G d2_54 A13 (i := 1) rfl (by decide) (Nat.le_of_ble_eq_true rfl) (nar16 H1) (List.Mem.head _) (pc' := 55) rfl (fun h17 W15 A16 => ?_)
  change IA Z h17 a8 .char [x0, x1] at A16
  have ha18 : ∀ c ∈ ([x0, x1] : List Int32), 0 ≤ c.toInt ∧ c.toInt < 65536 := by
    intro c hc
    simp only [List.mem_cons, List.not_mem_nil, or_false] at hc
    rcases hc with hc | hc
    · rw [hc]; exact H0
    · rw [hc]; exact H1
  refine GoKit.callSpecial G d2_55 rfl (wi hw 13 rfl) (wi hw 14 rfl) (wi hw 11 rfl) (wi hw 15 rfl) (by decide) (owc := [a1]) (W := 1) (argsL := [(.ref a8)]) (rest := [(.ref a1)]) (con_strInitS l hw (((X3.ext E9).wr W12).wr W15) (((F6.ext E9).other W12 (Or.inl (Nat.ne_of_lt (Nat.lt_of_lt_of_le (X3).lt (Nat.le_of_eq ga8.symm))))).other W15 (Or.inl (Nat.ne_of_lt (Nat.lt_of_lt_of_le (X3).lt (Nat.le_of_eq ga8.symm))))) (((F7.ext E9).other W12 (Or.inl (Nat.ne_of_lt (Nat.lt_of_lt_of_le (X3).lt (Nat.le_of_eq ga8.symm))))).other W15 (Or.inl (Nat.ne_of_lt (Nat.lt_of_lt_of_le (X3).lt (Nat.le_of_eq ga8.symm))))) A16 (Nat.le_of_ble_eq_true rfl) ha18 (by simp) HC HU) rfl (lenOf pd_14 rfl) rfl (by decide) (Nat.le_of_eq rfl) (by decide) (by decide) (by decide) (by intro x hx; simp only [List.mem_cons, List.not_mem_nil, or_false] at hx ⊢; simp [hx]) (cells' := 4) (slots' := 18) rfl rfl (pc' := 58) rfl (fun r19 h22 q20 K21 => ?_)
  obtain ⟨rfl, S23⟩ := q20
  show Run _ _ _ _ _ _ _ _ _ _ _ _ _ _ _ _ _ _ _ _ _ (mkF m 58 #[.val (.int (2 : Int32)), .val (.int x0), .val (.int x1), .val (.int x2), .val (.int x3)] [(.ref a1)])
  refine GoKit.retRef G rfl d2_58 rfl rfl rfl (by decide) (by decide) ?_
  exact ⟨_, rfl, S23⟩
theorem d2_59 : decode method_3_code 59 = .ok (.iload_n 0, 1) := by decide +kernel
theorem d2_60 : decode method_3_code 60 = .ok (.iconst 3, 1) := by decide +kernel
theorem d2_61 : decode method_3_code 61 = .ok (.if_icmp .ne 26, 3) := by decide +kernel
theorem d2_64 : decode method_3_code 64 = .ok (.new 8, 3) := by decide +kernel
theorem d2_67 : decode method_3_code 67 = .ok (.dup, 1) := by decide +kernel
theorem d2_68 : decode method_3_code 68 = .ok (.iconst 3, 1) := by decide +kernel
theorem d2_69 : decode method_3_code 69 = .ok (.newarray .char, 2) := by decide +kernel
theorem d2_71 : decode method_3_code 71 = .ok (.dup, 1) := by decide +kernel
theorem d2_72 : decode method_3_code 72 = .ok (.iconst 0, 1) := by decide +kernel
theorem d2_73 : decode method_3_code 73 = .ok (.iload_n 1, 1) := by decide +kernel
theorem d2_74 : decode method_3_code 74 = .ok (.castore, 1) := by decide +kernel
theorem d2_75 : decode method_3_code 75 = .ok (.dup, 1) := by decide +kernel
theorem d2_76 : decode method_3_code 76 = .ok (.iconst 1, 1) := by decide +kernel
theorem d2_77 : decode method_3_code 77 = .ok (.iload_n 2, 1) := by decide +kernel
theorem d2_78 : decode method_3_code 78 = .ok (.castore, 1) := by decide +kernel
theorem d2_79 : decode method_3_code 79 = .ok (.dup, 1) := by decide +kernel
theorem d2_80 : decode method_3_code 80 = .ok (.iconst 2, 1) := by decide +kernel
theorem d2_81 : decode method_3_code 81 = .ok (.iload_n 3, 1) := by decide +kernel
theorem d2_82 : decode method_3_code 82 = .ok (.castore, 1) := by decide +kernel
theorem d2_83 : decode method_3_code 83 = .ok (.invokespecial 10, 3) := by decide +kernel
theorem d2_86 : decode method_3_code 86 = .ok (.areturn, 1) := by decide +kernel
abbrev rm_con_make3 : Room := { frames := 6, cells := 4, slots := 19, locals := 88 }
set_option maxRecDepth 65536 in
set_option maxHeartbeats 40000000 in
theorem con_make3 (l : Launch) {Z : State} {a0 : Array Value} (hw : ∀ d ∈ tables_1, d.before a0 Z = true) {n0 : Nat} {h0 : Heap} {x0 : Int32} (H0 : 0 ≤ x0.toInt ∧ x0.toInt < 65536) {x1 : Int32} (H1 : 0 ≤ x1.toInt ∧ x1.toInt < 65536) {x2 : Int32} (H2 : 0 ≤ x2.toInt ∧ x2.toInt < 65536) {x3 : Int32} (H3 : 0 ≤ x3.toInt ∧ x3.toInt < 65536) (HC : Cst Z) (HU : Ust Z) :
    Con l Z true false ELs n0 (⟨"com/example/realmwarden/realmwarden/password/BindPasswordFileCheckedPinLaw", "draw", "(ICCCC)Ljava/lang/String;"⟩ : MethodName) method_3_code 5 (some (.object "java/lang/String")) rm_con_make3 [] #[(.int (3 : Int32)), (.int x0), (.int x1), (.int x2), (.int x3)] h0 [] (fun v h => ∃ a, v = some (.ref a) ∧ Str Z h a [x0, x1, x2]) := by
  refine Con.intro (plainFor_of_name pn_com_example_realmwarden_realmwarden_password_BindPasswordFileCheckedPinLaw) (hELs hw) ?_
  intro p e s m below meth c hh G
  refine castRun (g' := mkF m 0 #[.val (.int (3 : Int32)), .val (.int x0), .val (.int x1), .val (.int x2), .val (.int x3)] []) (by first | rfl | (simp [entryFrame, mkF, argsToLocals, Value.category, maxLocals]; done)) ?_
  refine GoKit.iloadN G d2_0 rfl (pc' := 1) rfl ?_
  refine GoKit.if_ne_t G d2_1 (by decide) (by decide) (pc' := 15) rfl ?_
  refine GoKit.iloadN G d2_15 rfl (pc' := 16) rfl ?_
  refine GoKit.iconst G (1 : Int32) d2_16 rfl (pc' := 17) rfl ?_
  refine GoKit.icmp_ne_t G d2_17 (by decide) (by decide) (pc' := 35) rfl ?_
  refine GoKit.iloadN G d2_35 rfl (pc' := 36) rfl ?_
  refine GoKit.iconst G (2 : Int32) d2_36 rfl (pc' := 37) rfl ?_
  refine GoKit.icmp_ne_t G d2_37 (by decide) (by decide) (pc' := 59) rfl ?_
  refine GoKit.iloadN G d2_59 rfl (pc' := 60) rfl ?_
  refine GoKit.iconst G (3 : Int32) d2_60 rfl (pc' := 61) rfl ?_
  refine GoKit.icmp_ne_f G d2_61 (by decide) (pc' := 64) rfl ?_
  refine GoKit.newobj G d2_64 (wi hw 9 rfl) (wi hw 10 rfl) (wi hw 11 rfl) (by decide) (by decide) (cells' := 1) (slots' := 4) rfl rfl (pc' := 67) rfl (fun h5 a1 ga1 E2 X3 D4 => ?_)
  have F6 : Fld Z h5 a1 "java/lang/String" "value" "[B" .null := D4 (Or.inr (wi hw 25 rfl)) (ty := (.array .byte)) (by decide)
  have F7 : Fld Z h5 a1 "java/lang/String" "coder" "B" (.int 0) := D4 (Or.inr (wi hw 26 rfl)) (ty := .byte) (by decide)
  refine GoKit.dup G d2_67 rfl (pc' := 68) rfl ?_
  refine GoKit.iconst G (3 : Int32) d2_68 rfl (pc' := 69) rfl ?_
  refine GoKit.newcI G d2_69 (wi hw 12 rfl) (by decide) (k := 3) (cap := 3) rfl (Nat.le_refl _) (by decide) (by decide) (by decide) (cells' := 2) (slots' := 7) rfl rfl (pc' := 71) rfl (fun h11 a8 ga8 E9 A10 => ?_)
  refine GoKit.dup G d2_71 rfl (pc' := 72) rfl ?_
  refine GoKit.iconst G (0 : Int32) d2_72 rfl (pc' := 73) rfl ?_
  refine GoKit.iloadN G d2_73 rfl (pc' := 74) rfl ?_
  refine GoKit.castI G d2_74 A10 (i := 0) rfl (by decide) (Nat.le_of_ble_eq_true rfl) (nar16 H0) (List.Mem.head _) (pc' := 75) rfl (fun h14 W12 A13 => ?_)
  change IA Z h14 a8 .char [x0, 0, 0] at A13
  refine GoKit.dup G d2_75 rfl (pc' := 76) rfl ?_
  refine GoKit.iconst G (1 : Int32) d2_76 rfl (pc' := 77) rfl ?_
  refine GoKit.iloadN G d2_77 rfl (pc' := 78) rfl ?_
  refine GoKit.castI G d2_78 A13 (i := 1) rfl (by decide) (Nat.le_of_ble_eq_true rfl) (nar16 H1) (List.Mem.head _) (pc' := 79) rfl (fun h17 W15 A16 => ?_)
  change IA Z h17 a8 .char [x0, x1, 0] at A16
  refine GoKit.dup G d2_79 rfl (pc' := 80) rfl ?_
  refine GoKit.iconst G (2 : Int32) d2_80 rfl (pc' := 81) rfl ?_
  refine GoKit.iloadN G d2_81 rfl (pc' := 82) rfl ?_
  refine GoKit.castI G d2_82 A16 (i := 2) rfl (by decide) (Nat.le_of_ble_eq_true rfl) (nar16 H2) (List.Mem.head _) (pc' := 83) rfl (fun h20 W18 A19 => ?_)
  change IA Z h20 a8 .char [x0, x1, x2] at A19
  have ha21 : ∀ c ∈ ([x0, x1, x2] : List Int32), 0 ≤ c.toInt ∧ c.toInt < 65536 := by
    intro c hc
    simp only [List.mem_cons, List.not_mem_nil, or_false] at hc
    rcases hc with hc | hc | hc
    · rw [hc]; exact H0
    · rw [hc]; exact H1
    · rw [hc]; exact H2
  refine GoKit.callSpecial G d2_83 rfl (wi hw 13 rfl) (wi hw 14 rfl) (wi hw 11 rfl) (wi hw 15 rfl) (by decide) (owc := [a1]) (W := 1) (argsL := [(.ref a8)]) (rest := [(.ref a1)]) (con_strInitS l hw ((((X3.ext E9).wr W12).wr W15).wr W18) ((((F6.ext E9).other W12 (Or.inl (Nat.ne_of_lt (Nat.lt_of_lt_of_le (X3).lt (Nat.le_of_eq ga8.symm))))).other W15 (Or.inl (Nat.ne_of_lt (Nat.lt_of_lt_of_le (X3).lt (Nat.le_of_eq ga8.symm))))).other W18 (Or.inl (Nat.ne_of_lt (Nat.lt_of_lt_of_le (X3).lt (Nat.le_of_eq ga8.symm))))) ((((F7.ext E9).other W12 (Or.inl (Nat.ne_of_lt (Nat.lt_of_lt_of_le (X3).lt (Nat.le_of_eq ga8.symm))))).other W15 (Or.inl (Nat.ne_of_lt (Nat.lt_of_lt_of_le (X3).lt (Nat.le_of_eq ga8.symm))))).other W18 (Or.inl (Nat.ne_of_lt (Nat.lt_of_lt_of_le (X3).lt (Nat.le_of_eq ga8.symm))))) A19 (Nat.le_of_ble_eq_true rfl) ha21 (by simp) HC HU) rfl (lenOf pd_14 rfl) rfl (by decide) (Nat.le_of_eq rfl) (by decide) (by decide) (by decide) (by intro x hx; simp only [List.mem_cons, List.not_mem_nil, or_false] at hx ⊢; simp [hx]) (cells' := 4) (slots' := 19) rfl rfl (pc' := 86) rfl (fun r22 h25 q23 K24 => ?_)
  obtain ⟨rfl, S26⟩ := q23
  show Run _ _ _ _ _ _ _ _ _ _ _ _ _ _ _ _ _ _ _ _ _ (mkF m 86 #[.val (.int (3 : Int32)), .val (.int x0), .val (.int x1), .val (.int x2), .val (.int x3)] [(.ref a1)])
  refine GoKit.retRef G rfl d2_86 rfl rfl rfl (by decide) (by decide) ?_
  exact ⟨_, rfl, S26⟩
theorem d2_87 : decode method_3_code 87 = .ok (.new 8, 3) := by decide +kernel
theorem d2_90 : decode method_3_code 90 = .ok (.dup, 1) := by decide +kernel
theorem d2_91 : decode method_3_code 91 = .ok (.iconst 4, 1) := by decide +kernel
theorem d2_92 : decode method_3_code 92 = .ok (.newarray .char, 2) := by decide +kernel
theorem d2_94 : decode method_3_code 94 = .ok (.dup, 1) := by decide +kernel
theorem d2_95 : decode method_3_code 95 = .ok (.iconst 0, 1) := by decide +kernel
theorem d2_96 : decode method_3_code 96 = .ok (.iload_n 1, 1) := by decide +kernel
theorem d2_97 : decode method_3_code 97 = .ok (.castore, 1) := by decide +kernel
theorem d2_98 : decode method_3_code 98 = .ok (.dup, 1) := by decide +kernel
theorem d2_99 : decode method_3_code 99 = .ok (.iconst 1, 1) := by decide +kernel
theorem d2_100 : decode method_3_code 100 = .ok (.iload_n 2, 1) := by decide +kernel
theorem d2_101 : decode method_3_code 101 = .ok (.castore, 1) := by decide +kernel
theorem d2_102 : decode method_3_code 102 = .ok (.dup, 1) := by decide +kernel
theorem d2_103 : decode method_3_code 103 = .ok (.iconst 2, 1) := by decide +kernel
theorem d2_104 : decode method_3_code 104 = .ok (.iload_n 3, 1) := by decide +kernel
theorem d2_105 : decode method_3_code 105 = .ok (.castore, 1) := by decide +kernel
theorem d2_106 : decode method_3_code 106 = .ok (.dup, 1) := by decide +kernel
theorem d2_107 : decode method_3_code 107 = .ok (.iconst 3, 1) := by decide +kernel
theorem d2_108 : decode method_3_code 108 = .ok (.iload 4, 2) := by decide +kernel
theorem d2_110 : decode method_3_code 110 = .ok (.castore, 1) := by decide +kernel
theorem d2_111 : decode method_3_code 111 = .ok (.invokespecial 10, 3) := by decide +kernel
theorem d2_114 : decode method_3_code 114 = .ok (.areturn, 1) := by decide +kernel
abbrev rm_con_make4 : Room := { frames := 6, cells := 4, slots := 20, locals := 88 }
set_option maxRecDepth 65536 in
set_option maxHeartbeats 40000000 in
theorem con_make4 (l : Launch) {Z : State} {a0 : Array Value} (hw : ∀ d ∈ tables_1, d.before a0 Z = true) {n0 : Nat} {h0 : Heap} {x0 : Int32} (H0 : 0 ≤ x0.toInt ∧ x0.toInt < 65536) {x1 : Int32} (H1 : 0 ≤ x1.toInt ∧ x1.toInt < 65536) {x2 : Int32} (H2 : 0 ≤ x2.toInt ∧ x2.toInt < 65536) {x3 : Int32} (H3 : 0 ≤ x3.toInt ∧ x3.toInt < 65536) (HC : Cst Z) (HU : Ust Z) :
    Con l Z true false ELs n0 (⟨"com/example/realmwarden/realmwarden/password/BindPasswordFileCheckedPinLaw", "draw", "(ICCCC)Ljava/lang/String;"⟩ : MethodName) method_3_code 5 (some (.object "java/lang/String")) rm_con_make4 [] #[(.int (4 : Int32)), (.int x0), (.int x1), (.int x2), (.int x3)] h0 [] (fun v h => ∃ a, v = some (.ref a) ∧ Str Z h a [x0, x1, x2, x3]) := by
  refine Con.intro (plainFor_of_name pn_com_example_realmwarden_realmwarden_password_BindPasswordFileCheckedPinLaw) (hELs hw) ?_
  intro p e s m below meth c hh G
  refine castRun (g' := mkF m 0 #[.val (.int (4 : Int32)), .val (.int x0), .val (.int x1), .val (.int x2), .val (.int x3)] []) (by first | rfl | (simp [entryFrame, mkF, argsToLocals, Value.category, maxLocals]; done)) ?_
  refine GoKit.iloadN G d2_0 rfl (pc' := 1) rfl ?_
  refine GoKit.if_ne_t G d2_1 (by decide) (by decide) (pc' := 15) rfl ?_
  refine GoKit.iloadN G d2_15 rfl (pc' := 16) rfl ?_
  refine GoKit.iconst G (1 : Int32) d2_16 rfl (pc' := 17) rfl ?_
  refine GoKit.icmp_ne_t G d2_17 (by decide) (by decide) (pc' := 35) rfl ?_
  refine GoKit.iloadN G d2_35 rfl (pc' := 36) rfl ?_
  refine GoKit.iconst G (2 : Int32) d2_36 rfl (pc' := 37) rfl ?_
  refine GoKit.icmp_ne_t G d2_37 (by decide) (by decide) (pc' := 59) rfl ?_
  refine GoKit.iloadN G d2_59 rfl (pc' := 60) rfl ?_
  refine GoKit.iconst G (3 : Int32) d2_60 rfl (pc' := 61) rfl ?_
  refine GoKit.icmp_ne_t G d2_61 (by decide) (by decide) (pc' := 87) rfl ?_
  refine GoKit.newobj G d2_87 (wi hw 9 rfl) (wi hw 10 rfl) (wi hw 11 rfl) (by decide) (by decide) (cells' := 1) (slots' := 4) rfl rfl (pc' := 90) rfl (fun h5 a1 ga1 E2 X3 D4 => ?_)
  have F6 : Fld Z h5 a1 "java/lang/String" "value" "[B" .null := D4 (Or.inr (wi hw 25 rfl)) (ty := (.array .byte)) (by decide)
  have F7 : Fld Z h5 a1 "java/lang/String" "coder" "B" (.int 0) := D4 (Or.inr (wi hw 26 rfl)) (ty := .byte) (by decide)
  refine GoKit.dup G d2_90 rfl (pc' := 91) rfl ?_
  refine GoKit.iconst G (4 : Int32) d2_91 rfl (pc' := 92) rfl ?_
  refine GoKit.newcI G d2_92 (wi hw 12 rfl) (by decide) (k := 4) (cap := 4) rfl (Nat.le_refl _) (by decide) (by decide) (by decide) (cells' := 2) (slots' := 8) rfl rfl (pc' := 94) rfl (fun h11 a8 ga8 E9 A10 => ?_)
  refine GoKit.dup G d2_94 rfl (pc' := 95) rfl ?_
  refine GoKit.iconst G (0 : Int32) d2_95 rfl (pc' := 96) rfl ?_
  refine GoKit.iloadN G d2_96 rfl (pc' := 97) rfl ?_
  refine GoKit.castI G d2_97 A10 (i := 0) rfl (by decide) (Nat.le_of_ble_eq_true rfl) (nar16 H0) (List.Mem.head _) (pc' := 98) rfl (fun h14 W12 A13 => ?_)
  change IA Z h14 a8 .char [x0, 0, 0, 0] at A13
  refine GoKit.dup G d2_98 rfl (pc' := 99) rfl ?_
  refine GoKit.iconst G (1 : Int32) d2_99 rfl (pc' := 100) rfl ?_
  refine GoKit.iloadN G d2_100 rfl (pc' := 101) rfl ?_
  refine GoKit.castI G d2_101 A13 (i := 1) rfl (by decide) (Nat.le_of_ble_eq_true rfl) (nar16 H1) (List.Mem.head _) (pc' := 102) rfl (fun h17 W15 A16 => ?_)
  change IA Z h17 a8 .char [x0, x1, 0, 0] at A16
  refine GoKit.dup G d2_102 rfl (pc' := 103) rfl ?_
  refine GoKit.iconst G (2 : Int32) d2_103 rfl (pc' := 104) rfl ?_
  refine GoKit.iloadN G d2_104 rfl (pc' := 105) rfl ?_
  refine GoKit.castI G d2_105 A16 (i := 2) rfl (by decide) (Nat.le_of_ble_eq_true rfl) (nar16 H2) (List.Mem.head _) (pc' := 106) rfl (fun h20 W18 A19 => ?_)
  change IA Z h20 a8 .char [x0, x1, x2, 0] at A19
  refine GoKit.dup G d2_106 rfl (pc' := 107) rfl ?_
  refine GoKit.iconst G (3 : Int32) d2_107 rfl (pc' := 108) rfl ?_
  refine GoKit.iload G d2_108 rfl (pc' := 110) rfl ?_
  refine GoKit.castI G d2_110 A19 (i := 3) rfl (by decide) (Nat.le_of_ble_eq_true rfl) (nar16 H3) (List.Mem.head _) (pc' := 111) rfl (fun h23 W21 A22 => ?_)
  change IA Z h23 a8 .char [x0, x1, x2, x3] at A22
  have ha24 : ∀ c ∈ ([x0, x1, x2, x3] : List Int32), 0 ≤ c.toInt ∧ c.toInt < 65536 := by
    intro c hc
    simp only [List.mem_cons, List.not_mem_nil, or_false] at hc
    rcases hc with hc | hc | hc | hc
    · rw [hc]; exact H0
    · rw [hc]; exact H1
    · rw [hc]; exact H2
    · rw [hc]; exact H3
  refine GoKit.callSpecial G d2_111 rfl (wi hw 13 rfl) (wi hw 14 rfl) (wi hw 11 rfl) (wi hw 15 rfl) (by decide) (owc := [a1]) (W := 1) (argsL := [(.ref a8)]) (rest := [(.ref a1)]) (con_strInitS l hw (((((X3.ext E9).wr W12).wr W15).wr W18).wr W21) (((((F6.ext E9).other W12 (Or.inl (Nat.ne_of_lt (Nat.lt_of_lt_of_le (X3).lt (Nat.le_of_eq ga8.symm))))).other W15 (Or.inl (Nat.ne_of_lt (Nat.lt_of_lt_of_le (X3).lt (Nat.le_of_eq ga8.symm))))).other W18 (Or.inl (Nat.ne_of_lt (Nat.lt_of_lt_of_le (X3).lt (Nat.le_of_eq ga8.symm))))).other W21 (Or.inl (Nat.ne_of_lt (Nat.lt_of_lt_of_le (X3).lt (Nat.le_of_eq ga8.symm))))) (((((F7.ext E9).other W12 (Or.inl (Nat.ne_of_lt (Nat.lt_of_lt_of_le (X3).lt (Nat.le_of_eq ga8.symm))))).other W15 (Or.inl (Nat.ne_of_lt (Nat.lt_of_lt_of_le (X3).lt (Nat.le_of_eq ga8.symm))))).other W18 (Or.inl (Nat.ne_of_lt (Nat.lt_of_lt_of_le (X3).lt (Nat.le_of_eq ga8.symm))))).other W21 (Or.inl (Nat.ne_of_lt (Nat.lt_of_lt_of_le (X3).lt (Nat.le_of_eq ga8.symm))))) A22 (Nat.le_of_ble_eq_true rfl) ha24 (by simp) HC HU) rfl (lenOf pd_14 rfl) rfl (by decide) (Nat.le_of_eq rfl) (by decide) (by decide) (by decide) (by intro x hx; simp only [List.mem_cons, List.not_mem_nil, or_false] at hx ⊢; simp [hx]) (cells' := 4) (slots' := 20) rfl rfl (pc' := 114) rfl (fun r25 h28 q26 K27 => ?_)
  obtain ⟨rfl, S29⟩ := q26
  show Run _ _ _ _ _ _ _ _ _ _ _ _ _ _ _ _ _ _ _ _ _ (mkF m 114 #[.val (.int (4 : Int32)), .val (.int x0), .val (.int x1), .val (.int x2), .val (.int x3)] [(.ref a1)])
  refine GoKit.retRef G rfl d2_114 rfl rfl rfl (by decide) (by decide) ?_
  exact ⟨_, rfl, S29⟩
theorem d29_0 : decode jdk_52_method_6_code 0 = .ok (.aload_n 0, 1) := by decide +kernel
theorem d29_1 : decode jdk_52_method_6_code 1 = .ok (.arraylength, 1) := by decide +kernel
theorem d29_2 : decode jdk_52_method_6_code 2 = .ok (.iconst 1, 1) := by decide +kernel
theorem d29_3 : decode jdk_52_method_6_code 3 = .ok (.ishr, 1) := by decide +kernel
theorem d29_4 : decode jdk_52_method_6_code 4 = .ok (.ireturn, 1) := by decide +kernel
abbrev rm_con_uLen : Room := { frames := 0, cells := 0, slots := 0, locals := 0 }
set_option maxRecDepth 65536 in
set_option maxHeartbeats 40000000 in
theorem con_uLen (l : Launch) {Z : State} {a0 : Array Value} (hw : ∀ d ∈ tables_1, d.before a0 Z = true) {n0 : Nat} {h0 : Heap} {b : Addr} {cs : List Int32} (A : IA Z h0 b .byte (u16 cs)) (hln : cs.length < 2 ^ 29) :
    Con l Z true false ELs n0 (⟨"java/lang/StringUTF16", "length", "([B)I"⟩ : MethodName) jdk_52_method_6_code 1 (some .int) rm_con_uLen [] #[(.ref b)] h0 [] (fun v h => v = some (.int cs.length.toInt32) ∧ h = h0) := by
  refine Con.intro (plainFor_of_name pn_java_lang_StringUTF16) (hELs hw) ?_
  intro p e s m below meth c hh G
  refine castRun (g' := mkF m 0 #[.val (.ref b)] []) (by first | rfl | (simp [entryFrame, mkF, argsToLocals, Value.category, maxLocals]; done)) ?_
  refine GoKit.aloadN G d29_0 rfl rfl (pc' := 1) rfl ?_
  refine GoKit.arrlenI G d29_1 A (z := (2 * cs.length).toInt32) (by rw [u16_len]) (pc' := 2) rfl ?_
  refine GoKit.iconst G (1 : Int32) d29_2 rfl (pc' := 3) rfl ?_
  refine GoKit.ishr G d29_3 (pc' := 4) rfl (fun v1 hqv1 => ?_)
  refine GoKit.retInt G d29_4 rfl (by decide) (by decide) ?_
  exact ⟨by subst_vars; rw [shr1 (by omega)], rfl⟩
theorem d31_0 : decode jdk_41_method_12_code 0 = .ok (.iload_n 0, 1) := by decide +kernel
theorem d31_1 : decode jdk_41_method_12_code 1 = .ok (.ifCond .lt 13, 3) := by decide +kernel
theorem d31_4 : decode jdk_41_method_12_code 4 = .ok (.iload_n 0, 1) := by decide +kernel
theorem d31_5 : decode jdk_41_method_12_code 5 = .ok (.iload_n 1, 1) := by decide +kernel
theorem d31_6 : decode jdk_41_method_12_code 6 = .ok (.if_icmp .gt 8, 3) := by decide +kernel
theorem d31_9 : decode jdk_41_method_12_code 9 = .ok (.iload_n 1, 1) := by decide +kernel
theorem d31_10 : decode jdk_41_method_12_code 10 = .ok (.iload_n 2, 1) := by decide +kernel
theorem d31_11 : decode jdk_41_method_12_code 11 = .ok (.if_icmp .le 11, 3) := by decide +kernel
theorem d31_22 : decode jdk_41_method_12_code 22 = .ok (.iload_n 0, 1) := by decide +kernel
theorem d31_23 : decode jdk_41_method_12_code 23 = .ok (.ireturn, 1) := by decide +kernel
theorem pn_jdk_internal_util_Preconditions : plainName "jdk/internal/util/Preconditions" = true := by first | (simp [plainName, overriddenIn]; done) | decide +kernel
abbrev rm_con_fromTo : Room := { frames := 0, cells := 0, slots := 0, locals := 0 }
set_option maxRecDepth 65536 in
set_option maxHeartbeats 40000000 in
theorem con_fromTo (l : Launch) {Z : State} {a0 : Array Value} (hw : ∀ d ∈ tables_1, d.before a0 Z = true) {n0 : Nat} {h0 : Heap} {n : Nat} {fv : Value} (hfv : fv.isRef = true) (hn : n < 2 ^ 31) :
    Con l Z true false ELs n0 (⟨"jdk/internal/util/Preconditions", "checkFromToIndex", "(IIILjava/util/function/BiFunction;)I"⟩ : MethodName) jdk_41_method_12_code 4 (some .int) rm_con_fromTo [] #[(.int (0 : Int32)), (.int n.toInt32), (.int n.toInt32), fv] h0 [] (fun v h => v = some (.int 0) ∧ h = h0) := by
  refine Con.intro (plainFor_of_name pn_jdk_internal_util_Preconditions) (hELs hw) ?_
  intro p e s m below meth c hh G
  refine castRun (g' := mkF m 0 #[.val (.int (0 : Int32)), .val (.int n.toInt32), .val (.int n.toInt32), .val fv] []) (by rcases ref_cases hfv with rfl | ⟨r, rfl⟩ <;> rfl) ?_
  refine GoKit.iloadN G d31_0 rfl (pc' := 1) rfl ?_
  refine GoKit.if_lt_f G d31_1 (by decide) (pc' := 4) rfl ?_
  refine GoKit.iloadN G d31_4 rfl (pc' := 5) rfl ?_
  refine GoKit.iloadN G d31_5 rfl (pc' := 6) rfl ?_
  refine GoKit.icmp_gt_f G d31_6 (fun q => toI_nn (by omega) q) (pc' := 9) rfl ?_
  refine GoKit.iloadN G d31_9 rfl (pc' := 10) rfl ?_
  refine GoKit.iloadN G d31_10 rfl (pc' := 11) rfl ?_
  refine GoKit.icmp_le_t G d31_11 Int32.lt_irrefl (by decide) (pc' := 22) rfl ?_
  refine GoKit.iloadN G d31_22 rfl (pc' := 23) rfl ?_
  refine GoKit.retInt G d31_23 rfl (by decide) (by decide) ?_
  exact ⟨rfl, rfl⟩
theorem d30_0 : decode jdk_42_method_158_code 0 = .ok (.iload_n 0, 1) := by decide +kernel
theorem d30_1 : decode jdk_42_method_158_code 1 = .ok (.iload_n 1, 1) := by decide +kernel
theorem d30_2 : decode jdk_42_method_158_code 2 = .ok (.iload_n 2, 1) := by decide +kernel
theorem d30_3 : decode jdk_42_method_158_code 3 = .ok (.getstatic 1053, 3) := by decide +kernel
theorem d30_6 : decode jdk_42_method_158_code 6 = .ok (.invokestatic 1062, 3) := by decide +kernel
theorem pd_15 : parseMethodDescriptor "(IIILjava/util/function/BiFunction;)I" = some ⟨[.int, .int, .int, (.object "java/util/function/BiFunction")], some .int⟩ := by decide +kernel
theorem d30_9 : decode jdk_42_method_158_code 9 = .ok (.pop, 1) := by decide +kernel
theorem d30_10 : decode jdk_42_method_158_code 10 = .ok (.return_, 1) := by decide +kernel
abbrev rm_con_bounds : Room := { frames := 1, cells := 0, slots := 0, locals := 15 }
set_option maxRecDepth 65536 in
set_option maxHeartbeats 40000000 in
theorem con_bounds (l : Launch) {Z : State} {a0 : Array Value} (hw : ∀ d ∈ tables_1, d.before a0 Z = true) {n0 : Nat} {h0 : Heap} {n : Nat} (HF : Frm Z) (hn : n < 2 ^ 31) :
    Con l Z true false ELs n0 (⟨"java/lang/String", "checkBoundsBeginEnd", "(III)V"⟩ : MethodName) jdk_42_method_158_code 3 none rm_con_bounds [] #[(.int (0 : Int32)), (.int n.toInt32), (.int n.toInt32)] h0 [] (fun v h => v = none ∧ h = h0) := by
  refine Con.intro (plainFor_of_name pn_java_lang_String) (hELs hw) ?_
  intro p e s m below meth c hh G
  refine castRun (g' := mkF m 0 #[.val (.int (0 : Int32)), .val (.int n.toInt32), .val (.int n.toInt32)] []) (by first | rfl | (simp [entryFrame, mkF, argsToLocals, Value.category, maxLocals]; done)) ?_
  obtain ⟨fv, SF, hfv⟩ := id HF
  refine GoKit.iloadN G d30_0 rfl (pc' := 1) rfl ?_
  refine GoKit.iloadN G d30_1 rfl (pc' := 2) rfl ?_
  refine GoKit.iloadN G d30_2 rfl (pc' := 3) rfl ?_
  refine GoKit.gets G d30_3 (wi hw 131 rfl) Via.refl SF (pc' := 6) rfl ?_
  refine GoKit.callStaticP G d30_6 (wi hw 133 rfl) (wi hw 134 rfl) (wi hw 132 rfl) (wi hw 135 rfl) (by decide) (W := 0) (argsL := [(.int (0 : Int32)), (.int n.toInt32), (.int n.toInt32), fv]) (rest := []) (con_fromTo l hw hfv hn) rfl (lenOf pd_15 rfl) rfl (by decide) (Nat.le_of_eq rfl) (by decide) (by decide) (by decide) (cells' := 0) (slots' := 0) rfl rfl (pc' := 9) rfl ?_
  show Run _ _ _ _ _ _ _ _ _ _ _ _ _ _ _ _ _ _ _ _ _ (mkF m 9 #[.val (.int (0 : Int32)), .val (.int n.toInt32), .val (.int n.toInt32)] [(.int (0 : Int32))])
  refine GoKit.pop G d30_9 rfl (pc' := 10) rfl ?_
  refine GoKit.retVoid G d30_10 rfl (by decide) (by decide) ?_
  exact ⟨rfl, rfl⟩
theorem d28_0 : decode jdk_52_method_93_code 0 = .ok (.iload_n 0, 1) := by decide +kernel
theorem d28_1 : decode jdk_52_method_93_code 1 = .ok (.iload_n 1, 1) := by decide +kernel
theorem d28_2 : decode jdk_52_method_93_code 2 = .ok (.aload_n 2, 1) := by decide +kernel
theorem d28_3 : decode jdk_52_method_93_code 3 = .ok (.invokestatic 48, 3) := by decide +kernel
theorem pd_16 : parseMethodDescriptor "([B)I" = some ⟨[(.array .byte)], some .int⟩ := by decide +kernel
theorem d28_6 : decode jdk_52_method_93_code 6 = .ok (.invokestatic 241, 3) := by decide +kernel
theorem pd_17 : parseMethodDescriptor "(III)V" = some ⟨[.int, .int, .int], none⟩ := by decide +kernel
theorem d28_9 : decode jdk_52_method_93_code 9 = .ok (.return_, 1) := by decide +kernel
abbrev rm_con_uBounds : Room := { frames := 2, cells := 0, slots := 0, locals := 29 }
set_option maxRecDepth 65536 in
set_option maxHeartbeats 40000000 in
theorem con_uBounds (l : Launch) {Z : State} {a0 : Array Value} (hw : ∀ d ∈ tables_1, d.before a0 Z = true) {n0 : Nat} {h0 : Heap} {b : Addr} {cs : List Int32} (A : IA Z h0 b .byte (u16 cs)) (hch : ∀ c ∈ cs, 0 ≤ c.toInt ∧ c.toInt < 65536) (hln : cs.length < 2 ^ 29) (HF : Frm Z) :
    Con l Z true false ELs n0 (⟨"java/lang/StringUTF16", "checkBoundsBeginEnd", "(II[B)V"⟩ : MethodName) jdk_52_method_93_code 3 none rm_con_uBounds [] #[(.int (0 : Int32)), (.int cs.length.toInt32), (.ref b)] h0 [] (fun v h => v = none ∧ h = h0) := by
  refine Con.intro (plainFor_of_name pn_java_lang_StringUTF16) (hELs hw) ?_
  intro p e s m below meth c hh G
  refine castRun (g' := mkF m 0 #[.val (.int (0 : Int32)), .val (.int cs.length.toInt32), .val (.ref b)] []) (by first | rfl | (simp [entryFrame, mkF, argsToLocals, Value.category, maxLocals]; done)) ?_
  refine GoKit.iloadN G d28_0 rfl (pc' := 1) rfl ?_
  refine GoKit.iloadN G d28_1 rfl (pc' := 2) rfl ?_
  refine GoKit.aloadN G d28_2 rfl rfl (pc' := 3) rfl ?_
  refine GoKit.callStaticP G d28_3 (wi hw 125 rfl) (wi hw 126 rfl) (wi hw 83 rfl) (wi hw 127 rfl) (by decide) (W := 2) (argsL := [(.ref b)]) (rest := [(.int cs.length.toInt32), (.int (0 : Int32))]) (con_uLen l hw A hln) rfl (lenOf pd_16 rfl) rfl (by decide) (Nat.le_of_eq rfl) (by decide) (by decide) (by decide) (cells' := 0) (slots' := 0) rfl rfl (pc' := 6) rfl ?_
  show Run _ _ _ _ _ _ _ _ _ _ _ _ _ _ _ _ _ _ _ _ _ (mkF m 6 #[.val (.int (0 : Int32)), .val (.int cs.length.toInt32), .val (.ref b)] [(.int cs.length.toInt32), (.int cs.length.toInt32), (.int (0 : Int32))])
  refine GoKit.callStaticP G d28_6 (wi hw 128 rfl) (wi hw 129 rfl) (wi hw 11 rfl) (wi hw 130 rfl) (by decide) (W := 0) (argsL := [(.int (0 : Int32)), (.int cs.length.toInt32), (.int cs.length.toInt32)]) (rest := []) (con_bounds l hw HF (by omega)) rfl (lenOf pd_17 rfl) rfl (by decide) (Nat.le_of_eq rfl) (by decide) (by decide) (by decide) (cells' := 0) (slots' := 0) rfl rfl (pc' := 9) rfl ?_
  show Run _ _ _ _ _ _ _ _ _ _ _ _ _ _ _ _ _ _ _ _ _ (mkF m 9 #[.val (.int (0 : Int32)), .val (.int cs.length.toInt32), .val (.ref b)] [])
  refine GoKit.retVoid G d28_9 rfl (by decide) (by decide) ?_
  exact ⟨rfl, rfl⟩
theorem d32_3 : decode jdk_52_method_48_code 3 = .ok (.iload 4, 2) := by decide +kernel
theorem d32_5 : decode jdk_52_method_48_code 5 = .ok (.iload_n 3, 1) := by decide +kernel
theorem d32_6 : decode jdk_52_method_48_code 6 = .ok (.if_icmp .ge 22, 3) := by decide +kernel
theorem d32_28 : decode jdk_52_method_48_code 28 = .ok (.iconst (-1), 1) := by decide +kernel
theorem d32_29 : decode jdk_52_method_48_code 29 = .ok (.ireturn, 1) := by decide +kernel
theorem d32_9 : decode jdk_52_method_48_code 9 = .ok (.aload_n 0, 1) := by decide +kernel
theorem d32_10 : decode jdk_52_method_48_code 10 = .ok (.iload 4, 2) := by decide +kernel
theorem d32_12 : decode jdk_52_method_48_code 12 = .ok (.invokestatic 71, 3) := by decide +kernel
theorem d32_15 : decode jdk_52_method_48_code 15 = .ok (.iload_n 1, 1) := by decide +kernel
theorem d32_16 : decode jdk_52_method_48_code 16 = .ok (.if_icmp .ne 6, 3) := by decide +kernel
theorem d32_22 : decode jdk_52_method_48_code 22 = .ok (.iinc 4 1, 3) := by decide +kernel
theorem d32_25 : decode jdk_52_method_48_code 25 = .ok (.goto (-22), 3) := by decide +kernel
theorem d32_19 : decode jdk_52_method_48_code 19 = .ok (.iload 4, 2) := by decide +kernel
theorem d32_21 : decode jdk_52_method_48_code 21 = .ok (.ireturn, 1) := by decide +kernel
theorem d32_0 : decode jdk_52_method_48_code 0 = .ok (.iload_n 2, 1) := by decide +kernel
theorem d32_1 : decode jdk_52_method_48_code 1 = .ok (.istore 4, 2) := by decide +kernel
abbrev rm_con_idxU : Room := { frames := 1, cells := 0, slots := 0, locals := 13 }
set_option maxRecDepth 65536 in
set_option maxHeartbeats 40000000 in
theorem con_idxU (l : Launch) {Z : State} {a0 : Array Value} (hw : ∀ d ∈ tables_1, d.before a0 Z = true) {n0 : Nat} {h0 : Heap} {b : Addr} {cs : List Int32} {x : Int32} (A : IA Z h0 b .byte (u16 cs)) (hrng : ∀ c ∈ cs, 0 ≤ c.toInt ∧ c.toInt < 65536) (hln : cs.length < 2 ^ 29) (HU : Ust Z) :
    Con l Z true false ELs n0 (⟨"java/lang/StringUTF16", "indexOfCharUnsafe", "([BIII)I"⟩ : MethodName) jdk_52_method_48_code 5 (some .int) rm_con_idxU [] #[(.ref b), (.int x), (.int (0 : Int32)), (.int cs.length.toInt32)] h0 [] (fun v h => v = some (.int (idxFrom cs x 0)) ∧ h = h0) := by
  refine Con.intro (plainFor_of_name pn_java_lang_StringUTF16) (hELs hw) ?_
  intro p e s m below meth c hh G
  refine castRun (g' := mkF m 0 #[.val (.ref b), .val (.int x), .val (.int (0 : Int32)), .val (.int cs.length.toInt32), .unset] []) (by first | rfl | (simp [entryFrame, mkF, argsToLocals, Value.category, maxLocals]; done)) ?_
  have loop : ∀ (k i : Nat), i + k = cs.length → idxFrom (cs.drop i) x i = idxFrom cs x 0 →
      Run p l e rm_con_idxU s m #[.ref b, .int x, .int (0 : Int32), .int cs.length.toInt32] below meth c Z true false ELs n0 [] (fun v h => v = some (.int (idxFrom cs x 0)) ∧ h = h0) h0 [] 0 0 (mkF m 3 #[.val (.ref b), .val (.int x), .val (.int (0 : Int32)), .val (.int cs.length.toInt32), .val (.int i.toInt32)] []) := by
    intro k; induction k with
    | zero =>
      intro i hik hF
      have hi : i = cs.length := by omega
      subst hi
      refine GoKit.iload G d32_3 rfl (pc' := 5) rfl ?_
      refine GoKit.iloadN G d32_5 rfl (pc' := 6) rfl ?_
      refine GoKit.icmp_ge_t G d32_6 Int32.lt_irrefl (by decide) (pc' := 28) rfl ?_
      refine GoKit.iconst G (-1 : Int32) d32_28 rfl (pc' := 29) rfl ?_
      refine GoKit.retInt G d32_29 rfl (by decide) (by decide) ?_
      exact ⟨by rw [← hF]; simp [idxFrom], rfl⟩
    | succ k ih =>
      intro i hik hF
      have hi : i < cs.length := by omega
      obtain ⟨ch, hch⟩ : ∃ ch, cs[i]? = some ch := ⟨cs[i], List.getElem?_eq_getElem hi⟩
      refine GoKit.iload G d32_3 rfl (pc' := 5) rfl ?_
      refine GoKit.iloadN G d32_5 rfl (pc' := 6) rfl ?_
      refine GoKit.icmp_ge_f G d32_6 ((toI_lt (by omega) (by omega)).mpr hi) (pc' := 9) rfl ?_
      refine GoKit.aloadN G d32_9 rfl rfl (pc' := 10) rfl ?_
      refine GoKit.iload G d32_10 rfl (pc' := 12) rfl ?_
      refine GoKit.callStaticP G d32_12 (wi hw 110 rfl) (wi hw 111 rfl) (wi hw 83 rfl) (wi hw 112 rfl) (by decide) (W := 0) (argsL := [(.ref b), (.int i.toInt32)]) (rest := []) (con_getChar l hw A hch hrng HU) rfl (lenOf pd_7 rfl) rfl (by decide) (Nat.le_of_eq rfl) (by decide) (by decide) (by decide) (cells' := 0) (slots' := 0) rfl rfl (pc' := 15) rfl ?_
      show Run _ _ _ _ _ _ _ _ _ _ _ _ _ _ _ _ _ _ _ _ _ (mkF m 15 #[.val (.ref b), .val (.int x), .val (.int (0 : Int32)), .val (.int cs.length.toInt32), .val (.int i.toInt32)] [(.int ch)])
      refine GoKit.iloadN G d32_15 rfl (pc' := 16) rfl ?_
      refine GoKit.icmp_ne G d32_16 (by decide) (pt := 22) (pf := 19) rfl rfl (fun hb1 => ?_) (fun hb1 => ?_)
      · refine GoKit.iinc G (1 : Int32) d32_22 rfl rfl (Ls' := #[.val (.ref b), .val (.int x), .val (.int (0 : Int32)), .val (.int cs.length.toInt32), .val (.int (i.toInt32 + (1 : Int32)))]) rfl (pc' := 25) rfl ?_
        generalize hqv2 : (i.toInt32 + (1 : Int32)) = v2
        refine GoKit.goto G d32_25 (by decide) (pc' := 3) rfl ?_
        rw [toI_succ] at hqv2; subst hqv2
        exact ih (i + 1) (by omega) (by rw [← hF, idx_miss hch (fun q => (by simpa using hb1 : ¬ _) (by rw [q]))])
      · refine GoKit.iload G d32_19 rfl (pc' := 21) rfl ?_
        refine GoKit.retInt G d32_21 rfl (by decide) (by decide) ?_
        exact ⟨by rw [← hF, idx_hit hch ((by simpa using hb1))], rfl⟩
  refine GoKit.iloadN G d32_0 rfl (pc' := 1) rfl ?_
  refine GoKit.istore G d32_1 (Ls' := #[.val (.ref b), .val (.int x), .val (.int (0 : Int32)), .val (.int cs.length.toInt32), .val (.int (0 : Int32))]) rfl (pc' := 3) rfl ?_
  exact loop cs.length 0 (by omega) rfl
theorem d27_0 : decode jdk_52_method_47_code 0 = .ok (.iload_n 2, 1) := by decide +kernel
theorem d27_1 : decode jdk_52_method_47_code 1 = .ok (.iload_n 3, 1) := by decide +kernel
theorem d27_2 : decode jdk_52_method_47_code 2 = .ok (.aload_n 0, 1) := by decide +kernel
theorem d27_3 : decode jdk_52_method_47_code 3 = .ok (.invokestatic 96, 3) := by decide +kernel
theorem pd_18 : parseMethodDescriptor "(II[B)V" = some ⟨[.int, .int, (.array .byte)], none⟩ := by decide +kernel
theorem d27_6 : decode jdk_52_method_47_code 6 = .ok (.aload_n 0, 1) := by decide +kernel
theorem d27_7 : decode jdk_52_method_47_code 7 = .ok (.iload_n 1, 1) := by decide +kernel
theorem d27_8 : decode jdk_52_method_47_code 8 = .ok (.iload_n 2, 1) := by decide +kernel
theorem d27_9 : decode jdk_52_method_47_code 9 = .ok (.iload_n 3, 1) := by decide +kernel
theorem d27_10 : decode jdk_52_method_47_code 10 = .ok (.invokestatic 244, 3) := by decide +kernel
theorem d27_13 : decode jdk_52_method_47_code 13 = .ok (.ireturn, 1) := by decide +kernel
abbrev rm_con_idxUC : Room := { frames := 3, cells := 0, slots := 0, locals := 43 }
set_option maxRecDepth 65536 in
set_option maxHeartbeats 40000000 in
theorem con_idxUC (l : Launch) {Z : State} {a0 : Array Value} (hw : ∀ d ∈ tables_1, d.before a0 Z = true) {n0 : Nat} {h0 : Heap} {b : Addr} {cs : List Int32} {x : Int32} (A : IA Z h0 b .byte (u16 cs)) (hch : ∀ c ∈ cs, 0 ≤ c.toInt ∧ c.toInt < 65536) (hln : cs.length < 2 ^ 29) (HF : Frm Z) (HU : Ust Z) :
    Con l Z true false ELs n0 (⟨"java/lang/StringUTF16", "indexOfChar", "([BIII)I"⟩ : MethodName) jdk_52_method_47_code 4 (some .int) rm_con_idxUC [] #[(.ref b), (.int x), (.int (0 : Int32)), (.int cs.length.toInt32)] h0 [] (fun v h => v = some (.int (idxFrom cs x 0)) ∧ h = h0) := by
  refine Con.intro (plainFor_of_name pn_java_lang_StringUTF16) (hELs hw) ?_
  intro p e s m below meth c hh G
  refine castRun (g' := mkF m 0 #[.val (.ref b), .val (.int x), .val (.int (0 : Int32)), .val (.int cs.length.toInt32)] []) (by first | rfl | (simp [entryFrame, mkF, argsToLocals, Value.category, maxLocals]; done)) ?_
  refine GoKit.iloadN G d27_0 rfl (pc' := 1) rfl ?_
  refine GoKit.iloadN G d27_1 rfl (pc' := 2) rfl ?_
  refine GoKit.aloadN G d27_2 rfl rfl (pc' := 3) rfl ?_
  refine GoKit.callStaticP G d27_3 (wi hw 122 rfl) (wi hw 123 rfl) (wi hw 83 rfl) (wi hw 124 rfl) (by decide) (W := 0) (argsL := [(.int (0 : Int32)), (.int cs.length.toInt32), (.ref b)]) (rest := []) (con_uBounds l hw A hch hln HF) rfl (lenOf pd_18 rfl) rfl (by decide) (Nat.le_of_eq rfl) (by decide) (by decide) (by decide) (cells' := 0) (slots' := 0) rfl rfl (pc' := 6) rfl ?_
  show Run _ _ _ _ _ _ _ _ _ _ _ _ _ _ _ _ _ _ _ _ _ (mkF m 6 #[.val (.ref b), .val (.int x), .val (.int (0 : Int32)), .val (.int cs.length.toInt32)] [])
  refine GoKit.aloadN G d27_6 rfl rfl (pc' := 7) rfl ?_
  refine GoKit.iloadN G d27_7 rfl (pc' := 8) rfl ?_
  refine GoKit.iloadN G d27_8 rfl (pc' := 9) rfl ?_
  refine GoKit.iloadN G d27_9 rfl (pc' := 10) rfl ?_
  refine GoKit.callStaticP G d27_10 (wi hw 136 rfl) (wi hw 137 rfl) (wi hw 83 rfl) (wi hw 138 rfl) (by decide) (W := 0) (argsL := [(.ref b), (.int x), (.int (0 : Int32)), (.int cs.length.toInt32)]) (rest := []) (con_idxU l hw A hch hln HU) rfl (lenOf pd_11 rfl) rfl (by decide) (Nat.le_of_eq rfl) (by decide) (by decide) (by decide) (cells' := 0) (slots' := 0) rfl rfl (pc' := 13) rfl ?_
  show Run _ _ _ _ _ _ _ _ _ _ _ _ _ _ _ _ _ _ _ _ _ (mkF m 13 #[.val (.ref b), .val (.int x), .val (.int (0 : Int32)), .val (.int cs.length.toInt32)] [(.int (idxFrom cs x 0))])
  refine GoKit.retInt G d27_13 rfl (by decide) (by decide) ?_
  exact ⟨rfl, rfl⟩
theorem d26_0 : decode jdk_52_method_40_code 0 = .ok (.iload_n 2, 1) := by decide +kernel
theorem d26_1 : decode jdk_52_method_40_code 1 = .ok (.iconst 0, 1) := by decide +kernel
theorem d26_2 : decode jdk_52_method_40_code 2 = .ok (.invokestatic 224, 3) := by decide +kernel
theorem d26_5 : decode jdk_52_method_40_code 5 = .ok (.istore_n 2, 1) := by decide +kernel
theorem d26_6 : decode jdk_52_method_40_code 6 = .ok (.iload_n 3, 1) := by decide +kernel
theorem d26_7 : decode jdk_52_method_40_code 7 = .ok (.aload_n 0, 1) := by decide +kernel
theorem d26_8 : decode jdk_52_method_40_code 8 = .ok (.arraylength, 1) := by decide +kernel
theorem d26_9 : decode jdk_52_method_40_code 9 = .ok (.iconst 1, 1) := by decide +kernel
theorem d26_10 : decode jdk_52_method_40_code 10 = .ok (.ishr, 1) := by decide +kernel
theorem d26_11 : decode jdk_52_method_40_code 11 = .ok (.invokestatic 183, 3) := by decide +kernel
theorem d26_14 : decode jdk_52_method_40_code 14 = .ok (.istore_n 3, 1) := by decide +kernel
theorem d26_15 : decode jdk_52_method_40_code 15 = .ok (.iload_n 2, 1) := by decide +kernel
theorem d26_16 : decode jdk_52_method_40_code 16 = .ok (.iload_n 3, 1) := by decide +kernel
theorem d26_17 : decode jdk_52_method_40_code 17 = .ok (.if_icmp .lt 5, 3) := by decide +kernel
theorem d26_22 : decode jdk_52_method_40_code 22 = .ok (.iload_n 1, 1) := by decide +kernel
theorem d26_23 : decode jdk_52_method_40_code 23 = .ok (.ldc 227, 2) := by decide +kernel
theorem d26_25 : decode jdk_52_method_40_code 25 = .ok (.if_icmp .ge 11, 3) := by decide +kernel
theorem d26_28 : decode jdk_52_method_40_code 28 = .ok (.aload_n 0, 1) := by decide +kernel
theorem d26_29 : decode jdk_52_method_40_code 29 = .ok (.iload_n 1, 1) := by decide +kernel
theorem d26_30 : decode jdk_52_method_40_code 30 = .ok (.iload_n 2, 1) := by decide +kernel
theorem d26_31 : decode jdk_52_method_40_code 31 = .ok (.iload_n 3, 1) := by decide +kernel
theorem d26_32 : decode jdk_52_method_40_code 32 = .ok (.invokestatic 228, 3) := by decide +kernel
theorem d26_35 : decode jdk_52_method_40_code 35 = .ok (.ireturn, 1) := by decide +kernel
theorem d26_20 : decode jdk_52_method_40_code 20 = .ok (.iconst (-1), 1) := by decide +kernel
theorem d26_21 : decode jdk_52_method_40_code 21 = .ok (.ireturn, 1) := by decide +kernel
abbrev rm_con_uIdx : Room := { frames := 4, cells := 0, slots := 0, locals := 58 }
set_option maxRecDepth 65536 in
set_option maxHeartbeats 40000000 in
theorem con_uIdx (l : Launch) {Z : State} {a0 : Array Value} (hw : ∀ d ∈ tables_1, d.before a0 Z = true) {n0 : Nat} {h0 : Heap} {b : Addr} {cs : List Int32} {x : Int32} (A : IA Z h0 b .byte (u16 cs)) (hch : ∀ c ∈ cs, 0 ≤ c.toInt ∧ c.toInt < 65536) (hln : cs.length < 2 ^ 29) (hx : x < 65536) (HF : Frm Z) (HU : Ust Z) :
    Con l Z true false ELs n0 (⟨"java/lang/StringUTF16", "indexOf", "([BIII)I"⟩ : MethodName) jdk_52_method_40_code 4 (some .int) rm_con_uIdx [] #[(.ref b), (.int x), (.int (0 : Int32)), (.int cs.length.toInt32)] h0 [] (fun v h => v = some (.int (idxFrom cs x 0)) ∧ h = h0) := by
  refine Con.intro (plainFor_of_name pn_java_lang_StringUTF16) (hELs hw) ?_
  intro p e s m below meth c hh G
  refine castRun (g' := mkF m 0 #[.val (.ref b), .val (.int x), .val (.int (0 : Int32)), .val (.int cs.length.toInt32)] []) (by first | rfl | (simp [entryFrame, mkF, argsToLocals, Value.category, maxLocals]; done)) ?_
  refine GoKit.iloadN G d26_0 rfl (pc' := 1) rfl ?_
  refine GoKit.iconst G (0 : Int32) d26_1 rfl (pc' := 2) rfl ?_
  refine GoKit.callStaticP G d26_2 (wi hw 116 rfl) (wi hw 69 rfl) (wi hw 70 rfl) (wi hw 71 rfl) (by decide) (W := 0) (argsL := [(.int (0 : Int32)), (.int (0 : Int32))]) (rest := []) (con_max l hw (0 : Int32) (0 : Int32)) rfl (lenOf pd_10 rfl) rfl (by decide) (Nat.le_of_eq rfl) (by decide) (by decide) (by decide) (cells' := 0) (slots' := 0) rfl rfl (pc' := 5) rfl ?_
  show Run _ _ _ _ _ _ _ _ _ _ _ _ _ _ _ _ _ _ _ _ _ (mkF m 5 #[.val (.ref b), .val (.int x), .val (.int (0 : Int32)), .val (.int cs.length.toInt32)] [(.int (max32 (0 : Int32) (0 : Int32)))])
  rw [show max32 0 0 = 0 from rfl]
  refine GoKit.istoreN G d26_5 (Ls' := #[.val (.ref b), .val (.int x), .val (.int (0 : Int32)), .val (.int cs.length.toInt32)]) rfl (pc' := 6) rfl ?_
  refine GoKit.iloadN G d26_6 rfl (pc' := 7) rfl ?_
  refine GoKit.aloadN G d26_7 rfl rfl (pc' := 8) rfl ?_
  refine GoKit.arrlenI G d26_8 A (z := (2 * cs.length).toInt32) (by rw [u16_len]) (pc' := 9) rfl ?_
  refine GoKit.iconst G (1 : Int32) d26_9 rfl (pc' := 10) rfl ?_
  refine GoKit.ishr G d26_10 (pc' := 11) rfl (fun v1 hqv1 => ?_)
  obtain rfl : v1 = cs.length.toInt32 := by rw [hqv1]; exact shr1 (by omega)
  refine GoKit.callStaticP G d26_11 (wi hw 117 rfl) (wi hw 73 rfl) (wi hw 70 rfl) (wi hw 74 rfl) (by decide) (W := 0) (argsL := [(.int cs.length.toInt32), (.int cs.length.toInt32)]) (rest := []) (con_min l hw cs.length.toInt32 cs.length.toInt32) rfl (lenOf pd_10 rfl) rfl (by decide) (Nat.le_of_eq rfl) (by decide) (by decide) (by decide) (cells' := 0) (slots' := 0) rfl rfl (pc' := 14) rfl ?_
  show Run _ _ _ _ _ _ _ _ _ _ _ _ _ _ _ _ _ _ _ _ _ (mkF m 14 #[.val (.ref b), .val (.int x), .val (.int (0 : Int32)), .val (.int cs.length.toInt32)] [(.int (min32 cs.length.toInt32 cs.length.toInt32))])
  rw [min_self]
  refine GoKit.istoreN G d26_14 (Ls' := #[.val (.ref b), .val (.int x), .val (.int (0 : Int32)), .val (.int cs.length.toInt32)]) rfl (pc' := 15) rfl ?_
  refine GoKit.iloadN G d26_15 rfl (pc' := 16) rfl ?_
  refine GoKit.iloadN G d26_16 rfl (pc' := 17) rfl ?_
  refine GoKit.icmp_lt G d26_17 (by decide) (pt := 22) (pf := 20) rfl rfl (fun hb2 => ?_) (fun hb2 => ?_)
  · refine GoKit.iloadN G d26_22 rfl (pc' := 23) rfl ?_
    refine GoKit.ldcInt G d26_23 (wi hw 118 rfl) (pc' := 25) rfl ?_
    refine GoKit.icmp_ge_f G d26_25 hx (pc' := 28) rfl ?_
    refine GoKit.aloadN G d26_28 rfl rfl (pc' := 29) rfl ?_
    refine GoKit.iloadN G d26_29 rfl (pc' := 30) rfl ?_
    refine GoKit.iloadN G d26_30 rfl (pc' := 31) rfl ?_
    refine GoKit.iloadN G d26_31 rfl (pc' := 32) rfl ?_
    refine GoKit.callStaticP G d26_32 (wi hw 119 rfl) (wi hw 120 rfl) (wi hw 83 rfl) (wi hw 121 rfl) (by decide) (W := 0) (argsL := [(.ref b), (.int x), (.int (0 : Int32)), (.int cs.length.toInt32)]) (rest := []) (con_idxUC l hw A hch hln HF HU) rfl (lenOf pd_11 rfl) rfl (by decide) (Nat.le_of_eq rfl) (by decide) (by decide) (by decide) (cells' := 0) (slots' := 0) rfl rfl (pc' := 35) rfl ?_
    show Run _ _ _ _ _ _ _ _ _ _ _ _ _ _ _ _ _ _ _ _ _ (mkF m 35 #[.val (.ref b), .val (.int x), .val (.int (0 : Int32)), .val (.int cs.length.toInt32)] [(.int (idxFrom cs x 0))])
    refine GoKit.retInt G d26_35 rfl (by decide) (by decide) ?_
    exact ⟨rfl, rfl⟩
  · refine GoKit.iconst G (-1 : Int32) d26_20 rfl (pc' := 21) rfl ?_
    refine GoKit.retInt G d26_21 rfl (by decide) (by decide) ?_
    exact ⟨by rw [List.length_eq_zero_iff.mp (Nat.le_zero.mp (Nat.le_of_not_lt fun q => hb2 ((toI_lt (i := 0) (by decide) (by omega)).mpr q)))]; rfl, rfl⟩
theorem d8_23 : decode jdk_42_method_80_code 23 = .ok (.aload_n 0, 1) := by decide +kernel
theorem d8_24 : decode jdk_42_method_80_code 24 = .ok (.getfield 9, 3) := by decide +kernel
theorem d8_27 : decode jdk_42_method_80_code 27 = .ok (.iload_n 1, 1) := by decide +kernel
theorem d8_28 : decode jdk_42_method_80_code 28 = .ok (.iload_n 2, 1) := by decide +kernel
theorem d8_29 : decode jdk_42_method_80_code 29 = .ok (.aload_n 0, 1) := by decide +kernel
theorem d8_30 : decode jdk_42_method_80_code 30 = .ok (.invokevirtual 505, 3) := by decide +kernel
theorem d8_33 : decode jdk_42_method_80_code 33 = .ok (.invokestatic 640, 3) := by decide +kernel
abbrev rm_con_idx2U : Room := { frames := 5, cells := 0, slots := 0, locals := 73 }
set_option maxRecDepth 65536 in
set_option maxHeartbeats 40000000 in
theorem con_idx2U (l : Launch) {Z : State} {a0 : Array Value} (hw : ∀ d ∈ tables_1, d.before a0 Z = true) {n0 : Nat} {h0 : Heap} {a : Addr} {cs : List Int32} (x : Int32) (S : U16 Z h0 a cs) (hx : x < 65536) (HC : Cst Z) (HF : Frm Z) (HU : Ust Z) :
    Con l Z true false ELs n0 (⟨"java/lang/String", "indexOf", "(II)I"⟩ : MethodName) jdk_42_method_80_code 3 (some .int) rm_con_idx2U [] #[(.ref a), (.int x), (.int (0 : Int32))] h0 [] (fun v h => v = some (.int (idxFrom cs x 0)) ∧ h = h0) := by
  refine Con.intro (plainFor_of_name pn_java_lang_String) (hELs hw) ?_
  intro p e s m below meth c hh G
  refine castRun (g' := mkF m 0 #[.val (.ref a), .val (.int x), .val (.int (0 : Int32))] []) (by first | rfl | (simp [entryFrame, mkF, argsToLocals, Value.category, maxLocals]; done)) ?_
  obtain ⟨E, ⟨b, FV, FC, A⟩, hch, hln⟩ := id S
  refine GoKit.aloadN G d8_0 rfl rfl (pc' := 1) rfl ?_
  refine GoKit.callVirtualP G d8_1 (wi hw 45 rfl) (wi hw 46 rfl) (wi hw 48 rfl) (wi hw 47 rfl) (wi hw 11 rfl) (wi hw 49 rfl) (by decide) E (W := 0) (argsL := []) (rest := []) (con_isLatU l hw S HC) rfl (lenOf pd_12 rfl) rfl (by decide) (Nat.le_of_eq rfl) (by decide) (by decide) (by decide) (cells' := 0) (slots' := 0) rfl rfl (pc' := 4) rfl ?_
  show Run _ _ _ _ _ _ _ _ _ _ _ _ _ _ _ _ _ _ _ _ _ (mkF m 4 #[.val (.ref a), .val (.int x), .val (.int (0 : Int32))] [(.int 0)])
  refine GoKit.if_eq_t G d8_4 (by decide) (by decide) (pc' := 23) rfl ?_
  refine GoKit.aloadN G d8_23 rfl rfl (pc' := 24) rfl ?_
  refine GoKit.getf G d8_24 (wi hw 29 rfl) Via.refl FV (pc' := 27) rfl ?_
  refine GoKit.iloadN G d8_27 rfl (pc' := 28) rfl ?_
  refine GoKit.iloadN G d8_28 rfl (pc' := 29) rfl ?_
  refine GoKit.aloadN G d8_29 rfl rfl (pc' := 30) rfl ?_
  refine GoKit.callVirtualP G d8_30 (wi hw 51 rfl) (wi hw 52 rfl) (wi hw 54 rfl) (wi hw 53 rfl) (wi hw 11 rfl) (wi hw 55 rfl) (by decide) E (W := 3) (argsL := []) (rest := [(.int (0 : Int32)), (.int x), (.ref b)]) (con_lenSU l hw S HC) rfl (lenOf pd_13 rfl) rfl (by decide) (Nat.le_of_eq rfl) (by decide) (by decide) (by decide) (cells' := 0) (slots' := 0) rfl rfl (pc' := 33) rfl ?_
  show Run _ _ _ _ _ _ _ _ _ _ _ _ _ _ _ _ _ _ _ _ _ (mkF m 33 #[.val (.ref a), .val (.int x), .val (.int (0 : Int32))] [(.int cs.length.toInt32), (.int (0 : Int32)), (.int x), (.ref b)])
  refine GoKit.callStaticP G d8_33 (wi hw 113 rfl) (wi hw 114 rfl) (wi hw 83 rfl) (wi hw 115 rfl) (by decide) (W := 0) (argsL := [(.ref b), (.int x), (.int (0 : Int32)), (.int cs.length.toInt32)]) (rest := []) (con_uIdx l hw A hch hln hx HF HU) rfl (lenOf pd_11 rfl) rfl (by decide) (Nat.le_of_eq rfl) (by decide) (by decide) (by decide) (cells' := 0) (slots' := 0) rfl rfl (pc' := 36) rfl ?_
  show Run _ _ _ _ _ _ _ _ _ _ _ _ _ _ _ _ _ _ _ _ _ (mkF m 36 #[.val (.ref a), .val (.int x), .val (.int (0 : Int32))] [(.int (idxFrom cs x 0))])
  refine GoKit.retInt G d8_36 rfl (by decide) (by decide) ?_
  exact ⟨rfl, rfl⟩
abbrev rm_con_idxUU : Room := { frames := 6, cells := 0, slots := 0, locals := 87 }
set_option maxRecDepth 65536 in
set_option maxHeartbeats 40000000 in
theorem con_idxUU (l : Launch) {Z : State} {a0 : Array Value} (hw : ∀ d ∈ tables_1, d.before a0 Z = true) {n0 : Nat} {h0 : Heap} {a : Addr} {cs : List Int32} (x : Int32) (S : U16 Z h0 a cs) (hx : x < 65536) (HC : Cst Z) (HF : Frm Z) (HU : Ust Z) :
    Con l Z true false ELs n0 (⟨"java/lang/String", "indexOf", "(I)I"⟩ : MethodName) jdk_42_method_79_code 2 (some .int) rm_con_idxUU [] #[(.ref a), (.int x)] h0 [] (fun v h => v = some (.int (idxFrom cs x 0)) ∧ h = h0) := by
  refine Con.intro (plainFor_of_name pn_java_lang_String) (hELs hw) ?_
  intro p e s m below meth c hh G
  refine castRun (g' := mkF m 0 #[.val (.ref a), .val (.int x)] []) (by first | rfl | (simp [entryFrame, mkF, argsToLocals, Value.category, maxLocals]; done)) ?_
  refine GoKit.aloadN G d7_0 rfl rfl (pc' := 1) rfl ?_
  refine GoKit.iloadN G d7_1 rfl (pc' := 2) rfl ?_
  refine GoKit.iconst G (0 : Int32) d7_2 rfl (pc' := 3) rfl ?_
  refine GoKit.callVirtualP G d7_3 (wi hw 40 rfl) (wi hw 41 rfl) (wi hw 43 rfl) (wi hw 42 rfl) (wi hw 11 rfl) (wi hw 44 rfl) (by decide) S.1 (W := 0) (argsL := [(.int x), (.int (0 : Int32))]) (rest := []) (con_idx2U l hw x S hx HC HF HU) rfl (lenOf pd_10 rfl) rfl (by decide) (Nat.le_of_eq rfl) (by decide) (by decide) (by decide) (cells' := 0) (slots' := 0) rfl rfl (pc' := 6) rfl ?_
  show Run _ _ _ _ _ _ _ _ _ _ _ _ _ _ _ _ _ _ _ _ _ (mkF m 6 #[.val (.ref a), .val (.int x)] [(.int (idxFrom cs x 0))])
  refine GoKit.retInt G d7_6 rfl (by decide) (by decide) ?_
  exact ⟨rfl, rfl⟩
theorem d6_0 : decode prog_12_method_2_code 0 = .ok (.aload_n 0, 1) := by decide +kernel
theorem d6_1 : decode prog_12_method_2_code 1 = .ok (.bipush 10, 2) := by decide +kernel
theorem d6_3 : decode prog_12_method_2_code 3 = .ok (.invokevirtual 7, 3) := by decide +kernel
theorem d6_6 : decode prog_12_method_2_code 6 = .ok (.ifCond .lt 13, 3) := by decide +kernel
theorem d6_19 : decode prog_12_method_2_code 19 = .ok (.aload_n 0, 1) := by decide +kernel
theorem d6_20 : decode prog_12_method_2_code 20 = .ok (.areturn, 1) := by decide +kernel
theorem pn_com_example_realmwarden_realmwarden_password_BindPasswordFile : plainName "com/example/realmwarden/realmwarden/password/BindPasswordFile" = true := by first | (simp [plainName, overriddenIn]; done) | decide +kernel
abbrev rm_con_chkL : Room := { frames := 7, cells := 0, slots := 0, locals := 100 }
set_option maxRecDepth 65536 in
set_option maxHeartbeats 40000000 in
theorem con_chkL (l : Launch) {Z : State} {a0 : Array Value} (hw : ∀ d ∈ tables_1, d.before a0 Z = true) {n0 : Nat} {h0 : Heap} {a : Addr} {cs : List Int32} (S : Lat Z h0 a cs) (hno : (10 : Int32) ∉ cs) (HC : Cst Z) (HF : Frm Z) (HU : Ust Z) :
    Con l Z true false ELs n0 (⟨"com/example/realmwarden/realmwarden/password/BindPasswordFile", "checked", "(Ljava/lang/String;)Ljava/lang/String;"⟩ : MethodName) prog_12_method_2_code 1 (some (.object "java/lang/String")) rm_con_chkL [] #[(.ref a)] h0 [] (fun v h => v = some (.ref a) ∧ h = h0) := by
  refine Con.intro (plainFor_of_name pn_com_example_realmwarden_realmwarden_password_BindPasswordFile) (hELs hw) ?_
  intro p e s m below meth c hh G
  refine castRun (g' := mkF m 0 #[.val (.ref a)] []) (by first | rfl | (simp [entryFrame, mkF, argsToLocals, Value.category, maxLocals]; done)) ?_
  refine GoKit.aloadN G d6_0 rfl rfl (pc' := 1) rfl ?_
  refine GoKit.bipush G (10 : Int32) d6_1 rfl (pc' := 3) rfl ?_
  refine GoKit.callVirtualP G d6_3 (wi hw 35 rfl) (wi hw 36 rfl) (wi hw 38 rfl) (wi hw 37 rfl) (wi hw 11 rfl) (wi hw 39 rfl) (by decide) S.1 (W := 0) (argsL := [(.int (10 : Int32))]) (rest := []) (con_idxL l hw 10 S HC) rfl (lenOf pd_4 rfl) rfl (by decide) (Nat.le_of_eq rfl) (by decide) (by decide) (by decide) (cells' := 0) (slots' := 0) rfl rfl (pc' := 6) rfl ?_
  show Run _ _ _ _ _ _ _ _ _ _ _ _ _ _ _ _ _ _ _ _ _ (mkF m 6 #[.val (.ref a)] [(.int (idxFrom cs 10 0))])
  refine GoKit.if_lt_t G d6_6 (by rw [idx_none hno]; decide) (by decide) (pc' := 19) rfl ?_
  refine GoKit.aloadN G d6_19 rfl rfl (pc' := 20) rfl ?_
  refine GoKit.retRef G rfl d6_20 rfl rfl rfl (by decide) (by decide) ?_
  exact ⟨rfl, rfl⟩
abbrev rm_con_chkU : Room := { frames := 7, cells := 0, slots := 0, locals := 100 }
set_option maxRecDepth 65536 in
set_option maxHeartbeats 40000000 in
theorem con_chkU (l : Launch) {Z : State} {a0 : Array Value} (hw : ∀ d ∈ tables_1, d.before a0 Z = true) {n0 : Nat} {h0 : Heap} {a : Addr} {cs : List Int32} (S : U16 Z h0 a cs) (hno : (10 : Int32) ∉ cs) (HC : Cst Z) (HF : Frm Z) (HU : Ust Z) :
    Con l Z true false ELs n0 (⟨"com/example/realmwarden/realmwarden/password/BindPasswordFile", "checked", "(Ljava/lang/String;)Ljava/lang/String;"⟩ : MethodName) prog_12_method_2_code 1 (some (.object "java/lang/String")) rm_con_chkU [] #[(.ref a)] h0 [] (fun v h => v = some (.ref a) ∧ h = h0) := by
  refine Con.intro (plainFor_of_name pn_com_example_realmwarden_realmwarden_password_BindPasswordFile) (hELs hw) ?_
  intro p e s m below meth c hh G
  refine castRun (g' := mkF m 0 #[.val (.ref a)] []) (by first | rfl | (simp [entryFrame, mkF, argsToLocals, Value.category, maxLocals]; done)) ?_
  refine GoKit.aloadN G d6_0 rfl rfl (pc' := 1) rfl ?_
  refine GoKit.bipush G (10 : Int32) d6_1 rfl (pc' := 3) rfl ?_
  refine GoKit.callVirtualP G d6_3 (wi hw 35 rfl) (wi hw 36 rfl) (wi hw 38 rfl) (wi hw 37 rfl) (wi hw 11 rfl) (wi hw 39 rfl) (by decide) S.1 (W := 0) (argsL := [(.int (10 : Int32))]) (rest := []) (con_idxUU l hw 10 S (by decide) HC HF HU) rfl (lenOf pd_4 rfl) rfl (by decide) (Nat.le_of_eq rfl) (by decide) (by decide) (by decide) (cells' := 0) (slots' := 0) rfl rfl (pc' := 6) rfl ?_
  show Run _ _ _ _ _ _ _ _ _ _ _ _ _ _ _ _ _ _ _ _ _ (mkF m 6 #[.val (.ref a)] [(.int (idxFrom cs 10 0))])
  refine GoKit.if_lt_t G d6_6 (by rw [idx_none hno]; decide) (by decide) (pc' := 19) rfl ?_
  refine GoKit.aloadN G d6_19 rfl rfl (pc' := 20) rfl ?_
  refine GoKit.retRef G rfl d6_20 rfl rfl rfl (by decide) (by decide) ?_
  exact ⟨rfl, rfl⟩
theorem con_chk (l : Launch) {Z : State} {a0 : Array Value} (hw : ∀ d ∈ tables_1, d.before a0 Z = true) {n0 : Nat} {h0 : Heap} {a : Addr} {cs : List Int32} (S : Str Z h0 a cs) (hno : (10 : Int32) ∉ cs) (HC : Cst Z) (HF : Frm Z) (HU : Ust Z) :
    Con l Z true false ELs n0 (⟨"com/example/realmwarden/realmwarden/password/BindPasswordFile", "checked", "(Ljava/lang/String;)Ljava/lang/String;"⟩ : MethodName) prog_12_method_2_code 1 (some (.object "java/lang/String")) rm_con_chkL [] #[.ref a] h0 [] (fun v h => v = some (.ref a) ∧ h = h0) := by
  rcases S with S | S
  · exact con_chkL l hw S hno HC HF HU
  · exact con_chkU l hw S hno HC HF HU
theorem d1_0 : decode method_2_code 0 = .ok (.iload_n 0, 1) := by decide +kernel
theorem d1_1 : decode method_2_code 1 = .ok (.ldc 7, 2) := by decide +kernel
theorem d1_3 : decode method_2_code 3 = .ok (.iand, 1) := by decide +kernel
theorem d1_4 : decode method_2_code 4 = .ok (.i2c, 1) := by decide +kernel
theorem d1_5 : decode method_2_code 5 = .ok (.istore_n 1, 1) := by decide +kernel
theorem d1_6 : decode method_2_code 6 = .ok (.iload_n 1, 1) := by decide +kernel
theorem d1_7 : decode method_2_code 7 = .ok (.bipush 10, 2) := by decide +kernel
theorem d1_9 : decode method_2_code 9 = .ok (.if_icmp .ne 6, 3) := by decide +kernel
theorem d1_15 : decode method_2_code 15 = .ok (.iload_n 1, 1) := by decide +kernel
theorem d1_16 : decode method_2_code 16 = .ok (.ireturn, 1) := by decide +kernel
theorem d1_12 : decode method_2_code 12 = .ok (.bipush 13, 2) := by decide +kernel
theorem d1_14 : decode method_2_code 14 = .ok (.istore_n 1, 1) := by decide +kernel
abbrev rm_con_ch : Room := { frames := 0, cells := 0, slots := 0, locals := 0 }
set_option maxRecDepth 65536 in
set_option maxHeartbeats 40000000 in
theorem con_ch (l : Launch) {Z : State} {a0 : Array Value} (hw : ∀ d ∈ tables_1, d.before a0 Z = true) {n0 : Nat} {h0 : Heap} (x : Int32) :
    Con l Z true false ELs n0 (⟨"com/example/realmwarden/realmwarden/password/BindPasswordFileCheckedPinLaw", "ch", "(I)C"⟩ : MethodName) method_2_code 2 (some .char) rm_con_ch [] #[(.int x)] h0 [] (fun v h => ∃ ch : Int32, v = some (.int ch) ∧ (0 ≤ ch.toInt ∧ ch.toInt < 65536) ∧ ¬ ch = 10) := by
  refine Con.intro (plainFor_of_name pn_com_example_realmwarden_realmwarden_password_BindPasswordFileCheckedPinLaw) (hELs hw) ?_
  intro p e s m below meth c hh G
  refine castRun (g' := mkF m 0 #[.val (.int x), .unset] []) (by first | rfl | (simp [entryFrame, mkF, argsToLocals, Value.category, maxLocals]; done)) ?_
  refine GoKit.iloadN G d1_0 rfl (pc' := 1) rfl ?_
  refine GoKit.ldcInt G d1_1 (wi hw 5 rfl) (pc' := 3) rfl ?_
  refine GoKit.iand G d1_3 (pc' := 4) rfl (fun v1 hqv1 => ?_)
  refine GoKit.i2c G d1_4 (pc' := 5) rfl (fun v2 hqv2 => ?_)
  have c3 : nar .char v2 = v2 := by rw [hqv2]; exact nar_i2c _
  have l4 := i2c_rng hqv2
  refine GoKit.istoreN G d1_5 (Ls' := #[.val (.int x), .val (.int v2)]) rfl (pc' := 6) rfl ?_
  refine GoKit.iloadN G d1_6 rfl (pc' := 7) rfl ?_
  refine GoKit.bipush G (10 : Int32) d1_7 rfl (pc' := 9) rfl ?_
  refine GoKit.icmp_ne G d1_9 (by decide) (pt := 15) (pf := 12) rfl rfl (fun hb5 => ?_) (fun hb5 => ?_)
  · refine GoKit.iloadN G d1_15 rfl (pc' := 16) rfl ?_
    refine GoKit.retNar G d1_16 (t := .char) rfl (by simp) (by decide) (by decide) ?_
    exact ⟨_, rfl, by rw [nar16 l4]; exact ⟨l4, hb5⟩⟩
  · refine GoKit.bipush G (13 : Int32) d1_12 rfl (pc' := 14) rfl ?_
    refine GoKit.istoreN G d1_14 (Ls' := #[.val (.int x), .val (.int (13 : Int32))]) rfl (pc' := 15) rfl ?_
    refine GoKit.iloadN G d1_15 rfl (pc' := 16) rfl ?_
    refine GoKit.retNar G d1_16 (t := .char) rfl (by simp) (by decide) (by decide) ?_
    exact ⟨_, rfl, by decide⟩
theorem d16_0 : decode jdk_42_method_66_code 0 = .ok (.aload_n 0, 1) := by decide +kernel
theorem d16_1 : decode jdk_42_method_66_code 1 = .ok (.aload_n 1, 1) := by decide +kernel
theorem d16_2 : decode jdk_42_method_66_code 2 = .ok (.if_acmp .ne 5, 3) := by decide +kernel
theorem d16_5 : decode jdk_42_method_66_code 5 = .ok (.iconst 1, 1) := by decide +kernel
theorem d16_6 : decode jdk_42_method_66_code 6 = .ok (.ireturn, 1) := by decide +kernel
abbrev rm_con_eqSelf : Room := { frames := 0, cells := 0, slots := 0, locals := 0 }
set_option maxRecDepth 65536 in
set_option maxHeartbeats 40000000 in
theorem con_eqSelf (l : Launch) {Z : State} {a0 : Array Value} (hw : ∀ d ∈ tables_1, d.before a0 Z = true) {n0 : Nat} {h0 : Heap} {a : Addr} :
    Con l Z true false ELs n0 (⟨"java/lang/String", "equals", "(Ljava/lang/Object;)Z"⟩ : MethodName) jdk_42_method_66_code 3 (some .boolean) rm_con_eqSelf [] #[(.ref a), (.ref a)] h0 [] (fun v h => v = some (.int 1) ∧ h = h0) := by
  refine Con.intro (plainFor_of_name pn_java_lang_String) (hELs hw) ?_
  intro p e s m below meth c hh G
  refine castRun (g' := mkF m 0 #[.val (.ref a), .val (.ref a), .unset] []) (by first | rfl | (simp [entryFrame, mkF, argsToLocals, Value.category, maxLocals]; done)) ?_
  refine GoKit.aloadN G d16_0 rfl rfl (pc' := 1) rfl ?_
  refine GoKit.aloadN G d16_1 rfl rfl (pc' := 2) rfl ?_
  refine GoKit.acmp_ne_f G d16_2 rfl rfl rfl (pc' := 5) rfl ?_
  refine GoKit.iconst G (1 : Int32) d16_5 rfl (pc' := 6) rfl ?_
  refine GoKit.retNar G d16_6 (t := .boolean) rfl (by simp) (by decide) (by decide) ?_
  exact ⟨rfl, rfl⟩
theorem pd_19 : parseMethodDescriptor "(I)C" = some ⟨[.int], some .char⟩ := by decide +kernel
theorem pd_20 : parseMethodDescriptor "(ICCCC)Ljava/lang/String;" = some ⟨[.int, .char, .char, .char, .char], some (.object "java/lang/String")⟩ := by decide +kernel
theorem pd_21 : parseMethodDescriptor "(Ljava/lang/String;)Ljava/lang/String;" = some ⟨[(.object "java/lang/String")], some (.object "java/lang/String")⟩ := by decide +kernel
theorem pd_22 : parseMethodDescriptor "(Ljava/lang/Object;)Z" = some ⟨[(.object "java/lang/Object")], some .boolean⟩ := by decide +kernel
set_option maxRecDepth 65536 in
set_option maxHeartbeats 40000000 in
theorem con_law (l : Launch) {Z : State} {a0 : Array Value} (hw : ∀ d ∈ tables_1, d.before a0 Z = true) {n0 : Nat} {h0 : Heap} (p0 : Int32) (p1 : Int32) (p2 : Int32) (p3 : Int32) (p4 : Int32) (HC : Cst Z) (HF : Frm Z) (HU : Ust Z) :
    Con l Z true false ELs n0 x code maxLocals ret room_1 tables_1 #[(.int p0), (.int p1), (.int p2), (.int p3), (.int p4)] h0 [] (fun v h => v = some (.int 1)) := by
  refine Con.intro (plainFor_of_name pn_com_example_realmwarden_realmwarden_password_BindPasswordFileCheckedPinLaw) (hELs hw) ?_
  intro p e s m below meth c hh G
  refine castRun (g' := mkF m 0 #[.val (.int p0), .val (.int p1), .val (.int p2), .val (.int p3), .val (.int p4), .unset, .unset, .unset] []) (by first | rfl | (simp [entryFrame, mkF, argsToLocals, Value.category, maxLocals]; done)) ?_
  refine GoKit.iloadN G at_0 rfl (pc' := 1) rfl ?_
  refine GoKit.ldcInt G at_1 (wi hw 0 rfl) (pc' := 3) rfl ?_
  refine GoKit.iand G at_3 (pc' := 4) rfl (fun v1 hqv1 => ?_)
  refine GoKit.iconst G (5 : Int32) at_4 rfl (pc' := 5) rfl ?_
  refine GoKit.irem G at_5 (by decide) (pc' := 6) rfl (fun v2 hqv2 => ?_)
  rcases cases5 (v := v2) (and31_rem hqv1 hqv2 (by decide)) with rfl | rfl | rfl | rfl | rfl
  · refine GoKit.istore G at_6 (Ls' := #[.val (.int p0), .val (.int p1), .val (.int p2), .val (.int p3), .val (.int p4), .val (.int (0 : Int32)), .unset, .unset]) rfl (pc' := 8) rfl ?_
    refine GoKit.iload G at_8 rfl (pc' := 10) rfl ?_
    refine GoKit.iloadN G at_10 rfl (pc' := 11) rfl ?_
    refine GoKit.callStatic G at_11 (wi hw 1 rfl) (wi hw 2 rfl) (wi hw 3 rfl) (wi hw 4 rfl) (by decide) (owc := []) (W := 1) (argsL := [(.int p1)]) (rest := [(.int (0 : Int32))]) (con_ch l hw p1) rfl (lenOf pd_19 rfl) rfl (by decide) (Nat.le_of_eq rfl) (by decide) (by decide) (by decide) (fun _ q => nomatch q) (cells' := 0) (slots' := 0) rfl rfl (pc' := 14) rfl (fun r3 h6 q4 K5 => ?_)
    obtain ⟨ch7, rfl, H8, N9⟩ := q4
    show Run _ _ _ _ _ _ _ _ _ _ _ _ _ _ _ _ _ _ _ _ _ (mkF m 14 #[.val (.int p0), .val (.int p1), .val (.int p2), .val (.int p3), .val (.int p4), .val (.int (0 : Int32)), .unset, .unset] [(.int ch7), (.int (0 : Int32))])
    refine GoKit.iloadN G at_14 rfl (pc' := 15) rfl ?_
    refine GoKit.callStatic G at_15 (wi hw 1 rfl) (wi hw 2 rfl) (wi hw 3 rfl) (wi hw 4 rfl) (by decide) (owc := []) (W := 2) (argsL := [(.int p2)]) (rest := [(.int ch7), (.int (0 : Int32))]) (con_ch l hw p2) rfl (lenOf pd_19 rfl) rfl (by decide) (Nat.le_of_eq rfl) (by decide) (by decide) (by decide) (fun _ q => nomatch q) (cells' := 0) (slots' := 0) rfl rfl (pc' := 18) rfl (fun r10 h13 q11 K12 => ?_)
    obtain ⟨ch14, rfl, H15, N16⟩ := q11
    show Run _ _ _ _ _ _ _ _ _ _ _ _ _ _ _ _ _ _ _ _ _ (mkF m 18 #[.val (.int p0), .val (.int p1), .val (.int p2), .val (.int p3), .val (.int p4), .val (.int (0 : Int32)), .unset, .unset] [(.int ch14), (.int ch7), (.int (0 : Int32))])
    refine GoKit.iloadN G at_18 rfl (pc' := 19) rfl ?_
    refine GoKit.callStatic G at_19 (wi hw 1 rfl) (wi hw 2 rfl) (wi hw 3 rfl) (wi hw 4 rfl) (by decide) (owc := []) (W := 3) (argsL := [(.int p3)]) (rest := [(.int ch14), (.int ch7), (.int (0 : Int32))]) (con_ch l hw p3) rfl (lenOf pd_19 rfl) rfl (by decide) (Nat.le_of_eq rfl) (by decide) (by decide) (by decide) (fun _ q => nomatch q) (cells' := 0) (slots' := 0) rfl rfl (pc' := 22) rfl (fun r17 h20 q18 K19 => ?_)
    obtain ⟨ch21, rfl, H22, N23⟩ := q18
    show Run _ _ _ _ _ _ _ _ _ _ _ _ _ _ _ _ _ _ _ _ _ (mkF m 22 #[.val (.int p0), .val (.int p1), .val (.int p2), .val (.int p3), .val (.int p4), .val (.int (0 : Int32)), .unset, .unset] [(.int ch21), (.int ch14), (.int ch7), (.int (0 : Int32))])
    refine GoKit.iload G at_22 rfl (pc' := 24) rfl ?_
    refine GoKit.callStatic G at_24 (wi hw 1 rfl) (wi hw 2 rfl) (wi hw 3 rfl) (wi hw 4 rfl) (by decide) (owc := []) (W := 4) (argsL := [(.int p4)]) (rest := [(.int ch21), (.int ch14), (.int ch7), (.int (0 : Int32))]) (con_ch l hw p4) rfl (lenOf pd_19 rfl) rfl (by decide) (Nat.le_of_eq rfl) (by decide) (by decide) (by decide) (fun _ q => nomatch q) (cells' := 0) (slots' := 0) rfl rfl (pc' := 27) rfl (fun r24 h27 q25 K26 => ?_)
    obtain ⟨ch28, rfl, H29, N30⟩ := q25
    show Run _ _ _ _ _ _ _ _ _ _ _ _ _ _ _ _ _ _ _ _ _ (mkF m 27 #[.val (.int p0), .val (.int p1), .val (.int p2), .val (.int p3), .val (.int p4), .val (.int (0 : Int32)), .unset, .unset] [(.int ch28), (.int ch21), (.int ch14), (.int ch7), (.int (0 : Int32))])
    refine GoKit.callStatic G at_27 (wi hw 6 rfl) (wi hw 7 rfl) (wi hw 3 rfl) (wi hw 8 rfl) (by decide) (owc := []) (W := 0) (argsL := [(.int (0 : Int32)), (.int ch7), (.int ch14), (.int ch21), (.int ch28)]) (rest := []) (con_make0 l hw H8 H15 H22 H29 HC HU) rfl (lenOf pd_20 rfl) rfl (by decide) (Nat.le_of_eq rfl) (by decide) (by decide) (by decide) (fun _ q => nomatch q) (cells' := 6) (slots' := 12) rfl rfl (pc' := 30) rfl (fun r31 h34 q32 K33 => ?_)
    obtain ⟨a35, rfl, S36⟩ := q32
    show Run _ _ _ _ _ _ _ _ _ _ _ _ _ _ _ _ _ _ _ _ _ (mkF m 30 #[.val (.int p0), .val (.int p1), .val (.int p2), .val (.int p3), .val (.int p4), .val (.int (0 : Int32)), .unset, .unset] [(.ref a35)])
    refine GoKit.astore G at_30 rfl (Ls' := #[.val (.int p0), .val (.int p1), .val (.int p2), .val (.int p3), .val (.int p4), .val (.int (0 : Int32)), .val (.ref a35), .unset]) rfl (pc' := 32) rfl ?_
    refine GoKit.aload G at_32 rfl rfl (pc' := 34) rfl ?_
    refine GoKit.callStaticP G at_34 (wi hw 31 rfl) (wi hw 32 rfl) (wi hw 33 rfl) (wi hw 34 rfl) (by decide) (W := 0) (argsL := [(.ref a35)]) (rest := []) (con_chk l hw (Or.inl S36) (fun q => nomatch q) HC HF HU) rfl (lenOf pd_21 rfl) rfl (by decide) (Nat.le_of_eq rfl) (by decide) (by decide) (by decide) (cells' := 6) (slots' := 12) rfl rfl (pc' := 37) rfl ?_
    show Run _ _ _ _ _ _ _ _ _ _ _ _ _ _ _ _ _ _ _ _ _ (mkF m 37 #[.val (.int p0), .val (.int p1), .val (.int p2), .val (.int p3), .val (.int p4), .val (.int (0 : Int32)), .val (.ref a35), .unset] [(.ref a35)])
    refine GoKit.astore G at_37 rfl (Ls' := #[.val (.int p0), .val (.int p1), .val (.int p2), .val (.int p3), .val (.int p4), .val (.int (0 : Int32)), .val (.ref a35), .val (.ref a35)]) rfl (pc' := 39) rfl ?_
    refine GoKit.aload G at_39 rfl rfl (pc' := 41) rfl ?_
    refine GoKit.ifnull_f G at_41 (pc' := 44) rfl ?_
    refine GoKit.aload G at_44 rfl rfl (pc' := 46) rfl ?_
    refine GoKit.callVirtualP G at_46 (wi hw 75 rfl) (wi hw 52 rfl) (wi hw 54 rfl) (wi hw 53 rfl) (wi hw 11 rfl) (wi hw 55 rfl) (by decide) S36.1 (W := 0) (argsL := []) (rest := []) (con_lenS l hw (Or.inl S36) HC) rfl (lenOf pd_13 rfl) rfl (by decide) (Nat.le_of_eq rfl) (by decide) (by decide) (by decide) (cells' := 6) (slots' := 12) rfl rfl (pc' := 49) rfl ?_
    show Run _ _ _ _ _ _ _ _ _ _ _ _ _ _ _ _ _ _ _ _ _ (mkF m 49 #[.val (.int p0), .val (.int p1), .val (.int p2), .val (.int p3), .val (.int p4), .val (.int (0 : Int32)), .val (.ref a35), .val (.ref a35)] [(.int (0 : Int32))])
    refine GoKit.aload G at_49 rfl rfl (pc' := 51) rfl ?_
    refine GoKit.callVirtualP G at_51 (wi hw 75 rfl) (wi hw 52 rfl) (wi hw 54 rfl) (wi hw 53 rfl) (wi hw 11 rfl) (wi hw 55 rfl) (by decide) S36.1 (W := 1) (argsL := []) (rest := [(.int (0 : Int32))]) (con_lenS l hw (Or.inl S36) HC) rfl (lenOf pd_13 rfl) rfl (by decide) (Nat.le_of_eq rfl) (by decide) (by decide) (by decide) (cells' := 6) (slots' := 12) rfl rfl (pc' := 54) rfl ?_
    show Run _ _ _ _ _ _ _ _ _ _ _ _ _ _ _ _ _ _ _ _ _ (mkF m 54 #[.val (.int p0), .val (.int p1), .val (.int p2), .val (.int p3), .val (.int p4), .val (.int (0 : Int32)), .val (.ref a35), .val (.ref a35)] [(.int (0 : Int32)), (.int (0 : Int32))])
    refine GoKit.icmp_ne_f G at_54 (by decide) (pc' := 57) rfl ?_
    refine GoKit.aload G at_57 rfl rfl (pc' := 59) rfl ?_
    refine GoKit.aload G at_59 rfl rfl (pc' := 61) rfl ?_
    refine GoKit.callVirtualP G at_61 (wi hw 76 rfl) (wi hw 77 rfl) (wi hw 79 rfl) (wi hw 78 rfl) (wi hw 11 rfl) (wi hw 80 rfl) (by decide) S36.1 (W := 0) (argsL := [(.ref a35)]) (rest := []) (con_eqSelf l hw) rfl (lenOf pd_22 rfl) rfl (by decide) (Nat.le_of_eq rfl) (by decide) (by decide) (by decide) (cells' := 6) (slots' := 12) rfl rfl (pc' := 64) rfl ?_
    show Run _ _ _ _ _ _ _ _ _ _ _ _ _ _ _ _ _ _ _ _ _ (mkF m 64 #[.val (.int p0), .val (.int p1), .val (.int p2), .val (.int p3), .val (.int p4), .val (.int (0 : Int32)), .val (.ref a35), .val (.ref a35)] [(.int 1)])
    refine GoKit.if_eq_f G at_64 (by decide) (pc' := 67) rfl ?_
    refine GoKit.iconst G (1 : Int32) at_67 rfl (pc' := 68) rfl ?_
    refine GoKit.goto G at_68 (by decide) (pc' := 72) rfl ?_
    refine GoKit.retNar G at_72 (t := .boolean) rfl (by simp) (by decide) (by decide) ?_
    exact rfl
  · refine GoKit.istore G at_6 (Ls' := #[.val (.int p0), .val (.int p1), .val (.int p2), .val (.int p3), .val (.int p4), .val (.int (1 : Int32)), .unset, .unset]) rfl (pc' := 8) rfl ?_
    refine GoKit.iload G at_8 rfl (pc' := 10) rfl ?_
    refine GoKit.iloadN G at_10 rfl (pc' := 11) rfl ?_
    refine GoKit.callStatic G at_11 (wi hw 1 rfl) (wi hw 2 rfl) (wi hw 3 rfl) (wi hw 4 rfl) (by decide) (owc := []) (W := 1) (argsL := [(.int p1)]) (rest := [(.int (1 : Int32))]) (con_ch l hw p1) rfl (lenOf pd_19 rfl) rfl (by decide) (Nat.le_of_eq rfl) (by decide) (by decide) (by decide) (fun _ q => nomatch q) (cells' := 0) (slots' := 0) rfl rfl (pc' := 14) rfl (fun r37 h40 q38 K39 => ?_)
    obtain ⟨ch41, rfl, H42, N43⟩ := q38
    show Run _ _ _ _ _ _ _ _ _ _ _ _ _ _ _ _ _ _ _ _ _ (mkF m 14 #[.val (.int p0), .val (.int p1), .val (.int p2), .val (.int p3), .val (.int p4), .val (.int (1 : Int32)), .unset, .unset] [(.int ch41), (.int (1 : Int32))])
    refine GoKit.iloadN G at_14 rfl (pc' := 15) rfl ?_
    refine GoKit.callStatic G at_15 (wi hw 1 rfl) (wi hw 2 rfl) (wi hw 3 rfl) (wi hw 4 rfl) (by decide) (owc := []) (W := 2) (argsL := [(.int p2)]) (rest := [(.int ch41), (.int (1 : Int32))]) (con_ch l hw p2) rfl (lenOf pd_19 rfl) rfl (by decide) (Nat.le_of_eq rfl) (by decide) (by decide) (by decide) (fun _ q => nomatch q) (cells' := 0) (slots' := 0) rfl rfl (pc' := 18) rfl (fun r44 h47 q45 K46 => ?_)
    obtain ⟨ch48, rfl, H49, N50⟩ := q45
    show Run _ _ _ _ _ _ _ _ _ _ _ _ _ _ _ _ _ _ _ _ _ (mkF m 18 #[.val (.int p0), .val (.int p1), .val (.int p2), .val (.int p3), .val (.int p4), .val (.int (1 : Int32)), .unset, .unset] [(.int ch48), (.int ch41), (.int (1 : Int32))])
    refine GoKit.iloadN G at_18 rfl (pc' := 19) rfl ?_
    refine GoKit.callStatic G at_19 (wi hw 1 rfl) (wi hw 2 rfl) (wi hw 3 rfl) (wi hw 4 rfl) (by decide) (owc := []) (W := 3) (argsL := [(.int p3)]) (rest := [(.int ch48), (.int ch41), (.int (1 : Int32))]) (con_ch l hw p3) rfl (lenOf pd_19 rfl) rfl (by decide) (Nat.le_of_eq rfl) (by decide) (by decide) (by decide) (fun _ q => nomatch q) (cells' := 0) (slots' := 0) rfl rfl (pc' := 22) rfl (fun r51 h54 q52 K53 => ?_)
    obtain ⟨ch55, rfl, H56, N57⟩ := q52
    show Run _ _ _ _ _ _ _ _ _ _ _ _ _ _ _ _ _ _ _ _ _ (mkF m 22 #[.val (.int p0), .val (.int p1), .val (.int p2), .val (.int p3), .val (.int p4), .val (.int (1 : Int32)), .unset, .unset] [(.int ch55), (.int ch48), (.int ch41), (.int (1 : Int32))])
    refine GoKit.iload G at_22 rfl (pc' := 24) rfl ?_
    refine GoKit.callStatic G at_24 (wi hw 1 rfl) (wi hw 2 rfl) (wi hw 3 rfl) (wi hw 4 rfl) (by decide) (owc := []) (W := 4) (argsL := [(.int p4)]) (rest := [(.int ch55), (.int ch48), (.int ch41), (.int (1 : Int32))]) (con_ch l hw p4) rfl (lenOf pd_19 rfl) rfl (by decide) (Nat.le_of_eq rfl) (by decide) (by decide) (by decide) (fun _ q => nomatch q) (cells' := 0) (slots' := 0) rfl rfl (pc' := 27) rfl (fun r58 h61 q59 K60 => ?_)
    obtain ⟨ch62, rfl, H63, N64⟩ := q59
    show Run _ _ _ _ _ _ _ _ _ _ _ _ _ _ _ _ _ _ _ _ _ (mkF m 27 #[.val (.int p0), .val (.int p1), .val (.int p2), .val (.int p3), .val (.int p4), .val (.int (1 : Int32)), .unset, .unset] [(.int ch62), (.int ch55), (.int ch48), (.int ch41), (.int (1 : Int32))])
    refine GoKit.callStatic G at_27 (wi hw 6 rfl) (wi hw 7 rfl) (wi hw 3 rfl) (wi hw 8 rfl) (by decide) (owc := []) (W := 0) (argsL := [(.int (1 : Int32)), (.int ch41), (.int ch48), (.int ch55), (.int ch62)]) (rest := []) (con_make1 l hw H42 H49 H56 H63 HC HU) rfl (lenOf pd_20 rfl) rfl (by decide) (Nat.le_of_eq rfl) (by decide) (by decide) (by decide) (fun _ q => nomatch q) (cells' := 4) (slots' := 17) rfl rfl (pc' := 30) rfl (fun r65 h68 q66 K67 => ?_)
    obtain ⟨a69, rfl, S70⟩ := q66
    show Run _ _ _ _ _ _ _ _ _ _ _ _ _ _ _ _ _ _ _ _ _ (mkF m 30 #[.val (.int p0), .val (.int p1), .val (.int p2), .val (.int p3), .val (.int p4), .val (.int (1 : Int32)), .unset, .unset] [(.ref a69)])
    refine GoKit.astore G at_30 rfl (Ls' := #[.val (.int p0), .val (.int p1), .val (.int p2), .val (.int p3), .val (.int p4), .val (.int (1 : Int32)), .val (.ref a69), .unset]) rfl (pc' := 32) rfl ?_
    refine GoKit.aload G at_32 rfl rfl (pc' := 34) rfl ?_
    refine GoKit.callStaticP G at_34 (wi hw 31 rfl) (wi hw 32 rfl) (wi hw 33 rfl) (wi hw 34 rfl) (by decide) (W := 0) (argsL := [(.ref a69)]) (rest := []) (con_chk l hw S70 (by simp only [List.mem_cons, List.not_mem_nil, or_false, not_or]; exact fun q => N43 q.symm) HC HF HU) rfl (lenOf pd_21 rfl) rfl (by decide) (Nat.le_of_eq rfl) (by decide) (by decide) (by decide) (cells' := 4) (slots' := 17) rfl rfl (pc' := 37) rfl ?_
    show Run _ _ _ _ _ _ _ _ _ _ _ _ _ _ _ _ _ _ _ _ _ (mkF m 37 #[.val (.int p0), .val (.int p1), .val (.int p2), .val (.int p3), .val (.int p4), .val (.int (1 : Int32)), .val (.ref a69), .unset] [(.ref a69)])
    refine GoKit.astore G at_37 rfl (Ls' := #[.val (.int p0), .val (.int p1), .val (.int p2), .val (.int p3), .val (.int p4), .val (.int (1 : Int32)), .val (.ref a69), .val (.ref a69)]) rfl (pc' := 39) rfl ?_
    refine GoKit.aload G at_39 rfl rfl (pc' := 41) rfl ?_
    refine GoKit.ifnull_f G at_41 (pc' := 44) rfl ?_
    refine GoKit.aload G at_44 rfl rfl (pc' := 46) rfl ?_
    refine GoKit.callVirtualP G at_46 (wi hw 75 rfl) (wi hw 52 rfl) (wi hw 54 rfl) (wi hw 53 rfl) (wi hw 11 rfl) (wi hw 55 rfl) (by decide) (str_exa S70) (W := 0) (argsL := []) (rest := []) (con_lenS l hw S70 HC) rfl (lenOf pd_13 rfl) rfl (by decide) (Nat.le_of_eq rfl) (by decide) (by decide) (by decide) (cells' := 4) (slots' := 17) rfl rfl (pc' := 49) rfl ?_
    show Run _ _ _ _ _ _ _ _ _ _ _ _ _ _ _ _ _ _ _ _ _ (mkF m 49 #[.val (.int p0), .val (.int p1), .val (.int p2), .val (.int p3), .val (.int p4), .val (.int (1 : Int32)), .val (.ref a69), .val (.ref a69)] [(.int (1 : Int32))])
    refine GoKit.aload G at_49 rfl rfl (pc' := 51) rfl ?_
    refine GoKit.callVirtualP G at_51 (wi hw 75 rfl) (wi hw 52 rfl) (wi hw 54 rfl) (wi hw 53 rfl) (wi hw 11 rfl) (wi hw 55 rfl) (by decide) (str_exa S70) (W := 1) (argsL := []) (rest := [(.int (1 : Int32))]) (con_lenS l hw S70 HC) rfl (lenOf pd_13 rfl) rfl (by decide) (Nat.le_of_eq rfl) (by decide) (by decide) (by decide) (cells' := 4) (slots' := 17) rfl rfl (pc' := 54) rfl ?_
    show Run _ _ _ _ _ _ _ _ _ _ _ _ _ _ _ _ _ _ _ _ _ (mkF m 54 #[.val (.int p0), .val (.int p1), .val (.int p2), .val (.int p3), .val (.int p4), .val (.int (1 : Int32)), .val (.ref a69), .val (.ref a69)] [(.int (1 : Int32)), (.int (1 : Int32))])
    refine GoKit.icmp_ne_f G at_54 (by decide) (pc' := 57) rfl ?_
    refine GoKit.aload G at_57 rfl rfl (pc' := 59) rfl ?_
    refine GoKit.aload G at_59 rfl rfl (pc' := 61) rfl ?_
    refine GoKit.callVirtualP G at_61 (wi hw 76 rfl) (wi hw 77 rfl) (wi hw 79 rfl) (wi hw 78 rfl) (wi hw 11 rfl) (wi hw 80 rfl) (by decide) (str_exa S70) (W := 0) (argsL := [(.ref a69)]) (rest := []) (con_eqSelf l hw) rfl (lenOf pd_22 rfl) rfl (by decide) (Nat.le_of_eq rfl) (by decide) (by decide) (by decide) (cells' := 4) (slots' := 17) rfl rfl (pc' := 64) rfl ?_
    show Run _ _ _ _ _ _ _ _ _ _ _ _ _ _ _ _ _ _ _ _ _ (mkF m 64 #[.val (.int p0), .val (.int p1), .val (.int p2), .val (.int p3), .val (.int p4), .val (.int (1 : Int32)), .val (.ref a69), .val (.ref a69)] [(.int 1)])
    refine GoKit.if_eq_f G at_64 (by decide) (pc' := 67) rfl ?_
    refine GoKit.iconst G (1 : Int32) at_67 rfl (pc' := 68) rfl ?_
    refine GoKit.goto G at_68 (by decide) (pc' := 72) rfl ?_
    refine GoKit.retNar G at_72 (t := .boolean) rfl (by simp) (by decide) (by decide) ?_
    exact rfl
  · refine GoKit.istore G at_6 (Ls' := #[.val (.int p0), .val (.int p1), .val (.int p2), .val (.int p3), .val (.int p4), .val (.int (2 : Int32)), .unset, .unset]) rfl (pc' := 8) rfl ?_
    refine GoKit.iload G at_8 rfl (pc' := 10) rfl ?_
    refine GoKit.iloadN G at_10 rfl (pc' := 11) rfl ?_
    refine GoKit.callStatic G at_11 (wi hw 1 rfl) (wi hw 2 rfl) (wi hw 3 rfl) (wi hw 4 rfl) (by decide) (owc := []) (W := 1) (argsL := [(.int p1)]) (rest := [(.int (2 : Int32))]) (con_ch l hw p1) rfl (lenOf pd_19 rfl) rfl (by decide) (Nat.le_of_eq rfl) (by decide) (by decide) (by decide) (fun _ q => nomatch q) (cells' := 0) (slots' := 0) rfl rfl (pc' := 14) rfl (fun r71 h74 q72 K73 => ?_)
    obtain ⟨ch75, rfl, H76, N77⟩ := q72
    show Run _ _ _ _ _ _ _ _ _ _ _ _ _ _ _ _ _ _ _ _ _ (mkF m 14 #[.val (.int p0), .val (.int p1), .val (.int p2), .val (.int p3), .val (.int p4), .val (.int (2 : Int32)), .unset, .unset] [(.int ch75), (.int (2 : Int32))])
    refine GoKit.iloadN G at_14 rfl (pc' := 15) rfl ?_
    refine GoKit.callStatic G at_15 (wi hw 1 rfl) (wi hw 2 rfl) (wi hw 3 rfl) (wi hw 4 rfl) (by decide) (owc := []) (W := 2) (argsL := [(.int p2)]) (rest := [(.int ch75), (.int (2 : Int32))]) (con_ch l hw p2) rfl (lenOf pd_19 rfl) rfl (by decide) (Nat.le_of_eq rfl) (by decide) (by decide) (by decide) (fun _ q => nomatch q) (cells' := 0) (slots' := 0) rfl rfl (pc' := 18) rfl (fun r78 h81 q79 K80 => ?_)
    obtain ⟨ch82, rfl, H83, N84⟩ := q79
    show Run _ _ _ _ _ _ _ _ _ _ _ _ _ _ _ _ _ _ _ _ _ (mkF m 18 #[.val (.int p0), .val (.int p1), .val (.int p2), .val (.int p3), .val (.int p4), .val (.int (2 : Int32)), .unset, .unset] [(.int ch82), (.int ch75), (.int (2 : Int32))])
    refine GoKit.iloadN G at_18 rfl (pc' := 19) rfl ?_
    refine GoKit.callStatic G at_19 (wi hw 1 rfl) (wi hw 2 rfl) (wi hw 3 rfl) (wi hw 4 rfl) (by decide) (owc := []) (W := 3) (argsL := [(.int p3)]) (rest := [(.int ch82), (.int ch75), (.int (2 : Int32))]) (con_ch l hw p3) rfl (lenOf pd_19 rfl) rfl (by decide) (Nat.le_of_eq rfl) (by decide) (by decide) (by decide) (fun _ q => nomatch q) (cells' := 0) (slots' := 0) rfl rfl (pc' := 22) rfl (fun r85 h88 q86 K87 => ?_)
    obtain ⟨ch89, rfl, H90, N91⟩ := q86
    show Run _ _ _ _ _ _ _ _ _ _ _ _ _ _ _ _ _ _ _ _ _ (mkF m 22 #[.val (.int p0), .val (.int p1), .val (.int p2), .val (.int p3), .val (.int p4), .val (.int (2 : Int32)), .unset, .unset] [(.int ch89), (.int ch82), (.int ch75), (.int (2 : Int32))])
    refine GoKit.iload G at_22 rfl (pc' := 24) rfl ?_
    refine GoKit.callStatic G at_24 (wi hw 1 rfl) (wi hw 2 rfl) (wi hw 3 rfl) (wi hw 4 rfl) (by decide) (owc := []) (W := 4) (argsL := [(.int p4)]) (rest := [(.int ch89), (.int ch82), (.int ch75), (.int (2 : Int32))]) (con_ch l hw p4) rfl (lenOf pd_19 rfl) rfl (by decide) (Nat.le_of_eq rfl) (by decide) (by decide) (by decide) (fun _ q => nomatch q) (cells' := 0) (slots' := 0) rfl rfl (pc' := 27) rfl (fun r92 h95 q93 K94 => ?_)
    obtain ⟨ch96, rfl, H97, N98⟩ := q93
    show Run _ _ _ _ _ _ _ _ _ _ _ _ _ _ _ _ _ _ _ _ _ (mkF m 27 #[.val (.int p0), .val (.int p1), .val (.int p2), .val (.int p3), .val (.int p4), .val (.int (2 : Int32)), .unset, .unset] [(.int ch96), (.int ch89), (.int ch82), (.int ch75), (.int (2 : Int32))])
    refine GoKit.callStatic G at_27 (wi hw 6 rfl) (wi hw 7 rfl) (wi hw 3 rfl) (wi hw 8 rfl) (by decide) (owc := []) (W := 0) (argsL := [(.int (2 : Int32)), (.int ch75), (.int ch82), (.int ch89), (.int ch96)]) (rest := []) (con_make2 l hw H76 H83 H90 H97 HC HU) rfl (lenOf pd_20 rfl) rfl (by decide) (Nat.le_of_eq rfl) (by decide) (by decide) (by decide) (fun _ q => nomatch q) (cells' := 4) (slots' := 18) rfl rfl (pc' := 30) rfl (fun r99 h102 q100 K101 => ?_)
    obtain ⟨a103, rfl, S104⟩ := q100
    show Run _ _ _ _ _ _ _ _ _ _ _ _ _ _ _ _ _ _ _ _ _ (mkF m 30 #[.val (.int p0), .val (.int p1), .val (.int p2), .val (.int p3), .val (.int p4), .val (.int (2 : Int32)), .unset, .unset] [(.ref a103)])
    refine GoKit.astore G at_30 rfl (Ls' := #[.val (.int p0), .val (.int p1), .val (.int p2), .val (.int p3), .val (.int p4), .val (.int (2 : Int32)), .val (.ref a103), .unset]) rfl (pc' := 32) rfl ?_
    refine GoKit.aload G at_32 rfl rfl (pc' := 34) rfl ?_
    refine GoKit.callStaticP G at_34 (wi hw 31 rfl) (wi hw 32 rfl) (wi hw 33 rfl) (wi hw 34 rfl) (by decide) (W := 0) (argsL := [(.ref a103)]) (rest := []) (con_chk l hw S104 (by simp only [List.mem_cons, List.not_mem_nil, or_false, not_or]; exact ⟨fun q => N77 q.symm, fun q => N84 q.symm⟩) HC HF HU) rfl (lenOf pd_21 rfl) rfl (by decide) (Nat.le_of_eq rfl) (by decide) (by decide) (by decide) (cells' := 4) (slots' := 18) rfl rfl (pc' := 37) rfl ?_
    show Run _ _ _ _ _ _ _ _ _ _ _ _ _ _ _ _ _ _ _ _ _ (mkF m 37 #[.val (.int p0), .val (.int p1), .val (.int p2), .val (.int p3), .val (.int p4), .val (.int (2 : Int32)), .val (.ref a103), .unset] [(.ref a103)])
    refine GoKit.astore G at_37 rfl (Ls' := #[.val (.int p0), .val (.int p1), .val (.int p2), .val (.int p3), .val (.int p4), .val (.int (2 : Int32)), .val (.ref a103), .val (.ref a103)]) rfl (pc' := 39) rfl ?_
    refine GoKit.aload G at_39 rfl rfl (pc' := 41) rfl ?_
    refine GoKit.ifnull_f G at_41 (pc' := 44) rfl ?_
    refine GoKit.aload G at_44 rfl rfl (pc' := 46) rfl ?_
    refine GoKit.callVirtualP G at_46 (wi hw 75 rfl) (wi hw 52 rfl) (wi hw 54 rfl) (wi hw 53 rfl) (wi hw 11 rfl) (wi hw 55 rfl) (by decide) (str_exa S104) (W := 0) (argsL := []) (rest := []) (con_lenS l hw S104 HC) rfl (lenOf pd_13 rfl) rfl (by decide) (Nat.le_of_eq rfl) (by decide) (by decide) (by decide) (cells' := 4) (slots' := 18) rfl rfl (pc' := 49) rfl ?_
    show Run _ _ _ _ _ _ _ _ _ _ _ _ _ _ _ _ _ _ _ _ _ (mkF m 49 #[.val (.int p0), .val (.int p1), .val (.int p2), .val (.int p3), .val (.int p4), .val (.int (2 : Int32)), .val (.ref a103), .val (.ref a103)] [(.int (2 : Int32))])
    refine GoKit.aload G at_49 rfl rfl (pc' := 51) rfl ?_
    refine GoKit.callVirtualP G at_51 (wi hw 75 rfl) (wi hw 52 rfl) (wi hw 54 rfl) (wi hw 53 rfl) (wi hw 11 rfl) (wi hw 55 rfl) (by decide) (str_exa S104) (W := 1) (argsL := []) (rest := [(.int (2 : Int32))]) (con_lenS l hw S104 HC) rfl (lenOf pd_13 rfl) rfl (by decide) (Nat.le_of_eq rfl) (by decide) (by decide) (by decide) (cells' := 4) (slots' := 18) rfl rfl (pc' := 54) rfl ?_
    show Run _ _ _ _ _ _ _ _ _ _ _ _ _ _ _ _ _ _ _ _ _ (mkF m 54 #[.val (.int p0), .val (.int p1), .val (.int p2), .val (.int p3), .val (.int p4), .val (.int (2 : Int32)), .val (.ref a103), .val (.ref a103)] [(.int (2 : Int32)), (.int (2 : Int32))])
    refine GoKit.icmp_ne_f G at_54 (by decide) (pc' := 57) rfl ?_
    refine GoKit.aload G at_57 rfl rfl (pc' := 59) rfl ?_
    refine GoKit.aload G at_59 rfl rfl (pc' := 61) rfl ?_
    refine GoKit.callVirtualP G at_61 (wi hw 76 rfl) (wi hw 77 rfl) (wi hw 79 rfl) (wi hw 78 rfl) (wi hw 11 rfl) (wi hw 80 rfl) (by decide) (str_exa S104) (W := 0) (argsL := [(.ref a103)]) (rest := []) (con_eqSelf l hw) rfl (lenOf pd_22 rfl) rfl (by decide) (Nat.le_of_eq rfl) (by decide) (by decide) (by decide) (cells' := 4) (slots' := 18) rfl rfl (pc' := 64) rfl ?_
    show Run _ _ _ _ _ _ _ _ _ _ _ _ _ _ _ _ _ _ _ _ _ (mkF m 64 #[.val (.int p0), .val (.int p1), .val (.int p2), .val (.int p3), .val (.int p4), .val (.int (2 : Int32)), .val (.ref a103), .val (.ref a103)] [(.int 1)])
    refine GoKit.if_eq_f G at_64 (by decide) (pc' := 67) rfl ?_
    refine GoKit.iconst G (1 : Int32) at_67 rfl (pc' := 68) rfl ?_
    refine GoKit.goto G at_68 (by decide) (pc' := 72) rfl ?_
    refine GoKit.retNar G at_72 (t := .boolean) rfl (by simp) (by decide) (by decide) ?_
    exact rfl
  · refine GoKit.istore G at_6 (Ls' := #[.val (.int p0), .val (.int p1), .val (.int p2), .val (.int p3), .val (.int p4), .val (.int (3 : Int32)), .unset, .unset]) rfl (pc' := 8) rfl ?_
    refine GoKit.iload G at_8 rfl (pc' := 10) rfl ?_
    refine GoKit.iloadN G at_10 rfl (pc' := 11) rfl ?_
    refine GoKit.callStatic G at_11 (wi hw 1 rfl) (wi hw 2 rfl) (wi hw 3 rfl) (wi hw 4 rfl) (by decide) (owc := []) (W := 1) (argsL := [(.int p1)]) (rest := [(.int (3 : Int32))]) (con_ch l hw p1) rfl (lenOf pd_19 rfl) rfl (by decide) (Nat.le_of_eq rfl) (by decide) (by decide) (by decide) (fun _ q => nomatch q) (cells' := 0) (slots' := 0) rfl rfl (pc' := 14) rfl (fun r105 h108 q106 K107 => ?_)
    obtain ⟨ch109, rfl, H110, N111⟩ := q106
    show Run _ _ _ _ _ _ _ _ _ _ _ _ _ _ _ _ _ _ _ _ _ (mkF m 14 #[.val (.int p0), .val (.int p1), .val (.int p2), .val (.int p3), .val (.int p4), .val (.int (3 : Int32)), .unset, .unset] [(.int ch109), (.int (3 : Int32))])
    refine GoKit.iloadN G at_14 rfl (pc' := 15) rfl ?_
    refine GoKit.callStatic G at_15 (wi hw 1 rfl) (wi hw 2 rfl) (wi hw 3 rfl) (wi hw 4 rfl) (by decide) (owc := []) (W := 2) (argsL := [(.int p2)]) (rest := [(.int ch109), (.int (3 : Int32))]) (con_ch l hw p2) rfl (lenOf pd_19 rfl) rfl (by decide) (Nat.le_of_eq rfl) (by decide) (by decide) (by decide) (fun _ q => nomatch q) (cells' := 0) (slots' := 0) rfl rfl (pc' := 18) rfl (fun r112 h115 q113 K114 => ?_)
    obtain ⟨ch116, rfl, H117, N118⟩ := q113
    show Run _ _ _ _ _ _ _ _ _ _ _ _ _ _ _ _ _ _ _ _ _ (mkF m 18 #[.val (.int p0), .val (.int p1), .val (.int p2), .val (.int p3), .val (.int p4), .val (.int (3 : Int32)), .unset, .unset] [(.int ch116), (.int ch109), (.int (3 : Int32))])
    refine GoKit.iloadN G at_18 rfl (pc' := 19) rfl ?_
    refine GoKit.callStatic G at_19 (wi hw 1 rfl) (wi hw 2 rfl) (wi hw 3 rfl) (wi hw 4 rfl) (by decide) (owc := []) (W := 3) (argsL := [(.int p3)]) (rest := [(.int ch116), (.int ch109), (.int (3 : Int32))]) (con_ch l hw p3) rfl (lenOf pd_19 rfl) rfl (by decide) (Nat.le_of_eq rfl) (by decide) (by decide) (by decide) (fun _ q => nomatch q) (cells' := 0) (slots' := 0) rfl rfl (pc' := 22) rfl (fun r119 h122 q120 K121 => ?_)
    obtain ⟨ch123, rfl, H124, N125⟩ := q120
    show Run _ _ _ _ _ _ _ _ _ _ _ _ _ _ _ _ _ _ _ _ _ (mkF m 22 #[.val (.int p0), .val (.int p1), .val (.int p2), .val (.int p3), .val (.int p4), .val (.int (3 : Int32)), .unset, .unset] [(.int ch123), (.int ch116), (.int ch109), (.int (3 : Int32))])
    refine GoKit.iload G at_22 rfl (pc' := 24) rfl ?_
    refine GoKit.callStatic G at_24 (wi hw 1 rfl) (wi hw 2 rfl) (wi hw 3 rfl) (wi hw 4 rfl) (by decide) (owc := []) (W := 4) (argsL := [(.int p4)]) (rest := [(.int ch123), (.int ch116), (.int ch109), (.int (3 : Int32))]) (con_ch l hw p4) rfl (lenOf pd_19 rfl) rfl (by decide) (Nat.le_of_eq rfl) (by decide) (by decide) (by decide) (fun _ q => nomatch q) (cells' := 0) (slots' := 0) rfl rfl (pc' := 27) rfl (fun r126 h129 q127 K128 => ?_)
    obtain ⟨ch130, rfl, H131, N132⟩ := q127
    show Run _ _ _ _ _ _ _ _ _ _ _ _ _ _ _ _ _ _ _ _ _ (mkF m 27 #[.val (.int p0), .val (.int p1), .val (.int p2), .val (.int p3), .val (.int p4), .val (.int (3 : Int32)), .unset, .unset] [(.int ch130), (.int ch123), (.int ch116), (.int ch109), (.int (3 : Int32))])
    refine GoKit.callStatic G at_27 (wi hw 6 rfl) (wi hw 7 rfl) (wi hw 3 rfl) (wi hw 8 rfl) (by decide) (owc := []) (W := 0) (argsL := [(.int (3 : Int32)), (.int ch109), (.int ch116), (.int ch123), (.int ch130)]) (rest := []) (con_make3 l hw H110 H117 H124 H131 HC HU) rfl (lenOf pd_20 rfl) rfl (by decide) (Nat.le_of_eq rfl) (by decide) (by decide) (by decide) (fun _ q => nomatch q) (cells' := 4) (slots' := 19) rfl rfl (pc' := 30) rfl (fun r133 h136 q134 K135 => ?_)
    obtain ⟨a137, rfl, S138⟩ := q134
    show Run _ _ _ _ _ _ _ _ _ _ _ _ _ _ _ _ _ _ _ _ _ (mkF m 30 #[.val (.int p0), .val (.int p1), .val (.int p2), .val (.int p3), .val (.int p4), .val (.int (3 : Int32)), .unset, .unset] [(.ref a137)])
    refine GoKit.astore G at_30 rfl (Ls' := #[.val (.int p0), .val (.int p1), .val (.int p2), .val (.int p3), .val (.int p4), .val (.int (3 : Int32)), .val (.ref a137), .unset]) rfl (pc' := 32) rfl ?_
    refine GoKit.aload G at_32 rfl rfl (pc' := 34) rfl ?_
    refine GoKit.callStaticP G at_34 (wi hw 31 rfl) (wi hw 32 rfl) (wi hw 33 rfl) (wi hw 34 rfl) (by decide) (W := 0) (argsL := [(.ref a137)]) (rest := []) (con_chk l hw S138 (by simp only [List.mem_cons, List.not_mem_nil, or_false, not_or]; exact ⟨fun q => N111 q.symm, fun q => N118 q.symm, fun q => N125 q.symm⟩) HC HF HU) rfl (lenOf pd_21 rfl) rfl (by decide) (Nat.le_of_eq rfl) (by decide) (by decide) (by decide) (cells' := 4) (slots' := 19) rfl rfl (pc' := 37) rfl ?_
    show Run _ _ _ _ _ _ _ _ _ _ _ _ _ _ _ _ _ _ _ _ _ (mkF m 37 #[.val (.int p0), .val (.int p1), .val (.int p2), .val (.int p3), .val (.int p4), .val (.int (3 : Int32)), .val (.ref a137), .unset] [(.ref a137)])
    refine GoKit.astore G at_37 rfl (Ls' := #[.val (.int p0), .val (.int p1), .val (.int p2), .val (.int p3), .val (.int p4), .val (.int (3 : Int32)), .val (.ref a137), .val (.ref a137)]) rfl (pc' := 39) rfl ?_
    refine GoKit.aload G at_39 rfl rfl (pc' := 41) rfl ?_
    refine GoKit.ifnull_f G at_41 (pc' := 44) rfl ?_
    refine GoKit.aload G at_44 rfl rfl (pc' := 46) rfl ?_
    refine GoKit.callVirtualP G at_46 (wi hw 75 rfl) (wi hw 52 rfl) (wi hw 54 rfl) (wi hw 53 rfl) (wi hw 11 rfl) (wi hw 55 rfl) (by decide) (str_exa S138) (W := 0) (argsL := []) (rest := []) (con_lenS l hw S138 HC) rfl (lenOf pd_13 rfl) rfl (by decide) (Nat.le_of_eq rfl) (by decide) (by decide) (by decide) (cells' := 4) (slots' := 19) rfl rfl (pc' := 49) rfl ?_
    show Run _ _ _ _ _ _ _ _ _ _ _ _ _ _ _ _ _ _ _ _ _ (mkF m 49 #[.val (.int p0), .val (.int p1), .val (.int p2), .val (.int p3), .val (.int p4), .val (.int (3 : Int32)), .val (.ref a137), .val (.ref a137)] [(.int (3 : Int32))])
    refine GoKit.aload G at_49 rfl rfl (pc' := 51) rfl ?_
    refine GoKit.callVirtualP G at_51 (wi hw 75 rfl) (wi hw 52 rfl) (wi hw 54 rfl) (wi hw 53 rfl) (wi hw 11 rfl) (wi hw 55 rfl) (by decide) (str_exa S138) (W := 1) (argsL := []) (rest := [(.int (3 : Int32))]) (con_lenS l hw S138 HC) rfl (lenOf pd_13 rfl) rfl (by decide) (Nat.le_of_eq rfl) (by decide) (by decide) (by decide) (cells' := 4) (slots' := 19) rfl rfl (pc' := 54) rfl ?_
    show Run _ _ _ _ _ _ _ _ _ _ _ _ _ _ _ _ _ _ _ _ _ (mkF m 54 #[.val (.int p0), .val (.int p1), .val (.int p2), .val (.int p3), .val (.int p4), .val (.int (3 : Int32)), .val (.ref a137), .val (.ref a137)] [(.int (3 : Int32)), (.int (3 : Int32))])
    refine GoKit.icmp_ne_f G at_54 (by decide) (pc' := 57) rfl ?_
    refine GoKit.aload G at_57 rfl rfl (pc' := 59) rfl ?_
    refine GoKit.aload G at_59 rfl rfl (pc' := 61) rfl ?_
    refine GoKit.callVirtualP G at_61 (wi hw 76 rfl) (wi hw 77 rfl) (wi hw 79 rfl) (wi hw 78 rfl) (wi hw 11 rfl) (wi hw 80 rfl) (by decide) (str_exa S138) (W := 0) (argsL := [(.ref a137)]) (rest := []) (con_eqSelf l hw) rfl (lenOf pd_22 rfl) rfl (by decide) (Nat.le_of_eq rfl) (by decide) (by decide) (by decide) (cells' := 4) (slots' := 19) rfl rfl (pc' := 64) rfl ?_
    show Run _ _ _ _ _ _ _ _ _ _ _ _ _ _ _ _ _ _ _ _ _ (mkF m 64 #[.val (.int p0), .val (.int p1), .val (.int p2), .val (.int p3), .val (.int p4), .val (.int (3 : Int32)), .val (.ref a137), .val (.ref a137)] [(.int 1)])
    refine GoKit.if_eq_f G at_64 (by decide) (pc' := 67) rfl ?_
    refine GoKit.iconst G (1 : Int32) at_67 rfl (pc' := 68) rfl ?_
    refine GoKit.goto G at_68 (by decide) (pc' := 72) rfl ?_
    refine GoKit.retNar G at_72 (t := .boolean) rfl (by simp) (by decide) (by decide) ?_
    exact rfl
  · refine GoKit.istore G at_6 (Ls' := #[.val (.int p0), .val (.int p1), .val (.int p2), .val (.int p3), .val (.int p4), .val (.int (4 : Int32)), .unset, .unset]) rfl (pc' := 8) rfl ?_
    refine GoKit.iload G at_8 rfl (pc' := 10) rfl ?_
    refine GoKit.iloadN G at_10 rfl (pc' := 11) rfl ?_
    refine GoKit.callStatic G at_11 (wi hw 1 rfl) (wi hw 2 rfl) (wi hw 3 rfl) (wi hw 4 rfl) (by decide) (owc := []) (W := 1) (argsL := [(.int p1)]) (rest := [(.int (4 : Int32))]) (con_ch l hw p1) rfl (lenOf pd_19 rfl) rfl (by decide) (Nat.le_of_eq rfl) (by decide) (by decide) (by decide) (fun _ q => nomatch q) (cells' := 0) (slots' := 0) rfl rfl (pc' := 14) rfl (fun r139 h142 q140 K141 => ?_)
    obtain ⟨ch143, rfl, H144, N145⟩ := q140
    show Run _ _ _ _ _ _ _ _ _ _ _ _ _ _ _ _ _ _ _ _ _ (mkF m 14 #[.val (.int p0), .val (.int p1), .val (.int p2), .val (.int p3), .val (.int p4), .val (.int (4 : Int32)), .unset, .unset] [(.int ch143), (.int (4 : Int32))])
    refine GoKit.iloadN G at_14 rfl (pc' := 15) rfl ?_
    refine GoKit.callStatic G at_15 (wi hw 1 rfl) (wi hw 2 rfl) (wi hw 3 rfl) (wi hw 4 rfl) (by decide) (owc := []) (W := 2) (argsL := [(.int p2)]) (rest := [(.int ch143), (.int (4 : Int32))]) (con_ch l hw p2) rfl (lenOf pd_19 rfl) rfl (by decide) (Nat.le_of_eq rfl) (by decide) (by decide) (by decide) (fun _ q => nomatch q) (cells' := 0) (slots' := 0) rfl rfl (pc' := 18) rfl (fun r146 h149 q147 K148 => ?_)
    obtain ⟨ch150, rfl, H151, N152⟩ := q147
    show Run _ _ _ _ _ _ _ _ _ _ _ _ _ _ _ _ _ _ _ _ _ (mkF m 18 #[.val (.int p0), .val (.int p1), .val (.int p2), .val (.int p3), .val (.int p4), .val (.int (4 : Int32)), .unset, .unset] [(.int ch150), (.int ch143), (.int (4 : Int32))])
    refine GoKit.iloadN G at_18 rfl (pc' := 19) rfl ?_
    refine GoKit.callStatic G at_19 (wi hw 1 rfl) (wi hw 2 rfl) (wi hw 3 rfl) (wi hw 4 rfl) (by decide) (owc := []) (W := 3) (argsL := [(.int p3)]) (rest := [(.int ch150), (.int ch143), (.int (4 : Int32))]) (con_ch l hw p3) rfl (lenOf pd_19 rfl) rfl (by decide) (Nat.le_of_eq rfl) (by decide) (by decide) (by decide) (fun _ q => nomatch q) (cells' := 0) (slots' := 0) rfl rfl (pc' := 22) rfl (fun r153 h156 q154 K155 => ?_)
    obtain ⟨ch157, rfl, H158, N159⟩ := q154
    show Run _ _ _ _ _ _ _ _ _ _ _ _ _ _ _ _ _ _ _ _ _ (mkF m 22 #[.val (.int p0), .val (.int p1), .val (.int p2), .val (.int p3), .val (.int p4), .val (.int (4 : Int32)), .unset, .unset] [(.int ch157), (.int ch150), (.int ch143), (.int (4 : Int32))])
    refine GoKit.iload G at_22 rfl (pc' := 24) rfl ?_
    refine GoKit.callStatic G at_24 (wi hw 1 rfl) (wi hw 2 rfl) (wi hw 3 rfl) (wi hw 4 rfl) (by decide) (owc := []) (W := 4) (argsL := [(.int p4)]) (rest := [(.int ch157), (.int ch150), (.int ch143), (.int (4 : Int32))]) (con_ch l hw p4) rfl (lenOf pd_19 rfl) rfl (by decide) (Nat.le_of_eq rfl) (by decide) (by decide) (by decide) (fun _ q => nomatch q) (cells' := 0) (slots' := 0) rfl rfl (pc' := 27) rfl (fun r160 h163 q161 K162 => ?_)
    obtain ⟨ch164, rfl, H165, N166⟩ := q161
    show Run _ _ _ _ _ _ _ _ _ _ _ _ _ _ _ _ _ _ _ _ _ (mkF m 27 #[.val (.int p0), .val (.int p1), .val (.int p2), .val (.int p3), .val (.int p4), .val (.int (4 : Int32)), .unset, .unset] [(.int ch164), (.int ch157), (.int ch150), (.int ch143), (.int (4 : Int32))])
    refine GoKit.callStatic G at_27 (wi hw 6 rfl) (wi hw 7 rfl) (wi hw 3 rfl) (wi hw 8 rfl) (by decide) (owc := []) (W := 0) (argsL := [(.int (4 : Int32)), (.int ch143), (.int ch150), (.int ch157), (.int ch164)]) (rest := []) (con_make4 l hw H144 H151 H158 H165 HC HU) rfl (lenOf pd_20 rfl) rfl (by decide) (Nat.le_of_eq rfl) (by decide) (by decide) (by decide) (fun _ q => nomatch q) (cells' := 4) (slots' := 20) rfl rfl (pc' := 30) rfl (fun r167 h170 q168 K169 => ?_)
    obtain ⟨a171, rfl, S172⟩ := q168
    show Run _ _ _ _ _ _ _ _ _ _ _ _ _ _ _ _ _ _ _ _ _ (mkF m 30 #[.val (.int p0), .val (.int p1), .val (.int p2), .val (.int p3), .val (.int p4), .val (.int (4 : Int32)), .unset, .unset] [(.ref a171)])
    refine GoKit.astore G at_30 rfl (Ls' := #[.val (.int p0), .val (.int p1), .val (.int p2), .val (.int p3), .val (.int p4), .val (.int (4 : Int32)), .val (.ref a171), .unset]) rfl (pc' := 32) rfl ?_
    refine GoKit.aload G at_32 rfl rfl (pc' := 34) rfl ?_
    refine GoKit.callStaticP G at_34 (wi hw 31 rfl) (wi hw 32 rfl) (wi hw 33 rfl) (wi hw 34 rfl) (by decide) (W := 0) (argsL := [(.ref a171)]) (rest := []) (con_chk l hw S172 (by simp only [List.mem_cons, List.not_mem_nil, or_false, not_or]; exact ⟨fun q => N145 q.symm, fun q => N152 q.symm, fun q => N159 q.symm, fun q => N166 q.symm⟩) HC HF HU) rfl (lenOf pd_21 rfl) rfl (by decide) (Nat.le_of_eq rfl) (by decide) (by decide) (by decide) (cells' := 4) (slots' := 20) rfl rfl (pc' := 37) rfl ?_
    show Run _ _ _ _ _ _ _ _ _ _ _ _ _ _ _ _ _ _ _ _ _ (mkF m 37 #[.val (.int p0), .val (.int p1), .val (.int p2), .val (.int p3), .val (.int p4), .val (.int (4 : Int32)), .val (.ref a171), .unset] [(.ref a171)])
    refine GoKit.astore G at_37 rfl (Ls' := #[.val (.int p0), .val (.int p1), .val (.int p2), .val (.int p3), .val (.int p4), .val (.int (4 : Int32)), .val (.ref a171), .val (.ref a171)]) rfl (pc' := 39) rfl ?_
    refine GoKit.aload G at_39 rfl rfl (pc' := 41) rfl ?_
    refine GoKit.ifnull_f G at_41 (pc' := 44) rfl ?_
    refine GoKit.aload G at_44 rfl rfl (pc' := 46) rfl ?_
    refine GoKit.callVirtualP G at_46 (wi hw 75 rfl) (wi hw 52 rfl) (wi hw 54 rfl) (wi hw 53 rfl) (wi hw 11 rfl) (wi hw 55 rfl) (by decide) (str_exa S172) (W := 0) (argsL := []) (rest := []) (con_lenS l hw S172 HC) rfl (lenOf pd_13 rfl) rfl (by decide) (Nat.le_of_eq rfl) (by decide) (by decide) (by decide) (cells' := 4) (slots' := 20) rfl rfl (pc' := 49) rfl ?_
    show Run _ _ _ _ _ _ _ _ _ _ _ _ _ _ _ _ _ _ _ _ _ (mkF m 49 #[.val (.int p0), .val (.int p1), .val (.int p2), .val (.int p3), .val (.int p4), .val (.int (4 : Int32)), .val (.ref a171), .val (.ref a171)] [(.int (4 : Int32))])
    refine GoKit.aload G at_49 rfl rfl (pc' := 51) rfl ?_
    refine GoKit.callVirtualP G at_51 (wi hw 75 rfl) (wi hw 52 rfl) (wi hw 54 rfl) (wi hw 53 rfl) (wi hw 11 rfl) (wi hw 55 rfl) (by decide) (str_exa S172) (W := 1) (argsL := []) (rest := [(.int (4 : Int32))]) (con_lenS l hw S172 HC) rfl (lenOf pd_13 rfl) rfl (by decide) (Nat.le_of_eq rfl) (by decide) (by decide) (by decide) (cells' := 4) (slots' := 20) rfl rfl (pc' := 54) rfl ?_
    show Run _ _ _ _ _ _ _ _ _ _ _ _ _ _ _ _ _ _ _ _ _ (mkF m 54 #[.val (.int p0), .val (.int p1), .val (.int p2), .val (.int p3), .val (.int p4), .val (.int (4 : Int32)), .val (.ref a171), .val (.ref a171)] [(.int (4 : Int32)), (.int (4 : Int32))])
    refine GoKit.icmp_ne_f G at_54 (by decide) (pc' := 57) rfl ?_
    refine GoKit.aload G at_57 rfl rfl (pc' := 59) rfl ?_
    refine GoKit.aload G at_59 rfl rfl (pc' := 61) rfl ?_
    refine GoKit.callVirtualP G at_61 (wi hw 76 rfl) (wi hw 77 rfl) (wi hw 79 rfl) (wi hw 78 rfl) (wi hw 11 rfl) (wi hw 80 rfl) (by decide) (str_exa S172) (W := 0) (argsL := [(.ref a171)]) (rest := []) (con_eqSelf l hw) rfl (lenOf pd_22 rfl) rfl (by decide) (Nat.le_of_eq rfl) (by decide) (by decide) (by decide) (cells' := 4) (slots' := 20) rfl rfl (pc' := 64) rfl ?_
    show Run _ _ _ _ _ _ _ _ _ _ _ _ _ _ _ _ _ _ _ _ _ (mkF m 64 #[.val (.int p0), .val (.int p1), .val (.int p2), .val (.int p3), .val (.int p4), .val (.int (4 : Int32)), .val (.ref a171), .val (.ref a171)] [(.int 1)])
    refine GoKit.if_eq_f G at_64 (by decide) (pc' := 67) rfl ?_
    refine GoKit.iconst G (1 : Int32) at_67 rfl (pc' := 68) rfl ?_
    refine GoKit.goto G at_68 (by decide) (pc' := 72) rfl ?_
    refine GoKit.retNar G at_72 (t := .boolean) rfl (by simp) (by decide) (by decide) ?_
    exact rfl
set_option maxRecDepth 65536 in
set_option maxHeartbeats 40000000 in
theorem comes_1 {Post : Tables → Env → Array Value → State → Outcome → State → Prop} (hpost : ∀ tb e args s v u, (limb_1_1.after args s (.returned v) u = true ∧ limb_1_2.after args s (.returned v) u = true ∧ True) → ReturnedEndW s (.returned v) u (Jvm.fieldLocs frame_1_writes args s ++ Jvm.arrayLocs frame_1_arrays args s ++ Jvm.staticLocs frame_1_statics s) 24 1152 → Post tb e args s (.returned v) u) :
    ArmFor flags0 classFile x code maxLocals ret World_1 tables_1 room_1 Calls_1 rest_1 Pre_1 Post := by
  intro l hfl _ _ p e ha hc hk s m args below hf hA hF happ hP
  obtain ⟨hcalls, hrest, hpre⟩ := hP
  obtain ⟨-, -, -, hnamed, -, -, -, hat⟩ := (Spec.applies_iff hf).mp happ
  obtain ⟨hg, hn⟩ := and_e (Cond.before_iff.mp (show (Jvm.Cond.and given_1 narrow_1).before args s = true from hpre))
  obtain ⟨gc, g0⟩ := and_e hg
  obtain ⟨t0, g1⟩ := and_e g0
  obtain ⟨t1, g2⟩ := and_e g1
  obtain ⟨t2, g3⟩ := and_e g2
  obtain ⟨t3, g4⟩ := and_e g3
  have t4 := g4
  obtain ⟨w0, w1, w2, w3, w4, rfl⟩ : ∃ w0 w1 w2 w3 w4 : Value, args = #[w0, w1, w2, w3, w4] := by
    have hs : args.size = 5 := by simpa [Cond.value, given_1] using gc
    obtain ⟨L⟩ := args
    match L, hs with
    | [w0, w1, w2, w3, w4], _ => exact ⟨w0, w1, w2, w3, w4, rfl⟩
  have hw := fun d (hd : d ∈ tables_1) => atoms_spec (ws := Jvm.Cond.code x code maxLocals ret :: tables_1) hat d (List.mem_cons_of_mem _ hd)
  have hfit : Fit s := fun {y c} hc i hi => by
    obtain ⟨ha, rfl⟩ := Array.getElem?_eq_some_iff.mp hc
    have q := List.all_eq_true.mp ((Array.all_eq_true_iff_forall_mem.mp hF) _ (Array.getElem_mem ha)) i (List.mem_range.mpr hi)
    simpa [Array.getElem?_eq_getElem hi] using q
  obtain ⟨hsets, hown0⟩ := atoms_of _ (rest_1_c_eq ▸ (show rest_1_c.before _ s = true from hrest))
  obtain ⟨i0, ei0⟩ := is_v t0
  obtain rfl : w0 = (.int i0) := Option.some.inj ei0
  obtain ⟨i1, ei1⟩ := is_v t1
  obtain rfl : w1 = (.int i1) := Option.some.inj ei1
  obtain ⟨i2, ei2⟩ := is_v t2
  obtain rfl : w2 = (.int i2) := Option.some.inj ei2
  obtain ⟨i3, ei3⟩ := is_v t3
  obtain rfl : w3 = (.int i3) := Option.some.inj ei3
  obtain ⟨i4, ei4⟩ := is_v t4
  obtain rfl : w4 = (.int i4) := Option.some.inj ei4
  have HC : Cst s := by
    obtain ⟨cz, ecz⟩ := is_v (Cond.before_iff.mp (hsets _ (List.mem_of_getElem? (i := 1) rfl)))
    refine ⟨cz, Sta.start ecz (Or.inl (hsets _ (List.mem_of_getElem? (i := 0) rfl))), fun q => ?_⟩
    have := Cond.before_iff.mp (hsets _ (List.mem_of_getElem? (i := 2) rfl))
    subst q
    simp [Cond.value, ecz, Term.int_eval] at this
  have HF : Frm s := by
    have q := Cond.before_iff.mp (hsets _ (List.mem_of_getElem? (i := 8) rfl))
    cases ev : (Term.static "jdk/internal/util/Preconditions" "SIOOBE_FORMATTER" "Ljava/util/function/BiFunction;").eval #[.int i0, .int i1, .int i2, .int i3, .int i4] s none [] s with
    | none => simp [Cond.value, ev] at q
    | some fv => exact ⟨fv, Sta.start ev (Or.inl (hsets _ (List.mem_of_getElem? (i := 7) rfl))), by cases fv <;> first | rfl | (simp [Cond.value, ev] at q)⟩
  have HU : Ust s := ⟨Sta.start (eqv_i (Term.int_eval 1) (Cond.before_iff.mp (hsets _ (List.mem_of_getElem? (i := 12) rfl)))) (Or.inl (hsets _ (List.mem_of_getElem? (i := 11) rfl))), Sta.start (eqv_i (Term.int_eval 0) (Cond.before_iff.mp (hsets _ (List.mem_of_getElem? (i := 15) rfl)))) (Or.inl (hsets _ (List.mem_of_getElem? (i := 14) rfl))), Sta.start (eqv_i (Term.int_eval 8) (Cond.before_iff.mp (hsets _ (List.mem_of_getElem? (i := 18) rfl)))) (Or.inl (hsets _ (List.mem_of_getElem? (i := 17) rfl)))⟩
  have hCH : CHv s ELs s.vm s.heap := CHv.start (hELs hw) (fun q hq => hcalls.1 q hq) (hsets _ (List.mem_of_getElem? (i := 2) rfl)) (wi hw 24 rfl) (wi hw 10 rfl)
  obtain ⟨n, o, h1, h2, h3, v, L, rfl, rfl, N, -, -, hE, hWd, -⟩ := (con_law l hw i0 i1 i2 i3 i4 HC HF HU) p e ha hc hk s m _ below hf ((Spec.applies_iff_loose hf).mp happ).1 ⟨rfl, State.Warmed39.refl s, rfl, Old.start s, hCH, all0⟩ trivial
  exact ⟨n, _, h1, h2, h3, hpost _ _ _ _ _ _ ⟨Cond.after_iff.mpr rfl, Cond.after_iff.mpr (eq_i res_at (Term.int_eval (1)) rfl), trivial⟩ ⟨hE.1, hE.2.1, hE.2.2.1, (hE.2.2.2.sift fun y hy => Or.inr (N y hy)).mono (by decide) (by decide)⟩⟩
theorem main_1_1 : Claimed_1_1 := comes_1 fun _ _ _ _ _ _ h hF => ⟨h.1, hF⟩
theorem main_1_2 : Claimed_1_2 := comes_1 fun _ _ _ _ _ _ h hF => ⟨h.2.1, hF⟩
end Jvm.Pilot.@@N@@
namespace Jvm.Pilot.@@N@@
open Jvm Jvm.ClassFile Sem Op Lib Jvm.Free Jvm.Stand Jvm.Pilot.@@N@@.Jvm.D
/-! MADE BY PROGRAM (witnessworld.py) out of the Statement's table words and the real class files: 21 classes; the members and pool entries that the words name. The judged class is class 1, her method 3. -/
namespace start1
open Jvm.ClassFile
def u (s : String) : CpInfo := .utf8 (stringToUtf16 s)
/-- a pool by its gaps: so many unusable entries, then the entry; so many at the end -/
def gap : Nat → List CpInfo → List CpInfo
  | 0, r => r
  | n + 1, r => .unusable :: gap n r
def poolList (es : List (Nat × CpInfo)) (last : Nat) : List CpInfo := es.foldr (fun e r => gap e.1 (e.2 :: r)) (gap last [])
def pool (es : List (Nat × CpInfo)) (last : Nat) : Array CpInfo := ⟨poolList es last⟩
def fileOf (pool : Array CpInfo) (this : Nat) (attrs : Array Attribute := #[]) (ms : Array MethodInfo := #[]) (fl : Nat := 33) (sup : Nat := 0) (ifs : Array Nat := #[]) (fds : Array FieldInfo := #[]) : ClassFile where
  minorVersion := 0
  majorVersion := 65
  constantPool := pool
  accessFlags := fl
  thisClass := this
  superClass := sup
  interfaces := ifs
  fields := fds
  methods := ms
  attributes := attrs
def plain (name : String) (sup : Option ClassId) : Class where
  name := name
  kind := .ordinary
  loader := none
  accessFlags := 33
  super := sup
  interfaces := #[]
  cf := none
  fields := #[]
  methods := #[]
  instanceTypes := #[]
  staticTypes := #[]
  resolved := #[]
  callSites := []
  init := .initialized
  statics := none
  mirror := none

def pool0 : Array CpInfo := pool [(5, u "<init>"), (0, u "()V"), (1, .class_ 10), (1, u "java/lang/Object")] 113

def k0c0 : Code := { maxStack := 0, maxLocals := 1, code := object_method_1_code, exceptionTable := #[], attributes := #[] }
def k0m0 : Method := { name := "<init>", desc := "()V", sig := { parameters := [], returnType := none }, accessFlags := 1, code := some k0c0 }
/-- java/lang/Object -/
def k0 : Class := { plain "java/lang/Object" none with
  accessFlags := 33
  interfaces := #[]
  cf := some (fileOf pool0 8 #[] #[{ accessFlags := 1, nameIndex := 5, descriptorIndex := 6, attributes := #[] }] 33 0 #[] #[])
  fields := #[]
  methods := #[k0m0]
  instanceTypes := #[]
  staticTypes := #[]
  resolved := Array.replicate 124 none
  statics := none }

def pool1 : Array CpInfo := pool [(2, .class_ 4), (1, u "java/lang/Object"), (0, u "<init>"), (0, u "()V"), (0, .integer 65535), (0, .class_ 9), (0, u "java/lang/String"), (0, .methodref 8 11), (0, .nameAndType 5 12), (0, u "([C)V"), (0, .integer 2147483647), (0, .methodref 15 16), (0, .class_ 17), (0, .nameAndType 18 19), (0, u "com/example/realmwarden/realmwarden/password/BindPasswordFileCheckedPinLaw"), (0, u "ch"), (0, u "(I)C"), (0, .methodref 15 21), (0, .nameAndType 22 23), (0, u "draw"), (0, u "(ICCCC)Ljava/lang/String;"), (0, .methodref 25 26), (0, .class_ 27), (0, .nameAndType 28 29), (0, u "com/example/realmwarden/realmwarden/password/BindPasswordFile"), (0, u "checked"), (0, u "(Ljava/lang/String;)Ljava/lang/String;"), (0, .methodref 8 31), (0, .nameAndType 32 33), (0, u "length"), (0, u "()I"), (0, .methodref 8 35), (0, .nameAndType 36 37), (0, u "equals"), (0, u "(Ljava/lang/Object;)Z"), (3, u "law"), (0, u "(IIIII)Z")] 2

def k1m0 : Method := { name := "<init>", desc := "()V", sig := { parameters := [], returnType := none }, accessFlags := 2, code := none }
def k1c1 : Code := { maxStack := 2, maxLocals := 2, code := method_2_code, exceptionTable := #[], attributes := #[] }
def k1m1 : Method := { name := "ch", desc := "(I)C", sig := { parameters := [.int], returnType := some .char }, accessFlags := 10, code := some k1c1 }
def k1c2 : Code := { maxStack := 6, maxLocals := 5, code := method_3_code, exceptionTable := #[], attributes := #[] }
def k1m2 : Method := { name := "draw", desc := "(ICCCC)Ljava/lang/String;", sig := { parameters := [.int, .char, .char, .char, .char], returnType := some (.object "java/lang/String") }, accessFlags := 10, code := some k1c2 }
def k1c3 : Code := { maxStack := 5, maxLocals := 8, code := code, exceptionTable := #[], attributes := #[] }
def k1m3 : Method := { name := "law", desc := "(IIIII)Z", sig := { parameters := [.int, .int, .int, .int, .int], returnType := some .boolean }, accessFlags := 9, code := some k1c3 }
/-- com/example/realmwarden/realmwarden/password/BindPasswordFileCheckedPinLaw -/
def k1 : Class := { plain "com/example/realmwarden/realmwarden/password/BindPasswordFileCheckedPinLaw" (some 0) with
  accessFlags := 49
  interfaces := #[]
  cf := some (fileOf pool1 15 #[] #[{ accessFlags := 2, nameIndex := 5, descriptorIndex := 6, attributes := #[] }, { accessFlags := 10, nameIndex := 18, descriptorIndex := 19, attributes := #[] }, { accessFlags := 10, nameIndex := 22, descriptorIndex := 23, attributes := #[] }, { accessFlags := 9, nameIndex := 41, descriptorIndex := 42, attributes := #[] }] 49 2 #[] #[])
  fields := #[]
  methods := #[k1m0, k1m1, k1m2, k1m3]
  instanceTypes := #[]
  staticTypes := #[]
  resolved := Array.replicate 45 none
  statics := none }

def pool2 : Array CpInfo := pool [(1, .class_ 2), (0, u "java/io/Serializable"), (0, .class_ 4), (0, u "java/lang/Object")] 2

/-- java/io/Serializable -/
def k2 : Class := { plain "java/io/Serializable" (some 0) with
  accessFlags := 1537
  interfaces := #[]
  cf := some (fileOf pool2 1 #[] #[] 1537 3 #[] #[])
  fields := #[]
  methods := #[]
  instanceTypes := #[]
  staticTypes := #[]
  resolved := Array.replicate 7 none
  statics := none }

def pool3 : Array CpInfo := pool [(1, .class_ 2), (0, u "java/lang/Comparable"), (0, .class_ 4), (0, u "java/lang/Object")] 7

/-- java/lang/Comparable -/
def k3 : Class := { plain "java/lang/Comparable" (some 0) with
  accessFlags := 1537
  interfaces := #[]
  cf := some (fileOf pool3 1 #[] #[] 1537 3 #[] #[])
  fields := #[]
  methods := #[]
  instanceTypes := #[]
  staticTypes := #[]
  resolved := Array.replicate 12 none
  statics := none }

def pool4 : Array CpInfo := pool [(2, .class_ 4), (1, u "java/lang/CharSequence"), (42, .class_ 48), (0, u "java/lang/CharSequence$1CodePointIterator"), (10, .class_ 60), (0, u "java/lang/CharSequence$1CharIterator"), (5, .class_ 67), (0, u "java/lang/Object")] 63

/-- java/lang/CharSequence -/
def k4 : Class := { plain "java/lang/CharSequence" (some 0) with
  accessFlags := 1537
  interfaces := #[]
  cf := some (fileOf pool4 2 #[.nestMembers #[47, 59]] #[] 1537 66 #[] #[])
  fields := #[]
  methods := #[]
  instanceTypes := #[]
  staticTypes := #[]
  resolved := Array.replicate 131 none
  statics := none }

def pool5 : Array CpInfo := pool [(1, .class_ 2), (0, u "java/lang/constant/Constable"), (0, .class_ 4), (0, u "java/lang/Object")] 6

/-- java/lang/constant/Constable -/
def k5 : Class := { plain "java/lang/constant/Constable" (some 0) with
  accessFlags := 1537
  interfaces := #[]
  cf := some (fileOf pool5 1 #[] #[] 1537 3 #[] #[])
  fields := #[]
  methods := #[]
  instanceTypes := #[]
  staticTypes := #[]
  resolved := Array.replicate 11 none
  statics := none }

def pool6 : Array CpInfo := pool [(1, .class_ 2), (0, u "java/lang/constant/ConstantDesc"), (0, .class_ 4), (0, u "java/lang/Object")] 32

/-- java/lang/constant/ConstantDesc -/
def k6 : Class := { plain "java/lang/constant/ConstantDesc" (some 0) with
  accessFlags := 1537
  interfaces := #[]
  cf := some (fileOf pool6 1 #[] #[] 1537 3 #[] #[])
  fields := #[]
  methods := #[]
  instanceTypes := #[]
  staticTypes := #[]
  resolved := Array.replicate 37 none
  statics := none }

def pool7 : Array CpInfo := pool [(1, .methodref 2 3), (0, .class_ 4), (0, .nameAndType 5 6), (0, u "java/lang/Object"), (0, u "<init>"), (0, u "()V"), (0, .string 8), (0, u ""), (0, .fieldref 10 11), (0, .class_ 12), (0, .nameAndType 13 14), (0, u "java/lang/String"), (0, u "value"), (0, u "[B"), (0, .fieldref 10 16), (0, .nameAndType 17 18), (0, u "coder"), (0, u "B"), (2, u "hash"), (0, u "I"), (2, u "hashIsZero"), (0, u "Z"), (0, .methodref 10 28), (0, .nameAndType 5 29), (0, u "([CIILjava/lang/Void;)V"), (8, .fieldref 10 39), (0, .nameAndType 40 26), (0, u "COMPACT_STRINGS"), (1, .class_ 44), (1, u "java/lang/StringUTF16"), (0, u "compress"), (1, .methodref 42 48), (0, .nameAndType 49 50), (0, u "coderFromArrayLen"), (0, u "([BI)B"), (56, .class_ 109), (1, u "java/lang/StringLatin1"), (32, u "()Z"), (34, .methodref 42 178), (0, .nameAndType 45 179), (0, u "([CII)[B"), (154, u "()I"), (0, .methodref 10 336), (0, .nameAndType 17 337), (0, u "()B"), (154, .methodref 10 493), (0, .nameAndType 494 142), (0, u "isLatin1"), (10, .methodref 10 506), (0, .nameAndType 507 334), (0, u "length"), (5, u "checkFromToIndex"), (9, u "checkBoundsBeginEnd"), (0, u "(III)V"), (18, u "equals"), (29, u "(Ljava/lang/Object;)Z"), (1, .class_ 576), (0, u "java/lang/CharSequence"), (22, u "CASE_INSENSITIVE_ORDER"), (0, u "Ljava/util/Comparator;"), (32, .methodref 10 634), (0, .nameAndType 635 636), (0, u "indexOf"), (0, u "(II)I"), (0, .methodref 107 638), (0, .nameAndType 635 639), (0, u "([BIII)I"), (0, .methodref 42 638), (124, u "(I)I"), (244, u "([C)V"), (42, .fieldref 1054 1055), (0, .class_ 1056), (0, .nameAndType 1057 1058), (0, u "jdk/internal/util/Preconditions"), (0, u "SIOOBE_FORMATTER"), (0, u "Ljava/util/function/BiFunction;"), (3, .methodref 1054 1063), (0, .nameAndType 513 1064), (0, u "(IIILjava/util/function/BiFunction;)I"), (36, u "serialPersistentFields"), (0, u "[Ljava/io/ObjectStreamField;"), (0, .class_ 1104), (0, u "java/lang/String$CaseInsensitiveComparator"), (1, .class_ 1107), (0, u "java/io/Serializable"), (0, .class_ 1109), (0, u "java/lang/Comparable"), (0, .class_ 1111), (0, u "java/lang/constant/Constable"), (0, .class_ 1113), (0, u "java/lang/constant/ConstantDesc"), (2, u "serialVersionUID"), (0, u "J"), (3, u "REPL"), (0, u "C"), (2, u "LATIN1"), (1, u "UTF16")] 323

def k7m0 : Method := { name := "<init>", desc := "()V", sig := { parameters := [], returnType := none }, accessFlags := 1, code := none }
def k7c1 : Code := { maxStack := 5, maxLocals := 2, code := jdk_42_method_3_code, exceptionTable := #[], attributes := #[] }
def k7m1 : Method := { name := "<init>", desc := "([C)V", sig := { parameters := [(.array .char)], returnType := none }, accessFlags := 1, code := some k7c1 }
def k7c2 : Code := { maxStack := 2, maxLocals := 1, code := jdk_42_method_54_code, exceptionTable := #[], attributes := #[] }
def k7m2 : Method := { name := "length", desc := "()I", sig := { parameters := [], returnType := some .int }, accessFlags := 1, code := some k7c2 }
def k7c3 : Code := { maxStack := 2, maxLocals := 3, code := jdk_42_method_66_code, exceptionTable := #[], attributes := #[] }
def k7m3 : Method := { name := "equals", desc := "(Ljava/lang/Object;)Z", sig := { parameters := [(.object "java/lang/Object")], returnType := some .boolean }, accessFlags := 1, code := some k7c3 }
def k7c4 : Code := { maxStack := 3, maxLocals := 2, code := jdk_42_method_79_code, exceptionTable := #[], attributes := #[] }
def k7m4 : Method := { name := "indexOf", desc := "(I)I", sig := { parameters := [.int], returnType := some .int }, accessFlags := 1, code := some k7c4 }
def k7c5 : Code := { maxStack := 4, maxLocals := 3, code := jdk_42_method_80_code, exceptionTable := #[], attributes := #[] }
def k7m5 : Method := { name := "indexOf", desc := "(II)I", sig := { parameters := [.int, .int], returnType := some .int }, accessFlags := 1, code := some k7c5 }
def k7c6 : Code := { maxStack := 4, maxLocals := 6, code := jdk_42_method_149_code, exceptionTable := #[], attributes := #[] }
def k7m6 : Method := { name := "<init>", desc := "([CIILjava/lang/Void;)V", sig := { parameters := [(.array .char), .int, .int, (.object "java/lang/Void")], returnType := none }, accessFlags := 2, code := some k7c6 }
def k7c7 : Code := { maxStack := 1, maxLocals := 1, code := jdk_42_method_152_code, exceptionTable := #[], attributes := #[] }
def k7m7 : Method := { name := "coder", desc := "()B", sig := { parameters := [], returnType := some .byte }, accessFlags := 0, code := some k7c7 }
def k7c8 : Code := { maxStack := 1, maxLocals := 1, code := jdk_42_method_154_code, exceptionTable := #[], attributes := #[] }
def k7m8 : Method := { name := "isLatin1", desc := "()Z", sig := { parameters := [], returnType := some .boolean }, accessFlags := 0, code := some k7c8 }
def k7c9 : Code := { maxStack := 4, maxLocals := 3, code := jdk_42_method_158_code, exceptionTable := #[], attributes := #[] }
def k7m9 : Method := { name := "checkBoundsBeginEnd", desc := "(III)V", sig := { parameters := [.int, .int, .int], returnType := none }, accessFlags := 8, code := some k7c9 }
/-- java/lang/String -/
def k7 : Class := { plain "java/lang/String" (some 0) with
  accessFlags := 49
  interfaces := #[2, 3, 4, 5, 6]
  cf := some (fileOf pool7 10 #[.nestMembers #[1103]] #[{ accessFlags := 1, nameIndex := 5, descriptorIndex := 6, attributes := #[] }, { accessFlags := 1, nameIndex := 5, descriptorIndex := 1010, attributes := #[] }, { accessFlags := 1, nameIndex := 507, descriptorIndex := 334, attributes := #[] }, { accessFlags := 1, nameIndex := 543, descriptorIndex := 573, attributes := #[] }, { accessFlags := 1, nameIndex := 635, descriptorIndex := 765, attributes := #[] }, { accessFlags := 1, nameIndex := 635, descriptorIndex := 636, attributes := #[] }, { accessFlags := 2, nameIndex := 5, descriptorIndex := 29, attributes := #[] }, { accessFlags := 0, nameIndex := 17, descriptorIndex := 337, attributes := #[] }, { accessFlags := 0, nameIndex := 494, descriptorIndex := 142, attributes := #[] }, { accessFlags := 8, nameIndex := 523, descriptorIndex := 524, attributes := #[] }] 49 2 #[1106, 1108, 575, 1110, 1112] #[{ accessFlags := 18, nameIndex := 13, descriptorIndex := 14, attributes := #[] }, { accessFlags := 18, nameIndex := 17, descriptorIndex := 18, attributes := #[] }, { accessFlags := 2, nameIndex := 21, descriptorIndex := 22, attributes := #[] }, { accessFlags := 2, nameIndex := 25, descriptorIndex := 26, attributes := #[] }, { accessFlags := 26, nameIndex := 1116, descriptorIndex := 1117, attributes := #[] }, { accessFlags := 24, nameIndex := 40, descriptorIndex := 26, attributes := #[] }, { accessFlags := 26, nameIndex := 1101, descriptorIndex := 1102, attributes := #[] }, { accessFlags := 26, nameIndex := 1121, descriptorIndex := 1122, attributes := #[] }, { accessFlags := 25, nameIndex := 599, descriptorIndex := 600, attributes := #[] }, { accessFlags := 24, nameIndex := 1125, descriptorIndex := 18, attributes := #[] }, { accessFlags := 24, nameIndex := 1127, descriptorIndex := 18, attributes := #[] }])
  fields := #[{ name := "value", type := (.array .byte), accessFlags := 18, slot := 0, constantValue := 0 }, { name := "coder", type := .byte, accessFlags := 18, slot := 1, constantValue := 0 }, { name := "hash", type := .int, accessFlags := 2, slot := 2, constantValue := 0 }, { name := "hashIsZero", type := .boolean, accessFlags := 2, slot := 3, constantValue := 0 }, { name := "serialVersionUID", type := .long, accessFlags := 26, slot := 0, constantValue := 0 }, { name := "COMPACT_STRINGS", type := .boolean, accessFlags := 24, slot := 1, constantValue := 0 }, { name := "serialPersistentFields", type := (.array (.object "java/io/ObjectStreamField")), accessFlags := 26, slot := 2, constantValue := 0 }, { name := "REPL", type := .char, accessFlags := 26, slot := 3, constantValue := 0 }, { name := "CASE_INSENSITIVE_ORDER", type := (.object "java/util/Comparator"), accessFlags := 25, slot := 4, constantValue := 0 }, { name := "LATIN1", type := .byte, accessFlags := 24, slot := 5, constantValue := 0 }, { name := "UTF16", type := .byte, accessFlags := 24, slot := 6, constantValue := 0 }]
  methods := #[k7m0, k7m1, k7m2, k7m3, k7m4, k7m5, k7m6, k7m7, k7m8, k7m9]
  instanceTypes := #[(.array .byte), .byte, .int, .boolean]
  staticTypes := #[.long, .boolean, (.array (.object "java/io/ObjectStreamField")), .char, (.object "java/util/Comparator"), .byte, .byte]
  resolved := Array.replicate 1451 none
  statics := some 0 }

def pool8 : Array CpInfo := pool [(2, .class_ 4), (1, u "java/lang/Object"), (0, u "<init>"), (0, u "()V"), (0, .methodref 8 9), (0, .class_ 10), (0, .nameAndType 11 12), (0, u "java/lang/String"), (0, u "indexOf"), (0, u "(I)I"), (2, .class_ 16), (0, u "com/example/realmwarden/realmwarden/password/BindPasswordFile"), (60, u "(Ljava/lang/String;)Ljava/lang/String;"), (18, u "ONE_LINE"), (0, u "Ljava/lang/String;"), (3, u "checked")] 27

def k8m0 : Method := { name := "<init>", desc := "()V", sig := { parameters := [], returnType := none }, accessFlags := 2, code := none }
def k8c1 : Code := { maxStack := 3, maxLocals := 1, code := prog_12_method_2_code, exceptionTable := #[], attributes := #[] }
def k8m1 : Method := { name := "checked", desc := "(Ljava/lang/String;)Ljava/lang/String;", sig := { parameters := [(.object "java/lang/String")], returnType := some (.object "java/lang/String") }, accessFlags := 9, code := some k8c1 }
/-- com/example/realmwarden/realmwarden/password/BindPasswordFile -/
def k8 : Class := { plain "com/example/realmwarden/realmwarden/password/BindPasswordFile" (some 0) with
  accessFlags := 49
  interfaces := #[]
  cf := some (fileOf pool8 15 #[] #[{ accessFlags := 2, nameIndex := 5, descriptorIndex := 6, attributes := #[] }, { accessFlags := 9, nameIndex := 101, descriptorIndex := 77, attributes := #[] }] 49 2 #[] #[{ accessFlags := 26, nameIndex := 96, descriptorIndex := 97, attributes := #[] }])
  fields := #[{ name := "ONE_LINE", type := (.object "java/lang/String"), accessFlags := 26, slot := 0, constantValue := 0 }]
  methods := #[k8m0, k8m1]
  instanceTypes := #[]
  staticTypes := #[(.object "java/lang/String")]
  resolved := Array.replicate 129 none
  statics := none }

def pool9 : Array CpInfo := pool [(4, .class_ 6), (1, u "java/lang/Object"), (0, u "<init>"), (0, u "()V"), (5, .class_ 16), (1, u "java/lang/StringLatin1"), (21, .methodref 39 40), (0, .class_ 41), (0, .nameAndType 42 43), (0, u "java/lang/Math"), (0, u "min"), (0, u "(II)I"), (44, .methodref 14 89), (0, .nameAndType 90 91), (0, u "canEncode"), (0, u "(I)Z"), (0, .methodref 39 93), (0, .nameAndType 94 43), (0, u "max"), (0, .methodref 14 96), (0, .nameAndType 97 98), (0, u "indexOfChar"), (0, u "([BIII)I"), (2, u "indexOf"), (19, u "$assertionsDisabled"), (0, u "Z"), (98, .class_ 223), (1, u "java/lang/StringLatin1$LinesSpliterator"), (166, .class_ 391), (0, u "java/lang/StringLatin1$CharsSpliterator")] 3

def k9m0 : Method := { name := "<init>", desc := "()V", sig := { parameters := [], returnType := none }, accessFlags := 0, code := none }
def k9c1 : Code := { maxStack := 2, maxLocals := 1, code := jdk_43_method_4_code, exceptionTable := #[], attributes := #[] }
def k9m1 : Method := { name := "canEncode", desc := "(I)Z", sig := { parameters := [.int], returnType := some .boolean }, accessFlags := 9, code := some k9c1 }
def k9c2 : Code := { maxStack := 4, maxLocals := 4, code := jdk_43_method_22_code, exceptionTable := #[], attributes := #[] }
def k9m2 : Method := { name := "indexOf", desc := "([BIII)I", sig := { parameters := [(.array .byte), .int, .int, .int], returnType := some .int }, accessFlags := 9, code := some k9c2 }
def k9c3 : Code := { maxStack := 2, maxLocals := 6, code := jdk_43_method_23_code, exceptionTable := #[], attributes := #[] }
def k9m3 : Method := { name := "indexOfChar", desc := "([BIII)I", sig := { parameters := [(.array .byte), .int, .int, .int], returnType := some .int }, accessFlags := 10, code := some k9c3 }
/-- java/lang/StringLatin1 -/
def k9 : Class := { plain "java/lang/StringLatin1" (some 0) with
  accessFlags := 48
  interfaces := #[]
  cf := some (fileOf pool9 14 #[.nestMembers #[390, 221]] #[{ accessFlags := 0, nameIndex := 7, descriptorIndex := 8, attributes := #[] }, { accessFlags := 9, nameIndex := 90, descriptorIndex := 91, attributes := #[] }, { accessFlags := 9, nameIndex := 101, descriptorIndex := 98, attributes := #[] }, { accessFlags := 10, nameIndex := 97, descriptorIndex := 98, attributes := #[] }] 48 4 #[] #[{ accessFlags := 4120, nameIndex := 121, descriptorIndex := 122, attributes := #[] }])
  fields := #[{ name := "$assertionsDisabled", type := .boolean, accessFlags := 4120, slot := 0, constantValue := 0 }]
  methods := #[k9m0, k9m1, k9m2, k9m3]
  instanceTypes := #[]
  staticTypes := #[.boolean]
  resolved := Array.replicate 395 none
  statics := none }

def pool10 : Array CpInfo := pool [(1, .class_ 2), (0, u "java/lang/Math"), (1, .class_ 6), (1, u "java/lang/Object"), (0, u "<init>"), (0, u "()V"), (89, .class_ 100), (1, u "java/lang/Math$RandomNumberGeneratorHolder"), (71, u "negativeZeroFloatBits"), (0, u "J"), (2, u "negativeZeroDoubleBits"), (21, u "max"), (2, u "min"), (43, u "$assertionsDisabled"), (0, u "Z"), (88, u "(II)I"), (2, u "twoToTheDoubleScaleDown"), (0, u "D"), (4, u "twoToTheDoubleScaleUp"), (9, u "E"), (3, u "PI"), (2, u "TAU"), (2, u "DEGREES_TO_RADIANS"), (0, u "RADIANS_TO_DEGREES")] 94

def k10m0 : Method := { name := "<init>", desc := "()V", sig := { parameters := [], returnType := none }, accessFlags := 2, code := none }
def k10c1 : Code := { maxStack := 2, maxLocals := 2, code := jdk_29_method_65_code, exceptionTable := #[], attributes := #[] }
def k10m1 : Method := { name := "max", desc := "(II)I", sig := { parameters := [.int, .int], returnType := some .int }, accessFlags := 9, code := some k10c1 }
def k10c2 : Code := { maxStack := 2, maxLocals := 2, code := jdk_29_method_69_code, exceptionTable := #[], attributes := #[] }
def k10m2 : Method := { name := "min", desc := "(II)I", sig := { parameters := [.int, .int], returnType := some .int }, accessFlags := 9, code := some k10c2 }
/-- java/lang/Math -/
def k10 : Class := { plain "java/lang/Math" (some 0) with
  accessFlags := 49
  interfaces := #[]
  cf := some (fileOf pool10 1 #[.nestMembers #[98]] #[{ accessFlags := 2, nameIndex := 7, descriptorIndex := 8, attributes := #[] }, { accessFlags := 9, nameIndex := 198, descriptorIndex := 335, attributes := #[] }, { accessFlags := 9, nameIndex := 201, descriptorIndex := 335, attributes := #[] }] 49 4 #[] #[{ accessFlags := 25, nameIndex := 354, descriptorIndex := 339, attributes := #[] }, { accessFlags := 25, nameIndex := 358, descriptorIndex := 339, attributes := #[] }, { accessFlags := 25, nameIndex := 361, descriptorIndex := 339, attributes := #[] }, { accessFlags := 26, nameIndex := 364, descriptorIndex := 339, attributes := #[] }, { accessFlags := 26, nameIndex := 365, descriptorIndex := 339, attributes := #[] }, { accessFlags := 26, nameIndex := 172, descriptorIndex := 173, attributes := #[] }, { accessFlags := 26, nameIndex := 176, descriptorIndex := 173, attributes := #[] }, { accessFlags := 8, nameIndex := 344, descriptorIndex := 339, attributes := #[] }, { accessFlags := 8, nameIndex := 338, descriptorIndex := 339, attributes := #[] }, { accessFlags := 4120, nameIndex := 245, descriptorIndex := 246, attributes := #[] }])
  fields := #[{ name := "E", type := .double, accessFlags := 25, slot := 0, constantValue := 0 }, { name := "PI", type := .double, accessFlags := 25, slot := 1, constantValue := 0 }, { name := "TAU", type := .double, accessFlags := 25, slot := 2, constantValue := 0 }, { name := "DEGREES_TO_RADIANS", type := .double, accessFlags := 26, slot := 3, constantValue := 0 }, { name := "RADIANS_TO_DEGREES", type := .double, accessFlags := 26, slot := 4, constantValue := 0 }, { name := "negativeZeroFloatBits", type := .long, accessFlags := 26, slot := 5, constantValue := 0 }, { name := "negativeZeroDoubleBits", type := .long, accessFlags := 26, slot := 6, constantValue := 0 }, { name := "twoToTheDoubleScaleUp", type := .double, accessFlags := 8, slot := 7, constantValue := 0 }, { name := "twoToTheDoubleScaleDown", type := .double, accessFlags := 8, slot := 8, constantValue := 0 }, { name := "$assertionsDisabled", type := .boolean, accessFlags := 4120, slot := 9, constantValue := 0 }]
  methods := #[k10m0, k10m1, k10m2]
  instanceTypes := #[]
  staticTypes := #[.double, .double, .double, .double, .double, .long, .long, .double, .double, .boolean]
  resolved := Array.replicate 460 none
  statics := none }

def pool11 : Array CpInfo := pool [(3, .class_ 4), (0, u "java/lang/String"), (1, .class_ 8), (1, u "java/lang/Object"), (0, u "<init>"), (0, u "()V"), (0, .methodref 12 13), (0, .class_ 14), (0, .nameAndType 15 16), (0, u "java/lang/StringUTF16"), (0, u "newBytesLength"), (0, u "(I)I"), (3, .integer 1073741823), (23, .fieldref 12 45), (0, .nameAndType 46 47), (0, u "$assertionsDisabled"), (0, u "Z"), (0, .methodref 12 49), (0, .nameAndType 50 51), (0, u "length"), (0, u "([B)I"), (7, .fieldref 12 60), (0, .nameAndType 61 62), (0, u "HI_BYTE_SHIFT"), (0, u "I"), (0, .fieldref 12 64), (0, .nameAndType 65 62), (0, u "LO_BYTE_SHIFT"), (5, .methodref 12 72), (0, .nameAndType 73 74), (0, u "getChar"), (0, u "([BI)C"), (21, .methodref 12 97), (0, .nameAndType 98 99), (0, u "checkBoundsBeginEnd"), (0, u "(II[B)V"), (7, .methodref 12 108), (0, .nameAndType 109 110), (0, u "newBytesFor"), (0, u "(I)[B"), (0, .methodref 12 112), (0, .nameAndType 113 114), (0, u "putChar"), (0, u "([BII)V"), (0, .methodref 12 116), (0, .nameAndType 117 118), (0, u "compress"), (0, u "([CI[BII)I"), (0, .methodref 12 120), (0, .nameAndType 121 122), (0, u "toBytes"), (0, u "([CII)[B"), (60, .methodref 184 185), (0, .class_ 186), (0, .nameAndType 187 188), (0, u "java/lang/Math"), (0, u "min"), (0, u "(II)I"), (35, .methodref 184 225), (0, .nameAndType 226 188), (0, u "max"), (0, .integer 65536), (0, .methodref 12 229), (0, .nameAndType 230 231), (0, u "indexOfChar"), (0, u "([BIII)I"), (9, .methodref 3 242), (0, .nameAndType 98 243), (0, u "(III)V"), (0, .methodref 12 245), (0, .nameAndType 246 231), (0, u "indexOfCharUnsafe"), (14, u "coderFromArrayLen"), (0, u "([BI)B"), (5, u "indexOf"), (100, .class_ 371), (1, u "java/lang/StringUTF16$LinesSpliterator"), (58, u "MAX_LENGTH"), (196, .class_ 628), (0, u "java/lang/StringUTF16$CodePointsSpliterator"), (0, .class_ 630), (0, u "java/lang/StringUTF16$CharsSpliterator")] 4

def k11m0 : Method := { name := "<init>", desc := "()V", sig := { parameters := [], returnType := none }, accessFlags := 0, code := none }
def k11c1 : Code := { maxStack := 1, maxLocals := 1, code := jdk_52_method_2_code, exceptionTable := #[], attributes := #[] }
def k11m1 : Method := { name := "newBytesFor", desc := "(I)[B", sig := { parameters := [.int], returnType := some (.array .byte) }, accessFlags := 9, code := some k11c1 }
def k11c2 : Code := { maxStack := 4, maxLocals := 1, code := jdk_52_method_3_code, exceptionTable := #[], attributes := #[] }
def k11m2 : Method := { name := "newBytesLength", desc := "(I)I", sig := { parameters := [.int], returnType := some .int }, accessFlags := 9, code := some k11c2 }
def k11c3 : Code := { maxStack := 4, maxLocals := 3, code := jdk_52_method_4_code, exceptionTable := #[], attributes := #[] }
def k11m3 : Method := { name := "putChar", desc := "([BII)V", sig := { parameters := [(.array .byte), .int, .int], returnType := none }, accessFlags := 8, code := some k11c3 }
def k11c4 : Code := { maxStack := 3, maxLocals := 2, code := jdk_52_method_5_code, exceptionTable := #[], attributes := #[] }
def k11m4 : Method := { name := "getChar", desc := "([BI)C", sig := { parameters := [(.array .byte), .int], returnType := some .char }, accessFlags := 8, code := some k11c4 }
def k11c5 : Code := { maxStack := 2, maxLocals := 1, code := jdk_52_method_6_code, exceptionTable := #[], attributes := #[] }
def k11m5 : Method := { name := "length", desc := "([B)I", sig := { parameters := [(.array .byte)], returnType := some .int }, accessFlags := 9, code := some k11c5 }
def k11c6 : Code := { maxStack := 4, maxLocals := 5, code := jdk_52_method_14_code, exceptionTable := #[], attributes := #[] }
def k11m6 : Method := { name := "toBytes", desc := "([CII)[B", sig := { parameters := [(.array .char), .int, .int], returnType := some (.array .byte) }, accessFlags := 9, code := some k11c6 }
def k11c7 : Code := { maxStack := 2, maxLocals := 2, code := jdk_52_method_15_code, exceptionTable := #[], attributes := #[] }
def k11m7 : Method := { name := "coderFromArrayLen", desc := "([BI)B", sig := { parameters := [(.array .byte), .int], returnType := some .byte }, accessFlags := 8, code := some k11c7 }
def k11c8 : Code := { maxStack := 5, maxLocals := 6, code := jdk_52_method_16_code, exceptionTable := #[], attributes := #[] }
def k11m8 : Method := { name := "compress", desc := "([CII)[B", sig := { parameters := [(.array .char), .int, .int], returnType := some (.array .byte) }, accessFlags := 9, code := some k11c8 }
def k11c9 : Code := { maxStack := 3, maxLocals := 7, code := jdk_52_method_21_code, exceptionTable := #[], attributes := #[] }
def k11m9 : Method := { name := "compress", desc := "([CI[BII)I", sig := { parameters := [(.array .char), .int, (.array .byte), .int, .int], returnType := some .int }, accessFlags := 9, code := some k11c9 }
def k11c10 : Code := { maxStack := 4, maxLocals := 4, code := jdk_52_method_40_code, exceptionTable := #[], attributes := #[] }
def k11m10 : Method := { name := "indexOf", desc := "([BIII)I", sig := { parameters := [(.array .byte), .int, .int, .int], returnType := some .int }, accessFlags := 9, code := some k11c10 }
def k11c11 : Code := { maxStack := 4, maxLocals := 4, code := jdk_52_method_47_code, exceptionTable := #[], attributes := #[] }
def k11m11 : Method := { name := "indexOfChar", desc := "([BIII)I", sig := { parameters := [(.array .byte), .int, .int, .int], returnType := some .int }, accessFlags := 10, code := some k11c11 }
def k11c12 : Code := { maxStack := 2, maxLocals := 5, code := jdk_52_method_48_code, exceptionTable := #[], attributes := #[] }
def k11m12 : Method := { name := "indexOfCharUnsafe", desc := "([BIII)I", sig := { parameters := [(.array .byte), .int, .int, .int], returnType := some .int }, accessFlags := 10, code := some k11c12 }
def k11c13 : Code := { maxStack := 3, maxLocals := 3, code := jdk_52_method_93_code, exceptionTable := #[], attributes := #[] }
def k11m13 : Method := { name := "checkBoundsBeginEnd", desc := "(II[B)V", sig := { parameters := [.int, .int, (.array .byte)], returnType := none }, accessFlags := 9, code := some k11c13 }
/-- java/lang/StringUTF16 -/
def k11 : Class := { plain "java/lang/StringUTF16" (some 0) with
  accessFlags := 48
  interfaces := #[]
  cf := some (fileOf pool11 12 #[.nestMembers #[627, 629, 369]] #[{ accessFlags := 0, nameIndex := 9, descriptorIndex := 10, attributes := #[] }, { accessFlags := 9, nameIndex := 109, descriptorIndex := 110, attributes := #[] }, { accessFlags := 9, nameIndex := 15, descriptorIndex := 16, attributes := #[] }, { accessFlags := 8, nameIndex := 113, descriptorIndex := 114, attributes := #[] }, { accessFlags := 8, nameIndex := 73, descriptorIndex := 74, attributes := #[] }, { accessFlags := 9, nameIndex := 50, descriptorIndex := 51, attributes := #[] }, { accessFlags := 9, nameIndex := 121, descriptorIndex := 122, attributes := #[] }, { accessFlags := 8, nameIndex := 261, descriptorIndex := 262, attributes := #[] }, { accessFlags := 9, nameIndex := 117, descriptorIndex := 122, attributes := #[] }, { accessFlags := 9, nameIndex := 117, descriptorIndex := 118, attributes := #[] }, { accessFlags := 9, nameIndex := 268, descriptorIndex := 231, attributes := #[] }, { accessFlags := 10, nameIndex := 230, descriptorIndex := 231, attributes := #[] }, { accessFlags := 10, nameIndex := 246, descriptorIndex := 231, attributes := #[] }, { accessFlags := 9, nameIndex := 98, descriptorIndex := 99, attributes := #[] }] 48 6 #[] #[{ accessFlags := 26, nameIndex := 61, descriptorIndex := 62, attributes := #[] }, { accessFlags := 26, nameIndex := 65, descriptorIndex := 62, attributes := #[] }, { accessFlags := 24, nameIndex := 430, descriptorIndex := 62, attributes := #[] }, { accessFlags := 4120, nameIndex := 46, descriptorIndex := 47, attributes := #[] }])
  fields := #[{ name := "HI_BYTE_SHIFT", type := .int, accessFlags := 26, slot := 0, constantValue := 0 }, { name := "LO_BYTE_SHIFT", type := .int, accessFlags := 26, slot := 1, constantValue := 0 }, { name := "MAX_LENGTH", type := .int, accessFlags := 24, slot := 2, constantValue := 0 }, { name := "$assertionsDisabled", type := .boolean, accessFlags := 4120, slot := 3, constantValue := 0 }]
  methods := #[k11m0, k11m1, k11m2, k11m3, k11m4, k11m5, k11m6, k11m7, k11m8, k11m9, k11m10, k11m11, k11m12, k11m13]
  instanceTypes := #[]
  staticTypes := #[.int, .int, .int, .boolean]
  resolved := Array.replicate 635 none
  statics := some 1 }

def pool12 : Array CpInfo := pool [(2, .class_ 4), (1, u "java/lang/Object"), (0, u "<init>"), (0, u "()V"), (17, .class_ 26), (1, u "jdk/internal/util/Preconditions"), (20, u "checkFromToIndex"), (7, .class_ 56), (0, u "jdk/internal/util/Preconditions$4"), (57, .class_ 115), (0, u "jdk/internal/util/Preconditions$1"), (7, u "SIOOBE_FORMATTER"), (0, u "Ljava/util/function/BiFunction;"), (0, .class_ 126), (0, u "jdk/internal/util/Preconditions$2"), (3, u "AIOOBE_FORMATTER"), (0, .class_ 132), (0, u "jdk/internal/util/Preconditions$3"), (3, u "IOOBE_FORMATTER"), (46, u "(IIILjava/util/function/BiFunction;)I")] 10

def k12m0 : Method := { name := "<init>", desc := "()V", sig := { parameters := [], returnType := none }, accessFlags := 1, code := none }
def k12c1 : Code := { maxStack := 4, maxLocals := 4, code := jdk_41_method_12_code, exceptionTable := #[], attributes := #[] }
def k12m1 : Method := { name := "checkFromToIndex", desc := "(IIILjava/util/function/BiFunction;)I", sig := { parameters := [.int, .int, .int, (.object "java/util/function/BiFunction")], returnType := some .int }, accessFlags := 9, code := some k12c1 }
/-- jdk/internal/util/Preconditions -/
def k12 : Class := { plain "jdk/internal/util/Preconditions" (some 0) with
  accessFlags := 33
  interfaces := #[]
  cf := some (fileOf pool12 24 #[.nestMembers #[55, 131, 125, 114]] #[{ accessFlags := 1, nameIndex := 5, descriptorIndex := 6, attributes := #[] }, { accessFlags := 9, nameIndex := 47, descriptorIndex := 183, attributes := #[] }] 33 2 #[] #[{ accessFlags := 25, nameIndex := 123, descriptorIndex := 124, attributes := #[] }, { accessFlags := 25, nameIndex := 130, descriptorIndex := 124, attributes := #[] }, { accessFlags := 25, nameIndex := 136, descriptorIndex := 124, attributes := #[] }])
  fields := #[{ name := "SIOOBE_FORMATTER", type := (.object "java/util/function/BiFunction"), accessFlags := 25, slot := 0, constantValue := 0 }, { name := "AIOOBE_FORMATTER", type := (.object "java/util/function/BiFunction"), accessFlags := 25, slot := 1, constantValue := 0 }, { name := "IOOBE_FORMATTER", type := (.object "java/util/function/BiFunction"), accessFlags := 25, slot := 2, constantValue := 0 }]
  methods := #[k12m0, k12m1]
  instanceTypes := #[]
  staticTypes := #[(.object "java/util/function/BiFunction"), (.object "java/util/function/BiFunction"), (.object "java/util/function/BiFunction")]
  resolved := Array.replicate 194 none
  statics := some 2 }

def pool13 : Array CpInfo := pool [(9, u "<init>"), (6, .class_ 18), (1, u "java/lang/Object"), (0, u "()V"), (1, .class_ 23), (1, u "jdk/internal/util/ArraysSupport"), (0, u "LOG2_ARRAY_LONG_INDEX_SCALE"), (0, u "I"), (2, u "U"), (0, u "Ljdk/internal/misc/Unsafe;"), (8, u "BIG_ENDIAN"), (0, u "Z"), (8, u "LOG2_BYTE_BIT_SIZE"), (4, u "LOG2_ARRAY_INT_INDEX_SCALE"), (54, u "JLA"), (0, u "Ljdk/internal/access/JavaLangAccess;"), (11, u "LOG2_ARRAY_BOOLEAN_INDEX_SCALE"), (9, u "LOG2_ARRAY_BYTE_INDEX_SCALE"), (5, u "LOG2_ARRAY_CHAR_INDEX_SCALE"), (5, u "LOG2_ARRAY_SHORT_INDEX_SCALE"), (18, u "LOG2_ARRAY_FLOAT_INDEX_SCALE"), (24, u "LOG2_ARRAY_DOUBLE_INDEX_SCALE"), (89, u "T_BOOLEAN"), (2, u "T_CHAR"), (1, u "T_FLOAT"), (1, u "T_DOUBLE"), (1, u "T_BYTE"), (1, u "T_SHORT"), (1, u "T_INT"), (1, u "T_LONG"), (1, u "SOFT_MAX_ARRAY_LENGTH")] 83

def k13m0 : Method := { name := "<init>", desc := "()V", sig := { parameters := [], returnType := none }, accessFlags := 2, code := none }
/-- jdk/internal/util/ArraysSupport -/
def k13 : Class := { plain "jdk/internal/util/ArraysSupport" (some 0) with
  accessFlags := 33
  interfaces := #[]
  cf := some (fileOf pool13 21 #[] #[{ accessFlags := 2, nameIndex := 9, descriptorIndex := 19, attributes := #[] }] 33 16 #[] #[{ accessFlags := 24, nameIndex := 28, descriptorIndex := 29, attributes := #[] }, { accessFlags := 26, nameIndex := 38, descriptorIndex := 39, attributes := #[] }, { accessFlags := 25, nameIndex := 121, descriptorIndex := 25, attributes := #[] }, { accessFlags := 25, nameIndex := 131, descriptorIndex := 25, attributes := #[] }, { accessFlags := 25, nameIndex := 137, descriptorIndex := 25, attributes := #[] }, { accessFlags := 25, nameIndex := 143, descriptorIndex := 25, attributes := #[] }, { accessFlags := 25, nameIndex := 53, descriptorIndex := 25, attributes := #[] }, { accessFlags := 25, nameIndex := 24, descriptorIndex := 25, attributes := #[] }, { accessFlags := 25, nameIndex := 162, descriptorIndex := 25, attributes := #[] }, { accessFlags := 25, nameIndex := 187, descriptorIndex := 25, attributes := #[] }, { accessFlags := 26, nameIndex := 48, descriptorIndex := 25, attributes := #[] }, { accessFlags := 25, nameIndex := 277, descriptorIndex := 25, attributes := #[] }, { accessFlags := 25, nameIndex := 280, descriptorIndex := 25, attributes := #[] }, { accessFlags := 25, nameIndex := 282, descriptorIndex := 25, attributes := #[] }, { accessFlags := 25, nameIndex := 284, descriptorIndex := 25, attributes := #[] }, { accessFlags := 25, nameIndex := 286, descriptorIndex := 25, attributes := #[] }, { accessFlags := 25, nameIndex := 288, descriptorIndex := 25, attributes := #[] }, { accessFlags := 25, nameIndex := 290, descriptorIndex := 25, attributes := #[] }, { accessFlags := 25, nameIndex := 292, descriptorIndex := 25, attributes := #[] }, { accessFlags := 26, nameIndex := 108, descriptorIndex := 109, attributes := #[] }, { accessFlags := 25, nameIndex := 294, descriptorIndex := 25, attributes := #[] }])
  fields := #[{ name := "U", type := (.object "jdk/internal/misc/Unsafe"), accessFlags := 24, slot := 0, constantValue := 0 }, { name := "BIG_ENDIAN", type := .boolean, accessFlags := 26, slot := 1, constantValue := 0 }, { name := "LOG2_ARRAY_BOOLEAN_INDEX_SCALE", type := .int, accessFlags := 25, slot := 2, constantValue := 0 }, { name := "LOG2_ARRAY_BYTE_INDEX_SCALE", type := .int, accessFlags := 25, slot := 3, constantValue := 0 }, { name := "LOG2_ARRAY_CHAR_INDEX_SCALE", type := .int, accessFlags := 25, slot := 4, constantValue := 0 }, { name := "LOG2_ARRAY_SHORT_INDEX_SCALE", type := .int, accessFlags := 25, slot := 5, constantValue := 0 }, { name := "LOG2_ARRAY_INT_INDEX_SCALE", type := .int, accessFlags := 25, slot := 6, constantValue := 0 }, { name := "LOG2_ARRAY_LONG_INDEX_SCALE", type := .int, accessFlags := 25, slot := 7, constantValue := 0 }, { name := "LOG2_ARRAY_FLOAT_INDEX_SCALE", type := .int, accessFlags := 25, slot := 8, constantValue := 0 }, { name := "LOG2_ARRAY_DOUBLE_INDEX_SCALE", type := .int, accessFlags := 25, slot := 9, constantValue := 0 }, { name := "LOG2_BYTE_BIT_SIZE", type := .int, accessFlags := 26, slot := 10, constantValue := 0 }, { name := "T_BOOLEAN", type := .int, accessFlags := 25, slot := 11, constantValue := 0 }, { name := "T_CHAR", type := .int, accessFlags := 25, slot := 12, constantValue := 0 }, { name := "T_FLOAT", type := .int, accessFlags := 25, slot := 13, constantValue := 0 }, { name := "T_DOUBLE", type := .int, accessFlags := 25, slot := 14, constantValue := 0 }, { name := "T_BYTE", type := .int, accessFlags := 25, slot := 15, constantValue := 0 }, { name := "T_SHORT", type := .int, accessFlags := 25, slot := 16, constantValue := 0 }, { name := "T_INT", type := .int, accessFlags := 25, slot := 17, constantValue := 0 }, { name := "T_LONG", type := .int, accessFlags := 25, slot := 18, constantValue := 0 }, { name := "JLA", type := (.object "jdk/internal/access/JavaLangAccess"), accessFlags := 26, slot := 19, constantValue := 0 }, { name := "SOFT_MAX_ARRAY_LENGTH", type := .int, accessFlags := 25, slot := 20, constantValue := 0 }]
  methods := #[k13m0]
  instanceTypes := #[]
  staticTypes := #[(.object "jdk/internal/misc/Unsafe"), .boolean, .int, .int, .int, .int, .int, .int, .int, .int, .int, .int, .int, .int, .int, .int, .int, .int, .int, (.object "jdk/internal/access/JavaLangAccess"), .int]
  resolved := Array.replicate 378 none
  statics := none }

def pool14 : Array CpInfo := pool [(1, u "java/lang/Cloneable"), (0, .class_ 1), (0, u "java/lang/Object"), (0, .class_ 3)] 3

/-- java/lang/Cloneable -/
def k14 : Class := { plain "java/lang/Cloneable" (some 0) with
  accessFlags := 1537
  interfaces := #[]
  cf := some (fileOf pool14 2 #[] #[] 1537 4 #[] #[])
  fields := #[]
  methods := #[]
  instanceTypes := #[]
  staticTypes := #[]
  resolved := Array.replicate 8 none
  statics := none }

/-- the primitive byte -/
def k15 : Class := { plain "byte" none with kind := .primitive 'B', accessFlags := 0x411 }
/-- [B -/
def k16 : Class := { plain "[B" (some 0) with kind := .array 15 .byte, interfaces := #[14, 2], accessFlags := 1041 }

/-- the primitive char -/
def k17 : Class := { plain "char" none with kind := .primitive 'C', accessFlags := 0x411 }
/-- [C -/
def k18 : Class := { plain "[C" (some 0) with kind := .array 17 .char, interfaces := #[14, 2], accessFlags := 1041 }

/-- the primitive int -/
def k19 : Class := { plain "int" none with kind := .primitive 'I', accessFlags := 0x411 }
/-- [I -/
def k20 : Class := { plain "[I" (some 0) with kind := .array 19 .int, interfaces := #[14, 2], accessFlags := 1041 }

def heap : Heap := #[{ cls := 7, slots := #[.long 0, .int 1, .null, .int 0, .null, .int 0, .int 0], vm := .statics 7 },
  { cls := 11, slots := #[.int 0, .int 8, .int 0, .int 1], vm := .statics 11 },
  { cls := 12, slots := #[.null, .null, .null], vm := .statics 12 }]
def classes : Array Class := #[k0, k1, k2, k3, k4, k5, k6, k7, k8, k9, k10, k11, k12, k13, k14, k15, k16, k17, k18, k19, k20]
def interned : List (Array UInt16 × Addr) := []
def slotsUsed : Nat := 14
def theMethod : MethodId := ⟨1, 3⟩
def args0 : Array Value := #[.int 5, .int 7, .int 3, .int 9, .int 3]
def aboutOver (below : List Frame) : State where
  vm := { classes := classes, interned := interned.toArray }
  heap := heap
  slotsUsed := slotsUsed
  threads := #[{ frames := .invoking theMethod args0 :: below }]
def below0 : List Frame := [.native { method := ⟨0, 0⟩, args := #[] }]
def about1 : State := aboutOver below0
def p0 : Program := .bare "" "" ""
def e0 : Env := launch0.env 0 0 0
theorem w_frames : about1.frames = Frame.invoking theMethod args0 :: below0 := rfl
set_option maxRecDepth 65536 in
theorem w_args : argsFit about1.vm theMethod args0 = true := by decide +kernel
set_option maxRecDepth 65536 in
theorem w_heap : heapFits about1 = true := by decide +kernel
set_option maxRecDepth 65536 in
theorem w_runnable : about1.curStatus? = some .runnable := by decide +kernel
set_option maxRecDepth 65536 in
theorem w_alone : about1.alone = true := by decide +kernel
set_option maxRecDepth 65536 in
theorem w_named : about1.methodNamed? x = some theMethod := by decide +kernel
set_option maxRecDepth 65536 in
theorem w_hears : about1.hears theMethod below0 = true := by decide +kernel
set_option maxRecDepth 65536 in
theorem w_ripe : about1.ripe theMethod args0 below0 = true := by decide +kernel
theorem w_running : about1.status = .running := rfl
set_option maxRecDepth 65536 in
theorem w_room : about1.hasRoom e0.platform room_1 = true :=
  launch0.hasRoom_least _ room_1 (by decide +kernel) (by decide +kernel) (by decide +kernel) (by decide +kernel) (by decide +kernel) (by decide +kernel)
theorem allAtoms_all (ts : List Jvm.Cond) (a : Array Jvm.Value) (st : Jvm.State) : (allAtoms ts).before a st = ts.all (fun c => c.before a st) := by
  induction ts with
  | nil => rfl
  | cons c t ih =>
    show (Jvm.Cond.and c (allAtoms t)).before a st = _
    rw [Jvm.Cond.before_and, ih, List.all_cons]
def words1 : List Jvm.Cond := Jvm.Cond.code x code maxLocals ret :: tables_1
/-- a 'code' word, met by the world's own term for the bytes: nothing is compared byte by byte -/
theorem code_word {y : MethodName} {bytes : ByteArray} {mx : Nat} {rt : Option FieldType} {a : Array Value} {s : State} {m : MethodId} {meth : Method} {c : Code} (h1 : s.methodNamed? y = some m) (h2 : s.vm.method? m = some meth) (h3 : meth.code = some c) (h4 : c.code = bytes)
    (h5 : (c.maxLocals == mx && c.exceptionTable.isEmpty && decide (c.maxStack ≤ mostOperands) && decide (meth.sig.returnType = rt) && !meth.locks && decide (parseMethodDescriptor y.desc = some meth.sig)) = true) : (Jvm.Cond.code y bytes mx rt).before a s = true := by
  simp only [Bool.and_eq_true, beq_iff_eq, Bool.not_eq_true', decide_eq_true_eq] at h5
  obtain ⟨⟨⟨⟨⟨g1, g2⟩, g3⟩, g4⟩, g5⟩, g6⟩ := h5
  simp [Cond.before, Cond.holds, Cond.value, h1, h2, h3, h4, g1, g2, g3, g4, g5, g6]
def isCode : Jvm.Cond → Bool
  | .code _ _ _ _ => true
  | _ => false
theorem all_split {L : List Jvm.Cond} {P : Jvm.Cond → Bool} (h1 : L.all (fun c => isCode c || P c) = true) (h2 : ∀ c ∈ L.filter isCode, P c = true) : L.all P = true := by
  refine List.all_eq_true.mpr fun c hc => ?_
  have h := List.all_eq_true.mp h1 c hc
  rcases Bool.eq_false_or_eq_true (isCode c) with hi | hi
  · exact h2 c (List.mem_filter.mpr ⟨hc, hi⟩)
  · simpa [hi] using h
set_option maxRecDepth 65536 in
theorem w_c0 : (Jvm.Cond.code x code maxLocals ret).before args0 about1 = true := code_word (m := ⟨1, 3⟩) (meth := k1m3) (c := k1c3) (by decide +kernel) rfl rfl rfl (by decide +kernel)
set_option maxRecDepth 65536 in
theorem w_c1 : (Jvm.Cond.code ({ cls := "com/example/realmwarden/realmwarden/password/BindPasswordFileCheckedPinLaw", name := "ch", desc := "(I)C" } : Jvm.MethodName) method_2_code (2 : Nat) (Option.some Jvm.ClassFile.FieldType.char)).before args0 about1 = true := code_word (m := ⟨1, 1⟩) (meth := k1m1) (c := k1c1) (by decide +kernel) rfl rfl rfl (by decide +kernel)
set_option maxRecDepth 65536 in
theorem w_c2 : (Jvm.Cond.code ({ cls := "com/example/realmwarden/realmwarden/password/BindPasswordFileCheckedPinLaw", name := "draw", desc := "(ICCCC)Ljava/lang/String;" } : Jvm.MethodName) method_3_code (5 : Nat) (Option.some (Jvm.ClassFile.FieldType.object "java/lang/String"))).before args0 about1 = true := code_word (m := ⟨1, 2⟩) (meth := k1m2) (c := k1c2) (by decide +kernel) rfl rfl rfl (by decide +kernel)
set_option maxRecDepth 65536 in
theorem w_c3 : (Jvm.Cond.code ({ cls := "java/lang/String", name := "<init>", desc := "([C)V" } : Jvm.MethodName) jdk_42_method_3_code (2 : Nat) (Option.none : Option Jvm.ClassFile.FieldType)).before args0 about1 = true := code_word (m := ⟨7, 1⟩) (meth := k7m1) (c := k7c1) (by decide +kernel) rfl rfl rfl (by decide +kernel)
set_option maxRecDepth 65536 in
theorem w_c4 : (Jvm.Cond.code ({ cls := "java/lang/String", name := "<init>", desc := "([CIILjava/lang/Void;)V" } : Jvm.MethodName) jdk_42_method_149_code (6 : Nat) (Option.none : Option Jvm.ClassFile.FieldType)).before args0 about1 = true := code_word (m := ⟨7, 6⟩) (meth := k7m6) (c := k7c6) (by decide +kernel) rfl rfl rfl (by decide +kernel)
set_option maxRecDepth 65536 in
theorem w_c5 : (Jvm.Cond.code ({ cls := "java/lang/Object", name := "<init>", desc := "()V" } : Jvm.MethodName) object_method_1_code (1 : Nat) (Option.none : Option Jvm.ClassFile.FieldType)).before args0 about1 = true := code_word (m := ⟨0, 0⟩) (meth := k0m0) (c := k0c0) (by decide +kernel) rfl rfl rfl (by decide +kernel)
set_option maxRecDepth 65536 in
theorem w_c6 : (Jvm.Cond.code ({ cls := "com/example/realmwarden/realmwarden/password/BindPasswordFile", name := "checked", desc := "(Ljava/lang/String;)Ljava/lang/String;" } : Jvm.MethodName) prog_12_method_2_code (1 : Nat) (Option.some (Jvm.ClassFile.FieldType.object "java/lang/String"))).before args0 about1 = true := code_word (m := ⟨8, 1⟩) (meth := k8m1) (c := k8c1) (by decide +kernel) rfl rfl rfl (by decide +kernel)
set_option maxRecDepth 65536 in
theorem w_c7 : (Jvm.Cond.code ({ cls := "java/lang/String", name := "indexOf", desc := "(I)I" } : Jvm.MethodName) jdk_42_method_79_code (2 : Nat) (Option.some Jvm.ClassFile.FieldType.int)).before args0 about1 = true := code_word (m := ⟨7, 4⟩) (meth := k7m4) (c := k7c4) (by decide +kernel) rfl rfl rfl (by decide +kernel)
set_option maxRecDepth 65536 in
theorem w_c8 : (Jvm.Cond.code ({ cls := "java/lang/String", name := "indexOf", desc := "(II)I" } : Jvm.MethodName) jdk_42_method_80_code (3 : Nat) (Option.some Jvm.ClassFile.FieldType.int)).before args0 about1 = true := code_word (m := ⟨7, 5⟩) (meth := k7m5) (c := k7c5) (by decide +kernel) rfl rfl rfl (by decide +kernel)
set_option maxRecDepth 65536 in
theorem w_c9 : (Jvm.Cond.code ({ cls := "java/lang/String", name := "isLatin1", desc := "()Z" } : Jvm.MethodName) jdk_42_method_154_code (1 : Nat) (Option.some Jvm.ClassFile.FieldType.boolean)).before args0 about1 = true := code_word (m := ⟨7, 8⟩) (meth := k7m8) (c := k7c8) (by decide +kernel) rfl rfl rfl (by decide +kernel)
set_option maxRecDepth 65536 in
theorem w_c10 : (Jvm.Cond.code ({ cls := "java/lang/String", name := "length", desc := "()I" } : Jvm.MethodName) jdk_42_method_54_code (1 : Nat) (Option.some Jvm.ClassFile.FieldType.int)).before args0 about1 = true := code_word (m := ⟨7, 2⟩) (meth := k7m2) (c := k7c2) (by decide +kernel) rfl rfl rfl (by decide +kernel)
set_option maxRecDepth 65536 in
theorem w_c11 : (Jvm.Cond.code ({ cls := "java/lang/String", name := "coder", desc := "()B" } : Jvm.MethodName) jdk_42_method_152_code (1 : Nat) (Option.some Jvm.ClassFile.FieldType.byte)).before args0 about1 = true := code_word (m := ⟨7, 7⟩) (meth := k7m7) (c := k7c7) (by decide +kernel) rfl rfl rfl (by decide +kernel)
set_option maxRecDepth 65536 in
theorem w_c12 : (Jvm.Cond.code ({ cls := "java/lang/StringLatin1", name := "indexOf", desc := "([BIII)I" } : Jvm.MethodName) jdk_43_method_22_code (4 : Nat) (Option.some Jvm.ClassFile.FieldType.int)).before args0 about1 = true := code_word (m := ⟨9, 2⟩) (meth := k9m2) (c := k9c2) (by decide +kernel) rfl rfl rfl (by decide +kernel)
set_option maxRecDepth 65536 in
theorem w_c13 : (Jvm.Cond.code ({ cls := "java/lang/StringLatin1", name := "canEncode", desc := "(I)Z" } : Jvm.MethodName) jdk_43_method_4_code (1 : Nat) (Option.some Jvm.ClassFile.FieldType.boolean)).before args0 about1 = true := code_word (m := ⟨9, 1⟩) (meth := k9m1) (c := k9c1) (by decide +kernel) rfl rfl rfl (by decide +kernel)
set_option maxRecDepth 65536 in
theorem w_c14 : (Jvm.Cond.code ({ cls := "java/lang/Math", name := "max", desc := "(II)I" } : Jvm.MethodName) jdk_29_method_65_code (2 : Nat) (Option.some Jvm.ClassFile.FieldType.int)).before args0 about1 = true := code_word (m := ⟨10, 1⟩) (meth := k10m1) (c := k10c1) (by decide +kernel) rfl rfl rfl (by decide +kernel)
set_option maxRecDepth 65536 in
theorem w_c15 : (Jvm.Cond.code ({ cls := "java/lang/Math", name := "min", desc := "(II)I" } : Jvm.MethodName) jdk_29_method_69_code (2 : Nat) (Option.some Jvm.ClassFile.FieldType.int)).before args0 about1 = true := code_word (m := ⟨10, 2⟩) (meth := k10m2) (c := k10c2) (by decide +kernel) rfl rfl rfl (by decide +kernel)
set_option maxRecDepth 65536 in
theorem w_c16 : (Jvm.Cond.code ({ cls := "java/lang/String", name := "equals", desc := "(Ljava/lang/Object;)Z" } : Jvm.MethodName) jdk_42_method_66_code (3 : Nat) (Option.some Jvm.ClassFile.FieldType.boolean)).before args0 about1 = true := code_word (m := ⟨7, 3⟩) (meth := k7m3) (c := k7c3) (by decide +kernel) rfl rfl rfl (by decide +kernel)
set_option maxRecDepth 65536 in
theorem w_c17 : (Jvm.Cond.code ({ cls := "java/lang/StringUTF16", name := "compress", desc := "([CII)[B" } : Jvm.MethodName) jdk_52_method_16_code (6 : Nat) (Option.some (Jvm.ClassFile.FieldType.array Jvm.ClassFile.FieldType.byte))).before args0 about1 = true := code_word (m := ⟨11, 8⟩) (meth := k11m8) (c := k11c8) (by decide +kernel) rfl rfl rfl (by decide +kernel)
set_option maxRecDepth 65536 in
theorem w_c18 : (Jvm.Cond.code ({ cls := "java/lang/StringUTF16", name := "compress", desc := "([CI[BII)I" } : Jvm.MethodName) jdk_52_method_21_code (7 : Nat) (Option.some Jvm.ClassFile.FieldType.int)).before args0 about1 = true := code_word (m := ⟨11, 9⟩) (meth := k11m9) (c := k11c9) (by decide +kernel) rfl rfl rfl (by decide +kernel)
set_option maxRecDepth 65536 in
theorem w_c19 : (Jvm.Cond.code ({ cls := "java/lang/StringUTF16", name := "coderFromArrayLen", desc := "([BI)B" } : Jvm.MethodName) jdk_52_method_15_code (2 : Nat) (Option.some Jvm.ClassFile.FieldType.byte)).before args0 about1 = true := code_word (m := ⟨11, 7⟩) (meth := k11m7) (c := k11c7) (by decide +kernel) rfl rfl rfl (by decide +kernel)
set_option maxRecDepth 65536 in
theorem w_c20 : (Jvm.Cond.code ({ cls := "java/lang/StringLatin1", name := "indexOfChar", desc := "([BIII)I" } : Jvm.MethodName) jdk_43_method_23_code (6 : Nat) (Option.some Jvm.ClassFile.FieldType.int)).before args0 about1 = true := code_word (m := ⟨9, 3⟩) (meth := k9m3) (c := k9c3) (by decide +kernel) rfl rfl rfl (by decide +kernel)
set_option maxRecDepth 65536 in
theorem w_c21 : (Jvm.Cond.code ({ cls := "java/lang/StringUTF16", name := "toBytes", desc := "([CII)[B" } : Jvm.MethodName) jdk_52_method_14_code (5 : Nat) (Option.some (Jvm.ClassFile.FieldType.array Jvm.ClassFile.FieldType.byte))).before args0 about1 = true := code_word (m := ⟨11, 6⟩) (meth := k11m6) (c := k11c6) (by decide +kernel) rfl rfl rfl (by decide +kernel)
set_option maxRecDepth 65536 in
theorem w_c22 : (Jvm.Cond.code ({ cls := "java/lang/StringUTF16", name := "newBytesFor", desc := "(I)[B" } : Jvm.MethodName) jdk_52_method_2_code (1 : Nat) (Option.some (Jvm.ClassFile.FieldType.array Jvm.ClassFile.FieldType.byte))).before args0 about1 = true := code_word (m := ⟨11, 1⟩) (meth := k11m1) (c := k11c1) (by decide +kernel) rfl rfl rfl (by decide +kernel)
set_option maxRecDepth 65536 in
theorem w_c23 : (Jvm.Cond.code ({ cls := "java/lang/StringUTF16", name := "newBytesLength", desc := "(I)I" } : Jvm.MethodName) jdk_52_method_3_code (1 : Nat) (Option.some Jvm.ClassFile.FieldType.int)).before args0 about1 = true := code_word (m := ⟨11, 2⟩) (meth := k11m2) (c := k11c2) (by decide +kernel) rfl rfl rfl (by decide +kernel)
set_option maxRecDepth 65536 in
theorem w_c24 : (Jvm.Cond.code ({ cls := "java/lang/StringUTF16", name := "putChar", desc := "([BII)V" } : Jvm.MethodName) jdk_52_method_4_code (3 : Nat) (Option.none : Option Jvm.ClassFile.FieldType)).before args0 about1 = true := code_word (m := ⟨11, 3⟩) (meth := k11m3) (c := k11c3) (by decide +kernel) rfl rfl rfl (by decide +kernel)
set_option maxRecDepth 65536 in
theorem w_c25 : (Jvm.Cond.code ({ cls := "java/lang/StringUTF16", name := "getChar", desc := "([BI)C" } : Jvm.MethodName) jdk_52_method_5_code (2 : Nat) (Option.some Jvm.ClassFile.FieldType.char)).before args0 about1 = true := code_word (m := ⟨11, 4⟩) (meth := k11m4) (c := k11c4) (by decide +kernel) rfl rfl rfl (by decide +kernel)
set_option maxRecDepth 65536 in
theorem w_c26 : (Jvm.Cond.code ({ cls := "java/lang/StringUTF16", name := "indexOf", desc := "([BIII)I" } : Jvm.MethodName) jdk_52_method_40_code (4 : Nat) (Option.some Jvm.ClassFile.FieldType.int)).before args0 about1 = true := code_word (m := ⟨11, 10⟩) (meth := k11m10) (c := k11c10) (by decide +kernel) rfl rfl rfl (by decide +kernel)
set_option maxRecDepth 65536 in
theorem w_c27 : (Jvm.Cond.code ({ cls := "java/lang/StringUTF16", name := "indexOfChar", desc := "([BIII)I" } : Jvm.MethodName) jdk_52_method_47_code (4 : Nat) (Option.some Jvm.ClassFile.FieldType.int)).before args0 about1 = true := code_word (m := ⟨11, 11⟩) (meth := k11m11) (c := k11c11) (by decide +kernel) rfl rfl rfl (by decide +kernel)
set_option maxRecDepth 65536 in
theorem w_c28 : (Jvm.Cond.code ({ cls := "java/lang/StringUTF16", name := "checkBoundsBeginEnd", desc := "(II[B)V" } : Jvm.MethodName) jdk_52_method_93_code (3 : Nat) (Option.none : Option Jvm.ClassFile.FieldType)).before args0 about1 = true := code_word (m := ⟨11, 13⟩) (meth := k11m13) (c := k11c13) (by decide +kernel) rfl rfl rfl (by decide +kernel)
set_option maxRecDepth 65536 in
theorem w_c29 : (Jvm.Cond.code ({ cls := "java/lang/StringUTF16", name := "length", desc := "([B)I" } : Jvm.MethodName) jdk_52_method_6_code (1 : Nat) (Option.some Jvm.ClassFile.FieldType.int)).before args0 about1 = true := code_word (m := ⟨11, 5⟩) (meth := k11m5) (c := k11c5) (by decide +kernel) rfl rfl rfl (by decide +kernel)
set_option maxRecDepth 65536 in
theorem w_c30 : (Jvm.Cond.code ({ cls := "java/lang/String", name := "checkBoundsBeginEnd", desc := "(III)V" } : Jvm.MethodName) jdk_42_method_158_code (3 : Nat) (Option.none : Option Jvm.ClassFile.FieldType)).before args0 about1 = true := code_word (m := ⟨7, 9⟩) (meth := k7m9) (c := k7c9) (by decide +kernel) rfl rfl rfl (by decide +kernel)
set_option maxRecDepth 65536 in
theorem w_c31 : (Jvm.Cond.code ({ cls := "jdk/internal/util/Preconditions", name := "checkFromToIndex", desc := "(IIILjava/util/function/BiFunction;)I" } : Jvm.MethodName) jdk_41_method_12_code (4 : Nat) (Option.some Jvm.ClassFile.FieldType.int)).before args0 about1 = true := code_word (m := ⟨12, 1⟩) (meth := k12m1) (c := k12c1) (by decide +kernel) rfl rfl rfl (by decide +kernel)
set_option maxRecDepth 65536 in
theorem w_c32 : (Jvm.Cond.code ({ cls := "java/lang/StringUTF16", name := "indexOfCharUnsafe", desc := "([BIII)I" } : Jvm.MethodName) jdk_52_method_48_code (5 : Nat) (Option.some Jvm.ClassFile.FieldType.int)).before args0 about1 = true := code_word (m := ⟨11, 12⟩) (meth := k11m12) (c := k11c12) (by decide +kernel) rfl rfl rfl (by decide +kernel)
def codes1 : List Jvm.Cond := [Jvm.Cond.code x code maxLocals ret, Jvm.Cond.code ({ cls := "com/example/realmwarden/realmwarden/password/BindPasswordFileCheckedPinLaw", name := "ch", desc := "(I)C" } : Jvm.MethodName) method_2_code (2 : Nat) (Option.some Jvm.ClassFile.FieldType.char), Jvm.Cond.code ({ cls := "com/example/realmwarden/realmwarden/password/BindPasswordFileCheckedPinLaw", name := "draw", desc := "(ICCCC)Ljava/lang/String;" } : Jvm.MethodName) method_3_code (5 : Nat) (Option.some (Jvm.ClassFile.FieldType.object "java/lang/String")), Jvm.Cond.code ({ cls := "java/lang/String", name := "<init>", desc := "([C)V" } : Jvm.MethodName) jdk_42_method_3_code (2 : Nat) (Option.none : Option Jvm.ClassFile.FieldType), Jvm.Cond.code ({ cls := "java/lang/String", name := "<init>", desc := "([CIILjava/lang/Void;)V" } : Jvm.MethodName) jdk_42_method_149_code (6 : Nat) (Option.none : Option Jvm.ClassFile.FieldType), Jvm.Cond.code ({ cls := "java/lang/Object", name := "<init>", desc := "()V" } : Jvm.MethodName) object_method_1_code (1 : Nat) (Option.none : Option Jvm.ClassFile.FieldType), Jvm.Cond.code ({ cls := "com/example/realmwarden/realmwarden/password/BindPasswordFile", name := "checked", desc := "(Ljava/lang/String;)Ljava/lang/String;" } : Jvm.MethodName) prog_12_method_2_code (1 : Nat) (Option.some (Jvm.ClassFile.FieldType.object "java/lang/String")), Jvm.Cond.code ({ cls := "java/lang/String", name := "indexOf", desc := "(I)I" } : Jvm.MethodName) jdk_42_method_79_code (2 : Nat) (Option.some Jvm.ClassFile.FieldType.int), Jvm.Cond.code ({ cls := "java/lang/String", name := "indexOf", desc := "(II)I" } : Jvm.MethodName) jdk_42_method_80_code (3 : Nat) (Option.some Jvm.ClassFile.FieldType.int), Jvm.Cond.code ({ cls := "java/lang/String", name := "isLatin1", desc := "()Z" } : Jvm.MethodName) jdk_42_method_154_code (1 : Nat) (Option.some Jvm.ClassFile.FieldType.boolean), Jvm.Cond.code ({ cls := "java/lang/String", name := "length", desc := "()I" } : Jvm.MethodName) jdk_42_method_54_code (1 : Nat) (Option.some Jvm.ClassFile.FieldType.int), Jvm.Cond.code ({ cls := "java/lang/String", name := "coder", desc := "()B" } : Jvm.MethodName) jdk_42_method_152_code (1 : Nat) (Option.some Jvm.ClassFile.FieldType.byte), Jvm.Cond.code ({ cls := "java/lang/StringLatin1", name := "indexOf", desc := "([BIII)I" } : Jvm.MethodName) jdk_43_method_22_code (4 : Nat) (Option.some Jvm.ClassFile.FieldType.int), Jvm.Cond.code ({ cls := "java/lang/StringLatin1", name := "canEncode", desc := "(I)Z" } : Jvm.MethodName) jdk_43_method_4_code (1 : Nat) (Option.some Jvm.ClassFile.FieldType.boolean), Jvm.Cond.code ({ cls := "java/lang/Math", name := "max", desc := "(II)I" } : Jvm.MethodName) jdk_29_method_65_code (2 : Nat) (Option.some Jvm.ClassFile.FieldType.int), Jvm.Cond.code ({ cls := "java/lang/Math", name := "min", desc := "(II)I" } : Jvm.MethodName) jdk_29_method_69_code (2 : Nat) (Option.some Jvm.ClassFile.FieldType.int), Jvm.Cond.code ({ cls := "java/lang/String", name := "equals", desc := "(Ljava/lang/Object;)Z" } : Jvm.MethodName) jdk_42_method_66_code (3 : Nat) (Option.some Jvm.ClassFile.FieldType.boolean), Jvm.Cond.code ({ cls := "java/lang/StringUTF16", name := "compress", desc := "([CII)[B" } : Jvm.MethodName) jdk_52_method_16_code (6 : Nat) (Option.some (Jvm.ClassFile.FieldType.array Jvm.ClassFile.FieldType.byte)), Jvm.Cond.code ({ cls := "java/lang/StringUTF16", name := "compress", desc := "([CI[BII)I" } : Jvm.MethodName) jdk_52_method_21_code (7 : Nat) (Option.some Jvm.ClassFile.FieldType.int), Jvm.Cond.code ({ cls := "java/lang/StringUTF16", name := "coderFromArrayLen", desc := "([BI)B" } : Jvm.MethodName) jdk_52_method_15_code (2 : Nat) (Option.some Jvm.ClassFile.FieldType.byte), Jvm.Cond.code ({ cls := "java/lang/StringLatin1", name := "indexOfChar", desc := "([BIII)I" } : Jvm.MethodName) jdk_43_method_23_code (6 : Nat) (Option.some Jvm.ClassFile.FieldType.int), Jvm.Cond.code ({ cls := "java/lang/StringUTF16", name := "toBytes", desc := "([CII)[B" } : Jvm.MethodName) jdk_52_method_14_code (5 : Nat) (Option.some (Jvm.ClassFile.FieldType.array Jvm.ClassFile.FieldType.byte)), Jvm.Cond.code ({ cls := "java/lang/StringUTF16", name := "newBytesFor", desc := "(I)[B" } : Jvm.MethodName) jdk_52_method_2_code (1 : Nat) (Option.some (Jvm.ClassFile.FieldType.array Jvm.ClassFile.FieldType.byte)), Jvm.Cond.code ({ cls := "java/lang/StringUTF16", name := "newBytesLength", desc := "(I)I" } : Jvm.MethodName) jdk_52_method_3_code (1 : Nat) (Option.some Jvm.ClassFile.FieldType.int), Jvm.Cond.code ({ cls := "java/lang/StringUTF16", name := "putChar", desc := "([BII)V" } : Jvm.MethodName) jdk_52_method_4_code (3 : Nat) (Option.none : Option Jvm.ClassFile.FieldType), Jvm.Cond.code ({ cls := "java/lang/StringUTF16", name := "getChar", desc := "([BI)C" } : Jvm.MethodName) jdk_52_method_5_code (2 : Nat) (Option.some Jvm.ClassFile.FieldType.char), Jvm.Cond.code ({ cls := "java/lang/StringUTF16", name := "indexOf", desc := "([BIII)I" } : Jvm.MethodName) jdk_52_method_40_code (4 : Nat) (Option.some Jvm.ClassFile.FieldType.int), Jvm.Cond.code ({ cls := "java/lang/StringUTF16", name := "indexOfChar", desc := "([BIII)I" } : Jvm.MethodName) jdk_52_method_47_code (4 : Nat) (Option.some Jvm.ClassFile.FieldType.int), Jvm.Cond.code ({ cls := "java/lang/StringUTF16", name := "checkBoundsBeginEnd", desc := "(II[B)V" } : Jvm.MethodName) jdk_52_method_93_code (3 : Nat) (Option.none : Option Jvm.ClassFile.FieldType), Jvm.Cond.code ({ cls := "java/lang/StringUTF16", name := "length", desc := "([B)I" } : Jvm.MethodName) jdk_52_method_6_code (1 : Nat) (Option.some Jvm.ClassFile.FieldType.int), Jvm.Cond.code ({ cls := "java/lang/String", name := "checkBoundsBeginEnd", desc := "(III)V" } : Jvm.MethodName) jdk_42_method_158_code (3 : Nat) (Option.none : Option Jvm.ClassFile.FieldType), Jvm.Cond.code ({ cls := "jdk/internal/util/Preconditions", name := "checkFromToIndex", desc := "(IIILjava/util/function/BiFunction;)I" } : Jvm.MethodName) jdk_41_method_12_code (4 : Nat) (Option.some Jvm.ClassFile.FieldType.int), Jvm.Cond.code ({ cls := "java/lang/StringUTF16", name := "indexOfCharUnsafe", desc := "([BIII)I" } : Jvm.MethodName) jdk_52_method_48_code (5 : Nat) (Option.some Jvm.ClassFile.FieldType.int)]
set_option maxRecDepth 65536 in
theorem codes_eq : words1.filter isCode = codes1 := rfl
theorem w_codes : ∀ c ∈ words1.filter isCode, c.before args0 about1 = true := by
  rw [codes_eq]
  intro c hc
  simp only [codes1, List.mem_cons, List.not_mem_nil, or_false] at hc
  rcases hc with rfl | rfl | rfl | rfl | rfl | rfl | rfl | rfl | rfl | rfl | rfl | rfl | rfl | rfl | rfl | rfl | rfl | rfl | rfl | rfl | rfl | rfl | rfl | rfl | rfl | rfl | rfl | rfl | rfl | rfl | rfl | rfl | rfl
  · exact w_c0
  · exact w_c1
  · exact w_c2
  · exact w_c3
  · exact w_c4
  · exact w_c5
  · exact w_c6
  · exact w_c7
  · exact w_c8
  · exact w_c9
  · exact w_c10
  · exact w_c11
  · exact w_c12
  · exact w_c13
  · exact w_c14
  · exact w_c15
  · exact w_c16
  · exact w_c17
  · exact w_c18
  · exact w_c19
  · exact w_c20
  · exact w_c21
  · exact w_c22
  · exact w_c23
  · exact w_c24
  · exact w_c25
  · exact w_c26
  · exact w_c27
  · exact w_c28
  · exact w_c29
  · exact w_c30
  · exact w_c31
  · exact w_c32
set_option maxRecDepth 65536 in
theorem w_t1 : (words1.take 24).all (fun c => isCode c || c.before args0 about1) = true := by decide +kernel
set_option maxRecDepth 65536 in
theorem w_t2 : ((words1.drop 24).take 24).all (fun c => isCode c || c.before args0 about1) = true := by decide +kernel
set_option maxRecDepth 65536 in
theorem w_t3 : (((words1.drop 24).drop 24).take 24).all (fun c => isCode c || c.before args0 about1) = true := by decide +kernel
set_option maxRecDepth 65536 in
theorem w_t4 : ((((words1.drop 24).drop 24).drop 24).take 24).all (fun c => isCode c || c.before args0 about1) = true := by decide +kernel
set_option maxRecDepth 65536 in
theorem w_t5 : (((((words1.drop 24).drop 24).drop 24).drop 24).take 24).all (fun c => isCode c || c.before args0 about1) = true := by decide +kernel
set_option maxRecDepth 65536 in
theorem w_t6 : (((((words1.drop 24).drop 24).drop 24).drop 24).drop 24).all (fun c => isCode c || c.before args0 about1) = true := by decide +kernel
theorem w_tables : (allAtoms (Jvm.Cond.code x code maxLocals ret :: tables_1)).before args0 about1 = true := by
  rw [allAtoms_all]
  show words1.all (fun c => c.before args0 about1) = true
  refine all_split ?_ w_codes
  rw [← List.take_append_drop 24 words1, List.all_append, w_t1, ← List.take_append_drop 24 (words1.drop 24), List.all_append, w_t2, ← List.take_append_drop 24 ((words1.drop 24).drop 24), List.all_append, w_t3, ← List.take_append_drop 24 (((words1.drop 24).drop 24).drop 24), List.all_append, w_t4, ← List.take_append_drop 24 ((((words1.drop 24).drop 24).drop 24).drop 24), List.all_append, w_t5, w_t6]
  rfl
set_option maxRecDepth 65536 in
theorem w_rest : rest_1_c.before args0 about1 = true := by decide +kernel
set_option maxRecDepth 65536 in
theorem w_case : (Jvm.Cond.and given_1 narrow_1).before args0 about1 = true := by decide +kernel
set_option maxRecDepth 65536 in
theorem w_consts : constsHeld consts_1 about1 := Jvm.Lit.constsHeldB_iff.mp (by decide +kernel)
theorem w_applies : (headSpec (Jvm.Cond.code x code maxLocals ret :: tables_1) room_1).applies x e0.platform about1 = true :=
  (Spec.applies_iff w_frames).mpr ⟨w_running, w_runnable, w_alone, w_named, w_hears, w_ripe, w_room, w_tables⟩
theorem atStart : AtStart classFile x code maxLocals ret World_1 tables_1 room_1 Calls_1 rest_1 Pre_1 launch0 p0 e0 about1 theMethod args0 below0 :=
  ⟨lists_1, trivial, launch0.admits_env _ _ _, launch0.least_env, fairChoices_fair.cas, fairChoices_fair.clock, w_frames, w_args, w_heap, w_applies, ⟨w_consts, trivial⟩, w_rest, w_case⟩
end start1
theorem witness_1 : WitnessClaimed_1 := ⟨start1.p0, start1.e0, start1.about1, start1.theMethod, start1.args0, start1.below0, start1.atStart⟩
end Jvm.Pilot.@@N@@
