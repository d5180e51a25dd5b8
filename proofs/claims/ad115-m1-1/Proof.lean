import JvmDerived
import JvmDerived.Pilot.@@N@@Statement
import JvmDerived.Pilot.@@N@@Code
set_option linter.unusedVariables false
set_option linter.unusedSimpArgs false

namespace Jvm.GoKit
open Jvm Jvm.ClassFile Sem Op Lib Jvm.Free Jvm.Stand Jvm.LawKit Jvm.RoadKit Bundle
/-- what goes with a Stand over the re-based start -/
def Hid (s Z : State) (wd : Bool) (EL : List (String × Nat)) (n0 : Nat) (ow0 ow : List Addr) (T : State) (locs : List Loc) (vm0 : Vm) (k0 : Nat) (h : Heap) : Prop :=
  s.Since vm0 k0 ∧ k0 ≤ h.size ∧ Z.Warmed39 vm0 ∧ T.heap = h ∧ Fr n0 locs ∧ CHr Z EL s.vm s.heap vm0 h ∧ Keep s.heap h ow0 ∧ Old Z n0 h ∧ (∀ x ∈ ow, Safe Z EL vm0 h x ∧ x < h.size ∧ n0 ≤ x ∧ (x ∈ ow0 ∨ s.heap.size ≤ x)) ∧ (wd = true ∨ s.WarmedH vm0)
/-- what a body leaves -/
def FinS (s Z : State) (wd ro : Bool) (EL : List (String × Nat)) (n0 : Nat) (ow0 : List Addr) (R : Room) (Q : Option Value → Heap → Prop) (o : Outcome) (t : State) : Prop :=
  ∃ v L, o = .returned v ∧ Q v t.heap ∧ Fr n0 L ∧ CHr Z EL s.vm s.heap t.vm t.heap ∧ Keep s.heap t.heap ow0 ∧ ReturnedEndW s o t L R.cells R.slots ∧ (wd = true ∨ s.WarmedH t.vm) ∧ (ro = true → ∀ d, v = some (.ref d) → Safe Z EL t.vm t.heap d ∧ d < t.heap.size ∧ n0 ≤ d ∧ s.heap.size ≤ d)
/-- from wherever the walk stands with heap h at the frame g, the run ends in Q -/
def Run (p : Program) (l : Launch) (e : Env) (R : Room) (s : State) (m : MethodId) (args : Array Value) (below : List Frame) (meth : Method) (c : Code) (Z : State) (wd ro : Bool) (EL : List (String × Nat)) (n0 : Nat) (ow0 : List Addr) (Q : Option Value → Heap → Prop)
    (h : Heap) (ow : List Addr) (cells slots : Nat) (g : JFrame) : Prop :=
  ∀ (T : State) (locs : List Loc) (vm0 : Vm) (k0 : Nat), Stand p l e R (s.setVm vm0) m args below meth c T locs cells slots → Hid s Z wd EL n0 ow0 ow T locs vm0 k0 h →
    ∃ s₂ o, Steps p.tables e below (T.setTop g) s₂ ∧ s₂.status = .running ∧ Ended s₂ below o ∧ FinS s Z wd ro EL n0 ow0 R Q o s₂
/-- a method's contract -/
def Con (l : Launch) (Z : State) (wd ro : Bool) (EL : List (String × Nat)) (n0 : Nat) (y : MethodName) (bytes : ByteArray) (maxL : Nat) (ret : Option FieldType) (rm : Room) (ws : List Jvm.Cond) (as' : Array Value) (h0 : Heap) (ow : List Addr) (Q : Option Value → Heap → Prop) : Prop :=
  MetFree l y (head1 (Jvm.Cond.code y bytes maxL ret :: ws) rm) (fun a U => a = as' ∧ Z.Warmed39 U.vm ∧ U.heap = h0 ∧ Old Z n0 h0 ∧ CHv Z EL U.vm h0 ∧ ∀ x ∈ ow, Safe Z EL U.vm h0 x ∧ x < h0.size ∧ n0 ≤ x) (fun _ _ _ _ _ => True) (fun _ U o U' => FinS U Z wd ro EL n0 ow rm Q o U')
/-- what stays of a body -/
def Gd (p : Program) (s : State) (m : MethodId) (meth : Method) (c : Code) (y : MethodName) (bytes : ByteArray) (maxL : Nat) (ret : Option FieldType) (Z : State) (a0 : Array Value) (EL : List (String × Nat)) : Prop :=
  p.tables.exec = Jvm.exec ∧ c.code = bytes ∧ c.maxLocals = maxL ∧ s.vm.findClass y.cls = some m.cls ∧ meth.sig.returnType = ret ∧ meth.name = y.name ∧ meth.locks = false ∧ EW Z a0 EL
section
variable {p : Program} {l : Launch} {e : Env} {R : Room} {s : State} {m : MethodId} {args : Array Value} {below : List Frame} {meth : Method} {c : Code} {Z : State} {wd ro : Bool} {EL : List (String × Nat)} {n0 : Nat} {ow0 : List Addr} {Q : Option Value → Heap → Prop}
variable {h : Heap} {ow : List Addr} {cells slots cells' slots' : Nat} {pc pc' : Nat} {Ls Ls' : Array Slot} {st rest : List Value} {y : MethodName} {bytes : ByteArray} {maxL : Nat} {ret : Option FieldType} {a0 : Array Value}
theorem Con.intro {ws : List Jvm.Cond} {as' : Array Value} (hx : plainFor y = true) (hEL : EW Z a0 EL)
    (body : ∀ (p : Program) (e : Env) (s : State) (m : MethodId) (below : List Frame) (meth : Method) (c : Code), s.heap = h → Gd p s m meth c y bytes maxL ret Z a0 EL → Run p l e R s m as' below meth c Z wd ro EL n0 ow Q h ow 0 0 (entryFrame m as' maxL)) :
    Con l Z wd ro EL n0 y bytes maxL ret R ws as' h ow Q := by
  refine MetFree.of_bodySF hx hisR ?_
  intro p e s m args below meth c s₁ Bd hml0 hP hK
  obtain ⟨rfl, hZ, hh, hO, hC, hS⟩ := hP
  have e0 : s₁.heap = h := by rw [← hh, Bd.state]; rfl
  have X0 : Stand p l e R s m args below meth c s₁ [] 0 0 := Stand.of_body Bd
  refine body p e s m below meth c hh ⟨Bd.exec, Bd.bytes, hml0, findClass_of_methodNamed Bd.named, Bd.returns, (name_of_methodNamed Bd.named Bd.method).1, Bd.notSynchronized, hEL⟩ s₁ [] s.vm h.size X0 ?_
  have hc : CHr Z EL s.vm s.heap s.vm h := by rw [hh]; exact CHr.refl hC
  refine ⟨(State.WarmedH.refl s).since _, Nat.le_refl _, hZ, e0, Fr.nil _, hc, by rw [hh]; exact Keep.refl _ _, hO, fun x hx => ⟨(hS x hx).1, (hS x hx).2.1, (hS x hx).2.2, Or.inl hx⟩, Or.inr (State.WarmedH.refl s)⟩
theorem Run.stp {g g' : JFrame} (stp : ∀ (T : State) (locs : List Loc) (vm0 : Vm) (k0 : Nat), Stand p l e R (s.setVm vm0) m args below meth c T locs cells slots → Hid s Z wd EL n0 ow0 ow T locs vm0 k0 h → ∀ t, Steps p.tables e below (T.setTop g') t → Steps p.tables e below (T.setTop g) t)
    (K : Run p l e R s m args below meth c Z wd ro EL n0 ow0 Q h ow cells slots g') : Run p l e R s m args below meth c Z wd ro EL n0 ow0 Q h ow cells slots g := fun T locs vm0 k0 X H => by
  obtain ⟨s₂, o, a, b⟩ := K T locs vm0 k0 X H
  exact ⟨s₂, o, stp T locs vm0 k0 X H _ a, b⟩
theorem Run.mov {g g' : JFrame} (stp : ∀ (T : State) (locs : List Loc) (vm0 : Vm) (k0 : Nat), Stand p l e R (s.setVm vm0) m args below meth c T locs cells slots → Hid s Z wd EL n0 ow0 ow T locs vm0 k0 h →
      ∃ T', Stand p l e R (s.setVm vm0) m args below meth c T' locs cells slots ∧ T'.heap = h ∧ ∀ t, Steps p.tables e below (T'.setTop g') t → Steps p.tables e below (T.setTop g) t)
    (K : Run p l e R s m args below meth c Z wd ro EL n0 ow0 Q h ow cells slots g') : Run p l e R s m args below meth c Z wd ro EL n0 ow0 Q h ow cells slots g := fun T locs vm0 k0 X H => by
  obtain ⟨T', X', eT, st⟩ := stp T locs vm0 k0 X H
  obtain ⟨i1, i2, i3, -, i5⟩ := H
  obtain ⟨s₂, o, a, b⟩ := K T' locs vm0 k0 X' ⟨i1, i2, i3, eT, i5⟩
  exact ⟨s₂, o, st _ a, b⟩
theorem Run.mono {g : JFrame} {cells' slots' : Nat} (hc : cells ≤ cells') (hs : slots ≤ slots') (K : Run p l e R s m args below meth c Z wd ro EL n0 ow0 Q h ow cells' slots' g) : Run p l e R s m args below meth c Z wd ro EL n0 ow0 Q h ow cells slots g := fun T locs vm0 k0 X H => K T locs vm0 k0 (X.mono hc hs) H
theorem Run.owless {g : JFrame} {ow' : List Addr} (hs : ∀ x ∈ ow', x ∈ ow) (K : Run p l e R s m args below meth c Z wd ro EL n0 ow0 Q h ow' cells slots g) : Run p l e R s m args below meth c Z wd ro EL n0 ow0 Q h ow cells slots g := fun T locs vm0 k0 X H => by
  obtain ⟨i1, i2, i3, i4, i5, i6, i7, i8, i9, i10⟩ := H
  exact K T locs vm0 k0 X ⟨i1, i2, i3, i4, i5, i6, i7, i8, fun x q => i9 x (hs x q), i10⟩
/-- what is known at every point -/
theorem Run.know {g : JFrame} (K : Ext Z.heap h → Keep s.heap h ow0 → (∀ x ∈ ow, x < h.size ∧ n0 ≤ x ∧ (x ∈ ow0 ∨ s.heap.size ≤ x)) → Run p l e R s m args below meth c Z wd ro EL n0 ow0 Q h ow cells slots g) : Run p l e R s m args below meth c Z wd ro EL n0 ow0 Q h ow cells slots g := fun T locs vm0 k0 X H =>
  K H.2.2.2.2.2.2.2.1.2 H.2.2.2.2.2.2.1 (fun x q => (H.2.2.2.2.2.2.2.2.1 x q).2) T locs vm0 k0 X H
theorem Gd.own (G : Gd p s m meth c y bytes maxL ret Z a0 EL) {vm0 : Vm} {k0 : Nat} (hS : s.Since vm0 k0) : vm0.findClass y.cls = some m.cls := (hS.1.alike.findClass _ _).trans G.2.2.2.1
theorem Gd.hb (G : Gd p s m meth c y bytes maxL ret Z a0 EL) {pc : Nat} {r : Except ClassFile.DecodeError (ClassFile.Instr × Nat)} (h2 : ClassFile.decode bytes pc = r) : ClassFile.decode c.code pc = r := Jvm.hb G.2.1 h2
theorem Hid.cell {T : State} {locs : List Loc} {vm0 : Vm} {k0 : Nat} {a : Addr} {cl : Cell} {ty : FieldType} (H : Hid s Z wd EL n0 ow0 ow T locs vm0 k0 h) (A : Arr Z h a cl ty) : T.heap[a]? = some cl := by
  rw [H.2.2.2.1]; exact A.1
theorem Hid.arr {T : State} {locs : List Loc} {vm0 : Vm} {k0 : Nat} {a : Addr} {cl : Cell} {ty : FieldType} (H : Hid s Z wd EL n0 ow0 ow T locs vm0 k0 h) (A : Arr Z h a cl ty) : (s.setVm vm0).isArrayOf cl ty := State.isArrayOf_alike (T := s.setVm vm0) H.2.2.1.alike A.2.1
/-- a write at a place that is ours -/
theorem Hid.wr {T T' : State} {locs : List Loc} {vm0 : Vm} {k0 sl : Nat} {h' : Heap} {a : Addr} {v : Value} (H : Hid s Z wd EL n0 ow0 ow T locs vm0 k0 h) (W : Wr h h' a sl v) (ha : a ∈ ow) (eT : T'.heap = h') : Hid s Z wd EL n0 ow0 ow T' (locs ++ [⟨a, sl⟩]) vm0 k0 h' := by
  obtain ⟨i1, i2, i3, i4, i5, i6, i7, i8, i9, i10⟩ := H
  obtain ⟨S, q1, q2, q3⟩ := i9 a ha
  have hsz : h'.size = h.size := W.size
  refine ⟨i1, by rw [hsz]; exact i2, i3, eT, i5.app (fun y hy => by cases List.mem_singleton.mp hy; exact q2), i6.trans (CHr.wr W S i6.1), i7.wr W q3, i8.wr W q2, fun x hx => ?_, i10⟩
  obtain ⟨S', r1, r2, r3⟩ := i9 x hx
  exact ⟨Safe.wr W S i6.1 S', by rw [hsz]; exact r1, r2, r3⟩
theorem instNAt {T : State} {locs : List Loc} {vm0 : Vm} (X : Stand p l e R (s.setVm vm0) m args below meth c T locs cells slots) (hx : p.tables.exec = Jvm.exec) (hZ : Z.Warmed39 vm0) {own K D : String} {index : Nat} (hown : vm0.findClass own = some m.cls) (w : (Jvm.Cond.classLink own index K).before a0 Z = true) (eT : T.heap = h) {a : Addr} (F : Ins Z h a K false) (E : Exa Z h a D)
    {g : JFrame} (hg : g.method = m) {rest : List Value} (hs : g.stack = .ref a :: rest) (hd : decode c.code g.pc = .ok (.instanceof index, 3)) : ∃ T', Stand p l e R (s.setVm vm0) m args below meth c T' locs cells slots ∧ T'.heap = h ∧ ∀ target, Steps p.tables e below (T'.setTop { g with pc := g.pc + 3, stack := .int 0 :: rest }) target → Steps p.tables e below (T.setTop g) target := by
  obtain ⟨cell, cT, h1, h2, h3⟩ := F
  obtain ⟨cell', k, e1, -, e3, e4, -⟩ := E
  cases h1.symm.trans e1
  obtain ⟨k', q, -⟩ := hZ.alike.2.2 _ _ e3
  obtain ⟨vm', X', st⟩ := Sym.instanceofNoAt X hx hown (mv (s := s.setVm vm0) hZ w) (by rw [eT]; exact h1) e4 q (by show vm0.findClass K = _; rw [hZ.alike.findClass]; exact h2) (by show vm0.assignable _ _ = _; rw [hZ.alike.assignable]; simpa [e4] using h3) hg hs hd
  exact ⟨_, X', eT, st⟩
/-- a new cell -/
theorem Hid.ext {T T' : State} {locs : List Loc} {vm0 : Vm} {k0 : Nat} {h' : Heap} (H : Hid s Z wd EL n0 ow0 ow T locs vm0 k0 h) (E : Ext h h') (hlt : h.size < h'.size) (eT : T'.heap = h') : Hid s Z wd EL n0 ow0 (h.size :: ow) T' locs vm0 k0 h' := by
  obtain ⟨i1, i2, i3, i4, i5, i6, i7, i8, i9, i10⟩ := H
  refine ⟨i1, Nat.le_trans i2 E.1, i3, eT, i5, i6.trans (CHr.ext E i6.1), i7.ext E, i8.ext E, fun x hx => ?_, i10⟩
  rcases List.mem_cons.mp hx with rfl | hx
  · exact ⟨(Safe.new (Nat.le_refl _)).ext E i6.1, hlt, i8.1 ▸ i8.2.1, Or.inr i7.1⟩
  · obtain ⟨S', r1, r2, r3⟩ := i9 x hx
    exact ⟨S'.ext E i6.1, Nat.lt_of_lt_of_le r1 E.1, r2, r3⟩
theorem aloadN (G : Gd p s m meth c y bytes maxL ret Z a0 EL) {k : Fin 4} {v : Value} (hd : decode bytes pc = .ok (.aload_n k, 1)) (hl : Ls[k.val]? = some (.val v)) (hv : v.isRef = true) (hp : pc + 1 = pc') (K : Run p l e R s m args below meth c Z wd ro EL n0 ow0 Q h ow cells slots (mkF m pc' Ls (v :: st))) : Run p l e R s m args below meth c Z wd ro EL n0 ow0 Q h ow cells slots (mkF m pc Ls st) := by
  subst hp
  exact Run.stp (fun T locs vm0 k0 X H t k => XS.aloadN X.here G.1 rfl (G.hb hd) hl hv k) K
theorem aload (G : Gd p s m meth c y bytes maxL ret Z a0 EL) {k : Nat} {v : Value} (hd : decode bytes pc = .ok (.aload k, 2)) (hl : Ls[k]? = some (.val v)) (hv : v.isRef = true) (hp : pc + 2 = pc') (K : Run p l e R s m args below meth c Z wd ro EL n0 ow0 Q h ow cells slots (mkF m pc' Ls (v :: st))) : Run p l e R s m args below meth c Z wd ro EL n0 ow0 Q h ow cells slots (mkF m pc Ls st) := by
  subst hp
  exact Run.stp (fun T locs vm0 k0 X H t k => XS.aload X.here G.1 rfl (G.hb hd) hl hv k) K
theorem iloadN (G : Gd p s m meth c y bytes maxL ret Z a0 EL) {k : Fin 4} {v : Int32} (hd : decode bytes pc = .ok (.iload_n k, 1)) (hl : Ls[k.val]? = some (.val (.int v))) (hp : pc + 1 = pc') (K : Run p l e R s m args below meth c Z wd ro EL n0 ow0 Q h ow cells slots (mkF m pc' Ls (.int v :: st))) : Run p l e R s m args below meth c Z wd ro EL n0 ow0 Q h ow cells slots (mkF m pc Ls st) := by
  subst hp
  exact Run.stp (fun T locs vm0 k0 X H t k => XS.iloadN X.here G.1 rfl (G.hb hd) hl k) K
theorem iload (G : Gd p s m meth c y bytes maxL ret Z a0 EL) {k : Nat} {v : Int32} (hd : decode bytes pc = .ok (.iload k, 2)) (hl : Ls[k]? = some (.val (.int v))) (hp : pc + 2 = pc') (K : Run p l e R s m args below meth c Z wd ro EL n0 ow0 Q h ow cells slots (mkF m pc' Ls (.int v :: st))) : Run p l e R s m args below meth c Z wd ro EL n0 ow0 Q h ow cells slots (mkF m pc Ls st) := by
  subst hp
  exact Run.stp (fun T locs vm0 k0 X H t k => XS.iload X.here G.1 rfl (G.hb hd) hl k) K
theorem iconst (G : Gd p s m meth c y bytes maxL ret Z a0 EL) {i : Int} (v : Int32) (hd : decode bytes pc = .ok (.iconst i, 1)) (hv : Int32.ofInt i = v) (hp : pc + 1 = pc') (K : Run p l e R s m args below meth c Z wd ro EL n0 ow0 Q h ow cells slots (mkF m pc' Ls (.int v :: st))) : Run p l e R s m args below meth c Z wd ro EL n0 ow0 Q h ow cells slots (mkF m pc Ls st) := by
  subst hp
  exact Run.stp (fun T locs vm0 k0 X H t k => XT.iconstV X.here G.1 rfl v (G.hb hd) hv k) K
theorem bipush (G : Gd p s m meth c y bytes maxL ret Z a0 EL) {i : Int} (v : Int32) (hd : decode bytes pc = .ok (.bipush i, 2)) (hv : (Int8.ofInt i).toInt32 = v) (hp : pc + 2 = pc') (K : Run p l e R s m args below meth c Z wd ro EL n0 ow0 Q h ow cells slots (mkF m pc' Ls (.int v :: st))) : Run p l e R s m args below meth c Z wd ro EL n0 ow0 Q h ow cells slots (mkF m pc Ls st) := by
  subst hp
  exact Run.stp (fun T locs vm0 k0 X H t k => XT.bipushV X.here G.1 rfl v (G.hb hd) hv k) K
theorem sipush (G : Gd p s m meth c y bytes maxL ret Z a0 EL) {i : Int} (v : Int32) (hd : decode bytes pc = .ok (.sipush i, 3)) (hv : (Int16.ofInt i).toInt32 = v) (hp : pc + 3 = pc') (K : Run p l e R s m args below meth c Z wd ro EL n0 ow0 Q h ow cells slots (mkF m pc' Ls (.int v :: st))) : Run p l e R s m args below meth c Z wd ro EL n0 ow0 Q h ow cells slots (mkF m pc Ls st) := by
  subst hp
  exact Run.stp (fun T locs vm0 k0 X H t k => XT.sipushV X.here G.1 rfl v (G.hb hd) hv k) K
theorem aconstNull (G : Gd p s m meth c y bytes maxL ret Z a0 EL)  (hd : decode bytes pc = .ok (.aconst_null, 1))  (hp : pc + 1 = pc') (K : Run p l e R s m args below meth c Z wd ro EL n0 ow0 Q h ow cells slots (mkF m pc' Ls (.null :: st))) : Run p l e R s m args below meth c Z wd ro EL n0 ow0 Q h ow cells slots (mkF m pc Ls st) := by
  subst hp
  exact Run.stp (fun T locs vm0 k0 X H t k => XS.aconstNull X.here G.1 rfl (G.hb hd) k) K
theorem dup (G : Gd p s m meth c y bytes maxL ret Z a0 EL) {v : Value} (hd : decode bytes pc = .ok (.dup, 1)) (hv : v.category = 1) (hp : pc + 1 = pc') (K : Run p l e R s m args below meth c Z wd ro EL n0 ow0 Q h ow cells slots (mkF m pc' Ls (v :: v :: rest))) : Run p l e R s m args below meth c Z wd ro EL n0 ow0 Q h ow cells slots (mkF m pc Ls (v :: rest)) := by
  subst hp
  exact Run.stp (fun T locs vm0 k0 X H t k => XS.dup X.here G.1 rfl (G.hb hd) rfl hv k) K
theorem pop (G : Gd p s m meth c y bytes maxL ret Z a0 EL) {v : Value} (hd : decode bytes pc = .ok (.pop, 1)) (hv : v.category = 1) (hp : pc + 1 = pc') (K : Run p l e R s m args below meth c Z wd ro EL n0 ow0 Q h ow cells slots (mkF m pc' Ls rest)) : Run p l e R s m args below meth c Z wd ro EL n0 ow0 Q h ow cells slots (mkF m pc Ls (v :: rest)) := by
  subst hp
  exact Run.stp (fun T locs vm0 k0 X H t k => XT.pop X.here G.1 rfl (G.hb hd) rfl hv k) K
theorem dupX1 (G : Gd p s m meth c y bytes maxL ret Z a0 EL) {v w : Value} (hd : decode bytes pc = .ok (.dup_x1, 1)) (hv : v.category = 1) (hw : w.category = 1) (hp : pc + 1 = pc') (K : Run p l e R s m args below meth c Z wd ro EL n0 ow0 Q h ow cells slots (mkF m pc' Ls (v :: w :: v :: rest))) : Run p l e R s m args below meth c Z wd ro EL n0 ow0 Q h ow cells slots (mkF m pc Ls (v :: w :: rest)) := by
  subst hp
  exact Run.stp (fun T locs vm0 k0 X H t k => XT.dupX1 X.here G.1 rfl (G.hb hd) rfl hv hw k) K
theorem istoreN (G : Gd p s m meth c y bytes maxL ret Z a0 EL) {k : Fin 4} {x : Int32} (hd : decode bytes pc = .ok (.istore_n k, 1)) (hl : storeLocals Ls k.val (.int x) = some Ls') (hp : pc + 1 = pc') (K : Run p l e R s m args below meth c Z wd ro EL n0 ow0 Q h ow cells slots (mkF m pc' Ls' rest)) : Run p l e R s m args below meth c Z wd ro EL n0 ow0 Q h ow cells slots (mkF m pc Ls (.int x :: rest)) := by
  subst hp
  exact Run.stp (fun T locs vm0 k0 X H t k => XS.istoreN X.here G.1 rfl (G.hb hd) rfl hl k) K
theorem istore (G : Gd p s m meth c y bytes maxL ret Z a0 EL) {k : Nat} {x : Int32} (hd : decode bytes pc = .ok (.istore k, 2)) (hl : storeLocals Ls k (.int x) = some Ls') (hp : pc + 2 = pc') (K : Run p l e R s m args below meth c Z wd ro EL n0 ow0 Q h ow cells slots (mkF m pc' Ls' rest)) : Run p l e R s m args below meth c Z wd ro EL n0 ow0 Q h ow cells slots (mkF m pc Ls (.int x :: rest)) := by
  subst hp
  exact Run.stp (fun T locs vm0 k0 X H t k => XS.istore X.here G.1 rfl (G.hb hd) rfl hl k) K
theorem astoreN (G : Gd p s m meth c y bytes maxL ret Z a0 EL) {k : Fin 4} {x : Value} (hd : decode bytes pc = .ok (.astore_n k, 1)) (hv : x.isRef = true) (hl : storeLocals Ls k.val x = some Ls') (hp : pc + 1 = pc') (K : Run p l e R s m args below meth c Z wd ro EL n0 ow0 Q h ow cells slots (mkF m pc' Ls' rest)) : Run p l e R s m args below meth c Z wd ro EL n0 ow0 Q h ow cells slots (mkF m pc Ls (x :: rest)) := by
  subst hp
  exact Run.stp (fun T locs vm0 k0 X H t k => XS.astoreN X.here G.1 rfl (G.hb hd) rfl hv hl k) K
theorem astore (G : Gd p s m meth c y bytes maxL ret Z a0 EL) {k : Nat} {x : Value} (hd : decode bytes pc = .ok (.astore k, 2)) (hv : x.isRef = true) (hl : storeLocals Ls k x = some Ls') (hp : pc + 2 = pc') (K : Run p l e R s m args below meth c Z wd ro EL n0 ow0 Q h ow cells slots (mkF m pc' Ls' rest)) : Run p l e R s m args below meth c Z wd ro EL n0 ow0 Q h ow cells slots (mkF m pc Ls (x :: rest)) := by
  subst hp
  exact Run.stp (fun T locs vm0 k0 X H t k => XS.astore X.here G.1 rfl (G.hb hd) rfl hv hl k) K
theorem iinc (G : Gd p s m meth c y bytes maxL ret Z a0 EL) {k : Nat} {i : Int} {x : Int32} (v : Int32) (hd : decode bytes pc = .ok (.iinc k i, 3)) (hv : Int32.ofInt i = v) (hl : Ls[k]? = some (.val (.int x))) (hl' : storeLocals Ls k (.int (x + v)) = some Ls') (hp : pc + 3 = pc') (K : Run p l e R s m args below meth c Z wd ro EL n0 ow0 Q h ow cells slots (mkF m pc' Ls' st)) : Run p l e R s m args below meth c Z wd ro EL n0 ow0 Q h ow cells slots (mkF m pc Ls st) := by
  subst hp
  exact Run.stp (fun T locs vm0 k0 X H t k => XT.iincV X.here G.1 rfl v (G.hb hd) hv hl hl' k) K
theorem iadd (G : Gd p s m meth c y bytes maxL ret Z a0 EL) {x z : Int32} (hd : decode bytes pc = .ok (.iadd, 1))  (hp : pc + 1 = pc') (K : ∀ v : Int32, v = x + z → Run p l e R s m args below meth c Z wd ro EL n0 ow0 Q h ow cells slots (mkF m pc' Ls (.int v :: rest))) : Run p l e R s m args below meth c Z wd ro EL n0 ow0 Q h ow cells slots (mkF m pc Ls (.int z :: .int x :: rest)) := by
  subst hp
  exact Run.stp (fun T locs vm0 k0 X H t k => XS.iadd X.here G.1 rfl (G.hb hd) rfl k) (K _ rfl)
theorem isub (G : Gd p s m meth c y bytes maxL ret Z a0 EL) {x z : Int32} (hd : decode bytes pc = .ok (.isub, 1))  (hp : pc + 1 = pc') (K : ∀ v : Int32, v = x - z → Run p l e R s m args below meth c Z wd ro EL n0 ow0 Q h ow cells slots (mkF m pc' Ls (.int v :: rest))) : Run p l e R s m args below meth c Z wd ro EL n0 ow0 Q h ow cells slots (mkF m pc Ls (.int z :: .int x :: rest)) := by
  subst hp
  exact Run.stp (fun T locs vm0 k0 X H t k => XS.isub X.here G.1 rfl (G.hb hd) rfl k) (K _ rfl)
theorem iand (G : Gd p s m meth c y bytes maxL ret Z a0 EL) {x z : Int32} (hd : decode bytes pc = .ok (.iand, 1))  (hp : pc + 1 = pc') (K : ∀ v : Int32, v = x &&& z → Run p l e R s m args below meth c Z wd ro EL n0 ow0 Q h ow cells slots (mkF m pc' Ls (.int v :: rest))) : Run p l e R s m args below meth c Z wd ro EL n0 ow0 Q h ow cells slots (mkF m pc Ls (.int z :: .int x :: rest)) := by
  subst hp
  exact Run.stp (fun T locs vm0 k0 X H t k => XS.iand X.here G.1 rfl (G.hb hd) rfl k) (K _ rfl)
theorem imul (G : Gd p s m meth c y bytes maxL ret Z a0 EL) {x z : Int32} (hd : decode bytes pc = .ok (.imul, 1))  (hp : pc + 1 = pc') (K : ∀ v : Int32, v = x * z → Run p l e R s m args below meth c Z wd ro EL n0 ow0 Q h ow cells slots (mkF m pc' Ls (.int v :: rest))) : Run p l e R s m args below meth c Z wd ro EL n0 ow0 Q h ow cells slots (mkF m pc Ls (.int z :: .int x :: rest)) := by
  subst hp
  exact Run.stp (fun T locs vm0 k0 X H t k => XS.imul X.here G.1 rfl (G.hb hd) rfl k) (K _ rfl)
theorem ior (G : Gd p s m meth c y bytes maxL ret Z a0 EL) {x z : Int32} (hd : decode bytes pc = .ok (.ior, 1))  (hp : pc + 1 = pc') (K : ∀ v : Int32, v = x ||| z → Run p l e R s m args below meth c Z wd ro EL n0 ow0 Q h ow cells slots (mkF m pc' Ls (.int v :: rest))) : Run p l e R s m args below meth c Z wd ro EL n0 ow0 Q h ow cells slots (mkF m pc Ls (.int z :: .int x :: rest)) := by
  subst hp
  exact Run.stp (fun T locs vm0 k0 X H t k => XT.ior X.here G.1 rfl (G.hb hd) rfl k) (K _ rfl)
theorem ixor (G : Gd p s m meth c y bytes maxL ret Z a0 EL) {x z : Int32} (hd : decode bytes pc = .ok (.ixor, 1))  (hp : pc + 1 = pc') (K : ∀ v : Int32, v = x ^^^ z → Run p l e R s m args below meth c Z wd ro EL n0 ow0 Q h ow cells slots (mkF m pc' Ls (.int v :: rest))) : Run p l e R s m args below meth c Z wd ro EL n0 ow0 Q h ow cells slots (mkF m pc Ls (.int z :: .int x :: rest)) := by
  subst hp
  exact Run.stp (fun T locs vm0 k0 X H t k => XT.ixor X.here G.1 rfl (G.hb hd) rfl k) (K _ rfl)
theorem irem (G : Gd p s m meth c y bytes maxL ret Z a0 EL) {x z : Int32} (hd : decode bytes pc = .ok (.irem, 1)) (hz : z ≠ 0) (hp : pc + 1 = pc') (K : ∀ v : Int32, v = x % z → Run p l e R s m args below meth c Z wd ro EL n0 ow0 Q h ow cells slots (mkF m pc' Ls (.int v :: rest))) : Run p l e R s m args below meth c Z wd ro EL n0 ow0 Q h ow cells slots (mkF m pc Ls (.int z :: .int x :: rest)) := by
  subst hp
  exact Run.stp (fun T locs vm0 k0 X H t k => iremM X G.1 rfl (G.hb hd) rfl hz k) (K _ rfl)
theorem ineg (G : Gd p s m meth c y bytes maxL ret Z a0 EL) {x : Int32} (hd : decode bytes pc = .ok (.ineg, 1)) (hp : pc + 1 = pc') (K : ∀ v : Int32, v = -x → Run p l e R s m args below meth c Z wd ro EL n0 ow0 Q h ow cells slots (mkF m pc' Ls (.int v :: rest))) : Run p l e R s m args below meth c Z wd ro EL n0 ow0 Q h ow cells slots (mkF m pc Ls (.int x :: rest)) := by
  subst hp
  exact Run.stp (fun T locs vm0 k0 X H t k => XS.ineg X.here G.1 rfl (G.hb hd) rfl k) (K _ rfl)
theorem i2c (G : Gd p s m meth c y bytes maxL ret Z a0 EL) {x : Int32} (hd : decode bytes pc = .ok (.i2c, 1)) (hp : pc + 1 = pc') (K : ∀ v : Int32, v = x.toUInt32.toUInt16.toUInt32.toInt32 → Run p l e R s m args below meth c Z wd ro EL n0 ow0 Q h ow cells slots (mkF m pc' Ls (.int v :: rest))) : Run p l e R s m args below meth c Z wd ro EL n0 ow0 Q h ow cells slots (mkF m pc Ls (.int x :: rest)) := by
  subst hp
  exact Run.stp (fun T locs vm0 k0 X H t k => XT.i2c X.here G.1 rfl (G.hb hd) rfl k) (K _ rfl)
theorem i2b (G : Gd p s m meth c y bytes maxL ret Z a0 EL) {x : Int32} (hd : decode bytes pc = .ok (.i2b, 1)) (hp : pc + 1 = pc') (K : ∀ v : Int32, v = x.toInt8.toInt32 → Run p l e R s m args below meth c Z wd ro EL n0 ow0 Q h ow cells slots (mkF m pc' Ls (.int v :: rest))) : Run p l e R s m args below meth c Z wd ro EL n0 ow0 Q h ow cells slots (mkF m pc Ls (.int x :: rest)) := by
  subst hp
  exact Run.stp (fun T locs vm0 k0 X H t k => XT.i2b X.here G.1 rfl (G.hb hd) rfl k) (K _ rfl)
theorem ishl (G : Gd p s m meth c y bytes maxL ret Z a0 EL) {x z : Int32} (hd : decode bytes pc = .ok (.ishl, 1))  (hp : pc + 1 = pc') (K : ∀ v : Int32, v = x <<< (z &&& 31) → Run p l e R s m args below meth c Z wd ro EL n0 ow0 Q h ow cells slots (mkF m pc' Ls (.int v :: rest))) : Run p l e R s m args below meth c Z wd ro EL n0 ow0 Q h ow cells slots (mkF m pc Ls (.int z :: .int x :: rest)) := by
  subst hp
  exact Run.stp (fun T locs vm0 k0 X H t k => XT.ishl X.here G.1 rfl (G.hb hd) rfl k) (K _ rfl)
theorem ishr (G : Gd p s m meth c y bytes maxL ret Z a0 EL) {x z : Int32} (hd : decode bytes pc = .ok (.ishr, 1))  (hp : pc + 1 = pc') (K : ∀ v : Int32, v = x >>> (z &&& 31) → Run p l e R s m args below meth c Z wd ro EL n0 ow0 Q h ow cells slots (mkF m pc' Ls (.int v :: rest))) : Run p l e R s m args below meth c Z wd ro EL n0 ow0 Q h ow cells slots (mkF m pc Ls (.int z :: .int x :: rest)) := by
  subst hp
  exact Run.stp (fun T locs vm0 k0 X H t k => XT.ishr X.here G.1 rfl (G.hb hd) rfl k) (K _ rfl)
theorem iushr (G : Gd p s m meth c y bytes maxL ret Z a0 EL) {x z : Int32} (hd : decode bytes pc = .ok (.iushr, 1))  (hp : pc + 1 = pc') (K : ∀ v : Int32, v = (x.toUInt32 >>> (z &&& 31).toUInt32).toInt32 → Run p l e R s m args below meth c Z wd ro EL n0 ow0 Q h ow cells slots (mkF m pc' Ls (.int v :: rest))) : Run p l e R s m args below meth c Z wd ro EL n0 ow0 Q h ow cells slots (mkF m pc Ls (.int z :: .int x :: rest)) := by
  subst hp
  exact Run.stp (fun T locs vm0 k0 X H t k => XT.iushr X.here G.1 rfl (G.hb hd) rfl k) (K _ rfl)
theorem goto (G : Gd p s m meth c y bytes maxL ret Z a0 EL) {o : Int} (hd : decode bytes pc = .ok (.goto o, 3)) (ho : 0 ≤ (pc : Int) + o) (hp : ((pc : Int) + o).toNat = pc') (K : Run p l e R s m args below meth c Z wd ro EL n0 ow0 Q h ow cells slots (mkF m pc' Ls st)) : Run p l e R s m args below meth c Z wd ro EL n0 ow0 Q h ow cells slots (mkF m pc Ls st) :=
  Run.stp (fun T locs vm0 k0 X H t k => XS.goto X.here G.1 rfl rfl (G.hb hd) ho hp k) K
theorem icmp_eq_t (G : Gd p s m meth c y bytes maxL ret Z a0 EL) {o : Int} {x z : Int32} (hd : decode bytes pc = .ok (.if_icmp .eq o, 3)) (hc : x = z) (ho : 0 ≤ (pc : Int) + o) (hp : ((pc : Int) + o).toNat = pc') (K : Run p l e R s m args below meth c Z wd ro EL n0 ow0 Q h ow cells slots (mkF m pc' Ls rest)) : Run p l e R s m args below meth c Z wd ro EL n0 ow0 Q h ow cells slots (mkF m pc Ls (.int z :: .int x :: rest)) :=
  Run.stp (fun T locs vm0 k0 X H t k => XS.icmpYes X.here G.1 rfl rfl (G.hb hd) rfl (XT.ii_eq_t hc) ho hp k) K
theorem icmp_eq_f (G : Gd p s m meth c y bytes maxL ret Z a0 EL) {o : Int} {x z : Int32} (hd : decode bytes pc = .ok (.if_icmp .eq o, 3)) (hc : ¬ x = z) (hp : pc + 3 = pc') (K : Run p l e R s m args below meth c Z wd ro EL n0 ow0 Q h ow cells slots (mkF m pc' Ls rest)) : Run p l e R s m args below meth c Z wd ro EL n0 ow0 Q h ow cells slots (mkF m pc Ls (.int z :: .int x :: rest)) := by
  subst hp
  exact Run.stp (fun T locs vm0 k0 X H t k => XS.icmpNo X.here G.1 rfl (G.hb hd) rfl (XT.ii_eq_f hc) k) K
theorem icmp_eq (G : Gd p s m meth c y bytes maxL ret Z a0 EL) {o : Int} {x z : Int32} {pt pf : Nat} (hd : decode bytes pc = .ok (.if_icmp .eq o, 3)) (ho : 0 ≤ (pc : Int) + o) (hp : ((pc : Int) + o).toNat = pt) (hq : pc + 3 = pf) (K1 : (x = z) → Run p l e R s m args below meth c Z wd ro EL n0 ow0 Q h ow cells slots (mkF m pt Ls rest)) (K2 : (¬ x = z) → Run p l e R s m args below meth c Z wd ro EL n0 ow0 Q h ow cells slots (mkF m pf Ls rest)) : Run p l e R s m args below meth c Z wd ro EL n0 ow0 Q h ow cells slots (mkF m pc Ls (.int z :: .int x :: rest)) := by
  by_cases q : x = z
  · exact icmp_eq_t G hd q ho hp (K1 q)
  · exact icmp_eq_f G hd q hq (K2 q)
theorem icmp_ne_t (G : Gd p s m meth c y bytes maxL ret Z a0 EL) {o : Int} {x z : Int32} (hd : decode bytes pc = .ok (.if_icmp .ne o, 3)) (hc : ¬ x = z) (ho : 0 ≤ (pc : Int) + o) (hp : ((pc : Int) + o).toNat = pc') (K : Run p l e R s m args below meth c Z wd ro EL n0 ow0 Q h ow cells slots (mkF m pc' Ls rest)) : Run p l e R s m args below meth c Z wd ro EL n0 ow0 Q h ow cells slots (mkF m pc Ls (.int z :: .int x :: rest)) :=
  Run.stp (fun T locs vm0 k0 X H t k => XS.icmpYes X.here G.1 rfl rfl (G.hb hd) rfl (XT.ii_ne_t hc) ho hp k) K
theorem icmp_ne_f (G : Gd p s m meth c y bytes maxL ret Z a0 EL) {o : Int} {x z : Int32} (hd : decode bytes pc = .ok (.if_icmp .ne o, 3)) (hc : x = z) (hp : pc + 3 = pc') (K : Run p l e R s m args below meth c Z wd ro EL n0 ow0 Q h ow cells slots (mkF m pc' Ls rest)) : Run p l e R s m args below meth c Z wd ro EL n0 ow0 Q h ow cells slots (mkF m pc Ls (.int z :: .int x :: rest)) := by
  subst hp
  exact Run.stp (fun T locs vm0 k0 X H t k => XS.icmpNo X.here G.1 rfl (G.hb hd) rfl (XT.ii_ne_f hc) k) K
theorem icmp_ne (G : Gd p s m meth c y bytes maxL ret Z a0 EL) {o : Int} {x z : Int32} {pt pf : Nat} (hd : decode bytes pc = .ok (.if_icmp .ne o, 3)) (ho : 0 ≤ (pc : Int) + o) (hp : ((pc : Int) + o).toNat = pt) (hq : pc + 3 = pf) (K1 : (¬ x = z) → Run p l e R s m args below meth c Z wd ro EL n0 ow0 Q h ow cells slots (mkF m pt Ls rest)) (K2 : (x = z) → Run p l e R s m args below meth c Z wd ro EL n0 ow0 Q h ow cells slots (mkF m pf Ls rest)) : Run p l e R s m args below meth c Z wd ro EL n0 ow0 Q h ow cells slots (mkF m pc Ls (.int z :: .int x :: rest)) := by
  by_cases q : x = z
  · exact icmp_ne_f G hd q hq (K2 q)
  · exact icmp_ne_t G hd q ho hp (K1 q)
theorem icmp_lt_t (G : Gd p s m meth c y bytes maxL ret Z a0 EL) {o : Int} {x z : Int32} (hd : decode bytes pc = .ok (.if_icmp .lt o, 3)) (hc : x < z) (ho : 0 ≤ (pc : Int) + o) (hp : ((pc : Int) + o).toNat = pc') (K : Run p l e R s m args below meth c Z wd ro EL n0 ow0 Q h ow cells slots (mkF m pc' Ls rest)) : Run p l e R s m args below meth c Z wd ro EL n0 ow0 Q h ow cells slots (mkF m pc Ls (.int z :: .int x :: rest)) :=
  Run.stp (fun T locs vm0 k0 X H t k => XS.icmpYes X.here G.1 rfl rfl (G.hb hd) rfl (XT.ii_lt_t hc) ho hp k) K
theorem icmp_lt_f (G : Gd p s m meth c y bytes maxL ret Z a0 EL) {o : Int} {x z : Int32} (hd : decode bytes pc = .ok (.if_icmp .lt o, 3)) (hc : ¬ x < z) (hp : pc + 3 = pc') (K : Run p l e R s m args below meth c Z wd ro EL n0 ow0 Q h ow cells slots (mkF m pc' Ls rest)) : Run p l e R s m args below meth c Z wd ro EL n0 ow0 Q h ow cells slots (mkF m pc Ls (.int z :: .int x :: rest)) := by
  subst hp
  exact Run.stp (fun T locs vm0 k0 X H t k => XS.icmpNo X.here G.1 rfl (G.hb hd) rfl (XT.ii_lt_f hc) k) K
theorem icmp_lt (G : Gd p s m meth c y bytes maxL ret Z a0 EL) {o : Int} {x z : Int32} {pt pf : Nat} (hd : decode bytes pc = .ok (.if_icmp .lt o, 3)) (ho : 0 ≤ (pc : Int) + o) (hp : ((pc : Int) + o).toNat = pt) (hq : pc + 3 = pf) (K1 : (x < z) → Run p l e R s m args below meth c Z wd ro EL n0 ow0 Q h ow cells slots (mkF m pt Ls rest)) (K2 : (¬ x < z) → Run p l e R s m args below meth c Z wd ro EL n0 ow0 Q h ow cells slots (mkF m pf Ls rest)) : Run p l e R s m args below meth c Z wd ro EL n0 ow0 Q h ow cells slots (mkF m pc Ls (.int z :: .int x :: rest)) := by
  by_cases q : x < z
  · exact icmp_lt_t G hd q ho hp (K1 q)
  · exact icmp_lt_f G hd q hq (K2 q)
theorem icmp_ge_t (G : Gd p s m meth c y bytes maxL ret Z a0 EL) {o : Int} {x z : Int32} (hd : decode bytes pc = .ok (.if_icmp .ge o, 3)) (hc : ¬ x < z) (ho : 0 ≤ (pc : Int) + o) (hp : ((pc : Int) + o).toNat = pc') (K : Run p l e R s m args below meth c Z wd ro EL n0 ow0 Q h ow cells slots (mkF m pc' Ls rest)) : Run p l e R s m args below meth c Z wd ro EL n0 ow0 Q h ow cells slots (mkF m pc Ls (.int z :: .int x :: rest)) :=
  Run.stp (fun T locs vm0 k0 X H t k => XS.icmpYes X.here G.1 rfl rfl (G.hb hd) rfl (XT.ii_ge_t hc) ho hp k) K
theorem icmp_ge_f (G : Gd p s m meth c y bytes maxL ret Z a0 EL) {o : Int} {x z : Int32} (hd : decode bytes pc = .ok (.if_icmp .ge o, 3)) (hc : x < z) (hp : pc + 3 = pc') (K : Run p l e R s m args below meth c Z wd ro EL n0 ow0 Q h ow cells slots (mkF m pc' Ls rest)) : Run p l e R s m args below meth c Z wd ro EL n0 ow0 Q h ow cells slots (mkF m pc Ls (.int z :: .int x :: rest)) := by
  subst hp
  exact Run.stp (fun T locs vm0 k0 X H t k => XS.icmpNo X.here G.1 rfl (G.hb hd) rfl (XT.ii_ge_f hc) k) K
theorem icmp_ge (G : Gd p s m meth c y bytes maxL ret Z a0 EL) {o : Int} {x z : Int32} {pt pf : Nat} (hd : decode bytes pc = .ok (.if_icmp .ge o, 3)) (ho : 0 ≤ (pc : Int) + o) (hp : ((pc : Int) + o).toNat = pt) (hq : pc + 3 = pf) (K1 : (¬ x < z) → Run p l e R s m args below meth c Z wd ro EL n0 ow0 Q h ow cells slots (mkF m pt Ls rest)) (K2 : (x < z) → Run p l e R s m args below meth c Z wd ro EL n0 ow0 Q h ow cells slots (mkF m pf Ls rest)) : Run p l e R s m args below meth c Z wd ro EL n0 ow0 Q h ow cells slots (mkF m pc Ls (.int z :: .int x :: rest)) := by
  by_cases q : x < z
  · exact icmp_ge_f G hd q hq (K2 q)
  · exact icmp_ge_t G hd q ho hp (K1 q)
theorem icmp_gt_t (G : Gd p s m meth c y bytes maxL ret Z a0 EL) {o : Int} {x z : Int32} (hd : decode bytes pc = .ok (.if_icmp .gt o, 3)) (hc : z < x) (ho : 0 ≤ (pc : Int) + o) (hp : ((pc : Int) + o).toNat = pc') (K : Run p l e R s m args below meth c Z wd ro EL n0 ow0 Q h ow cells slots (mkF m pc' Ls rest)) : Run p l e R s m args below meth c Z wd ro EL n0 ow0 Q h ow cells slots (mkF m pc Ls (.int z :: .int x :: rest)) :=
  Run.stp (fun T locs vm0 k0 X H t k => XS.icmpYes X.here G.1 rfl rfl (G.hb hd) rfl (XT.ii_gt_t hc) ho hp k) K
theorem icmp_gt_f (G : Gd p s m meth c y bytes maxL ret Z a0 EL) {o : Int} {x z : Int32} (hd : decode bytes pc = .ok (.if_icmp .gt o, 3)) (hc : ¬ z < x) (hp : pc + 3 = pc') (K : Run p l e R s m args below meth c Z wd ro EL n0 ow0 Q h ow cells slots (mkF m pc' Ls rest)) : Run p l e R s m args below meth c Z wd ro EL n0 ow0 Q h ow cells slots (mkF m pc Ls (.int z :: .int x :: rest)) := by
  subst hp
  exact Run.stp (fun T locs vm0 k0 X H t k => XS.icmpNo X.here G.1 rfl (G.hb hd) rfl (XT.ii_gt_f hc) k) K
theorem icmp_gt (G : Gd p s m meth c y bytes maxL ret Z a0 EL) {o : Int} {x z : Int32} {pt pf : Nat} (hd : decode bytes pc = .ok (.if_icmp .gt o, 3)) (ho : 0 ≤ (pc : Int) + o) (hp : ((pc : Int) + o).toNat = pt) (hq : pc + 3 = pf) (K1 : (z < x) → Run p l e R s m args below meth c Z wd ro EL n0 ow0 Q h ow cells slots (mkF m pt Ls rest)) (K2 : (¬ z < x) → Run p l e R s m args below meth c Z wd ro EL n0 ow0 Q h ow cells slots (mkF m pf Ls rest)) : Run p l e R s m args below meth c Z wd ro EL n0 ow0 Q h ow cells slots (mkF m pc Ls (.int z :: .int x :: rest)) := by
  by_cases q : z < x
  · exact icmp_gt_t G hd q ho hp (K1 q)
  · exact icmp_gt_f G hd q hq (K2 q)
theorem icmp_le_t (G : Gd p s m meth c y bytes maxL ret Z a0 EL) {o : Int} {x z : Int32} (hd : decode bytes pc = .ok (.if_icmp .le o, 3)) (hc : ¬ z < x) (ho : 0 ≤ (pc : Int) + o) (hp : ((pc : Int) + o).toNat = pc') (K : Run p l e R s m args below meth c Z wd ro EL n0 ow0 Q h ow cells slots (mkF m pc' Ls rest)) : Run p l e R s m args below meth c Z wd ro EL n0 ow0 Q h ow cells slots (mkF m pc Ls (.int z :: .int x :: rest)) :=
  Run.stp (fun T locs vm0 k0 X H t k => XS.icmpYes X.here G.1 rfl rfl (G.hb hd) rfl (XT.ii_le_t hc) ho hp k) K
theorem icmp_le_f (G : Gd p s m meth c y bytes maxL ret Z a0 EL) {o : Int} {x z : Int32} (hd : decode bytes pc = .ok (.if_icmp .le o, 3)) (hc : z < x) (hp : pc + 3 = pc') (K : Run p l e R s m args below meth c Z wd ro EL n0 ow0 Q h ow cells slots (mkF m pc' Ls rest)) : Run p l e R s m args below meth c Z wd ro EL n0 ow0 Q h ow cells slots (mkF m pc Ls (.int z :: .int x :: rest)) := by
  subst hp
  exact Run.stp (fun T locs vm0 k0 X H t k => XS.icmpNo X.here G.1 rfl (G.hb hd) rfl (XT.ii_le_f hc) k) K
theorem icmp_le (G : Gd p s m meth c y bytes maxL ret Z a0 EL) {o : Int} {x z : Int32} {pt pf : Nat} (hd : decode bytes pc = .ok (.if_icmp .le o, 3)) (ho : 0 ≤ (pc : Int) + o) (hp : ((pc : Int) + o).toNat = pt) (hq : pc + 3 = pf) (K1 : (¬ z < x) → Run p l e R s m args below meth c Z wd ro EL n0 ow0 Q h ow cells slots (mkF m pt Ls rest)) (K2 : (z < x) → Run p l e R s m args below meth c Z wd ro EL n0 ow0 Q h ow cells slots (mkF m pf Ls rest)) : Run p l e R s m args below meth c Z wd ro EL n0 ow0 Q h ow cells slots (mkF m pc Ls (.int z :: .int x :: rest)) := by
  by_cases q : z < x
  · exact icmp_le_f G hd q hq (K2 q)
  · exact icmp_le_t G hd q ho hp (K1 q)
theorem if_eq_t (G : Gd p s m meth c y bytes maxL ret Z a0 EL) {o : Int} {x : Int32} (hd : decode bytes pc = .ok (.ifCond .eq o, 3)) (hc : x = 0) (ho : 0 ≤ (pc : Int) + o) (hp : ((pc : Int) + o).toNat = pc') (K : Run p l e R s m args below meth c Z wd ro EL n0 ow0 Q h ow cells slots (mkF m pc' Ls rest)) : Run p l e R s m args below meth c Z wd ro EL n0 ow0 Q h ow cells slots (mkF m pc Ls (.int x :: rest)) :=
  Run.stp (fun T locs vm0 k0 X H t k => XS.ifYes X.here G.1 rfl rfl (G.hb hd) rfl (XT.i0_eq_t hc) ho hp k) K
theorem if_eq_f (G : Gd p s m meth c y bytes maxL ret Z a0 EL) {o : Int} {x : Int32} (hd : decode bytes pc = .ok (.ifCond .eq o, 3)) (hc : ¬ x = 0) (hp : pc + 3 = pc') (K : Run p l e R s m args below meth c Z wd ro EL n0 ow0 Q h ow cells slots (mkF m pc' Ls rest)) : Run p l e R s m args below meth c Z wd ro EL n0 ow0 Q h ow cells slots (mkF m pc Ls (.int x :: rest)) := by
  subst hp
  exact Run.stp (fun T locs vm0 k0 X H t k => XS.ifNo X.here G.1 rfl (G.hb hd) rfl (XT.i0_eq_f hc) k) K
theorem if_eq (G : Gd p s m meth c y bytes maxL ret Z a0 EL) {o : Int} {x : Int32} {pt pf : Nat} (hd : decode bytes pc = .ok (.ifCond .eq o, 3)) (ho : 0 ≤ (pc : Int) + o) (hp : ((pc : Int) + o).toNat = pt) (hq : pc + 3 = pf) (K1 : (x = 0) → Run p l e R s m args below meth c Z wd ro EL n0 ow0 Q h ow cells slots (mkF m pt Ls rest)) (K2 : (¬ x = 0) → Run p l e R s m args below meth c Z wd ro EL n0 ow0 Q h ow cells slots (mkF m pf Ls rest)) : Run p l e R s m args below meth c Z wd ro EL n0 ow0 Q h ow cells slots (mkF m pc Ls (.int x :: rest)) := by
  by_cases q : x = 0
  · exact if_eq_t G hd q ho hp (K1 q)
  · exact if_eq_f G hd q hq (K2 q)
theorem if_ne_t (G : Gd p s m meth c y bytes maxL ret Z a0 EL) {o : Int} {x : Int32} (hd : decode bytes pc = .ok (.ifCond .ne o, 3)) (hc : ¬ x = 0) (ho : 0 ≤ (pc : Int) + o) (hp : ((pc : Int) + o).toNat = pc') (K : Run p l e R s m args below meth c Z wd ro EL n0 ow0 Q h ow cells slots (mkF m pc' Ls rest)) : Run p l e R s m args below meth c Z wd ro EL n0 ow0 Q h ow cells slots (mkF m pc Ls (.int x :: rest)) :=
  Run.stp (fun T locs vm0 k0 X H t k => XS.ifYes X.here G.1 rfl rfl (G.hb hd) rfl (XT.i0_ne_t hc) ho hp k) K
theorem if_ne_f (G : Gd p s m meth c y bytes maxL ret Z a0 EL) {o : Int} {x : Int32} (hd : decode bytes pc = .ok (.ifCond .ne o, 3)) (hc : x = 0) (hp : pc + 3 = pc') (K : Run p l e R s m args below meth c Z wd ro EL n0 ow0 Q h ow cells slots (mkF m pc' Ls rest)) : Run p l e R s m args below meth c Z wd ro EL n0 ow0 Q h ow cells slots (mkF m pc Ls (.int x :: rest)) := by
  subst hp
  exact Run.stp (fun T locs vm0 k0 X H t k => XS.ifNo X.here G.1 rfl (G.hb hd) rfl (XT.i0_ne_f hc) k) K
theorem if_ne (G : Gd p s m meth c y bytes maxL ret Z a0 EL) {o : Int} {x : Int32} {pt pf : Nat} (hd : decode bytes pc = .ok (.ifCond .ne o, 3)) (ho : 0 ≤ (pc : Int) + o) (hp : ((pc : Int) + o).toNat = pt) (hq : pc + 3 = pf) (K1 : (¬ x = 0) → Run p l e R s m args below meth c Z wd ro EL n0 ow0 Q h ow cells slots (mkF m pt Ls rest)) (K2 : (x = 0) → Run p l e R s m args below meth c Z wd ro EL n0 ow0 Q h ow cells slots (mkF m pf Ls rest)) : Run p l e R s m args below meth c Z wd ro EL n0 ow0 Q h ow cells slots (mkF m pc Ls (.int x :: rest)) := by
  by_cases q : x = 0
  · exact if_ne_f G hd q hq (K2 q)
  · exact if_ne_t G hd q ho hp (K1 q)
theorem if_lt_t (G : Gd p s m meth c y bytes maxL ret Z a0 EL) {o : Int} {x : Int32} (hd : decode bytes pc = .ok (.ifCond .lt o, 3)) (hc : x < 0) (ho : 0 ≤ (pc : Int) + o) (hp : ((pc : Int) + o).toNat = pc') (K : Run p l e R s m args below meth c Z wd ro EL n0 ow0 Q h ow cells slots (mkF m pc' Ls rest)) : Run p l e R s m args below meth c Z wd ro EL n0 ow0 Q h ow cells slots (mkF m pc Ls (.int x :: rest)) :=
  Run.stp (fun T locs vm0 k0 X H t k => XS.ifYes X.here G.1 rfl rfl (G.hb hd) rfl (XT.i0_lt_t hc) ho hp k) K
theorem if_lt_f (G : Gd p s m meth c y bytes maxL ret Z a0 EL) {o : Int} {x : Int32} (hd : decode bytes pc = .ok (.ifCond .lt o, 3)) (hc : ¬ x < 0) (hp : pc + 3 = pc') (K : Run p l e R s m args below meth c Z wd ro EL n0 ow0 Q h ow cells slots (mkF m pc' Ls rest)) : Run p l e R s m args below meth c Z wd ro EL n0 ow0 Q h ow cells slots (mkF m pc Ls (.int x :: rest)) := by
  subst hp
  exact Run.stp (fun T locs vm0 k0 X H t k => XS.ifNo X.here G.1 rfl (G.hb hd) rfl (XT.i0_lt_f hc) k) K
theorem if_lt (G : Gd p s m meth c y bytes maxL ret Z a0 EL) {o : Int} {x : Int32} {pt pf : Nat} (hd : decode bytes pc = .ok (.ifCond .lt o, 3)) (ho : 0 ≤ (pc : Int) + o) (hp : ((pc : Int) + o).toNat = pt) (hq : pc + 3 = pf) (K1 : (x < 0) → Run p l e R s m args below meth c Z wd ro EL n0 ow0 Q h ow cells slots (mkF m pt Ls rest)) (K2 : (¬ x < 0) → Run p l e R s m args below meth c Z wd ro EL n0 ow0 Q h ow cells slots (mkF m pf Ls rest)) : Run p l e R s m args below meth c Z wd ro EL n0 ow0 Q h ow cells slots (mkF m pc Ls (.int x :: rest)) := by
  by_cases q : x < 0
  · exact if_lt_t G hd q ho hp (K1 q)
  · exact if_lt_f G hd q hq (K2 q)
theorem if_ge_t (G : Gd p s m meth c y bytes maxL ret Z a0 EL) {o : Int} {x : Int32} (hd : decode bytes pc = .ok (.ifCond .ge o, 3)) (hc : ¬ x < 0) (ho : 0 ≤ (pc : Int) + o) (hp : ((pc : Int) + o).toNat = pc') (K : Run p l e R s m args below meth c Z wd ro EL n0 ow0 Q h ow cells slots (mkF m pc' Ls rest)) : Run p l e R s m args below meth c Z wd ro EL n0 ow0 Q h ow cells slots (mkF m pc Ls (.int x :: rest)) :=
  Run.stp (fun T locs vm0 k0 X H t k => XS.ifYes X.here G.1 rfl rfl (G.hb hd) rfl (XT.i0_ge_t hc) ho hp k) K
theorem if_ge_f (G : Gd p s m meth c y bytes maxL ret Z a0 EL) {o : Int} {x : Int32} (hd : decode bytes pc = .ok (.ifCond .ge o, 3)) (hc : x < 0) (hp : pc + 3 = pc') (K : Run p l e R s m args below meth c Z wd ro EL n0 ow0 Q h ow cells slots (mkF m pc' Ls rest)) : Run p l e R s m args below meth c Z wd ro EL n0 ow0 Q h ow cells slots (mkF m pc Ls (.int x :: rest)) := by
  subst hp
  exact Run.stp (fun T locs vm0 k0 X H t k => XS.ifNo X.here G.1 rfl (G.hb hd) rfl (XT.i0_ge_f hc) k) K
theorem if_ge (G : Gd p s m meth c y bytes maxL ret Z a0 EL) {o : Int} {x : Int32} {pt pf : Nat} (hd : decode bytes pc = .ok (.ifCond .ge o, 3)) (ho : 0 ≤ (pc : Int) + o) (hp : ((pc : Int) + o).toNat = pt) (hq : pc + 3 = pf) (K1 : (¬ x < 0) → Run p l e R s m args below meth c Z wd ro EL n0 ow0 Q h ow cells slots (mkF m pt Ls rest)) (K2 : (x < 0) → Run p l e R s m args below meth c Z wd ro EL n0 ow0 Q h ow cells slots (mkF m pf Ls rest)) : Run p l e R s m args below meth c Z wd ro EL n0 ow0 Q h ow cells slots (mkF m pc Ls (.int x :: rest)) := by
  by_cases q : x < 0
  · exact if_ge_f G hd q hq (K2 q)
  · exact if_ge_t G hd q ho hp (K1 q)
theorem if_gt_t (G : Gd p s m meth c y bytes maxL ret Z a0 EL) {o : Int} {x : Int32} (hd : decode bytes pc = .ok (.ifCond .gt o, 3)) (hc : 0 < x) (ho : 0 ≤ (pc : Int) + o) (hp : ((pc : Int) + o).toNat = pc') (K : Run p l e R s m args below meth c Z wd ro EL n0 ow0 Q h ow cells slots (mkF m pc' Ls rest)) : Run p l e R s m args below meth c Z wd ro EL n0 ow0 Q h ow cells slots (mkF m pc Ls (.int x :: rest)) :=
  Run.stp (fun T locs vm0 k0 X H t k => XS.ifYes X.here G.1 rfl rfl (G.hb hd) rfl (XT.i0_gt_t hc) ho hp k) K
theorem if_gt_f (G : Gd p s m meth c y bytes maxL ret Z a0 EL) {o : Int} {x : Int32} (hd : decode bytes pc = .ok (.ifCond .gt o, 3)) (hc : ¬ 0 < x) (hp : pc + 3 = pc') (K : Run p l e R s m args below meth c Z wd ro EL n0 ow0 Q h ow cells slots (mkF m pc' Ls rest)) : Run p l e R s m args below meth c Z wd ro EL n0 ow0 Q h ow cells slots (mkF m pc Ls (.int x :: rest)) := by
  subst hp
  exact Run.stp (fun T locs vm0 k0 X H t k => XS.ifNo X.here G.1 rfl (G.hb hd) rfl (XT.i0_gt_f hc) k) K
theorem if_gt (G : Gd p s m meth c y bytes maxL ret Z a0 EL) {o : Int} {x : Int32} {pt pf : Nat} (hd : decode bytes pc = .ok (.ifCond .gt o, 3)) (ho : 0 ≤ (pc : Int) + o) (hp : ((pc : Int) + o).toNat = pt) (hq : pc + 3 = pf) (K1 : (0 < x) → Run p l e R s m args below meth c Z wd ro EL n0 ow0 Q h ow cells slots (mkF m pt Ls rest)) (K2 : (¬ 0 < x) → Run p l e R s m args below meth c Z wd ro EL n0 ow0 Q h ow cells slots (mkF m pf Ls rest)) : Run p l e R s m args below meth c Z wd ro EL n0 ow0 Q h ow cells slots (mkF m pc Ls (.int x :: rest)) := by
  by_cases q : 0 < x
  · exact if_gt_t G hd q ho hp (K1 q)
  · exact if_gt_f G hd q hq (K2 q)
theorem if_le_t (G : Gd p s m meth c y bytes maxL ret Z a0 EL) {o : Int} {x : Int32} (hd : decode bytes pc = .ok (.ifCond .le o, 3)) (hc : ¬ 0 < x) (ho : 0 ≤ (pc : Int) + o) (hp : ((pc : Int) + o).toNat = pc') (K : Run p l e R s m args below meth c Z wd ro EL n0 ow0 Q h ow cells slots (mkF m pc' Ls rest)) : Run p l e R s m args below meth c Z wd ro EL n0 ow0 Q h ow cells slots (mkF m pc Ls (.int x :: rest)) :=
  Run.stp (fun T locs vm0 k0 X H t k => XS.ifYes X.here G.1 rfl rfl (G.hb hd) rfl (XT.i0_le_t hc) ho hp k) K
theorem if_le_f (G : Gd p s m meth c y bytes maxL ret Z a0 EL) {o : Int} {x : Int32} (hd : decode bytes pc = .ok (.ifCond .le o, 3)) (hc : 0 < x) (hp : pc + 3 = pc') (K : Run p l e R s m args below meth c Z wd ro EL n0 ow0 Q h ow cells slots (mkF m pc' Ls rest)) : Run p l e R s m args below meth c Z wd ro EL n0 ow0 Q h ow cells slots (mkF m pc Ls (.int x :: rest)) := by
  subst hp
  exact Run.stp (fun T locs vm0 k0 X H t k => XS.ifNo X.here G.1 rfl (G.hb hd) rfl (XT.i0_le_f hc) k) K
theorem if_le (G : Gd p s m meth c y bytes maxL ret Z a0 EL) {o : Int} {x : Int32} {pt pf : Nat} (hd : decode bytes pc = .ok (.ifCond .le o, 3)) (ho : 0 ≤ (pc : Int) + o) (hp : ((pc : Int) + o).toNat = pt) (hq : pc + 3 = pf) (K1 : (¬ 0 < x) → Run p l e R s m args below meth c Z wd ro EL n0 ow0 Q h ow cells slots (mkF m pt Ls rest)) (K2 : (0 < x) → Run p l e R s m args below meth c Z wd ro EL n0 ow0 Q h ow cells slots (mkF m pf Ls rest)) : Run p l e R s m args below meth c Z wd ro EL n0 ow0 Q h ow cells slots (mkF m pc Ls (.int x :: rest)) := by
  by_cases q : 0 < x
  · exact if_le_f G hd q hq (K2 q)
  · exact if_le_t G hd q ho hp (K1 q)
theorem ifnull_t (G : Gd p s m meth c y bytes maxL ret Z a0 EL) {o : Int} (hd : decode bytes pc = .ok (.ifnull o, 3)) (ho : 0 ≤ (pc : Int) + o) (hp : ((pc : Int) + o).toNat = pc') (K : Run p l e R s m args below meth c Z wd ro EL n0 ow0 Q h ow cells slots (mkF m pc' Ls rest)) : Run p l e R s m args below meth c Z wd ro EL n0 ow0 Q h ow cells slots (mkF m pc Ls (.null :: rest)) :=
  Run.stp (fun T locs vm0 k0 X H t k => XS.ifnullYes X.here G.1 rfl rfl (G.hb hd) rfl ho hp k) K
theorem ifnull_f (G : Gd p s m meth c y bytes maxL ret Z a0 EL) {o : Int} {b : Addr} (hd : decode bytes pc = .ok (.ifnull o, 3)) (hp : pc + 3 = pc') (K : Run p l e R s m args below meth c Z wd ro EL n0 ow0 Q h ow cells slots (mkF m pc' Ls rest)) : Run p l e R s m args below meth c Z wd ro EL n0 ow0 Q h ow cells slots (mkF m pc Ls (.ref b :: rest)) := by
  subst hp
  exact Run.stp (fun T locs vm0 k0 X H t k => XS.ifnullNo X.here G.1 rfl (G.hb hd) rfl k) K
theorem ifnonnull_t (G : Gd p s m meth c y bytes maxL ret Z a0 EL) {o : Int} {b : Addr} (hd : decode bytes pc = .ok (.ifnonnull o, 3)) (ho : 0 ≤ (pc : Int) + o) (hp : ((pc : Int) + o).toNat = pc') (K : Run p l e R s m args below meth c Z wd ro EL n0 ow0 Q h ow cells slots (mkF m pc' Ls rest)) : Run p l e R s m args below meth c Z wd ro EL n0 ow0 Q h ow cells slots (mkF m pc Ls (.ref b :: rest)) :=
  Run.stp (fun T locs vm0 k0 X H t k => XT.ifnonnullYes X.here G.1 rfl rfl (G.hb hd) rfl ho hp k) K
theorem ifnonnull_f (G : Gd p s m meth c y bytes maxL ret Z a0 EL) {o : Int} (hd : decode bytes pc = .ok (.ifnonnull o, 3)) (hp : pc + 3 = pc') (K : Run p l e R s m args below meth c Z wd ro EL n0 ow0 Q h ow cells slots (mkF m pc' Ls rest)) : Run p l e R s m args below meth c Z wd ro EL n0 ow0 Q h ow cells slots (mkF m pc Ls (.null :: rest)) := by
  subst hp
  exact Run.stp (fun T locs vm0 k0 X H t k => XT.ifnonnullNo X.here G.1 rfl (G.hb hd) rfl k) K
theorem acmp_eq_t (G : Gd p s m meth c y bytes maxL ret Z a0 EL) {o : Int} {v w : Value} (hd : decode bytes pc = .ok (.if_acmp .eq o, 3)) (hv : v.isRef = true) (hw : w.isRef = true) (hc : v = w) (ho : 0 ≤ (pc : Int) + o) (hp : ((pc : Int) + o).toNat = pc') (K : Run p l e R s m args below meth c Z wd ro EL n0 ow0 Q h ow cells slots (mkF m pc' Ls rest)) : Run p l e R s m args below meth c Z wd ro EL n0 ow0 Q h ow cells slots (mkF m pc Ls (w :: v :: rest)) :=
  Run.stp (fun T locs vm0 k0 X H t k => XT.acmpYes X.here G.1 rfl rfl (G.hb hd) rfl hv hw (XT.aa_eq_t hc) ho hp k) K
theorem acmp_eq_f (G : Gd p s m meth c y bytes maxL ret Z a0 EL) {o : Int} {v w : Value} (hd : decode bytes pc = .ok (.if_acmp .eq o, 3)) (hv : v.isRef = true) (hw : w.isRef = true) (hc : ¬ v = w) (hp : pc + 3 = pc') (K : Run p l e R s m args below meth c Z wd ro EL n0 ow0 Q h ow cells slots (mkF m pc' Ls rest)) : Run p l e R s m args below meth c Z wd ro EL n0 ow0 Q h ow cells slots (mkF m pc Ls (w :: v :: rest)) := by
  subst hp
  exact Run.stp (fun T locs vm0 k0 X H t k => XT.acmpNo X.here G.1 rfl (G.hb hd) rfl hv hw (XT.aa_eq_f hc) k) K
theorem acmp_ne_t (G : Gd p s m meth c y bytes maxL ret Z a0 EL) {o : Int} {v w : Value} (hd : decode bytes pc = .ok (.if_acmp .ne o, 3)) (hv : v.isRef = true) (hw : w.isRef = true) (hc : ¬ v = w) (ho : 0 ≤ (pc : Int) + o) (hp : ((pc : Int) + o).toNat = pc') (K : Run p l e R s m args below meth c Z wd ro EL n0 ow0 Q h ow cells slots (mkF m pc' Ls rest)) : Run p l e R s m args below meth c Z wd ro EL n0 ow0 Q h ow cells slots (mkF m pc Ls (w :: v :: rest)) :=
  Run.stp (fun T locs vm0 k0 X H t k => XT.acmpYes X.here G.1 rfl rfl (G.hb hd) rfl hv hw (XT.aa_ne_t hc) ho hp k) K
theorem acmp_ne_f (G : Gd p s m meth c y bytes maxL ret Z a0 EL) {o : Int} {v w : Value} (hd : decode bytes pc = .ok (.if_acmp .ne o, 3)) (hv : v.isRef = true) (hw : w.isRef = true) (hc : v = w) (hp : pc + 3 = pc') (K : Run p l e R s m args below meth c Z wd ro EL n0 ow0 Q h ow cells slots (mkF m pc' Ls rest)) : Run p l e R s m args below meth c Z wd ro EL n0 ow0 Q h ow cells slots (mkF m pc Ls (w :: v :: rest)) := by
  subst hp
  exact Run.stp (fun T locs vm0 k0 X H t k => XT.acmpNo X.here G.1 rfl (G.hb hd) rfl hv hw (XT.aa_ne_f hc) k) K
theorem ldcInt (G : Gd p s m meth c y bytes maxL ret Z a0 EL) {idx : Nat} {v : Int32} (hd : decode bytes pc = .ok (.ldc idx, 2)) (w : (Jvm.Cond.constant y.cls idx v).before a0 Z = true) (hp : pc + 2 = pc') (K : Run p l e R s m args below meth c Z wd ro EL n0 ow0 Q h ow cells slots (mkF m pc' Ls (.int v :: st))) : Run p l e R s m args below meth c Z wd ro EL n0 ow0 Q h ow cells slots (mkF m pc Ls st) := by
  subst hp
  exact Run.stp (fun T locs vm0 k0 X H t k => X.ldcI G.1 (G.own H.1) (mv (s := s.setVm vm0) H.2.2.1 w) rfl (G.hb hd) k) K
theorem getf (G : Gd p s m meth c y bytes maxL ret Z a0 EL) {idx : Nat} {R0 O n d : String} {a : Addr} {v : Value} (hd : decode bytes pc = .ok (.getfield idx, 3)) (w : (Jvm.Cond.fieldLink y.cls idx R0 n d).before a0 Z = true) (via : Via Z R0 O n d) (F : Fld Z h a O n d v) (hp : pc + 3 = pc') (K : Run p l e R s m args below meth c Z wd ro EL n0 ow0 Q h ow cells slots (mkF m pc' Ls (v :: rest))) : Run p l e R s m args below meth c Z wd ro EL n0 ow0 Q h ow cells slots (mkF m pc Ls (.ref a :: rest)) := by
  subst hp
  exact Run.mov (fun T locs vm0 k0 X H => getF X G.1 H.2.2.1 (host := "") (G.own H.1) (Or.inl w) via H.2.2.2.1 F rfl rfl (G.hb hd)) K
theorem gets (G : Gd p s m meth c y bytes maxL ret Z a0 EL) {idx : Nat} {R0 O n d : String} {v : Value} (hd : decode bytes pc = .ok (.getstatic idx, 3)) (w : (Jvm.Cond.fieldLink y.cls idx R0 n d).before a0 Z = true) (via : Via Z R0 O n d) (F : Sta Z Z.heap O n d v) (hp : pc + 3 = pc') (K : Run p l e R s m args below meth c Z wd ro EL n0 ow0 Q h ow cells slots (mkF m pc' Ls (v :: st))) : Run p l e R s m args below meth c Z wd ro EL n0 ow0 Q h ow cells slots (mkF m pc Ls st) := by
  subst hp
  exact Run.mov (fun T locs vm0 k0 X H => getS X G.1 H.2.2.1 (host := "") (G.own H.1) w via H.2.2.2.1 (F.ext H.2.2.2.2.2.2.2.1.2) rfl (G.hb hd)) K
theorem putf (G : Gd p s m meth c y bytes maxL ret Z a0 EL) {idx kk : Nat} {R0 O n d C : String} {a : Addr} {v old : Value} {ty : FieldType} (hd : decode bytes pc = .ok (.putfield idx, 3)) (w : (Jvm.Cond.fieldLink y.cls idx R0 n d).before a0 Z = true) (via : Via Z R0 O n d) (F : Fld Z h a O n d old) (E : Exa Z h a C) (L : (Jvm.Cond.lays C O n d).before a0 Z = true ∨ ((Jvm.Cond.laysFinal C O n d).before a0 Z = true ∧ y.cls = O ∧ y.name = "<init>")) (wi : (Jvm.Cond.instantiable C kk).before a0 Z = true) (hty : parseFieldDescriptor d = some ty) (hn : narrow ty v = v) (hf : fits ty v = true) (ha : a ∈ ow) (hp : pc + 3 = pc')
    (K : ∀ h', Wr h h' a (RoadKit.slotOf Z O n d) v → Run p l e R s m args below meth c Z wd ro EL n0 ow0 Q h' ow cells slots (mkF m pc' Ls rest)) : Run p l e R s m args below meth c Z wd ro EL n0 ow0 Q h ow cells slots (mkF m pc Ls (v :: .ref a :: rest)) := by
  subst hp
  intro T locs vm0 k0 X H
  obtain ⟨T', h', X', eT, W, st⟩ := putF X G.1 H.2.2.1 (host := "") (G.own H.1) (Or.inl w) via H.2.2.2.1 F E (L.imp id fun q => ⟨q.1, q.2.1, G.2.2.2.2.2.1.trans q.2.2⟩) wi hty hn hf (g := mkF m pc Ls (v :: .ref a :: rest)) rfl rfl (G.hb hd)
  obtain ⟨s₂, o, q, r⟩ := K h' W T' _ vm0 k0 X' (H.wr W ha eT)
  exact ⟨s₂, o, st _ q, r⟩
theorem castOk (G : Gd p s m meth c y bytes maxL ret Z a0 EL) {idx : Nat} {C : String} {a : Addr} (hd : decode bytes pc = .ok (.checkcast idx, 3)) (w : (Jvm.Cond.classLink y.cls idx C).before a0 Z = true) (F : Ins Z h a C true) (hp : pc + 3 = pc') (K : Run p l e R s m args below meth c Z wd ro EL n0 ow0 Q h ow cells slots (mkF m pc' Ls (.ref a :: rest))) : Run p l e R s m args below meth c Z wd ro EL n0 ow0 Q h ow cells slots (mkF m pc Ls (.ref a :: rest)) := by
  subst hp
  exact Run.mov (fun T locs vm0 k0 X H => castY X G.1 H.2.2.1 (G.own H.1) w H.2.2.2.1 F rfl rfl (G.hb hd)) K
theorem instYes (G : Gd p s m meth c y bytes maxL ret Z a0 EL) {idx : Nat} {C : String} {a : Addr} (hd : decode bytes pc = .ok (.instanceof idx, 3)) (w : (Jvm.Cond.classLink y.cls idx C).before a0 Z = true) (F : Ins Z h a C true) (hp : pc + 3 = pc') (K : Run p l e R s m args below meth c Z wd ro EL n0 ow0 Q h ow cells slots (mkF m pc' Ls (.int 1 :: rest))) : Run p l e R s m args below meth c Z wd ro EL n0 ow0 Q h ow cells slots (mkF m pc Ls (.ref a :: rest)) := by
  subst hp
  exact Run.mov (fun T locs vm0 k0 X H => instY X G.1 H.2.2.1 (G.own H.1) w H.2.2.2.1 F rfl rfl (G.hb hd)) K
theorem instNo (G : Gd p s m meth c y bytes maxL ret Z a0 EL) {idx : Nat} {C D : String} {a : Addr} (hd : decode bytes pc = .ok (.instanceof idx, 3)) (w : (Jvm.Cond.classLink y.cls idx C).before a0 Z = true) (F : Ins Z h a C false) (E : Exa Z h a D) (hp : pc + 3 = pc') (K : Run p l e R s m args below meth c Z wd ro EL n0 ow0 Q h ow cells slots (mkF m pc' Ls (.int 0 :: rest))) : Run p l e R s m args below meth c Z wd ro EL n0 ow0 Q h ow cells slots (mkF m pc Ls (.ref a :: rest)) := by
  subst hp
  exact Run.mov (fun T locs vm0 k0 X H => instNAt X G.1 H.2.2.1 (G.own H.1) w H.2.2.2.1 F E rfl rfl (G.hb hd)) K
theorem arrlen (G : Gd p s m meth c y bytes maxL ret Z a0 EL) {a : Addr} {cl : Cell} {ty : FieldType} (hd : decode bytes pc = .ok (.arraylength, 1)) (A : Arr Z h a cl ty) (hp : pc + 1 = pc') (K : Run p l e R s m args below meth c Z wd ro EL n0 ow0 Q h ow cells slots (mkF m pc' Ls (.int cl.slots.size.toInt32 :: rest))) : Run p l e R s m args below meth c Z wd ro EL n0 ow0 Q h ow cells slots (mkF m pc Ls (.ref a :: rest)) := by
  subst hp
  exact Run.stp (fun T locs vm0 k0 X H t k => X.arraylength G.1 (H.cell A) (H.arr A) (g := mkF m pc Ls (.ref a :: rest)) rfl rfl (G.hb hd) t k) K
theorem caload (G : Gd p s m meth c y bytes maxL ret Z a0 EL) {a : Addr} {cl : Cell} {j : Int32} {v : Value} (hd : decode bytes pc = .ok (.caload, 1)) (A : Arr Z h a cl .char) (hj : ¬ (j < 0 ∨ cl.slots.size ≤ j.toNatClampNeg)) (hv : cl.slots[j.toNatClampNeg]? = some v) (hp : pc + 1 = pc') (K : Run p l e R s m args below meth c Z wd ro EL n0 ow0 Q h ow cells slots (mkF m pc' Ls (v :: rest))) : Run p l e R s m args below meth c Z wd ro EL n0 ow0 Q h ow cells slots (mkF m pc Ls (.int j :: .ref a :: rest)) := by
  subst hp
  exact Run.stp (fun T locs vm0 k0 X H t k => X.caload G.1 (H.cell A) (H.arr A) A.2.2 hj hv (g := mkF m pc Ls (.int j :: .ref a :: rest)) rfl rfl (G.hb hd) t k) K
theorem baload (G : Gd p s m meth c y bytes maxL ret Z a0 EL) {a : Addr} {cl : Cell} {j : Int32} {v : Value} (hd : decode bytes pc = .ok (.baload, 1)) (A : Arr Z h a cl .byte) (hj : ¬ (j < 0 ∨ cl.slots.size ≤ j.toNatClampNeg)) (hv : cl.slots[j.toNatClampNeg]? = some v) (hp : pc + 1 = pc') (K : Run p l e R s m args below meth c Z wd ro EL n0 ow0 Q h ow cells slots (mkF m pc' Ls (v :: rest))) : Run p l e R s m args below meth c Z wd ro EL n0 ow0 Q h ow cells slots (mkF m pc Ls (.int j :: .ref a :: rest)) := by
  subst hp
  exact Run.stp (fun T locs vm0 k0 X H t k => X.baloadBytes G.1 (H.cell A) (H.arr A) A.2.2 hj hv (g := mkF m pc Ls (.int j :: .ref a :: rest)) rfl rfl (G.hb hd) t k) K
theorem iaload (G : Gd p s m meth c y bytes maxL ret Z a0 EL) {a : Addr} {cl : Cell} {j : Int32} {v : Value} (hd : decode bytes pc = .ok (.iaload, 1)) (A : Arr Z h a cl .int) (hj : ¬ (j < 0 ∨ cl.slots.size ≤ j.toNatClampNeg)) (hv : cl.slots[j.toNatClampNeg]? = some v) (hp : pc + 1 = pc') (K : Run p l e R s m args below meth c Z wd ro EL n0 ow0 Q h ow cells slots (mkF m pc' Ls (v :: rest))) : Run p l e R s m args below meth c Z wd ro EL n0 ow0 Q h ow cells slots (mkF m pc Ls (.int j :: .ref a :: rest)) := by
  subst hp
  exact Run.stp (fun T locs vm0 k0 X H t k => X.iaload G.1 (H.cell A) (H.arr A) A.2.2 hj hv (g := mkF m pc Ls (.int j :: .ref a :: rest)) rfl rfl (G.hb hd) t k) K
theorem aaload (G : Gd p s m meth c y bytes maxL ret Z a0 EL) {a : Addr} {cl : Cell} {j : Int32} {v : Value} {ty : FieldType} (hd : decode bytes pc = .ok (.aaload, 1)) (A : Arr Z h a cl ty) (hty : ty.isReference = true) (hj : ¬ (j < 0 ∨ cl.slots.size ≤ j.toNatClampNeg)) (hv : cl.slots[j.toNatClampNeg]? = some v) (hp : pc + 1 = pc') (K : Run p l e R s m args below meth c Z wd ro EL n0 ow0 Q h ow cells slots (mkF m pc' Ls (v :: rest))) : Run p l e R s m args below meth c Z wd ro EL n0 ow0 Q h ow cells slots (mkF m pc Ls (.int j :: .ref a :: rest)) := by
  subst hp
  exact Run.stp (fun T locs vm0 k0 X H t k => X.aaload G.1 (H.cell A) (H.arr A) hty A.2.2 hj hv (g := mkF m pc Ls (.int j :: .ref a :: rest)) rfl rfl (G.hb hd) t k) K
theorem castore (G : Gd p s m meth c y bytes maxL ret Z a0 EL) {a : Addr} {cl : Cell} {j x : Int32} (hd : decode bytes pc = .ok (.castore, 1)) (A : Arr Z h a cl .char) (hj : ¬ (j < 0 ∨ cl.slots.size ≤ j.toNatClampNeg)) (ha : a ∈ ow) (hp : pc + 1 = pc') (K : ∀ h', Wr h h' a j.toNatClampNeg (.int (nar .char x)) → Run p l e R s m args below meth c Z wd ro EL n0 ow0 Q h' ow cells slots (mkF m pc' Ls rest)) : Run p l e R s m args below meth c Z wd ro EL n0 ow0 Q h ow cells slots (mkF m pc Ls (.int x :: .int j :: .ref a :: rest)) := by
  subst hp
  intro T locs vm0 k0 X H
  obtain ⟨T', h', X', eT, W, st⟩ := stC X G.1 H.2.2.1 H.2.2.2.1 A hj (g := mkF m pc Ls (.int x :: .int j :: .ref a :: rest)) rfl rfl (G.hb hd)
  obtain ⟨s₂, o, q, r⟩ := K h' W T' _ vm0 k0 X' (H.wr W ha eT)
  exact ⟨s₂, o, st _ q, r⟩
theorem bastore (G : Gd p s m meth c y bytes maxL ret Z a0 EL) {a : Addr} {cl : Cell} {j x : Int32} (hd : decode bytes pc = .ok (.bastore, 1)) (A : Arr Z h a cl .byte) (hj : ¬ (j < 0 ∨ cl.slots.size ≤ j.toNatClampNeg)) (ha : a ∈ ow) (hp : pc + 1 = pc') (K : ∀ h', Wr h h' a j.toNatClampNeg (.int (nar .byte x)) → Run p l e R s m args below meth c Z wd ro EL n0 ow0 Q h' ow cells slots (mkF m pc' Ls rest)) : Run p l e R s m args below meth c Z wd ro EL n0 ow0 Q h ow cells slots (mkF m pc Ls (.int x :: .int j :: .ref a :: rest)) := by
  subst hp
  intro T locs vm0 k0 X H
  obtain ⟨T', h', X', eT, W, st⟩ := stB X G.1 H.2.2.1 H.2.2.2.1 A hj (g := mkF m pc Ls (.int x :: .int j :: .ref a :: rest)) rfl rfl (G.hb hd)
  obtain ⟨s₂, o, q, r⟩ := K h' W T' _ vm0 k0 X' (H.wr W ha eT)
  exact ⟨s₂, o, st _ q, r⟩
theorem newarr (G : Gd p s m meth c y bytes maxL ret Z a0 EL) {aty : ArrayType} {n : Int32} {cap : Nat} (hd : decode bytes pc = .ok (.newarray aty, 2)) (w : (Jvm.Cond.arrayClass (newarray.typeOf aty)).before a0 Z = true) (hn : ¬ n < 0) (hcap : n.toNatClampNeg ≤ cap) (hb : cap * 8 ≤ 536870912) (hc : cells + 1 ≤ R.cells) (hl : slots + cap ≤ R.slots) (hc' : cells + 1 = cells') (hs' : slots + cap = slots') (hp : pc + 2 = pc')
    (K : ∀ (h' : Heap) (cA : ClassId) (a : Addr), a = h.size → Ext h h' → Arr Z h' a (newA cA (newarray.typeOf aty) n) (newarray.typeOf aty) → Run p l e R s m args below meth c Z wd ro EL n0 ow0 Q h' (a :: ow) cells' slots' (mkF m pc' Ls (.ref a :: rest))) : Run p l e R s m args below meth c Z wd ro EL n0 ow0 Q h ow cells slots (mkF m pc Ls (.int n :: rest)) := by
  subst hp hc' hs'
  intro T locs vm0 k0 X H
  obtain ⟨T', h', cA, X', eT, E, A, st⟩ := newP X G.1 H.2.2.1 w H.2.2.2.1 (g := mkF m pc Ls (.int n :: rest)) rfl (G.hb hd) rfl hn hcap hb hc hl
  obtain ⟨s₂, o, q, r⟩ := K h' cA h.size rfl E A T' _ vm0 k0 X' (H.ext E A.lt eT)
  exact ⟨s₂, o, st _ q, r⟩
theorem newobj (G : Gd p s m meth c y bytes maxL ret Z a0 EL) {idx n : Nat} {C : String} (hd : decode bytes pc = .ok (.new idx, 3)) (w : (Jvm.Cond.classLink y.cls idx C).before a0 Z = true) (wi : (Jvm.Cond.instantiable C n).before a0 Z = true) (wz : (Jvm.Cond.initialized C).before a0 Z = true) (hc : cells + 1 ≤ R.cells) (hl : slots + n ≤ R.slots) (hc' : cells + 1 = cells') (hs' : slots + n = slots') (hp : pc + 3 = pc')
    (K : ∀ (h' : Heap) (a : Addr), a = h.size → Ext h h' → Exa Z h' a C → (∀ {O nm d : String} {ty : FieldType}, Laid Z a0 C O nm d → parseFieldDescriptor d = some ty → Fld Z h' a O nm d (defaultValue ty)) → Run p l e R s m args below meth c Z wd ro EL n0 ow0 Q h' (a :: ow) cells' slots' (mkF m pc' Ls (.ref a :: st))) : Run p l e R s m args below meth c Z wd ro EL n0 ow0 Q h ow cells slots (mkF m pc Ls st) := by
  subst hp hc' hs'
  intro T locs vm0 k0 X H
  obtain ⟨T', h', X', eT, E, A, D, -, st⟩ := newO X G.1 H.2.2.1 (G.own H.1) w wi wz H.2.2.2.1 (g := mkF m pc Ls st) rfl (G.hb hd) hc hl
  obtain ⟨s₂, o, q, r⟩ := K h' h.size rfl E A D T' _ vm0 k0 X' (H.ext E A.lt eT)
  exact ⟨s₂, o, st _ q, r⟩
theorem initObj (G : Gd p s m meth c y bytes maxL ret Z a0 EL) {idx : Nat} {a : Addr} {W : Nat} (hd : decode bytes pc = .ok (.invokespecial idx, 3)) (w1 : (Jvm.Cond.methodLink y.cls idx Lib.objectInit).before a0 Z = true) (w2 : (Jvm.Cond.instanceMethod Lib.objectInit).before a0 Z = true) (w3 : (Jvm.Cond.code Lib.objectInit ⟨#[0xb1]⟩ 1 none).before a0 Z = true) (hsz : Ls.size = maxL) (hf : 1 ≤ R.frames) (hW : (rest.map fun v => v.category).sum ≤ W) (hl : W + 12 ≤ R.locals) (hp : pc + 3 = pc') (K : Run p l e R s m args below meth c Z wd ro EL n0 ow0 Q h ow cells slots (mkF m pc' Ls rest)) : Run p l e R s m args below meth c Z wd ro EL n0 ow0 Q h ow cells slots (mkF m pc Ls (.ref a :: rest)) := by
  subst hp
  exact Run.mov (fun T locs vm0 k0 X H => initO X G.1 H.2.2.1 (G.own H.1) w1 w2 w3 H.2.2.2.1 rfl (hsz.trans G.2.2.1.symm) rfl (G.hb hd) hf (by show 2 * 0 + _ ≤ W; omega) hl) K
theorem instNull (G : Gd p s m meth c y bytes maxL ret Z a0 EL) {idx : Nat} (hd : decode bytes pc = .ok (.instanceof idx, 3)) (hp : pc + 3 = pc') (K : Run p l e R s m args below meth c Z wd ro EL n0 ow0 Q h ow cells slots (mkF m pc' Ls (.int 0 :: rest))) : Run p l e R s m args below meth c Z wd ro EL n0 ow0 Q h ow cells slots (mkF m pc Ls (.null :: rest)) := by
  subst hp
  exact Run.stp (fun T locs vm0 k0 X H t k => X.instanceofNull G.1 (g := mkF m pc Ls (.null :: rest)) rfl rfl (G.hb hd) t k) K
theorem cloneArr (G : Gd p s m meth c y bytes maxL ret Z a0 EL) {idx cap W : Nat} {ad : String} {a : Addr} {cl : Cell} {ty : FieldType} (hd : decode bytes pc = .ok (.invokevirtual idx, 3)) (w1 : (Jvm.Cond.methodLink y.cls idx ⟨ad, "clone", "()Ljava/lang/Object;"⟩).before a0 Z = true) (w2 : (Jvm.Cond.sameMethod ad "java/lang/Object" "clone" "()Ljava/lang/Object;").before a0 Z = true) (w3 : (Jvm.Cond.native ⟨"java/lang/Object", "clone", "()Ljava/lang/Object;"⟩).before a0 Z = true) (w4 : (Jvm.Cond.instanceMethod ⟨"java/lang/Object", "clone", "()Ljava/lang/Object;"⟩).before a0 Z = true) (w5 : (Jvm.Cond.selects ad ⟨ad, "clone", "()Ljava/lang/Object;"⟩ ⟨"java/lang/Object", "clone", "()Ljava/lang/Object;"⟩).before a0 Z = true) (w6 : (Jvm.Cond.castable ad "java/lang/Cloneable").before a0 Z = true)
    (A : Arr Z h a cl ty) (E : Exa Z h a ad) (F : FitC Z cl) (hsz : Ls.size = maxL) (hf : 1 ≤ R.frames) (hW : (rest.map fun v => v.category).sum ≤ W) (hl : W + 14 ≤ R.locals) (hcap : cl.slots.size ≤ cap) (hc : cells + 1 ≤ R.cells) (hsl : slots + cap ≤ R.slots) (hc' : cells + 1 = cells') (hs' : slots + cap = slots') (hp : pc + 3 = pc')
    (K : ∀ (h' : Heap) (a' : Addr), a' = h.size → Ext h h' → Arr Z h' a' (cloneOf cl) ty → Exa Z h' a' ad → Run p l e R s m args below meth c Z wd ro EL n0 ow0 Q h' (a' :: ow) cells' slots' (mkF m pc' Ls (.ref a' :: rest))) : Run p l e R s m args below meth c Z wd ro EL n0 ow0 Q h ow cells slots (mkF m pc Ls (.ref a :: rest)) := by
  subst hp hc' hs'
  intro T locs vm0 k0 X H
  obtain ⟨T', h', X', eT, Ex, A', E', st⟩ := cloneA X G.1 H.2.2.1 (G.own H.1) w1 w2 w3 w4 w5 w6 H.2.2.2.1 A E F (g := mkF m pc Ls (.ref a :: rest)) rfl (hsz.trans G.2.2.1.symm) rfl (G.hb hd) hf (W := W) (by show 2 * 0 + _ ≤ W; omega) hl hcap hc hsl
  obtain ⟨s₂, o, q, r⟩ := K h' h.size rfl Ex A' E' T' _ vm0 k0 X' (H.ext Ex A'.lt eT)
  exact ⟨s₂, o, st _ q, r⟩
theorem ldcStr (G : Gd p s m meth c y bytes maxL ret Z a0 EL) {idx n : Nat} {text : String} {vs : List Value} {z : Int32} (hd : decode bytes pc = .ok (.ldc idx, 2)) (hwd : wd = true) (w : (Jvm.Cond.stringLink y.cls idx text).before a0 Z = true) (wS : ∀ a ∈ Bundle.stringAtoms, a.before a0 Z = true) (hmem : (y.cls, idx) ∈ EL)
    (ht : (∀ c ∈ text.toList, c.toNat < 256) ∧ text.toList.map (fun c => Value.int (Jvm.Lit.byteI c.toNat.toUInt16)) = vs) (hz : ¬ z < 0) (hl : z.toNatClampNeg = vs.length) (hn : 4 * text.toList.length ≤ n) (hbig : n ≤ 536870912) (hc : cells + 2 ≤ R.cells) (hl' : slots + (n + 4) ≤ R.slots) (hc' : cells + 2 = cells') (hs' : slots + (n + 4) = slots') (hp : pc + 2 = pc')
    (K : ∀ (a b : Addr) (k : ClassId) (h' : Heap), Ext h h' → Exa Z h' a "java/lang/String" → Fld Z h' a "java/lang/String" "coder" "B" (.int 0) → Fld Z h' a "java/lang/String" "value" "[B" (.ref b) → Arv Z h' b k .byte z vs (.int 0) → (∀ x ∈ ow, x ≠ a ∧ x ≠ b) → Run p l e R s m args below meth c Z wd ro EL n0 ow0 Q h' ow cells' slots' (mkF m pc' Ls (.ref a :: st))) : Run p l e R s m args below meth c Z wd ro EL n0 ow0 Q h ow cells slots (mkF m pc Ls st) := by
  subst hp hc' hs'
  intro T locs vm0 k0 X H
  obtain ⟨i1, i2, i3, i4, i5, i6, i7, i8, i9, i10⟩ := H
  obtain ⟨a, T', h', k1, b, k, X', eT, E, hS, hk, hW, -, q1, q2, q3, q4, -, -, hC, -, hne, st⟩ := ldcCH X G.1 i3 (G.own i1) w wS i4 i1 i2 G.2.2.2.2.2.2.2 hmem i6.1 ht hz hl (g := mkF m pc Ls st) rfl (G.hb hd) hn hbig hc hl'
  have hsafe : ∀ x ∈ ow, Safe Z EL T'.vm h' x := fun x hx => hC.safe (i9 x hx).2.1 (i9 x hx).1
  obtain ⟨s₂, o, q, r⟩ := K a b k h' E q1 q2 q3 q4 (fun x hx => hne x (hsafe x hx)) T' locs T'.vm k1 X' ⟨hS, hk, hW, eT, i5, i6.trans hC, i7.ext E, i8.ext E, fun x hx => ⟨hsafe x hx, Nat.lt_of_lt_of_le (i9 x hx).2.1 E.1, (i9 x hx).2.2⟩, Or.inl hwd⟩
  exact ⟨s₂, o, st _ q, r⟩
theorem ldcOpaque (G : Gd p s m meth c y bytes maxL ret Z a0 EL) {idx n : Nat} {text : String} (hd : decode bytes pc = .ok (.ldc idx, 2)) (hwd : wd = true) (w : (Jvm.Cond.stringLink y.cls idx text).before a0 Z = true) (wS : ∀ a ∈ Bundle.stringAtoms, a.before a0 Z = true)
    (hn : 4 * text.toList.length ≤ n) (hbig : n ≤ 536870912) (hc : cells + 2 ≤ R.cells) (hl' : slots + (n + 4) ≤ R.slots) (hc' : cells + 2 = cells') (hs' : slots + (n + 4) = slots') (hp : pc + 2 = pc')
    (K : ∀ (a : Addr) (h' : Heap), Ext h h' → Run p l e R s m args below meth c Z wd ro EL n0 ow0 Q h' ow cells' slots' (mkF m pc' Ls (.ref a :: st))) : Run p l e R s m args below meth c Z wd ro EL n0 ow0 Q h ow cells slots (mkF m pc Ls st) := by
  subst hp hc' hs'
  intro T locs vm0 k0 X H
  obtain ⟨i1, i2, i3, i4, i5, i6, i7, i8, i9, i10⟩ := H
  obtain ⟨a, T', h', k1, X', eT, E, hS, hk, hW, -, hC, -, st⟩ := ldcOH X G.1 i3 (G.own i1) w wS i4 i1 i2 G.2.2.2.2.2.2.2 i6.1 (g := mkF m pc Ls st) rfl (G.hb hd) hn hbig hc hl'
  have hsafe : ∀ x ∈ ow, Safe Z EL T'.vm h' x := fun x hx => hC.safe (i9 x hx).2.1 (i9 x hx).1
  obtain ⟨s₂, o, q, r⟩ := K a h' E T' locs T'.vm k1 X' ⟨hS, hk, hW, eT, i5, i6.trans hC, i7.ext E, i8.ext E, fun x hx => ⟨hsafe x hx, Nat.lt_of_lt_of_le (i9 x hx).2.1 E.1, (i9 x hx).2.2⟩, Or.inl hwd⟩
  exact ⟨s₂, o, st _ q, r⟩
theorem fin (G : Gd p s m meth c y bytes maxL ret Z a0 EL) {v : Option Value} {g : JFrame} (hro : ro = true → ∀ d, v = some (.ref d) → d ∈ ow ∧ d ∉ ow0) (hv : ret = none → v = none) (hc : cells ≤ R.cells) (hs : slots ≤ R.slots) (q : Q v h)
    (stp : ∀ (T : State) (locs : List Loc) (vm0 : Vm) (k0 : Nat) (fs : List Frame), Stand p l e R (s.setVm vm0) m args below meth c T locs cells slots → (∀ (f : JFrame) (acts : List Action), f.method = m → f.locked = none → f.entered = [] → (doReturn e (T.setTop f) acts v).1 = T.setFrames fs) → Steps p.tables e below (T.setTop g) (T.setFrames fs)) : Run p l e R s m args below meth c Z wd ro EL n0 ow0 Q h ow cells slots g := by
  intro T locs vm0 k0 X H
  obtain ⟨i1, i2, i3, i4, i5, i6, i7, i8, i9, i10⟩ := H
  obtain ⟨fs, hr, hrun, hended, hW⟩ := X.leaveW i1 (by rw [i4]; exact i2) (v := v) (fun h => hv (G.2.2.2.2.1.symm.trans h)) G.2.2.2.2.2.2.1
  have hT : (T.setFrames fs).heap = h := i4
  have hA := CHv.at X i3 G.2.2.2.2.2.2.2 i6.1
  refine ⟨_, _, stp T locs vm0 k0 fs X hr, hrun, hended, v, locs, rfl, by rw [hT]; exact q, i5, by rw [hT]; exact i6.trans hA, by rw [hT]; exact i7, ⟨hW.1, hW.2.1, hW.2.2.1, hW.2.2.2.mono hc hs⟩, i10.imp id (fun w => State.WarmedH.trans (t := s.setVm vm0) w X.warmed), fun hr d hd => ?_⟩
  obtain ⟨q1, q2⟩ := hro hr d hd
  obtain ⟨w1, w2, w3, w4⟩ := i9 d q1
  rw [hT]
  exact ⟨hA.safe w2 w1, w2, w3, w4.elim (fun z => absurd z q2) id⟩
theorem retInt (G : Gd p s m meth c y bytes maxL ret Z a0 EL) {z : Int32} (hd : decode bytes pc = .ok (.ireturn, 1)) (hret : ret = some .int) (hc : cells ≤ R.cells) (hs : slots ≤ R.slots) (q : Q (some (.int z)) h) : Run p l e R s m args below meth c Z wd ro EL n0 ow0 Q h ow cells slots (mkF m pc Ls (.int z :: rest)) :=
  fin G (fun _ d z => by cases z) (fun h => by rw [hret] at h; cases h) hc hs q fun T locs vm0 k0 fs X hr => retOut X G.1 (G.2.2.2.2.1.trans hret) rfl (Or.inl ⟨rfl, Or.inl rfl, z, rfl⟩) (G.hb hd) hr
theorem retNar (G : Gd p s m meth c y bytes maxL ret Z a0 EL) {z : Int32} {t : FieldType} (hd : decode bytes pc = .ok (.ireturn, 1)) (hret : ret = some t) (ht : t = .boolean ∨ t = .byte ∨ t = .char ∨ t = .short) (hc : cells ≤ R.cells) (hs : slots ≤ R.slots) (q : Q (some (.int (nar t z))) h) : Run p l e R s m args below meth c Z wd ro EL n0 ow0 Q h ow cells slots (mkF m pc Ls (.int z :: rest)) :=
  fin G (fun _ d z => by cases z) (fun h => by rw [hret] at h; cases h) hc hs q fun T locs vm0 k0 fs X hr => retN X G.1 (G.2.2.2.2.1.trans hret) ht (G.hb hd) hr
theorem retRef (G : Gd p s m meth c y bytes maxL ret Z a0 EL) {v : Value} {t : FieldType} (hro : ro = false) (hd : decode bytes pc = .ok (.areturn, 1)) (hret : ret = some t) (ht : t.isReference = true) (hv : v.isRef = true) (hc : cells ≤ R.cells) (hs : slots ≤ R.slots) (q : Q (some v) h) : Run p l e R s m args below meth c Z wd ro EL n0 ow0 Q h ow cells slots (mkF m pc Ls (v :: rest)) :=
  fin G (fun z => by rw [hro] at z; cases z) (fun h => by rw [hret] at h; cases h) hc hs q fun T locs vm0 k0 fs X hr => retOut X G.1 (G.2.2.2.2.1.trans hret) (by cases t <;> cases v <;> first | rfl | (simp [Value.isRef, FieldType.isReference] at hv ht)) (Or.inr (Or.inr (Or.inr (Or.inr ⟨rfl, ht, hv⟩)))) (G.hb hd) hr
theorem retOwn (G : Gd p s m meth c y bytes maxL ret Z a0 EL) {a : Addr} {t : FieldType} (ha : a ∈ ow) (hn : a ∉ ow0) (hd : decode bytes pc = .ok (.areturn, 1)) (hret : ret = some t) (ht : t.isReference = true) (hc : cells ≤ R.cells) (hs : slots ≤ R.slots) (q : Q (some (.ref a)) h) : Run p l e R s m args below meth c Z wd ro EL n0 ow0 Q h ow cells slots (mkF m pc Ls (.ref a :: rest)) :=
  fin G (fun _ d z => by cases z; exact ⟨ha, hn⟩) (fun h => by rw [hret] at h; cases h) hc hs q fun T locs vm0 k0 fs X hr => retOut X G.1 (G.2.2.2.2.1.trans hret) (by cases t <;> first | rfl | (simp [FieldType.isReference] at ht)) (Or.inr (Or.inr (Or.inr (Or.inr ⟨rfl, ht, rfl⟩)))) (G.hb hd) hr
theorem retVoid (G : Gd p s m meth c y bytes maxL ret Z a0 EL) (hd : decode bytes pc = .ok (.return_, 1)) (hret : ret = none) (hc : cells ≤ R.cells) (hs : slots ≤ R.slots) (q : Q none h) : Run p l e R s m args below meth c Z wd ro EL n0 ow0 Q h ow cells slots (mkF m pc Ls []) :=
  fin G (fun _ d z => by cases z) (fun _ => rfl) hc hs q fun T locs vm0 k0 fs X hr => X.returnOut G.1 (G.2.2.2.2.1.trans hret) (G.hb hd) hr
/-- a callee's contract pays the call -/
theorem backG {y' : MethodName} {bytes' : ByteArray} {maxL' : Nat} {ret' : Option FieldType} {rm : Room} {len W : Nat} {as' : Array Value} {owc : List Addr} {Q' : Option Value → Heap → Prop} {ro' : Bool} {vm0 : Vm}
    (C : Con l Z wd ro' EL n0 y' bytes' maxL' ret' rm [] as' h owc Q') (hZ : Z.Warmed39 vm0) (wc : (Jvm.Cond.code y' bytes' maxL' ret').before a0 Z = true) (wz : (Jvm.Cond.initialized y'.cls).before a0 Z = true) (hf : rm.frames + 1 ≤ R.frames) (hl : W + (maxL' + 11) + rm.locals ≤ R.locals) (hEL : EW Z a0 EL) (H : CHv Z EL vm0 h) (hO : Old Z n0 h) (hS : ∀ x ∈ owc, Safe Z EL vm0 h x ∧ x < h.size ∧ n0 ≤ x) :
    BackS l R p e below (s.setVm vm0) args y' len W (fun A a => a = as' ∧ A.U.heap = h ∧ A.cells + rm.cells ≤ R.cells ∧ A.slots + rm.slots ≤ R.slots)
      (fun A _ v B => ∃ L, Q' v B.U.heap ∧ Fr n0 L ∧ Keep h B.U.heap owc ∧ B.locs = A.locs ++ L ∧ B.cells = A.cells + rm.cells ∧ B.slots = A.slots + rm.slots ∧ CHr Z EL vm0 h B.U.vm B.U.heap ∧ (wd = true ∨ (s.setVm vm0).WarmedH B.U.vm) ∧ (ro' = true → ∀ d, v = some (.ref d) → Safe Z EL B.U.vm B.U.heap d ∧ d < B.U.heap.size ∧ n0 ≤ d ∧ h.size ≤ d)) :=
  BackS.of_freeW (bytes := bytes') (maxL := maxL') (ret := ret') (E := fun _ first o t L k n => k = rm.cells ∧ n = rm.slots ∧ (∃ v, o = .returned v ∧ Q' v t.heap) ∧ Fr n0 L ∧ Keep first.heap t.heap owc ∧ CHr Z EL first.vm first.heap t.vm t.heap ∧ (wd = true ∨ first.WarmedH t.vm) ∧ (ro' = true → ∀ v d, o = .returned v → v = some (.ref d) → Safe Z EL t.vm t.heap d ∧ d < t.heap.size ∧ n0 ≤ d ∧ first.heap.size ≤ d)) C hf hl
    (fun m meth c A a Y hp => have hU : Z.Warmed39 A.U.vm := wtrans (s := s.setVm vm0) hZ Y.warmed
      ⟨by show (Cond.and _ .tt).before a A.U = true; rw [Cond.before_and, mv hU wc]; rfl, mv hU wc, mv hU wz, hp.2.2.1, hp.2.2.2⟩)
    (fun m meth c A a g mk Y hp => ⟨hp.1, wtrans (s := s.setVm vm0) hZ Y.warmed, hp.2.1, hO, (CHv.at Y hZ hEL H).1, fun x hx => ⟨(CHv.at Y hZ hEL H).safe (hS x hx).2.1 (hS x hx).1, (hS x hx).2⟩⟩) (fun _ _ _ _ _ _ _ _ _ => trivial)
    (fun _ _ _ _ ⟨v, L, h1, h2, h3, h4, h5, h6, h7, h8⟩ => ⟨L, _, _, h6, rfl, rfl, ⟨v, h1, h2⟩, h3, h5, h4, h7, fun hr w d e1 e2 => h8 hr d (by rw [h1] at e1; cases e1; exact e2)⟩)
    (fun m meth c A a g mk v t L k n Y hp _ _ ⟨e1, e2, ⟨v', e3, e4⟩, e5, e6, e7, e8, e9⟩ => by
      cases e3; subst e1 e2
      have hh : (A.U.calling g mk a).heap = h := hp.2.1
      rw [hh] at e6 e7 e9
      exact ⟨L, e4, e5, e6, rfl, rfl, rfl, (CHv.at Y hZ hEL H).trans e7, e8.imp id (fun w => State.WarmedH.trans (t := A.U) Y.warmed w), fun hr d hd => e9 hr v d rfl hd⟩)
theorem Hid.call {T T' : State} {locs L : List Loc} {vm0 : Vm} {k0 : Nat} {owc : List Addr} (H : Hid s Z wd EL n0 ow0 ow T locs vm0 k0 h) (how : ∀ x ∈ owc, x ∈ ow) (hS : (s.setVm vm0).Since T'.vm T'.heap.size) (N : Fr n0 L) (K : Keep h T'.heap owc) (hC : CHr Z EL vm0 h T'.vm T'.heap) (hw : wd = true ∨ (s.setVm vm0).WarmedH T'.vm) :
    Hid s Z wd EL n0 ow0 ow T' (locs ++ L) T'.vm T'.heap.size T'.heap := by
  obtain ⟨i1, i2, i3, i4, i5, i6, i7, i8, i9, i10⟩ := H
  refine ⟨i1.trans hS (Nat.le_trans i2 K.1), Nat.le_refl _, State.Warmed39.trans (t := s.setVm vm0) i3 hS.1, rfl, i5.app N, i6.trans hC, i7.trans K (fun x hx => (i9 x (how x hx)).2.2.2), i8.keep K (fun x hx => (i9 x (how x hx)).2.2.1), fun x hx => ⟨hC.safe (i9 x hx).2.1 (i9 x hx).1, Nat.lt_of_lt_of_le (i9 x hx).2.1 K.1, (i9 x hx).2.2⟩, ?_⟩
  rcases hw with hw | hw
  · exact Or.inl hw
  · exact i10.imp id fun w => State.WarmedH.trans (t := s.setVm vm0) w hw
theorem Hid.own {T : State} {locs : List Loc} {vm0 : Vm} {k0 : Nat} {d : Addr} (H : Hid s Z wd EL n0 ow0 ow T locs vm0 k0 h) (q : Safe Z EL vm0 h d ∧ d < h.size ∧ n0 ≤ d ∧ (d ∈ ow0 ∨ s.heap.size ≤ d)) : Hid s Z wd EL n0 ow0 (d :: ow) T locs vm0 k0 h := by
  obtain ⟨i1, i2, i3, i4, i5, i6, i7, i8, i9, i10⟩ := H
  refine ⟨i1, i2, i3, i4, i5, i6, i7, i8, fun x hx => ?_, i10⟩
  rcases List.mem_cons.mp hx with rfl | hx
  · exact q
  · exact i9 x hx
theorem callStatic (G : Gd p s m meth c y bytes maxL ret Z a0 EL) {idx : Nat} {y' : MethodName} {bytes' : ByteArray} {maxL' : Nat} {ret' : Option FieldType} {rm : Room} {W : Nat} {argsL : List Value} {owc : List Addr} {Q' : Option Value → Heap → Prop} {ro' : Bool} (hd : decode bytes pc = .ok (.invokestatic idx, 3))
    (w1 : (Jvm.Cond.methodLink y.cls idx y').before a0 Z = true) (w2 : (Jvm.Cond.static y').before a0 Z = true) (w3 : (Jvm.Cond.initialized y'.cls).before a0 Z = true) (w4 : (Jvm.Cond.code y' bytes' maxL' ret').before a0 Z = true) (hy : y'.cls ≠ "java/lang/invoke/MethodHandle" ∧ y'.cls ≠ "java/lang/invoke/VarHandle")
    (C : Con l Z wd ro' EL n0 y' bytes' maxL' ret' rm [] argsL.toArray h owc Q') (hst : st = argsL.reverse ++ rest) (hlen : ∀ sig, parseMethodDescriptor y'.desc = some sig → argsL.length = sig.parameters.length) (hsz : Ls.size = maxL) (hfr : rm.frames + 1 ≤ R.frames) (hW : (rest.map fun v => v.category).sum ≤ W) (hlo : W + (maxL' + 11) + rm.locals ≤ R.locals) (hc : cells + rm.cells ≤ R.cells) (hs : slots + rm.slots ≤ R.slots) (how : ∀ x ∈ owc, x ∈ ow) (hc' : cells + rm.cells = cells') (hs' : slots + rm.slots = slots') (hp : pc + 3 = pc')
    (K : ∀ (v : Option Value) (h' : Heap), Q' v h' → Keep h h' owc → Run p l e R s m args below meth c Z wd ro EL n0 ow0 Q h' ow cells' slots' (mkF m pc' Ls (v.toList ++ rest))) : Run p l e R s m args below meth c Z wd ro EL n0 ow0 Q h ow cells slots (mkF m pc Ls st) := by
  subst hp hst hc' hs'
  intro T locs vm0 k0 X H
  have hZ := H.2.2.1
  obtain ⟨v, vm₁, B, -, X', hS, -, ⟨L, q1, q2, q3, q4, q5, q6, q7, q8, q9⟩, stp⟩ := callSS X G.1 (bytes := bytes') (maxL := maxL') (ret := ret') (G.own H.1) (mv (s := s.setVm vm0) hZ w1) (mv (s := s.setVm vm0) hZ w2) (mv (s := s.setVm vm0) hZ w3) (mv (s := s.setVm vm0) hZ w4) hy
    (backG C hZ w4 w3 hfr hlo G.2.2.2.2.2.2.2 H.2.2.2.2.2.1.1 H.2.2.2.2.2.2.2.1 (fun x hx => ⟨(H.2.2.2.2.2.2.2.2.1 x (how x hx)).1, (H.2.2.2.2.2.2.2.2.1 x (how x hx)).2.1, (H.2.2.2.2.2.2.2.2.1 x (how x hx)).2.2.1⟩)) (g := mkF m pc Ls (argsL.reverse ++ rest)) rfl (hsz.trans G.2.2.1.symm) hlen rfl (by show 2 * 0 + _ ≤ W; omega) (G.hb hd) (fun _ _ => ⟨rfl, H.2.2.2.1, hc, hs⟩)
  obtain ⟨T', Lc, kc, nc⟩ := B
  dsimp only [Pt.U, Pt.locs, Pt.cells, Pt.slots] at X' q1 q3 q4 q5 q6 q7 q8 q9 hS stp
  subst q4 q5 q6
  obtain ⟨s₂, o, q, r⟩ := K v T'.heap q1 q3 T' (locs ++ L) T'.vm T'.heap.size X' (H.call how hS q2 q3 q7 q8)
  exact ⟨s₂, o, stp.trans q, r⟩
theorem callStaticO (G : Gd p s m meth c y bytes maxL ret Z a0 EL) {idx : Nat} {y' : MethodName} {bytes' : ByteArray} {maxL' : Nat} {ret' : Option FieldType} {rm : Room} {W : Nat} {argsL : List Value} {owc : List Addr} {Q' : Option Value → Heap → Prop} (hd : decode bytes pc = .ok (.invokestatic idx, 3))
    (w1 : (Jvm.Cond.methodLink y.cls idx y').before a0 Z = true) (w2 : (Jvm.Cond.static y').before a0 Z = true) (w3 : (Jvm.Cond.initialized y'.cls).before a0 Z = true) (w4 : (Jvm.Cond.code y' bytes' maxL' ret').before a0 Z = true) (hy : y'.cls ≠ "java/lang/invoke/MethodHandle" ∧ y'.cls ≠ "java/lang/invoke/VarHandle")
    (C : Con l Z wd true EL n0 y' bytes' maxL' ret' rm [] argsL.toArray h owc Q') (hst : st = argsL.reverse ++ rest) (hlen : ∀ sig, parseMethodDescriptor y'.desc = some sig → argsL.length = sig.parameters.length) (hsz : Ls.size = maxL) (hfr : rm.frames + 1 ≤ R.frames) (hW : (rest.map fun v => v.category).sum ≤ W) (hlo : W + (maxL' + 11) + rm.locals ≤ R.locals) (hc : cells + rm.cells ≤ R.cells) (hs : slots + rm.slots ≤ R.slots) (how : ∀ x ∈ owc, x ∈ ow) (hc' : cells + rm.cells = cells') (hs' : slots + rm.slots = slots') (hp : pc + 3 = pc')
    (hq : ∀ v h', Q' v h' → ∃ d, v = some (.ref d)) (K : ∀ (d : Addr) (h' : Heap), Q' (some (.ref d)) h' → Keep h h' owc → h.size ≤ d → Run p l e R s m args below meth c Z wd ro EL n0 ow0 Q h' (d :: ow) cells' slots' (mkF m pc' Ls (.ref d :: rest))) : Run p l e R s m args below meth c Z wd ro EL n0 ow0 Q h ow cells slots (mkF m pc Ls st) := by
  subst hp hst hc' hs'
  intro T locs vm0 k0 X H
  have hZ := H.2.2.1
  obtain ⟨v, vm₁, B, -, X', hS, -, ⟨L, q1, q2, q3, q4, q5, q6, q7, q8, q9⟩, stp⟩ := callSS X G.1 (bytes := bytes') (maxL := maxL') (ret := ret') (G.own H.1) (mv (s := s.setVm vm0) hZ w1) (mv (s := s.setVm vm0) hZ w2) (mv (s := s.setVm vm0) hZ w3) (mv (s := s.setVm vm0) hZ w4) hy
    (backG C hZ w4 w3 hfr hlo G.2.2.2.2.2.2.2 H.2.2.2.2.2.1.1 H.2.2.2.2.2.2.2.1 (fun x hx => ⟨(H.2.2.2.2.2.2.2.2.1 x (how x hx)).1, (H.2.2.2.2.2.2.2.2.1 x (how x hx)).2.1, (H.2.2.2.2.2.2.2.2.1 x (how x hx)).2.2.1⟩)) (g := mkF m pc Ls (argsL.reverse ++ rest)) rfl (hsz.trans G.2.2.1.symm) hlen rfl (by show 2 * 0 + _ ≤ W; omega) (G.hb hd) (fun _ _ => ⟨rfl, H.2.2.2.1, hc, hs⟩)
  obtain ⟨T', Lc, kc, nc⟩ := B
  dsimp only [Pt.U, Pt.locs, Pt.cells, Pt.slots] at X' q1 q3 q4 q5 q6 q7 q8 q9 hS stp
  subst q4 q5 q6
  obtain ⟨d, rfl⟩ := hq _ _ q1
  obtain ⟨o1, o2, o3, o4⟩ := q9 rfl d rfl
  obtain ⟨s₂, o, q, r⟩ := K d T'.heap q1 q3 o4 T' (locs ++ L) T'.vm T'.heap.size X' ((H.call how hS q2 q3 q7 q8).own ⟨o1, o2, o3, Or.inr (Nat.le_trans H.2.2.2.2.2.2.1.1 o4)⟩)
  exact ⟨s₂, o, stp.trans q, r⟩
theorem callSpecial (G : Gd p s m meth c y bytes maxL ret Z a0 EL) {idx : Nat} {y' : MethodName} {bytes' : ByteArray} {maxL' : Nat} {rm : Room} {W : Nat} {a : Addr} {argsL : List Value} {owc : List Addr} {Q' : Option Value → Heap → Prop} {ro' : Bool} (hd : decode bytes pc = .ok (.invokespecial idx, 3)) (hn : y'.name = "<init>")
    (w1 : (Jvm.Cond.methodLink y.cls idx y').before a0 Z = true) (w2 : (Jvm.Cond.instanceMethod y').before a0 Z = true) (w3 : (Jvm.Cond.initialized y'.cls).before a0 Z = true) (w4 : (Jvm.Cond.code y' bytes' maxL' none).before a0 Z = true) (hy : y'.cls ≠ "java/lang/invoke/MethodHandle" ∧ y'.cls ≠ "java/lang/invoke/VarHandle")
    (C : Con l Z wd ro' EL n0 y' bytes' maxL' none rm [] (.ref a :: argsL).toArray h owc Q') (hst : st = argsL.reverse ++ .ref a :: rest) (hlen : ∀ sig, parseMethodDescriptor y'.desc = some sig → argsL.length = sig.parameters.length) (hsz : Ls.size = maxL) (hfr : rm.frames + 1 ≤ R.frames) (hW : (rest.map fun v => v.category).sum ≤ W) (hlo : W + (maxL' + 11) + rm.locals ≤ R.locals) (hc : cells + rm.cells ≤ R.cells) (hs : slots + rm.slots ≤ R.slots) (how : ∀ x ∈ owc, x ∈ ow) (hc' : cells + rm.cells = cells') (hs' : slots + rm.slots = slots') (hp : pc + 3 = pc')
    (K : ∀ (v : Option Value) (h' : Heap), Q' v h' → Keep h h' owc → Run p l e R s m args below meth c Z wd ro EL n0 ow0 Q h' ow cells' slots' (mkF m pc' Ls (v.toList ++ rest))) : Run p l e R s m args below meth c Z wd ro EL n0 ow0 Q h ow cells slots (mkF m pc Ls st) := by
  subst hp hst hc' hs'
  intro T locs vm0 k0 X H
  have hZ := H.2.2.1
  obtain ⟨v, vm₁, B, -, X', hS, -, ⟨L, q1, q2, q3, q4, q5, q6, q7, q8, q9⟩, stp⟩ := X.specialBackS G.1 (bytes := bytes') (maxL := maxL') hn (G.own H.1) (mv (s := s.setVm vm0) hZ w1) (mv (s := s.setVm vm0) hZ w2) (mv (s := s.setVm vm0) hZ w4) hy
    (backG C hZ w4 w3 hfr hlo G.2.2.2.2.2.2.2 H.2.2.2.2.2.1.1 H.2.2.2.2.2.2.2.1 (fun x hx => ⟨(H.2.2.2.2.2.2.2.2.1 x (how x hx)).1, (H.2.2.2.2.2.2.2.2.1 x (how x hx)).2.1, (H.2.2.2.2.2.2.2.2.1 x (how x hx)).2.2.1⟩)) (g := mkF m pc Ls (argsL.reverse ++ .ref a :: rest)) rfl (hsz.trans G.2.2.1.symm) (Steps.refl _) hlen rfl (by show 2 * 0 + _ ≤ W; omega) (G.hb hd) (fun _ _ => ⟨rfl, H.2.2.2.1, hc, hs⟩)
  obtain ⟨T', Lc, kc, nc⟩ := B
  dsimp only [Pt.U, Pt.locs, Pt.cells, Pt.slots] at X' q1 q3 q4 q5 q6 q7 q8 q9 hS stp
  subst q4 q5 q6
  obtain ⟨s₂, o, q, r⟩ := K v T'.heap q1 q3 T' (locs ++ L) T'.vm T'.heap.size X' (H.call how hS q2 q3 q7 q8)
  exact ⟨s₂, o, stp.trans q, r⟩
theorem callVirtual (G : Gd p s m meth c y bytes maxL ret Z a0 EL) {idx : Nat} {y' z' : MethodName} {D : String} {bytes' : ByteArray} {maxL' : Nat} {ret' : Option FieldType} {rm : Room} {W : Nat} {a : Addr} {argsL : List Value} {owc : List Addr} {Q' : Option Value → Heap → Prop} {ro' : Bool} (hd : decode bytes pc = .ok (.invokevirtual idx, 3))
    (w1 : (Jvm.Cond.methodLink y.cls idx y').before a0 Z = true) (w2 : (Jvm.Cond.declares y').before a0 Z = true) (w3 : (Jvm.Cond.selects D y' z').before a0 Z = true) (hnf : ∀ (s : State), Z.Warmed39 s.vm → NotFace s y') (w4 : (Jvm.Cond.instanceMethod z').before a0 Z = true) (w5 : (Jvm.Cond.initialized z'.cls).before a0 Z = true) (w6 : (Jvm.Cond.code z' bytes' maxL' ret').before a0 Z = true) (hy : y'.cls ≠ "java/lang/invoke/MethodHandle" ∧ y'.cls ≠ "java/lang/invoke/VarHandle")
    (E : Exa Z h a D) (C : Con l Z wd ro' EL n0 z' bytes' maxL' ret' rm [] (.ref a :: argsL).toArray h owc Q') (hst : st = argsL.reverse ++ .ref a :: rest) (hlen : ∀ sig, parseMethodDescriptor y'.desc = some sig → argsL.length = sig.parameters.length) (hsz : Ls.size = maxL) (hfr : rm.frames + 1 ≤ R.frames) (hW : (rest.map fun v => v.category).sum ≤ W) (hlo : W + (maxL' + 11) + rm.locals ≤ R.locals) (hc : cells + rm.cells ≤ R.cells) (hs : slots + rm.slots ≤ R.slots) (how : ∀ x ∈ owc, x ∈ ow) (hc' : cells + rm.cells = cells') (hs' : slots + rm.slots = slots') (hp : pc + 3 = pc')
    (K : ∀ (v : Option Value) (h' : Heap), Q' v h' → Keep h h' owc → Run p l e R s m args below meth c Z wd ro EL n0 ow0 Q h' ow cells' slots' (mkF m pc' Ls (v.toList ++ rest))) : Run p l e R s m args below meth c Z wd ro EL n0 ow0 Q h ow cells slots (mkF m pc Ls st) := by
  subst hp hst hc' hs'
  intro T locs vm0 k0 X H
  have hZ := H.2.2.1
  obtain ⟨cq, kq, r1, -, r3⟩ := isOf (s := s.setVm vm0) (T := T) hZ H.2.2.2.1 E
  obtain ⟨v, vm₁, B, -, X', hS, -, ⟨L, q1, q2, q3, q4, q5, q6, q7, q8, q9⟩, stp⟩ := X.virtualBackS G.1 (G.own H.1) (mv (s := s.setVm vm0) hZ w1) (mv (s := s.setVm vm0) hZ w2) (hnf (s.setVm vm0) hZ) (mv (s := s.setVm vm0) hZ w3) (mv (s := s.setVm vm0) hZ w4) hy
    (backG C hZ w6 w5 hfr hlo G.2.2.2.2.2.2.2 H.2.2.2.2.2.1.1 H.2.2.2.2.2.2.2.1 (fun x hx => ⟨(H.2.2.2.2.2.2.2.2.1 x (how x hx)).1, (H.2.2.2.2.2.2.2.2.1 x (how x hx)).2.1, (H.2.2.2.2.2.2.2.2.1 x (how x hx)).2.2.1⟩)) r1 r3 (g := mkF m pc Ls (argsL.reverse ++ .ref a :: rest)) rfl (hsz.trans G.2.2.1.symm) (Steps.refl _) hlen rfl (by show 2 * 0 + _ ≤ W; omega) (G.hb hd) (fun _ _ => ⟨rfl, H.2.2.2.1, hc, hs⟩)
  obtain ⟨T', Lc, kc, nc⟩ := B
  dsimp only [Pt.U, Pt.locs, Pt.cells, Pt.slots] at X' q1 q3 q4 q5 q6 q7 q8 q9 hS stp
  subst q4 q5 q6
  obtain ⟨s₂, o, q, r⟩ := K v T'.heap q1 q3 T' (locs ++ L) T'.vm T'.heap.size X' (H.call how hS q2 q3 q7 q8)
  exact ⟨s₂, o, stp.trans q, r⟩
theorem callFace (G : Gd p s m meth c y bytes maxL ret Z a0 EL) {idx count : Nat} {y' z' : MethodName} {D : String} {bytes' : ByteArray} {maxL' : Nat} {ret' : Option FieldType} {rm : Room} {W : Nat} {a : Addr} {argsL : List Value} {owc : List Addr} {Q' : Option Value → Heap → Prop} {ro' : Bool} (hd : decode bytes pc = .ok (.invokeinterface idx count, 5))
    (w1 : (Jvm.Cond.methodLink y.cls idx y').before a0 Z = true) (w2 : (Jvm.Cond.declares y').before a0 Z = true) (w3 : (Jvm.Cond.selects D y' z').before a0 Z = true) (wf : ∀ (a1 : Array Value) (s : State), Z.Warmed39 s.vm → (Jvm.Cond.interfaceMethod y'.cls y'.cls y'.name y'.desc).before a1 s = true) (wp : (Jvm.Cond.publicMethod z').before a0 Z = true) (wu : (Jvm.Cond.unhidden D y'.name y'.desc).before a0 Z = true) (wk : (Jvm.Cond.castable D y'.cls).before a0 Z = true) (w4 : (Jvm.Cond.instanceMethod z').before a0 Z = true) (w5 : (Jvm.Cond.initialized z'.cls).before a0 Z = true) (w6 : (Jvm.Cond.code z' bytes' maxL' ret').before a0 Z = true) (hy : y'.cls ≠ "java/lang/invoke/MethodHandle" ∧ y'.cls ≠ "java/lang/invoke/VarHandle")
    (E : Exa Z h a D) (C : Con l Z wd ro' EL n0 z' bytes' maxL' ret' rm [] (.ref a :: argsL).toArray h owc Q') (hst : st = argsL.reverse ++ .ref a :: rest) (hlen : ∀ sig, parseMethodDescriptor y'.desc = some sig → argsL.length = sig.parameters.length) (hsz : Ls.size = maxL) (hfr : rm.frames + 1 ≤ R.frames) (hW : (rest.map fun v => v.category).sum ≤ W) (hlo : W + (maxL' + 11) + rm.locals ≤ R.locals) (hc : cells + rm.cells ≤ R.cells) (hs : slots + rm.slots ≤ R.slots) (how : ∀ x ∈ owc, x ∈ ow) (hc' : cells + rm.cells = cells') (hs' : slots + rm.slots = slots') (hp : pc + 5 = pc')
    (K : ∀ (v : Option Value) (h' : Heap), Q' v h' → Keep h h' owc → Run p l e R s m args below meth c Z wd ro EL n0 ow0 Q h' ow cells' slots' (mkF m pc' Ls (v.toList ++ rest))) : Run p l e R s m args below meth c Z wd ro EL n0 ow0 Q h ow cells slots (mkF m pc Ls st) := by
  subst hp hst hc' hs'
  intro T locs vm0 k0 X H
  have hZ := H.2.2.1
  obtain ⟨cq, kq, r1, r2, r3⟩ := isOf (s := s.setVm vm0) (T := T) hZ H.2.2.2.1 E
  obtain ⟨v, vm₁, B, -, X', hS, -, ⟨L, q1, q2, q3, q4, q5, q6, q7, q8, q9⟩, stp⟩ := X.interfaceBackS G.1 (G.own H.1) (mv (s := s.setVm vm0) hZ w1) (mv (s := s.setVm vm0) hZ w2) (wf _ (s.setVm vm0) hZ) (mv (s := s.setVm vm0) hZ w3) (mv (s := s.setVm vm0) hZ w4) (mv (s := s.setVm vm0) hZ wp) (mv (s := s.setVm vm0) hZ wu) (mv (s := s.setVm vm0) hZ wk) hy
    (backG C hZ w6 w5 hfr hlo G.2.2.2.2.2.2.2 H.2.2.2.2.2.1.1 H.2.2.2.2.2.2.2.1 (fun x hx => ⟨(H.2.2.2.2.2.2.2.2.1 x (how x hx)).1, (H.2.2.2.2.2.2.2.2.1 x (how x hx)).2.1, (H.2.2.2.2.2.2.2.2.1 x (how x hx)).2.2.1⟩)) r1 r2 r3 (g := mkF m pc Ls (argsL.reverse ++ .ref a :: rest)) rfl (hsz.trans G.2.2.1.symm) (Steps.refl _) hlen rfl (by show 2 * 0 + _ ≤ W; omega) (G.hb hd) (fun _ _ => ⟨rfl, H.2.2.2.1, hc, hs⟩)
  obtain ⟨T', Lc, kc, nc⟩ := B
  dsimp only [Pt.U, Pt.locs, Pt.cells, Pt.slots] at X' q1 q3 q4 q5 q6 q7 q8 q9 hS stp
  subst q4 q5 q6
  obtain ⟨s₂, o, q, r⟩ := K v T'.heap q1 q3 T' (locs ++ L) T'.vm T'.heap.size X' (H.call how hS q2 q3 q7 q8)
  exact ⟨s₂, o, stp.trans q, r⟩
theorem nface {y' : MethodName} {D : String} (w3 : (Jvm.Cond.selects D y' y').before a0 Z = true) : ∀ (s : State), Z.Warmed39 s.vm → NotFace s y' := fun s hZ => notFace_of_selects (args := #[]) (mv (s := s) hZ w3)
end
end Jvm.GoKit


namespace Jvm.GoKit
open Jvm Jvm.ClassFile Sem Op Lib Jvm.Free Jvm.Stand Jvm.LawKit Jvm.RoadKit Bundle
theorem wi {L : List Jvm.Cond} {a0 : Array Value} {Z : State} (hw : ∀ d ∈ L, d.before a0 Z = true) (i : Nat) {d : Jvm.Cond} (h : L[i]? = some d) : d.before a0 Z = true := hw _ (List.mem_of_getElem? h)
/-- an array of chars or bytes, with its values -/
def IA (Z : State) (h : Heap) (b : Addr) (ty : FieldType) (xs : List Int32) : Prop := ∃ cl : Cell, Arr Z h b cl ty ∧ cl.slots = (xs.map Value.int).toArray ∧ xs.length < 2 ^ 31
section
variable {p : Program} {l : Launch} {e : Env} {R : Room} {s : State} {m : MethodId} {args : Array Value} {below : List Frame} {meth : Method} {c : Code} {Z : State} {wd ro ro' : Bool} {EL : List (String × Nat)} {n0 : Nat} {ow0 : List Addr} {Q : Option Value → Heap → Prop}
variable {h h' : Heap} {ow : List Addr} {cells slots cells' slots' : Nat} {pc pc' : Nat} {Ls Ls' : Array Slot} {st rest : List Value} {y : MethodName} {bytes : ByteArray} {maxL : Nat} {ret : Option FieldType} {a0 : Array Value}
variable {a b : Addr} {ty : FieldType} {xs : List Int32} {i : Nat} {x x' z j : Int32} {ws : List Addr} {sl : Nat} {v : Value}
theorem IA.lt (A : IA Z h b ty xs) : b < h.size := by obtain ⟨cl, A, -⟩ := A; exact A.lt
theorem IA.ext (A : IA Z h b ty xs) (E : Ext h h') : IA Z h' b ty xs := by obtain ⟨cl, A, r⟩ := A; exact ⟨cl, A.ext E, r⟩
theorem IA.other (A : IA Z h b ty xs) (W : Wr h h' a sl v) (q : b ≠ a) : IA Z h' b ty xs := by obtain ⟨cl, A, r⟩ := A; exact ⟨cl, A.other W q, r⟩
theorem IA.keep (A : IA Z h b ty xs) (K : Keep h h' ws) (q : b ∉ ws) : IA Z h' b ty xs := by obtain ⟨cl, A, r⟩ := A; exact ⟨cl, ⟨K.2.1 b cl A.1 q, A.2⟩, r⟩
theorem IA.new {cA : ClassId} {n : Int32} {k : Nat} (A : Arr Z h a (newA cA ty n) ty) (hk : n.toNatClampNeg = k) (hd : defaultValue ty = .int 0) : IA Z h a ty (List.replicate k 0) := by
  refine ⟨_, A, ?_, ?_⟩
  · subst hk; simp [newA, hd]
  · rw [List.length_replicate, ← hk]
    have := n.toInt_lt
    simp only [Int32.toNatClampNeg]; omega
theorem idx_ok {cl : Cell} {j : Int32} {i n : Nat} (hs : cl.slots.size = n) (hj : j.toNatClampNeg = i) (hj0 : ¬ j < 0) (hi : i < n) : ¬ (j < 0 ∨ cl.slots.size ≤ j.toNatClampNeg) := by
  rintro (q | q)
  · exact hj0 q
  · omega
theorem IA.set (A : IA Z h a ty xs) (W : Wr h h' a i (.int x)) (hi : i < xs.length) : IA Z h' a ty (xs.set i x) := by
  obtain ⟨cl, A, e, hl⟩ := A
  refine ⟨_, A.same W, ?_, by simpa using hl⟩
  simp only [Cell.setSlot]
  rw [e, ← Array.toList_inj]
  simp [List.map_set]
theorem castI (G : Gd p s m meth c y bytes maxL ret Z a0 EL) (hd : decode bytes pc = .ok (.castore, 1)) (A : IA Z h a .char xs) (hj : j.toNatClampNeg = i) (hj0 : ¬ j < 0) (hi : i < xs.length) (hx : nar .char x = x') (ha : a ∈ ow) (hp : pc + 1 = pc')
    (K : ∀ h', Wr h h' a i (.int x') → IA Z h' a .char (xs.set i x') → Run p l e R s m args below meth c Z wd ro EL n0 ow0 Q h' ow cells slots (mkF m pc' Ls rest)) : Run p l e R s m args below meth c Z wd ro EL n0 ow0 Q h ow cells slots (mkF m pc Ls (.int x :: .int j :: .ref a :: rest)) := by
  obtain ⟨cl, A1, e1, hl⟩ := id A
  refine castore G hd A1 (idx_ok (by rw [e1]; simp) hj hj0 hi) ha hp fun h' W => ?_
  rw [hj, hx] at W
  exact K h' W (A.set W hi)
theorem bastI (G : Gd p s m meth c y bytes maxL ret Z a0 EL) (hd : decode bytes pc = .ok (.bastore, 1)) (A : IA Z h a .byte xs) (hj : j.toNatClampNeg = i) (hj0 : ¬ j < 0) (hi : i < xs.length) (hx : nar .byte x = x') (ha : a ∈ ow) (hp : pc + 1 = pc')
    (K : ∀ h', Wr h h' a i (.int x') → IA Z h' a .byte (xs.set i x') → Run p l e R s m args below meth c Z wd ro EL n0 ow0 Q h' ow cells slots (mkF m pc' Ls rest)) : Run p l e R s m args below meth c Z wd ro EL n0 ow0 Q h ow cells slots (mkF m pc Ls (.int x :: .int j :: .ref a :: rest)) := by
  obtain ⟨cl, A1, e1, hl⟩ := id A
  refine bastore G hd A1 (idx_ok (by rw [e1]; simp) hj hj0 hi) ha hp fun h' W => ?_
  rw [hj, hx] at W
  exact K h' W (A.set W hi)
theorem caloadI (G : Gd p s m meth c y bytes maxL ret Z a0 EL) (hd : decode bytes pc = .ok (.caload, 1)) (A : IA Z h a .char xs) (hj : j.toNatClampNeg = i) (hj0 : ¬ j < 0) (hv : xs[i]? = some x) (hp : pc + 1 = pc') (K : Run p l e R s m args below meth c Z wd ro EL n0 ow0 Q h ow cells slots (mkF m pc' Ls (.int x :: rest))) : Run p l e R s m args below meth c Z wd ro EL n0 ow0 Q h ow cells slots (mkF m pc Ls (.int j :: .ref a :: rest)) := by
  obtain ⟨cl, A1, e1, hl⟩ := A
  have hi := (List.getElem?_eq_some_iff.mp hv).1
  exact caload G hd A1 (idx_ok (by rw [e1]; simp) hj hj0 hi) (by rw [e1, hj]; simp [hv]) hp K
theorem baloadI (G : Gd p s m meth c y bytes maxL ret Z a0 EL) (hd : decode bytes pc = .ok (.baload, 1)) (A : IA Z h a .byte xs) (hj : j.toNatClampNeg = i) (hj0 : ¬ j < 0) (hv : xs[i]? = some x) (hp : pc + 1 = pc') (K : Run p l e R s m args below meth c Z wd ro EL n0 ow0 Q h ow cells slots (mkF m pc' Ls (.int x :: rest))) : Run p l e R s m args below meth c Z wd ro EL n0 ow0 Q h ow cells slots (mkF m pc Ls (.int j :: .ref a :: rest)) := by
  obtain ⟨cl, A1, e1, hl⟩ := A
  have hi := (List.getElem?_eq_some_iff.mp hv).1
  exact baload G hd A1 (idx_ok (by rw [e1]; simp) hj hj0 hi) (by rw [e1, hj]; simp [hv]) hp K
theorem arrlenI (G : Gd p s m meth c y bytes maxL ret Z a0 EL) (hd : decode bytes pc = .ok (.arraylength, 1)) (A : IA Z h a ty xs) (hz : xs.length.toInt32 = z) (hp : pc + 1 = pc') (K : Run p l e R s m args below meth c Z wd ro EL n0 ow0 Q h ow cells slots (mkF m pc' Ls (.int z :: rest))) : Run p l e R s m args below meth c Z wd ro EL n0 ow0 Q h ow cells slots (mkF m pc Ls (.ref a :: rest)) := by
  obtain ⟨cl, A1, e1, hl⟩ := A
  refine arrlen G hd A1 hp ?_
  rw [e1, List.size_toArray, List.length_map, hz]
  exact K
theorem newcI (G : Gd p s m meth c y bytes maxL ret Z a0 EL) {n : Int32} {k cap : Nat} (hd : decode bytes pc = .ok (.newarray .char, 2)) (w : (Jvm.Cond.arrayClass .char).before a0 Z = true) (hn : ¬ n < 0) (hk : n.toNatClampNeg = k) (hcap : k ≤ cap) (hb : cap * 8 ≤ 536870912) (hc : cells + 1 ≤ R.cells) (hl : slots + cap ≤ R.slots) (hc' : cells + 1 = cells') (hs' : slots + cap = slots') (hp : pc + 2 = pc')
    (K : ∀ (h' : Heap) (a : Addr), a = h.size → Ext h h' → IA Z h' a .char (List.replicate k 0) → Run p l e R s m args below meth c Z wd ro EL n0 ow0 Q h' (a :: ow) cells' slots' (mkF m pc' Ls (.ref a :: rest))) : Run p l e R s m args below meth c Z wd ro EL n0 ow0 Q h ow cells slots (mkF m pc Ls (.int n :: rest)) :=
  newarr G hd w hn (hk ▸ hcap) hb hc hl hc' hs' hp fun h' cA a g E A => K h' a g E (IA.new A hk rfl)
theorem newbI (G : Gd p s m meth c y bytes maxL ret Z a0 EL) {n : Int32} {k cap : Nat} (hd : decode bytes pc = .ok (.newarray .byte, 2)) (w : (Jvm.Cond.arrayClass .byte).before a0 Z = true) (hn : ¬ n < 0) (hk : n.toNatClampNeg = k) (hcap : k ≤ cap) (hb : cap * 8 ≤ 536870912) (hc : cells + 1 ≤ R.cells) (hl : slots + cap ≤ R.slots) (hc' : cells + 1 = cells') (hs' : slots + cap = slots') (hp : pc + 2 = pc')
    (K : ∀ (h' : Heap) (a : Addr), a = h.size → Ext h h' → IA Z h' a .byte (List.replicate k 0) → Run p l e R s m args below meth c Z wd ro EL n0 ow0 Q h' (a :: ow) cells' slots' (mkF m pc' Ls (.ref a :: rest))) : Run p l e R s m args below meth c Z wd ro EL n0 ow0 Q h ow cells slots (mkF m pc Ls (.int n :: rest)) :=
  newarr G hd w hn (hk ▸ hcap) hb hc hl hc' hs' hp fun h' cA a g E A => K h' a g E (IA.new A hk rfl)
/-- calls of a callee that leaves the heap as it was -/
theorem callStaticP (G : Gd p s m meth c y bytes maxL ret Z a0 EL) {idx : Nat} {y' : MethodName} {bytes' : ByteArray} {maxL' : Nat} {ret' : Option FieldType} {rm : Room} {W : Nat} {argsL : List Value} {r : Option Value} (hd : decode bytes pc = .ok (.invokestatic idx, 3))
    (w1 : (Jvm.Cond.methodLink y.cls idx y').before a0 Z = true) (w2 : (Jvm.Cond.static y').before a0 Z = true) (w3 : (Jvm.Cond.initialized y'.cls).before a0 Z = true) (w4 : (Jvm.Cond.code y' bytes' maxL' ret').before a0 Z = true) (hy : y'.cls ≠ "java/lang/invoke/MethodHandle" ∧ y'.cls ≠ "java/lang/invoke/VarHandle")
    (C : Con l Z wd ro' EL n0 y' bytes' maxL' ret' rm [] argsL.toArray h [] (fun v h' => v = r ∧ h' = h)) (hst : st = argsL.reverse ++ rest) (hlen : ∀ sig, parseMethodDescriptor y'.desc = some sig → argsL.length = sig.parameters.length) (hsz : Ls.size = maxL) (hfr : rm.frames + 1 ≤ R.frames) (hW : (rest.map fun v => v.category).sum ≤ W) (hlo : W + (maxL' + 11) + rm.locals ≤ R.locals) (hc : cells + rm.cells ≤ R.cells) (hs : slots + rm.slots ≤ R.slots) (hc' : cells + rm.cells = cells') (hs' : slots + rm.slots = slots') (hp : pc + 3 = pc')
    (K : Run p l e R s m args below meth c Z wd ro EL n0 ow0 Q h ow cells' slots' (mkF m pc' Ls (r.toList ++ rest))) : Run p l e R s m args below meth c Z wd ro EL n0 ow0 Q h ow cells slots (mkF m pc Ls st) :=
  callStatic G hd w1 w2 w3 w4 hy C hst hlen hsz hfr hW hlo hc hs (fun _ q => nomatch q) hc' hs' hp fun v h' q _ => by rw [q.1, q.2]; exact K
theorem callVirtualP (G : Gd p s m meth c y bytes maxL ret Z a0 EL) {idx : Nat} {y' : MethodName} {D : String} {bytes' : ByteArray} {maxL' : Nat} {ret' : Option FieldType} {rm : Room} {W : Nat} {a : Addr} {argsL : List Value} {r : Option Value} (hd : decode bytes pc = .ok (.invokevirtual idx, 3))
    (w1 : (Jvm.Cond.methodLink y.cls idx y').before a0 Z = true) (w2 : (Jvm.Cond.declares y').before a0 Z = true) (w3 : (Jvm.Cond.selects D y' y').before a0 Z = true) (w4 : (Jvm.Cond.instanceMethod y').before a0 Z = true) (w5 : (Jvm.Cond.initialized y'.cls).before a0 Z = true) (w6 : (Jvm.Cond.code y' bytes' maxL' ret').before a0 Z = true) (hy : y'.cls ≠ "java/lang/invoke/MethodHandle" ∧ y'.cls ≠ "java/lang/invoke/VarHandle")
    (E : Exa Z h a D) (C : Con l Z wd ro' EL n0 y' bytes' maxL' ret' rm [] (.ref a :: argsL).toArray h [] (fun v h' => v = r ∧ h' = h)) (hst : st = argsL.reverse ++ .ref a :: rest) (hlen : ∀ sig, parseMethodDescriptor y'.desc = some sig → argsL.length = sig.parameters.length) (hsz : Ls.size = maxL) (hfr : rm.frames + 1 ≤ R.frames) (hW : (rest.map fun v => v.category).sum ≤ W) (hlo : W + (maxL' + 11) + rm.locals ≤ R.locals) (hc : cells + rm.cells ≤ R.cells) (hs : slots + rm.slots ≤ R.slots) (hc' : cells + rm.cells = cells') (hs' : slots + rm.slots = slots') (hp : pc + 3 = pc')
    (K : Run p l e R s m args below meth c Z wd ro EL n0 ow0 Q h ow cells' slots' (mkF m pc' Ls (r.toList ++ rest))) : Run p l e R s m args below meth c Z wd ro EL n0 ow0 Q h ow cells slots (mkF m pc Ls st) :=
  callVirtual G hd w1 w2 w3 (nface w3) w4 w5 w6 hy E C hst hlen hsz hfr hW hlo hc hs (fun _ q => nomatch q) hc' hs' hp fun v h' q _ => by rw [q.1, q.2]; exact K
theorem callFaceP (G : Gd p s m meth c y bytes maxL ret Z a0 EL) {idx count : Nat} {y' z' : MethodName} {D : String} {bytes' : ByteArray} {maxL' : Nat} {ret' : Option FieldType} {rm : Room} {W : Nat} {a : Addr} {argsL : List Value} {r : Option Value} (hd : decode bytes pc = .ok (.invokeinterface idx count, 5))
    (w1 : (Jvm.Cond.methodLink y.cls idx y').before a0 Z = true) (w2 : (Jvm.Cond.declares y').before a0 Z = true) (w3 : (Jvm.Cond.selects D y' z').before a0 Z = true) (wf : ∀ (a1 : Array Value) (s : State), Z.Warmed39 s.vm → (Jvm.Cond.interfaceMethod y'.cls y'.cls y'.name y'.desc).before a1 s = true) (wp : (Jvm.Cond.publicMethod z').before a0 Z = true) (wu : (Jvm.Cond.unhidden D y'.name y'.desc).before a0 Z = true) (wk : (Jvm.Cond.castable D y'.cls).before a0 Z = true) (w4 : (Jvm.Cond.instanceMethod z').before a0 Z = true) (w5 : (Jvm.Cond.initialized z'.cls).before a0 Z = true) (w6 : (Jvm.Cond.code z' bytes' maxL' ret').before a0 Z = true) (hy : y'.cls ≠ "java/lang/invoke/MethodHandle" ∧ y'.cls ≠ "java/lang/invoke/VarHandle")
    (E : Exa Z h a D) (C : Con l Z wd ro' EL n0 z' bytes' maxL' ret' rm [] (.ref a :: argsL).toArray h [] (fun v h' => v = r ∧ h' = h)) (hst : st = argsL.reverse ++ .ref a :: rest) (hlen : ∀ sig, parseMethodDescriptor y'.desc = some sig → argsL.length = sig.parameters.length) (hsz : Ls.size = maxL) (hfr : rm.frames + 1 ≤ R.frames) (hW : (rest.map fun v => v.category).sum ≤ W) (hlo : W + (maxL' + 11) + rm.locals ≤ R.locals) (hc : cells + rm.cells ≤ R.cells) (hs : slots + rm.slots ≤ R.slots) (hc' : cells + rm.cells = cells') (hs' : slots + rm.slots = slots') (hp : pc + 5 = pc')
    (K : Run p l e R s m args below meth c Z wd ro EL n0 ow0 Q h ow cells' slots' (mkF m pc' Ls (r.toList ++ rest))) : Run p l e R s m args below meth c Z wd ro EL n0 ow0 Q h ow cells slots (mkF m pc Ls st) :=
  callFace G hd w1 w2 w3 wf wp wu wk w4 w5 w6 hy E C hst hlen hsz hfr hW hlo hc hs (fun _ q => nomatch q) hc' hs' hp fun v h' q _ => by rw [q.1, q.2]; exact K
/-- a Latin-1 String of known chars -/
def Lat (Z : State) (h : Heap) (a : Addr) (cs : List Int32) : Prop := Exa Z h a "java/lang/String" ∧ (∃ b, Fld Z h a "java/lang/String" "value" "[B" (.ref b) ∧ Fld Z h a "java/lang/String" "coder" "B" (.int 0) ∧ IA Z h b .byte (cs.map fun c => c.toInt8.toInt32)) ∧ ∀ c ∈ cs, 0 ≤ c.toInt ∧ c.toInt < 256
theorem Lat.ext {cs : List Int32} (S : Lat Z h a cs) (E : Ext h h') : Lat Z h' a cs := by
  obtain ⟨S1, ⟨b, S2, S3, S4⟩, S5⟩ := S
  exact ⟨S1.ext E, ⟨b, S2.ext E, S3.ext E, S4.ext E⟩, S5⟩
theorem Lat.keep {cs : List Int32} (S : Lat Z h a cs) (K : Keep h h' []) : Lat Z h' a cs := by
  obtain ⟨S1, ⟨b, S2, S3, S4⟩, S5⟩ := S
  exact ⟨S1.keep K, ⟨b, S2.keep K nin0, S3.keep K nin0, S4.keep K nin0⟩, S5⟩
theorem Lat.lt {cs : List Int32} (S : Lat Z h a cs) : a < h.size := S.1.lt
theorem IA.ne {n : Nat} {C : String} (A : IA Z h b ty xs) (E : Exa Z h a C) (wi : (Jvm.Cond.instantiable C n).before a0 Z = true) : b ≠ a := by obtain ⟨cl, A, -⟩ := A; exact (ne_arr E wi A).symm
theorem IA.neTy {ty' : FieldType} {ys : List Int32} (A : IA Z h b ty xs) (B : IA Z h a ty' ys) (hn : ty ≠ ty') : b ≠ a := fun q => by
  subst q
  obtain ⟨c1, A, -⟩ := A
  obtain ⟨c2, B, -⟩ := B
  cases A.1.symm.trans B.1
  obtain ⟨-, k1, e1, p1, r1⟩ := A.2.1
  obtain ⟨-, k2, e2, p2, r2⟩ := B.2.1
  cases e1.symm.trans e2
  have := r1.symm.trans r2
  injection this with _ q
  exact hn q
theorem IA.len (A : IA Z h b ty xs) : xs.length < 2 ^ 31 := by obtain ⟨-, -, -, h⟩ := A; exact h
theorem Lat.wrI {cs : List Int32} {n : Nat} (S : Lat Z h a cs) (W : Wr h h' b sl v) (A : IA Z h b ty xs) (ht : ty ≠ .byte) (wi : (Jvm.Cond.instantiable "java/lang/String" n).before a0 Z = true) : Lat Z h' a cs := by
  obtain ⟨E, ⟨d, V, C, B⟩, l⟩ := S
  have n1 : a ≠ b := fun q => IA.ne A E wi q.symm
  exact ⟨E.wr W, ⟨d, V.other W (Or.inl n1), C.other W (Or.inl n1), B.other W (IA.neTy B A (fun q => ht q.symm))⟩, l⟩
theorem con_mono {y' : MethodName} {bytes' : ByteArray} {maxL' : Nat} {ret' : Option FieldType} {rm : Room} {ws : List Jvm.Cond} {as' : Array Value} {owc : List Addr} {Q1 Q2 : Option Value → Heap → Prop} (C : Con l Z wd ro EL n0 y' bytes' maxL' ret' rm ws as' h owc Q1) (q : ∀ v h', Q1 v h' → Q2 v h') : Con l Z wd ro EL n0 y' bytes' maxL' ret' rm ws as' h owc Q2 := by
  intro p e a1 a2 a3 s m args below a4 a5 a6 a7
  obtain ⟨n, o, b1, b2, b3, v, L, b4, b5, b6⟩ := C p e a1 a2 a3 s m args below a4 a5 a6 a7
  exact ⟨n, o, b1, b2, b3, v, L, b4, q _ _ b5, b6⟩
theorem castRun {g g' : JFrame} (q : g = g') (K : Run p l e R s m args below meth c Z wd ro EL n0 ow0 Q h ow cells slots g') : Run p l e R s m args below meth c Z wd ro EL n0 ow0 Q h ow cells slots g := q ▸ K
theorem toI_toInt {i : Nat} (h : i < 2 ^ 31) : i.toInt32.toInt = i := len_toInt h
theorem toI_clamp {i : Nat} (h : i < 2 ^ 31) : i.toInt32.toNatClampNeg = i := by simp only [Int32.toNatClampNeg, toI_toInt h]; rfl
theorem toI_nn {i : Nat} (h : i < 2 ^ 31) : ¬ i.toInt32 < 0 := by
  rw [Int32.lt_iff_toInt_lt, toI_toInt h]; show ¬ (i : Int) < 0; omega
theorem toI_lt {i k : Nat} (h : i < 2 ^ 31) (h' : k < 2 ^ 31) : i.toInt32 < k.toInt32 ↔ i < k := by
  rw [Int32.lt_iff_toInt_lt, toI_toInt h, toI_toInt h']; omega
theorem toI_succ (i : Nat) : i.toInt32 + 1 = (i + 1).toInt32 := by
  apply Int32.toBitVec_inj.mp
  simp [Nat.toInt32, BitVec.ofNat_add]
theorem toI_eq {i k : Nat} (h : i < 2 ^ 31) (h' : k < 2 ^ 31) : i.toInt32 = k.toInt32 ↔ i = k := by
  refine ⟨fun q => ?_, fun q => by rw [q]⟩
  have := congrArg Int32.toInt q
  rw [toI_toInt h, toI_toInt h'] at this; omega
theorem lo8_nar (c : Int32) : nar .byte (c.toInt8.toInt32) = c.toInt8.toInt32 := by simp [nar]
theorem nar_i2c (x : Int32) : nar .char (x.toUInt32.toUInt16.toUInt32.toInt32) = x.toUInt32.toUInt16.toUInt32.toInt32 := by simp only [nar, UInt32.toUInt32_toInt32, UInt16.toUInt16_toUInt32]
theorem set_fill (f : Int32 → Int32) (cs : List Int32) (i k : Nat) (c : Int32) (hc : cs[i]? = some c) : (((cs.take i).map f) ++ List.replicate (k + 1) 0).set i (f c) = ((cs.take (i + 1)).map f) ++ List.replicate k 0 := by
  have hi := (List.getElem?_eq_some_iff.mp hc).1
  have hl : ((cs.take i).map f).length = i := by simp; omega
  rw [List.set_append_right _ _ (by omega), hl, Nat.sub_self, List.replicate_succ, List.set_cons_zero, List.take_add_one, hc]
  simp
theorem and_rng (x m : Int32) (M : Nat) (hm : m.toBitVec.toNat = M) (hM : M < 2 ^ 31) : 0 ≤ (x &&& m).toInt ∧ (x &&& m).toInt ≤ M := by
  have h : (x &&& m).toBitVec.toNat ≤ M := by
    show (x.toBitVec &&& m.toBitVec).toNat ≤ M
    rw [BitVec.toNat_and, ← hm]; exact Nat.and_le_right
  have e : (x &&& m).toInt = ((x &&& m).toBitVec.toNat : Int) := by
    show (x &&& m).toBitVec.toInt = _
    rw [BitVec.toInt_eq_toNat_cond]; rw [if_pos (by omega)]
  omega
theorem and255_rng (x : Int32) : 0 ≤ (x &&& 255).toInt ∧ (x &&& 255).toInt < 256 := by
  have := and_rng x 255 255 rfl (by decide); omega
theorem ch8 (x v w : Int32) (h1 : v = x &&& 255) (h2 : w = v.toUInt32.toUInt16.toUInt32.toInt32) : 0 ≤ w.toInt ∧ w.toInt < 256 := by
  subst h1 h2; rw [i2c_mask]; exact and255_rng x
theorem bool_ok {z : Int32} (h : z = 0 ∨ z = 1) : narrow .boolean (.int z) = .int z ∧ fits .boolean (.int z) = true ∧ nar .boolean z = z := by
  rcases h with rfl | rfl <;> exact ⟨rfl, rfl, rfl⟩
theorem ref_ok {v : Value} (C : String) (h : v.isRef = true) : narrow (.object C) v = v ∧ fits (.object C) v = true := by
  rcases ref_cases h with rfl | ⟨r, rfl⟩ <;> exact ⟨rfl, rfl⟩
theorem rem_rng (x m : Int32) (hx : 0 ≤ x.toInt) (hm : 0 < m.toInt) : 0 ≤ (x % m).toInt ∧ (x % m).toInt < m.toInt := by
  rw [Int32.toInt_mod, Int.tmod_eq_emod_of_nonneg hx]
  exact ⟨Int.emod_nonneg _ (by omega), Int.emod_lt_of_pos _ hm⟩
theorem and31_rem {x v w m : Int32} (h1 : v = x &&& 2147483647) (h2 : w = v % m) (hm : 0 < m.toInt) : 0 ≤ w.toInt ∧ w.toInt < m.toInt := by
  subst h1 h2; exact rem_rng _ _ (and_rng x 2147483647 2147483647 rfl (by decide)).1 hm
/-- compact strings are on -/
def Cst (Z : State) : Prop := ∃ cz : Int32, Sta Z Z.heap "java/lang/String" "COMPACT_STRINGS" "Z" (.int cz) ∧ cz ≠ 0
theorem keepExt (K : Keep h h' []) : Ext h h' := ⟨K.1, fun x c q => K.2.1 x c q nin0⟩
theorem extKeep (E : Ext h h') : Keep h h' [] := (Keep.refl h []).ext E
end
end Jvm.GoKit

namespace Jvm.Pilot.@@N@@
open Jvm Jvm.ClassFile Sem Op Lib Jvm.Free Jvm.Stand Jvm.LawKit Jvm.RoadKit Jvm.GoKit Bundle Jvm.Pilot.@@N@@.Jvm.D
abbrev ELs : List (String × Nat) := consts_1
theorem hELs {Z : State} {a0 : Array Value} (hw : ∀ d ∈ tables_1, d.before a0 Z = true) : EW Z a0 ELs := EW.cons (wi hw 19 rfl) (by decide +kernel) (EW.nil)
theorem wS {Z : State} {a0 : Array Value} (hw : ∀ d ∈ tables_1, d.before a0 Z = true) : ∀ a ∈ Bundle.stringAtoms, a.before a0 Z = true := by
  intro d hd
  simp only [Bundle.stringAtoms, List.mem_cons, List.not_mem_nil, or_false] at hd
  rcases hd with rfl | rfl | rfl | rfl | rfl | rfl | rfl
  · exact (wi hw 7 rfl)
  · exact (wi hw 6 rfl)
  · exact (wi hw 20 rfl)
  · exact (wi hw 21 rfl)
  · exact (wi hw 22 rfl)
  · exact (wi hw 23 rfl)
  · exact (wi hw 24 rfl)
theorem iaLit {Z : State} {h : Heap} {b : Addr} {k : ClassId} {z : Int32} {vs : List Value} {cs : List Int32} (A : Arv Z h b k .byte z vs (.int 0)) (hz : z.toNatClampNeg = cs.length) (hv : vs = cs.map fun c => Value.int c.toInt8.toInt32) : IA Z h b .byte (cs.map fun c => c.toInt8.toInt32) := by
  obtain ⟨c, A1, -, e, hn, H, -⟩ := A
  refine ⟨c, A1, ?_, ?_⟩
  · apply Array.ext_getElem?
    intro i
    by_cases hi : i < c.slots.size
    · rw [H i hi, hv]
      have : i < cs.length := by omega
      simp [this]
    · rw [Array.getElem?_eq_none (by omega), Array.getElem?_eq_none (by simp; omega)]
  · rw [List.length_map, ← hz]
    have := z.toInt_lt
    simp only [Int32.toNatClampNeg]; omega
theorem latLit {Z : State} {h : Heap} {a b : Addr} {k : ClassId} {z : Int32} {vs : List Value} {cs : List Int32} (X : Exa Z h a "java/lang/String") (FC : Fld Z h a "java/lang/String" "coder" "B" (.int 0)) (FV : Fld Z h a "java/lang/String" "value" "[B" (.ref b)) (A : Arv Z h b k .byte z vs (.int 0)) (hz : z.toNatClampNeg = cs.length) (hv : vs = cs.map fun c => Value.int c.toInt8.toInt32) (hl : ∀ c ∈ cs, 0 ≤ c.toInt ∧ c.toInt < 256) : Lat Z h a cs :=
  ⟨X, ⟨b, FV, FC, iaLit A hz hv⟩, hl⟩
theorem sh0 (x : Int32) : x >>> ((0 : Int32) &&& 31) = x := by rw [show ((0 : Int32) &&& 31) = 0 from rfl]; exact Int32.shiftRight_zero
theorem d15_0 : decode jdk_52_method_15_code 0 = .ok (.iload_n 1, 1) := by decide +kernel
theorem d15_1 : decode jdk_52_method_15_code 1 = .ok (.aload_n 0, 1) := by decide +kernel
theorem d15_2 : decode jdk_52_method_15_code 2 = .ok (.arraylength, 1) := by decide +kernel
theorem d15_3 : decode jdk_52_method_15_code 3 = .ok (.isub, 1) := by decide +kernel
theorem d15_4 : decode jdk_52_method_15_code 4 = .ok (.bipush 31, 2) := by decide +kernel
theorem d15_6 : decode jdk_52_method_15_code 6 = .ok (.iushr, 1) := by decide +kernel
theorem d15_7 : decode jdk_52_method_15_code 7 = .ok (.i2b, 1) := by decide +kernel
theorem d15_8 : decode jdk_52_method_15_code 8 = .ok (.ireturn, 1) := by decide +kernel
theorem pn_java_lang_StringUTF16 : plainName "java/lang/StringUTF16" = true := by first | (simp [plainName, overriddenIn]; done) | decide +kernel
abbrev rm_con_coderLen : Room := { frames := 0, cells := 0, slots := 0, locals := 0 }
set_option maxRecDepth 65536 in
set_option maxHeartbeats 40000000 in
theorem con_coderLen (l : Launch) {Z : State} {a0 : Array Value} (hw : ∀ d ∈ tables_1, d.before a0 Z = true) {n0 : Nat} {h0 : Heap} {d : Addr} {xs : List Int32} (A : IA Z h0 d .byte xs) :
    Con l Z true false ELs n0 (⟨"java/lang/StringUTF16", "coderFromArrayLen", "([BI)B"⟩ : MethodName) jdk_52_method_15_code 2 (some .byte) rm_con_coderLen [] #[(.ref d), (.int xs.length.toInt32)] h0 [] (fun v h => v = some (.int 0) ∧ h = h0) := by
  refine Con.intro (plainFor_of_name pn_java_lang_StringUTF16) (hELs hw) ?_
  intro p e s m below meth c hh G
  refine castRun (g' := mkF m 0 #[.val (.ref d), .val (.int xs.length.toInt32)] []) (by first | rfl | (simp [entryFrame, mkF, argsToLocals, Value.category, maxLocals]; done)) ?_
  refine GoKit.iloadN G d15_0 rfl (pc' := 1) rfl ?_
  refine GoKit.aloadN G d15_1 rfl rfl (pc' := 2) rfl ?_
  refine GoKit.arrlenI G d15_2 A (z := xs.length.toInt32) rfl (pc' := 3) rfl ?_
  refine GoKit.isub G d15_3 (pc' := 4) rfl (fun v1 hqv1 => ?_)
  refine GoKit.bipush G (31 : Int32) d15_4 rfl (pc' := 6) rfl ?_
  refine GoKit.iushr G d15_6 (pc' := 7) rfl (fun v2 hqv2 => ?_)
  refine GoKit.i2b G d15_7 (pc' := 8) rfl (fun v3 hqv3 => ?_)
  refine GoKit.retNar G d15_8 (t := .byte) rfl (by simp) (by decide) (by decide) ?_
  exact ⟨by subst_vars; rw [show (xs.length.toInt32 - xs.length.toInt32 : Int32) = 0 from Int32.sub_self _]; rfl, rfl⟩
theorem lat_le {c : Int32} (h : 0 ≤ c.toInt ∧ c.toInt < 256) : ¬ (255 : Int32) < c := by rw [Int32.lt_iff_toInt_lt]; show ¬ (255 : Int) < c.toInt; omega
theorem d14_3 : decode jdk_52_method_21_code 3 = .ok (.iload 5, 2) := by decide +kernel
theorem d14_5 : decode jdk_52_method_21_code 5 = .ok (.iload 4, 2) := by decide +kernel
theorem d14_7 : decode jdk_52_method_21_code 7 = .ok (.if_icmp .ge 37, 3) := by decide +kernel
theorem d14_44 : decode jdk_52_method_21_code 44 = .ok (.iload 4, 2) := by decide +kernel
theorem d14_46 : decode jdk_52_method_21_code 46 = .ok (.ireturn, 1) := by decide +kernel
theorem d14_10 : decode jdk_52_method_21_code 10 = .ok (.aload_n 0, 1) := by decide +kernel
theorem d14_11 : decode jdk_52_method_21_code 11 = .ok (.iload_n 1, 1) := by decide +kernel
theorem d14_12 : decode jdk_52_method_21_code 12 = .ok (.caload, 1) := by decide +kernel
theorem d14_13 : decode jdk_52_method_21_code 13 = .ok (.istore 6, 2) := by decide +kernel
theorem d14_15 : decode jdk_52_method_21_code 15 = .ok (.iload 6, 2) := by decide +kernel
theorem d14_17 : decode jdk_52_method_21_code 17 = .ok (.sipush 255, 3) := by decide +kernel
theorem d14_20 : decode jdk_52_method_21_code 20 = .ok (.if_icmp .le 6, 3) := by decide +kernel
theorem d14_26 : decode jdk_52_method_21_code 26 = .ok (.aload_n 2, 1) := by decide +kernel
theorem d14_27 : decode jdk_52_method_21_code 27 = .ok (.iload_n 3, 1) := by decide +kernel
theorem d14_28 : decode jdk_52_method_21_code 28 = .ok (.iload 6, 2) := by decide +kernel
theorem d14_30 : decode jdk_52_method_21_code 30 = .ok (.i2b, 1) := by decide +kernel
theorem d14_31 : decode jdk_52_method_21_code 31 = .ok (.bastore, 1) := by decide +kernel
theorem d14_32 : decode jdk_52_method_21_code 32 = .ok (.iinc 1 1, 3) := by decide +kernel
theorem d14_35 : decode jdk_52_method_21_code 35 = .ok (.iinc 3 1, 3) := by decide +kernel
theorem d14_38 : decode jdk_52_method_21_code 38 = .ok (.iinc 5 1, 3) := by decide +kernel
theorem d14_41 : decode jdk_52_method_21_code 41 = .ok (.goto (-38), 3) := by decide +kernel
theorem d14_0 : decode jdk_52_method_21_code 0 = .ok (.iconst 0, 1) := by decide +kernel
theorem d14_1 : decode jdk_52_method_21_code 1 = .ok (.istore 5, 2) := by decide +kernel
abbrev rm_con_compress5 : Room := { frames := 0, cells := 0, slots := 0, locals := 0 }
set_option maxRecDepth 65536 in
set_option maxHeartbeats 40000000 in
theorem con_compress5 (l : Launch) {Z : State} {a0 : Array Value} (hw : ∀ d ∈ tables_1, d.before a0 Z = true) {n0 : Nat} {h0 : Heap} {b d : Addr} {cs : List Int32} (A : IA Z h0 b .char cs) (D : IA Z h0 d .byte (List.replicate cs.length 0)) (hlat : ∀ c ∈ cs, 0 ≤ c.toInt ∧ c.toInt < 256) :
    Con l Z true false ELs n0 (⟨"java/lang/StringUTF16", "compress", "([CI[BII)I"⟩ : MethodName) jdk_52_method_21_code 7 (some .int) rm_con_compress5 [] #[(.ref b), (.int 0), (.ref d), (.int 0), (.int cs.length.toInt32)] h0 [d] (fun v h => v = some (.int cs.length.toInt32) ∧ IA Z h d .byte (cs.map fun c => c.toInt8.toInt32)) := by
  refine Con.intro (plainFor_of_name pn_java_lang_StringUTF16) (hELs hw) ?_
  intro p e s m below meth c hh G
  refine castRun (g' := mkF m 0 #[.val (.ref b), .val (.int 0), .val (.ref d), .val (.int 0), .val (.int cs.length.toInt32), .unset, .unset] []) (by first | rfl | (simp [entryFrame, mkF, argsToLocals, Value.category, maxLocals]; done)) ?_
  have hl := A.len
  have loop : ∀ (k i : Nat) (h : Heap) (sl : Slot), i + k = cs.length → IA Z h b .char cs → IA Z h d .byte ((cs.take i).map (fun c => c.toInt8.toInt32) ++ List.replicate k 0) → (sl = .unset ∨ ∃ w, sl = .val w ∧ w.category = 1) →
      Run p l e rm_con_compress5 s m #[.ref b, .int 0, .ref d, .int 0, .int cs.length.toInt32] below meth c Z true false ELs n0 [d] (fun v h => v = some (.int cs.length.toInt32) ∧ IA Z h d .byte (cs.map fun c => c.toInt8.toInt32)) h [d] 0 0 (mkF m 3 #[.val (.ref b), .val (.int i.toInt32), .val (.ref d), .val (.int i.toInt32), .val (.int cs.length.toInt32), .val (.int i.toInt32), sl] []) := by
    intro k; induction k with
    | zero =>
      intro i h sl hik A D hsl
      have hi : i = cs.length := by omega
      subst hi
      refine GoKit.iload G d14_3 rfl (pc' := 5) rfl ?_
      refine GoKit.iload G d14_5 rfl (pc' := 7) rfl ?_
      refine GoKit.icmp_ge_t G d14_7 Int32.lt_irrefl (by decide) (pc' := 44) rfl ?_
      refine GoKit.iload G d14_44 rfl (pc' := 46) rfl ?_
      refine GoKit.retInt G d14_46 rfl (by decide) (by decide) ?_
      exact ⟨rfl, by simpa using D⟩
    | succ k ih =>
      intro i h sl hik A D hsl
      have hi : i < cs.length := by omega
      obtain ⟨ch, hch⟩ : ∃ ch, cs[i]? = some ch := ⟨cs[i], List.getElem?_eq_getElem hi⟩
      have hcl := hlat ch (List.mem_of_getElem? hch)
      refine GoKit.iload G d14_3 rfl (pc' := 5) rfl ?_
      refine GoKit.iload G d14_5 rfl (pc' := 7) rfl ?_
      refine GoKit.icmp_ge_f G d14_7 ((toI_lt (by omega) (by omega)).mpr hi) (pc' := 10) rfl ?_
      refine GoKit.aloadN G d14_10 rfl rfl (pc' := 11) rfl ?_
      refine GoKit.iloadN G d14_11 rfl (pc' := 12) rfl ?_
      refine GoKit.caloadI G d14_12 A (i := i) (toI_clamp (by omega)) (toI_nn (by omega)) hch (pc' := 13) rfl ?_
      refine GoKit.istore G d14_13 (Ls' := #[.val (.ref b), .val (.int i.toInt32), .val (.ref d), .val (.int i.toInt32), .val (.int cs.length.toInt32), .val (.int i.toInt32), .val (.int ch)]) (XS.store1 rfl hsl rfl) (pc' := 15) rfl ?_
      refine GoKit.iload G d14_15 rfl (pc' := 17) rfl ?_
      refine GoKit.sipush G (255 : Int32) d14_17 rfl (pc' := 20) rfl ?_
      refine GoKit.icmp_le_t G d14_20 (lat_le hcl) (by decide) (pc' := 26) rfl ?_
      refine GoKit.aloadN G d14_26 rfl rfl (pc' := 27) rfl ?_
      refine GoKit.iloadN G d14_27 rfl (pc' := 28) rfl ?_
      refine GoKit.iload G d14_28 rfl (pc' := 30) rfl ?_
      refine GoKit.i2b G d14_30 (pc' := 31) rfl (fun v1 hqv1 => ?_)
      refine GoKit.bastI G d14_31 D (i := i) (toI_clamp (by omega)) (toI_nn (by omega)) (by simp; omega) (x' := ch.toInt8.toInt32) (by rw [hqv1]; exact lo8_nar _) (List.Mem.head _) (pc' := 32) rfl (fun h' W' D' => ?_)
      rw [set_fill _ cs i k ch hch] at D'
      refine GoKit.iinc G (1 : Int32) d14_32 rfl rfl (Ls' := #[.val (.ref b), .val (.int (i.toInt32 + (1 : Int32))), .val (.ref d), .val (.int i.toInt32), .val (.int cs.length.toInt32), .val (.int i.toInt32), .val (.int ch)]) rfl (pc' := 35) rfl ?_
      generalize hqv2 : (i.toInt32 + (1 : Int32)) = v2
      refine GoKit.iinc G (1 : Int32) d14_35 rfl rfl (Ls' := #[.val (.ref b), .val (.int v2), .val (.ref d), .val (.int (i.toInt32 + (1 : Int32))), .val (.int cs.length.toInt32), .val (.int i.toInt32), .val (.int ch)]) rfl (pc' := 38) rfl ?_
      generalize hqv3 : (i.toInt32 + (1 : Int32)) = v3
      refine GoKit.iinc G (1 : Int32) d14_38 rfl rfl (Ls' := #[.val (.ref b), .val (.int v2), .val (.ref d), .val (.int v3), .val (.int cs.length.toInt32), .val (.int (i.toInt32 + (1 : Int32))), .val (.int ch)]) rfl (pc' := 41) rfl ?_
      generalize hqv4 : (i.toInt32 + (1 : Int32)) = v4
      refine GoKit.goto G d14_41 (by decide) (pc' := 3) rfl ?_
      rw [toI_succ] at hqv2; subst hqv2
      rw [toI_succ] at hqv3; subst hqv3
      rw [toI_succ] at hqv4; subst hqv4
      exact ih (i + 1) h' (.val (.int ch)) (by omega) (A.other W' (IA.neTy A D (by decide))) D' (Or.inr ⟨_, rfl, rfl⟩)
  refine GoKit.iconst G (0 : Int32) d14_0 rfl (pc' := 1) rfl ?_
  refine GoKit.istore G d14_1 (Ls' := #[.val (.ref b), .val (.int (0 : Int32)), .val (.ref d), .val (.int (0 : Int32)), .val (.int cs.length.toInt32), .val (.int (0 : Int32)), .unset]) rfl (pc' := 3) rfl ?_
  exact loop cs.length 0 h0 .unset (by omega) A (by simpa using D) (Or.inl rfl)
theorem d13_0 : decode jdk_52_method_16_code 0 = .ok (.iload_n 2, 1) := by decide +kernel
theorem d13_1 : decode jdk_52_method_16_code 1 = .ok (.newarray .byte, 2) := by decide +kernel
theorem d13_3 : decode jdk_52_method_16_code 3 = .ok (.astore_n 3, 1) := by decide +kernel
theorem d13_4 : decode jdk_52_method_16_code 4 = .ok (.aload_n 0, 1) := by decide +kernel
theorem d13_5 : decode jdk_52_method_16_code 5 = .ok (.iload_n 1, 1) := by decide +kernel
theorem d13_6 : decode jdk_52_method_16_code 6 = .ok (.aload_n 3, 1) := by decide +kernel
theorem d13_7 : decode jdk_52_method_16_code 7 = .ok (.iconst 0, 1) := by decide +kernel
theorem d13_8 : decode jdk_52_method_16_code 8 = .ok (.iload_n 2, 1) := by decide +kernel
theorem d13_9 : decode jdk_52_method_16_code 9 = .ok (.invokestatic 115, 3) := by decide +kernel
theorem pd_0 : parseMethodDescriptor "([CI[BII)I" = some ⟨[(.array .char), .int, (.array .byte), .int, .int], some .int⟩ := by decide +kernel
theorem d13_12 : decode jdk_52_method_16_code 12 = .ok (.istore 4, 2) := by decide +kernel
theorem d13_14 : decode jdk_52_method_16_code 14 = .ok (.iload 4, 2) := by decide +kernel
theorem d13_16 : decode jdk_52_method_16_code 16 = .ok (.iload_n 2, 1) := by decide +kernel
theorem d13_17 : decode jdk_52_method_16_code 17 = .ok (.if_icmp .eq 40, 3) := by decide +kernel
theorem d13_57 : decode jdk_52_method_16_code 57 = .ok (.aload_n 3, 1) := by decide +kernel
theorem d13_58 : decode jdk_52_method_16_code 58 = .ok (.areturn, 1) := by decide +kernel
abbrev rm_con_compress3 : Room := { frames := 1, cells := 1, slots := 2, locals := 18 }
set_option maxRecDepth 65536 in
set_option maxHeartbeats 40000000 in
theorem con_compress3 (l : Launch) {Z : State} {a0 : Array Value} (hw : ∀ d ∈ tables_1, d.before a0 Z = true) {n0 : Nat} {h0 : Heap} {b : Addr} {cs : List Int32} (A : IA Z h0 b .char cs) (hcap : cs.length ≤ 2) (hlat : ∀ c ∈ cs, 0 ≤ c.toInt ∧ c.toInt < 256) :
    Con l Z true false ELs n0 (⟨"java/lang/StringUTF16", "compress", "([CII)[B"⟩ : MethodName) jdk_52_method_16_code 6 (some (.array .byte)) rm_con_compress3 [] #[(.ref b), (.int 0), (.int cs.length.toInt32)] h0 [] (fun v h => ∃ d, v = some (.ref d) ∧ IA Z h d .byte (cs.map fun c => c.toInt8.toInt32)) := by
  refine Con.intro (plainFor_of_name pn_java_lang_StringUTF16) (hELs hw) ?_
  intro p e s m below meth c hh G
  refine castRun (g' := mkF m 0 #[.val (.ref b), .val (.int 0), .val (.int cs.length.toInt32), .unset, .unset, .unset] []) (by first | rfl | (simp [entryFrame, mkF, argsToLocals, Value.category, maxLocals]; done)) ?_
  have hl := A.len
  refine GoKit.iloadN G d13_0 rfl (pc' := 1) rfl ?_
  refine GoKit.newbI G d13_1 (wi hw 20 rfl) (toI_nn hl) (k := cs.length) (cap := 2) (toI_clamp hl) hcap (by decide) (by decide) (by decide) (cells' := 1) (slots' := 2) rfl rfl (pc' := 3) rfl (fun h4 a1 ga1 E2 A3 => ?_)
  refine GoKit.astoreN G d13_3 rfl (Ls' := #[.val (.ref b), .val (.int 0), .val (.int cs.length.toInt32), .val (.ref a1), .unset, .unset]) rfl (pc' := 4) rfl ?_
  refine GoKit.aloadN G d13_4 rfl rfl (pc' := 5) rfl ?_
  refine GoKit.iloadN G d13_5 rfl (pc' := 6) rfl ?_
  refine GoKit.aloadN G d13_6 rfl rfl (pc' := 7) rfl ?_
  refine GoKit.iconst G (0 : Int32) d13_7 rfl (pc' := 8) rfl ?_
  refine GoKit.iloadN G d13_8 rfl (pc' := 9) rfl ?_
  refine GoKit.callStatic G d13_9 (wi hw 63 rfl) (wi hw 64 rfl) (wi hw 61 rfl) (wi hw 65 rfl) (by decide) (owc := [a1]) (W := 0) (argsL := [(.ref b), (.int 0), (.ref a1), (.int (0 : Int32)), (.int cs.length.toInt32)]) (rest := []) (con_compress5 l hw (A.ext E2) A3 hlat) rfl (lenOf pd_0 rfl) rfl (by decide) (Nat.le_of_eq rfl) (by decide) (by decide) (by decide) (by intro x hx; simp only [List.mem_cons, List.not_mem_nil, or_false] at hx ⊢; simp [hx]) (cells' := 1) (slots' := 2) rfl rfl (pc' := 12) rfl (fun r5 h8 q6 K7 => ?_)
  obtain ⟨rfl, A9⟩ := q6
  show Run _ _ _ _ _ _ _ _ _ _ _ _ _ _ _ _ _ _ _ _ _ (mkF m 12 #[.val (.ref b), .val (.int 0), .val (.int cs.length.toInt32), .val (.ref a1), .unset, .unset] [(.int cs.length.toInt32)])
  refine GoKit.istore G d13_12 (Ls' := #[.val (.ref b), .val (.int 0), .val (.int cs.length.toInt32), .val (.ref a1), .val (.int cs.length.toInt32), .unset]) rfl (pc' := 14) rfl ?_
  refine GoKit.iload G d13_14 rfl (pc' := 16) rfl ?_
  refine GoKit.iloadN G d13_16 rfl (pc' := 17) rfl ?_
  refine GoKit.icmp_eq_t G d13_17 rfl (by decide) (pc' := 57) rfl ?_
  refine GoKit.aloadN G d13_57 rfl rfl (pc' := 58) rfl ?_
  refine GoKit.retRef G rfl d13_58 rfl rfl rfl (by decide) (by decide) ?_
  exact ⟨_, rfl, A9⟩
theorem d3_0 : decode jdk_42_method_149_code 0 = .ok (.aload_n 0, 1) := by decide +kernel
theorem d3_1 : decode jdk_42_method_149_code 1 = .ok (.invokespecial 1, 3) := by decide +kernel
theorem d3_4 : decode jdk_42_method_149_code 4 = .ok (.iload_n 3, 1) := by decide +kernel
theorem d3_5 : decode jdk_42_method_149_code 5 = .ok (.ifCond .ne 22, 3) := by decide +kernel
theorem d3_27 : decode jdk_42_method_149_code 27 = .ok (.getstatic 38, 3) := by decide +kernel
theorem d3_30 : decode jdk_42_method_149_code 30 = .ok (.ifCond .eq 28, 3) := by decide +kernel
theorem d3_33 : decode jdk_42_method_149_code 33 = .ok (.aload_n 1, 1) := by decide +kernel
theorem d3_34 : decode jdk_42_method_149_code 34 = .ok (.iload_n 2, 1) := by decide +kernel
theorem d3_35 : decode jdk_42_method_149_code 35 = .ok (.iload_n 3, 1) := by decide +kernel
theorem d3_36 : decode jdk_42_method_149_code 36 = .ok (.invokestatic 177, 3) := by decide +kernel
theorem pd_1 : parseMethodDescriptor "([CII)[B" = some ⟨[(.array .char), .int, .int], some (.array .byte)⟩ := by decide +kernel
theorem d3_39 : decode jdk_42_method_149_code 39 = .ok (.astore 5, 2) := by decide +kernel
theorem d3_41 : decode jdk_42_method_149_code 41 = .ok (.aload_n 0, 1) := by decide +kernel
theorem d3_42 : decode jdk_42_method_149_code 42 = .ok (.aload 5, 2) := by decide +kernel
theorem d3_44 : decode jdk_42_method_149_code 44 = .ok (.iload_n 3, 1) := by decide +kernel
theorem d3_45 : decode jdk_42_method_149_code 45 = .ok (.invokestatic 47, 3) := by decide +kernel
theorem pd_2 : parseMethodDescriptor "([BI)B" = some ⟨[(.array .byte), .int], some .byte⟩ := by decide +kernel
theorem d3_48 : decode jdk_42_method_149_code 48 = .ok (.putfield 15, 3) := by decide +kernel
theorem d3_51 : decode jdk_42_method_149_code 51 = .ok (.aload_n 0, 1) := by decide +kernel
theorem d3_52 : decode jdk_42_method_149_code 52 = .ok (.aload 5, 2) := by decide +kernel
theorem d3_54 : decode jdk_42_method_149_code 54 = .ok (.putfield 9, 3) := by decide +kernel
theorem d3_57 : decode jdk_42_method_149_code 57 = .ok (.return_, 1) := by decide +kernel
theorem pn_java_lang_String : plainName "java/lang/String" = true := by first | (simp [plainName, overriddenIn]; done) | decide +kernel
abbrev rm_con_strInit4 : Room := { frames := 2, cells := 1, slots := 2, locals := 35 }
set_option maxRecDepth 65536 in
set_option maxHeartbeats 40000000 in
theorem con_strInit4 (l : Launch) {Z : State} {a0 : Array Value} (hw : ∀ d ∈ tables_1, d.before a0 Z = true) {n0 : Nat} {h0 : Heap} {a b : Addr} {cs : List Int32} (E : Exa Z h0 a "java/lang/String") (FV : Fld Z h0 a "java/lang/String" "value" "[B" .null) (FC : Fld Z h0 a "java/lang/String" "coder" "B" (.int 0)) (A : IA Z h0 b .char cs) (hcap : cs.length ≤ 2) (hlat : ∀ c ∈ cs, 0 ≤ c.toInt ∧ c.toInt < 256) (hne : cs ≠ []) (HC : Cst Z) :
    Con l Z true false ELs n0 (⟨"java/lang/String", "<init>", "([CIILjava/lang/Void;)V"⟩ : MethodName) jdk_42_method_149_code 6 none rm_con_strInit4 [] #[(.ref a), (.ref b), (.int 0), (.int cs.length.toInt32), .null] h0 [a] (fun v h => v = none ∧ Lat Z h a cs) := by
  refine Con.intro (plainFor_of_name pn_java_lang_String) (hELs hw) ?_
  intro p e s m below meth c hh G
  refine castRun (g' := mkF m 0 #[.val (.ref a), .val (.ref b), .val (.int 0), .val (.int cs.length.toInt32), .val .null, .unset] []) (by first | rfl | (simp [entryFrame, mkF, argsToLocals, Value.category, maxLocals]; done)) ?_
  obtain ⟨cz, SC, hcz⟩ := HC
  have hl := A.len
  have hz : ¬ cs.length.toInt32 = 0 := fun q => hne (List.length_eq_zero_iff.mp ((toI_eq (k := 0) hl (by decide)).mp q))
  refine GoKit.aloadN G d3_0 rfl rfl (pc' := 1) rfl ?_
  refine GoKit.initObj G d3_1 (wi hw 16 rfl) (wi hw 17 rfl) (wi hw 18 rfl) rfl (by decide) (W := 0) (Nat.le_of_eq rfl) (by decide) (pc' := 4) rfl ?_
  refine GoKit.iloadN G d3_4 rfl (pc' := 5) rfl ?_
  refine GoKit.if_ne_t G d3_5 hz (by decide) (pc' := 27) rfl ?_
  refine GoKit.gets G d3_27 (wi hw 47 rfl) Via.refl SC (pc' := 30) rfl ?_
  refine GoKit.if_eq_f G d3_30 hcz (pc' := 33) rfl ?_
  refine GoKit.aloadN G d3_33 rfl rfl (pc' := 34) rfl ?_
  refine GoKit.iloadN G d3_34 rfl (pc' := 35) rfl ?_
  refine GoKit.iloadN G d3_35 rfl (pc' := 36) rfl ?_
  refine GoKit.callStatic G d3_36 (wi hw 59 rfl) (wi hw 60 rfl) (wi hw 61 rfl) (wi hw 62 rfl) (by decide) (owc := []) (W := 0) (argsL := [(.ref b), (.int 0), (.int cs.length.toInt32)]) (rest := []) (con_compress3 l hw A hcap hlat) rfl (lenOf pd_1 rfl) rfl (by decide) (Nat.le_of_eq rfl) (by decide) (by decide) (by decide) (fun _ q => nomatch q) (cells' := 1) (slots' := 2) rfl rfl (pc' := 39) rfl (fun r1 h4 q2 K3 => ?_)
  obtain ⟨d5, rfl, A6⟩ := q2
  have ne7 := IA.ne A6 (E.keep K3) (wi hw 6 rfl)
  show Run _ _ _ _ _ _ _ _ _ _ _ _ _ _ _ _ _ _ _ _ _ (mkF m 39 #[.val (.ref a), .val (.ref b), .val (.int 0), .val (.int cs.length.toInt32), .val .null, .unset] [(.ref d5)])
  refine GoKit.astore G d3_39 rfl (Ls' := #[.val (.ref a), .val (.ref b), .val (.int 0), .val (.int cs.length.toInt32), .val .null, .val (.ref d5)]) rfl (pc' := 41) rfl ?_
  refine GoKit.aloadN G d3_41 rfl rfl (pc' := 42) rfl ?_
  refine GoKit.aload G d3_42 rfl rfl (pc' := 44) rfl ?_
  refine GoKit.iloadN G d3_44 rfl (pc' := 45) rfl ?_
  refine GoKit.callStaticP G d3_45 (wi hw 66 rfl) (wi hw 67 rfl) (wi hw 61 rfl) (wi hw 68 rfl) (by decide) (W := 1) (argsL := [(.ref d5), (.int cs.length.toInt32)]) (rest := [(.ref a)]) ((by simpa using con_coderLen l hw A6)) rfl (lenOf pd_2 rfl) rfl (by decide) (Nat.le_of_eq rfl) (by decide) (by decide) (by decide) (cells' := 1) (slots' := 2) rfl rfl (pc' := 48) rfl ?_
  show Run _ _ _ _ _ _ _ _ _ _ _ _ _ _ _ _ _ _ _ _ _ (mkF m 48 #[.val (.ref a), .val (.ref b), .val (.int 0), .val (.int cs.length.toInt32), .val .null, .val (.ref d5)] [(.int 0), (.ref a)])
  refine GoKit.putf G d3_48 (wi hw 26 rfl) Via.refl (FC.keep K3 nin0) (E.keep K3) (Or.inr ⟨(wi hw 22 rfl), rfl, rfl⟩) (wi hw 6 rfl) (ty := .byte) (by decide) rfl rfl (List.Mem.head _) (pc' := 51) rfl (fun h9 W8 => ?_)
  have F10 := ((FC.keep K3 nin0)).same W8
  refine GoKit.aloadN G d3_51 rfl rfl (pc' := 52) rfl ?_
  refine GoKit.aload G d3_52 rfl rfl (pc' := 54) rfl ?_
  refine GoKit.putf G d3_54 (wi hw 25 rfl) Via.refl ((FV.keep K3 nin0).other W8 (Or.inr (slot_ne (Or.inr (wi hw 21 rfl)) (Or.inr (wi hw 22 rfl)) (by decide) (by decide : _ = some (.array .byte)) (by decide : _ = some .byte)))) ((E.keep K3).wr W8) (Or.inr ⟨(wi hw 21 rfl), rfl, rfl⟩) (wi hw 6 rfl) (ty := (.array .byte)) (by decide) rfl rfl (List.Mem.head _) (pc' := 57) rfl (fun h12 W11 => ?_)
  have F13 := (((FV.keep K3 nin0).other W8 (Or.inr (slot_ne (Or.inr (wi hw 21 rfl)) (Or.inr (wi hw 22 rfl)) (by decide) (by decide : _ = some (.array .byte)) (by decide : _ = some .byte))))).same W11
  refine GoKit.retVoid G d3_57 rfl (by decide) (by decide) ?_
  exact ⟨rfl, (((E.keep K3).wr W8).wr W11), ⟨d5, F13, (F10.other W11 (Or.inr (slot_ne (Or.inr (wi hw 22 rfl)) (Or.inr (wi hw 21 rfl)) (by decide) (by decide : _ = some .byte) (by decide : _ = some (.array .byte))))), ((A6.other W8 ne7).other W11 ne7)⟩, hlat⟩
theorem d2_0 : decode jdk_42_method_3_code 0 = .ok (.aload_n 0, 1) := by decide +kernel
theorem d2_1 : decode jdk_42_method_3_code 1 = .ok (.aload_n 1, 1) := by decide +kernel
theorem d2_2 : decode jdk_42_method_3_code 2 = .ok (.iconst 0, 1) := by decide +kernel
theorem d2_3 : decode jdk_42_method_3_code 3 = .ok (.aload_n 1, 1) := by decide +kernel
theorem d2_4 : decode jdk_42_method_3_code 4 = .ok (.arraylength, 1) := by decide +kernel
theorem d2_5 : decode jdk_42_method_3_code 5 = .ok (.aconst_null, 1) := by decide +kernel
theorem d2_6 : decode jdk_42_method_3_code 6 = .ok (.invokespecial 27, 3) := by decide +kernel
theorem pd_3 : parseMethodDescriptor "([CIILjava/lang/Void;)V" = some ⟨[(.array .char), .int, .int, (.object "java/lang/Void")], none⟩ := by decide +kernel
theorem d2_9 : decode jdk_42_method_3_code 9 = .ok (.return_, 1) := by decide +kernel
abbrev rm_con_strInit : Room := { frames := 5, cells := 2, slots := 6, locals := 74 }
set_option maxRecDepth 65536 in
set_option maxHeartbeats 40000000 in
theorem con_strInit (l : Launch) {Z : State} {a0 : Array Value} (hw : ∀ d ∈ tables_1, d.before a0 Z = true) {n0 : Nat} {h0 : Heap} {a b : Addr} {cs : List Int32} (E : Exa Z h0 a "java/lang/String") (FV : Fld Z h0 a "java/lang/String" "value" "[B" .null) (FC : Fld Z h0 a "java/lang/String" "coder" "B" (.int 0)) (A : IA Z h0 b .char cs) (hcap : cs.length ≤ 2) (hlat : ∀ c ∈ cs, 0 ≤ c.toInt ∧ c.toInt < 256) (hne : cs ≠ []) (HC : Cst Z) :
    Con l Z true false ELs n0 (⟨"java/lang/String", "<init>", "([C)V"⟩ : MethodName) jdk_42_method_3_code 2 none rm_con_strInit [] #[(.ref a), (.ref b)] h0 [a] (fun v h => v = none ∧ Lat Z h a cs) := by
  refine Con.intro (plainFor_of_name pn_java_lang_String) (hELs hw) ?_
  intro p e s m below meth c hh G
  refine castRun (g' := mkF m 0 #[.val (.ref a), .val (.ref b)] []) (by first | rfl | (simp [entryFrame, mkF, argsToLocals, Value.category, maxLocals]; done)) ?_
  refine GoKit.aloadN G d2_0 rfl rfl (pc' := 1) rfl ?_
  refine GoKit.aloadN G d2_1 rfl rfl (pc' := 2) rfl ?_
  refine GoKit.iconst G (0 : Int32) d2_2 rfl (pc' := 3) rfl ?_
  refine GoKit.aloadN G d2_3 rfl rfl (pc' := 4) rfl ?_
  refine GoKit.arrlenI G d2_4 A (z := cs.length.toInt32) rfl (pc' := 5) rfl ?_
  refine GoKit.aconstNull G d2_5 (pc' := 6) rfl ?_
  refine GoKit.callSpecial G d2_6 rfl (wi hw 12 rfl) (wi hw 13 rfl) (wi hw 7 rfl) (wi hw 15 rfl) (by decide) (owc := [a]) (W := 0) (argsL := [(.ref b), (.int (0 : Int32)), (.int cs.length.toInt32), .null]) (rest := []) (con_strInit4 l hw E FV FC A hcap hlat hne HC) rfl (lenOf pd_3 rfl) rfl (by decide) (Nat.le_of_eq rfl) (by decide) (by decide) (by decide) (by intro x hx; simp only [List.mem_cons, List.not_mem_nil, or_false] at hx ⊢; simp [hx]) (cells' := 1) (slots' := 2) rfl rfl (pc' := 9) rfl (fun r1 h4 q2 K3 => ?_)
  obtain ⟨rfl, S5⟩ := q2
  show Run _ _ _ _ _ _ _ _ _ _ _ _ _ _ _ _ _ _ _ _ _ (mkF m 9 #[.val (.ref a), .val (.ref b)] [])
  refine GoKit.retVoid G d2_9 rfl (by decide) (by decide) ?_
  exact ⟨rfl, S5⟩
def b0 (c : Int32) : Int32 := c.toInt8.toInt32
def b1 (c : Int32) : Int32 := (c >>> ((8 : Int32) &&& 31)).toInt8.toInt32
def u16 : List Int32 → List Int32
  | [] => []
  | c :: cs => b0 c :: b1 c :: u16 cs
theorem u16_len : ∀ cs, (u16 cs).length = 2 * cs.length
  | [] => rfl
  | c :: cs => by simp only [u16, List.length_cons, u16_len cs]; omega
theorem u16_app : ∀ cs ds, u16 (cs ++ ds) = u16 cs ++ u16 ds
  | [], ds => rfl
  | c :: cs, ds => by simp only [List.cons_append, u16, u16_app cs ds]
theorem u16_get0 : ∀ (cs : List Int32) (i : Nat) (c : Int32), cs[i]? = some c → (u16 cs)[2 * i]? = some (b0 c) ∧ (u16 cs)[2 * i + 1]? = some (b1 c)
  | [], i, c, h => by cases h
  | d :: cs, 0, c, h => by
    have e : d = c := by simpa using h
    subst e; exact ⟨rfl, rfl⟩
  | d :: cs, i + 1, c, h => by
    have := u16_get0 cs i c (by simpa using h)
    rw [show 2 * (i + 1) = 2 * i + 1 + 1 from by omega]
    simpa [u16] using this
theorem u16_set (cs : List Int32) (i k : Nat) (c : Int32) (hc : cs[i]? = some c) : ((u16 (cs.take i) ++ List.replicate (2 * (k + 1)) 0).set (2 * i) (b0 c)).set (2 * i + 1) (b1 c) = u16 (cs.take (i + 1)) ++ List.replicate (2 * k) 0 := by
  have hi := (List.getElem?_eq_some_iff.mp hc).1
  have hl : (u16 (cs.take i)).length = 2 * i := by rw [u16_len]; simp; omega
  rw [List.take_add_one, hc, u16_app, List.set_append_right _ _ (by omega), List.set_append_right _ _ (by omega), hl, show 2 * i - 2 * i = 0 from by omega, show 2 * i + 1 - 2 * i = 1 from by omega, show 2 * (k + 1) = 2 * k + 1 + 1 from by omega, List.replicate_succ, List.replicate_succ]
  simp [u16]
theorem shl1 {i : Nat} (h : i < 2 ^ 30) : i.toInt32 <<< ((1 : Int32) &&& 31) = (2 * i).toInt32 := by
  apply Int32.toBitVec_inj.mp
  show (BitVec.ofNat 32 i) <<< (1 : Nat) = BitVec.ofNat 32 (2 * i)
  apply BitVec.eq_of_toNat_eq
  simp [BitVec.toNat_shiftLeft, Nat.shiftLeft_eq]
  omega
theorem shr1 {i : Nat} (h : i < 2 ^ 30) : (2 * i).toInt32 >>> ((1 : Int32) &&& 31) = i.toInt32 := by
  apply Int32.toBitVec_inj.mp
  show (BitVec.ofNat 32 (2 * i)).sshiftRight (1 : Nat) = BitVec.ofNat 32 i
  rw [BitVec.sshiftRight_eq_of_msb_false (by rw [BitVec.msb_eq_false_iff_two_mul_lt]; simp; omega)]
  apply BitVec.eq_of_toNat_eq
  simp [BitVec.toNat_ushiftRight, Nat.shiftRight_eq_div_pow]
  omega
theorem sx8 (x : BitVec 8) : (x.signExtend 32) &&& 255#32 = x.setWidth 32 := by
  revert x; decide +kernel
theorem u16_bv (c : BitVec 32) (h : c.toNat < 65536) : ((((((c.setWidth 8).signExtend 32) &&& 255#32) <<< 0) ||| (((((c.sshiftRight 8).setWidth 8).signExtend 32) &&& 255#32) <<< 8)).setWidth 16).setWidth 32 = c := by
  rw [sx8, sx8, BitVec.sshiftRight_eq_of_msb_false (by rw [BitVec.msb_eq_false_iff_two_mul_lt]; omega)]
  apply BitVec.eq_of_toNat_eq
  simp only [BitVec.toNat_setWidth, BitVec.toNat_or, BitVec.toNat_shiftLeft, BitVec.toNat_ushiftRight, Nat.shiftRight_eq_div_pow]
  generalize c.toNat = n at h
  have e1 : (n % 2 ^ 8 % 2 ^ 32) <<< 0 % 2 ^ 32 = n % 256 := by rw [Nat.shiftLeft_zero]; omega
  have e2 : (n / 2 ^ 8 % 2 ^ 8 % 2 ^ 32) <<< 8 % 2 ^ 32 = (n / 256) <<< 8 := by rw [Nat.shiftLeft_eq, Nat.shiftLeft_eq]; omega
  rw [e1, e2, Nat.or_comm, ← Nat.shiftLeft_add_eq_or_of_lt (by omega : n % 256 < 2 ^ 8), Nat.shiftLeft_eq]
  omega
theorem toNat16 {c : Int32} (h : 0 ≤ c.toInt ∧ c.toInt < 65536) : c.toBitVec.toNat < 65536 := by
  have h1 : c.toBitVec.toInt = c.toInt := rfl
  have h2 := BitVec.toInt_eq_toNat_cond c.toBitVec
  have := c.toBitVec.isLt
  split at h2 <;> omega
theorem sl0 (x : Int32) : (x <<< ((0 : Int32) &&& 31)).toBitVec = x.toBitVec <<< 0 := rfl
theorem sl8 (x : Int32) : (x <<< ((8 : Int32) &&& 31)).toBitVec = x.toBitVec <<< 8 := rfl
theorem sr8 (x : Int32) : (x >>> ((8 : Int32) &&& 31)).toBitVec = x.toBitVec.sshiftRight 8 := rfl
theorem u16_back {c : Int32} (h : 0 ≤ c.toInt ∧ c.toInt < 65536) : nar .char ((((b0 c &&& 255) <<< ((0 : Int32) &&& 31)) ||| ((b1 c &&& 255) <<< ((8 : Int32) &&& 31))).toUInt32.toUInt16.toUInt32.toInt32) = c := by
  have e := u16_bv c.toBitVec (toNat16 h)
  have n16 : ∀ x : Int32, nar .char (x.toUInt32.toUInt16.toUInt32.toInt32) = x.toUInt32.toUInt16.toUInt32.toInt32 := fun x => by simp only [nar, UInt32.toUInt32_toInt32, UInt16.toUInt16_toUInt32]
  rw [n16]
  apply Int32.toBitVec_inj.mp
  show ((((b0 c &&& 255) <<< ((0 : Int32) &&& 31)).toBitVec ||| ((b1 c &&& 255) <<< ((8 : Int32) &&& 31)).toBitVec).setWidth 16).setWidth 32 = c.toBitVec
  rw [sl0, sl8]
  show (((((((c.toBitVec).signExtend 8).signExtend 32) &&& 255#32) <<< 0) ||| (((((c >>> ((8 : Int32) &&& 31)).toBitVec.signExtend 8).signExtend 32) &&& 255#32) <<< 8)).setWidth 16).setWidth 32 = c.toBitVec
  rw [sr8, BitVec.signExtend_eq_setWidth_of_le _ (by decide : 8 ≤ 32), BitVec.signExtend_eq_setWidth_of_le _ (by decide : 8 ≤ 32)]
  exact e
theorem nar16 {c : Int32} (h : 0 ≤ c.toInt ∧ c.toInt < 65536) : nar .char c = c := by
  apply Int32.toBitVec_inj.mp
  have e := toNat16 h
  show ((c.toBitVec.setWidth 16).setWidth 32) = c.toBitVec
  apply BitVec.eq_of_toNat_eq
  simp
  omega
theorem coderU {n : Nat} (h1 : 0 < n) (h2 : n < 2 ^ 30) : nar .byte (((n.toInt32 - (2 * n).toInt32).toUInt32 >>> ((31 : Int32) &&& 31).toUInt32).toInt32.toInt8.toInt32) = 1 := by
  have e : (n.toInt32 - (2 * n).toInt32).toUInt32 >>> ((31 : Int32) &&& 31).toUInt32 = 1 := by
    apply UInt32.toBitVec_inj.mp
    show ((BitVec.ofNat 32 n) - (BitVec.ofNat 32 (2 * n))) >>> (31 : Nat) = 1#32
    apply BitVec.eq_of_toNat_eq
    rw [BitVec.toNat_ushiftRight, Nat.shiftRight_eq_div_pow, BitVec.toNat_sub]
    simp
    omega
  rw [e]; rfl
def U16 (Z : State) (h : Heap) (a : Addr) (cs : List Int32) : Prop := Exa Z h a "java/lang/String" ∧ (∃ b, Fld Z h a "java/lang/String" "value" "[B" (.ref b) ∧ Fld Z h a "java/lang/String" "coder" "B" (.int 1) ∧ IA Z h b .byte (u16 cs)) ∧ (∀ c ∈ cs, 0 ≤ c.toInt ∧ c.toInt < 65536) ∧ cs.length < 2 ^ 29
def Str (Z : State) (h : Heap) (a : Addr) (cs : List Int32) : Prop := Lat Z h a cs ∨ U16 Z h a cs
theorem str_keep {Z : State} {h h' : Heap} {a : Addr} {cs : List Int32} (S : Str Z h a cs) (K : Keep h h' []) : Str Z h' a cs := by
  rcases S with S | ⟨E, ⟨b, V, C, A⟩, l⟩
  · exact Or.inl (S.keep K)
  · exact Or.inr ⟨E.keep K, ⟨b, V.keep K nin0, C.keep K nin0, A.keep K nin0⟩, l⟩
theorem str_exa {Z : State} {h : Heap} {a : Addr} {cs : List Int32} (S : Str Z h a cs) : Exa Z h a "java/lang/String" := by
  rcases S with S | S
  · exact S.1
  · exact S.1
theorem str_len {Z : State} {h : Heap} {a : Addr} {cs : List Int32} (S : Str Z h a cs) : cs.length < 2 ^ 31 := by
  rcases S with ⟨-, ⟨b, -, -, A⟩, -⟩ | ⟨-, -, -, l⟩
  · have := A.len; simpa using this
  · omega
theorem str_ch {Z : State} {h : Heap} {a : Addr} {cs : List Int32} (S : Str Z h a cs) : ∀ c ∈ cs, 0 ≤ c.toInt ∧ c.toInt < 65536 := by
  rcases S with ⟨-, -, l⟩ | ⟨-, -, l, -⟩
  · intro c hc; have := l c hc; omega
  · exact l
theorem first_big : ∀ {cs : List Int32}, (∀ c ∈ cs, 0 ≤ c.toInt ∧ c.toInt < 65536) → ¬ (∀ c ∈ cs, 0 ≤ c.toInt ∧ c.toInt < 256) → ∃ (i : Nat) (c : Int32), cs[i]? = some c ∧ 255 < c.toInt ∧ ∀ j, j < i → ∀ d, cs[j]? = some d → 0 ≤ d.toInt ∧ d.toInt < 256
  | [], _, h => absurd (fun _ q => nomatch q) h
  | c :: cs, h1, h2 => by
    by_cases q : c.toInt < 256
    · obtain ⟨i, d, e1, e2, e3⟩ := first_big (cs := cs) (fun x hx => h1 x (List.Mem.tail _ hx)) (fun r => h2 fun x hx => by
        rcases List.mem_cons.mp hx with rfl | hx
        · exact ⟨(h1 _ (List.Mem.head _)).1, q⟩
        · exact r x hx)
      refine ⟨i + 1, d, by simpa using e1, e2, fun j hj x hx => ?_⟩
      cases j with
      | zero =>
        have : c = x := by simpa using hx
        subst this
        exact ⟨(h1 _ (List.Mem.head _)).1, q⟩
      | succ j => exact e3 j (by omega) x (by simpa using hx)
    · exact ⟨0, c, rfl, by omega, fun j hj => absurd hj (Nat.not_lt_zero j)⟩
def Ust (Z : State) : Prop := Sta Z Z.heap "java/lang/StringUTF16" "$assertionsDisabled" "Z" (.int 1) ∧ Sta Z Z.heap "java/lang/StringUTF16" "HI_BYTE_SHIFT" "I" (.int 0) ∧ Sta Z Z.heap "java/lang/StringUTF16" "LO_BYTE_SHIFT" "I" (.int 8)
theorem d18_0 : decode jdk_52_method_3_code 0 = .ok (.iload_n 0, 1) := by decide +kernel
theorem d18_1 : decode jdk_52_method_3_code 1 = .ok (.ifCond .ge 11, 3) := by decide +kernel
theorem d18_12 : decode jdk_52_method_3_code 12 = .ok (.iload_n 0, 1) := by decide +kernel
theorem d18_13 : decode jdk_52_method_3_code 13 = .ok (.ldc 20, 2) := by decide +kernel
theorem d18_15 : decode jdk_52_method_3_code 15 = .ok (.if_icmp .lt 40, 3) := by decide +kernel
theorem d18_55 : decode jdk_52_method_3_code 55 = .ok (.iload_n 0, 1) := by decide +kernel
theorem d18_56 : decode jdk_52_method_3_code 56 = .ok (.iconst 1, 1) := by decide +kernel
theorem d18_57 : decode jdk_52_method_3_code 57 = .ok (.ishl, 1) := by decide +kernel
theorem d18_58 : decode jdk_52_method_3_code 58 = .ok (.ireturn, 1) := by decide +kernel
abbrev rm_con_nbl : Room := { frames := 0, cells := 0, slots := 0, locals := 0 }
set_option maxRecDepth 65536 in
set_option maxHeartbeats 40000000 in
theorem con_nbl (l : Launch) {Z : State} {a0 : Array Value} (hw : ∀ d ∈ tables_1, d.before a0 Z = true) {n0 : Nat} {h0 : Heap} {n : Nat} (hn : n < 2 ^ 29) :
    Con l Z true false ELs n0 (⟨"java/lang/StringUTF16", "newBytesLength", "(I)I"⟩ : MethodName) jdk_52_method_3_code 1 (some .int) rm_con_nbl [] #[(.int n.toInt32)] h0 [] (fun v h => v = some (.int (2 * n).toInt32) ∧ h = h0) := by
  refine Con.intro (plainFor_of_name pn_java_lang_StringUTF16) (hELs hw) ?_
  intro p e s m below meth c hh G
  refine castRun (g' := mkF m 0 #[.val (.int n.toInt32)] []) (by first | rfl | (simp [entryFrame, mkF, argsToLocals, Value.category, maxLocals]; done)) ?_
  refine GoKit.iloadN G d18_0 rfl (pc' := 1) rfl ?_
  refine GoKit.if_ge_t G d18_1 (toI_nn (by omega)) (by decide) (pc' := 12) rfl ?_
  refine GoKit.iloadN G d18_12 rfl (pc' := 13) rfl ?_
  refine GoKit.ldcInt G d18_13 (wi hw 78 rfl) (pc' := 15) rfl ?_
  refine GoKit.icmp_lt_t G d18_15 ((toI_lt (k := 1073741823) (by omega) (by omega)).mpr (by omega)) (by decide) (pc' := 55) rfl ?_
  refine GoKit.iloadN G d18_55 rfl (pc' := 56) rfl ?_
  refine GoKit.iconst G (1 : Int32) d18_56 rfl (pc' := 57) rfl ?_
  refine GoKit.ishl G d18_57 (pc' := 58) rfl (fun v1 hqv1 => ?_)
  obtain rfl : v1 = (2 * n).toInt32 := by rw [hqv1]; exact shl1 (by omega)
  refine GoKit.retInt G d18_58 rfl (by decide) (by decide) ?_
  exact ⟨rfl, rfl⟩
theorem d17_0 : decode jdk_52_method_2_code 0 = .ok (.iload_n 0, 1) := by decide +kernel
theorem d17_1 : decode jdk_52_method_2_code 1 = .ok (.invokestatic 11, 3) := by decide +kernel
theorem pd_4 : parseMethodDescriptor "(I)I" = some ⟨[.int], some .int⟩ := by decide +kernel
theorem d17_4 : decode jdk_52_method_2_code 4 = .ok (.newarray .byte, 2) := by decide +kernel
theorem d17_6 : decode jdk_52_method_2_code 6 = .ok (.areturn, 1) := by decide +kernel
abbrev rm_con_nbf : Room := { frames := 1, cells := 1, slots := 4, locals := 12 }
set_option maxRecDepth 65536 in
set_option maxHeartbeats 40000000 in
theorem con_nbf (l : Launch) {Z : State} {a0 : Array Value} (hw : ∀ d ∈ tables_1, d.before a0 Z = true) {n0 : Nat} {h0 : Heap} {n : Nat} (hn : n ≤ 2) :
    Con l Z true true ELs n0 (⟨"java/lang/StringUTF16", "newBytesFor", "(I)[B"⟩ : MethodName) jdk_52_method_2_code 1 (some (.array .byte)) rm_con_nbf [] #[(.int n.toInt32)] h0 [] (fun v h => ∃ d, v = some (.ref d) ∧ IA Z h d .byte (List.replicate (2 * n) 0)) := by
  refine Con.intro (plainFor_of_name pn_java_lang_StringUTF16) (hELs hw) ?_
  intro p e s m below meth c hh G
  refine castRun (g' := mkF m 0 #[.val (.int n.toInt32)] []) (by first | rfl | (simp [entryFrame, mkF, argsToLocals, Value.category, maxLocals]; done)) ?_
  refine GoKit.iloadN G d17_0 rfl (pc' := 1) rfl ?_
  refine GoKit.callStaticP G d17_1 (wi hw 75 rfl) (wi hw 76 rfl) (wi hw 61 rfl) (wi hw 77 rfl) (by decide) (W := 0) (argsL := [(.int n.toInt32)]) (rest := []) (con_nbl l hw (by omega)) rfl (lenOf pd_4 rfl) rfl (by decide) (Nat.le_of_eq rfl) (by decide) (by decide) (by decide) (cells' := 0) (slots' := 0) rfl rfl (pc' := 4) rfl ?_
  show Run _ _ _ _ _ _ _ _ _ _ _ _ _ _ _ _ _ _ _ _ _ (mkF m 4 #[.val (.int n.toInt32)] [(.int (2 * n).toInt32)])
  refine GoKit.newbI G d17_4 (wi hw 20 rfl) (toI_nn (by omega)) (k := 2 * n) (cap := 4) (toI_clamp (by omega)) (by omega) (by decide) (by decide) (by decide) (cells' := 1) (slots' := 4) rfl rfl (pc' := 6) rfl (fun h4 a1 ga1 E2 A3 => ?_)
  refine GoKit.retOwn G (List.Mem.head _) (fun q => nomatch q) d17_6 rfl rfl (by decide) (by decide) ?_
  exact ⟨_, rfl, A3⟩
theorem d19_0 : decode jdk_52_method_4_code 0 = .ok (.getstatic 44, 3) := by decide +kernel
theorem d19_3 : decode jdk_52_method_4_code 3 = .ok (.ifCond .ne 25, 3) := by decide +kernel
theorem d19_28 : decode jdk_52_method_4_code 28 = .ok (.iload_n 1, 1) := by decide +kernel
theorem d19_29 : decode jdk_52_method_4_code 29 = .ok (.iconst 1, 1) := by decide +kernel
theorem d19_30 : decode jdk_52_method_4_code 30 = .ok (.ishl, 1) := by decide +kernel
theorem d19_31 : decode jdk_52_method_4_code 31 = .ok (.istore_n 1, 1) := by decide +kernel
theorem d19_32 : decode jdk_52_method_4_code 32 = .ok (.aload_n 0, 1) := by decide +kernel
theorem d19_33 : decode jdk_52_method_4_code 33 = .ok (.iload_n 1, 1) := by decide +kernel
theorem d19_34 : decode jdk_52_method_4_code 34 = .ok (.iinc 1 1, 3) := by decide +kernel
theorem d19_37 : decode jdk_52_method_4_code 37 = .ok (.iload_n 2, 1) := by decide +kernel
theorem d19_38 : decode jdk_52_method_4_code 38 = .ok (.getstatic 59, 3) := by decide +kernel
theorem d19_41 : decode jdk_52_method_4_code 41 = .ok (.ishr, 1) := by decide +kernel
theorem d19_42 : decode jdk_52_method_4_code 42 = .ok (.i2b, 1) := by decide +kernel
theorem d19_43 : decode jdk_52_method_4_code 43 = .ok (.bastore, 1) := by decide +kernel
theorem d19_44 : decode jdk_52_method_4_code 44 = .ok (.aload_n 0, 1) := by decide +kernel
theorem d19_45 : decode jdk_52_method_4_code 45 = .ok (.iload_n 1, 1) := by decide +kernel
theorem d19_46 : decode jdk_52_method_4_code 46 = .ok (.iload_n 2, 1) := by decide +kernel
theorem d19_47 : decode jdk_52_method_4_code 47 = .ok (.getstatic 63, 3) := by decide +kernel
theorem d19_50 : decode jdk_52_method_4_code 50 = .ok (.ishr, 1) := by decide +kernel
theorem d19_51 : decode jdk_52_method_4_code 51 = .ok (.i2b, 1) := by decide +kernel
theorem d19_52 : decode jdk_52_method_4_code 52 = .ok (.bastore, 1) := by decide +kernel
theorem d19_53 : decode jdk_52_method_4_code 53 = .ok (.return_, 1) := by decide +kernel
abbrev rm_con_putChar : Room := { frames := 0, cells := 0, slots := 0, locals := 0 }
set_option maxRecDepth 65536 in
set_option maxHeartbeats 40000000 in
theorem con_putChar (l : Launch) {Z : State} {a0 : Array Value} (hw : ∀ d ∈ tables_1, d.before a0 Z = true) {n0 : Nat} {h0 : Heap} {b : Addr} {ys : List Int32} {i : Nat} {c1 : Int32} (A : IA Z h0 b .byte ys) (hi : 2 * i + 1 < ys.length) (HU : Ust Z) :
    Con l Z true false ELs n0 (⟨"java/lang/StringUTF16", "putChar", "([BII)V"⟩ : MethodName) jdk_52_method_4_code 3 none rm_con_putChar [] #[(.ref b), (.int i.toInt32), (.int c1)] h0 [b] (fun v h => v = none ∧ IA Z h b .byte ((ys.set (2 * i) (b0 c1)).set (2 * i + 1) (b1 c1))) := by
  refine Con.intro (plainFor_of_name pn_java_lang_StringUTF16) (hELs hw) ?_
  intro p e s m below meth c hh G
  refine castRun (g' := mkF m 0 #[.val (.ref b), .val (.int i.toInt32), .val (.int c1)] []) (by first | rfl | (simp [entryFrame, mkF, argsToLocals, Value.category, maxLocals]; done)) ?_
  have hl := A.len
  refine GoKit.gets G d19_0 (wi hw 82 rfl) Via.refl HU.1 (pc' := 3) rfl ?_
  refine GoKit.if_ne_t G d19_3 (by decide) (by decide) (pc' := 28) rfl ?_
  refine GoKit.iloadN G d19_28 rfl (pc' := 29) rfl ?_
  refine GoKit.iconst G (1 : Int32) d19_29 rfl (pc' := 30) rfl ?_
  refine GoKit.ishl G d19_30 (pc' := 31) rfl (fun v1 hqv1 => ?_)
  obtain rfl : v1 = (2 * i).toInt32 := by rw [hqv1]; exact shl1 (by omega)
  refine GoKit.istoreN G d19_31 (Ls' := #[.val (.ref b), .val (.int (2 * i).toInt32), .val (.int c1)]) rfl (pc' := 32) rfl ?_
  refine GoKit.aloadN G d19_32 rfl rfl (pc' := 33) rfl ?_
  refine GoKit.iloadN G d19_33 rfl (pc' := 34) rfl ?_
  refine GoKit.iinc G (1 : Int32) d19_34 rfl rfl (Ls' := #[.val (.ref b), .val (.int ((2 * i).toInt32 + (1 : Int32))), .val (.int c1)]) rfl (pc' := 37) rfl ?_
  generalize hqv2 : ((2 * i).toInt32 + (1 : Int32)) = v2
  rw [toI_succ] at hqv2; subst hqv2
  refine GoKit.iloadN G d19_37 rfl (pc' := 38) rfl ?_
  refine GoKit.gets G d19_38 (wi hw 83 rfl) Via.refl HU.2.1 (pc' := 41) rfl ?_
  refine GoKit.ishr G d19_41 (pc' := 42) rfl (fun v3 hqv3 => ?_)
  refine GoKit.i2b G d19_42 (pc' := 43) rfl (fun v4 hqv4 => ?_)
  refine GoKit.bastI G d19_43 A (i := 2 * i) (toI_clamp (by omega)) (toI_nn (by omega)) (by omega) (x' := b0 c1) (by subst_vars; rw [sh0]; first | rfl | exact lo8_nar _) (List.Mem.head _) (pc' := 44) rfl (fun h7 W5 A6 => ?_)
  refine GoKit.aloadN G d19_44 rfl rfl (pc' := 45) rfl ?_
  refine GoKit.iloadN G d19_45 rfl (pc' := 46) rfl ?_
  refine GoKit.iloadN G d19_46 rfl (pc' := 47) rfl ?_
  refine GoKit.gets G d19_47 (wi hw 84 rfl) Via.refl HU.2.2 (pc' := 50) rfl ?_
  refine GoKit.ishr G d19_50 (pc' := 51) rfl (fun v8 hqv8 => ?_)
  refine GoKit.i2b G d19_51 (pc' := 52) rfl (fun v9 hqv9 => ?_)
  refine GoKit.bastI G d19_52 A6 (i := 2 * i + 1) (toI_clamp (by omega)) (toI_nn (by omega)) (by rw [List.length_set]; omega) (x' := b1 c1) (by subst_vars; rw [show ((c1 >>> ((8 : Int32) &&& 31)).toInt8.toInt32) = b1 c1 from rfl]; first | rfl | exact lo8_nar _) (List.Mem.head _) (pc' := 53) rfl (fun h12 W10 A11 => ?_)
  refine GoKit.retVoid G d19_53 rfl (by decide) (by decide) ?_
  exact ⟨rfl, A11⟩
theorem d20_0 : decode jdk_52_method_5_code 0 = .ok (.getstatic 44, 3) := by decide +kernel
theorem d20_3 : decode jdk_52_method_5_code 3 = .ok (.ifCond .ne 25, 3) := by decide +kernel
theorem d20_28 : decode jdk_52_method_5_code 28 = .ok (.iload_n 1, 1) := by decide +kernel
theorem d20_29 : decode jdk_52_method_5_code 29 = .ok (.iconst 1, 1) := by decide +kernel
theorem d20_30 : decode jdk_52_method_5_code 30 = .ok (.ishl, 1) := by decide +kernel
theorem d20_31 : decode jdk_52_method_5_code 31 = .ok (.istore_n 1, 1) := by decide +kernel
theorem d20_32 : decode jdk_52_method_5_code 32 = .ok (.aload_n 0, 1) := by decide +kernel
theorem d20_33 : decode jdk_52_method_5_code 33 = .ok (.iload_n 1, 1) := by decide +kernel
theorem d20_34 : decode jdk_52_method_5_code 34 = .ok (.iinc 1 1, 3) := by decide +kernel
theorem d20_37 : decode jdk_52_method_5_code 37 = .ok (.baload, 1) := by decide +kernel
theorem d20_38 : decode jdk_52_method_5_code 38 = .ok (.sipush 255, 3) := by decide +kernel
theorem d20_41 : decode jdk_52_method_5_code 41 = .ok (.iand, 1) := by decide +kernel
theorem d20_42 : decode jdk_52_method_5_code 42 = .ok (.getstatic 59, 3) := by decide +kernel
theorem d20_45 : decode jdk_52_method_5_code 45 = .ok (.ishl, 1) := by decide +kernel
theorem d20_46 : decode jdk_52_method_5_code 46 = .ok (.aload_n 0, 1) := by decide +kernel
theorem d20_47 : decode jdk_52_method_5_code 47 = .ok (.iload_n 1, 1) := by decide +kernel
theorem d20_48 : decode jdk_52_method_5_code 48 = .ok (.baload, 1) := by decide +kernel
theorem d20_49 : decode jdk_52_method_5_code 49 = .ok (.sipush 255, 3) := by decide +kernel
theorem d20_52 : decode jdk_52_method_5_code 52 = .ok (.iand, 1) := by decide +kernel
theorem d20_53 : decode jdk_52_method_5_code 53 = .ok (.getstatic 63, 3) := by decide +kernel
theorem d20_56 : decode jdk_52_method_5_code 56 = .ok (.ishl, 1) := by decide +kernel
theorem d20_57 : decode jdk_52_method_5_code 57 = .ok (.ior, 1) := by decide +kernel
theorem d20_58 : decode jdk_52_method_5_code 58 = .ok (.i2c, 1) := by decide +kernel
theorem d20_59 : decode jdk_52_method_5_code 59 = .ok (.ireturn, 1) := by decide +kernel
abbrev rm_con_getChar : Room := { frames := 0, cells := 0, slots := 0, locals := 0 }
set_option maxRecDepth 65536 in
set_option maxHeartbeats 40000000 in
theorem con_getChar (l : Launch) {Z : State} {a0 : Array Value} (hw : ∀ d ∈ tables_1, d.before a0 Z = true) {n0 : Nat} {h0 : Heap} {b : Addr} {cs : List Int32} {i : Nat} {ch : Int32} (A : IA Z h0 b .byte (u16 cs)) (hi : cs[i]? = some ch) (hch : ∀ c ∈ cs, 0 ≤ c.toInt ∧ c.toInt < 65536) (HU : Ust Z) :
    Con l Z true false ELs n0 (⟨"java/lang/StringUTF16", "getChar", "([BI)C"⟩ : MethodName) jdk_52_method_5_code 2 (some .char) rm_con_getChar [] #[(.ref b), (.int i.toInt32)] h0 [] (fun v h => v = some (.int ch) ∧ h = h0) := by
  refine Con.intro (plainFor_of_name pn_java_lang_StringUTF16) (hELs hw) ?_
  intro p e s m below meth c hh G
  refine castRun (g' := mkF m 0 #[.val (.ref b), .val (.int i.toInt32)] []) (by first | rfl | (simp [entryFrame, mkF, argsToLocals, Value.category, maxLocals]; done)) ?_
  have hl := A.len
  rw [u16_len] at hl
  have hil := (List.getElem?_eq_some_iff.mp hi).1
  obtain ⟨g0, g1⟩ := u16_get0 cs i ch hi
  refine GoKit.gets G d20_0 (wi hw 82 rfl) Via.refl HU.1 (pc' := 3) rfl ?_
  refine GoKit.if_ne_t G d20_3 (by decide) (by decide) (pc' := 28) rfl ?_
  refine GoKit.iloadN G d20_28 rfl (pc' := 29) rfl ?_
  refine GoKit.iconst G (1 : Int32) d20_29 rfl (pc' := 30) rfl ?_
  refine GoKit.ishl G d20_30 (pc' := 31) rfl (fun v1 hqv1 => ?_)
  obtain rfl : v1 = (2 * i).toInt32 := by rw [hqv1]; exact shl1 (by omega)
  refine GoKit.istoreN G d20_31 (Ls' := #[.val (.ref b), .val (.int (2 * i).toInt32)]) rfl (pc' := 32) rfl ?_
  refine GoKit.aloadN G d20_32 rfl rfl (pc' := 33) rfl ?_
  refine GoKit.iloadN G d20_33 rfl (pc' := 34) rfl ?_
  refine GoKit.iinc G (1 : Int32) d20_34 rfl rfl (Ls' := #[.val (.ref b), .val (.int ((2 * i).toInt32 + (1 : Int32)))]) rfl (pc' := 37) rfl ?_
  generalize hqv2 : ((2 * i).toInt32 + (1 : Int32)) = v2
  rw [toI_succ] at hqv2; subst hqv2
  refine GoKit.baloadI G d20_37 A (i := 2 * i) (toI_clamp (by omega)) (toI_nn (by omega)) (x := b0 ch) g0 (pc' := 38) rfl ?_
  refine GoKit.sipush G (255 : Int32) d20_38 rfl (pc' := 41) rfl ?_
  refine GoKit.iand G d20_41 (pc' := 42) rfl (fun v3 hqv3 => ?_)
  refine GoKit.gets G d20_42 (wi hw 83 rfl) Via.refl HU.2.1 (pc' := 45) rfl ?_
  refine GoKit.ishl G d20_45 (pc' := 46) rfl (fun v4 hqv4 => ?_)
  refine GoKit.aloadN G d20_46 rfl rfl (pc' := 47) rfl ?_
  refine GoKit.iloadN G d20_47 rfl (pc' := 48) rfl ?_
  refine GoKit.baloadI G d20_48 A (i := 2 * i + 1) (toI_clamp (by omega)) (toI_nn (by omega)) (x := b1 ch) g1 (pc' := 49) rfl ?_
  refine GoKit.sipush G (255 : Int32) d20_49 rfl (pc' := 52) rfl ?_
  refine GoKit.iand G d20_52 (pc' := 53) rfl (fun v5 hqv5 => ?_)
  refine GoKit.gets G d20_53 (wi hw 84 rfl) Via.refl HU.2.2 (pc' := 56) rfl ?_
  refine GoKit.ishl G d20_56 (pc' := 57) rfl (fun v6 hqv6 => ?_)
  refine GoKit.ior G d20_57 (pc' := 58) rfl (fun v7 hqv7 => ?_)
  refine GoKit.i2c G d20_58 (pc' := 59) rfl (fun v8 hqv8 => ?_)
  have c9 : nar .char v8 = v8 := by rw [hqv8]; exact nar_i2c _
  refine GoKit.retNar G d20_59 (t := .char) rfl (by simp) (by decide) (by decide) ?_
  exact ⟨by subst_vars; rw [u16_back (hch ch (List.mem_of_getElem? hi))], rfl⟩
theorem d16_8 : decode jdk_52_method_14_code 8 = .ok (.iload 4, 2) := by decide +kernel
theorem d16_10 : decode jdk_52_method_14_code 10 = .ok (.iload_n 2, 1) := by decide +kernel
theorem d16_11 : decode jdk_52_method_14_code 11 = .ok (.if_icmp .ge 21, 3) := by decide +kernel
theorem d16_32 : decode jdk_52_method_14_code 32 = .ok (.aload_n 3, 1) := by decide +kernel
theorem d16_33 : decode jdk_52_method_14_code 33 = .ok (.areturn, 1) := by decide +kernel
theorem d16_14 : decode jdk_52_method_14_code 14 = .ok (.aload_n 3, 1) := by decide +kernel
theorem d16_15 : decode jdk_52_method_14_code 15 = .ok (.iload 4, 2) := by decide +kernel
theorem d16_17 : decode jdk_52_method_14_code 17 = .ok (.aload_n 0, 1) := by decide +kernel
theorem d16_18 : decode jdk_52_method_14_code 18 = .ok (.iload_n 1, 1) := by decide +kernel
theorem d16_19 : decode jdk_52_method_14_code 19 = .ok (.caload, 1) := by decide +kernel
theorem d16_20 : decode jdk_52_method_14_code 20 = .ok (.invokestatic 111, 3) := by decide +kernel
theorem pd_5 : parseMethodDescriptor "([BII)V" = some ⟨[(.array .byte), .int, .int], none⟩ := by decide +kernel
theorem d16_23 : decode jdk_52_method_14_code 23 = .ok (.iinc 1 1, 3) := by decide +kernel
theorem d16_26 : decode jdk_52_method_14_code 26 = .ok (.iinc 4 1, 3) := by decide +kernel
theorem d16_29 : decode jdk_52_method_14_code 29 = .ok (.goto (-21), 3) := by decide +kernel
theorem d16_0 : decode jdk_52_method_14_code 0 = .ok (.iload_n 2, 1) := by decide +kernel
theorem d16_1 : decode jdk_52_method_14_code 1 = .ok (.invokestatic 107, 3) := by decide +kernel
theorem pd_6 : parseMethodDescriptor "(I)[B" = some ⟨[.int], some (.array .byte)⟩ := by decide +kernel
theorem d16_4 : decode jdk_52_method_14_code 4 = .ok (.astore_n 3, 1) := by decide +kernel
theorem d16_5 : decode jdk_52_method_14_code 5 = .ok (.iconst 0, 1) := by decide +kernel
theorem d16_6 : decode jdk_52_method_14_code 6 = .ok (.istore 4, 2) := by decide +kernel
abbrev rm_con_toBytesU : Room := { frames := 2, cells := 1, slots := 4, locals := 24 }
set_option maxRecDepth 65536 in
set_option maxHeartbeats 40000000 in
theorem con_toBytesU (l : Launch) {Z : State} {a0 : Array Value} (hw : ∀ d ∈ tables_1, d.before a0 Z = true) {n0 : Nat} {h0 : Heap} {b : Addr} {cs : List Int32} (A : IA Z h0 b .char cs) (hcap : cs.length ≤ 2) (HU : Ust Z) :
    Con l Z true false ELs n0 (⟨"java/lang/StringUTF16", "toBytes", "([CII)[B"⟩ : MethodName) jdk_52_method_14_code 5 (some (.array .byte)) rm_con_toBytesU [] #[(.ref b), (.int 0), (.int cs.length.toInt32)] h0 [] (fun v h => ∃ d, v = some (.ref d) ∧ IA Z h d .byte (u16 cs)) := by
  refine Con.intro (plainFor_of_name pn_java_lang_StringUTF16) (hELs hw) ?_
  intro p e s m below meth c hh G
  refine castRun (g' := mkF m 0 #[.val (.ref b), .val (.int 0), .val (.int cs.length.toInt32), .unset, .unset] []) (by first | rfl | (simp [entryFrame, mkF, argsToLocals, Value.category, maxLocals]; done)) ?_
  have hl := A.len
  have loop : ∀ (k i : Nat) (d : Addr) (h : Heap), i + k = cs.length → IA Z h b .char cs → IA Z h d .byte (u16 (cs.take i) ++ List.replicate (2 * k) 0) →
      Run p l e rm_con_toBytesU s m #[.ref b, .int 0, .int cs.length.toInt32] below meth c Z true false ELs n0 [] (fun v h => ∃ d, v = some (.ref d) ∧ IA Z h d .byte (u16 cs)) h [d] 1 4 (mkF m 8 #[.val (.ref b), .val (.int i.toInt32), .val (.int cs.length.toInt32), .val (.ref d), .val (.int i.toInt32)] []) := by
    intro k; induction k with
    | zero =>
      intro i d h hik A D
      have hi : i = cs.length := by omega
      subst hi
      refine GoKit.iload G d16_8 rfl (pc' := 10) rfl ?_
      refine GoKit.iloadN G d16_10 rfl (pc' := 11) rfl ?_
      refine GoKit.icmp_ge_t G d16_11 Int32.lt_irrefl (by decide) (pc' := 32) rfl ?_
      refine GoKit.aloadN G d16_32 rfl rfl (pc' := 33) rfl ?_
      refine GoKit.retRef G rfl d16_33 rfl rfl rfl (by decide) (by decide) ?_
      exact ⟨_, rfl, by simpa using D⟩
    | succ k ih =>
      intro i d h hik A D
      have hi : i < cs.length := by omega
      obtain ⟨ch, hc⟩ : ∃ ch, cs[i]? = some ch := ⟨cs[i], List.getElem?_eq_getElem hi⟩
      have hdl : (u16 (cs.take i) ++ List.replicate (2 * (k + 1)) 0).length = 2 * cs.length := by rw [List.length_append, u16_len, List.length_replicate, List.length_take]; omega
      refine GoKit.iload G d16_8 rfl (pc' := 10) rfl ?_
      refine GoKit.iloadN G d16_10 rfl (pc' := 11) rfl ?_
      refine GoKit.icmp_ge_f G d16_11 ((toI_lt (by omega) (by omega)).mpr hi) (pc' := 14) rfl ?_
      refine GoKit.aloadN G d16_14 rfl rfl (pc' := 15) rfl ?_
      refine GoKit.iload G d16_15 rfl (pc' := 17) rfl ?_
      refine GoKit.aloadN G d16_17 rfl rfl (pc' := 18) rfl ?_
      refine GoKit.iloadN G d16_18 rfl (pc' := 19) rfl ?_
      refine GoKit.caloadI G d16_19 A (i := i) (toI_clamp (by omega)) (toI_nn (by omega)) hc (pc' := 20) rfl ?_
      refine GoKit.callStatic G d16_20 (wi hw 79 rfl) (wi hw 80 rfl) (wi hw 61 rfl) (wi hw 81 rfl) (by decide) (owc := [d]) (W := 0) (argsL := [(.ref d), (.int i.toInt32), (.int ch)]) (rest := []) (con_putChar l hw D (by omega) HU) rfl (lenOf pd_5 rfl) rfl (by decide) (Nat.le_of_eq rfl) (by decide) (by decide) (by decide) (by intro x hx; simp only [List.mem_cons, List.not_mem_nil, or_false] at hx ⊢; simp [hx]) (cells' := 1) (slots' := 4) rfl rfl (pc' := 23) rfl (fun r1 h4 q2 K3 => ?_)
      obtain ⟨rfl, A5⟩ := q2
      rw [u16_set cs i k ch hc] at A5
      show Run _ _ _ _ _ _ _ _ _ _ _ _ _ _ _ _ _ _ _ _ _ (mkF m 23 #[.val (.ref b), .val (.int i.toInt32), .val (.int cs.length.toInt32), .val (.ref d), .val (.int i.toInt32)] [])
      refine GoKit.iinc G (1 : Int32) d16_23 rfl rfl (Ls' := #[.val (.ref b), .val (.int (i.toInt32 + (1 : Int32))), .val (.int cs.length.toInt32), .val (.ref d), .val (.int i.toInt32)]) rfl (pc' := 26) rfl ?_
      generalize hqv6 : (i.toInt32 + (1 : Int32)) = v6
      refine GoKit.iinc G (1 : Int32) d16_26 rfl rfl (Ls' := #[.val (.ref b), .val (.int v6), .val (.int cs.length.toInt32), .val (.ref d), .val (.int (i.toInt32 + (1 : Int32)))]) rfl (pc' := 29) rfl ?_
      generalize hqv7 : (i.toInt32 + (1 : Int32)) = v7
      refine GoKit.goto G d16_29 (by decide) (pc' := 8) rfl ?_
      rw [toI_succ] at hqv6; subst hqv6
      rw [toI_succ] at hqv7; subst hqv7
      exact ih (i + 1) d h4 (by omega) (A.keep K3 (ninS (IA.neTy A D (by decide)) nin0)) A5
  refine GoKit.iloadN G d16_0 rfl (pc' := 1) rfl ?_
  refine GoKit.callStaticO G d16_1 (wi hw 72 rfl) (wi hw 73 rfl) (wi hw 61 rfl) (wi hw 74 rfl) (by decide) (owc := []) (W := 0) (argsL := [(.int cs.length.toInt32)]) (rest := []) (con_nbf l hw hcap) rfl (lenOf pd_6 rfl) rfl (by decide) (Nat.le_of_eq rfl) (by decide) (by decide) (by decide) (fun _ q => nomatch q) (cells' := 1) (slots' := 4) rfl rfl (pc' := 4) rfl (fun _ _ ⟨d, e, _⟩ => ⟨d, e⟩) (fun d12 h11 q9 K10 le13 => ?_)
  obtain ⟨_, e15, A14⟩ := q9
  cases e15
  show Run _ _ _ _ _ _ _ _ _ _ _ _ _ _ _ _ _ _ _ _ _ (mkF m 4 #[.val (.ref b), .val (.int (0 : Int32)), .val (.int cs.length.toInt32), .unset, .unset] [(.ref d12)])
  refine GoKit.astoreN G d16_4 rfl (Ls' := #[.val (.ref b), .val (.int (0 : Int32)), .val (.int cs.length.toInt32), .val (.ref d12), .unset]) rfl (pc' := 5) rfl ?_
  refine GoKit.iconst G (0 : Int32) d16_5 rfl (pc' := 6) rfl ?_
  refine GoKit.istore G d16_6 (Ls' := #[.val (.ref b), .val (.int (0 : Int32)), .val (.int cs.length.toInt32), .val (.ref d12), .val (.int (0 : Int32))]) rfl (pc' := 8) rfl ?_
  exact loop cs.length 0 d12 h11 (by omega) (A.keep K10 nin0) (by simpa [u16] using A14)
theorem big_lt {c : Int32} (h : 255 < c.toInt) : (255 : Int32) < c := by rw [Int32.lt_iff_toInt_lt]; exact h
theorem d14_23 : decode jdk_52_method_21_code 23 = .ok (.iload 5, 2) := by decide +kernel
theorem d14_25 : decode jdk_52_method_21_code 25 = .ok (.ireturn, 1) := by decide +kernel
abbrev rm_con_compress5U : Room := { frames := 0, cells := 0, slots := 0, locals := 0 }
set_option maxRecDepth 65536 in
set_option maxHeartbeats 40000000 in
theorem con_compress5U (l : Launch) {Z : State} {a0 : Array Value} (hw : ∀ d ∈ tables_1, d.before a0 Z = true) {n0 : Nat} {h0 : Heap} {b d : Addr} {cs : List Int32} (A : IA Z h0 b .char cs) (D : IA Z h0 d .byte (List.replicate cs.length 0)) {i0 : Nat} {c0 : Int32} (hi0 : cs[i0]? = some c0) (hb0 : 255 < c0.toInt) (hlow : ∀ j, j < i0 → ∀ d, cs[j]? = some d → 0 ≤ d.toInt ∧ d.toInt < 256) :
    Con l Z true false ELs n0 (⟨"java/lang/StringUTF16", "compress", "([CI[BII)I"⟩ : MethodName) jdk_52_method_21_code 7 (some .int) rm_con_compress5U [] #[(.ref b), (.int 0), (.ref d), (.int 0), (.int cs.length.toInt32)] h0 [d] (fun v h => v = some (.int i0.toInt32)) := by
  refine Con.intro (plainFor_of_name pn_java_lang_StringUTF16) (hELs hw) ?_
  intro p e s m below meth c hh G
  refine castRun (g' := mkF m 0 #[.val (.ref b), .val (.int 0), .val (.ref d), .val (.int 0), .val (.int cs.length.toInt32), .unset, .unset] []) (by first | rfl | (simp [entryFrame, mkF, argsToLocals, Value.category, maxLocals]; done)) ?_
  have hl := A.len
  have hil := (List.getElem?_eq_some_iff.mp hi0).1
  have loop : ∀ (k i : Nat) (h : Heap) (ys : List Int32) (sl : Slot), i + k = i0 → IA Z h b .char cs → IA Z h d .byte ys → ys.length = cs.length → (sl = .unset ∨ ∃ w, sl = .val w ∧ w.category = 1) →
      Run p l e rm_con_compress5U s m #[.ref b, .int 0, .ref d, .int 0, .int cs.length.toInt32] below meth c Z true false ELs n0 [d] (fun v h => v = some (.int i0.toInt32)) h [d] 0 0 (mkF m 3 #[.val (.ref b), .val (.int i.toInt32), .val (.ref d), .val (.int i.toInt32), .val (.int cs.length.toInt32), .val (.int i.toInt32), sl] []) := by
    intro k; induction k with
    | zero =>
      intro i h ys sl hik A D hys hsl
      have e0 : i = i0 := by omega
      subst e0
      refine GoKit.iload G d14_3 rfl (pc' := 5) rfl ?_
      refine GoKit.iload G d14_5 rfl (pc' := 7) rfl ?_
      refine GoKit.icmp_ge_f G d14_7 ((toI_lt (by omega) (by omega)).mpr hil) (pc' := 10) rfl ?_
      refine GoKit.aloadN G d14_10 rfl rfl (pc' := 11) rfl ?_
      refine GoKit.iloadN G d14_11 rfl (pc' := 12) rfl ?_
      refine GoKit.caloadI G d14_12 A (i := i) (toI_clamp (by omega)) (toI_nn (by omega)) hi0 (pc' := 13) rfl ?_
      refine GoKit.istore G d14_13 (Ls' := #[.val (.ref b), .val (.int i.toInt32), .val (.ref d), .val (.int i.toInt32), .val (.int cs.length.toInt32), .val (.int i.toInt32), .val (.int c0)]) (XS.store1 rfl hsl rfl) (pc' := 15) rfl ?_
      refine GoKit.iload G d14_15 rfl (pc' := 17) rfl ?_
      refine GoKit.sipush G (255 : Int32) d14_17 rfl (pc' := 20) rfl ?_
      refine GoKit.icmp_le_f G d14_20 (big_lt hb0) (pc' := 23) rfl ?_
      refine GoKit.iload G d14_23 rfl (pc' := 25) rfl ?_
      refine GoKit.retInt G d14_25 rfl (by decide) (by decide) ?_
      exact rfl
    | succ k ih =>
      intro i h ys sl hik A D hys hsl
      obtain ⟨ch, hc⟩ : ∃ ch, cs[i]? = some ch := ⟨cs[i]'(by omega), List.getElem?_eq_getElem (by omega)⟩
      have hcl := hlow i (by omega) ch hc
      refine GoKit.iload G d14_3 rfl (pc' := 5) rfl ?_
      refine GoKit.iload G d14_5 rfl (pc' := 7) rfl ?_
      refine GoKit.icmp_ge_f G d14_7 ((toI_lt (by omega) (by omega)).mpr (by omega)) (pc' := 10) rfl ?_
      refine GoKit.aloadN G d14_10 rfl rfl (pc' := 11) rfl ?_
      refine GoKit.iloadN G d14_11 rfl (pc' := 12) rfl ?_
      refine GoKit.caloadI G d14_12 A (i := i) (toI_clamp (by omega)) (toI_nn (by omega)) hc (pc' := 13) rfl ?_
      refine GoKit.istore G d14_13 (Ls' := #[.val (.ref b), .val (.int i.toInt32), .val (.ref d), .val (.int i.toInt32), .val (.int cs.length.toInt32), .val (.int i.toInt32), .val (.int ch)]) (XS.store1 rfl hsl rfl) (pc' := 15) rfl ?_
      refine GoKit.iload G d14_15 rfl (pc' := 17) rfl ?_
      refine GoKit.sipush G (255 : Int32) d14_17 rfl (pc' := 20) rfl ?_
      refine GoKit.icmp_le_t G d14_20 (lat_le hcl) (by decide) (pc' := 26) rfl ?_
      refine GoKit.aloadN G d14_26 rfl rfl (pc' := 27) rfl ?_
      refine GoKit.iloadN G d14_27 rfl (pc' := 28) rfl ?_
      refine GoKit.iload G d14_28 rfl (pc' := 30) rfl ?_
      refine GoKit.i2b G d14_30 (pc' := 31) rfl (fun v1 hqv1 => ?_)
      refine GoKit.bastI G d14_31 D (i := i) (toI_clamp (by omega)) (toI_nn (by omega)) (by omega) (x' := ch.toInt8.toInt32) (by rw [hqv1]; exact lo8_nar _) (List.Mem.head _) (pc' := 32) rfl (fun h' W' D' => ?_)
      refine GoKit.iinc G (1 : Int32) d14_32 rfl rfl (Ls' := #[.val (.ref b), .val (.int (i.toInt32 + (1 : Int32))), .val (.ref d), .val (.int i.toInt32), .val (.int cs.length.toInt32), .val (.int i.toInt32), .val (.int ch)]) rfl (pc' := 35) rfl ?_
      generalize hqv2 : (i.toInt32 + (1 : Int32)) = v2
      refine GoKit.iinc G (1 : Int32) d14_35 rfl rfl (Ls' := #[.val (.ref b), .val (.int v2), .val (.ref d), .val (.int (i.toInt32 + (1 : Int32))), .val (.int cs.length.toInt32), .val (.int i.toInt32), .val (.int ch)]) rfl (pc' := 38) rfl ?_
      generalize hqv3 : (i.toInt32 + (1 : Int32)) = v3
      refine GoKit.iinc G (1 : Int32) d14_38 rfl rfl (Ls' := #[.val (.ref b), .val (.int v2), .val (.ref d), .val (.int v3), .val (.int cs.length.toInt32), .val (.int (i.toInt32 + (1 : Int32))), .val (.int ch)]) rfl (pc' := 41) rfl ?_
      generalize hqv4 : (i.toInt32 + (1 : Int32)) = v4
      refine GoKit.goto G d14_41 (by decide) (pc' := 3) rfl ?_
      rw [toI_succ] at hqv2; subst hqv2
      rw [toI_succ] at hqv3; subst hqv3
      rw [toI_succ] at hqv4; subst hqv4
      exact ih (i + 1) h' _ (.val (.int ch)) (by omega) (A.other W' (IA.neTy A D (by decide))) D' (by rw [List.length_set]; exact hys) (Or.inr ⟨_, rfl, rfl⟩)
  refine GoKit.iconst G (0 : Int32) d14_0 rfl (pc' := 1) rfl ?_
  refine GoKit.istore G d14_1 (Ls' := #[.val (.ref b), .val (.int (0 : Int32)), .val (.ref d), .val (.int (0 : Int32)), .val (.int cs.length.toInt32), .val (.int (0 : Int32)), .unset]) rfl (pc' := 3) rfl ?_
  exact loop i0 0 h0 _ .unset (by omega) A D (by simp) (Or.inl rfl)
theorem d13_20 : decode jdk_52_method_16_code 20 = .ok (.aload_n 0, 1) := by decide +kernel
theorem d13_21 : decode jdk_52_method_16_code 21 = .ok (.iload_n 1, 1) := by decide +kernel
theorem d13_22 : decode jdk_52_method_16_code 22 = .ok (.iload_n 2, 1) := by decide +kernel
theorem d13_23 : decode jdk_52_method_16_code 23 = .ok (.invokestatic 119, 3) := by decide +kernel
theorem d13_26 : decode jdk_52_method_16_code 26 = .ok (.astore 5, 2) := by decide +kernel
theorem d13_28 : decode jdk_52_method_16_code 28 = .ok (.aload 5, 2) := by decide +kernel
theorem d13_30 : decode jdk_52_method_16_code 30 = .ok (.iload 4, 2) := by decide +kernel
theorem d13_32 : decode jdk_52_method_16_code 32 = .ok (.invokestatic 71, 3) := by decide +kernel
theorem pd_7 : parseMethodDescriptor "([BI)C" = some ⟨[(.array .byte), .int], some .char⟩ := by decide +kernel
theorem d13_35 : decode jdk_52_method_16_code 35 = .ok (.sipush 255, 3) := by decide +kernel
theorem d13_38 : decode jdk_52_method_16_code 38 = .ok (.if_icmp .gt 16, 3) := by decide +kernel
theorem d13_54 : decode jdk_52_method_16_code 54 = .ok (.aload 5, 2) := by decide +kernel
theorem d13_56 : decode jdk_52_method_16_code 56 = .ok (.areturn, 1) := by decide +kernel
abbrev rm_con_compress3U : Room := { frames := 3, cells := 2, slots := 6, locals := 40 }
set_option maxRecDepth 65536 in
set_option maxHeartbeats 40000000 in
theorem con_compress3U (l : Launch) {Z : State} {a0 : Array Value} (hw : ∀ d ∈ tables_1, d.before a0 Z = true) {n0 : Nat} {h0 : Heap} {b : Addr} {cs : List Int32} (A : IA Z h0 b .char cs) (hcap : cs.length ≤ 2) (hch : ∀ c ∈ cs, 0 ≤ c.toInt ∧ c.toInt < 65536) {i0 : Nat} {c0 : Int32} (hi0 : cs[i0]? = some c0) (hb0 : 255 < c0.toInt) (hlow : ∀ j, j < i0 → ∀ d, cs[j]? = some d → 0 ≤ d.toInt ∧ d.toInt < 256) (HU : Ust Z) :
    Con l Z true false ELs n0 (⟨"java/lang/StringUTF16", "compress", "([CII)[B"⟩ : MethodName) jdk_52_method_16_code 6 (some (.array .byte)) rm_con_compress3U [] #[(.ref b), (.int 0), (.int cs.length.toInt32)] h0 [] (fun v h => ∃ d, v = some (.ref d) ∧ IA Z h d .byte (u16 cs)) := by
  refine Con.intro (plainFor_of_name pn_java_lang_StringUTF16) (hELs hw) ?_
  intro p e s m below meth c hh G
  refine castRun (g' := mkF m 0 #[.val (.ref b), .val (.int 0), .val (.int cs.length.toInt32), .unset, .unset, .unset] []) (by first | rfl | (simp [entryFrame, mkF, argsToLocals, Value.category, maxLocals]; done)) ?_
  have hl := A.len
  have hil := (List.getElem?_eq_some_iff.mp hi0).1
  refine GoKit.iloadN G d13_0 rfl (pc' := 1) rfl ?_
  refine GoKit.newbI G d13_1 (wi hw 20 rfl) (toI_nn hl) (k := cs.length) (cap := 2) (toI_clamp hl) hcap (by decide) (by decide) (by decide) (cells' := 1) (slots' := 2) rfl rfl (pc' := 3) rfl (fun h4 a1 ga1 E2 A3 => ?_)
  refine GoKit.astoreN G d13_3 rfl (Ls' := #[.val (.ref b), .val (.int 0), .val (.int cs.length.toInt32), .val (.ref a1), .unset, .unset]) rfl (pc' := 4) rfl ?_
  refine GoKit.aloadN G d13_4 rfl rfl (pc' := 5) rfl ?_
  refine GoKit.iloadN G d13_5 rfl (pc' := 6) rfl ?_
  refine GoKit.aloadN G d13_6 rfl rfl (pc' := 7) rfl ?_
  refine GoKit.iconst G (0 : Int32) d13_7 rfl (pc' := 8) rfl ?_
  refine GoKit.iloadN G d13_8 rfl (pc' := 9) rfl ?_
  refine GoKit.callStatic G d13_9 (wi hw 63 rfl) (wi hw 64 rfl) (wi hw 61 rfl) (wi hw 65 rfl) (by decide) (owc := [a1]) (W := 0) (argsL := [(.ref b), (.int 0), (.ref a1), (.int (0 : Int32)), (.int cs.length.toInt32)]) (rest := []) (con_compress5U l hw (A.ext E2) A3 hi0 hb0 hlow) rfl (lenOf pd_0 rfl) rfl (by decide) (Nat.le_of_eq rfl) (by decide) (by decide) (by decide) (by intro x hx; simp only [List.mem_cons, List.not_mem_nil, or_false] at hx ⊢; simp [hx]) (cells' := 1) (slots' := 2) rfl rfl (pc' := 12) rfl (fun r5 h8 q6 K7 => ?_)
  obtain rfl := q6
  show Run _ _ _ _ _ _ _ _ _ _ _ _ _ _ _ _ _ _ _ _ _ (mkF m 12 #[.val (.ref b), .val (.int 0), .val (.int cs.length.toInt32), .val (.ref a1), .unset, .unset] [(.int i0.toInt32)])
  refine GoKit.istore G d13_12 (Ls' := #[.val (.ref b), .val (.int 0), .val (.int cs.length.toInt32), .val (.ref a1), .val (.int i0.toInt32), .unset]) rfl (pc' := 14) rfl ?_
  refine GoKit.iload G d13_14 rfl (pc' := 16) rfl ?_
  refine GoKit.iloadN G d13_16 rfl (pc' := 17) rfl ?_
  refine GoKit.icmp_eq_f G d13_17 (fun q => Nat.ne_of_lt hil ((toI_eq (by omega) hl).mp q)) (pc' := 20) rfl ?_
  refine GoKit.aloadN G d13_20 rfl rfl (pc' := 21) rfl ?_
  refine GoKit.iloadN G d13_21 rfl (pc' := 22) rfl ?_
  refine GoKit.iloadN G d13_22 rfl (pc' := 23) rfl ?_
  refine GoKit.callStatic G d13_23 (wi hw 69 rfl) (wi hw 70 rfl) (wi hw 61 rfl) (wi hw 71 rfl) (by decide) (owc := []) (W := 0) (argsL := [(.ref b), (.int 0), (.int cs.length.toInt32)]) (rest := []) (con_toBytesU l hw ((A.ext E2).keep K7 (ninS (Nat.ne_of_lt (Nat.lt_of_lt_of_le (A).lt (Nat.le_of_eq ga1.symm))) nin0)) hcap HU) rfl (lenOf pd_1 rfl) rfl (by decide) (Nat.le_of_eq rfl) (by decide) (by decide) (by decide) (fun _ q => nomatch q) (cells' := 2) (slots' := 6) rfl rfl (pc' := 26) rfl (fun r9 h12 q10 K11 => ?_)
  obtain ⟨d13, rfl, A14⟩ := q10
  show Run _ _ _ _ _ _ _ _ _ _ _ _ _ _ _ _ _ _ _ _ _ (mkF m 26 #[.val (.ref b), .val (.int 0), .val (.int cs.length.toInt32), .val (.ref a1), .val (.int i0.toInt32), .unset] [(.ref d13)])
  refine GoKit.astore G d13_26 rfl (Ls' := #[.val (.ref b), .val (.int 0), .val (.int cs.length.toInt32), .val (.ref a1), .val (.int i0.toInt32), .val (.ref d13)]) rfl (pc' := 28) rfl ?_
  refine GoKit.aload G d13_28 rfl rfl (pc' := 30) rfl ?_
  refine GoKit.iload G d13_30 rfl (pc' := 32) rfl ?_
  refine GoKit.callStaticP G d13_32 (wi hw 85 rfl) (wi hw 86 rfl) (wi hw 61 rfl) (wi hw 87 rfl) (by decide) (W := 0) (argsL := [(.ref d13), (.int i0.toInt32)]) (rest := []) (con_getChar l hw A14 hi0 hch HU) rfl (lenOf pd_7 rfl) rfl (by decide) (Nat.le_of_eq rfl) (by decide) (by decide) (by decide) (cells' := 2) (slots' := 6) rfl rfl (pc' := 35) rfl ?_
  show Run _ _ _ _ _ _ _ _ _ _ _ _ _ _ _ _ _ _ _ _ _ (mkF m 35 #[.val (.ref b), .val (.int 0), .val (.int cs.length.toInt32), .val (.ref a1), .val (.int i0.toInt32), .val (.ref d13)] [(.int c0)])
  refine GoKit.sipush G (255 : Int32) d13_35 rfl (pc' := 38) rfl ?_
  refine GoKit.icmp_gt_t G d13_38 (big_lt hb0) (by decide) (pc' := 54) rfl ?_
  refine GoKit.aload G d13_54 rfl rfl (pc' := 56) rfl ?_
  refine GoKit.retRef G rfl d13_56 rfl rfl rfl (by decide) (by decide) ?_
  exact ⟨_, rfl, A14⟩
abbrev rm_con_coderLenU : Room := { frames := 0, cells := 0, slots := 0, locals := 0 }
set_option maxRecDepth 65536 in
set_option maxHeartbeats 40000000 in
theorem con_coderLenU (l : Launch) {Z : State} {a0 : Array Value} (hw : ∀ d ∈ tables_1, d.before a0 Z = true) {n0 : Nat} {h0 : Heap} {d : Addr} {cs : List Int32} (A : IA Z h0 d .byte (u16 cs)) (hn : 0 < cs.length) (hl : cs.length < 2 ^ 30) :
    Con l Z true false ELs n0 (⟨"java/lang/StringUTF16", "coderFromArrayLen", "([BI)B"⟩ : MethodName) jdk_52_method_15_code 2 (some .byte) rm_con_coderLenU [] #[(.ref d), (.int cs.length.toInt32)] h0 [] (fun v h => v = some (.int 1) ∧ h = h0) := by
  refine Con.intro (plainFor_of_name pn_java_lang_StringUTF16) (hELs hw) ?_
  intro p e s m below meth c hh G
  refine castRun (g' := mkF m 0 #[.val (.ref d), .val (.int cs.length.toInt32)] []) (by first | rfl | (simp [entryFrame, mkF, argsToLocals, Value.category, maxLocals]; done)) ?_
  refine GoKit.iloadN G d15_0 rfl (pc' := 1) rfl ?_
  refine GoKit.aloadN G d15_1 rfl rfl (pc' := 2) rfl ?_
  refine GoKit.arrlenI G d15_2 A (z := (2 * cs.length).toInt32) (by rw [u16_len]) (pc' := 3) rfl ?_
  refine GoKit.isub G d15_3 (pc' := 4) rfl (fun v1 hqv1 => ?_)
  refine GoKit.bipush G (31 : Int32) d15_4 rfl (pc' := 6) rfl ?_
  refine GoKit.iushr G d15_6 (pc' := 7) rfl (fun v2 hqv2 => ?_)
  refine GoKit.i2b G d15_7 (pc' := 8) rfl (fun v3 hqv3 => ?_)
  refine GoKit.retNar G d15_8 (t := .byte) rfl (by simp) (by decide) (by decide) ?_
  exact ⟨by subst_vars; rw [coderU hn hl], rfl⟩
abbrev rm_con_strInit4U : Room := { frames := 4, cells := 2, slots := 6, locals := 57 }
set_option maxRecDepth 65536 in
set_option maxHeartbeats 40000000 in
theorem con_strInit4U (l : Launch) {Z : State} {a0 : Array Value} (hw : ∀ d ∈ tables_1, d.before a0 Z = true) {n0 : Nat} {h0 : Heap} {a b : Addr} {cs : List Int32} (E : Exa Z h0 a "java/lang/String") (FV : Fld Z h0 a "java/lang/String" "value" "[B" .null) (FC : Fld Z h0 a "java/lang/String" "coder" "B" (.int 0)) (A : IA Z h0 b .char cs) (hcap : cs.length ≤ 2) (hch : ∀ c ∈ cs, 0 ≤ c.toInt ∧ c.toInt < 65536) {i0 : Nat} {c0 : Int32} (hi0 : cs[i0]? = some c0) (hb0 : 255 < c0.toInt) (hlow : ∀ j, j < i0 → ∀ d, cs[j]? = some d → 0 ≤ d.toInt ∧ d.toInt < 256) (HC : Cst Z) (HU : Ust Z) :
    Con l Z true false ELs n0 (⟨"java/lang/String", "<init>", "([CIILjava/lang/Void;)V"⟩ : MethodName) jdk_42_method_149_code 6 none rm_con_strInit4U [] #[(.ref a), (.ref b), (.int 0), (.int cs.length.toInt32), .null] h0 [a] (fun v h => v = none ∧ U16 Z h a cs) := by
  refine Con.intro (plainFor_of_name pn_java_lang_String) (hELs hw) ?_
  intro p e s m below meth c hh G
  refine castRun (g' := mkF m 0 #[.val (.ref a), .val (.ref b), .val (.int 0), .val (.int cs.length.toInt32), .val .null, .unset] []) (by first | rfl | (simp [entryFrame, mkF, argsToLocals, Value.category, maxLocals]; done)) ?_
  obtain ⟨cz, SC, hcz⟩ := id HC
  have hl := A.len
  have hil := (List.getElem?_eq_some_iff.mp hi0).1
  refine GoKit.aloadN G d3_0 rfl rfl (pc' := 1) rfl ?_
  refine GoKit.initObj G d3_1 (wi hw 16 rfl) (wi hw 17 rfl) (wi hw 18 rfl) rfl (by decide) (W := 0) (Nat.le_of_eq rfl) (by decide) (pc' := 4) rfl ?_
  refine GoKit.iloadN G d3_4 rfl (pc' := 5) rfl ?_
  refine GoKit.if_ne_t G d3_5 (fun q => by have := (toI_eq (k := 0) hl (by decide)).mp q; omega) (by decide) (pc' := 27) rfl ?_
  refine GoKit.gets G d3_27 (wi hw 47 rfl) Via.refl SC (pc' := 30) rfl ?_
  refine GoKit.if_eq_f G d3_30 hcz (pc' := 33) rfl ?_
  refine GoKit.aloadN G d3_33 rfl rfl (pc' := 34) rfl ?_
  refine GoKit.iloadN G d3_34 rfl (pc' := 35) rfl ?_
  refine GoKit.iloadN G d3_35 rfl (pc' := 36) rfl ?_
  refine GoKit.callStatic G d3_36 (wi hw 59 rfl) (wi hw 60 rfl) (wi hw 61 rfl) (wi hw 62 rfl) (by decide) (owc := []) (W := 0) (argsL := [(.ref b), (.int 0), (.int cs.length.toInt32)]) (rest := []) (con_compress3U l hw A hcap hch hi0 hb0 hlow HU) rfl (lenOf pd_1 rfl) rfl (by decide) (Nat.le_of_eq rfl) (by decide) (by decide) (by decide) (fun _ q => nomatch q) (cells' := 2) (slots' := 6) rfl rfl (pc' := 39) rfl (fun r1 h4 q2 K3 => ?_)
  obtain ⟨d5, rfl, A6⟩ := q2
  have ne7 := IA.ne A6 (E.keep K3) (wi hw 6 rfl)
  show Run _ _ _ _ _ _ _ _ _ _ _ _ _ _ _ _ _ _ _ _ _ (mkF m 39 #[.val (.ref a), .val (.ref b), .val (.int 0), .val (.int cs.length.toInt32), .val .null, .unset] [(.ref d5)])
  refine GoKit.astore G d3_39 rfl (Ls' := #[.val (.ref a), .val (.ref b), .val (.int 0), .val (.int cs.length.toInt32), .val .null, .val (.ref d5)]) rfl (pc' := 41) rfl ?_
  refine GoKit.aloadN G d3_41 rfl rfl (pc' := 42) rfl ?_
  refine GoKit.aload G d3_42 rfl rfl (pc' := 44) rfl ?_
  refine GoKit.iloadN G d3_44 rfl (pc' := 45) rfl ?_
  refine GoKit.callStaticP G d3_45 (wi hw 66 rfl) (wi hw 67 rfl) (wi hw 61 rfl) (wi hw 68 rfl) (by decide) (W := 1) (argsL := [(.ref d5), (.int cs.length.toInt32)]) (rest := [(.ref a)]) (con_coderLenU l hw A6 (by omega) (by omega)) rfl (lenOf pd_2 rfl) rfl (by decide) (Nat.le_of_eq rfl) (by decide) (by decide) (by decide) (cells' := 2) (slots' := 6) rfl rfl (pc' := 48) rfl ?_
  show Run _ _ _ _ _ _ _ _ _ _ _ _ _ _ _ _ _ _ _ _ _ (mkF m 48 #[.val (.ref a), .val (.ref b), .val (.int 0), .val (.int cs.length.toInt32), .val .null, .val (.ref d5)] [(.int 1), (.ref a)])
  refine GoKit.putf G d3_48 (wi hw 26 rfl) Via.refl (FC.keep K3 nin0) (E.keep K3) (Or.inr ⟨(wi hw 22 rfl), rfl, rfl⟩) (wi hw 6 rfl) (ty := .byte) (by decide) rfl rfl (List.Mem.head _) (pc' := 51) rfl (fun h9 W8 => ?_)
  have F10 := ((FC.keep K3 nin0)).same W8
  refine GoKit.aloadN G d3_51 rfl rfl (pc' := 52) rfl ?_
  refine GoKit.aload G d3_52 rfl rfl (pc' := 54) rfl ?_
  refine GoKit.putf G d3_54 (wi hw 25 rfl) Via.refl ((FV.keep K3 nin0).other W8 (Or.inr (slot_ne (Or.inr (wi hw 21 rfl)) (Or.inr (wi hw 22 rfl)) (by decide) (by decide : _ = some (.array .byte)) (by decide : _ = some .byte)))) ((E.keep K3).wr W8) (Or.inr ⟨(wi hw 21 rfl), rfl, rfl⟩) (wi hw 6 rfl) (ty := (.array .byte)) (by decide) rfl rfl (List.Mem.head _) (pc' := 57) rfl (fun h12 W11 => ?_)
  have F13 := (((FV.keep K3 nin0).other W8 (Or.inr (slot_ne (Or.inr (wi hw 21 rfl)) (Or.inr (wi hw 22 rfl)) (by decide) (by decide : _ = some (.array .byte)) (by decide : _ = some .byte))))).same W11
  refine GoKit.retVoid G d3_57 rfl (by decide) (by decide) ?_
  exact ⟨rfl, (((E.keep K3).wr W8).wr W11), ⟨d5, F13, (F10.other W11 (Or.inr (slot_ne (Or.inr (wi hw 22 rfl)) (Or.inr (wi hw 21 rfl)) (by decide) (by decide : _ = some .byte) (by decide : _ = some (.array .byte))))), ((A6.other W8 ne7).other W11 ne7)⟩, hch, by omega⟩
abbrev rm_con_strInitU : Room := { frames := 5, cells := 2, slots := 6, locals := 74 }
set_option maxRecDepth 65536 in
set_option maxHeartbeats 40000000 in
theorem con_strInitU (l : Launch) {Z : State} {a0 : Array Value} (hw : ∀ d ∈ tables_1, d.before a0 Z = true) {n0 : Nat} {h0 : Heap} {a b : Addr} {cs : List Int32} (E : Exa Z h0 a "java/lang/String") (FV : Fld Z h0 a "java/lang/String" "value" "[B" .null) (FC : Fld Z h0 a "java/lang/String" "coder" "B" (.int 0)) (A : IA Z h0 b .char cs) (hcap : cs.length ≤ 2) (hch : ∀ c ∈ cs, 0 ≤ c.toInt ∧ c.toInt < 65536) {i0 : Nat} {c0 : Int32} (hi0 : cs[i0]? = some c0) (hb0 : 255 < c0.toInt) (hlow : ∀ j, j < i0 → ∀ d, cs[j]? = some d → 0 ≤ d.toInt ∧ d.toInt < 256) (HC : Cst Z) (HU : Ust Z) :
    Con l Z true false ELs n0 (⟨"java/lang/String", "<init>", "([C)V"⟩ : MethodName) jdk_42_method_3_code 2 none rm_con_strInitU [] #[(.ref a), (.ref b)] h0 [a] (fun v h => v = none ∧ Str Z h a cs) := by
  refine Con.intro (plainFor_of_name pn_java_lang_String) (hELs hw) ?_
  intro p e s m below meth c hh G
  refine castRun (g' := mkF m 0 #[.val (.ref a), .val (.ref b)] []) (by first | rfl | (simp [entryFrame, mkF, argsToLocals, Value.category, maxLocals]; done)) ?_
  refine GoKit.aloadN G d2_0 rfl rfl (pc' := 1) rfl ?_
  refine GoKit.aloadN G d2_1 rfl rfl (pc' := 2) rfl ?_
  refine GoKit.iconst G (0 : Int32) d2_2 rfl (pc' := 3) rfl ?_
  refine GoKit.aloadN G d2_3 rfl rfl (pc' := 4) rfl ?_
  refine GoKit.arrlenI G d2_4 A (z := cs.length.toInt32) rfl (pc' := 5) rfl ?_
  refine GoKit.aconstNull G d2_5 (pc' := 6) rfl ?_
  refine GoKit.callSpecial G d2_6 rfl (wi hw 12 rfl) (wi hw 13 rfl) (wi hw 7 rfl) (wi hw 15 rfl) (by decide) (owc := [a]) (W := 0) (argsL := [(.ref b), (.int (0 : Int32)), (.int cs.length.toInt32), .null]) (rest := []) (con_strInit4U l hw E FV FC A hcap hch hi0 hb0 hlow HC HU) rfl (lenOf pd_3 rfl) rfl (by decide) (Nat.le_of_eq rfl) (by decide) (by decide) (by decide) (by intro x hx; simp only [List.mem_cons, List.not_mem_nil, or_false] at hx ⊢; simp [hx]) (cells' := 2) (slots' := 6) rfl rfl (pc' := 9) rfl (fun r1 h4 q2 K3 => ?_)
  obtain ⟨rfl, S5⟩ := q2
  show Run _ _ _ _ _ _ _ _ _ _ _ _ _ _ _ _ _ _ _ _ _ (mkF m 9 #[.val (.ref a), .val (.ref b)] [])
  refine GoKit.retVoid G d2_9 rfl (by decide) (by decide) ?_
  exact ⟨rfl, Or.inr S5⟩
theorem con_strInitS (l : Launch) {Z : State} {a0 : Array Value} (hw : ∀ d ∈ tables_1, d.before a0 Z = true) {n0 : Nat} {h0 : Heap} {a b : Addr} {cs : List Int32} (E : Exa Z h0 a "java/lang/String") (FV : Fld Z h0 a "java/lang/String" "value" "[B" .null) (FC : Fld Z h0 a "java/lang/String" "coder" "B" (.int 0)) (A : IA Z h0 b .char cs) (hcap : cs.length ≤ 2) (hch : ∀ c ∈ cs, 0 ≤ c.toInt ∧ c.toInt < 65536) (hne : cs ≠ []) (HC : Cst Z) (HU : Ust Z) :
    Con l Z true false ELs n0 (⟨"java/lang/String", "<init>", "([C)V"⟩ : MethodName) jdk_42_method_3_code 2 none rm_con_strInitU [] #[.ref a, .ref b] h0 [a] (fun v h => v = none ∧ Str Z h a cs) := by
  by_cases hl : ∀ c ∈ cs, 0 ≤ c.toInt ∧ c.toInt < 256
  · exact con_mono (con_strInit l hw E FV FC A hcap hl hne HC) fun v h q => ⟨q.1, Or.inl q.2⟩
  · obtain ⟨i0, c0, h1, h2, h3⟩ := first_big hch hl
    exact con_strInitU l hw E FV FC A hcap hch h1 h2 h3 HC HU
theorem d3_8 : decode jdk_42_method_149_code 8 = .ok (.aload_n 0, 1) := by decide +kernel
theorem d3_9 : decode jdk_42_method_149_code 9 = .ok (.ldc 7, 2) := by decide +kernel
theorem d3_11 : decode jdk_42_method_149_code 11 = .ok (.getfield 9, 3) := by decide +kernel
theorem d3_14 : decode jdk_42_method_149_code 14 = .ok (.putfield 9, 3) := by decide +kernel
theorem d3_17 : decode jdk_42_method_149_code 17 = .ok (.aload_n 0, 1) := by decide +kernel
theorem d3_18 : decode jdk_42_method_149_code 18 = .ok (.ldc 7, 2) := by decide +kernel
theorem d3_20 : decode jdk_42_method_149_code 20 = .ok (.getfield 15, 3) := by decide +kernel
theorem d3_23 : decode jdk_42_method_149_code 23 = .ok (.putfield 15, 3) := by decide +kernel
theorem d3_26 : decode jdk_42_method_149_code 26 = .ok (.return_, 1) := by decide +kernel
abbrev rm_con_strInitE4 : Room := { frames := 1, cells := 4, slots := 8, locals := 12 }
set_option maxRecDepth 65536 in
set_option maxHeartbeats 40000000 in
theorem con_strInitE4 (l : Launch) {Z : State} {a0 : Array Value} (hw : ∀ d ∈ tables_1, d.before a0 Z = true) {n0 : Nat} {h0 : Heap} {a b : Addr} (E : Exa Z h0 a "java/lang/String") (FV : Fld Z h0 a "java/lang/String" "value" "[B" .null) (FC : Fld Z h0 a "java/lang/String" "coder" "B" (.int 0)) (A : IA Z h0 b .char []) :
    Con l Z true false ELs n0 (⟨"java/lang/String", "<init>", "([CIILjava/lang/Void;)V"⟩ : MethodName) jdk_42_method_149_code 6 none rm_con_strInitE4 [] #[(.ref a), (.ref b), (.int 0), (.int 0), .null] h0 [a] (fun v h => v = none ∧ Lat Z h a []) := by
  refine Con.intro (plainFor_of_name pn_java_lang_String) (hELs hw) ?_
  intro p e s m below meth c hh G
  refine castRun (g' := mkF m 0 #[.val (.ref a), .val (.ref b), .val (.int 0), .val (.int 0), .val .null, .unset] []) (by first | rfl | (simp [entryFrame, mkF, argsToLocals, Value.category, maxLocals]; done)) ?_
  refine GoKit.aloadN G d3_0 rfl rfl (pc' := 1) rfl ?_
  refine GoKit.initObj G d3_1 (wi hw 16 rfl) (wi hw 17 rfl) (wi hw 18 rfl) rfl (by decide) (W := 0) (Nat.le_of_eq rfl) (by decide) (pc' := 4) rfl ?_
  refine GoKit.iloadN G d3_4 rfl (pc' := 5) rfl ?_
  refine GoKit.if_ne_f G d3_5 rfl (pc' := 8) rfl ?_
  refine GoKit.aloadN G d3_8 rfl rfl (pc' := 9) rfl ?_
  refine GoKit.ldcStr G d3_9 rfl (wi hw 19 rfl) (wS hw) (by decide) (vs := []) (z := (0 : Int32)) ⟨by decide +kernel, by decide +kernel⟩ (by decide) rfl (n := 0) (by decide +kernel) (by decide) (by decide) (by decide) (cells' := 2) (slots' := 4) rfl rfl (pc' := 11) rfl (fun a1 b2 k3 h10 E4 X5 FC6 FV7 A8 N9 => ?_)
  have S11 : Lat Z h10 a1 [] := latLit X5 FC6 FV7 A8 rfl (by decide +kernel) (by decide +kernel)
  have A12 : IA Z h10 b2 .byte (([] : List Int32).map fun c => c.toInt8.toInt32) := iaLit A8 rfl (by decide +kernel)
  refine GoKit.getf G d3_11 (wi hw 25 rfl) Via.refl FV7 (pc' := 14) rfl ?_
  refine GoKit.putf G d3_14 (wi hw 25 rfl) Via.refl (FV.ext E4) (E.ext E4) (Or.inr ⟨(wi hw 21 rfl), rfl, rfl⟩) (wi hw 6 rfl) (ty := (.array .byte)) (by decide) rfl rfl (List.Mem.head _) (pc' := 17) rfl (fun h14 W13 => ?_)
  have F15 := ((FV.ext E4)).same W13
  refine GoKit.aloadN G d3_17 rfl rfl (pc' := 18) rfl ?_
  refine GoKit.ldcStr G d3_18 rfl (wi hw 19 rfl) (wS hw) (by decide) (vs := []) (z := (0 : Int32)) ⟨by decide +kernel, by decide +kernel⟩ (by decide) rfl (n := 0) (by decide +kernel) (by decide) (by decide) (by decide) (cells' := 4) (slots' := 8) rfl rfl (pc' := 20) rfl (fun a16 b17 k18 h25 E19 X20 FC21 FV22 A23 N24 => ?_)
  have S26 : Lat Z h25 a16 [] := latLit X20 FC21 FV22 A23 rfl (by decide +kernel) (by decide +kernel)
  have A27 : IA Z h25 b17 .byte (([] : List Int32).map fun c => c.toInt8.toInt32) := iaLit A23 rfl (by decide +kernel)
  refine GoKit.getf G d3_20 (wi hw 26 rfl) Via.refl FC21 (pc' := 23) rfl ?_
  refine GoKit.putf G d3_23 (wi hw 26 rfl) Via.refl (((FC.ext E4).other W13 (Or.inr (slot_ne (Or.inr (wi hw 22 rfl)) (Or.inr (wi hw 21 rfl)) (by decide) (by decide : _ = some .byte) (by decide : _ = some (.array .byte))))).ext E19) (((E.ext E4).wr W13).ext E19) (Or.inr ⟨(wi hw 22 rfl), rfl, rfl⟩) (wi hw 6 rfl) (ty := .byte) (by decide) rfl rfl (List.Mem.head _) (pc' := 26) rfl (fun h29 W28 => ?_)
  have F30 := ((((FC.ext E4).other W13 (Or.inr (slot_ne (Or.inr (wi hw 22 rfl)) (Or.inr (wi hw 21 rfl)) (by decide) (by decide : _ = some .byte) (by decide : _ = some (.array .byte))))).ext E19)).same W28
  refine GoKit.retVoid G d3_26 rfl (by decide) (by decide) ?_
  exact ⟨rfl, ((((E.ext E4).wr W13).ext E19).wr W28), ⟨b2, ((F15.ext E19).other W28 (Or.inr (slot_ne (Or.inr (wi hw 21 rfl)) (Or.inr (wi hw 22 rfl)) (by decide) (by decide : _ = some (.array .byte)) (by decide : _ = some .byte)))), F30, (((A12.other W13 (Ne.symm (N9 _ (List.Mem.head _)).2)).ext E19).other W28 (Ne.symm (N9 _ (List.Mem.head _)).2))⟩, fun _ q => nomatch q⟩
abbrev rm_con_strInitE : Room := { frames := 2, cells := 4, slots := 8, locals := 29 }
set_option maxRecDepth 65536 in
set_option maxHeartbeats 40000000 in
theorem con_strInitE (l : Launch) {Z : State} {a0 : Array Value} (hw : ∀ d ∈ tables_1, d.before a0 Z = true) {n0 : Nat} {h0 : Heap} {a b : Addr} (E : Exa Z h0 a "java/lang/String") (FV : Fld Z h0 a "java/lang/String" "value" "[B" .null) (FC : Fld Z h0 a "java/lang/String" "coder" "B" (.int 0)) (A : IA Z h0 b .char []) :
    Con l Z true false ELs n0 (⟨"java/lang/String", "<init>", "([C)V"⟩ : MethodName) jdk_42_method_3_code 2 none rm_con_strInitE [] #[(.ref a), (.ref b)] h0 [a] (fun v h => v = none ∧ Lat Z h a []) := by
  refine Con.intro (plainFor_of_name pn_java_lang_String) (hELs hw) ?_
  intro p e s m below meth c hh G
  refine castRun (g' := mkF m 0 #[.val (.ref a), .val (.ref b)] []) (by first | rfl | (simp [entryFrame, mkF, argsToLocals, Value.category, maxLocals]; done)) ?_
  refine GoKit.aloadN G d2_0 rfl rfl (pc' := 1) rfl ?_
  refine GoKit.aloadN G d2_1 rfl rfl (pc' := 2) rfl ?_
  refine GoKit.iconst G (0 : Int32) d2_2 rfl (pc' := 3) rfl ?_
  refine GoKit.aloadN G d2_3 rfl rfl (pc' := 4) rfl ?_
  refine GoKit.arrlenI G d2_4 A (z := (0 : Int32)) rfl (pc' := 5) rfl ?_
  refine GoKit.aconstNull G d2_5 (pc' := 6) rfl ?_
  refine GoKit.callSpecial G d2_6 rfl (wi hw 12 rfl) (wi hw 13 rfl) (wi hw 7 rfl) (wi hw 15 rfl) (by decide) (owc := [a]) (W := 0) (argsL := [(.ref b), (.int (0 : Int32)), (.int (0 : Int32)), .null]) (rest := []) (con_strInitE4 l hw E FV FC A) rfl (lenOf pd_3 rfl) rfl (by decide) (Nat.le_of_eq rfl) (by decide) (by decide) (by decide) (by intro x hx; simp only [List.mem_cons, List.not_mem_nil, or_false] at hx ⊢; simp [hx]) (cells' := 4) (slots' := 8) rfl rfl (pc' := 9) rfl (fun r1 h4 q2 K3 => ?_)
  obtain ⟨rfl, S5⟩ := q2
  show Run _ _ _ _ _ _ _ _ _ _ _ _ _ _ _ _ _ _ _ _ _ (mkF m 9 #[.val (.ref a), .val (.ref b)] [])
  refine GoKit.retVoid G d2_9 rfl (by decide) (by decide) ?_
  exact ⟨rfl, S5⟩
theorem d9_0 : decode jdk_42_method_152_code 0 = .ok (.getstatic 38, 3) := by decide +kernel
theorem d9_3 : decode jdk_42_method_152_code 3 = .ok (.ifCond .eq 10, 3) := by decide +kernel
theorem d9_6 : decode jdk_42_method_152_code 6 = .ok (.aload_n 0, 1) := by decide +kernel
theorem d9_7 : decode jdk_42_method_152_code 7 = .ok (.getfield 15, 3) := by decide +kernel
theorem d9_10 : decode jdk_42_method_152_code 10 = .ok (.goto 4, 3) := by decide +kernel
theorem d9_14 : decode jdk_42_method_152_code 14 = .ok (.ireturn, 1) := by decide +kernel
abbrev rm_con_coderU : Room := { frames := 0, cells := 0, slots := 0, locals := 0 }
set_option maxRecDepth 65536 in
set_option maxHeartbeats 40000000 in
theorem con_coderU (l : Launch) {Z : State} {a0 : Array Value} (hw : ∀ d ∈ tables_1, d.before a0 Z = true) {n0 : Nat} {h0 : Heap} {a : Addr} {cs : List Int32} (S : U16 Z h0 a cs) (HC : Cst Z) :
    Con l Z true false ELs n0 (⟨"java/lang/String", "coder", "()B"⟩ : MethodName) jdk_42_method_152_code 1 (some .byte) rm_con_coderU [] #[(.ref a)] h0 [] (fun v h => v = some (.int 1) ∧ h = h0) := by
  refine Con.intro (plainFor_of_name pn_java_lang_String) (hELs hw) ?_
  intro p e s m below meth c hh G
  refine castRun (g' := mkF m 0 #[.val (.ref a)] []) (by first | rfl | (simp [entryFrame, mkF, argsToLocals, Value.category, maxLocals]; done)) ?_
  obtain ⟨E, ⟨b, FV, FC, A⟩, hch, hln⟩ := id S
  obtain ⟨cz, SC, hcz⟩ := id HC
  refine GoKit.gets G d9_0 (wi hw 47 rfl) Via.refl SC (pc' := 3) rfl ?_
  refine GoKit.if_eq_f G d9_3 hcz (pc' := 6) rfl ?_
  refine GoKit.aloadN G d9_6 rfl rfl (pc' := 7) rfl ?_
  refine GoKit.getf G d9_7 (wi hw 26 rfl) Via.refl FC (pc' := 10) rfl ?_
  refine GoKit.goto G d9_10 (by decide) (pc' := 14) rfl ?_
  refine GoKit.retNar G d9_14 (t := .byte) rfl (by simp) (by decide) (by decide) ?_
  exact ⟨rfl, rfl⟩
abbrev rm_con_coderL : Room := { frames := 0, cells := 0, slots := 0, locals := 0 }
set_option maxRecDepth 65536 in
set_option maxHeartbeats 40000000 in
theorem con_coderL (l : Launch) {Z : State} {a0 : Array Value} (hw : ∀ d ∈ tables_1, d.before a0 Z = true) {n0 : Nat} {h0 : Heap} {a : Addr} {cs : List Int32} (S : Lat Z h0 a cs) (HC : Cst Z) :
    Con l Z true false ELs n0 (⟨"java/lang/String", "coder", "()B"⟩ : MethodName) jdk_42_method_152_code 1 (some .byte) rm_con_coderL [] #[(.ref a)] h0 [] (fun v h => v = some (.int 0) ∧ h = h0) := by
  refine Con.intro (plainFor_of_name pn_java_lang_String) (hELs hw) ?_
  intro p e s m below meth c hh G
  refine castRun (g' := mkF m 0 #[.val (.ref a)] []) (by first | rfl | (simp [entryFrame, mkF, argsToLocals, Value.category, maxLocals]; done)) ?_
  obtain ⟨E, ⟨b, FV, FC, A⟩, hlat⟩ := id S
  obtain ⟨cz, SC, hcz⟩ := id HC
  refine GoKit.gets G d9_0 (wi hw 47 rfl) Via.refl SC (pc' := 3) rfl ?_
  refine GoKit.if_eq_f G d9_3 hcz (pc' := 6) rfl ?_
  refine GoKit.aloadN G d9_6 rfl rfl (pc' := 7) rfl ?_
  refine GoKit.getf G d9_7 (wi hw 26 rfl) Via.refl FC (pc' := 10) rfl ?_
  refine GoKit.goto G d9_10 (by decide) (pc' := 14) rfl ?_
  refine GoKit.retNar G d9_14 (t := .byte) rfl (by simp) (by decide) (by decide) ?_
  exact ⟨rfl, rfl⟩
theorem d8_0 : decode jdk_42_method_54_code 0 = .ok (.aload_n 0, 1) := by decide +kernel
theorem d8_1 : decode jdk_42_method_54_code 1 = .ok (.getfield 9, 3) := by decide +kernel
theorem d8_4 : decode jdk_42_method_54_code 4 = .ok (.arraylength, 1) := by decide +kernel
theorem d8_5 : decode jdk_42_method_54_code 5 = .ok (.aload_n 0, 1) := by decide +kernel
theorem d8_6 : decode jdk_42_method_54_code 6 = .ok (.invokevirtual 335, 3) := by decide +kernel
theorem pd_8 : parseMethodDescriptor "()B" = some ⟨[], some .byte⟩ := by decide +kernel
theorem d8_9 : decode jdk_42_method_54_code 9 = .ok (.ishr, 1) := by decide +kernel
theorem d8_10 : decode jdk_42_method_54_code 10 = .ok (.ireturn, 1) := by decide +kernel
abbrev rm_con_lenSL : Room := { frames := 1, cells := 0, slots := 0, locals := 13 }
set_option maxRecDepth 65536 in
set_option maxHeartbeats 40000000 in
theorem con_lenSL (l : Launch) {Z : State} {a0 : Array Value} (hw : ∀ d ∈ tables_1, d.before a0 Z = true) {n0 : Nat} {h0 : Heap} {a : Addr} {cs : List Int32} (S : Lat Z h0 a cs) (HC : Cst Z) :
    Con l Z true false ELs n0 (⟨"java/lang/String", "length", "()I"⟩ : MethodName) jdk_42_method_54_code 1 (some .int) rm_con_lenSL [] #[(.ref a)] h0 [] (fun v h => v = some (.int cs.length.toInt32) ∧ h = h0) := by
  refine Con.intro (plainFor_of_name pn_java_lang_String) (hELs hw) ?_
  intro p e s m below meth c hh G
  refine castRun (g' := mkF m 0 #[.val (.ref a)] []) (by first | rfl | (simp [entryFrame, mkF, argsToLocals, Value.category, maxLocals]; done)) ?_
  obtain ⟨E, ⟨b, FV, FC, A⟩, hlat⟩ := id S
  refine GoKit.aloadN G d8_0 rfl rfl (pc' := 1) rfl ?_
  refine GoKit.getf G d8_1 (wi hw 25 rfl) Via.refl FV (pc' := 4) rfl ?_
  refine GoKit.arrlenI G d8_4 A (z := cs.length.toInt32) (by simp) (pc' := 5) rfl ?_
  refine GoKit.aloadN G d8_5 rfl rfl (pc' := 6) rfl ?_
  refine GoKit.callVirtualP G d8_6 (wi hw 42 rfl) (wi hw 43 rfl) (wi hw 45 rfl) (wi hw 44 rfl) (wi hw 7 rfl) (wi hw 46 rfl) (by decide) E (W := 1) (argsL := []) (rest := [(.int cs.length.toInt32)]) (con_coderL l hw S HC) rfl (lenOf pd_8 rfl) rfl (by decide) (Nat.le_of_eq rfl) (by decide) (by decide) (by decide) (cells' := 0) (slots' := 0) rfl rfl (pc' := 9) rfl ?_
  show Run _ _ _ _ _ _ _ _ _ _ _ _ _ _ _ _ _ _ _ _ _ (mkF m 9 #[.val (.ref a)] [(.int 0), (.int cs.length.toInt32)])
  refine GoKit.ishr G d8_9 (pc' := 10) rfl (fun v1 hqv1 => ?_)
  refine GoKit.retInt G d8_10 rfl (by decide) (by decide) ?_
  exact ⟨by subst_vars; rw [sh0], rfl⟩
abbrev rm_con_lenSU : Room := { frames := 1, cells := 0, slots := 0, locals := 13 }
set_option maxRecDepth 65536 in
set_option maxHeartbeats 40000000 in
theorem con_lenSU (l : Launch) {Z : State} {a0 : Array Value} (hw : ∀ d ∈ tables_1, d.before a0 Z = true) {n0 : Nat} {h0 : Heap} {a : Addr} {cs : List Int32} (S : U16 Z h0 a cs) (HC : Cst Z) :
    Con l Z true false ELs n0 (⟨"java/lang/String", "length", "()I"⟩ : MethodName) jdk_42_method_54_code 1 (some .int) rm_con_lenSU [] #[(.ref a)] h0 [] (fun v h => v = some (.int cs.length.toInt32) ∧ h = h0) := by
  refine Con.intro (plainFor_of_name pn_java_lang_String) (hELs hw) ?_
  intro p e s m below meth c hh G
  refine castRun (g' := mkF m 0 #[.val (.ref a)] []) (by first | rfl | (simp [entryFrame, mkF, argsToLocals, Value.category, maxLocals]; done)) ?_
  obtain ⟨E, ⟨b, FV, FC, A⟩, hch, hln⟩ := id S
  refine GoKit.aloadN G d8_0 rfl rfl (pc' := 1) rfl ?_
  refine GoKit.getf G d8_1 (wi hw 25 rfl) Via.refl FV (pc' := 4) rfl ?_
  refine GoKit.arrlenI G d8_4 A (z := (2 * cs.length).toInt32) (by rw [u16_len]) (pc' := 5) rfl ?_
  refine GoKit.aloadN G d8_5 rfl rfl (pc' := 6) rfl ?_
  refine GoKit.callVirtualP G d8_6 (wi hw 42 rfl) (wi hw 43 rfl) (wi hw 45 rfl) (wi hw 44 rfl) (wi hw 7 rfl) (wi hw 46 rfl) (by decide) E (W := 1) (argsL := []) (rest := [(.int (2 * cs.length).toInt32)]) (con_coderU l hw S HC) rfl (lenOf pd_8 rfl) rfl (by decide) (Nat.le_of_eq rfl) (by decide) (by decide) (by decide) (cells' := 0) (slots' := 0) rfl rfl (pc' := 9) rfl ?_
  show Run _ _ _ _ _ _ _ _ _ _ _ _ _ _ _ _ _ _ _ _ _ (mkF m 9 #[.val (.ref a)] [(.int 1), (.int (2 * cs.length).toInt32)])
  refine GoKit.ishr G d8_9 (pc' := 10) rfl (fun v1 hqv1 => ?_)
  refine GoKit.retInt G d8_10 rfl (by decide) (by decide) ?_
  exact ⟨by subst_vars; rw [shr1 (by omega)], rfl⟩
theorem con_lenS (l : Launch) {Z : State} {a0 : Array Value} (hw : ∀ d ∈ tables_1, d.before a0 Z = true) {n0 : Nat} {h0 : Heap} {a : Addr} {cs : List Int32} (S : Str Z h0 a cs) (HC : Cst Z) :
    Con l Z true false ELs n0 (⟨"java/lang/String", "length", "()I"⟩ : MethodName) jdk_42_method_54_code 1 (some .int) rm_con_lenSL [] #[(.ref a)] h0 [] (fun v h => v = some (.int cs.length.toInt32) ∧ h = h0) := by
  rcases S with S | S
  · exact con_lenSL l hw S HC
  · exact con_lenSU l hw S HC
theorem d23_0 : decode jdk_42_method_154_code 0 = .ok (.getstatic 38, 3) := by decide +kernel
theorem d23_3 : decode jdk_42_method_154_code 3 = .ok (.ifCond .eq 14, 3) := by decide +kernel
theorem d23_6 : decode jdk_42_method_154_code 6 = .ok (.aload_n 0, 1) := by decide +kernel
theorem d23_7 : decode jdk_42_method_154_code 7 = .ok (.getfield 15, 3) := by decide +kernel
theorem d23_10 : decode jdk_42_method_154_code 10 = .ok (.ifCond .ne 7, 3) := by decide +kernel
theorem d23_13 : decode jdk_42_method_154_code 13 = .ok (.iconst 1, 1) := by decide +kernel
theorem d23_14 : decode jdk_42_method_154_code 14 = .ok (.goto 4, 3) := by decide +kernel
theorem d23_18 : decode jdk_42_method_154_code 18 = .ok (.ireturn, 1) := by decide +kernel
abbrev rm_con_isLatL : Room := { frames := 0, cells := 0, slots := 0, locals := 0 }
set_option maxRecDepth 65536 in
set_option maxHeartbeats 40000000 in
theorem con_isLatL (l : Launch) {Z : State} {a0 : Array Value} (hw : ∀ d ∈ tables_1, d.before a0 Z = true) {n0 : Nat} {h0 : Heap} {a : Addr} {cs : List Int32} (S : Lat Z h0 a cs) (HC : Cst Z) :
    Con l Z true false ELs n0 (⟨"java/lang/String", "isLatin1", "()Z"⟩ : MethodName) jdk_42_method_154_code 1 (some .boolean) rm_con_isLatL [] #[(.ref a)] h0 [] (fun v h => v = some (.int 1) ∧ h = h0) := by
  refine Con.intro (plainFor_of_name pn_java_lang_String) (hELs hw) ?_
  intro p e s m below meth c hh G
  refine castRun (g' := mkF m 0 #[.val (.ref a)] []) (by first | rfl | (simp [entryFrame, mkF, argsToLocals, Value.category, maxLocals]; done)) ?_
  obtain ⟨E, ⟨b, FV, FC, A⟩, hlat⟩ := id S
  obtain ⟨cz, SC, hcz⟩ := id HC
  refine GoKit.gets G d23_0 (wi hw 47 rfl) Via.refl SC (pc' := 3) rfl ?_
  refine GoKit.if_eq_f G d23_3 hcz (pc' := 6) rfl ?_
  refine GoKit.aloadN G d23_6 rfl rfl (pc' := 7) rfl ?_
  refine GoKit.getf G d23_7 (wi hw 26 rfl) Via.refl FC (pc' := 10) rfl ?_
  refine GoKit.if_ne_f G d23_10 rfl (pc' := 13) rfl ?_
  refine GoKit.iconst G (1 : Int32) d23_13 rfl (pc' := 14) rfl ?_
  refine GoKit.goto G d23_14 (by decide) (pc' := 18) rfl ?_
  refine GoKit.retNar G d23_18 (t := .boolean) rfl (by simp) (by decide) (by decide) ?_
  exact ⟨rfl, rfl⟩
theorem d23_17 : decode jdk_42_method_154_code 17 = .ok (.iconst 0, 1) := by decide +kernel
abbrev rm_con_isLatU : Room := { frames := 0, cells := 0, slots := 0, locals := 0 }
set_option maxRecDepth 65536 in
set_option maxHeartbeats 40000000 in
theorem con_isLatU (l : Launch) {Z : State} {a0 : Array Value} (hw : ∀ d ∈ tables_1, d.before a0 Z = true) {n0 : Nat} {h0 : Heap} {a : Addr} {cs : List Int32} (S : U16 Z h0 a cs) (HC : Cst Z) :
    Con l Z true false ELs n0 (⟨"java/lang/String", "isLatin1", "()Z"⟩ : MethodName) jdk_42_method_154_code 1 (some .boolean) rm_con_isLatU [] #[(.ref a)] h0 [] (fun v h => v = some (.int 0) ∧ h = h0) := by
  refine Con.intro (plainFor_of_name pn_java_lang_String) (hELs hw) ?_
  intro p e s m below meth c hh G
  refine castRun (g' := mkF m 0 #[.val (.ref a)] []) (by first | rfl | (simp [entryFrame, mkF, argsToLocals, Value.category, maxLocals]; done)) ?_
  obtain ⟨E, ⟨b, FV, FC, A⟩, hch, hln⟩ := id S
  obtain ⟨cz, SC, hcz⟩ := id HC
  refine GoKit.gets G d23_0 (wi hw 47 rfl) Via.refl SC (pc' := 3) rfl ?_
  refine GoKit.if_eq_f G d23_3 hcz (pc' := 6) rfl ?_
  refine GoKit.aloadN G d23_6 rfl rfl (pc' := 7) rfl ?_
  refine GoKit.getf G d23_7 (wi hw 26 rfl) Via.refl FC (pc' := 10) rfl ?_
  refine GoKit.if_ne_t G d23_10 (by decide) (by decide) (pc' := 17) rfl ?_
  refine GoKit.iconst G (0 : Int32) d23_17 rfl (pc' := 18) rfl ?_
  refine GoKit.retNar G d23_18 (t := .boolean) rfl (by simp) (by decide) (by decide) ?_
  exact ⟨rfl, rfl⟩
/-- the formatter's static is a reference -/
def Frm (Z : State) : Prop := ∃ fv : Value, Sta Z Z.heap "jdk/internal/util/Preconditions" "SIOOBE_FORMATTER" "Ljava/util/function/BiFunction;" fv ∧ fv.isRef = true
theorem lo8_mask (c : Int32) (h : 0 ≤ c.toInt ∧ c.toInt < 256) : nar .char ((c.toInt8.toInt32 &&& 255).toUInt32.toUInt16.toUInt32.toInt32) = c := by
  obtain ⟨n, hn, rfl⟩ : ∃ n : Nat, n < 256 ∧ c = Int32.ofNat n := by
    refine ⟨c.toInt.toNat, by omega, ?_⟩
    apply Int32.toInt_inj.mp
    rw [show Int32.ofNat c.toInt.toNat = c.toInt.toNat.toInt32 from rfl, toI_toInt (by omega)]; omega
  revert n; decide +kernel
theorem d28_0 : decode jdk_41_method_11_code 0 = .ok (.iload_n 0, 1) := by decide +kernel
theorem d28_1 : decode jdk_41_method_11_code 1 = .ok (.ifCond .lt 8, 3) := by decide +kernel
theorem d28_4 : decode jdk_41_method_11_code 4 = .ok (.iload_n 0, 1) := by decide +kernel
theorem d28_5 : decode jdk_41_method_11_code 5 = .ok (.iload_n 1, 1) := by decide +kernel
theorem d28_6 : decode jdk_41_method_11_code 6 = .ok (.if_icmp .lt 10, 3) := by decide +kernel
theorem d28_16 : decode jdk_41_method_11_code 16 = .ok (.iload_n 0, 1) := by decide +kernel
theorem d28_17 : decode jdk_41_method_11_code 17 = .ok (.ireturn, 1) := by decide +kernel
theorem pn_jdk_internal_util_Preconditions : plainName "jdk/internal/util/Preconditions" = true := by first | (simp [plainName, overriddenIn]; done) | decide +kernel
abbrev rm_con_preCheck : Room := { frames := 0, cells := 0, slots := 0, locals := 0 }
set_option maxRecDepth 65536 in
set_option maxHeartbeats 40000000 in
theorem con_preCheck (l : Launch) {Z : State} {a0 : Array Value} (hw : ∀ d ∈ tables_1, d.before a0 Z = true) {n0 : Nat} {h0 : Heap} {j z : Int32} {fv : Value} (hfv : fv.isRef = true) (hj0 : ¬ j < 0) (hjn : j < z) :
    Con l Z true false ELs n0 (⟨"jdk/internal/util/Preconditions", "checkIndex", "(IILjava/util/function/BiFunction;)I"⟩ : MethodName) jdk_41_method_11_code 3 (some .int) rm_con_preCheck [] #[(.int j), (.int z), fv] h0 [] (fun v h => v = some (.int j) ∧ h = h0) := by
  refine Con.intro (plainFor_of_name pn_jdk_internal_util_Preconditions) (hELs hw) ?_
  intro p e s m below meth c hh G
  refine castRun (g' := mkF m 0 #[.val (.int j), .val (.int z), .val fv] []) (by rcases ref_cases hfv with rfl | ⟨r, rfl⟩ <;> rfl) ?_
  refine GoKit.iloadN G d28_0 rfl (pc' := 1) rfl ?_
  refine GoKit.if_lt_f G d28_1 hj0 (pc' := 4) rfl ?_
  refine GoKit.iloadN G d28_4 rfl (pc' := 5) rfl ?_
  refine GoKit.iloadN G d28_5 rfl (pc' := 6) rfl ?_
  refine GoKit.icmp_lt_t G d28_6 hjn (by decide) (pc' := 16) rfl ?_
  refine GoKit.iloadN G d28_16 rfl (pc' := 17) rfl ?_
  refine GoKit.retInt G d28_17 rfl (by decide) (by decide) ?_
  exact ⟨rfl, rfl⟩
theorem d27_0 : decode jdk_42_method_155_code 0 = .ok (.iload_n 0, 1) := by decide +kernel
theorem d27_1 : decode jdk_42_method_155_code 1 = .ok (.iload_n 1, 1) := by decide +kernel
theorem d27_2 : decode jdk_42_method_155_code 2 = .ok (.getstatic 1053, 3) := by decide +kernel
theorem d27_5 : decode jdk_42_method_155_code 5 = .ok (.invokestatic 1059, 3) := by decide +kernel
theorem pd_9 : parseMethodDescriptor "(IILjava/util/function/BiFunction;)I" = some ⟨[.int, .int, (.object "java/util/function/BiFunction")], some .int⟩ := by decide +kernel
theorem d27_8 : decode jdk_42_method_155_code 8 = .ok (.pop, 1) := by decide +kernel
theorem d27_9 : decode jdk_42_method_155_code 9 = .ok (.return_, 1) := by decide +kernel
abbrev rm_con_checkIndex : Room := { frames := 1, cells := 0, slots := 0, locals := 14 }
set_option maxRecDepth 65536 in
set_option maxHeartbeats 40000000 in
theorem con_checkIndex (l : Launch) {Z : State} {a0 : Array Value} (hw : ∀ d ∈ tables_1, d.before a0 Z = true) {n0 : Nat} {h0 : Heap} {j z : Int32} (HF : Frm Z) (hj0 : ¬ j < 0) (hjn : j < z) :
    Con l Z true false ELs n0 (⟨"java/lang/String", "checkIndex", "(II)V"⟩ : MethodName) jdk_42_method_155_code 2 none rm_con_checkIndex [] #[(.int j), (.int z)] h0 [] (fun v h => v = none ∧ h = h0) := by
  refine Con.intro (plainFor_of_name pn_java_lang_String) (hELs hw) ?_
  intro p e s m below meth c hh G
  refine castRun (g' := mkF m 0 #[.val (.int j), .val (.int z)] []) (by first | rfl | (simp [entryFrame, mkF, argsToLocals, Value.category, maxLocals]; done)) ?_
  obtain ⟨fv, SF, hfv⟩ := id HF
  refine GoKit.iloadN G d27_0 rfl (pc' := 1) rfl ?_
  refine GoKit.iloadN G d27_1 rfl (pc' := 2) rfl ?_
  refine GoKit.gets G d27_2 (wi hw 114 rfl) Via.refl SF (pc' := 5) rfl ?_
  refine GoKit.callStaticP G d27_5 (wi hw 116 rfl) (wi hw 117 rfl) (wi hw 115 rfl) (wi hw 118 rfl) (by decide) (W := 0) (argsL := [(.int j), (.int z), fv]) (rest := []) (con_preCheck l hw hfv hj0 hjn) rfl (lenOf pd_9 rfl) rfl (by decide) (Nat.le_of_eq rfl) (by decide) (by decide) (by decide) (cells' := 0) (slots' := 0) rfl rfl (pc' := 8) rfl ?_
  show Run _ _ _ _ _ _ _ _ _ _ _ _ _ _ _ _ _ _ _ _ _ (mkF m 8 #[.val (.int j), .val (.int z)] [(.int j)])
  refine GoKit.pop G d27_8 rfl (pc' := 9) rfl ?_
  refine GoKit.retVoid G d27_9 rfl (by decide) (by decide) ?_
  exact ⟨rfl, rfl⟩
theorem d31_0 : decode jdk_43_method_2_code 0 = .ok (.iload_n 1, 1) := by decide +kernel
theorem d31_1 : decode jdk_43_method_2_code 1 = .ok (.aload_n 0, 1) := by decide +kernel
theorem d31_2 : decode jdk_43_method_2_code 2 = .ok (.arraylength, 1) := by decide +kernel
theorem d31_3 : decode jdk_43_method_2_code 3 = .ok (.invokestatic 9, 3) := by decide +kernel
theorem pd_10 : parseMethodDescriptor "(II)V" = some ⟨[.int, .int], none⟩ := by decide +kernel
theorem d31_6 : decode jdk_43_method_2_code 6 = .ok (.aload_n 0, 1) := by decide +kernel
theorem d31_7 : decode jdk_43_method_2_code 7 = .ok (.iload_n 1, 1) := by decide +kernel
theorem d31_8 : decode jdk_43_method_2_code 8 = .ok (.baload, 1) := by decide +kernel
theorem d31_9 : decode jdk_43_method_2_code 9 = .ok (.sipush 255, 3) := by decide +kernel
theorem d31_12 : decode jdk_43_method_2_code 12 = .ok (.iand, 1) := by decide +kernel
theorem d31_13 : decode jdk_43_method_2_code 13 = .ok (.i2c, 1) := by decide +kernel
theorem d31_14 : decode jdk_43_method_2_code 14 = .ok (.ireturn, 1) := by decide +kernel
theorem pn_java_lang_StringLatin1 : plainName "java/lang/StringLatin1" = true := by first | (simp [plainName, overriddenIn]; done) | decide +kernel
abbrev rm_con_latCharAt : Room := { frames := 2, cells := 0, slots := 0, locals := 27 }
set_option maxRecDepth 65536 in
set_option maxHeartbeats 40000000 in
theorem con_latCharAt (l : Launch) {Z : State} {a0 : Array Value} (hw : ∀ d ∈ tables_1, d.before a0 Z = true) {n0 : Nat} {h0 : Heap} {b : Addr} {cs : List Int32} {i : Nat} {ch : Int32} (A : IA Z h0 b .byte (cs.map fun c => c.toInt8.toInt32)) (hlat : ∀ c ∈ cs, 0 ≤ c.toInt ∧ c.toInt < 256) (hi : cs[i]? = some ch) (HF : Frm Z) :
    Con l Z true false ELs n0 (⟨"java/lang/StringLatin1", "charAt", "([BI)C"⟩ : MethodName) jdk_43_method_2_code 2 (some .char) rm_con_latCharAt [] #[(.ref b), (.int i.toInt32)] h0 [] (fun v h => v = some (.int ch) ∧ h = h0) := by
  refine Con.intro (plainFor_of_name pn_java_lang_StringLatin1) (hELs hw) ?_
  intro p e s m below meth c hh G
  refine castRun (g' := mkF m 0 #[.val (.ref b), .val (.int i.toInt32)] []) (by first | rfl | (simp [entryFrame, mkF, argsToLocals, Value.category, maxLocals]; done)) ?_
  have hil := (List.getElem?_eq_some_iff.mp hi).1
  have hl := A.len
  rw [List.length_map] at hl
  refine GoKit.iloadN G d31_0 rfl (pc' := 1) rfl ?_
  refine GoKit.aloadN G d31_1 rfl rfl (pc' := 2) rfl ?_
  refine GoKit.arrlenI G d31_2 A (z := cs.length.toInt32) (by simp) (pc' := 3) rfl ?_
  refine GoKit.callStaticP G d31_3 (wi hw 134 rfl) (wi hw 112 rfl) (wi hw 7 rfl) (wi hw 113 rfl) (by decide) (W := 0) (argsL := [(.int i.toInt32), (.int cs.length.toInt32)]) (rest := []) (con_checkIndex l hw HF (toI_nn (by omega)) ((toI_lt (by omega) (by omega)).mpr hil)) rfl (lenOf pd_10 rfl) rfl (by decide) (Nat.le_of_eq rfl) (by decide) (by decide) (by decide) (cells' := 0) (slots' := 0) rfl rfl (pc' := 6) rfl ?_
  show Run _ _ _ _ _ _ _ _ _ _ _ _ _ _ _ _ _ _ _ _ _ (mkF m 6 #[.val (.ref b), .val (.int i.toInt32)] [])
  refine GoKit.aloadN G d31_6 rfl rfl (pc' := 7) rfl ?_
  refine GoKit.iloadN G d31_7 rfl (pc' := 8) rfl ?_
  refine GoKit.baloadI G d31_8 A (i := i) (toI_clamp (by omega)) (toI_nn (by omega)) (x := ch.toInt8.toInt32) (by simp [hi]) (pc' := 9) rfl ?_
  refine GoKit.sipush G (255 : Int32) d31_9 rfl (pc' := 12) rfl ?_
  refine GoKit.iand G d31_12 (pc' := 13) rfl (fun v1 hqv1 => ?_)
  refine GoKit.i2c G d31_13 (pc' := 14) rfl (fun v2 hqv2 => ?_)
  have l3 := ch8 _ _ _ hqv1 hqv2
  have c4 : nar .char v2 = v2 := by rw [hqv2]; exact nar_i2c _
  refine GoKit.retNar G d31_14 (t := .char) rfl (by simp) (by decide) (by decide) ?_
  exact ⟨by subst_vars; rw [lo8_mask ch (hlat ch (List.mem_of_getElem? hi))], rfl⟩
theorem d26_0 : decode jdk_52_method_6_code 0 = .ok (.aload_n 0, 1) := by decide +kernel
theorem d26_1 : decode jdk_52_method_6_code 1 = .ok (.arraylength, 1) := by decide +kernel
theorem d26_2 : decode jdk_52_method_6_code 2 = .ok (.iconst 1, 1) := by decide +kernel
theorem d26_3 : decode jdk_52_method_6_code 3 = .ok (.ishr, 1) := by decide +kernel
theorem d26_4 : decode jdk_52_method_6_code 4 = .ok (.ireturn, 1) := by decide +kernel
abbrev rm_con_uLen : Room := { frames := 0, cells := 0, slots := 0, locals := 0 }
set_option maxRecDepth 65536 in
set_option maxHeartbeats 40000000 in
theorem con_uLen (l : Launch) {Z : State} {a0 : Array Value} (hw : ∀ d ∈ tables_1, d.before a0 Z = true) {n0 : Nat} {h0 : Heap} {b : Addr} {cs : List Int32} (A : IA Z h0 b .byte (u16 cs)) (hln : cs.length < 2 ^ 29) :
    Con l Z true false ELs n0 (⟨"java/lang/StringUTF16", "length", "([B)I"⟩ : MethodName) jdk_52_method_6_code 1 (some .int) rm_con_uLen [] #[(.ref b)] h0 [] (fun v h => v = some (.int cs.length.toInt32) ∧ h = h0) := by
  refine Con.intro (plainFor_of_name pn_java_lang_StringUTF16) (hELs hw) ?_
  intro p e s m below meth c hh G
  refine castRun (g' := mkF m 0 #[.val (.ref b)] []) (by first | rfl | (simp [entryFrame, mkF, argsToLocals, Value.category, maxLocals]; done)) ?_
  refine GoKit.aloadN G d26_0 rfl rfl (pc' := 1) rfl ?_
  refine GoKit.arrlenI G d26_1 A (z := (2 * cs.length).toInt32) (by rw [u16_len]) (pc' := 2) rfl ?_
  refine GoKit.iconst G (1 : Int32) d26_2 rfl (pc' := 3) rfl ?_
  refine GoKit.ishr G d26_3 (pc' := 4) rfl (fun v1 hqv1 => ?_)
  refine GoKit.retInt G d26_4 rfl (by decide) (by decide) ?_
  exact ⟨by subst_vars; rw [shr1 (by omega)], rfl⟩
theorem d25_0 : decode jdk_52_method_91_code 0 = .ok (.iload_n 0, 1) := by decide +kernel
theorem d25_1 : decode jdk_52_method_91_code 1 = .ok (.aload_n 1, 1) := by decide +kernel
theorem d25_2 : decode jdk_52_method_91_code 2 = .ok (.invokestatic 48, 3) := by decide +kernel
theorem pd_11 : parseMethodDescriptor "([B)I" = some ⟨[(.array .byte)], some .int⟩ := by decide +kernel
theorem d25_5 : decode jdk_52_method_91_code 5 = .ok (.invokestatic 414, 3) := by decide +kernel
theorem d25_8 : decode jdk_52_method_91_code 8 = .ok (.return_, 1) := by decide +kernel
abbrev rm_con_uCheck : Room := { frames := 2, cells := 0, slots := 0, locals := 27 }
set_option maxRecDepth 65536 in
set_option maxHeartbeats 40000000 in
theorem con_uCheck (l : Launch) {Z : State} {a0 : Array Value} (hw : ∀ d ∈ tables_1, d.before a0 Z = true) {n0 : Nat} {h0 : Heap} {b : Addr} {cs : List Int32} {i : Nat} {ch : Int32} (A : IA Z h0 b .byte (u16 cs)) (hln : cs.length < 2 ^ 29) (hi : cs[i]? = some ch) (HF : Frm Z) :
    Con l Z true false ELs n0 (⟨"java/lang/StringUTF16", "checkIndex", "(I[B)V"⟩ : MethodName) jdk_52_method_91_code 2 none rm_con_uCheck [] #[(.int i.toInt32), (.ref b)] h0 [] (fun v h => v = none ∧ h = h0) := by
  refine Con.intro (plainFor_of_name pn_java_lang_StringUTF16) (hELs hw) ?_
  intro p e s m below meth c hh G
  refine castRun (g' := mkF m 0 #[.val (.int i.toInt32), .val (.ref b)] []) (by first | rfl | (simp [entryFrame, mkF, argsToLocals, Value.category, maxLocals]; done)) ?_
  have hil := (List.getElem?_eq_some_iff.mp hi).1
  refine GoKit.iloadN G d25_0 rfl (pc' := 1) rfl ?_
  refine GoKit.aloadN G d25_1 rfl rfl (pc' := 2) rfl ?_
  refine GoKit.callStaticP G d25_2 (wi hw 108 rfl) (wi hw 109 rfl) (wi hw 61 rfl) (wi hw 110 rfl) (by decide) (W := 1) (argsL := [(.ref b)]) (rest := [(.int i.toInt32)]) (con_uLen l hw A hln) rfl (lenOf pd_11 rfl) rfl (by decide) (Nat.le_of_eq rfl) (by decide) (by decide) (by decide) (cells' := 0) (slots' := 0) rfl rfl (pc' := 5) rfl ?_
  show Run _ _ _ _ _ _ _ _ _ _ _ _ _ _ _ _ _ _ _ _ _ (mkF m 5 #[.val (.int i.toInt32), .val (.ref b)] [(.int cs.length.toInt32), (.int i.toInt32)])
  refine GoKit.callStaticP G d25_5 (wi hw 111 rfl) (wi hw 112 rfl) (wi hw 7 rfl) (wi hw 113 rfl) (by decide) (W := 0) (argsL := [(.int i.toInt32), (.int cs.length.toInt32)]) (rest := []) (con_checkIndex l hw HF (toI_nn (by omega)) ((toI_lt (by omega) (by omega)).mpr hil)) rfl (lenOf pd_10 rfl) rfl (by decide) (Nat.le_of_eq rfl) (by decide) (by decide) (by decide) (cells' := 0) (slots' := 0) rfl rfl (pc' := 8) rfl ?_
  show Run _ _ _ _ _ _ _ _ _ _ _ _ _ _ _ _ _ _ _ _ _ (mkF m 8 #[.val (.int i.toInt32), .val (.ref b)] [])
  refine GoKit.retVoid G d25_8 rfl (by decide) (by decide) ?_
  exact ⟨rfl, rfl⟩
theorem d24_0 : decode jdk_52_method_83_code 0 = .ok (.iload_n 1, 1) := by decide +kernel
theorem d24_1 : decode jdk_52_method_83_code 1 = .ok (.aload_n 0, 1) := by decide +kernel
theorem d24_2 : decode jdk_52_method_83_code 2 = .ok (.invokestatic 67, 3) := by decide +kernel
theorem pd_12 : parseMethodDescriptor "(I[B)V" = some ⟨[.int, (.array .byte)], none⟩ := by decide +kernel
theorem d24_5 : decode jdk_52_method_83_code 5 = .ok (.aload_n 0, 1) := by decide +kernel
theorem d24_6 : decode jdk_52_method_83_code 6 = .ok (.iload_n 1, 1) := by decide +kernel
theorem d24_7 : decode jdk_52_method_83_code 7 = .ok (.invokestatic 71, 3) := by decide +kernel
theorem d24_10 : decode jdk_52_method_83_code 10 = .ok (.ireturn, 1) := by decide +kernel
abbrev rm_con_uCharAt : Room := { frames := 3, cells := 0, slots := 0, locals := 40 }
set_option maxRecDepth 65536 in
set_option maxHeartbeats 40000000 in
theorem con_uCharAt (l : Launch) {Z : State} {a0 : Array Value} (hw : ∀ d ∈ tables_1, d.before a0 Z = true) {n0 : Nat} {h0 : Heap} {b : Addr} {cs : List Int32} {i : Nat} {ch : Int32} (A : IA Z h0 b .byte (u16 cs)) (hch : ∀ c ∈ cs, 0 ≤ c.toInt ∧ c.toInt < 65536) (hln : cs.length < 2 ^ 29) (hi : cs[i]? = some ch) (HF : Frm Z) (HU : Ust Z) :
    Con l Z true false ELs n0 (⟨"java/lang/StringUTF16", "charAt", "([BI)C"⟩ : MethodName) jdk_52_method_83_code 2 (some .char) rm_con_uCharAt [] #[(.ref b), (.int i.toInt32)] h0 [] (fun v h => v = some (.int ch) ∧ h = h0) := by
  refine Con.intro (plainFor_of_name pn_java_lang_StringUTF16) (hELs hw) ?_
  intro p e s m below meth c hh G
  refine castRun (g' := mkF m 0 #[.val (.ref b), .val (.int i.toInt32)] []) (by first | rfl | (simp [entryFrame, mkF, argsToLocals, Value.category, maxLocals]; done)) ?_
  refine GoKit.iloadN G d24_0 rfl (pc' := 1) rfl ?_
  refine GoKit.aloadN G d24_1 rfl rfl (pc' := 2) rfl ?_
  refine GoKit.callStaticP G d24_2 (wi hw 105 rfl) (wi hw 106 rfl) (wi hw 61 rfl) (wi hw 107 rfl) (by decide) (W := 0) (argsL := [(.int i.toInt32), (.ref b)]) (rest := []) (con_uCheck l hw A hln hi HF) rfl (lenOf pd_12 rfl) rfl (by decide) (Nat.le_of_eq rfl) (by decide) (by decide) (by decide) (cells' := 0) (slots' := 0) rfl rfl (pc' := 5) rfl ?_
  show Run _ _ _ _ _ _ _ _ _ _ _ _ _ _ _ _ _ _ _ _ _ (mkF m 5 #[.val (.ref b), .val (.int i.toInt32)] [])
  refine GoKit.aloadN G d24_5 rfl rfl (pc' := 6) rfl ?_
  refine GoKit.iloadN G d24_6 rfl (pc' := 7) rfl ?_
  refine GoKit.callStaticP G d24_7 (wi hw 85 rfl) (wi hw 86 rfl) (wi hw 61 rfl) (wi hw 87 rfl) (by decide) (W := 0) (argsL := [(.ref b), (.int i.toInt32)]) (rest := []) (con_getChar l hw A hi hch HU) rfl (lenOf pd_7 rfl) rfl (by decide) (Nat.le_of_eq rfl) (by decide) (by decide) (by decide) (cells' := 0) (slots' := 0) rfl rfl (pc' := 10) rfl ?_
  show Run _ _ _ _ _ _ _ _ _ _ _ _ _ _ _ _ _ _ _ _ _ (mkF m 10 #[.val (.ref b), .val (.int i.toInt32)] [(.int ch)])
  refine GoKit.retNar G d24_10 (t := .char) rfl (by simp) (by decide) (by decide) ?_
  exact ⟨by rw [nar16 (hch ch (List.mem_of_getElem? hi))], rfl⟩
theorem d22_0 : decode jdk_42_method_56_code 0 = .ok (.aload_n 0, 1) := by decide +kernel
theorem d22_1 : decode jdk_42_method_56_code 1 = .ok (.invokevirtual 492, 3) := by decide +kernel
theorem pd_13 : parseMethodDescriptor "()Z" = some ⟨[], some .boolean⟩ := by decide +kernel
theorem d22_4 : decode jdk_42_method_56_code 4 = .ok (.ifCond .eq 12, 3) := by decide +kernel
theorem d22_7 : decode jdk_42_method_56_code 7 = .ok (.aload_n 0, 1) := by decide +kernel
theorem d22_8 : decode jdk_42_method_56_code 8 = .ok (.getfield 9, 3) := by decide +kernel
theorem d22_11 : decode jdk_42_method_56_code 11 = .ok (.iload_n 1, 1) := by decide +kernel
theorem d22_12 : decode jdk_42_method_56_code 12 = .ok (.invokestatic 495, 3) := by decide +kernel
theorem d22_15 : decode jdk_42_method_56_code 15 = .ok (.ireturn, 1) := by decide +kernel
abbrev rm_con_charSL : Room := { frames := 4, cells := 0, slots := 0, locals := 53 }
set_option maxRecDepth 65536 in
set_option maxHeartbeats 40000000 in
theorem con_charSL (l : Launch) {Z : State} {a0 : Array Value} (hw : ∀ d ∈ tables_1, d.before a0 Z = true) {n0 : Nat} {h0 : Heap} {a : Addr} {cs : List Int32} (S : Lat Z h0 a cs) {i : Nat} {ch : Int32} (hi : cs[i]? = some ch) (HC : Cst Z) (HF : Frm Z) (HU : Ust Z) :
    Con l Z true false ELs n0 (⟨"java/lang/String", "charAt", "(I)C"⟩ : MethodName) jdk_42_method_56_code 2 (some .char) rm_con_charSL [] #[(.ref a), (.int i.toInt32)] h0 [] (fun v h => v = some (.int ch) ∧ h = h0) := by
  refine Con.intro (plainFor_of_name pn_java_lang_String) (hELs hw) ?_
  intro p e s m below meth c hh G
  refine castRun (g' := mkF m 0 #[.val (.ref a), .val (.int i.toInt32)] []) (by first | rfl | (simp [entryFrame, mkF, argsToLocals, Value.category, maxLocals]; done)) ?_
  obtain ⟨E, ⟨b, FV, FC, A⟩, hlat⟩ := id S
  refine GoKit.aloadN G d22_0 rfl rfl (pc' := 1) rfl ?_
  refine GoKit.callVirtualP G d22_1 (wi hw 97 rfl) (wi hw 98 rfl) (wi hw 100 rfl) (wi hw 99 rfl) (wi hw 7 rfl) (wi hw 101 rfl) (by decide) E (W := 0) (argsL := []) (rest := []) (con_isLatL l hw S HC) rfl (lenOf pd_13 rfl) rfl (by decide) (Nat.le_of_eq rfl) (by decide) (by decide) (by decide) (cells' := 0) (slots' := 0) rfl rfl (pc' := 4) rfl ?_
  show Run _ _ _ _ _ _ _ _ _ _ _ _ _ _ _ _ _ _ _ _ _ (mkF m 4 #[.val (.ref a), .val (.int i.toInt32)] [(.int 1)])
  refine GoKit.if_eq_f G d22_4 (by decide) (pc' := 7) rfl ?_
  refine GoKit.aloadN G d22_7 rfl rfl (pc' := 8) rfl ?_
  refine GoKit.getf G d22_8 (wi hw 25 rfl) Via.refl FV (pc' := 11) rfl ?_
  refine GoKit.iloadN G d22_11 rfl (pc' := 12) rfl ?_
  refine GoKit.callStaticP G d22_12 (wi hw 130 rfl) (wi hw 131 rfl) (wi hw 132 rfl) (wi hw 133 rfl) (by decide) (W := 0) (argsL := [(.ref b), (.int i.toInt32)]) (rest := []) (con_latCharAt l hw A hlat hi HF) rfl (lenOf pd_7 rfl) rfl (by decide) (Nat.le_of_eq rfl) (by decide) (by decide) (by decide) (cells' := 0) (slots' := 0) rfl rfl (pc' := 15) rfl ?_
  show Run _ _ _ _ _ _ _ _ _ _ _ _ _ _ _ _ _ _ _ _ _ (mkF m 15 #[.val (.ref a), .val (.int i.toInt32)] [(.int ch)])
  refine GoKit.retNar G d22_15 (t := .char) rfl (by simp) (by decide) (by decide) ?_
  exact ⟨by rw [nar16 (by have := hlat ch (List.mem_of_getElem? hi); omega)], rfl⟩
theorem d22_16 : decode jdk_42_method_56_code 16 = .ok (.aload_n 0, 1) := by decide +kernel
theorem d22_17 : decode jdk_42_method_56_code 17 = .ok (.getfield 9, 3) := by decide +kernel
theorem d22_20 : decode jdk_42_method_56_code 20 = .ok (.iload_n 1, 1) := by decide +kernel
theorem d22_21 : decode jdk_42_method_56_code 21 = .ok (.invokestatic 498, 3) := by decide +kernel
theorem d22_24 : decode jdk_42_method_56_code 24 = .ok (.ireturn, 1) := by decide +kernel
abbrev rm_con_charSU : Room := { frames := 4, cells := 0, slots := 0, locals := 53 }
set_option maxRecDepth 65536 in
set_option maxHeartbeats 40000000 in
theorem con_charSU (l : Launch) {Z : State} {a0 : Array Value} (hw : ∀ d ∈ tables_1, d.before a0 Z = true) {n0 : Nat} {h0 : Heap} {a : Addr} {cs : List Int32} (S : U16 Z h0 a cs) {i : Nat} {ch : Int32} (hi : cs[i]? = some ch) (HC : Cst Z) (HF : Frm Z) (HU : Ust Z) :
    Con l Z true false ELs n0 (⟨"java/lang/String", "charAt", "(I)C"⟩ : MethodName) jdk_42_method_56_code 2 (some .char) rm_con_charSU [] #[(.ref a), (.int i.toInt32)] h0 [] (fun v h => v = some (.int ch) ∧ h = h0) := by
  refine Con.intro (plainFor_of_name pn_java_lang_String) (hELs hw) ?_
  intro p e s m below meth c hh G
  refine castRun (g' := mkF m 0 #[.val (.ref a), .val (.int i.toInt32)] []) (by first | rfl | (simp [entryFrame, mkF, argsToLocals, Value.category, maxLocals]; done)) ?_
  obtain ⟨E, ⟨b, FV, FC, A⟩, hch, hln⟩ := id S
  refine GoKit.aloadN G d22_0 rfl rfl (pc' := 1) rfl ?_
  refine GoKit.callVirtualP G d22_1 (wi hw 97 rfl) (wi hw 98 rfl) (wi hw 100 rfl) (wi hw 99 rfl) (wi hw 7 rfl) (wi hw 101 rfl) (by decide) E (W := 0) (argsL := []) (rest := []) (con_isLatU l hw S HC) rfl (lenOf pd_13 rfl) rfl (by decide) (Nat.le_of_eq rfl) (by decide) (by decide) (by decide) (cells' := 0) (slots' := 0) rfl rfl (pc' := 4) rfl ?_
  show Run _ _ _ _ _ _ _ _ _ _ _ _ _ _ _ _ _ _ _ _ _ (mkF m 4 #[.val (.ref a), .val (.int i.toInt32)] [(.int 0)])
  refine GoKit.if_eq_t G d22_4 (by decide) (by decide) (pc' := 16) rfl ?_
  refine GoKit.aloadN G d22_16 rfl rfl (pc' := 17) rfl ?_
  refine GoKit.getf G d22_17 (wi hw 25 rfl) Via.refl FV (pc' := 20) rfl ?_
  refine GoKit.iloadN G d22_20 rfl (pc' := 21) rfl ?_
  refine GoKit.callStaticP G d22_21 (wi hw 102 rfl) (wi hw 103 rfl) (wi hw 61 rfl) (wi hw 104 rfl) (by decide) (W := 0) (argsL := [(.ref b), (.int i.toInt32)]) (rest := []) (con_uCharAt l hw A hch hln hi HF HU) rfl (lenOf pd_7 rfl) rfl (by decide) (Nat.le_of_eq rfl) (by decide) (by decide) (by decide) (cells' := 0) (slots' := 0) rfl rfl (pc' := 24) rfl ?_
  show Run _ _ _ _ _ _ _ _ _ _ _ _ _ _ _ _ _ _ _ _ _ (mkF m 24 #[.val (.ref a), .val (.int i.toInt32)] [(.int ch)])
  refine GoKit.retNar G d22_24 (t := .char) rfl (by simp) (by decide) (by decide) ?_
  exact ⟨by rw [nar16 (hch ch (List.mem_of_getElem? hi))], rfl⟩
theorem con_charS (l : Launch) {Z : State} {a0 : Array Value} (hw : ∀ d ∈ tables_1, d.before a0 Z = true) {n0 : Nat} {h0 : Heap} {a : Addr} {cs : List Int32} (S : Str Z h0 a cs) {i : Nat} {ch : Int32} (hi : cs[i]? = some ch) (HC : Cst Z) (HF : Frm Z) (HU : Ust Z) :
    Con l Z true false ELs n0 (⟨"java/lang/String", "charAt", "(I)C"⟩ : MethodName) jdk_42_method_56_code 2 (some .char) rm_con_charSL [] #[(.ref a), (.int i.toInt32)] h0 [] (fun v h => v = some (.int ch) ∧ h = h0) := by
  rcases S with S | S
  · exact con_charSL l hw S hi HC HF HU
  · exact con_charSU l hw S hi HC HF HU
def min32 (x z : Int32) : Int32 := if z < x then z else x
theorem d10_0 : decode jdk_29_method_69_code 0 = .ok (.iload_n 0, 1) := by decide +kernel
theorem d10_1 : decode jdk_29_method_69_code 1 = .ok (.iload_n 1, 1) := by decide +kernel
theorem d10_2 : decode jdk_29_method_69_code 2 = .ok (.if_icmp .gt 7, 3) := by decide +kernel
theorem d10_9 : decode jdk_29_method_69_code 9 = .ok (.iload_n 1, 1) := by decide +kernel
theorem d10_10 : decode jdk_29_method_69_code 10 = .ok (.ireturn, 1) := by decide +kernel
theorem d10_5 : decode jdk_29_method_69_code 5 = .ok (.iload_n 0, 1) := by decide +kernel
theorem d10_6 : decode jdk_29_method_69_code 6 = .ok (.goto 4, 3) := by decide +kernel
abbrev rm_con_min : Room := { frames := 0, cells := 0, slots := 0, locals := 0 }
set_option maxRecDepth 65536 in
set_option maxHeartbeats 40000000 in
theorem con_min (l : Launch) {Z : State} {a0 : Array Value} (hw : ∀ d ∈ tables_1, d.before a0 Z = true) {n0 : Nat} {h0 : Heap} (x z : Int32) :
    Con l Z true false ELs n0 (⟨"java/lang/Math", "min", "(II)I"⟩ : MethodName) jdk_29_method_69_code 2 (some .int) rm_con_min [] #[(.int x), (.int z)] h0 [] (fun v h => v = some (.int (min32 x z)) ∧ h = h0) := by
  refine Con.intro (Jvm.Free.JP.mathPlain rfl (by decide +kernel)) (hELs hw) ?_
  intro p e s m below meth c hh G
  refine castRun (g' := mkF m 0 #[.val (.int x), .val (.int z)] []) (by first | rfl | (simp [entryFrame, mkF, argsToLocals, Value.category, maxLocals]; done)) ?_
  refine GoKit.iloadN G d10_0 rfl (pc' := 1) rfl ?_
  refine GoKit.iloadN G d10_1 rfl (pc' := 2) rfl ?_
  refine GoKit.icmp_gt G d10_2 (by decide) (pt := 9) (pf := 5) rfl rfl (fun hb1 => ?_) (fun hb1 => ?_)
  · refine GoKit.iloadN G d10_9 rfl (pc' := 10) rfl ?_
    refine GoKit.retInt G d10_10 rfl (by decide) (by decide) ?_
    exact ⟨by simp [min32, hb1], rfl⟩
  · refine GoKit.iloadN G d10_5 rfl (pc' := 6) rfl ?_
    refine GoKit.goto G d10_6 (by decide) (pc' := 10) rfl ?_
    refine GoKit.retInt G d10_10 rfl (by decide) (by decide) ?_
    exact ⟨by simp [min32, hb1], rfl⟩
theorem i2c_rng {x v : Int32} (h : v = x.toUInt32.toUInt16.toUInt32.toInt32) : 0 ≤ v.toInt ∧ v.toInt < 65536 := by
  subst h
  have e : (x.toUInt32.toUInt16.toUInt32.toInt32).toInt = (((x.toBitVec.setWidth 16).setWidth 32).toInt) := rfl
  rw [e, BitVec.toInt_eq_toNat_of_lt (by simp; omega)]; simp; omega
theorem ite_f {P : Prop} [Decidable P] (h : (if P then (1 : Int32) else 0) = 0) : ¬ P := fun q => by rw [if_pos q] at h; exact absurd h (by decide)
theorem ite_t {P : Prop} [Decidable P] (h : ¬ (if P then (1 : Int32) else 0) = 0) : P := Classical.byContradiction fun q => h (if_neg q)
theorem cases3 {v : Int32} (h : 0 ≤ v.toInt ∧ v.toInt < 3) : v = 0 ∨ v = 1 ∨ v = 2 := by
  have h2 : v.toInt = 0 ∨ v.toInt = 1 ∨ v.toInt = 2 := by omega
  rcases h2 with h2 | h2 | h2
  · exact Or.inl (Int32.toInt_inj.mp h2)
  · exact Or.inr (Or.inl (Int32.toInt_inj.mp h2))
  · exact Or.inr (Or.inr (Int32.toInt_inj.mp h2))
def sur (c : Int32) : Prop := 55296 ≤ c.toInt ∧ c.toInt ≤ 57343
instance (c : Int32) : Decidable (sur c) := by unfold sur; exact inferInstance
def keyI (c : Int32) : Int32 := if sur c then c + 65536 else c
def cmpI (x y : Int32) : Int32 := if x < y then -1 else if y < x then 1 else 0
def sgnI (x : Int32) : Int32 := if x < 0 then -1 else if 0 < x then 1 else 0
def refF : List Int32 → List Int32 → Int32
  | [], [] => 0
  | [], _ :: _ => -1
  | _ :: _, [] => 1
  | x :: xs, y :: ys => if cmpI (keyI x) (keyI y) = 0 then refF xs ys else cmpI (keyI x) (keyI y)
theorem cmpI_lt {x y : Int32} (h : x.toInt < y.toInt) : cmpI x y = -1 := if_pos (Int32.lt_iff_toInt_lt.mpr h)
theorem cmpI_gt {x y : Int32} (h : y.toInt < x.toInt) : cmpI x y = 1 := by
  unfold cmpI; rw [if_neg (by rw [Int32.lt_iff_toInt_lt]; omega), if_pos (Int32.lt_iff_toInt_lt.mpr h)]
theorem cmpI_eq {x y : Int32} (h : x = y) : cmpI x y = 0 := by
  subst h; unfold cmpI; rw [if_neg Int32.lt_irrefl, if_neg Int32.lt_irrefl]
theorem cmpI_tri (x y : Int32) : (x.toInt < y.toInt ∧ cmpI x y = -1) ∨ (x = y ∧ cmpI x y = 0) ∨ (y.toInt < x.toInt ∧ cmpI x y = 1) := by
  rcases Int.lt_trichotomy x.toInt y.toInt with h | h | h
  · exact Or.inl ⟨h, cmpI_lt h⟩
  · exact Or.inr (Or.inl ⟨Int32.toInt_inj.mp h, cmpI_eq (Int32.toInt_inj.mp h)⟩)
  · exact Or.inr (Or.inr ⟨h, cmpI_gt h⟩)
theorem cmpI_anti (x y : Int32) : cmpI y x = - cmpI x y := by
  rcases cmpI_tri x y with ⟨h, e⟩ | ⟨h, e⟩ | ⟨h, e⟩
  · rw [e, cmpI_gt h]; decide
  · rw [e, cmpI_eq h.symm]; decide
  · rw [e, cmpI_lt h]
theorem cmpI_z {x y : Int32} : cmpI y x = 0 ↔ cmpI x y = 0 := by
  rw [cmpI_anti x y]
  rcases cmpI_tri x y with ⟨h, e⟩ | ⟨h, e⟩ | ⟨h, e⟩ <;> rw [e] <;> decide
theorem refF_anti : ∀ (cs ds : List Int32), refF ds cs = - refF cs ds
  | [], [] => by decide
  | [], _ :: _ => by simp only [refF]; decide
  | _ :: _, [] => by simp only [refF]
  | x :: xs, y :: ys => by
    simp only [refF]
    by_cases q : cmpI (keyI x) (keyI y) = 0
    · rw [if_pos q, if_pos (cmpI_z.mpr q)]; exact refF_anti xs ys
    · rw [if_neg q, if_neg (fun r => q (cmpI_z.mp r))]; exact cmpI_anti _ _
theorem sgn_cmp (x y : Int32) : sgnI (cmpI x y) = cmpI x y := by
  rcases cmpI_tri x y with ⟨h, e⟩ | ⟨h, e⟩ | ⟨h, e⟩ <;> rw [e] <;> decide
theorem ref_end {cs ds : List Int32} (h1 : cs.length < 2 ^ 31) (h2 : ds.length < 2 ^ 31) {n : Nat} (hn : n = min cs.length ds.length) : refF (cs.drop n) (ds.drop n) = cmpI cs.length.toInt32 ds.length.toInt32 := by
  rcases Nat.lt_trichotomy cs.length ds.length with h | h | h
  · rw [cmpI_lt (by rw [toI_toInt h1, toI_toInt h2]; omega), List.drop_eq_nil_of_le (by omega : cs.length ≤ n), List.drop_eq_getElem_cons (by omega : n < ds.length)]; rfl
  · rw [cmpI_eq (by rw [h]), List.drop_eq_nil_of_le (by omega : cs.length ≤ n), List.drop_eq_nil_of_le (by omega : ds.length ≤ n)]; rfl
  · rw [cmpI_gt (by rw [toI_toInt h1, toI_toInt h2]; omega), List.drop_eq_nil_of_le (by omega : ds.length ≤ n), List.drop_eq_getElem_cons (by omega : n < cs.length)]; rfl
theorem ref_step {cs ds : List Int32} {i : Nat} {x y : Int32} (h1 : cs[i]? = some x) (h2 : ds[i]? = some y) : refF (cs.drop i) (ds.drop i) = if cmpI (keyI x) (keyI y) = 0 then refF (cs.drop (i + 1)) (ds.drop (i + 1)) else cmpI (keyI x) (keyI y) := by
  obtain ⟨hi, rfl⟩ := List.getElem?_eq_some_iff.mp h1
  obtain ⟨hj, rfl⟩ := List.getElem?_eq_some_iff.mp h2
  rw [List.drop_eq_getElem_cons hi, List.drop_eq_getElem_cons hj, refF]
theorem key_sur {c : Int32} (h : sur c) : (keyI c).toInt = c.toInt + 65536 := by
  rw [keyI, if_pos h, Int32.toInt_add, show (65536 : Int32).toInt = 65536 from rfl]
  unfold sur at h
  exact Int.bmod_eq_of_le (by omega) (by omega)
theorem key_no {c : Int32} (h : ¬ sur c) : keyI c = c := if_neg h
theorem sub_toInt {x y : Int32} (hx : 0 ≤ x.toInt ∧ x.toInt < 65536) (hy : 0 ≤ y.toInt ∧ y.toInt < 65536) : (x - y).toInt = x.toInt - y.toInt := by
  rw [Int32.toInt_sub]; exact Int.bmod_eq_of_le (by omega) (by omega)
theorem sgn_key {x y : Int32} (hx : 0 ≤ x.toInt ∧ x.toInt < 65536) (hy : 0 ≤ y.toInt ∧ y.toInt < 65536) (hne : ¬ x = y) (hs : sur x ↔ sur y) : sgnI (x - y) = cmpI (keyI x) (keyI y) ∧ ¬ cmpI (keyI x) (keyI y) = 0 := by
  have hd : (keyI x).toInt - (keyI y).toInt = x.toInt - y.toInt := by
    by_cases q : sur x
    · rw [key_sur q, key_sur (hs.mp q)]; omega
    · rw [key_no q, key_no (fun r => q (hs.mpr r))]
  have hn : x.toInt ≠ y.toInt := fun q => hne (Int32.toInt_inj.mp q)
  have e := sub_toInt hx hy
  rcases Int.lt_or_lt_of_ne hn with h | h
  · rw [cmpI_lt (by omega), sgnI, if_pos (Int32.lt_iff_toInt_lt.mpr (by rw [e, show (0 : Int32).toInt = 0 from rfl]; omega))]; decide
  · rw [cmpI_gt (by omega), sgnI, if_neg (by rw [Int32.lt_iff_toInt_lt, e, show (0 : Int32).toInt = 0 from rfl]; omega), if_pos (Int32.lt_iff_toInt_lt.mpr (by rw [e, show (0 : Int32).toInt = 0 from rfl]; omega))]; decide
theorem key_mix {x y : Int32} (hx : sur x) (hy : ¬ sur y) (h : 0 ≤ y.toInt ∧ y.toInt < 65536) : cmpI (keyI x) (keyI y) = 1 := by
  refine cmpI_gt ?_
  rw [key_sur hx, key_no hy]
  unfold sur at hx; omega
theorem key_mix2 {x y : Int32} (hx : ¬ sur x) (hy : sur y) (h : 0 ≤ x.toInt ∧ x.toInt < 65536) : cmpI (keyI x) (keyI y) = -1 := by
  rw [cmpI_anti (keyI y) (keyI x), key_mix hy hx h]
theorem ite_iff' {P Q : Prop} [Decidable P] [Decidable Q] (h : (if P then (1 : Int32) else 0) = if Q then 1 else 0) : P ↔ Q := by
  by_cases p : P
  · rw [if_pos p] at h; exact ⟨fun _ => Classical.byContradiction fun q => by rw [if_neg q] at h; exact absurd h (by decide), fun _ => p⟩
  · rw [if_neg p] at h; exact ⟨fun r => absurd r p, fun q => by rw [if_pos q] at h; exact absurd h (by decide)⟩
theorem ite_ne1 {P Q : Prop} [Decidable P] [Decidable Q] (h : ¬ (if P then (1 : Int32) else 0) = if Q then 1 else 0) (hp : P) : ¬ Q := fun q => h (by rw [if_pos hp, if_pos q])
theorem ite_ne0 {P Q : Prop} [Decidable P] [Decidable Q] (h : ¬ (if P then (1 : Int32) else 0) = if Q then 1 else 0) (hp : ¬ P) : Q := Classical.byContradiction fun q => h (by rw [if_neg hp, if_neg q])
theorem min_nat {i j : Nat} (hi : i < 2 ^ 31) (hj : j < 2 ^ 31) : min32 i.toInt32 j.toInt32 = (min i j).toInt32 := by
  unfold min32
  by_cases q : j < i
  · rw [if_pos ((toI_lt hj hi).mpr q), Nat.min_eq_right (by omega)]
  · rw [if_neg (fun r => q ((toI_lt hj hi).mp r)), Nat.min_eq_left (by omega)]
theorem and255_rem {x v w : Int32} (h1 : v = x &&& 255) (h2 : w = v % 3) : 0 ≤ w.toInt ∧ w.toInt < 3 := by
  subst h1 h2; exact rem_rng _ _ (and_rng x 255 255 rfl (by decide)).1 (by decide)
theorem d1_0 : decode method_5_code 0 = .ok (.iload_n 2, 1) := by decide +kernel
theorem d1_1 : decode method_5_code 1 = .ok (.ifCond .ne 14, 3) := by decide +kernel
theorem d1_4 : decode method_5_code 4 = .ok (.new 10, 3) := by decide +kernel
theorem d1_7 : decode method_5_code 7 = .ok (.dup, 1) := by decide +kernel
theorem d1_8 : decode method_5_code 8 = .ok (.iconst 0, 1) := by decide +kernel
theorem d1_9 : decode method_5_code 9 = .ok (.newarray .char, 2) := by decide +kernel
theorem d1_11 : decode method_5_code 11 = .ok (.invokespecial 12, 3) := by decide +kernel
theorem pd_14 : parseMethodDescriptor "([C)V" = some ⟨[(.array .char)], none⟩ := by decide +kernel
theorem d1_14 : decode method_5_code 14 = .ok (.areturn, 1) := by decide +kernel
theorem pn_com_example_stoplist_stoplist_util_Utf8ComparePinLaw : plainName "com/example/stoplist/stoplist/util/Utf8ComparePinLaw" = true := by first | (simp [plainName, overriddenIn]; done) | decide +kernel
abbrev rm_con_make0 : Room := { frames := 3, cells := 6, slots := 12, locals := 43 }
set_option maxRecDepth 65536 in
set_option maxHeartbeats 40000000 in
theorem con_make0 (l : Launch) {Z : State} {a0 : Array Value} (hw : ∀ d ∈ tables_1, d.before a0 Z = true) {n0 : Nat} {h0 : Heap} {x0 : Int32} (H0 : 0 ≤ x0.toInt ∧ x0.toInt < 65536) {x1 : Int32} (H1 : 0 ≤ x1.toInt ∧ x1.toInt < 65536) (HC : Cst Z) (HU : Ust Z) :
    Con l Z true false ELs n0 (⟨"com/example/stoplist/stoplist/util/Utf8ComparePinLaw", "make", "(CCI)Ljava/lang/String;"⟩ : MethodName) method_5_code 3 (some (.object "java/lang/String")) rm_con_make0 [] #[(.int x0), (.int x1), (.int (0 : Int32))] h0 [] (fun v h => ∃ a, v = some (.ref a) ∧ Str Z h a []) := by
  refine Con.intro (plainFor_of_name pn_com_example_stoplist_stoplist_util_Utf8ComparePinLaw) (hELs hw) ?_
  intro p e s m below meth c hh G
  refine castRun (g' := mkF m 0 #[.val (.int x0), .val (.int x1), .val (.int (0 : Int32))] []) (by first | rfl | (simp [entryFrame, mkF, argsToLocals, Value.category, maxLocals]; done)) ?_
  refine GoKit.iloadN G d1_0 rfl (pc' := 1) rfl ?_
  refine GoKit.if_ne_f G d1_1 (by decide) (pc' := 4) rfl ?_
  refine GoKit.newobj G d1_4 (wi hw 5 rfl) (wi hw 6 rfl) (wi hw 7 rfl) (by decide) (by decide) (cells' := 1) (slots' := 4) rfl rfl (pc' := 7) rfl (fun h5 a1 ga1 E2 X3 D4 => ?_)
  have F6 : Fld Z h5 a1 "java/lang/String" "value" "[B" .null := D4 (Or.inr (wi hw 21 rfl)) (ty := (.array .byte)) (by decide)
  have F7 : Fld Z h5 a1 "java/lang/String" "coder" "B" (.int 0) := D4 (Or.inr (wi hw 22 rfl)) (ty := .byte) (by decide)
  refine GoKit.dup G d1_7 rfl (pc' := 8) rfl ?_
  refine GoKit.iconst G (0 : Int32) d1_8 rfl (pc' := 9) rfl ?_
  refine GoKit.newcI G d1_9 (wi hw 8 rfl) (by decide) (k := 0) (cap := 0) rfl (Nat.le_refl _) (by decide) (by decide) (by decide) (cells' := 2) (slots' := 4) rfl rfl (pc' := 11) rfl (fun h11 a8 ga8 E9 A10 => ?_)
  refine GoKit.callSpecial G d1_11 rfl (wi hw 9 rfl) (wi hw 10 rfl) (wi hw 7 rfl) (wi hw 11 rfl) (by decide) (owc := [a1]) (W := 1) (argsL := [(.ref a8)]) (rest := [(.ref a1)]) (con_strInitE l hw (X3.ext E9) (F6.ext E9) (F7.ext E9) A10) rfl (lenOf pd_14 rfl) rfl (by decide) (Nat.le_of_eq rfl) (by decide) (by decide) (by decide) (by intro x hx; simp only [List.mem_cons, List.not_mem_nil, or_false] at hx ⊢; simp [hx]) (cells' := 6) (slots' := 12) rfl rfl (pc' := 14) rfl (fun r12 h15 q13 K14 => ?_)
  obtain ⟨rfl, S16⟩ := q13
  show Run _ _ _ _ _ _ _ _ _ _ _ _ _ _ _ _ _ _ _ _ _ (mkF m 14 #[.val (.int x0), .val (.int x1), .val (.int (0 : Int32))] [(.ref a1)])
  refine GoKit.retRef G rfl d1_14 rfl rfl rfl (by decide) (by decide) ?_
  exact ⟨_, rfl, Or.inl (S16)⟩
theorem d1_15 : decode method_5_code 15 = .ok (.iload_n 2, 1) := by decide +kernel
theorem d1_16 : decode method_5_code 16 = .ok (.iconst 1, 1) := by decide +kernel
theorem d1_17 : decode method_5_code 17 = .ok (.if_icmp .ne 18, 3) := by decide +kernel
theorem d1_20 : decode method_5_code 20 = .ok (.new 10, 3) := by decide +kernel
theorem d1_23 : decode method_5_code 23 = .ok (.dup, 1) := by decide +kernel
theorem d1_24 : decode method_5_code 24 = .ok (.iconst 1, 1) := by decide +kernel
theorem d1_25 : decode method_5_code 25 = .ok (.newarray .char, 2) := by decide +kernel
theorem d1_27 : decode method_5_code 27 = .ok (.dup, 1) := by decide +kernel
theorem d1_28 : decode method_5_code 28 = .ok (.iconst 0, 1) := by decide +kernel
theorem d1_29 : decode method_5_code 29 = .ok (.iload_n 0, 1) := by decide +kernel
theorem d1_30 : decode method_5_code 30 = .ok (.castore, 1) := by decide +kernel
theorem d1_31 : decode method_5_code 31 = .ok (.invokespecial 12, 3) := by decide +kernel
theorem d1_34 : decode method_5_code 34 = .ok (.areturn, 1) := by decide +kernel
abbrev rm_con_make1 : Room := { frames := 6, cells := 4, slots := 11, locals := 88 }
set_option maxRecDepth 65536 in
set_option maxHeartbeats 40000000 in
theorem con_make1 (l : Launch) {Z : State} {a0 : Array Value} (hw : ∀ d ∈ tables_1, d.before a0 Z = true) {n0 : Nat} {h0 : Heap} {x0 : Int32} (H0 : 0 ≤ x0.toInt ∧ x0.toInt < 65536) {x1 : Int32} (H1 : 0 ≤ x1.toInt ∧ x1.toInt < 65536) (HC : Cst Z) (HU : Ust Z) :
    Con l Z true false ELs n0 (⟨"com/example/stoplist/stoplist/util/Utf8ComparePinLaw", "make", "(CCI)Ljava/lang/String;"⟩ : MethodName) method_5_code 3 (some (.object "java/lang/String")) rm_con_make1 [] #[(.int x0), (.int x1), (.int (1 : Int32))] h0 [] (fun v h => ∃ a, v = some (.ref a) ∧ Str Z h a [x0]) := by
  refine Con.intro (plainFor_of_name pn_com_example_stoplist_stoplist_util_Utf8ComparePinLaw) (hELs hw) ?_
  intro p e s m below meth c hh G
  refine castRun (g' := mkF m 0 #[.val (.int x0), .val (.int x1), .val (.int (1 : Int32))] []) (by first | rfl | (simp [entryFrame, mkF, argsToLocals, Value.category, maxLocals]; done)) ?_
  refine GoKit.iloadN G d1_0 rfl (pc' := 1) rfl ?_
  refine GoKit.if_ne_t G d1_1 (by decide) (by decide) (pc' := 15) rfl ?_
  refine GoKit.iloadN G d1_15 rfl (pc' := 16) rfl ?_
  refine GoKit.iconst G (1 : Int32) d1_16 rfl (pc' := 17) rfl ?_
  refine GoKit.icmp_ne_f G d1_17 (by decide) (pc' := 20) rfl ?_
  refine GoKit.newobj G d1_20 (wi hw 5 rfl) (wi hw 6 rfl) (wi hw 7 rfl) (by decide) (by decide) (cells' := 1) (slots' := 4) rfl rfl (pc' := 23) rfl (fun h5 a1 ga1 E2 X3 D4 => ?_)
  have F6 : Fld Z h5 a1 "java/lang/String" "value" "[B" .null := D4 (Or.inr (wi hw 21 rfl)) (ty := (.array .byte)) (by decide)
  have F7 : Fld Z h5 a1 "java/lang/String" "coder" "B" (.int 0) := D4 (Or.inr (wi hw 22 rfl)) (ty := .byte) (by decide)
  refine GoKit.dup G d1_23 rfl (pc' := 24) rfl ?_
  refine GoKit.iconst G (1 : Int32) d1_24 rfl (pc' := 25) rfl ?_
  refine GoKit.newcI G d1_25 (wi hw 8 rfl) (by decide) (k := 1) (cap := 1) rfl (Nat.le_refl _) (by decide) (by decide) (by decide) (cells' := 2) (slots' := 5) rfl rfl (pc' := 27) rfl (fun h11 a8 ga8 E9 A10 => ?_)
  refine GoKit.dup G d1_27 rfl (pc' := 28) rfl ?_
  refine GoKit.iconst G (0 : Int32) d1_28 rfl (pc' := 29) rfl ?_
  refine GoKit.iloadN G d1_29 rfl (pc' := 30) rfl ?_
  refine GoKit.castI G d1_30 A10 (i := 0) rfl (by decide) (Nat.le_of_ble_eq_true rfl) (nar16 H0) (List.Mem.head _) (pc' := 31) rfl (fun h14 W12 A13 => ?_)
  change IA Z h14 a8 .char [x0] at A13
  have ha15 : ∀ c ∈ ([x0] : List Int32), 0 ≤ c.toInt ∧ c.toInt < 65536 := by
    intro c hc
    simp only [List.mem_cons, List.not_mem_nil, or_false] at hc
    rcases hc with hc
    · rw [hc]; exact H0
  refine GoKit.callSpecial G d1_31 rfl (wi hw 9 rfl) (wi hw 10 rfl) (wi hw 7 rfl) (wi hw 11 rfl) (by decide) (owc := [a1]) (W := 1) (argsL := [(.ref a8)]) (rest := [(.ref a1)]) (con_strInitS l hw ((X3.ext E9).wr W12) ((F6.ext E9).other W12 (Or.inl (Nat.ne_of_lt (Nat.lt_of_lt_of_le (X3).lt (Nat.le_of_eq ga8.symm))))) ((F7.ext E9).other W12 (Or.inl (Nat.ne_of_lt (Nat.lt_of_lt_of_le (X3).lt (Nat.le_of_eq ga8.symm))))) A13 (Nat.le_of_ble_eq_true rfl) ha15 (by simp) HC HU) rfl (lenOf pd_14 rfl) rfl (by decide) (Nat.le_of_eq rfl) (by decide) (by decide) (by decide) (by intro x hx; simp only [List.mem_cons, List.not_mem_nil, or_false] at hx ⊢; simp [hx]) (cells' := 4) (slots' := 11) rfl rfl (pc' := 34) rfl (fun r16 h19 q17 K18 => ?_)
  obtain ⟨rfl, S20⟩ := q17
  show Run _ _ _ _ _ _ _ _ _ _ _ _ _ _ _ _ _ _ _ _ _ (mkF m 34 #[.val (.int x0), .val (.int x1), .val (.int (1 : Int32))] [(.ref a1)])
  refine GoKit.retRef G rfl d1_34 rfl rfl rfl (by decide) (by decide) ?_
  exact ⟨_, rfl, S20⟩
theorem d1_35 : decode method_5_code 35 = .ok (.new 10, 3) := by decide +kernel
theorem d1_38 : decode method_5_code 38 = .ok (.dup, 1) := by decide +kernel
theorem d1_39 : decode method_5_code 39 = .ok (.iconst 2, 1) := by decide +kernel
theorem d1_40 : decode method_5_code 40 = .ok (.newarray .char, 2) := by decide +kernel
theorem d1_42 : decode method_5_code 42 = .ok (.dup, 1) := by decide +kernel
theorem d1_43 : decode method_5_code 43 = .ok (.iconst 0, 1) := by decide +kernel
theorem d1_44 : decode method_5_code 44 = .ok (.iload_n 0, 1) := by decide +kernel
theorem d1_45 : decode method_5_code 45 = .ok (.castore, 1) := by decide +kernel
theorem d1_46 : decode method_5_code 46 = .ok (.dup, 1) := by decide +kernel
theorem d1_47 : decode method_5_code 47 = .ok (.iconst 1, 1) := by decide +kernel
theorem d1_48 : decode method_5_code 48 = .ok (.iload_n 1, 1) := by decide +kernel
theorem d1_49 : decode method_5_code 49 = .ok (.castore, 1) := by decide +kernel
theorem d1_50 : decode method_5_code 50 = .ok (.invokespecial 12, 3) := by decide +kernel
theorem d1_53 : decode method_5_code 53 = .ok (.areturn, 1) := by decide +kernel
abbrev rm_con_make2 : Room := { frames := 6, cells := 4, slots := 12, locals := 88 }
set_option maxRecDepth 65536 in
set_option maxHeartbeats 40000000 in
theorem con_make2 (l : Launch) {Z : State} {a0 : Array Value} (hw : ∀ d ∈ tables_1, d.before a0 Z = true) {n0 : Nat} {h0 : Heap} {x0 : Int32} (H0 : 0 ≤ x0.toInt ∧ x0.toInt < 65536) {x1 : Int32} (H1 : 0 ≤ x1.toInt ∧ x1.toInt < 65536) (HC : Cst Z) (HU : Ust Z) :
    Con l Z true false ELs n0 (⟨"com/example/stoplist/stoplist/util/Utf8ComparePinLaw", "make", "(CCI)Ljava/lang/String;"⟩ : MethodName) method_5_code 3 (some (.object "java/lang/String")) rm_con_make2 [] #[(.int x0), (.int x1), (.int (2 : Int32))] h0 [] (fun v h => ∃ a, v = some (.ref a) ∧ Str Z h a [x0, x1]) := by
  refine Con.intro (plainFor_of_name pn_com_example_stoplist_stoplist_util_Utf8ComparePinLaw) (hELs hw) ?_
  intro p e s m below meth c hh G
  refine castRun (g' := mkF m 0 #[.val (.int x0), .val (.int x1), .val (.int (2 : Int32))] []) (by first | rfl | (simp [entryFrame, mkF, argsToLocals, Value.category, maxLocals]; done)) ?_
  refine GoKit.iloadN G d1_0 rfl (pc' := 1) rfl ?_
  refine GoKit.if_ne_t G d1_1 (by decide) (by decide) (pc' := 15) rfl ?_
  refine GoKit.iloadN G d1_15 rfl (pc' := 16) rfl ?_
  refine GoKit.iconst G (1 : Int32) d1_16 rfl (pc' := 17) rfl ?_
  refine GoKit.icmp_ne_t G d1_17 (by decide) (by decide) (pc' := 35) rfl ?_
  refine GoKit.newobj G d1_35 (wi hw 5 rfl) (wi hw 6 rfl) (wi hw 7 rfl) (by decide) (by decide) (cells' := 1) (slots' := 4) rfl rfl (pc' := 38) rfl (fun h5 a1 ga1 E2 X3 D4 => ?_)
  have F6 : Fld Z h5 a1 "java/lang/String" "value" "[B" .null := D4 (Or.inr (wi hw 21 rfl)) (ty := (.array .byte)) (by decide)
  have F7 : Fld Z h5 a1 "java/lang/String" "coder" "B" (.int 0) := D4 (Or.inr (wi hw 22 rfl)) (ty := .byte) (by decide)
  refine GoKit.dup G d1_38 rfl (pc' := 39) rfl ?_
  refine GoKit.iconst G (2 : Int32) d1_39 rfl (pc' := 40) rfl ?_
  refine GoKit.newcI G d1_40 (wi hw 8 rfl) (by decide) (k := 2) (cap := 2) rfl (Nat.le_refl _) (by decide) (by decide) (by decide) (cells' := 2) (slots' := 6) rfl rfl (pc' := 42) rfl (fun h11 a8 ga8 E9 A10 => ?_)
  refine GoKit.dup G d1_42 rfl (pc' := 43) rfl ?_
  refine GoKit.iconst G (0 : Int32) d1_43 rfl (pc' := 44) rfl ?_
  refine GoKit.iloadN G d1_44 rfl (pc' := 45) rfl ?_
  refine GoKit.castI G d1_45 A10 (i := 0) rfl (by decide) (Nat.le_of_ble_eq_true rfl) (nar16 H0) (List.Mem.head _) (pc' := 46) rfl (fun h14 W12 A13 => ?_)
  change IA Z h14 a8 .char [x0, 0] at A13
  refine GoKit.dup G d1_46 rfl (pc' := 47) rfl ?_
  refine GoKit.iconst G (1 : Int32) d1_47 rfl (pc' := 48) rfl ?_
  refine GoKit.iloadN G d1_48 rfl (pc' := 49) rfl ?_
  refine GoKit.castI G d1_49 A13 (i := 1) rfl (by decide) (Nat.le_of_ble_eq_true rfl) (nar16 H1) (List.Mem.head _) (pc' := 50) rfl (fun h17 W15 A16 => ?_)
  change IA Z h17 a8 .char [x0, x1] at A16
  have ha18 : ∀ c ∈ ([x0, x1] : List Int32), 0 ≤ c.toInt ∧ c.toInt < 65536 := by
    intro c hc
    simp only [List.mem_cons, List.not_mem_nil, or_false] at hc
    rcases hc with hc | hc
    · rw [hc]; exact H0
    · rw [hc]; exact H1
  refine GoKit.callSpecial G d1_50 rfl (wi hw 9 rfl) (wi hw 10 rfl) (wi hw 7 rfl) (wi hw 11 rfl) (by decide) (owc := [a1]) (W := 1) (argsL := [(.ref a8)]) (rest := [(.ref a1)]) (con_strInitS l hw (((X3.ext E9).wr W12).wr W15) (((F6.ext E9).other W12 (Or.inl (Nat.ne_of_lt (Nat.lt_of_lt_of_le (X3).lt (Nat.le_of_eq ga8.symm))))).other W15 (Or.inl (Nat.ne_of_lt (Nat.lt_of_lt_of_le (X3).lt (Nat.le_of_eq ga8.symm))))) (((F7.ext E9).other W12 (Or.inl (Nat.ne_of_lt (Nat.lt_of_lt_of_le (X3).lt (Nat.le_of_eq ga8.symm))))).other W15 (Or.inl (Nat.ne_of_lt (Nat.lt_of_lt_of_le (X3).lt (Nat.le_of_eq ga8.symm))))) A16 (Nat.le_of_ble_eq_true rfl) ha18 (by simp) HC HU) rfl (lenOf pd_14 rfl) rfl (by decide) (Nat.le_of_eq rfl) (by decide) (by decide) (by decide) (by intro x hx; simp only [List.mem_cons, List.not_mem_nil, or_false] at hx ⊢; simp [hx]) (cells' := 4) (slots' := 12) rfl rfl (pc' := 53) rfl (fun r19 h22 q20 K21 => ?_)
  obtain ⟨rfl, S23⟩ := q20
  show Run _ _ _ _ _ _ _ _ _ _ _ _ _ _ _ _ _ _ _ _ _ (mkF m 53 #[.val (.int x0), .val (.int x1), .val (.int (2 : Int32))] [(.ref a1)])
  refine GoKit.retRef G rfl d1_53 rfl rfl rfl (by decide) (by decide) ?_
  exact ⟨_, rfl, S23⟩
theorem d21_0 : decode method_2_code 0 = .ok (.iload_n 0, 1) := by decide +kernel
theorem d21_1 : decode method_2_code 1 = .ok (.ldc 7, 2) := by decide +kernel
theorem d21_3 : decode method_2_code 3 = .ok (.if_icmp .lt 14, 3) := by decide +kernel
theorem d21_17 : decode method_2_code 17 = .ok (.iload_n 0, 1) := by decide +kernel
theorem d21_18 : decode method_2_code 18 = .ok (.ireturn, 1) := by decide +kernel
theorem d21_6 : decode method_2_code 6 = .ok (.iload_n 0, 1) := by decide +kernel
theorem d21_7 : decode method_2_code 7 = .ok (.ldc 8, 2) := by decide +kernel
theorem d21_9 : decode method_2_code 9 = .ok (.if_icmp .gt 8, 3) := by decide +kernel
theorem d21_12 : decode method_2_code 12 = .ok (.iload_n 0, 1) := by decide +kernel
theorem d21_13 : decode method_2_code 13 = .ok (.ldc 9, 2) := by decide +kernel
theorem d21_15 : decode method_2_code 15 = .ok (.iadd, 1) := by decide +kernel
theorem d21_16 : decode method_2_code 16 = .ok (.ireturn, 1) := by decide +kernel
abbrev rm_con_key : Room := { frames := 0, cells := 0, slots := 0, locals := 0 }
set_option maxRecDepth 65536 in
set_option maxHeartbeats 40000000 in
theorem con_key (l : Launch) {Z : State} {a0 : Array Value} (hw : ∀ d ∈ tables_1, d.before a0 Z = true) {n0 : Nat} {h0 : Heap} (x : Int32) :
    Con l Z true false ELs n0 (⟨"com/example/stoplist/stoplist/util/Utf8ComparePinLaw", "key", "(C)I"⟩ : MethodName) method_2_code 1 (some .int) rm_con_key [] #[(.int x)] h0 [] (fun v h => v = some (.int (keyI x)) ∧ h = h0) := by
  refine Con.intro (plainFor_of_name pn_com_example_stoplist_stoplist_util_Utf8ComparePinLaw) (hELs hw) ?_
  intro p e s m below meth c hh G
  refine castRun (g' := mkF m 0 #[.val (.int x)] []) (by first | rfl | (simp [entryFrame, mkF, argsToLocals, Value.category, maxLocals]; done)) ?_
  refine GoKit.iloadN G d21_0 rfl (pc' := 1) rfl ?_
  refine GoKit.ldcInt G d21_1 (wi hw 91 rfl) (pc' := 3) rfl ?_
  refine GoKit.icmp_lt G d21_3 (by decide) (pt := 17) (pf := 6) rfl rfl (fun hb1 => ?_) (fun hb1 => ?_)
  · refine GoKit.iloadN G d21_17 rfl (pc' := 18) rfl ?_
    refine GoKit.retInt G d21_18 rfl (by decide) (by decide) ?_
    exact ⟨by rw [keyI, if_neg (by unfold sur; simp only [gt_iff_lt, ge_iff_le, ne_eq, Int32.lt_iff_toInt_lt, Int32.le_iff_toInt_le, ← Int32.toInt_inj, show (55296 : Int32).toInt = 55296 from rfl, show (57343 : Int32).toInt = 57343 from rfl, show (57344 : Int32).toInt = 57344 from rfl] at hb1; omega)], rfl⟩
  · refine GoKit.iloadN G d21_6 rfl (pc' := 7) rfl ?_
    refine GoKit.ldcInt G d21_7 (wi hw 127 rfl) (pc' := 9) rfl ?_
    refine GoKit.icmp_gt G d21_9 (by decide) (pt := 17) (pf := 12) rfl rfl (fun hb2 => ?_) (fun hb2 => ?_)
    · refine GoKit.iloadN G d21_17 rfl (pc' := 18) rfl ?_
      refine GoKit.retInt G d21_18 rfl (by decide) (by decide) ?_
      exact ⟨by rw [keyI, if_neg (by unfold sur; simp only [gt_iff_lt, ge_iff_le, ne_eq, Int32.lt_iff_toInt_lt, Int32.le_iff_toInt_le, ← Int32.toInt_inj, show (55296 : Int32).toInt = 55296 from rfl, show (57343 : Int32).toInt = 57343 from rfl, show (57344 : Int32).toInt = 57344 from rfl] at hb1 hb2; omega)], rfl⟩
    · refine GoKit.iloadN G d21_12 rfl (pc' := 13) rfl ?_
      refine GoKit.ldcInt G d21_13 (wi hw 129 rfl) (pc' := 15) rfl ?_
      refine GoKit.iadd G d21_15 (pc' := 16) rfl (fun v3 hqv3 => ?_)
      refine GoKit.retInt G d21_16 rfl (by decide) (by decide) ?_
      exact ⟨by rw [keyI, if_pos (by unfold sur; simp only [gt_iff_lt, ge_iff_le, ne_eq, Int32.lt_iff_toInt_lt, Int32.le_iff_toInt_le, ← Int32.toInt_inj, show (55296 : Int32).toInt = 55296 from rfl, show (57343 : Int32).toInt = 57343 from rfl, show (57344 : Int32).toInt = 57344 from rfl] at hb1 hb2; omega), hqv3], rfl⟩
theorem d6_0 : decode method_3_code 0 = .ok (.iload_n 0, 1) := by decide +kernel
theorem d6_1 : decode method_3_code 1 = .ok (.iload_n 1, 1) := by decide +kernel
theorem d6_2 : decode method_3_code 2 = .ok (.if_icmp .ge 5, 3) := by decide +kernel
theorem d6_7 : decode method_3_code 7 = .ok (.iload_n 0, 1) := by decide +kernel
theorem d6_8 : decode method_3_code 8 = .ok (.iload_n 1, 1) := by decide +kernel
theorem d6_9 : decode method_3_code 9 = .ok (.if_icmp .le 5, 3) := by decide +kernel
theorem d6_14 : decode method_3_code 14 = .ok (.iconst 0, 1) := by decide +kernel
theorem d6_15 : decode method_3_code 15 = .ok (.ireturn, 1) := by decide +kernel
theorem d6_12 : decode method_3_code 12 = .ok (.iconst 1, 1) := by decide +kernel
theorem d6_13 : decode method_3_code 13 = .ok (.ireturn, 1) := by decide +kernel
theorem d6_5 : decode method_3_code 5 = .ok (.iconst (-1), 1) := by decide +kernel
theorem d6_6 : decode method_3_code 6 = .ok (.ireturn, 1) := by decide +kernel
abbrev rm_con_cmp : Room := { frames := 0, cells := 0, slots := 0, locals := 0 }
set_option maxRecDepth 65536 in
set_option maxHeartbeats 40000000 in
theorem con_cmp (l : Launch) {Z : State} {a0 : Array Value} (hw : ∀ d ∈ tables_1, d.before a0 Z = true) {n0 : Nat} {h0 : Heap} (x z : Int32) :
    Con l Z true false ELs n0 (⟨"com/example/stoplist/stoplist/util/Utf8ComparePinLaw", "cmp", "(II)I"⟩ : MethodName) method_3_code 2 (some .int) rm_con_cmp [] #[(.int x), (.int z)] h0 [] (fun v h => v = some (.int (cmpI x z)) ∧ h = h0) := by
  refine Con.intro (plainFor_of_name pn_com_example_stoplist_stoplist_util_Utf8ComparePinLaw) (hELs hw) ?_
  intro p e s m below meth c hh G
  refine castRun (g' := mkF m 0 #[.val (.int x), .val (.int z)] []) (by first | rfl | (simp [entryFrame, mkF, argsToLocals, Value.category, maxLocals]; done)) ?_
  refine GoKit.iloadN G d6_0 rfl (pc' := 1) rfl ?_
  refine GoKit.iloadN G d6_1 rfl (pc' := 2) rfl ?_
  refine GoKit.icmp_ge G d6_2 (by decide) (pt := 7) (pf := 5) rfl rfl (fun hb1 => ?_) (fun hb1 => ?_)
  · refine GoKit.iloadN G d6_7 rfl (pc' := 8) rfl ?_
    refine GoKit.iloadN G d6_8 rfl (pc' := 9) rfl ?_
    refine GoKit.icmp_le G d6_9 (by decide) (pt := 14) (pf := 12) rfl rfl (fun hb2 => ?_) (fun hb2 => ?_)
    · refine GoKit.iconst G (0 : Int32) d6_14 rfl (pc' := 15) rfl ?_
      refine GoKit.retInt G d6_15 rfl (by decide) (by decide) ?_
      exact ⟨by simp [cmpI, hb1, hb2], rfl⟩
    · refine GoKit.iconst G (1 : Int32) d6_12 rfl (pc' := 13) rfl ?_
      refine GoKit.retInt G d6_13 rfl (by decide) (by decide) ?_
      exact ⟨by simp [cmpI, hb1, hb2], rfl⟩
  · refine GoKit.iconst G (-1 : Int32) d6_5 rfl (pc' := 6) rfl ?_
    refine GoKit.retInt G d6_6 rfl (by decide) (by decide) ?_
    exact ⟨by simp [cmpI, hb1], rfl⟩
theorem d11_0 : decode jdk_33_method_40_code 0 = .ok (.iload_n 0, 1) := by decide +kernel
theorem d11_1 : decode jdk_33_method_40_code 1 = .ok (.iload_n 1, 1) := by decide +kernel
theorem d11_2 : decode jdk_33_method_40_code 2 = .ok (.if_icmp .ge 7, 3) := by decide +kernel
theorem d11_9 : decode jdk_33_method_40_code 9 = .ok (.iload_n 0, 1) := by decide +kernel
theorem d11_10 : decode jdk_33_method_40_code 10 = .ok (.iload_n 1, 1) := by decide +kernel
theorem d11_11 : decode jdk_33_method_40_code 11 = .ok (.if_icmp .ne 7, 3) := by decide +kernel
theorem d11_18 : decode jdk_33_method_40_code 18 = .ok (.iconst 1, 1) := by decide +kernel
theorem d11_19 : decode jdk_33_method_40_code 19 = .ok (.ireturn, 1) := by decide +kernel
theorem d11_14 : decode jdk_33_method_40_code 14 = .ok (.iconst 0, 1) := by decide +kernel
theorem d11_15 : decode jdk_33_method_40_code 15 = .ok (.goto 4, 3) := by decide +kernel
theorem d11_5 : decode jdk_33_method_40_code 5 = .ok (.iconst (-1), 1) := by decide +kernel
theorem d11_6 : decode jdk_33_method_40_code 6 = .ok (.goto 13, 3) := by decide +kernel
theorem pn_java_lang_Integer : plainName "java/lang/Integer" = true := by first | (simp [plainName, overriddenIn]; done) | decide +kernel
abbrev rm_con_icmp : Room := { frames := 0, cells := 0, slots := 0, locals := 0 }
set_option maxRecDepth 65536 in
set_option maxHeartbeats 40000000 in
theorem con_icmp (l : Launch) {Z : State} {a0 : Array Value} (hw : ∀ d ∈ tables_1, d.before a0 Z = true) {n0 : Nat} {h0 : Heap} (x z : Int32) :
    Con l Z true false ELs n0 (⟨"java/lang/Integer", "compare", "(II)I"⟩ : MethodName) jdk_33_method_40_code 2 (some .int) rm_con_icmp [] #[(.int x), (.int z)] h0 [] (fun v h => v = some (.int (cmpI x z)) ∧ h = h0) := by
  refine Con.intro (plainFor_of_name pn_java_lang_Integer) (hELs hw) ?_
  intro p e s m below meth c hh G
  refine castRun (g' := mkF m 0 #[.val (.int x), .val (.int z)] []) (by first | rfl | (simp [entryFrame, mkF, argsToLocals, Value.category, maxLocals]; done)) ?_
  refine GoKit.iloadN G d11_0 rfl (pc' := 1) rfl ?_
  refine GoKit.iloadN G d11_1 rfl (pc' := 2) rfl ?_
  refine GoKit.icmp_ge G d11_2 (by decide) (pt := 9) (pf := 5) rfl rfl (fun hb1 => ?_) (fun hb1 => ?_)
  · refine GoKit.iloadN G d11_9 rfl (pc' := 10) rfl ?_
    refine GoKit.iloadN G d11_10 rfl (pc' := 11) rfl ?_
    refine GoKit.icmp_ne G d11_11 (by decide) (pt := 18) (pf := 14) rfl rfl (fun hb2 => ?_) (fun hb2 => ?_)
    · refine GoKit.iconst G (1 : Int32) d11_18 rfl (pc' := 19) rfl ?_
      refine GoKit.retInt G d11_19 rfl (by decide) (by decide) ?_
      exact ⟨by rw [cmpI_gt (by simp only [gt_iff_lt, ge_iff_le, ne_eq, Int32.lt_iff_toInt_lt, Int32.le_iff_toInt_le, ← Int32.toInt_inj, show (0 : Int32).toInt = 0 from rfl] at hb1 hb2; omega)], rfl⟩
    · refine GoKit.iconst G (0 : Int32) d11_14 rfl (pc' := 15) rfl ?_
      refine GoKit.goto G d11_15 (by decide) (pc' := 19) rfl ?_
      refine GoKit.retInt G d11_19 rfl (by decide) (by decide) ?_
      exact ⟨by rw [cmpI_eq hb2], rfl⟩
  · refine GoKit.iconst G (-1 : Int32) d11_5 rfl (pc' := 6) rfl ?_
    refine GoKit.goto G d11_6 (by decide) (pc' := 19) rfl ?_
    refine GoKit.retInt G d11_19 rfl (by decide) (by decide) ?_
    exact ⟨by rw [cmpI, if_pos hb1], rfl⟩
theorem d12_0 : decode method_4_code 0 = .ok (.iload_n 0, 1) := by decide +kernel
theorem d12_1 : decode method_4_code 1 = .ok (.ifCond .ge 5, 3) := by decide +kernel
theorem d12_6 : decode method_4_code 6 = .ok (.iload_n 0, 1) := by decide +kernel
theorem d12_7 : decode method_4_code 7 = .ok (.ifCond .le 5, 3) := by decide +kernel
theorem d12_12 : decode method_4_code 12 = .ok (.iconst 0, 1) := by decide +kernel
theorem d12_13 : decode method_4_code 13 = .ok (.ireturn, 1) := by decide +kernel
theorem d12_10 : decode method_4_code 10 = .ok (.iconst 1, 1) := by decide +kernel
theorem d12_11 : decode method_4_code 11 = .ok (.ireturn, 1) := by decide +kernel
theorem d12_4 : decode method_4_code 4 = .ok (.iconst (-1), 1) := by decide +kernel
theorem d12_5 : decode method_4_code 5 = .ok (.ireturn, 1) := by decide +kernel
abbrev rm_con_sgn : Room := { frames := 0, cells := 0, slots := 0, locals := 0 }
set_option maxRecDepth 65536 in
set_option maxHeartbeats 40000000 in
theorem con_sgn (l : Launch) {Z : State} {a0 : Array Value} (hw : ∀ d ∈ tables_1, d.before a0 Z = true) {n0 : Nat} {h0 : Heap} (x : Int32) :
    Con l Z true false ELs n0 (⟨"com/example/stoplist/stoplist/util/Utf8ComparePinLaw", "sgn", "(I)I"⟩ : MethodName) method_4_code 1 (some .int) rm_con_sgn [] #[(.int x)] h0 [] (fun v h => v = some (.int (sgnI x)) ∧ h = h0) := by
  refine Con.intro (plainFor_of_name pn_com_example_stoplist_stoplist_util_Utf8ComparePinLaw) (hELs hw) ?_
  intro p e s m below meth c hh G
  refine castRun (g' := mkF m 0 #[.val (.int x)] []) (by first | rfl | (simp [entryFrame, mkF, argsToLocals, Value.category, maxLocals]; done)) ?_
  refine GoKit.iloadN G d12_0 rfl (pc' := 1) rfl ?_
  refine GoKit.if_ge G d12_1 (by decide) (pt := 6) (pf := 4) rfl rfl (fun hb1 => ?_) (fun hb1 => ?_)
  · refine GoKit.iloadN G d12_6 rfl (pc' := 7) rfl ?_
    refine GoKit.if_le G d12_7 (by decide) (pt := 12) (pf := 10) rfl rfl (fun hb2 => ?_) (fun hb2 => ?_)
    · refine GoKit.iconst G (0 : Int32) d12_12 rfl (pc' := 13) rfl ?_
      refine GoKit.retInt G d12_13 rfl (by decide) (by decide) ?_
      exact ⟨by simp [sgnI, hb1, hb2], rfl⟩
    · refine GoKit.iconst G (1 : Int32) d12_10 rfl (pc' := 11) rfl ?_
      refine GoKit.retInt G d12_11 rfl (by decide) (by decide) ?_
      exact ⟨by simp [sgnI, hb1, hb2], rfl⟩
  · refine GoKit.iconst G (-1 : Int32) d12_4 rfl (pc' := 5) rfl ?_
    refine GoKit.retInt G d12_5 rfl (by decide) (by decide) ?_
    exact ⟨by simp [sgnI, hb1], rfl⟩
theorem d29_0 : decode jdk_89_method_16_code 0 = .ok (.iload_n 0, 1) := by decide +kernel
theorem d29_1 : decode jdk_89_method_16_code 1 = .ok (.ldc 75, 2) := by decide +kernel
theorem d29_3 : decode jdk_89_method_16_code 3 = .ok (.if_icmp .lt 13, 3) := by decide +kernel
theorem d29_16 : decode jdk_89_method_16_code 16 = .ok (.iconst 0, 1) := by decide +kernel
theorem d29_17 : decode jdk_89_method_16_code 17 = .ok (.ireturn, 1) := by decide +kernel
theorem d29_6 : decode jdk_89_method_16_code 6 = .ok (.iload_n 0, 1) := by decide +kernel
theorem d29_7 : decode jdk_89_method_16_code 7 = .ok (.ldc 77, 2) := by decide +kernel
theorem d29_9 : decode jdk_89_method_16_code 9 = .ok (.if_icmp .ge 7, 3) := by decide +kernel
theorem d29_12 : decode jdk_89_method_16_code 12 = .ok (.iconst 1, 1) := by decide +kernel
theorem d29_13 : decode jdk_89_method_16_code 13 = .ok (.goto 4, 3) := by decide +kernel
theorem pn_java_lang_Character : plainName "java/lang/Character" = true := by first | (simp [plainName, overriddenIn]; done) | decide +kernel
abbrev rm_con_sur : Room := { frames := 0, cells := 0, slots := 0, locals := 0 }
set_option maxRecDepth 65536 in
set_option maxHeartbeats 40000000 in
theorem con_sur (l : Launch) {Z : State} {a0 : Array Value} (hw : ∀ d ∈ tables_1, d.before a0 Z = true) {n0 : Nat} {h0 : Heap} (x : Int32) :
    Con l Z true false ELs n0 (⟨"java/lang/Character", "isSurrogate", "(C)Z"⟩ : MethodName) jdk_89_method_16_code 1 (some .boolean) rm_con_sur [] #[(.int x)] h0 [] (fun v h => v = some (.int (if sur x then 1 else 0)) ∧ h = h0) := by
  refine Con.intro (plainFor_of_name pn_java_lang_Character) (hELs hw) ?_
  intro p e s m below meth c hh G
  refine castRun (g' := mkF m 0 #[.val (.int x)] []) (by first | rfl | (simp [entryFrame, mkF, argsToLocals, Value.category, maxLocals]; done)) ?_
  refine GoKit.iloadN G d29_0 rfl (pc' := 1) rfl ?_
  refine GoKit.ldcInt G d29_1 (wi hw 123 rfl) (pc' := 3) rfl ?_
  refine GoKit.icmp_lt G d29_3 (by decide) (pt := 16) (pf := 6) rfl rfl (fun hb1 => ?_) (fun hb1 => ?_)
  · refine GoKit.iconst G (0 : Int32) d29_16 rfl (pc' := 17) rfl ?_
    refine GoKit.retNar G d29_17 (t := .boolean) rfl (by simp) (by decide) (by decide) ?_
    exact ⟨by rw [if_neg (by unfold sur; simp only [gt_iff_lt, ge_iff_le, ne_eq, Int32.lt_iff_toInt_lt, Int32.le_iff_toInt_le, ← Int32.toInt_inj, show (55296 : Int32).toInt = 55296 from rfl, show (57343 : Int32).toInt = 57343 from rfl, show (57344 : Int32).toInt = 57344 from rfl] at hb1; omega)]; rfl, rfl⟩
  · refine GoKit.iloadN G d29_6 rfl (pc' := 7) rfl ?_
    refine GoKit.ldcInt G d29_7 (wi hw 128 rfl) (pc' := 9) rfl ?_
    refine GoKit.icmp_ge G d29_9 (by decide) (pt := 16) (pf := 12) rfl rfl (fun hb2 => ?_) (fun hb2 => ?_)
    · refine GoKit.iconst G (0 : Int32) d29_16 rfl (pc' := 17) rfl ?_
      refine GoKit.retNar G d29_17 (t := .boolean) rfl (by simp) (by decide) (by decide) ?_
      exact ⟨by rw [if_neg (by unfold sur; simp only [gt_iff_lt, ge_iff_le, ne_eq, Int32.lt_iff_toInt_lt, Int32.le_iff_toInt_le, ← Int32.toInt_inj, show (55296 : Int32).toInt = 55296 from rfl, show (57343 : Int32).toInt = 57343 from rfl, show (57344 : Int32).toInt = 57344 from rfl] at hb1 hb2; omega)]; rfl, rfl⟩
    · refine GoKit.iconst G (1 : Int32) d29_12 rfl (pc' := 13) rfl ?_
      refine GoKit.goto G d29_13 (by decide) (pc' := 17) rfl ?_
      refine GoKit.retNar G d29_17 (t := .boolean) rfl (by simp) (by decide) (by decide) ?_
      exact ⟨by rw [if_pos (by unfold sur; simp only [gt_iff_lt, ge_iff_le, ne_eq, Int32.lt_iff_toInt_lt, Int32.le_iff_toInt_le, ← Int32.toInt_inj, show (55296 : Int32).toInt = 55296 from rfl, show (57343 : Int32).toInt = 57343 from rfl, show (57344 : Int32).toInt = 57344 from rfl] at hb1 hb2; omega)]; rfl, rfl⟩
theorem d30_0 : decode jdk_89_method_98_code 0 = .ok (.iload_n 0, 1) := by decide +kernel
theorem d30_1 : decode jdk_89_method_98_code 1 = .ok (.iload_n 1, 1) := by decide +kernel
theorem d30_2 : decode jdk_89_method_98_code 2 = .ok (.isub, 1) := by decide +kernel
theorem d30_3 : decode jdk_89_method_98_code 3 = .ok (.ireturn, 1) := by decide +kernel
abbrev rm_con_ccmp : Room := { frames := 0, cells := 0, slots := 0, locals := 0 }
set_option maxRecDepth 65536 in
set_option maxHeartbeats 40000000 in
theorem con_ccmp (l : Launch) {Z : State} {a0 : Array Value} (hw : ∀ d ∈ tables_1, d.before a0 Z = true) {n0 : Nat} {h0 : Heap} (x z : Int32) :
    Con l Z true false ELs n0 (⟨"java/lang/Character", "compare", "(CC)I"⟩ : MethodName) jdk_89_method_98_code 2 (some .int) rm_con_ccmp [] #[(.int x), (.int z)] h0 [] (fun v h => v = some (.int (x - z)) ∧ h = h0) := by
  refine Con.intro (plainFor_of_name pn_java_lang_Character) (hELs hw) ?_
  intro p e s m below meth c hh G
  refine castRun (g' := mkF m 0 #[.val (.int x), .val (.int z)] []) (by first | rfl | (simp [entryFrame, mkF, argsToLocals, Value.category, maxLocals]; done)) ?_
  refine GoKit.iloadN G d30_0 rfl (pc' := 1) rfl ?_
  refine GoKit.iloadN G d30_1 rfl (pc' := 2) rfl ?_
  refine GoKit.isub G d30_2 (pc' := 3) rfl (fun v1 hqv1 => ?_)
  refine GoKit.retInt G d30_3 rfl (by decide) (by decide) ?_
  exact ⟨by rw [hqv1], rfl⟩
theorem d5_0 : decode method_6_code 0 = .ok (.iload_n 2, 1) := by decide +kernel
theorem d5_1 : decode method_6_code 1 = .ok (.ifCond .le 62, 3) := by decide +kernel
theorem d5_63 : decode method_6_code 63 = .ok (.iload_n 2, 1) := by decide +kernel
theorem d5_64 : decode method_6_code 64 = .ok (.iload 5, 2) := by decide +kernel
theorem d5_66 : decode method_6_code 66 = .ok (.invokestatic 21, 3) := by decide +kernel
theorem pd_15 : parseMethodDescriptor "(II)I" = some ⟨[.int, .int], some .int⟩ := by decide +kernel
theorem d5_69 : decode method_6_code 69 = .ok (.ireturn, 1) := by decide +kernel
abbrev rm_con_ref00 : Room := { frames := 1, cells := 0, slots := 0, locals := 13 }
set_option maxRecDepth 65536 in
set_option maxHeartbeats 40000000 in
theorem con_ref00 (l : Launch) {Z : State} {a0 : Array Value} (hw : ∀ d ∈ tables_1, d.before a0 Z = true) {n0 : Nat} {h0 : Heap} (x0 x1 y0 y1 : Int32) :
    Con l Z true false ELs n0 (⟨"com/example/stoplist/stoplist/util/Utf8ComparePinLaw", "ref", "(CCICCI)I"⟩ : MethodName) method_6_code 8 (some .int) rm_con_ref00 [] #[(.int x0), (.int x1), (.int (0 : Int32)), (.int y0), (.int y1), (.int (0 : Int32))] h0 [] (fun v h => v = some (.int (refF [] [])) ∧ h = h0) := by
  refine Con.intro (plainFor_of_name pn_com_example_stoplist_stoplist_util_Utf8ComparePinLaw) (hELs hw) ?_
  intro p e s m below meth c hh G
  refine castRun (g' := mkF m 0 #[.val (.int x0), .val (.int x1), .val (.int (0 : Int32)), .val (.int y0), .val (.int y1), .val (.int (0 : Int32)), .unset, .unset] []) (by first | rfl | (simp [entryFrame, mkF, argsToLocals, Value.category, maxLocals]; done)) ?_
  refine GoKit.iloadN G d5_0 rfl (pc' := 1) rfl ?_
  refine GoKit.if_le_t G d5_1 (by decide) (by decide) (pc' := 63) rfl ?_
  refine GoKit.iloadN G d5_63 rfl (pc' := 64) rfl ?_
  refine GoKit.iload G d5_64 rfl (pc' := 66) rfl ?_
  refine GoKit.callStaticP G d5_66 (wi hw 30 rfl) (wi hw 31 rfl) (wi hw 3 rfl) (wi hw 32 rfl) (by decide) (W := 0) (argsL := [(.int (0 : Int32)), (.int (0 : Int32))]) (rest := []) (con_cmp l hw (0 : Int32) (0 : Int32)) rfl (lenOf pd_15 rfl) rfl (by decide) (Nat.le_of_eq rfl) (by decide) (by decide) (by decide) (cells' := 0) (slots' := 0) rfl rfl (pc' := 69) rfl ?_
  show Run _ _ _ _ _ _ _ _ _ _ _ _ _ _ _ _ _ _ _ _ _ (mkF m 69 #[.val (.int x0), .val (.int x1), .val (.int (0 : Int32)), .val (.int y0), .val (.int y1), .val (.int (0 : Int32)), .unset, .unset] [(.int (cmpI (0 : Int32) (0 : Int32)))])
  refine GoKit.retInt G d5_69 rfl (by decide) (by decide) ?_
  exact ⟨by rw [show cmpI (0 : Int32) (0 : Int32) = 0 from by decide]; simp [refF], rfl⟩
abbrev rm_con_ref01 : Room := { frames := 1, cells := 0, slots := 0, locals := 13 }
set_option maxRecDepth 65536 in
set_option maxHeartbeats 40000000 in
theorem con_ref01 (l : Launch) {Z : State} {a0 : Array Value} (hw : ∀ d ∈ tables_1, d.before a0 Z = true) {n0 : Nat} {h0 : Heap} (x0 x1 y0 y1 : Int32) :
    Con l Z true false ELs n0 (⟨"com/example/stoplist/stoplist/util/Utf8ComparePinLaw", "ref", "(CCICCI)I"⟩ : MethodName) method_6_code 8 (some .int) rm_con_ref01 [] #[(.int x0), (.int x1), (.int (0 : Int32)), (.int y0), (.int y1), (.int (1 : Int32))] h0 [] (fun v h => v = some (.int (refF [] [y0])) ∧ h = h0) := by
  refine Con.intro (plainFor_of_name pn_com_example_stoplist_stoplist_util_Utf8ComparePinLaw) (hELs hw) ?_
  intro p e s m below meth c hh G
  refine castRun (g' := mkF m 0 #[.val (.int x0), .val (.int x1), .val (.int (0 : Int32)), .val (.int y0), .val (.int y1), .val (.int (1 : Int32)), .unset, .unset] []) (by first | rfl | (simp [entryFrame, mkF, argsToLocals, Value.category, maxLocals]; done)) ?_
  refine GoKit.iloadN G d5_0 rfl (pc' := 1) rfl ?_
  refine GoKit.if_le_t G d5_1 (by decide) (by decide) (pc' := 63) rfl ?_
  refine GoKit.iloadN G d5_63 rfl (pc' := 64) rfl ?_
  refine GoKit.iload G d5_64 rfl (pc' := 66) rfl ?_
  refine GoKit.callStaticP G d5_66 (wi hw 30 rfl) (wi hw 31 rfl) (wi hw 3 rfl) (wi hw 32 rfl) (by decide) (W := 0) (argsL := [(.int (0 : Int32)), (.int (1 : Int32))]) (rest := []) (con_cmp l hw (0 : Int32) (1 : Int32)) rfl (lenOf pd_15 rfl) rfl (by decide) (Nat.le_of_eq rfl) (by decide) (by decide) (by decide) (cells' := 0) (slots' := 0) rfl rfl (pc' := 69) rfl ?_
  show Run _ _ _ _ _ _ _ _ _ _ _ _ _ _ _ _ _ _ _ _ _ (mkF m 69 #[.val (.int x0), .val (.int x1), .val (.int (0 : Int32)), .val (.int y0), .val (.int y1), .val (.int (1 : Int32)), .unset, .unset] [(.int (cmpI (0 : Int32) (1 : Int32)))])
  refine GoKit.retInt G d5_69 rfl (by decide) (by decide) ?_
  exact ⟨by rw [show cmpI (0 : Int32) (1 : Int32) = -1 from by decide]; simp [refF], rfl⟩
abbrev rm_con_ref02 : Room := { frames := 1, cells := 0, slots := 0, locals := 13 }
set_option maxRecDepth 65536 in
set_option maxHeartbeats 40000000 in
theorem con_ref02 (l : Launch) {Z : State} {a0 : Array Value} (hw : ∀ d ∈ tables_1, d.before a0 Z = true) {n0 : Nat} {h0 : Heap} (x0 x1 y0 y1 : Int32) :
    Con l Z true false ELs n0 (⟨"com/example/stoplist/stoplist/util/Utf8ComparePinLaw", "ref", "(CCICCI)I"⟩ : MethodName) method_6_code 8 (some .int) rm_con_ref02 [] #[(.int x0), (.int x1), (.int (0 : Int32)), (.int y0), (.int y1), (.int (2 : Int32))] h0 [] (fun v h => v = some (.int (refF [] [y0, y1])) ∧ h = h0) := by
  refine Con.intro (plainFor_of_name pn_com_example_stoplist_stoplist_util_Utf8ComparePinLaw) (hELs hw) ?_
  intro p e s m below meth c hh G
  refine castRun (g' := mkF m 0 #[.val (.int x0), .val (.int x1), .val (.int (0 : Int32)), .val (.int y0), .val (.int y1), .val (.int (2 : Int32)), .unset, .unset] []) (by first | rfl | (simp [entryFrame, mkF, argsToLocals, Value.category, maxLocals]; done)) ?_
  refine GoKit.iloadN G d5_0 rfl (pc' := 1) rfl ?_
  refine GoKit.if_le_t G d5_1 (by decide) (by decide) (pc' := 63) rfl ?_
  refine GoKit.iloadN G d5_63 rfl (pc' := 64) rfl ?_
  refine GoKit.iload G d5_64 rfl (pc' := 66) rfl ?_
  refine GoKit.callStaticP G d5_66 (wi hw 30 rfl) (wi hw 31 rfl) (wi hw 3 rfl) (wi hw 32 rfl) (by decide) (W := 0) (argsL := [(.int (0 : Int32)), (.int (2 : Int32))]) (rest := []) (con_cmp l hw (0 : Int32) (2 : Int32)) rfl (lenOf pd_15 rfl) rfl (by decide) (Nat.le_of_eq rfl) (by decide) (by decide) (by decide) (cells' := 0) (slots' := 0) rfl rfl (pc' := 69) rfl ?_
  show Run _ _ _ _ _ _ _ _ _ _ _ _ _ _ _ _ _ _ _ _ _ (mkF m 69 #[.val (.int x0), .val (.int x1), .val (.int (0 : Int32)), .val (.int y0), .val (.int y1), .val (.int (2 : Int32)), .unset, .unset] [(.int (cmpI (0 : Int32) (2 : Int32)))])
  refine GoKit.retInt G d5_69 rfl (by decide) (by decide) ?_
  exact ⟨by rw [show cmpI (0 : Int32) (2 : Int32) = -1 from by decide]; simp [refF], rfl⟩
theorem d5_4 : decode method_6_code 4 = .ok (.iload 5, 2) := by decide +kernel
theorem d5_6 : decode method_6_code 6 = .ok (.ifCond .le 57, 3) := by decide +kernel
abbrev rm_con_ref10 : Room := { frames := 1, cells := 0, slots := 0, locals := 13 }
set_option maxRecDepth 65536 in
set_option maxHeartbeats 40000000 in
theorem con_ref10 (l : Launch) {Z : State} {a0 : Array Value} (hw : ∀ d ∈ tables_1, d.before a0 Z = true) {n0 : Nat} {h0 : Heap} (x0 x1 y0 y1 : Int32) :
    Con l Z true false ELs n0 (⟨"com/example/stoplist/stoplist/util/Utf8ComparePinLaw", "ref", "(CCICCI)I"⟩ : MethodName) method_6_code 8 (some .int) rm_con_ref10 [] #[(.int x0), (.int x1), (.int (1 : Int32)), (.int y0), (.int y1), (.int (0 : Int32))] h0 [] (fun v h => v = some (.int (refF [x0] [])) ∧ h = h0) := by
  refine Con.intro (plainFor_of_name pn_com_example_stoplist_stoplist_util_Utf8ComparePinLaw) (hELs hw) ?_
  intro p e s m below meth c hh G
  refine castRun (g' := mkF m 0 #[.val (.int x0), .val (.int x1), .val (.int (1 : Int32)), .val (.int y0), .val (.int y1), .val (.int (0 : Int32)), .unset, .unset] []) (by first | rfl | (simp [entryFrame, mkF, argsToLocals, Value.category, maxLocals]; done)) ?_
  refine GoKit.iloadN G d5_0 rfl (pc' := 1) rfl ?_
  refine GoKit.if_le_f G d5_1 (by decide) (pc' := 4) rfl ?_
  refine GoKit.iload G d5_4 rfl (pc' := 6) rfl ?_
  refine GoKit.if_le_t G d5_6 (by decide) (by decide) (pc' := 63) rfl ?_
  refine GoKit.iloadN G d5_63 rfl (pc' := 64) rfl ?_
  refine GoKit.iload G d5_64 rfl (pc' := 66) rfl ?_
  refine GoKit.callStaticP G d5_66 (wi hw 30 rfl) (wi hw 31 rfl) (wi hw 3 rfl) (wi hw 32 rfl) (by decide) (W := 0) (argsL := [(.int (1 : Int32)), (.int (0 : Int32))]) (rest := []) (con_cmp l hw (1 : Int32) (0 : Int32)) rfl (lenOf pd_15 rfl) rfl (by decide) (Nat.le_of_eq rfl) (by decide) (by decide) (by decide) (cells' := 0) (slots' := 0) rfl rfl (pc' := 69) rfl ?_
  show Run _ _ _ _ _ _ _ _ _ _ _ _ _ _ _ _ _ _ _ _ _ (mkF m 69 #[.val (.int x0), .val (.int x1), .val (.int (1 : Int32)), .val (.int y0), .val (.int y1), .val (.int (0 : Int32)), .unset, .unset] [(.int (cmpI (1 : Int32) (0 : Int32)))])
  refine GoKit.retInt G d5_69 rfl (by decide) (by decide) ?_
  exact ⟨by rw [show cmpI (1 : Int32) (0 : Int32) = 1 from by decide]; simp [refF], rfl⟩
theorem d5_9 : decode method_6_code 9 = .ok (.iload_n 0, 1) := by decide +kernel
theorem d5_10 : decode method_6_code 10 = .ok (.invokestatic 15, 3) := by decide +kernel
theorem pd_16 : parseMethodDescriptor "(C)I" = some ⟨[.char], some .int⟩ := by decide +kernel
theorem d5_13 : decode method_6_code 13 = .ok (.iload_n 3, 1) := by decide +kernel
theorem d5_14 : decode method_6_code 14 = .ok (.invokestatic 15, 3) := by decide +kernel
theorem d5_17 : decode method_6_code 17 = .ok (.invokestatic 21, 3) := by decide +kernel
theorem d5_20 : decode method_6_code 20 = .ok (.istore 6, 2) := by decide +kernel
theorem d5_22 : decode method_6_code 22 = .ok (.iload 6, 2) := by decide +kernel
theorem d5_24 : decode method_6_code 24 = .ok (.ifCond .eq 6, 3) := by decide +kernel
theorem d5_30 : decode method_6_code 30 = .ok (.iload_n 2, 1) := by decide +kernel
theorem d5_31 : decode method_6_code 31 = .ok (.iconst 1, 1) := by decide +kernel
theorem d5_32 : decode method_6_code 32 = .ok (.if_icmp .le 31, 3) := by decide +kernel
theorem d5_27 : decode method_6_code 27 = .ok (.iload 6, 2) := by decide +kernel
theorem d5_29 : decode method_6_code 29 = .ok (.ireturn, 1) := by decide +kernel
abbrev rm_con_ref11 : Room := { frames := 1, cells := 0, slots := 0, locals := 13 }
set_option maxRecDepth 65536 in
set_option maxHeartbeats 40000000 in
theorem con_ref11 (l : Launch) {Z : State} {a0 : Array Value} (hw : ∀ d ∈ tables_1, d.before a0 Z = true) {n0 : Nat} {h0 : Heap} (x0 x1 y0 y1 : Int32) :
    Con l Z true false ELs n0 (⟨"com/example/stoplist/stoplist/util/Utf8ComparePinLaw", "ref", "(CCICCI)I"⟩ : MethodName) method_6_code 8 (some .int) rm_con_ref11 [] #[(.int x0), (.int x1), (.int (1 : Int32)), (.int y0), (.int y1), (.int (1 : Int32))] h0 [] (fun v h => v = some (.int (refF [x0] [y0])) ∧ h = h0) := by
  refine Con.intro (plainFor_of_name pn_com_example_stoplist_stoplist_util_Utf8ComparePinLaw) (hELs hw) ?_
  intro p e s m below meth c hh G
  refine castRun (g' := mkF m 0 #[.val (.int x0), .val (.int x1), .val (.int (1 : Int32)), .val (.int y0), .val (.int y1), .val (.int (1 : Int32)), .unset, .unset] []) (by first | rfl | (simp [entryFrame, mkF, argsToLocals, Value.category, maxLocals]; done)) ?_
  refine GoKit.iloadN G d5_0 rfl (pc' := 1) rfl ?_
  refine GoKit.if_le_f G d5_1 (by decide) (pc' := 4) rfl ?_
  refine GoKit.iload G d5_4 rfl (pc' := 6) rfl ?_
  refine GoKit.if_le_f G d5_6 (by decide) (pc' := 9) rfl ?_
  refine GoKit.iloadN G d5_9 rfl (pc' := 10) rfl ?_
  refine GoKit.callStaticP G d5_10 (wi hw 88 rfl) (wi hw 89 rfl) (wi hw 3 rfl) (wi hw 90 rfl) (by decide) (W := 0) (argsL := [(.int x0)]) (rest := []) (con_key l hw x0) rfl (lenOf pd_16 rfl) rfl (by decide) (Nat.le_of_eq rfl) (by decide) (by decide) (by decide) (cells' := 0) (slots' := 0) rfl rfl (pc' := 13) rfl ?_
  show Run _ _ _ _ _ _ _ _ _ _ _ _ _ _ _ _ _ _ _ _ _ (mkF m 13 #[.val (.int x0), .val (.int x1), .val (.int (1 : Int32)), .val (.int y0), .val (.int y1), .val (.int (1 : Int32)), .unset, .unset] [(.int (keyI x0))])
  refine GoKit.iloadN G d5_13 rfl (pc' := 14) rfl ?_
  refine GoKit.callStaticP G d5_14 (wi hw 88 rfl) (wi hw 89 rfl) (wi hw 3 rfl) (wi hw 90 rfl) (by decide) (W := 1) (argsL := [(.int y0)]) (rest := [(.int (keyI x0))]) (con_key l hw y0) rfl (lenOf pd_16 rfl) rfl (by decide) (Nat.le_of_eq rfl) (by decide) (by decide) (by decide) (cells' := 0) (slots' := 0) rfl rfl (pc' := 17) rfl ?_
  show Run _ _ _ _ _ _ _ _ _ _ _ _ _ _ _ _ _ _ _ _ _ (mkF m 17 #[.val (.int x0), .val (.int x1), .val (.int (1 : Int32)), .val (.int y0), .val (.int y1), .val (.int (1 : Int32)), .unset, .unset] [(.int (keyI y0)), (.int (keyI x0))])
  refine GoKit.callStaticP G d5_17 (wi hw 30 rfl) (wi hw 31 rfl) (wi hw 3 rfl) (wi hw 32 rfl) (by decide) (W := 0) (argsL := [(.int (keyI x0)), (.int (keyI y0))]) (rest := []) (con_cmp l hw (keyI x0) (keyI y0)) rfl (lenOf pd_15 rfl) rfl (by decide) (Nat.le_of_eq rfl) (by decide) (by decide) (by decide) (cells' := 0) (slots' := 0) rfl rfl (pc' := 20) rfl ?_
  show Run _ _ _ _ _ _ _ _ _ _ _ _ _ _ _ _ _ _ _ _ _ (mkF m 20 #[.val (.int x0), .val (.int x1), .val (.int (1 : Int32)), .val (.int y0), .val (.int y1), .val (.int (1 : Int32)), .unset, .unset] [(.int (cmpI (keyI x0) (keyI y0)))])
  refine GoKit.istore G d5_20 (Ls' := #[.val (.int x0), .val (.int x1), .val (.int (1 : Int32)), .val (.int y0), .val (.int y1), .val (.int (1 : Int32)), .val (.int (cmpI (keyI x0) (keyI y0))), .unset]) rfl (pc' := 22) rfl ?_
  refine GoKit.iload G d5_22 rfl (pc' := 24) rfl ?_
  refine GoKit.if_eq G d5_24 (by decide) (pt := 30) (pf := 27) rfl rfl (fun hb1 => ?_) (fun hb1 => ?_)
  · refine GoKit.iloadN G d5_30 rfl (pc' := 31) rfl ?_
    refine GoKit.iconst G (1 : Int32) d5_31 rfl (pc' := 32) rfl ?_
    refine GoKit.icmp_le_t G d5_32 (by decide) (by decide) (pc' := 63) rfl ?_
    refine GoKit.iloadN G d5_63 rfl (pc' := 64) rfl ?_
    refine GoKit.iload G d5_64 rfl (pc' := 66) rfl ?_
    refine GoKit.callStaticP G d5_66 (wi hw 30 rfl) (wi hw 31 rfl) (wi hw 3 rfl) (wi hw 32 rfl) (by decide) (W := 0) (argsL := [(.int (1 : Int32)), (.int (1 : Int32))]) (rest := []) (con_cmp l hw (1 : Int32) (1 : Int32)) rfl (lenOf pd_15 rfl) rfl (by decide) (Nat.le_of_eq rfl) (by decide) (by decide) (by decide) (cells' := 0) (slots' := 0) rfl rfl (pc' := 69) rfl ?_
    show Run _ _ _ _ _ _ _ _ _ _ _ _ _ _ _ _ _ _ _ _ _ (mkF m 69 #[.val (.int x0), .val (.int x1), .val (.int (1 : Int32)), .val (.int y0), .val (.int y1), .val (.int (1 : Int32)), .val (.int (cmpI (keyI x0) (keyI y0))), .unset] [(.int (cmpI (1 : Int32) (1 : Int32)))])
    refine GoKit.retInt G d5_69 rfl (by decide) (by decide) ?_
    exact ⟨by rw [show cmpI (1 : Int32) (1 : Int32) = 0 from by decide]; simp [refF, hb1], rfl⟩
  · refine GoKit.iload G d5_27 rfl (pc' := 29) rfl ?_
    refine GoKit.retInt G d5_29 rfl (by decide) (by decide) ?_
    exact ⟨by simp [refF, hb1], rfl⟩
abbrev rm_con_ref12 : Room := { frames := 1, cells := 0, slots := 0, locals := 13 }
set_option maxRecDepth 65536 in
set_option maxHeartbeats 40000000 in
theorem con_ref12 (l : Launch) {Z : State} {a0 : Array Value} (hw : ∀ d ∈ tables_1, d.before a0 Z = true) {n0 : Nat} {h0 : Heap} (x0 x1 y0 y1 : Int32) :
    Con l Z true false ELs n0 (⟨"com/example/stoplist/stoplist/util/Utf8ComparePinLaw", "ref", "(CCICCI)I"⟩ : MethodName) method_6_code 8 (some .int) rm_con_ref12 [] #[(.int x0), (.int x1), (.int (1 : Int32)), (.int y0), (.int y1), (.int (2 : Int32))] h0 [] (fun v h => v = some (.int (refF [x0] [y0, y1])) ∧ h = h0) := by
  refine Con.intro (plainFor_of_name pn_com_example_stoplist_stoplist_util_Utf8ComparePinLaw) (hELs hw) ?_
  intro p e s m below meth c hh G
  refine castRun (g' := mkF m 0 #[.val (.int x0), .val (.int x1), .val (.int (1 : Int32)), .val (.int y0), .val (.int y1), .val (.int (2 : Int32)), .unset, .unset] []) (by first | rfl | (simp [entryFrame, mkF, argsToLocals, Value.category, maxLocals]; done)) ?_
  refine GoKit.iloadN G d5_0 rfl (pc' := 1) rfl ?_
  refine GoKit.if_le_f G d5_1 (by decide) (pc' := 4) rfl ?_
  refine GoKit.iload G d5_4 rfl (pc' := 6) rfl ?_
  refine GoKit.if_le_f G d5_6 (by decide) (pc' := 9) rfl ?_
  refine GoKit.iloadN G d5_9 rfl (pc' := 10) rfl ?_
  refine GoKit.callStaticP G d5_10 (wi hw 88 rfl) (wi hw 89 rfl) (wi hw 3 rfl) (wi hw 90 rfl) (by decide) (W := 0) (argsL := [(.int x0)]) (rest := []) (con_key l hw x0) rfl (lenOf pd_16 rfl) rfl (by decide) (Nat.le_of_eq rfl) (by decide) (by decide) (by decide) (cells' := 0) (slots' := 0) rfl rfl (pc' := 13) rfl ?_
  show Run _ _ _ _ _ _ _ _ _ _ _ _ _ _ _ _ _ _ _ _ _ (mkF m 13 #[.val (.int x0), .val (.int x1), .val (.int (1 : Int32)), .val (.int y0), .val (.int y1), .val (.int (2 : Int32)), .unset, .unset] [(.int (keyI x0))])
  refine GoKit.iloadN G d5_13 rfl (pc' := 14) rfl ?_
  refine GoKit.callStaticP G d5_14 (wi hw 88 rfl) (wi hw 89 rfl) (wi hw 3 rfl) (wi hw 90 rfl) (by decide) (W := 1) (argsL := [(.int y0)]) (rest := [(.int (keyI x0))]) (con_key l hw y0) rfl (lenOf pd_16 rfl) rfl (by decide) (Nat.le_of_eq rfl) (by decide) (by decide) (by decide) (cells' := 0) (slots' := 0) rfl rfl (pc' := 17) rfl ?_
  show Run _ _ _ _ _ _ _ _ _ _ _ _ _ _ _ _ _ _ _ _ _ (mkF m 17 #[.val (.int x0), .val (.int x1), .val (.int (1 : Int32)), .val (.int y0), .val (.int y1), .val (.int (2 : Int32)), .unset, .unset] [(.int (keyI y0)), (.int (keyI x0))])
  refine GoKit.callStaticP G d5_17 (wi hw 30 rfl) (wi hw 31 rfl) (wi hw 3 rfl) (wi hw 32 rfl) (by decide) (W := 0) (argsL := [(.int (keyI x0)), (.int (keyI y0))]) (rest := []) (con_cmp l hw (keyI x0) (keyI y0)) rfl (lenOf pd_15 rfl) rfl (by decide) (Nat.le_of_eq rfl) (by decide) (by decide) (by decide) (cells' := 0) (slots' := 0) rfl rfl (pc' := 20) rfl ?_
  show Run _ _ _ _ _ _ _ _ _ _ _ _ _ _ _ _ _ _ _ _ _ (mkF m 20 #[.val (.int x0), .val (.int x1), .val (.int (1 : Int32)), .val (.int y0), .val (.int y1), .val (.int (2 : Int32)), .unset, .unset] [(.int (cmpI (keyI x0) (keyI y0)))])
  refine GoKit.istore G d5_20 (Ls' := #[.val (.int x0), .val (.int x1), .val (.int (1 : Int32)), .val (.int y0), .val (.int y1), .val (.int (2 : Int32)), .val (.int (cmpI (keyI x0) (keyI y0))), .unset]) rfl (pc' := 22) rfl ?_
  refine GoKit.iload G d5_22 rfl (pc' := 24) rfl ?_
  refine GoKit.if_eq G d5_24 (by decide) (pt := 30) (pf := 27) rfl rfl (fun hb1 => ?_) (fun hb1 => ?_)
  · refine GoKit.iloadN G d5_30 rfl (pc' := 31) rfl ?_
    refine GoKit.iconst G (1 : Int32) d5_31 rfl (pc' := 32) rfl ?_
    refine GoKit.icmp_le_t G d5_32 (by decide) (by decide) (pc' := 63) rfl ?_
    refine GoKit.iloadN G d5_63 rfl (pc' := 64) rfl ?_
    refine GoKit.iload G d5_64 rfl (pc' := 66) rfl ?_
    refine GoKit.callStaticP G d5_66 (wi hw 30 rfl) (wi hw 31 rfl) (wi hw 3 rfl) (wi hw 32 rfl) (by decide) (W := 0) (argsL := [(.int (1 : Int32)), (.int (2 : Int32))]) (rest := []) (con_cmp l hw (1 : Int32) (2 : Int32)) rfl (lenOf pd_15 rfl) rfl (by decide) (Nat.le_of_eq rfl) (by decide) (by decide) (by decide) (cells' := 0) (slots' := 0) rfl rfl (pc' := 69) rfl ?_
    show Run _ _ _ _ _ _ _ _ _ _ _ _ _ _ _ _ _ _ _ _ _ (mkF m 69 #[.val (.int x0), .val (.int x1), .val (.int (1 : Int32)), .val (.int y0), .val (.int y1), .val (.int (2 : Int32)), .val (.int (cmpI (keyI x0) (keyI y0))), .unset] [(.int (cmpI (1 : Int32) (2 : Int32)))])
    refine GoKit.retInt G d5_69 rfl (by decide) (by decide) ?_
    exact ⟨by rw [show cmpI (1 : Int32) (2 : Int32) = -1 from by decide]; simp [refF, hb1], rfl⟩
  · refine GoKit.iload G d5_27 rfl (pc' := 29) rfl ?_
    refine GoKit.retInt G d5_29 rfl (by decide) (by decide) ?_
    exact ⟨by simp [refF, hb1], rfl⟩
abbrev rm_con_ref20 : Room := { frames := 1, cells := 0, slots := 0, locals := 13 }
set_option maxRecDepth 65536 in
set_option maxHeartbeats 40000000 in
theorem con_ref20 (l : Launch) {Z : State} {a0 : Array Value} (hw : ∀ d ∈ tables_1, d.before a0 Z = true) {n0 : Nat} {h0 : Heap} (x0 x1 y0 y1 : Int32) :
    Con l Z true false ELs n0 (⟨"com/example/stoplist/stoplist/util/Utf8ComparePinLaw", "ref", "(CCICCI)I"⟩ : MethodName) method_6_code 8 (some .int) rm_con_ref20 [] #[(.int x0), (.int x1), (.int (2 : Int32)), (.int y0), (.int y1), (.int (0 : Int32))] h0 [] (fun v h => v = some (.int (refF [x0, x1] [])) ∧ h = h0) := by
  refine Con.intro (plainFor_of_name pn_com_example_stoplist_stoplist_util_Utf8ComparePinLaw) (hELs hw) ?_
  intro p e s m below meth c hh G
  refine castRun (g' := mkF m 0 #[.val (.int x0), .val (.int x1), .val (.int (2 : Int32)), .val (.int y0), .val (.int y1), .val (.int (0 : Int32)), .unset, .unset] []) (by first | rfl | (simp [entryFrame, mkF, argsToLocals, Value.category, maxLocals]; done)) ?_
  refine GoKit.iloadN G d5_0 rfl (pc' := 1) rfl ?_
  refine GoKit.if_le_f G d5_1 (by decide) (pc' := 4) rfl ?_
  refine GoKit.iload G d5_4 rfl (pc' := 6) rfl ?_
  refine GoKit.if_le_t G d5_6 (by decide) (by decide) (pc' := 63) rfl ?_
  refine GoKit.iloadN G d5_63 rfl (pc' := 64) rfl ?_
  refine GoKit.iload G d5_64 rfl (pc' := 66) rfl ?_
  refine GoKit.callStaticP G d5_66 (wi hw 30 rfl) (wi hw 31 rfl) (wi hw 3 rfl) (wi hw 32 rfl) (by decide) (W := 0) (argsL := [(.int (2 : Int32)), (.int (0 : Int32))]) (rest := []) (con_cmp l hw (2 : Int32) (0 : Int32)) rfl (lenOf pd_15 rfl) rfl (by decide) (Nat.le_of_eq rfl) (by decide) (by decide) (by decide) (cells' := 0) (slots' := 0) rfl rfl (pc' := 69) rfl ?_
  show Run _ _ _ _ _ _ _ _ _ _ _ _ _ _ _ _ _ _ _ _ _ (mkF m 69 #[.val (.int x0), .val (.int x1), .val (.int (2 : Int32)), .val (.int y0), .val (.int y1), .val (.int (0 : Int32)), .unset, .unset] [(.int (cmpI (2 : Int32) (0 : Int32)))])
  refine GoKit.retInt G d5_69 rfl (by decide) (by decide) ?_
  exact ⟨by rw [show cmpI (2 : Int32) (0 : Int32) = 1 from by decide]; simp [refF], rfl⟩
theorem d5_35 : decode method_6_code 35 = .ok (.iload 5, 2) := by decide +kernel
theorem d5_37 : decode method_6_code 37 = .ok (.iconst 1, 1) := by decide +kernel
theorem d5_38 : decode method_6_code 38 = .ok (.if_icmp .le 25, 3) := by decide +kernel
abbrev rm_con_ref21 : Room := { frames := 1, cells := 0, slots := 0, locals := 13 }
set_option maxRecDepth 65536 in
set_option maxHeartbeats 40000000 in
theorem con_ref21 (l : Launch) {Z : State} {a0 : Array Value} (hw : ∀ d ∈ tables_1, d.before a0 Z = true) {n0 : Nat} {h0 : Heap} (x0 x1 y0 y1 : Int32) :
    Con l Z true false ELs n0 (⟨"com/example/stoplist/stoplist/util/Utf8ComparePinLaw", "ref", "(CCICCI)I"⟩ : MethodName) method_6_code 8 (some .int) rm_con_ref21 [] #[(.int x0), (.int x1), (.int (2 : Int32)), (.int y0), (.int y1), (.int (1 : Int32))] h0 [] (fun v h => v = some (.int (refF [x0, x1] [y0])) ∧ h = h0) := by
  refine Con.intro (plainFor_of_name pn_com_example_stoplist_stoplist_util_Utf8ComparePinLaw) (hELs hw) ?_
  intro p e s m below meth c hh G
  refine castRun (g' := mkF m 0 #[.val (.int x0), .val (.int x1), .val (.int (2 : Int32)), .val (.int y0), .val (.int y1), .val (.int (1 : Int32)), .unset, .unset] []) (by first | rfl | (simp [entryFrame, mkF, argsToLocals, Value.category, maxLocals]; done)) ?_
  refine GoKit.iloadN G d5_0 rfl (pc' := 1) rfl ?_
  refine GoKit.if_le_f G d5_1 (by decide) (pc' := 4) rfl ?_
  refine GoKit.iload G d5_4 rfl (pc' := 6) rfl ?_
  refine GoKit.if_le_f G d5_6 (by decide) (pc' := 9) rfl ?_
  refine GoKit.iloadN G d5_9 rfl (pc' := 10) rfl ?_
  refine GoKit.callStaticP G d5_10 (wi hw 88 rfl) (wi hw 89 rfl) (wi hw 3 rfl) (wi hw 90 rfl) (by decide) (W := 0) (argsL := [(.int x0)]) (rest := []) (con_key l hw x0) rfl (lenOf pd_16 rfl) rfl (by decide) (Nat.le_of_eq rfl) (by decide) (by decide) (by decide) (cells' := 0) (slots' := 0) rfl rfl (pc' := 13) rfl ?_
  show Run _ _ _ _ _ _ _ _ _ _ _ _ _ _ _ _ _ _ _ _ _ (mkF m 13 #[.val (.int x0), .val (.int x1), .val (.int (2 : Int32)), .val (.int y0), .val (.int y1), .val (.int (1 : Int32)), .unset, .unset] [(.int (keyI x0))])
  refine GoKit.iloadN G d5_13 rfl (pc' := 14) rfl ?_
  refine GoKit.callStaticP G d5_14 (wi hw 88 rfl) (wi hw 89 rfl) (wi hw 3 rfl) (wi hw 90 rfl) (by decide) (W := 1) (argsL := [(.int y0)]) (rest := [(.int (keyI x0))]) (con_key l hw y0) rfl (lenOf pd_16 rfl) rfl (by decide) (Nat.le_of_eq rfl) (by decide) (by decide) (by decide) (cells' := 0) (slots' := 0) rfl rfl (pc' := 17) rfl ?_
  show Run _ _ _ _ _ _ _ _ _ _ _ _ _ _ _ _ _ _ _ _ _ (mkF m 17 #[.val (.int x0), .val (.int x1), .val (.int (2 : Int32)), .val (.int y0), .val (.int y1), .val (.int (1 : Int32)), .unset, .unset] [(.int (keyI y0)), (.int (keyI x0))])
  refine GoKit.callStaticP G d5_17 (wi hw 30 rfl) (wi hw 31 rfl) (wi hw 3 rfl) (wi hw 32 rfl) (by decide) (W := 0) (argsL := [(.int (keyI x0)), (.int (keyI y0))]) (rest := []) (con_cmp l hw (keyI x0) (keyI y0)) rfl (lenOf pd_15 rfl) rfl (by decide) (Nat.le_of_eq rfl) (by decide) (by decide) (by decide) (cells' := 0) (slots' := 0) rfl rfl (pc' := 20) rfl ?_
  show Run _ _ _ _ _ _ _ _ _ _ _ _ _ _ _ _ _ _ _ _ _ (mkF m 20 #[.val (.int x0), .val (.int x1), .val (.int (2 : Int32)), .val (.int y0), .val (.int y1), .val (.int (1 : Int32)), .unset, .unset] [(.int (cmpI (keyI x0) (keyI y0)))])
  refine GoKit.istore G d5_20 (Ls' := #[.val (.int x0), .val (.int x1), .val (.int (2 : Int32)), .val (.int y0), .val (.int y1), .val (.int (1 : Int32)), .val (.int (cmpI (keyI x0) (keyI y0))), .unset]) rfl (pc' := 22) rfl ?_
  refine GoKit.iload G d5_22 rfl (pc' := 24) rfl ?_
  refine GoKit.if_eq G d5_24 (by decide) (pt := 30) (pf := 27) rfl rfl (fun hb1 => ?_) (fun hb1 => ?_)
  · refine GoKit.iloadN G d5_30 rfl (pc' := 31) rfl ?_
    refine GoKit.iconst G (1 : Int32) d5_31 rfl (pc' := 32) rfl ?_
    refine GoKit.icmp_le_f G d5_32 (by decide) (pc' := 35) rfl ?_
    refine GoKit.iload G d5_35 rfl (pc' := 37) rfl ?_
    refine GoKit.iconst G (1 : Int32) d5_37 rfl (pc' := 38) rfl ?_
    refine GoKit.icmp_le_t G d5_38 (by decide) (by decide) (pc' := 63) rfl ?_
    refine GoKit.iloadN G d5_63 rfl (pc' := 64) rfl ?_
    refine GoKit.iload G d5_64 rfl (pc' := 66) rfl ?_
    refine GoKit.callStaticP G d5_66 (wi hw 30 rfl) (wi hw 31 rfl) (wi hw 3 rfl) (wi hw 32 rfl) (by decide) (W := 0) (argsL := [(.int (2 : Int32)), (.int (1 : Int32))]) (rest := []) (con_cmp l hw (2 : Int32) (1 : Int32)) rfl (lenOf pd_15 rfl) rfl (by decide) (Nat.le_of_eq rfl) (by decide) (by decide) (by decide) (cells' := 0) (slots' := 0) rfl rfl (pc' := 69) rfl ?_
    show Run _ _ _ _ _ _ _ _ _ _ _ _ _ _ _ _ _ _ _ _ _ (mkF m 69 #[.val (.int x0), .val (.int x1), .val (.int (2 : Int32)), .val (.int y0), .val (.int y1), .val (.int (1 : Int32)), .val (.int (cmpI (keyI x0) (keyI y0))), .unset] [(.int (cmpI (2 : Int32) (1 : Int32)))])
    refine GoKit.retInt G d5_69 rfl (by decide) (by decide) ?_
    exact ⟨by rw [show cmpI (2 : Int32) (1 : Int32) = 1 from by decide]; simp [refF, hb1], rfl⟩
  · refine GoKit.iload G d5_27 rfl (pc' := 29) rfl ?_
    refine GoKit.retInt G d5_29 rfl (by decide) (by decide) ?_
    exact ⟨by simp [refF, hb1], rfl⟩
theorem d5_41 : decode method_6_code 41 = .ok (.iload_n 1, 1) := by decide +kernel
theorem d5_42 : decode method_6_code 42 = .ok (.invokestatic 15, 3) := by decide +kernel
theorem d5_45 : decode method_6_code 45 = .ok (.iload 4, 2) := by decide +kernel
theorem d5_47 : decode method_6_code 47 = .ok (.invokestatic 15, 3) := by decide +kernel
theorem d5_50 : decode method_6_code 50 = .ok (.invokestatic 21, 3) := by decide +kernel
theorem d5_53 : decode method_6_code 53 = .ok (.istore 7, 2) := by decide +kernel
theorem d5_55 : decode method_6_code 55 = .ok (.iload 7, 2) := by decide +kernel
theorem d5_57 : decode method_6_code 57 = .ok (.ifCond .eq 6, 3) := by decide +kernel
theorem d5_60 : decode method_6_code 60 = .ok (.iload 7, 2) := by decide +kernel
theorem d5_62 : decode method_6_code 62 = .ok (.ireturn, 1) := by decide +kernel
abbrev rm_con_ref22 : Room := { frames := 1, cells := 0, slots := 0, locals := 13 }
set_option maxRecDepth 65536 in
set_option maxHeartbeats 40000000 in
theorem con_ref22 (l : Launch) {Z : State} {a0 : Array Value} (hw : ∀ d ∈ tables_1, d.before a0 Z = true) {n0 : Nat} {h0 : Heap} (x0 x1 y0 y1 : Int32) :
    Con l Z true false ELs n0 (⟨"com/example/stoplist/stoplist/util/Utf8ComparePinLaw", "ref", "(CCICCI)I"⟩ : MethodName) method_6_code 8 (some .int) rm_con_ref22 [] #[(.int x0), (.int x1), (.int (2 : Int32)), (.int y0), (.int y1), (.int (2 : Int32))] h0 [] (fun v h => v = some (.int (refF [x0, x1] [y0, y1])) ∧ h = h0) := by
  refine Con.intro (plainFor_of_name pn_com_example_stoplist_stoplist_util_Utf8ComparePinLaw) (hELs hw) ?_
  intro p e s m below meth c hh G
  refine castRun (g' := mkF m 0 #[.val (.int x0), .val (.int x1), .val (.int (2 : Int32)), .val (.int y0), .val (.int y1), .val (.int (2 : Int32)), .unset, .unset] []) (by first | rfl | (simp [entryFrame, mkF, argsToLocals, Value.category, maxLocals]; done)) ?_
  refine GoKit.iloadN G d5_0 rfl (pc' := 1) rfl ?_
  refine GoKit.if_le_f G d5_1 (by decide) (pc' := 4) rfl ?_
  refine GoKit.iload G d5_4 rfl (pc' := 6) rfl ?_
  refine GoKit.if_le_f G d5_6 (by decide) (pc' := 9) rfl ?_
  refine GoKit.iloadN G d5_9 rfl (pc' := 10) rfl ?_
  refine GoKit.callStaticP G d5_10 (wi hw 88 rfl) (wi hw 89 rfl) (wi hw 3 rfl) (wi hw 90 rfl) (by decide) (W := 0) (argsL := [(.int x0)]) (rest := []) (con_key l hw x0) rfl (lenOf pd_16 rfl) rfl (by decide) (Nat.le_of_eq rfl) (by decide) (by decide) (by decide) (cells' := 0) (slots' := 0) rfl rfl (pc' := 13) rfl ?_
  show Run _ _ _ _ _ _ _ _ _ _ _ _ _ _ _ _ _ _ _ _ _ (mkF m 13 #[.val (.int x0), .val (.int x1), .val (.int (2 : Int32)), .val (.int y0), .val (.int y1), .val (.int (2 : Int32)), .unset, .unset] [(.int (keyI x0))])
  refine GoKit.iloadN G d5_13 rfl (pc' := 14) rfl ?_
  refine GoKit.callStaticP G d5_14 (wi hw 88 rfl) (wi hw 89 rfl) (wi hw 3 rfl) (wi hw 90 rfl) (by decide) (W := 1) (argsL := [(.int y0)]) (rest := [(.int (keyI x0))]) (con_key l hw y0) rfl (lenOf pd_16 rfl) rfl (by decide) (Nat.le_of_eq rfl) (by decide) (by decide) (by decide) (cells' := 0) (slots' := 0) rfl rfl (pc' := 17) rfl ?_
  show Run _ _ _ _ _ _ _ _ _ _ _ _ _ _ _ _ _ _ _ _ _ (mkF m 17 #[.val (.int x0), .val (.int x1), .val (.int (2 : Int32)), .val (.int y0), .val (.int y1), .val (.int (2 : Int32)), .unset, .unset] [(.int (keyI y0)), (.int (keyI x0))])
  refine GoKit.callStaticP G d5_17 (wi hw 30 rfl) (wi hw 31 rfl) (wi hw 3 rfl) (wi hw 32 rfl) (by decide) (W := 0) (argsL := [(.int (keyI x0)), (.int (keyI y0))]) (rest := []) (con_cmp l hw (keyI x0) (keyI y0)) rfl (lenOf pd_15 rfl) rfl (by decide) (Nat.le_of_eq rfl) (by decide) (by decide) (by decide) (cells' := 0) (slots' := 0) rfl rfl (pc' := 20) rfl ?_
  show Run _ _ _ _ _ _ _ _ _ _ _ _ _ _ _ _ _ _ _ _ _ (mkF m 20 #[.val (.int x0), .val (.int x1), .val (.int (2 : Int32)), .val (.int y0), .val (.int y1), .val (.int (2 : Int32)), .unset, .unset] [(.int (cmpI (keyI x0) (keyI y0)))])
  refine GoKit.istore G d5_20 (Ls' := #[.val (.int x0), .val (.int x1), .val (.int (2 : Int32)), .val (.int y0), .val (.int y1), .val (.int (2 : Int32)), .val (.int (cmpI (keyI x0) (keyI y0))), .unset]) rfl (pc' := 22) rfl ?_
  refine GoKit.iload G d5_22 rfl (pc' := 24) rfl ?_
  refine GoKit.if_eq G d5_24 (by decide) (pt := 30) (pf := 27) rfl rfl (fun hb1 => ?_) (fun hb1 => ?_)
  · refine GoKit.iloadN G d5_30 rfl (pc' := 31) rfl ?_
    refine GoKit.iconst G (1 : Int32) d5_31 rfl (pc' := 32) rfl ?_
    refine GoKit.icmp_le_f G d5_32 (by decide) (pc' := 35) rfl ?_
    refine GoKit.iload G d5_35 rfl (pc' := 37) rfl ?_
    refine GoKit.iconst G (1 : Int32) d5_37 rfl (pc' := 38) rfl ?_
    refine GoKit.icmp_le_f G d5_38 (by decide) (pc' := 41) rfl ?_
    refine GoKit.iloadN G d5_41 rfl (pc' := 42) rfl ?_
    refine GoKit.callStaticP G d5_42 (wi hw 88 rfl) (wi hw 89 rfl) (wi hw 3 rfl) (wi hw 90 rfl) (by decide) (W := 0) (argsL := [(.int x1)]) (rest := []) (con_key l hw x1) rfl (lenOf pd_16 rfl) rfl (by decide) (Nat.le_of_eq rfl) (by decide) (by decide) (by decide) (cells' := 0) (slots' := 0) rfl rfl (pc' := 45) rfl ?_
    show Run _ _ _ _ _ _ _ _ _ _ _ _ _ _ _ _ _ _ _ _ _ (mkF m 45 #[.val (.int x0), .val (.int x1), .val (.int (2 : Int32)), .val (.int y0), .val (.int y1), .val (.int (2 : Int32)), .val (.int (cmpI (keyI x0) (keyI y0))), .unset] [(.int (keyI x1))])
    refine GoKit.iload G d5_45 rfl (pc' := 47) rfl ?_
    refine GoKit.callStaticP G d5_47 (wi hw 88 rfl) (wi hw 89 rfl) (wi hw 3 rfl) (wi hw 90 rfl) (by decide) (W := 1) (argsL := [(.int y1)]) (rest := [(.int (keyI x1))]) (con_key l hw y1) rfl (lenOf pd_16 rfl) rfl (by decide) (Nat.le_of_eq rfl) (by decide) (by decide) (by decide) (cells' := 0) (slots' := 0) rfl rfl (pc' := 50) rfl ?_
    show Run _ _ _ _ _ _ _ _ _ _ _ _ _ _ _ _ _ _ _ _ _ (mkF m 50 #[.val (.int x0), .val (.int x1), .val (.int (2 : Int32)), .val (.int y0), .val (.int y1), .val (.int (2 : Int32)), .val (.int (cmpI (keyI x0) (keyI y0))), .unset] [(.int (keyI y1)), (.int (keyI x1))])
    refine GoKit.callStaticP G d5_50 (wi hw 30 rfl) (wi hw 31 rfl) (wi hw 3 rfl) (wi hw 32 rfl) (by decide) (W := 0) (argsL := [(.int (keyI x1)), (.int (keyI y1))]) (rest := []) (con_cmp l hw (keyI x1) (keyI y1)) rfl (lenOf pd_15 rfl) rfl (by decide) (Nat.le_of_eq rfl) (by decide) (by decide) (by decide) (cells' := 0) (slots' := 0) rfl rfl (pc' := 53) rfl ?_
    show Run _ _ _ _ _ _ _ _ _ _ _ _ _ _ _ _ _ _ _ _ _ (mkF m 53 #[.val (.int x0), .val (.int x1), .val (.int (2 : Int32)), .val (.int y0), .val (.int y1), .val (.int (2 : Int32)), .val (.int (cmpI (keyI x0) (keyI y0))), .unset] [(.int (cmpI (keyI x1) (keyI y1)))])
    refine GoKit.istore G d5_53 (Ls' := #[.val (.int x0), .val (.int x1), .val (.int (2 : Int32)), .val (.int y0), .val (.int y1), .val (.int (2 : Int32)), .val (.int (cmpI (keyI x0) (keyI y0))), .val (.int (cmpI (keyI x1) (keyI y1)))]) rfl (pc' := 55) rfl ?_
    refine GoKit.iload G d5_55 rfl (pc' := 57) rfl ?_
    refine GoKit.if_eq G d5_57 (by decide) (pt := 63) (pf := 60) rfl rfl (fun hb2 => ?_) (fun hb2 => ?_)
    · refine GoKit.iloadN G d5_63 rfl (pc' := 64) rfl ?_
      refine GoKit.iload G d5_64 rfl (pc' := 66) rfl ?_
      refine GoKit.callStaticP G d5_66 (wi hw 30 rfl) (wi hw 31 rfl) (wi hw 3 rfl) (wi hw 32 rfl) (by decide) (W := 0) (argsL := [(.int (2 : Int32)), (.int (2 : Int32))]) (rest := []) (con_cmp l hw (2 : Int32) (2 : Int32)) rfl (lenOf pd_15 rfl) rfl (by decide) (Nat.le_of_eq rfl) (by decide) (by decide) (by decide) (cells' := 0) (slots' := 0) rfl rfl (pc' := 69) rfl ?_
      show Run _ _ _ _ _ _ _ _ _ _ _ _ _ _ _ _ _ _ _ _ _ (mkF m 69 #[.val (.int x0), .val (.int x1), .val (.int (2 : Int32)), .val (.int y0), .val (.int y1), .val (.int (2 : Int32)), .val (.int (cmpI (keyI x0) (keyI y0))), .val (.int (cmpI (keyI x1) (keyI y1)))] [(.int (cmpI (2 : Int32) (2 : Int32)))])
      refine GoKit.retInt G d5_69 rfl (by decide) (by decide) ?_
      exact ⟨by rw [show cmpI (2 : Int32) (2 : Int32) = 0 from by decide]; simp [refF, hb1, hb2], rfl⟩
    · refine GoKit.iload G d5_60 rfl (pc' := 62) rfl ?_
      refine GoKit.retInt G d5_62 rfl (by decide) (by decide) ?_
      exact ⟨by simp [refF, hb1, hb2], rfl⟩
  · refine GoKit.iload G d5_27 rfl (pc' := 29) rfl ?_
    refine GoKit.retInt G d5_29 rfl (by decide) (by decide) ?_
    exact ⟨by simp [refF, hb1], rfl⟩
theorem d7_14 : decode prog_56_method_4_code 14 = .ok (.iload_n 3, 1) := by decide +kernel
theorem d7_15 : decode prog_56_method_4_code 15 = .ok (.iload_n 2, 1) := by decide +kernel
theorem d7_16 : decode prog_56_method_4_code 16 = .ok (.if_icmp .ge 22, 3) := by decide +kernel
theorem d7_38 : decode prog_56_method_4_code 38 = .ok (.iload_n 3, 1) := by decide +kernel
theorem d7_39 : decode prog_56_method_4_code 39 = .ok (.iload_n 2, 1) := by decide +kernel
theorem d7_40 : decode prog_56_method_4_code 40 = .ok (.if_icmp .ne 19, 3) := by decide +kernel
theorem d7_43 : decode prog_56_method_4_code 43 = .ok (.aload_n 0, 1) := by decide +kernel
theorem d7_44 : decode prog_56_method_4_code 44 = .ok (.invokevirtual 44, 3) := by decide +kernel
theorem pd_17 : parseMethodDescriptor "()I" = some ⟨[], some .int⟩ := by decide +kernel
theorem d7_47 : decode prog_56_method_4_code 47 = .ok (.aload_n 1, 1) := by decide +kernel
theorem d7_48 : decode prog_56_method_4_code 48 = .ok (.invokevirtual 44, 3) := by decide +kernel
theorem d7_51 : decode prog_56_method_4_code 51 = .ok (.invokestatic 60, 3) := by decide +kernel
theorem d7_54 : decode prog_56_method_4_code 54 = .ok (.istore 4, 2) := by decide +kernel
theorem d7_56 : decode prog_56_method_4_code 56 = .ok (.goto 58, 3) := by decide +kernel
theorem d7_114 : decode prog_56_method_4_code 114 = .ok (.iload 4, 2) := by decide +kernel
theorem d7_116 : decode prog_56_method_4_code 116 = .ok (.ireturn, 1) := by decide +kernel
theorem d7_19 : decode prog_56_method_4_code 19 = .ok (.aload_n 0, 1) := by decide +kernel
theorem d7_20 : decode prog_56_method_4_code 20 = .ok (.iload_n 3, 1) := by decide +kernel
theorem d7_21 : decode prog_56_method_4_code 21 = .ok (.invokevirtual 56, 3) := by decide +kernel
theorem pd_18 : parseMethodDescriptor "(I)C" = some ⟨[.int], some .char⟩ := by decide +kernel
theorem d7_24 : decode prog_56_method_4_code 24 = .ok (.aload_n 1, 1) := by decide +kernel
theorem d7_25 : decode prog_56_method_4_code 25 = .ok (.iload_n 3, 1) := by decide +kernel
theorem d7_26 : decode prog_56_method_4_code 26 = .ok (.invokevirtual 56, 3) := by decide +kernel
theorem d7_29 : decode prog_56_method_4_code 29 = .ok (.if_icmp .ne 9, 3) := by decide +kernel
theorem d7_59 : decode prog_56_method_4_code 59 = .ok (.aload_n 0, 1) := by decide +kernel
theorem d7_60 : decode prog_56_method_4_code 60 = .ok (.iload_n 3, 1) := by decide +kernel
theorem d7_61 : decode prog_56_method_4_code 61 = .ok (.invokevirtual 56, 3) := by decide +kernel
theorem d7_64 : decode prog_56_method_4_code 64 = .ok (.invokestatic 65, 3) := by decide +kernel
theorem pd_19 : parseMethodDescriptor "(C)Z" = some ⟨[.char], some .boolean⟩ := by decide +kernel
theorem d7_67 : decode prog_56_method_4_code 67 = .ok (.aload_n 1, 1) := by decide +kernel
theorem d7_68 : decode prog_56_method_4_code 68 = .ok (.iload_n 3, 1) := by decide +kernel
theorem d7_69 : decode prog_56_method_4_code 69 = .ok (.invokevirtual 56, 3) := by decide +kernel
theorem d7_72 : decode prog_56_method_4_code 72 = .ok (.invokestatic 65, 3) := by decide +kernel
theorem d7_75 : decode prog_56_method_4_code 75 = .ok (.if_icmp .ne 21, 3) := by decide +kernel
theorem d7_96 : decode prog_56_method_4_code 96 = .ok (.aload_n 0, 1) := by decide +kernel
theorem d7_97 : decode prog_56_method_4_code 97 = .ok (.iload_n 3, 1) := by decide +kernel
theorem d7_98 : decode prog_56_method_4_code 98 = .ok (.invokevirtual 56, 3) := by decide +kernel
theorem d7_101 : decode prog_56_method_4_code 101 = .ok (.invokestatic 65, 3) := by decide +kernel
theorem d7_104 : decode prog_56_method_4_code 104 = .ok (.ifCond .eq 7, 3) := by decide +kernel
theorem d7_111 : decode prog_56_method_4_code 111 = .ok (.iconst (-1), 1) := by decide +kernel
theorem d7_112 : decode prog_56_method_4_code 112 = .ok (.istore 4, 2) := by decide +kernel
theorem d7_107 : decode prog_56_method_4_code 107 = .ok (.iconst 1, 1) := by decide +kernel
theorem d7_108 : decode prog_56_method_4_code 108 = .ok (.goto 4, 3) := by decide +kernel
theorem d7_78 : decode prog_56_method_4_code 78 = .ok (.aload_n 0, 1) := by decide +kernel
theorem d7_79 : decode prog_56_method_4_code 79 = .ok (.iload_n 3, 1) := by decide +kernel
theorem d7_80 : decode prog_56_method_4_code 80 = .ok (.invokevirtual 56, 3) := by decide +kernel
theorem d7_83 : decode prog_56_method_4_code 83 = .ok (.aload_n 1, 1) := by decide +kernel
theorem d7_84 : decode prog_56_method_4_code 84 = .ok (.iload_n 3, 1) := by decide +kernel
theorem d7_85 : decode prog_56_method_4_code 85 = .ok (.invokevirtual 56, 3) := by decide +kernel
theorem d7_88 : decode prog_56_method_4_code 88 = .ok (.invokestatic 71, 3) := by decide +kernel
theorem pd_20 : parseMethodDescriptor "(CC)I" = some ⟨[.char, .char], some .int⟩ := by decide +kernel
theorem d7_91 : decode prog_56_method_4_code 91 = .ok (.istore 4, 2) := by decide +kernel
theorem d7_93 : decode prog_56_method_4_code 93 = .ok (.goto 21, 3) := by decide +kernel
theorem d7_32 : decode prog_56_method_4_code 32 = .ok (.iinc 3 1, 3) := by decide +kernel
theorem d7_35 : decode prog_56_method_4_code 35 = .ok (.goto (-21), 3) := by decide +kernel
theorem d7_0 : decode prog_56_method_4_code 0 = .ok (.aload_n 0, 1) := by decide +kernel
theorem d7_1 : decode prog_56_method_4_code 1 = .ok (.invokevirtual 44, 3) := by decide +kernel
theorem d7_4 : decode prog_56_method_4_code 4 = .ok (.aload_n 1, 1) := by decide +kernel
theorem d7_5 : decode prog_56_method_4_code 5 = .ok (.invokevirtual 44, 3) := by decide +kernel
theorem d7_8 : decode prog_56_method_4_code 8 = .ok (.invokestatic 50, 3) := by decide +kernel
theorem d7_11 : decode prog_56_method_4_code 11 = .ok (.istore_n 2, 1) := by decide +kernel
theorem d7_12 : decode prog_56_method_4_code 12 = .ok (.iconst 0, 1) := by decide +kernel
theorem d7_13 : decode prog_56_method_4_code 13 = .ok (.istore_n 3, 1) := by decide +kernel
theorem pn_com_example_stoplist_stoplist_util_Utf8 : plainName "com/example/stoplist/stoplist/util/Utf8" = true := by first | (simp [plainName, overriddenIn]; done) | decide +kernel
abbrev rm_con_compare : Room := { frames := 5, cells := 0, slots := 0, locals := 67 }
set_option maxRecDepth 65536 in
set_option maxHeartbeats 40000000 in
theorem con_compare (l : Launch) {Z : State} {a0 : Array Value} (hw : ∀ d ∈ tables_1, d.before a0 Z = true) {n0 : Nat} {h0 : Heap} {a b : Addr} {cs ds : List Int32} (S : Str Z h0 a cs) (S2 : Str Z h0 b ds) (HC : Cst Z) (HF : Frm Z) (HU : Ust Z) :
    Con l Z true false ELs n0 (⟨"com/example/stoplist/stoplist/util/Utf8", "compare", "(Ljava/lang/String;Ljava/lang/String;)I"⟩ : MethodName) prog_56_method_4_code 5 (some .int) rm_con_compare [] #[(.ref a), (.ref b)] h0 [] (fun v h => ∃ r : Int32, v = some (.int r) ∧ sgnI r = refF cs ds) := by
  refine Con.intro (plainFor_of_name pn_com_example_stoplist_stoplist_util_Utf8) (hELs hw) ?_
  intro p e s m below meth c hh G
  refine castRun (g' := mkF m 0 #[.val (.ref a), .val (.ref b), .unset, .unset, .unset] []) (by first | rfl | (simp [entryFrame, mkF, argsToLocals, Value.category, maxLocals]; done)) ?_
  have h1 := str_len S
  have h2 := str_len S2
  obtain ⟨n, hn⟩ : ∃ n, n = min cs.length ds.length := ⟨_, rfl⟩
  have loop : ∀ (k i : Nat), i + k = n → refF (cs.drop i) (ds.drop i) = refF cs ds →
      Run p l e rm_con_compare s m #[.ref a, .ref b] below meth c Z true false ELs n0 [] (fun v h => ∃ r : Int32, v = some (.int r) ∧ sgnI r = refF cs ds) h0 [] 0 0 (mkF m 14 #[.val (.ref a), .val (.ref b), .val (.int n.toInt32), .val (.int i.toInt32), .unset] []) := by
    intro k; induction k with
    | zero =>
      intro i hik hF
      have hi : n = i := by omega
      subst hi
      refine GoKit.iloadN G d7_14 rfl (pc' := 15) rfl ?_
      refine GoKit.iloadN G d7_15 rfl (pc' := 16) rfl ?_
      refine GoKit.icmp_ge_t G d7_16 Int32.lt_irrefl (by decide) (pc' := 38) rfl ?_
      refine GoKit.iloadN G d7_38 rfl (pc' := 39) rfl ?_
      refine GoKit.iloadN G d7_39 rfl (pc' := 40) rfl ?_
      refine GoKit.icmp_ne_f G d7_40 rfl (pc' := 43) rfl ?_
      refine GoKit.aloadN G d7_43 rfl rfl (pc' := 44) rfl ?_
      refine GoKit.callVirtualP G d7_44 (wi hw 37 rfl) (wi hw 38 rfl) (wi hw 40 rfl) (wi hw 39 rfl) (wi hw 7 rfl) (wi hw 41 rfl) (by decide) (str_exa S) (W := 0) (argsL := []) (rest := []) (con_lenS l hw S HC) rfl (lenOf pd_17 rfl) rfl (by decide) (Nat.le_of_eq rfl) (by decide) (by decide) (by decide) (cells' := 0) (slots' := 0) rfl rfl (pc' := 47) rfl ?_
      show Run _ _ _ _ _ _ _ _ _ _ _ _ _ _ _ _ _ _ _ _ _ (mkF m 47 #[.val (.ref a), .val (.ref b), .val (.int n.toInt32), .val (.int n.toInt32), .unset] [(.int cs.length.toInt32)])
      refine GoKit.aloadN G d7_47 rfl rfl (pc' := 48) rfl ?_
      refine GoKit.callVirtualP G d7_48 (wi hw 37 rfl) (wi hw 38 rfl) (wi hw 40 rfl) (wi hw 39 rfl) (wi hw 7 rfl) (wi hw 41 rfl) (by decide) (str_exa S2) (W := 1) (argsL := []) (rest := [(.int cs.length.toInt32)]) (con_lenS l hw S2 HC) rfl (lenOf pd_17 rfl) rfl (by decide) (Nat.le_of_eq rfl) (by decide) (by decide) (by decide) (cells' := 0) (slots' := 0) rfl rfl (pc' := 51) rfl ?_
      show Run _ _ _ _ _ _ _ _ _ _ _ _ _ _ _ _ _ _ _ _ _ (mkF m 51 #[.val (.ref a), .val (.ref b), .val (.int n.toInt32), .val (.int n.toInt32), .unset] [(.int ds.length.toInt32), (.int cs.length.toInt32)])
      refine GoKit.callStaticP G d7_51 (wi hw 52 rfl) (wi hw 53 rfl) (wi hw 54 rfl) (wi hw 55 rfl) (by decide) (W := 0) (argsL := [(.int cs.length.toInt32), (.int ds.length.toInt32)]) (rest := []) (con_icmp l hw cs.length.toInt32 ds.length.toInt32) rfl (lenOf pd_15 rfl) rfl (by decide) (Nat.le_of_eq rfl) (by decide) (by decide) (by decide) (cells' := 0) (slots' := 0) rfl rfl (pc' := 54) rfl ?_
      show Run _ _ _ _ _ _ _ _ _ _ _ _ _ _ _ _ _ _ _ _ _ (mkF m 54 #[.val (.ref a), .val (.ref b), .val (.int n.toInt32), .val (.int n.toInt32), .unset] [(.int (cmpI cs.length.toInt32 ds.length.toInt32))])
      refine GoKit.istore G d7_54 (Ls' := #[.val (.ref a), .val (.ref b), .val (.int n.toInt32), .val (.int n.toInt32), .val (.int (cmpI cs.length.toInt32 ds.length.toInt32))]) rfl (pc' := 56) rfl ?_
      refine GoKit.goto G d7_56 (by decide) (pc' := 114) rfl ?_
      refine GoKit.iload G d7_114 rfl (pc' := 116) rfl ?_
      refine GoKit.retInt G d7_116 rfl (by decide) (by decide) ?_
      exact ⟨_, rfl, by rw [sgn_cmp, ← hF, ref_end h1 h2 hn]⟩
    | succ k ih =>
      intro i hik hF
      have hi : i < n := by omega
      obtain ⟨x, hx⟩ : ∃ x, cs[i]? = some x := ⟨cs[i]'(by omega), List.getElem?_eq_getElem (by omega)⟩
      obtain ⟨y, hy⟩ : ∃ y, ds[i]? = some y := ⟨ds[i]'(by omega), List.getElem?_eq_getElem (by omega)⟩
      have hcx := str_ch S x (List.mem_of_getElem? hx)
      have hcy := str_ch S2 y (List.mem_of_getElem? hy)
      refine GoKit.iloadN G d7_14 rfl (pc' := 15) rfl ?_
      refine GoKit.iloadN G d7_15 rfl (pc' := 16) rfl ?_
      refine GoKit.icmp_ge_f G d7_16 ((toI_lt (by omega) (by omega)).mpr hi) (pc' := 19) rfl ?_
      refine GoKit.aloadN G d7_19 rfl rfl (pc' := 20) rfl ?_
      refine GoKit.iloadN G d7_20 rfl (pc' := 21) rfl ?_
      refine GoKit.callVirtualP G d7_21 (wi hw 92 rfl) (wi hw 93 rfl) (wi hw 95 rfl) (wi hw 94 rfl) (wi hw 7 rfl) (wi hw 96 rfl) (by decide) (str_exa S) (W := 0) (argsL := [(.int i.toInt32)]) (rest := []) (con_charS l hw (i := i) S hx HC HF HU) rfl (lenOf pd_18 rfl) rfl (by decide) (Nat.le_of_eq rfl) (by decide) (by decide) (by decide) (cells' := 0) (slots' := 0) rfl rfl (pc' := 24) rfl ?_
      show Run _ _ _ _ _ _ _ _ _ _ _ _ _ _ _ _ _ _ _ _ _ (mkF m 24 #[.val (.ref a), .val (.ref b), .val (.int n.toInt32), .val (.int i.toInt32), .unset] [(.int x)])
      refine GoKit.aloadN G d7_24 rfl rfl (pc' := 25) rfl ?_
      refine GoKit.iloadN G d7_25 rfl (pc' := 26) rfl ?_
      refine GoKit.callVirtualP G d7_26 (wi hw 92 rfl) (wi hw 93 rfl) (wi hw 95 rfl) (wi hw 94 rfl) (wi hw 7 rfl) (wi hw 96 rfl) (by decide) (str_exa S2) (W := 1) (argsL := [(.int i.toInt32)]) (rest := [(.int x)]) (con_charS l hw (i := i) S2 hy HC HF HU) rfl (lenOf pd_18 rfl) rfl (by decide) (Nat.le_of_eq rfl) (by decide) (by decide) (by decide) (cells' := 0) (slots' := 0) rfl rfl (pc' := 29) rfl ?_
      show Run _ _ _ _ _ _ _ _ _ _ _ _ _ _ _ _ _ _ _ _ _ (mkF m 29 #[.val (.ref a), .val (.ref b), .val (.int n.toInt32), .val (.int i.toInt32), .unset] [(.int y), (.int x)])
      refine GoKit.icmp_ne G d7_29 (by decide) (pt := 38) (pf := 32) rfl rfl (fun hb1 => ?_) (fun hb1 => ?_)
      · refine GoKit.iloadN G d7_38 rfl (pc' := 39) rfl ?_
        refine GoKit.iloadN G d7_39 rfl (pc' := 40) rfl ?_
        refine GoKit.icmp_ne_t G d7_40 (fun q => by have := (toI_eq (by omega) (by omega)).mp q; omega) (by decide) (pc' := 59) rfl ?_
        refine GoKit.aloadN G d7_59 rfl rfl (pc' := 60) rfl ?_
        refine GoKit.iloadN G d7_60 rfl (pc' := 61) rfl ?_
        refine GoKit.callVirtualP G d7_61 (wi hw 92 rfl) (wi hw 93 rfl) (wi hw 95 rfl) (wi hw 94 rfl) (wi hw 7 rfl) (wi hw 96 rfl) (by decide) (str_exa S) (W := 0) (argsL := [(.int i.toInt32)]) (rest := []) (con_charS l hw (i := i) S hx HC HF HU) rfl (lenOf pd_18 rfl) rfl (by decide) (Nat.le_of_eq rfl) (by decide) (by decide) (by decide) (cells' := 0) (slots' := 0) rfl rfl (pc' := 64) rfl ?_
        show Run _ _ _ _ _ _ _ _ _ _ _ _ _ _ _ _ _ _ _ _ _ (mkF m 64 #[.val (.ref a), .val (.ref b), .val (.int n.toInt32), .val (.int i.toInt32), .unset] [(.int x)])
        refine GoKit.callStaticP G d7_64 (wi hw 119 rfl) (wi hw 120 rfl) (wi hw 121 rfl) (wi hw 122 rfl) (by decide) (W := 0) (argsL := [(.int x)]) (rest := []) (con_sur l hw x) rfl (lenOf pd_19 rfl) rfl (by decide) (Nat.le_of_eq rfl) (by decide) (by decide) (by decide) (cells' := 0) (slots' := 0) rfl rfl (pc' := 67) rfl ?_
        show Run _ _ _ _ _ _ _ _ _ _ _ _ _ _ _ _ _ _ _ _ _ (mkF m 67 #[.val (.ref a), .val (.ref b), .val (.int n.toInt32), .val (.int i.toInt32), .unset] [(.int (if sur x then 1 else 0))])
        refine GoKit.aloadN G d7_67 rfl rfl (pc' := 68) rfl ?_
        refine GoKit.iloadN G d7_68 rfl (pc' := 69) rfl ?_
        refine GoKit.callVirtualP G d7_69 (wi hw 92 rfl) (wi hw 93 rfl) (wi hw 95 rfl) (wi hw 94 rfl) (wi hw 7 rfl) (wi hw 96 rfl) (by decide) (str_exa S2) (W := 1) (argsL := [(.int i.toInt32)]) (rest := [(.int (if sur x then 1 else 0))]) (con_charS l hw (i := i) S2 hy HC HF HU) rfl (lenOf pd_18 rfl) rfl (by decide) (Nat.le_of_eq rfl) (by decide) (by decide) (by decide) (cells' := 0) (slots' := 0) rfl rfl (pc' := 72) rfl ?_
        show Run _ _ _ _ _ _ _ _ _ _ _ _ _ _ _ _ _ _ _ _ _ (mkF m 72 #[.val (.ref a), .val (.ref b), .val (.int n.toInt32), .val (.int i.toInt32), .unset] [(.int y), (.int (if sur x then 1 else 0))])
        refine GoKit.callStaticP G d7_72 (wi hw 119 rfl) (wi hw 120 rfl) (wi hw 121 rfl) (wi hw 122 rfl) (by decide) (W := 1) (argsL := [(.int y)]) (rest := [(.int (if sur x then 1 else 0))]) (con_sur l hw y) rfl (lenOf pd_19 rfl) rfl (by decide) (Nat.le_of_eq rfl) (by decide) (by decide) (by decide) (cells' := 0) (slots' := 0) rfl rfl (pc' := 75) rfl ?_
        show Run _ _ _ _ _ _ _ _ _ _ _ _ _ _ _ _ _ _ _ _ _ (mkF m 75 #[.val (.ref a), .val (.ref b), .val (.int n.toInt32), .val (.int i.toInt32), .unset] [(.int (if sur y then 1 else 0)), (.int (if sur x then 1 else 0))])
        refine GoKit.icmp_ne G d7_75 (by decide) (pt := 96) (pf := 78) rfl rfl (fun hb2 => ?_) (fun hb2 => ?_)
        · refine GoKit.aloadN G d7_96 rfl rfl (pc' := 97) rfl ?_
          refine GoKit.iloadN G d7_97 rfl (pc' := 98) rfl ?_
          refine GoKit.callVirtualP G d7_98 (wi hw 92 rfl) (wi hw 93 rfl) (wi hw 95 rfl) (wi hw 94 rfl) (wi hw 7 rfl) (wi hw 96 rfl) (by decide) (str_exa S) (W := 0) (argsL := [(.int i.toInt32)]) (rest := []) (con_charS l hw (i := i) S hx HC HF HU) rfl (lenOf pd_18 rfl) rfl (by decide) (Nat.le_of_eq rfl) (by decide) (by decide) (by decide) (cells' := 0) (slots' := 0) rfl rfl (pc' := 101) rfl ?_
          show Run _ _ _ _ _ _ _ _ _ _ _ _ _ _ _ _ _ _ _ _ _ (mkF m 101 #[.val (.ref a), .val (.ref b), .val (.int n.toInt32), .val (.int i.toInt32), .unset] [(.int x)])
          refine GoKit.callStaticP G d7_101 (wi hw 119 rfl) (wi hw 120 rfl) (wi hw 121 rfl) (wi hw 122 rfl) (by decide) (W := 0) (argsL := [(.int x)]) (rest := []) (con_sur l hw x) rfl (lenOf pd_19 rfl) rfl (by decide) (Nat.le_of_eq rfl) (by decide) (by decide) (by decide) (cells' := 0) (slots' := 0) rfl rfl (pc' := 104) rfl ?_
          show Run _ _ _ _ _ _ _ _ _ _ _ _ _ _ _ _ _ _ _ _ _ (mkF m 104 #[.val (.ref a), .val (.ref b), .val (.int n.toInt32), .val (.int i.toInt32), .unset] [(.int (if sur x then 1 else 0))])
          refine GoKit.if_eq G d7_104 (by decide) (pt := 111) (pf := 107) rfl rfl (fun hb3 => ?_) (fun hb3 => ?_)
          · refine GoKit.iconst G (-1 : Int32) d7_111 rfl (pc' := 112) rfl ?_
            refine GoKit.istore G d7_112 (Ls' := #[.val (.ref a), .val (.ref b), .val (.int n.toInt32), .val (.int i.toInt32), .val (.int (-1 : Int32))]) rfl (pc' := 114) rfl ?_
            refine GoKit.iload G d7_114 rfl (pc' := 116) rfl ?_
            refine GoKit.retInt G d7_116 rfl (by decide) (by decide) ?_
            exact ⟨_, rfl, by have e1 := key_mix2 (ite_f hb3) (ite_ne0 hb2 (ite_f hb3)) hcx; rw [← hF, ref_step hx hy, if_neg (by rw [e1]; decide), e1]; decide⟩
          · refine GoKit.iconst G (1 : Int32) d7_107 rfl (pc' := 108) rfl ?_
            refine GoKit.goto G d7_108 (by decide) (pc' := 112) rfl ?_
            refine GoKit.istore G d7_112 (Ls' := #[.val (.ref a), .val (.ref b), .val (.int n.toInt32), .val (.int i.toInt32), .val (.int (1 : Int32))]) rfl (pc' := 114) rfl ?_
            refine GoKit.iload G d7_114 rfl (pc' := 116) rfl ?_
            refine GoKit.retInt G d7_116 rfl (by decide) (by decide) ?_
            exact ⟨_, rfl, by have e1 := key_mix (ite_t hb3) (ite_ne1 hb2 (ite_t hb3)) hcy; rw [← hF, ref_step hx hy, if_neg (by rw [e1]; decide), e1]; decide⟩
        · refine GoKit.aloadN G d7_78 rfl rfl (pc' := 79) rfl ?_
          refine GoKit.iloadN G d7_79 rfl (pc' := 80) rfl ?_
          refine GoKit.callVirtualP G d7_80 (wi hw 92 rfl) (wi hw 93 rfl) (wi hw 95 rfl) (wi hw 94 rfl) (wi hw 7 rfl) (wi hw 96 rfl) (by decide) (str_exa S) (W := 0) (argsL := [(.int i.toInt32)]) (rest := []) (con_charS l hw (i := i) S hx HC HF HU) rfl (lenOf pd_18 rfl) rfl (by decide) (Nat.le_of_eq rfl) (by decide) (by decide) (by decide) (cells' := 0) (slots' := 0) rfl rfl (pc' := 83) rfl ?_
          show Run _ _ _ _ _ _ _ _ _ _ _ _ _ _ _ _ _ _ _ _ _ (mkF m 83 #[.val (.ref a), .val (.ref b), .val (.int n.toInt32), .val (.int i.toInt32), .unset] [(.int x)])
          refine GoKit.aloadN G d7_83 rfl rfl (pc' := 84) rfl ?_
          refine GoKit.iloadN G d7_84 rfl (pc' := 85) rfl ?_
          refine GoKit.callVirtualP G d7_85 (wi hw 92 rfl) (wi hw 93 rfl) (wi hw 95 rfl) (wi hw 94 rfl) (wi hw 7 rfl) (wi hw 96 rfl) (by decide) (str_exa S2) (W := 1) (argsL := [(.int i.toInt32)]) (rest := [(.int x)]) (con_charS l hw (i := i) S2 hy HC HF HU) rfl (lenOf pd_18 rfl) rfl (by decide) (Nat.le_of_eq rfl) (by decide) (by decide) (by decide) (cells' := 0) (slots' := 0) rfl rfl (pc' := 88) rfl ?_
          show Run _ _ _ _ _ _ _ _ _ _ _ _ _ _ _ _ _ _ _ _ _ (mkF m 88 #[.val (.ref a), .val (.ref b), .val (.int n.toInt32), .val (.int i.toInt32), .unset] [(.int y), (.int x)])
          refine GoKit.callStaticP G d7_88 (wi hw 124 rfl) (wi hw 125 rfl) (wi hw 121 rfl) (wi hw 126 rfl) (by decide) (W := 0) (argsL := [(.int x), (.int y)]) (rest := []) (con_ccmp l hw x y) rfl (lenOf pd_20 rfl) rfl (by decide) (Nat.le_of_eq rfl) (by decide) (by decide) (by decide) (cells' := 0) (slots' := 0) rfl rfl (pc' := 91) rfl ?_
          show Run _ _ _ _ _ _ _ _ _ _ _ _ _ _ _ _ _ _ _ _ _ (mkF m 91 #[.val (.ref a), .val (.ref b), .val (.int n.toInt32), .val (.int i.toInt32), .unset] [(.int (x - y))])
          refine GoKit.istore G d7_91 (Ls' := #[.val (.ref a), .val (.ref b), .val (.int n.toInt32), .val (.int i.toInt32), .val (.int (x - y))]) rfl (pc' := 93) rfl ?_
          refine GoKit.goto G d7_93 (by decide) (pc' := 114) rfl ?_
          refine GoKit.iload G d7_114 rfl (pc' := 116) rfl ?_
          refine GoKit.retInt G d7_116 rfl (by decide) (by decide) ?_
          exact ⟨_, rfl, by obtain ⟨e1, e2⟩ := sgn_key hcx hcy hb1 (ite_iff' hb2); rw [e1, ← hF, ref_step hx hy, if_neg e2]⟩
      · refine GoKit.iinc G (1 : Int32) d7_32 rfl rfl (Ls' := #[.val (.ref a), .val (.ref b), .val (.int n.toInt32), .val (.int (i.toInt32 + (1 : Int32))), .unset]) rfl (pc' := 35) rfl ?_
        generalize hqv4 : (i.toInt32 + (1 : Int32)) = v4
        refine GoKit.goto G d7_35 (by decide) (pc' := 14) rfl ?_
        rw [toI_succ] at hqv4; subst hqv4
        exact ih (i + 1) (by omega) (by rw [← hF, ref_step hx hy, if_pos (cmpI_eq (by rw [hb1]))])
  refine GoKit.aloadN G d7_0 rfl rfl (pc' := 1) rfl ?_
  refine GoKit.callVirtualP G d7_1 (wi hw 37 rfl) (wi hw 38 rfl) (wi hw 40 rfl) (wi hw 39 rfl) (wi hw 7 rfl) (wi hw 41 rfl) (by decide) (str_exa S) (W := 0) (argsL := []) (rest := []) (con_lenS l hw S HC) rfl (lenOf pd_17 rfl) rfl (by decide) (Nat.le_of_eq rfl) (by decide) (by decide) (by decide) (cells' := 0) (slots' := 0) rfl rfl (pc' := 4) rfl ?_
  show Run _ _ _ _ _ _ _ _ _ _ _ _ _ _ _ _ _ _ _ _ _ (mkF m 4 #[.val (.ref a), .val (.ref b), .unset, .unset, .unset] [(.int cs.length.toInt32)])
  refine GoKit.aloadN G d7_4 rfl rfl (pc' := 5) rfl ?_
  refine GoKit.callVirtualP G d7_5 (wi hw 37 rfl) (wi hw 38 rfl) (wi hw 40 rfl) (wi hw 39 rfl) (wi hw 7 rfl) (wi hw 41 rfl) (by decide) (str_exa S2) (W := 1) (argsL := []) (rest := [(.int cs.length.toInt32)]) (con_lenS l hw S2 HC) rfl (lenOf pd_17 rfl) rfl (by decide) (Nat.le_of_eq rfl) (by decide) (by decide) (by decide) (cells' := 0) (slots' := 0) rfl rfl (pc' := 8) rfl ?_
  show Run _ _ _ _ _ _ _ _ _ _ _ _ _ _ _ _ _ _ _ _ _ (mkF m 8 #[.val (.ref a), .val (.ref b), .unset, .unset, .unset] [(.int ds.length.toInt32), (.int cs.length.toInt32)])
  refine GoKit.callStaticP G d7_8 (wi hw 48 rfl) (wi hw 49 rfl) (wi hw 50 rfl) (wi hw 51 rfl) (by decide) (W := 0) (argsL := [(.int cs.length.toInt32), (.int ds.length.toInt32)]) (rest := []) (con_min l hw cs.length.toInt32 ds.length.toInt32) rfl (lenOf pd_15 rfl) rfl (by decide) (Nat.le_of_eq rfl) (by decide) (by decide) (by decide) (cells' := 0) (slots' := 0) rfl rfl (pc' := 11) rfl ?_
  show Run _ _ _ _ _ _ _ _ _ _ _ _ _ _ _ _ _ _ _ _ _ (mkF m 11 #[.val (.ref a), .val (.ref b), .unset, .unset, .unset] [(.int (min32 cs.length.toInt32 ds.length.toInt32))])
  rw [min_nat h1 h2, ← hn]
  refine GoKit.istoreN G d7_11 (Ls' := #[.val (.ref a), .val (.ref b), .val (.int n.toInt32), .unset, .unset]) rfl (pc' := 12) rfl ?_
  refine GoKit.iconst G (0 : Int32) d7_12 rfl (pc' := 13) rfl ?_
  refine GoKit.istoreN G d7_13 (Ls' := #[.val (.ref a), .val (.ref b), .val (.int n.toInt32), .val (.int (0 : Int32)), .unset]) rfl (pc' := 14) rfl ?_
  exact loop n 0 (by omega) rfl
theorem pd_21 : parseMethodDescriptor "(CCI)Ljava/lang/String;" = some ⟨[.char, .char, .int], some (.object "java/lang/String")⟩ := by decide +kernel
theorem pd_22 : parseMethodDescriptor "(CCICCI)I" = some ⟨[.char, .char, .int, .char, .char, .int], some .int⟩ := by decide +kernel
theorem pd_23 : parseMethodDescriptor "(Ljava/lang/String;Ljava/lang/String;)I" = some ⟨[(.object "java/lang/String"), (.object "java/lang/String")], some .int⟩ := by decide +kernel
set_option maxRecDepth 65536 in
set_option maxHeartbeats 40000000 in
theorem con_law (l : Launch) {Z : State} {a0 : Array Value} (hw : ∀ d ∈ tables_1, d.before a0 Z = true) {n0 : Nat} {h0 : Heap} (p0 : Int32) (p1 : Int32) (p2 : Int32) (HC : Cst Z) (HF : Frm Z) (HU : Ust Z) :
    Con l Z true false ELs n0 x code maxLocals ret room_1 tables_1 #[(.int p0), (.int p1), (.int p2)] h0 [] (fun v h => v = some (.int 1)) := by
  refine Con.intro (plainFor_of_name pn_com_example_stoplist_stoplist_util_Utf8ComparePinLaw) (hELs hw) ?_
  intro p e s m below meth c hh G
  refine castRun (g' := mkF m 0 #[.val (.int p0), .val (.int p1), .val (.int p2), .unset, .unset, .unset, .unset, .unset, .unset, .unset, .unset, .unset, .unset, .unset] []) (by first | rfl | (simp [entryFrame, mkF, argsToLocals, Value.category, maxLocals]; done)) ?_
  have J : ∀ (c3 c4 c5 c6 : Int32), (0 ≤ c3.toInt ∧ c3.toInt < 65536) → (0 ≤ c4.toInt ∧ c4.toInt < 65536) → (0 ≤ c5.toInt ∧ c5.toInt < 65536) → (0 ≤ c6.toInt ∧ c6.toInt < 65536) → Run p l e room_1 s m #[.int p0, .int p1, .int p2] below meth c Z true false ELs n0 [] (fun v h => v = some (.int 1)) h0 [] 0 0 (mkF m 54 #[.val (.int p0), .val (.int p1), .val (.int p2), .val (.int c3), .val (.int c4), .val (.int c5), .val (.int c6), .unset, .unset, .unset, .unset, .unset, .unset, .unset] []) := by
    intro c3 c4 c5 c6 H3 H4 H5 H6
    refine GoKit.iloadN G at_54 rfl (pc' := 55) rfl ?_
    refine GoKit.iconst G (2 : Int32) at_55 rfl (pc' := 56) rfl ?_
    refine GoKit.iushr G at_56 (pc' := 57) rfl (fun v1 hqv1 => ?_)
    refine GoKit.sipush G (255 : Int32) at_57 rfl (pc' := 60) rfl ?_
    refine GoKit.iand G at_60 (pc' := 61) rfl (fun v2 hqv2 => ?_)
    refine GoKit.iconst G (3 : Int32) at_61 rfl (pc' := 62) rfl ?_
    refine GoKit.irem G at_62 (by decide) (pc' := 63) rfl (fun v3 hqv3 => ?_)
    rcases cases3 (v := v3) (and255_rem hqv2 hqv3) with rfl | rfl | rfl
    · refine GoKit.istore G at_63 (Ls' := #[.val (.int p0), .val (.int p1), .val (.int p2), .val (.int c3), .val (.int c4), .val (.int c5), .val (.int c6), .val (.int (0 : Int32)), .unset, .unset, .unset, .unset, .unset, .unset]) rfl (pc' := 65) rfl ?_
      refine GoKit.iloadN G at_65 rfl (pc' := 66) rfl ?_
      refine GoKit.bipush G (10 : Int32) at_66 rfl (pc' := 68) rfl ?_
      refine GoKit.iushr G at_68 (pc' := 69) rfl (fun v4 hqv4 => ?_)
      refine GoKit.sipush G (255 : Int32) at_69 rfl (pc' := 72) rfl ?_
      refine GoKit.iand G at_72 (pc' := 73) rfl (fun v5 hqv5 => ?_)
      refine GoKit.iconst G (3 : Int32) at_73 rfl (pc' := 74) rfl ?_
      refine GoKit.irem G at_74 (by decide) (pc' := 75) rfl (fun v6 hqv6 => ?_)
      rcases cases3 (v := v6) (and255_rem hqv5 hqv6) with rfl | rfl | rfl
      · refine GoKit.istore G at_75 (Ls' := #[.val (.int p0), .val (.int p1), .val (.int p2), .val (.int c3), .val (.int c4), .val (.int c5), .val (.int c6), .val (.int (0 : Int32)), .val (.int (0 : Int32)), .unset, .unset, .unset, .unset, .unset]) rfl (pc' := 77) rfl ?_
        refine GoKit.iloadN G at_77 rfl (pc' := 78) rfl ?_
        refine GoKit.iload G at_78 rfl (pc' := 80) rfl ?_
        refine GoKit.iload G at_80 rfl (pc' := 82) rfl ?_
        refine GoKit.callStatic G at_82 (wi hw 1 rfl) (wi hw 2 rfl) (wi hw 3 rfl) (wi hw 4 rfl) (by decide) (owc := []) (W := 0) (argsL := [(.int c3), (.int c4), (.int (0 : Int32))]) (rest := []) (con_make0 l hw H3 H4 HC HU) rfl (lenOf pd_21 rfl) rfl (by decide) (Nat.le_of_eq rfl) (by decide) (by decide) (by decide) (fun _ q => nomatch q) (cells' := 6) (slots' := 12) rfl rfl (pc' := 85) rfl (fun r7 h10 q8 K9 => ?_)
        obtain ⟨a11, rfl, S12⟩ := q8
        show Run _ _ _ _ _ _ _ _ _ _ _ _ _ _ _ _ _ _ _ _ _ (mkF m 85 #[.val (.int p0), .val (.int p1), .val (.int p2), .val (.int c3), .val (.int c4), .val (.int c5), .val (.int c6), .val (.int (0 : Int32)), .val (.int (0 : Int32)), .unset, .unset, .unset, .unset, .unset] [(.ref a11)])
        refine GoKit.astore G at_85 rfl (Ls' := #[.val (.int p0), .val (.int p1), .val (.int p2), .val (.int c3), .val (.int c4), .val (.int c5), .val (.int c6), .val (.int (0 : Int32)), .val (.int (0 : Int32)), .val (.ref a11), .unset, .unset, .unset, .unset]) rfl (pc' := 87) rfl ?_
        refine GoKit.iload G at_87 rfl (pc' := 89) rfl ?_
        refine GoKit.iload G at_89 rfl (pc' := 91) rfl ?_
        refine GoKit.iload G at_91 rfl (pc' := 93) rfl ?_
        refine GoKit.callStatic G at_93 (wi hw 1 rfl) (wi hw 2 rfl) (wi hw 3 rfl) (wi hw 4 rfl) (by decide) (owc := []) (W := 0) (argsL := [(.int c5), (.int c6), (.int (0 : Int32))]) (rest := []) (con_make0 l hw H5 H6 HC HU) rfl (lenOf pd_21 rfl) rfl (by decide) (Nat.le_of_eq rfl) (by decide) (by decide) (by decide) (fun _ q => nomatch q) (cells' := 12) (slots' := 24) rfl rfl (pc' := 96) rfl (fun r13 h16 q14 K15 => ?_)
        obtain ⟨a17, rfl, S18⟩ := q14
        show Run _ _ _ _ _ _ _ _ _ _ _ _ _ _ _ _ _ _ _ _ _ (mkF m 96 #[.val (.int p0), .val (.int p1), .val (.int p2), .val (.int c3), .val (.int c4), .val (.int c5), .val (.int c6), .val (.int (0 : Int32)), .val (.int (0 : Int32)), .val (.ref a11), .unset, .unset, .unset, .unset] [(.ref a17)])
        refine GoKit.astore G at_96 rfl (Ls' := #[.val (.int p0), .val (.int p1), .val (.int p2), .val (.int c3), .val (.int c4), .val (.int c5), .val (.int c6), .val (.int (0 : Int32)), .val (.int (0 : Int32)), .val (.ref a11), .val (.ref a17), .unset, .unset, .unset]) rfl (pc' := 98) rfl ?_
        refine GoKit.iloadN G at_98 rfl (pc' := 99) rfl ?_
        refine GoKit.iload G at_99 rfl (pc' := 101) rfl ?_
        refine GoKit.iload G at_101 rfl (pc' := 103) rfl ?_
        refine GoKit.iload G at_103 rfl (pc' := 105) rfl ?_
        refine GoKit.iload G at_105 rfl (pc' := 107) rfl ?_
        refine GoKit.iload G at_107 rfl (pc' := 109) rfl ?_
        refine GoKit.callStaticP G at_109 (wi hw 27 rfl) (wi hw 28 rfl) (wi hw 3 rfl) (wi hw 29 rfl) (by decide) (W := 0) (argsL := [(.int c3), (.int c4), (.int (0 : Int32)), (.int c5), (.int c6), (.int (0 : Int32))]) (rest := []) (con_ref00 l hw c3 c4 c5 c6) rfl (lenOf pd_22 rfl) rfl (by decide) (Nat.le_of_eq rfl) (by decide) (by decide) (by decide) (cells' := 12) (slots' := 24) rfl rfl (pc' := 112) rfl ?_
        show Run _ _ _ _ _ _ _ _ _ _ _ _ _ _ _ _ _ _ _ _ _ (mkF m 112 #[.val (.int p0), .val (.int p1), .val (.int p2), .val (.int c3), .val (.int c4), .val (.int c5), .val (.int c6), .val (.int (0 : Int32)), .val (.int (0 : Int32)), .val (.ref a11), .val (.ref a17), .unset, .unset, .unset] [(.int (refF [] []))])
        refine GoKit.istore G at_112 (Ls' := #[.val (.int p0), .val (.int p1), .val (.int p2), .val (.int c3), .val (.int c4), .val (.int c5), .val (.int c6), .val (.int (0 : Int32)), .val (.int (0 : Int32)), .val (.ref a11), .val (.ref a17), .val (.int (refF [] [])), .unset, .unset]) rfl (pc' := 114) rfl ?_
        refine GoKit.aload G at_114 rfl rfl (pc' := 116) rfl ?_
        refine GoKit.aload G at_116 rfl rfl (pc' := 118) rfl ?_
        have KP19 : Keep h10 h16 [] := ((Keep.refl h10 []).trans K15 all0)
        refine GoKit.callStatic G at_118 (wi hw 33 rfl) (wi hw 34 rfl) (wi hw 35 rfl) (wi hw 36 rfl) (by decide) (owc := []) (W := 0) (argsL := [(.ref a11), (.ref a17)]) (rest := []) (con_compare l hw (str_keep S12 KP19) S18 HC HF HU) rfl (lenOf pd_23 rfl) rfl (by decide) (Nat.le_of_eq rfl) (by decide) (by decide) (by decide) (fun _ q => nomatch q) (cells' := 12) (slots' := 24) rfl rfl (pc' := 121) rfl (fun r20 h23 q21 K22 => ?_)
        obtain ⟨r24, rfl, hr25⟩ := q21
        show Run _ _ _ _ _ _ _ _ _ _ _ _ _ _ _ _ _ _ _ _ _ (mkF m 121 #[.val (.int p0), .val (.int p1), .val (.int p2), .val (.int c3), .val (.int c4), .val (.int c5), .val (.int c6), .val (.int (0 : Int32)), .val (.int (0 : Int32)), .val (.ref a11), .val (.ref a17), .val (.int (refF [] [])), .unset, .unset] [(.int r24)])
        refine GoKit.callStaticP G at_121 (wi hw 56 rfl) (wi hw 57 rfl) (wi hw 3 rfl) (wi hw 58 rfl) (by decide) (W := 0) (argsL := [(.int r24)]) (rest := []) (con_sgn l hw r24) rfl (lenOf pd_4 rfl) rfl (by decide) (Nat.le_of_eq rfl) (by decide) (by decide) (by decide) (cells' := 12) (slots' := 24) rfl rfl (pc' := 124) rfl ?_
        show Run _ _ _ _ _ _ _ _ _ _ _ _ _ _ _ _ _ _ _ _ _ (mkF m 124 #[.val (.int p0), .val (.int p1), .val (.int p2), .val (.int c3), .val (.int c4), .val (.int c5), .val (.int c6), .val (.int (0 : Int32)), .val (.int (0 : Int32)), .val (.ref a11), .val (.ref a17), .val (.int (refF [] [])), .unset, .unset] [(.int (sgnI r24))])
        refine GoKit.istore G at_124 (Ls' := #[.val (.int p0), .val (.int p1), .val (.int p2), .val (.int c3), .val (.int c4), .val (.int c5), .val (.int c6), .val (.int (0 : Int32)), .val (.int (0 : Int32)), .val (.ref a11), .val (.ref a17), .val (.int (refF [] [])), .val (.int (sgnI r24)), .unset]) rfl (pc' := 126) rfl ?_
        refine GoKit.aload G at_126 rfl rfl (pc' := 128) rfl ?_
        refine GoKit.aload G at_128 rfl rfl (pc' := 130) rfl ?_
        have KP26 : Keep h16 h23 [] := ((Keep.refl h16 []).trans K22 all0)
        have KP27 : Keep h10 h23 [] := (KP19.trans K22 all0)
        refine GoKit.callStatic G at_130 (wi hw 33 rfl) (wi hw 34 rfl) (wi hw 35 rfl) (wi hw 36 rfl) (by decide) (owc := []) (W := 0) (argsL := [(.ref a17), (.ref a11)]) (rest := []) (con_compare l hw (str_keep S18 KP26) (str_keep S12 KP27) HC HF HU) rfl (lenOf pd_23 rfl) rfl (by decide) (Nat.le_of_eq rfl) (by decide) (by decide) (by decide) (fun _ q => nomatch q) (cells' := 12) (slots' := 24) rfl rfl (pc' := 133) rfl (fun r28 h31 q29 K30 => ?_)
        obtain ⟨r32, rfl, hr33⟩ := q29
        show Run _ _ _ _ _ _ _ _ _ _ _ _ _ _ _ _ _ _ _ _ _ (mkF m 133 #[.val (.int p0), .val (.int p1), .val (.int p2), .val (.int c3), .val (.int c4), .val (.int c5), .val (.int c6), .val (.int (0 : Int32)), .val (.int (0 : Int32)), .val (.ref a11), .val (.ref a17), .val (.int (refF [] [])), .val (.int (sgnI r24)), .unset] [(.int r32)])
        refine GoKit.callStaticP G at_133 (wi hw 56 rfl) (wi hw 57 rfl) (wi hw 3 rfl) (wi hw 58 rfl) (by decide) (W := 0) (argsL := [(.int r32)]) (rest := []) (con_sgn l hw r32) rfl (lenOf pd_4 rfl) rfl (by decide) (Nat.le_of_eq rfl) (by decide) (by decide) (by decide) (cells' := 12) (slots' := 24) rfl rfl (pc' := 136) rfl ?_
        show Run _ _ _ _ _ _ _ _ _ _ _ _ _ _ _ _ _ _ _ _ _ (mkF m 136 #[.val (.int p0), .val (.int p1), .val (.int p2), .val (.int c3), .val (.int c4), .val (.int c5), .val (.int c6), .val (.int (0 : Int32)), .val (.int (0 : Int32)), .val (.ref a11), .val (.ref a17), .val (.int (refF [] [])), .val (.int (sgnI r24)), .unset] [(.int (sgnI r32))])
        refine GoKit.istore G at_136 (Ls' := #[.val (.int p0), .val (.int p1), .val (.int p2), .val (.int c3), .val (.int c4), .val (.int c5), .val (.int c6), .val (.int (0 : Int32)), .val (.int (0 : Int32)), .val (.ref a11), .val (.ref a17), .val (.int (refF [] [])), .val (.int (sgnI r24)), .val (.int (sgnI r32))]) rfl (pc' := 138) rfl ?_
        refine GoKit.iload G at_138 rfl (pc' := 140) rfl ?_
        refine GoKit.iload G at_140 rfl (pc' := 142) rfl ?_
        refine GoKit.icmp_ne_f G at_142 hr25 (pc' := 145) rfl ?_
        refine GoKit.iload G at_145 rfl (pc' := 147) rfl ?_
        refine GoKit.iload G at_147 rfl (pc' := 149) rfl ?_
        refine GoKit.ineg G at_149 (pc' := 150) rfl (fun v34 hqv34 => ?_)
        refine GoKit.icmp_ne_f G at_150 (hr33.trans ((refF_anti _ _).trans hqv34.symm)) (pc' := 153) rfl ?_
        refine GoKit.iconst G (1 : Int32) at_153 rfl (pc' := 154) rfl ?_
        refine GoKit.goto G at_154 (by decide) (pc' := 158) rfl ?_
        refine GoKit.retNar G at_158 (t := .boolean) rfl (by simp) (by decide) (by decide) ?_
        exact rfl
      · refine GoKit.istore G at_75 (Ls' := #[.val (.int p0), .val (.int p1), .val (.int p2), .val (.int c3), .val (.int c4), .val (.int c5), .val (.int c6), .val (.int (0 : Int32)), .val (.int (1 : Int32)), .unset, .unset, .unset, .unset, .unset]) rfl (pc' := 77) rfl ?_
        refine GoKit.iloadN G at_77 rfl (pc' := 78) rfl ?_
        refine GoKit.iload G at_78 rfl (pc' := 80) rfl ?_
        refine GoKit.iload G at_80 rfl (pc' := 82) rfl ?_
        refine GoKit.callStatic G at_82 (wi hw 1 rfl) (wi hw 2 rfl) (wi hw 3 rfl) (wi hw 4 rfl) (by decide) (owc := []) (W := 0) (argsL := [(.int c3), (.int c4), (.int (0 : Int32))]) (rest := []) (con_make0 l hw H3 H4 HC HU) rfl (lenOf pd_21 rfl) rfl (by decide) (Nat.le_of_eq rfl) (by decide) (by decide) (by decide) (fun _ q => nomatch q) (cells' := 6) (slots' := 12) rfl rfl (pc' := 85) rfl (fun r35 h38 q36 K37 => ?_)
        obtain ⟨a39, rfl, S40⟩ := q36
        show Run _ _ _ _ _ _ _ _ _ _ _ _ _ _ _ _ _ _ _ _ _ (mkF m 85 #[.val (.int p0), .val (.int p1), .val (.int p2), .val (.int c3), .val (.int c4), .val (.int c5), .val (.int c6), .val (.int (0 : Int32)), .val (.int (1 : Int32)), .unset, .unset, .unset, .unset, .unset] [(.ref a39)])
        refine GoKit.astore G at_85 rfl (Ls' := #[.val (.int p0), .val (.int p1), .val (.int p2), .val (.int c3), .val (.int c4), .val (.int c5), .val (.int c6), .val (.int (0 : Int32)), .val (.int (1 : Int32)), .val (.ref a39), .unset, .unset, .unset, .unset]) rfl (pc' := 87) rfl ?_
        refine GoKit.iload G at_87 rfl (pc' := 89) rfl ?_
        refine GoKit.iload G at_89 rfl (pc' := 91) rfl ?_
        refine GoKit.iload G at_91 rfl (pc' := 93) rfl ?_
        refine GoKit.callStatic G at_93 (wi hw 1 rfl) (wi hw 2 rfl) (wi hw 3 rfl) (wi hw 4 rfl) (by decide) (owc := []) (W := 0) (argsL := [(.int c5), (.int c6), (.int (1 : Int32))]) (rest := []) (con_make1 l hw H5 H6 HC HU) rfl (lenOf pd_21 rfl) rfl (by decide) (Nat.le_of_eq rfl) (by decide) (by decide) (by decide) (fun _ q => nomatch q) (cells' := 10) (slots' := 23) rfl rfl (pc' := 96) rfl (fun r41 h44 q42 K43 => ?_)
        obtain ⟨a45, rfl, S46⟩ := q42
        show Run _ _ _ _ _ _ _ _ _ _ _ _ _ _ _ _ _ _ _ _ _ (mkF m 96 #[.val (.int p0), .val (.int p1), .val (.int p2), .val (.int c3), .val (.int c4), .val (.int c5), .val (.int c6), .val (.int (0 : Int32)), .val (.int (1 : Int32)), .val (.ref a39), .unset, .unset, .unset, .unset] [(.ref a45)])
        refine GoKit.astore G at_96 rfl (Ls' := #[.val (.int p0), .val (.int p1), .val (.int p2), .val (.int c3), .val (.int c4), .val (.int c5), .val (.int c6), .val (.int (0 : Int32)), .val (.int (1 : Int32)), .val (.ref a39), .val (.ref a45), .unset, .unset, .unset]) rfl (pc' := 98) rfl ?_
        refine GoKit.iloadN G at_98 rfl (pc' := 99) rfl ?_
        refine GoKit.iload G at_99 rfl (pc' := 101) rfl ?_
        refine GoKit.iload G at_101 rfl (pc' := 103) rfl ?_
        refine GoKit.iload G at_103 rfl (pc' := 105) rfl ?_
        refine GoKit.iload G at_105 rfl (pc' := 107) rfl ?_
        refine GoKit.iload G at_107 rfl (pc' := 109) rfl ?_
        refine GoKit.callStaticP G at_109 (wi hw 27 rfl) (wi hw 28 rfl) (wi hw 3 rfl) (wi hw 29 rfl) (by decide) (W := 0) (argsL := [(.int c3), (.int c4), (.int (0 : Int32)), (.int c5), (.int c6), (.int (1 : Int32))]) (rest := []) (con_ref01 l hw c3 c4 c5 c6) rfl (lenOf pd_22 rfl) rfl (by decide) (Nat.le_of_eq rfl) (by decide) (by decide) (by decide) (cells' := 10) (slots' := 23) rfl rfl (pc' := 112) rfl ?_
        show Run _ _ _ _ _ _ _ _ _ _ _ _ _ _ _ _ _ _ _ _ _ (mkF m 112 #[.val (.int p0), .val (.int p1), .val (.int p2), .val (.int c3), .val (.int c4), .val (.int c5), .val (.int c6), .val (.int (0 : Int32)), .val (.int (1 : Int32)), .val (.ref a39), .val (.ref a45), .unset, .unset, .unset] [(.int (refF [] [c5]))])
        refine GoKit.istore G at_112 (Ls' := #[.val (.int p0), .val (.int p1), .val (.int p2), .val (.int c3), .val (.int c4), .val (.int c5), .val (.int c6), .val (.int (0 : Int32)), .val (.int (1 : Int32)), .val (.ref a39), .val (.ref a45), .val (.int (refF [] [c5])), .unset, .unset]) rfl (pc' := 114) rfl ?_
        refine GoKit.aload G at_114 rfl rfl (pc' := 116) rfl ?_
        refine GoKit.aload G at_116 rfl rfl (pc' := 118) rfl ?_
        have KP47 : Keep h38 h44 [] := ((Keep.refl h38 []).trans K43 all0)
        refine GoKit.callStatic G at_118 (wi hw 33 rfl) (wi hw 34 rfl) (wi hw 35 rfl) (wi hw 36 rfl) (by decide) (owc := []) (W := 0) (argsL := [(.ref a39), (.ref a45)]) (rest := []) (con_compare l hw (str_keep S40 KP47) S46 HC HF HU) rfl (lenOf pd_23 rfl) rfl (by decide) (Nat.le_of_eq rfl) (by decide) (by decide) (by decide) (fun _ q => nomatch q) (cells' := 10) (slots' := 23) rfl rfl (pc' := 121) rfl (fun r48 h51 q49 K50 => ?_)
        obtain ⟨r52, rfl, hr53⟩ := q49
        show Run _ _ _ _ _ _ _ _ _ _ _ _ _ _ _ _ _ _ _ _ _ (mkF m 121 #[.val (.int p0), .val (.int p1), .val (.int p2), .val (.int c3), .val (.int c4), .val (.int c5), .val (.int c6), .val (.int (0 : Int32)), .val (.int (1 : Int32)), .val (.ref a39), .val (.ref a45), .val (.int (refF [] [c5])), .unset, .unset] [(.int r52)])
        refine GoKit.callStaticP G at_121 (wi hw 56 rfl) (wi hw 57 rfl) (wi hw 3 rfl) (wi hw 58 rfl) (by decide) (W := 0) (argsL := [(.int r52)]) (rest := []) (con_sgn l hw r52) rfl (lenOf pd_4 rfl) rfl (by decide) (Nat.le_of_eq rfl) (by decide) (by decide) (by decide) (cells' := 10) (slots' := 23) rfl rfl (pc' := 124) rfl ?_
        show Run _ _ _ _ _ _ _ _ _ _ _ _ _ _ _ _ _ _ _ _ _ (mkF m 124 #[.val (.int p0), .val (.int p1), .val (.int p2), .val (.int c3), .val (.int c4), .val (.int c5), .val (.int c6), .val (.int (0 : Int32)), .val (.int (1 : Int32)), .val (.ref a39), .val (.ref a45), .val (.int (refF [] [c5])), .unset, .unset] [(.int (sgnI r52))])
        refine GoKit.istore G at_124 (Ls' := #[.val (.int p0), .val (.int p1), .val (.int p2), .val (.int c3), .val (.int c4), .val (.int c5), .val (.int c6), .val (.int (0 : Int32)), .val (.int (1 : Int32)), .val (.ref a39), .val (.ref a45), .val (.int (refF [] [c5])), .val (.int (sgnI r52)), .unset]) rfl (pc' := 126) rfl ?_
        refine GoKit.aload G at_126 rfl rfl (pc' := 128) rfl ?_
        refine GoKit.aload G at_128 rfl rfl (pc' := 130) rfl ?_
        have KP54 : Keep h44 h51 [] := ((Keep.refl h44 []).trans K50 all0)
        have KP55 : Keep h38 h51 [] := (KP47.trans K50 all0)
        refine GoKit.callStatic G at_130 (wi hw 33 rfl) (wi hw 34 rfl) (wi hw 35 rfl) (wi hw 36 rfl) (by decide) (owc := []) (W := 0) (argsL := [(.ref a45), (.ref a39)]) (rest := []) (con_compare l hw (str_keep S46 KP54) (str_keep S40 KP55) HC HF HU) rfl (lenOf pd_23 rfl) rfl (by decide) (Nat.le_of_eq rfl) (by decide) (by decide) (by decide) (fun _ q => nomatch q) (cells' := 10) (slots' := 23) rfl rfl (pc' := 133) rfl (fun r56 h59 q57 K58 => ?_)
        obtain ⟨r60, rfl, hr61⟩ := q57
        show Run _ _ _ _ _ _ _ _ _ _ _ _ _ _ _ _ _ _ _ _ _ (mkF m 133 #[.val (.int p0), .val (.int p1), .val (.int p2), .val (.int c3), .val (.int c4), .val (.int c5), .val (.int c6), .val (.int (0 : Int32)), .val (.int (1 : Int32)), .val (.ref a39), .val (.ref a45), .val (.int (refF [] [c5])), .val (.int (sgnI r52)), .unset] [(.int r60)])
        refine GoKit.callStaticP G at_133 (wi hw 56 rfl) (wi hw 57 rfl) (wi hw 3 rfl) (wi hw 58 rfl) (by decide) (W := 0) (argsL := [(.int r60)]) (rest := []) (con_sgn l hw r60) rfl (lenOf pd_4 rfl) rfl (by decide) (Nat.le_of_eq rfl) (by decide) (by decide) (by decide) (cells' := 10) (slots' := 23) rfl rfl (pc' := 136) rfl ?_
        show Run _ _ _ _ _ _ _ _ _ _ _ _ _ _ _ _ _ _ _ _ _ (mkF m 136 #[.val (.int p0), .val (.int p1), .val (.int p2), .val (.int c3), .val (.int c4), .val (.int c5), .val (.int c6), .val (.int (0 : Int32)), .val (.int (1 : Int32)), .val (.ref a39), .val (.ref a45), .val (.int (refF [] [c5])), .val (.int (sgnI r52)), .unset] [(.int (sgnI r60))])
        refine GoKit.istore G at_136 (Ls' := #[.val (.int p0), .val (.int p1), .val (.int p2), .val (.int c3), .val (.int c4), .val (.int c5), .val (.int c6), .val (.int (0 : Int32)), .val (.int (1 : Int32)), .val (.ref a39), .val (.ref a45), .val (.int (refF [] [c5])), .val (.int (sgnI r52)), .val (.int (sgnI r60))]) rfl (pc' := 138) rfl ?_
        refine GoKit.iload G at_138 rfl (pc' := 140) rfl ?_
        refine GoKit.iload G at_140 rfl (pc' := 142) rfl ?_
        refine GoKit.icmp_ne_f G at_142 hr53 (pc' := 145) rfl ?_
        refine GoKit.iload G at_145 rfl (pc' := 147) rfl ?_
        refine GoKit.iload G at_147 rfl (pc' := 149) rfl ?_
        refine GoKit.ineg G at_149 (pc' := 150) rfl (fun v62 hqv62 => ?_)
        refine GoKit.icmp_ne_f G at_150 (hr61.trans ((refF_anti _ _).trans hqv62.symm)) (pc' := 153) rfl ?_
        refine GoKit.iconst G (1 : Int32) at_153 rfl (pc' := 154) rfl ?_
        refine GoKit.goto G at_154 (by decide) (pc' := 158) rfl ?_
        refine GoKit.retNar G at_158 (t := .boolean) rfl (by simp) (by decide) (by decide) ?_
        exact rfl
      · refine GoKit.istore G at_75 (Ls' := #[.val (.int p0), .val (.int p1), .val (.int p2), .val (.int c3), .val (.int c4), .val (.int c5), .val (.int c6), .val (.int (0 : Int32)), .val (.int (2 : Int32)), .unset, .unset, .unset, .unset, .unset]) rfl (pc' := 77) rfl ?_
        refine GoKit.iloadN G at_77 rfl (pc' := 78) rfl ?_
        refine GoKit.iload G at_78 rfl (pc' := 80) rfl ?_
        refine GoKit.iload G at_80 rfl (pc' := 82) rfl ?_
        refine GoKit.callStatic G at_82 (wi hw 1 rfl) (wi hw 2 rfl) (wi hw 3 rfl) (wi hw 4 rfl) (by decide) (owc := []) (W := 0) (argsL := [(.int c3), (.int c4), (.int (0 : Int32))]) (rest := []) (con_make0 l hw H3 H4 HC HU) rfl (lenOf pd_21 rfl) rfl (by decide) (Nat.le_of_eq rfl) (by decide) (by decide) (by decide) (fun _ q => nomatch q) (cells' := 6) (slots' := 12) rfl rfl (pc' := 85) rfl (fun r63 h66 q64 K65 => ?_)
        obtain ⟨a67, rfl, S68⟩ := q64
        show Run _ _ _ _ _ _ _ _ _ _ _ _ _ _ _ _ _ _ _ _ _ (mkF m 85 #[.val (.int p0), .val (.int p1), .val (.int p2), .val (.int c3), .val (.int c4), .val (.int c5), .val (.int c6), .val (.int (0 : Int32)), .val (.int (2 : Int32)), .unset, .unset, .unset, .unset, .unset] [(.ref a67)])
        refine GoKit.astore G at_85 rfl (Ls' := #[.val (.int p0), .val (.int p1), .val (.int p2), .val (.int c3), .val (.int c4), .val (.int c5), .val (.int c6), .val (.int (0 : Int32)), .val (.int (2 : Int32)), .val (.ref a67), .unset, .unset, .unset, .unset]) rfl (pc' := 87) rfl ?_
        refine GoKit.iload G at_87 rfl (pc' := 89) rfl ?_
        refine GoKit.iload G at_89 rfl (pc' := 91) rfl ?_
        refine GoKit.iload G at_91 rfl (pc' := 93) rfl ?_
        refine GoKit.callStatic G at_93 (wi hw 1 rfl) (wi hw 2 rfl) (wi hw 3 rfl) (wi hw 4 rfl) (by decide) (owc := []) (W := 0) (argsL := [(.int c5), (.int c6), (.int (2 : Int32))]) (rest := []) (con_make2 l hw H5 H6 HC HU) rfl (lenOf pd_21 rfl) rfl (by decide) (Nat.le_of_eq rfl) (by decide) (by decide) (by decide) (fun _ q => nomatch q) (cells' := 10) (slots' := 24) rfl rfl (pc' := 96) rfl (fun r69 h72 q70 K71 => ?_)
        obtain ⟨a73, rfl, S74⟩ := q70
        show Run _ _ _ _ _ _ _ _ _ _ _ _ _ _ _ _ _ _ _ _ _ (mkF m 96 #[.val (.int p0), .val (.int p1), .val (.int p2), .val (.int c3), .val (.int c4), .val (.int c5), .val (.int c6), .val (.int (0 : Int32)), .val (.int (2 : Int32)), .val (.ref a67), .unset, .unset, .unset, .unset] [(.ref a73)])
        refine GoKit.astore G at_96 rfl (Ls' := #[.val (.int p0), .val (.int p1), .val (.int p2), .val (.int c3), .val (.int c4), .val (.int c5), .val (.int c6), .val (.int (0 : Int32)), .val (.int (2 : Int32)), .val (.ref a67), .val (.ref a73), .unset, .unset, .unset]) rfl (pc' := 98) rfl ?_
        refine GoKit.iloadN G at_98 rfl (pc' := 99) rfl ?_
        refine GoKit.iload G at_99 rfl (pc' := 101) rfl ?_
        refine GoKit.iload G at_101 rfl (pc' := 103) rfl ?_
        refine GoKit.iload G at_103 rfl (pc' := 105) rfl ?_
        refine GoKit.iload G at_105 rfl (pc' := 107) rfl ?_
        refine GoKit.iload G at_107 rfl (pc' := 109) rfl ?_
        refine GoKit.callStaticP G at_109 (wi hw 27 rfl) (wi hw 28 rfl) (wi hw 3 rfl) (wi hw 29 rfl) (by decide) (W := 0) (argsL := [(.int c3), (.int c4), (.int (0 : Int32)), (.int c5), (.int c6), (.int (2 : Int32))]) (rest := []) (con_ref02 l hw c3 c4 c5 c6) rfl (lenOf pd_22 rfl) rfl (by decide) (Nat.le_of_eq rfl) (by decide) (by decide) (by decide) (cells' := 10) (slots' := 24) rfl rfl (pc' := 112) rfl ?_
        show Run _ _ _ _ _ _ _ _ _ _ _ _ _ _ _ _ _ _ _ _ _ (mkF m 112 #[.val (.int p0), .val (.int p1), .val (.int p2), .val (.int c3), .val (.int c4), .val (.int c5), .val (.int c6), .val (.int (0 : Int32)), .val (.int (2 : Int32)), .val (.ref a67), .val (.ref a73), .unset, .unset, .unset] [(.int (refF [] [c5, c6]))])
        refine GoKit.istore G at_112 (Ls' := #[.val (.int p0), .val (.int p1), .val (.int p2), .val (.int c3), .val (.int c4), .val (.int c5), .val (.int c6), .val (.int (0 : Int32)), .val (.int (2 : Int32)), .val (.ref a67), .val (.ref a73), .val (.int (refF [] [c5, c6])), .unset, .unset]) rfl (pc' := 114) rfl ?_
        refine GoKit.aload G at_114 rfl rfl (pc' := 116) rfl ?_
        refine GoKit.aload G at_116 rfl rfl (pc' := 118) rfl ?_
        have KP75 : Keep h66 h72 [] := ((Keep.refl h66 []).trans K71 all0)
        refine GoKit.callStatic G at_118 (wi hw 33 rfl) (wi hw 34 rfl) (wi hw 35 rfl) (wi hw 36 rfl) (by decide) (owc := []) (W := 0) (argsL := [(.ref a67), (.ref a73)]) (rest := []) (con_compare l hw (str_keep S68 KP75) S74 HC HF HU) rfl (lenOf pd_23 rfl) rfl (by decide) (Nat.le_of_eq rfl) (by decide) (by decide) (by decide) (fun _ q => nomatch q) (cells' := 10) (slots' := 24) rfl rfl (pc' := 121) rfl (fun r76 h79 q77 K78 => ?_)
        obtain ⟨r80, rfl, hr81⟩ := q77
        show Run _ _ _ _ _ _ _ _ _ _ _ _ _ _ _ _ _ _ _ _ _ (mkF m 121 #[.val (.int p0), .val (.int p1), .val (.int p2), .val (.int c3), .val (.int c4), .val (.int c5), .val (.int c6), .val (.int (0 : Int32)), .val (.int (2 : Int32)), .val (.ref a67), .val (.ref a73), .val (.int (refF [] [c5, c6])), .unset, .unset] [(.int r80)])
        refine GoKit.callStaticP G at_121 (wi hw 56 rfl) (wi hw 57 rfl) (wi hw 3 rfl) (wi hw 58 rfl) (by decide) (W := 0) (argsL := [(.int r80)]) (rest := []) (con_sgn l hw r80) rfl (lenOf pd_4 rfl) rfl (by decide) (Nat.le_of_eq rfl) (by decide) (by decide) (by decide) (cells' := 10) (slots' := 24) rfl rfl (pc' := 124) rfl ?_
        show Run _ _ _ _ _ _ _ _ _ _ _ _ _ _ _ _ _ _ _ _ _ (mkF m 124 #[.val (.int p0), .val (.int p1), .val (.int p2), .val (.int c3), .val (.int c4), .val (.int c5), .val (.int c6), .val (.int (0 : Int32)), .val (.int (2 : Int32)), .val (.ref a67), .val (.ref a73), .val (.int (refF [] [c5, c6])), .unset, .unset] [(.int (sgnI r80))])
        refine GoKit.istore G at_124 (Ls' := #[.val (.int p0), .val (.int p1), .val (.int p2), .val (.int c3), .val (.int c4), .val (.int c5), .val (.int c6), .val (.int (0 : Int32)), .val (.int (2 : Int32)), .val (.ref a67), .val (.ref a73), .val (.int (refF [] [c5, c6])), .val (.int (sgnI r80)), .unset]) rfl (pc' := 126) rfl ?_
        refine GoKit.aload G at_126 rfl rfl (pc' := 128) rfl ?_
        refine GoKit.aload G at_128 rfl rfl (pc' := 130) rfl ?_
        have KP82 : Keep h72 h79 [] := ((Keep.refl h72 []).trans K78 all0)
        have KP83 : Keep h66 h79 [] := (KP75.trans K78 all0)
        refine GoKit.callStatic G at_130 (wi hw 33 rfl) (wi hw 34 rfl) (wi hw 35 rfl) (wi hw 36 rfl) (by decide) (owc := []) (W := 0) (argsL := [(.ref a73), (.ref a67)]) (rest := []) (con_compare l hw (str_keep S74 KP82) (str_keep S68 KP83) HC HF HU) rfl (lenOf pd_23 rfl) rfl (by decide) (Nat.le_of_eq rfl) (by decide) (by decide) (by decide) (fun _ q => nomatch q) (cells' := 10) (slots' := 24) rfl rfl (pc' := 133) rfl (fun r84 h87 q85 K86 => ?_)
        obtain ⟨r88, rfl, hr89⟩ := q85
        show Run _ _ _ _ _ _ _ _ _ _ _ _ _ _ _ _ _ _ _ _ _ (mkF m 133 #[.val (.int p0), .val (.int p1), .val (.int p2), .val (.int c3), .val (.int c4), .val (.int c5), .val (.int c6), .val (.int (0 : Int32)), .val (.int (2 : Int32)), .val (.ref a67), .val (.ref a73), .val (.int (refF [] [c5, c6])), .val (.int (sgnI r80)), .unset] [(.int r88)])
        refine GoKit.callStaticP G at_133 (wi hw 56 rfl) (wi hw 57 rfl) (wi hw 3 rfl) (wi hw 58 rfl) (by decide) (W := 0) (argsL := [(.int r88)]) (rest := []) (con_sgn l hw r88) rfl (lenOf pd_4 rfl) rfl (by decide) (Nat.le_of_eq rfl) (by decide) (by decide) (by decide) (cells' := 10) (slots' := 24) rfl rfl (pc' := 136) rfl ?_
        show Run _ _ _ _ _ _ _ _ _ _ _ _ _ _ _ _ _ _ _ _ _ (mkF m 136 #[.val (.int p0), .val (.int p1), .val (.int p2), .val (.int c3), .val (.int c4), .val (.int c5), .val (.int c6), .val (.int (0 : Int32)), .val (.int (2 : Int32)), .val (.ref a67), .val (.ref a73), .val (.int (refF [] [c5, c6])), .val (.int (sgnI r80)), .unset] [(.int (sgnI r88))])
        refine GoKit.istore G at_136 (Ls' := #[.val (.int p0), .val (.int p1), .val (.int p2), .val (.int c3), .val (.int c4), .val (.int c5), .val (.int c6), .val (.int (0 : Int32)), .val (.int (2 : Int32)), .val (.ref a67), .val (.ref a73), .val (.int (refF [] [c5, c6])), .val (.int (sgnI r80)), .val (.int (sgnI r88))]) rfl (pc' := 138) rfl ?_
        refine GoKit.iload G at_138 rfl (pc' := 140) rfl ?_
        refine GoKit.iload G at_140 rfl (pc' := 142) rfl ?_
        refine GoKit.icmp_ne_f G at_142 hr81 (pc' := 145) rfl ?_
        refine GoKit.iload G at_145 rfl (pc' := 147) rfl ?_
        refine GoKit.iload G at_147 rfl (pc' := 149) rfl ?_
        refine GoKit.ineg G at_149 (pc' := 150) rfl (fun v90 hqv90 => ?_)
        refine GoKit.icmp_ne_f G at_150 (hr89.trans ((refF_anti _ _).trans hqv90.symm)) (pc' := 153) rfl ?_
        refine GoKit.iconst G (1 : Int32) at_153 rfl (pc' := 154) rfl ?_
        refine GoKit.goto G at_154 (by decide) (pc' := 158) rfl ?_
        refine GoKit.retNar G at_158 (t := .boolean) rfl (by simp) (by decide) (by decide) ?_
        exact rfl
    · refine GoKit.istore G at_63 (Ls' := #[.val (.int p0), .val (.int p1), .val (.int p2), .val (.int c3), .val (.int c4), .val (.int c5), .val (.int c6), .val (.int (1 : Int32)), .unset, .unset, .unset, .unset, .unset, .unset]) rfl (pc' := 65) rfl ?_
      refine GoKit.iloadN G at_65 rfl (pc' := 66) rfl ?_
      refine GoKit.bipush G (10 : Int32) at_66 rfl (pc' := 68) rfl ?_
      refine GoKit.iushr G at_68 (pc' := 69) rfl (fun v91 hqv91 => ?_)
      refine GoKit.sipush G (255 : Int32) at_69 rfl (pc' := 72) rfl ?_
      refine GoKit.iand G at_72 (pc' := 73) rfl (fun v92 hqv92 => ?_)
      refine GoKit.iconst G (3 : Int32) at_73 rfl (pc' := 74) rfl ?_
      refine GoKit.irem G at_74 (by decide) (pc' := 75) rfl (fun v93 hqv93 => ?_)
      rcases cases3 (v := v93) (and255_rem hqv92 hqv93) with rfl | rfl | rfl
      · refine GoKit.istore G at_75 (Ls' := #[.val (.int p0), .val (.int p1), .val (.int p2), .val (.int c3), .val (.int c4), .val (.int c5), .val (.int c6), .val (.int (1 : Int32)), .val (.int (0 : Int32)), .unset, .unset, .unset, .unset, .unset]) rfl (pc' := 77) rfl ?_
        refine GoKit.iloadN G at_77 rfl (pc' := 78) rfl ?_
        refine GoKit.iload G at_78 rfl (pc' := 80) rfl ?_
        refine GoKit.iload G at_80 rfl (pc' := 82) rfl ?_
        refine GoKit.callStatic G at_82 (wi hw 1 rfl) (wi hw 2 rfl) (wi hw 3 rfl) (wi hw 4 rfl) (by decide) (owc := []) (W := 0) (argsL := [(.int c3), (.int c4), (.int (1 : Int32))]) (rest := []) (con_make1 l hw H3 H4 HC HU) rfl (lenOf pd_21 rfl) rfl (by decide) (Nat.le_of_eq rfl) (by decide) (by decide) (by decide) (fun _ q => nomatch q) (cells' := 4) (slots' := 11) rfl rfl (pc' := 85) rfl (fun r94 h97 q95 K96 => ?_)
        obtain ⟨a98, rfl, S99⟩ := q95
        show Run _ _ _ _ _ _ _ _ _ _ _ _ _ _ _ _ _ _ _ _ _ (mkF m 85 #[.val (.int p0), .val (.int p1), .val (.int p2), .val (.int c3), .val (.int c4), .val (.int c5), .val (.int c6), .val (.int (1 : Int32)), .val (.int (0 : Int32)), .unset, .unset, .unset, .unset, .unset] [(.ref a98)])
        refine GoKit.astore G at_85 rfl (Ls' := #[.val (.int p0), .val (.int p1), .val (.int p2), .val (.int c3), .val (.int c4), .val (.int c5), .val (.int c6), .val (.int (1 : Int32)), .val (.int (0 : Int32)), .val (.ref a98), .unset, .unset, .unset, .unset]) rfl (pc' := 87) rfl ?_
        refine GoKit.iload G at_87 rfl (pc' := 89) rfl ?_
        refine GoKit.iload G at_89 rfl (pc' := 91) rfl ?_
        refine GoKit.iload G at_91 rfl (pc' := 93) rfl ?_
        refine GoKit.callStatic G at_93 (wi hw 1 rfl) (wi hw 2 rfl) (wi hw 3 rfl) (wi hw 4 rfl) (by decide) (owc := []) (W := 0) (argsL := [(.int c5), (.int c6), (.int (0 : Int32))]) (rest := []) (con_make0 l hw H5 H6 HC HU) rfl (lenOf pd_21 rfl) rfl (by decide) (Nat.le_of_eq rfl) (by decide) (by decide) (by decide) (fun _ q => nomatch q) (cells' := 10) (slots' := 23) rfl rfl (pc' := 96) rfl (fun r100 h103 q101 K102 => ?_)
        obtain ⟨a104, rfl, S105⟩ := q101
        show Run _ _ _ _ _ _ _ _ _ _ _ _ _ _ _ _ _ _ _ _ _ (mkF m 96 #[.val (.int p0), .val (.int p1), .val (.int p2), .val (.int c3), .val (.int c4), .val (.int c5), .val (.int c6), .val (.int (1 : Int32)), .val (.int (0 : Int32)), .val (.ref a98), .unset, .unset, .unset, .unset] [(.ref a104)])
        refine GoKit.astore G at_96 rfl (Ls' := #[.val (.int p0), .val (.int p1), .val (.int p2), .val (.int c3), .val (.int c4), .val (.int c5), .val (.int c6), .val (.int (1 : Int32)), .val (.int (0 : Int32)), .val (.ref a98), .val (.ref a104), .unset, .unset, .unset]) rfl (pc' := 98) rfl ?_
        refine GoKit.iloadN G at_98 rfl (pc' := 99) rfl ?_
        refine GoKit.iload G at_99 rfl (pc' := 101) rfl ?_
        refine GoKit.iload G at_101 rfl (pc' := 103) rfl ?_
        refine GoKit.iload G at_103 rfl (pc' := 105) rfl ?_
        refine GoKit.iload G at_105 rfl (pc' := 107) rfl ?_
        refine GoKit.iload G at_107 rfl (pc' := 109) rfl ?_
        refine GoKit.callStaticP G at_109 (wi hw 27 rfl) (wi hw 28 rfl) (wi hw 3 rfl) (wi hw 29 rfl) (by decide) (W := 0) (argsL := [(.int c3), (.int c4), (.int (1 : Int32)), (.int c5), (.int c6), (.int (0 : Int32))]) (rest := []) (con_ref10 l hw c3 c4 c5 c6) rfl (lenOf pd_22 rfl) rfl (by decide) (Nat.le_of_eq rfl) (by decide) (by decide) (by decide) (cells' := 10) (slots' := 23) rfl rfl (pc' := 112) rfl ?_
        show Run _ _ _ _ _ _ _ _ _ _ _ _ _ _ _ _ _ _ _ _ _ (mkF m 112 #[.val (.int p0), .val (.int p1), .val (.int p2), .val (.int c3), .val (.int c4), .val (.int c5), .val (.int c6), .val (.int (1 : Int32)), .val (.int (0 : Int32)), .val (.ref a98), .val (.ref a104), .unset, .unset, .unset] [(.int (refF [c3] []))])
        refine GoKit.istore G at_112 (Ls' := #[.val (.int p0), .val (.int p1), .val (.int p2), .val (.int c3), .val (.int c4), .val (.int c5), .val (.int c6), .val (.int (1 : Int32)), .val (.int (0 : Int32)), .val (.ref a98), .val (.ref a104), .val (.int (refF [c3] [])), .unset, .unset]) rfl (pc' := 114) rfl ?_
        refine GoKit.aload G at_114 rfl rfl (pc' := 116) rfl ?_
        refine GoKit.aload G at_116 rfl rfl (pc' := 118) rfl ?_
        have KP106 : Keep h97 h103 [] := ((Keep.refl h97 []).trans K102 all0)
        refine GoKit.callStatic G at_118 (wi hw 33 rfl) (wi hw 34 rfl) (wi hw 35 rfl) (wi hw 36 rfl) (by decide) (owc := []) (W := 0) (argsL := [(.ref a98), (.ref a104)]) (rest := []) (con_compare l hw (str_keep S99 KP106) S105 HC HF HU) rfl (lenOf pd_23 rfl) rfl (by decide) (Nat.le_of_eq rfl) (by decide) (by decide) (by decide) (fun _ q => nomatch q) (cells' := 10) (slots' := 23) rfl rfl (pc' := 121) rfl (fun r107 h110 q108 K109 => ?_)
        obtain ⟨r111, rfl, hr112⟩ := q108
        show Run _ _ _ _ _ _ _ _ _ _ _ _ _ _ _ _ _ _ _ _ _ (mkF m 121 #[.val (.int p0), .val (.int p1), .val (.int p2), .val (.int c3), .val (.int c4), .val (.int c5), .val (.int c6), .val (.int (1 : Int32)), .val (.int (0 : Int32)), .val (.ref a98), .val (.ref a104), .val (.int (refF [c3] [])), .unset, .unset] [(.int r111)])
        refine GoKit.callStaticP G at_121 (wi hw 56 rfl) (wi hw 57 rfl) (wi hw 3 rfl) (wi hw 58 rfl) (by decide) (W := 0) (argsL := [(.int r111)]) (rest := []) (con_sgn l hw r111) rfl (lenOf pd_4 rfl) rfl (by decide) (Nat.le_of_eq rfl) (by decide) (by decide) (by decide) (cells' := 10) (slots' := 23) rfl rfl (pc' := 124) rfl ?_
        show Run _ _ _ _ _ _ _ _ _ _ _ _ _ _ _ _ _ _ _ _ _ (mkF m 124 #[.val (.int p0), .val (.int p1), .val (.int p2), .val (.int c3), .val (.int c4), .val (.int c5), .val (.int c6), .val (.int (1 : Int32)), .val (.int (0 : Int32)), .val (.ref a98), .val (.ref a104), .val (.int (refF [c3] [])), .unset, .unset] [(.int (sgnI r111))])
        refine GoKit.istore G at_124 (Ls' := #[.val (.int p0), .val (.int p1), .val (.int p2), .val (.int c3), .val (.int c4), .val (.int c5), .val (.int c6), .val (.int (1 : Int32)), .val (.int (0 : Int32)), .val (.ref a98), .val (.ref a104), .val (.int (refF [c3] [])), .val (.int (sgnI r111)), .unset]) rfl (pc' := 126) rfl ?_
        refine GoKit.aload G at_126 rfl rfl (pc' := 128) rfl ?_
        refine GoKit.aload G at_128 rfl rfl (pc' := 130) rfl ?_
        have KP113 : Keep h103 h110 [] := ((Keep.refl h103 []).trans K109 all0)
        have KP114 : Keep h97 h110 [] := (KP106.trans K109 all0)
        refine GoKit.callStatic G at_130 (wi hw 33 rfl) (wi hw 34 rfl) (wi hw 35 rfl) (wi hw 36 rfl) (by decide) (owc := []) (W := 0) (argsL := [(.ref a104), (.ref a98)]) (rest := []) (con_compare l hw (str_keep S105 KP113) (str_keep S99 KP114) HC HF HU) rfl (lenOf pd_23 rfl) rfl (by decide) (Nat.le_of_eq rfl) (by decide) (by decide) (by decide) (fun _ q => nomatch q) (cells' := 10) (slots' := 23) rfl rfl (pc' := 133) rfl (fun r115 h118 q116 K117 => ?_)
        obtain ⟨r119, rfl, hr120⟩ := q116
        show Run _ _ _ _ _ _ _ _ _ _ _ _ _ _ _ _ _ _ _ _ _ (mkF m 133 #[.val (.int p0), .val (.int p1), .val (.int p2), .val (.int c3), .val (.int c4), .val (.int c5), .val (.int c6), .val (.int (1 : Int32)), .val (.int (0 : Int32)), .val (.ref a98), .val (.ref a104), .val (.int (refF [c3] [])), .val (.int (sgnI r111)), .unset] [(.int r119)])
        refine GoKit.callStaticP G at_133 (wi hw 56 rfl) (wi hw 57 rfl) (wi hw 3 rfl) (wi hw 58 rfl) (by decide) (W := 0) (argsL := [(.int r119)]) (rest := []) (con_sgn l hw r119) rfl (lenOf pd_4 rfl) rfl (by decide) (Nat.le_of_eq rfl) (by decide) (by decide) (by decide) (cells' := 10) (slots' := 23) rfl rfl (pc' := 136) rfl ?_
        show Run _ _ _ _ _ _ _ _ _ _ _ _ _ _ _ _ _ _ _ _ _ (mkF m 136 #[.val (.int p0), .val (.int p1), .val (.int p2), .val (.int c3), .val (.int c4), .val (.int c5), .val (.int c6), .val (.int (1 : Int32)), .val (.int (0 : Int32)), .val (.ref a98), .val (.ref a104), .val (.int (refF [c3] [])), .val (.int (sgnI r111)), .unset] [(.int (sgnI r119))])
        refine GoKit.istore G at_136 (Ls' := #[.val (.int p0), .val (.int p1), .val (.int p2), .val (.int c3), .val (.int c4), .val (.int c5), .val (.int c6), .val (.int (1 : Int32)), .val (.int (0 : Int32)), .val (.ref a98), .val (.ref a104), .val (.int (refF [c3] [])), .val (.int (sgnI r111)), .val (.int (sgnI r119))]) rfl (pc' := 138) rfl ?_
        refine GoKit.iload G at_138 rfl (pc' := 140) rfl ?_
        refine GoKit.iload G at_140 rfl (pc' := 142) rfl ?_
        refine GoKit.icmp_ne_f G at_142 hr112 (pc' := 145) rfl ?_
        refine GoKit.iload G at_145 rfl (pc' := 147) rfl ?_
        refine GoKit.iload G at_147 rfl (pc' := 149) rfl ?_
        refine GoKit.ineg G at_149 (pc' := 150) rfl (fun v121 hqv121 => ?_)
        refine GoKit.icmp_ne_f G at_150 (hr120.trans ((refF_anti _ _).trans hqv121.symm)) (pc' := 153) rfl ?_
        refine GoKit.iconst G (1 : Int32) at_153 rfl (pc' := 154) rfl ?_
        refine GoKit.goto G at_154 (by decide) (pc' := 158) rfl ?_
        refine GoKit.retNar G at_158 (t := .boolean) rfl (by simp) (by decide) (by decide) ?_
        exact rfl
      · refine GoKit.istore G at_75 (Ls' := #[.val (.int p0), .val (.int p1), .val (.int p2), .val (.int c3), .val (.int c4), .val (.int c5), .val (.int c6), .val (.int (1 : Int32)), .val (.int (1 : Int32)), .unset, .unset, .unset, .unset, .unset]) rfl (pc' := 77) rfl ?_
        refine GoKit.iloadN G at_77 rfl (pc' := 78) rfl ?_
        refine GoKit.iload G at_78 rfl (pc' := 80) rfl ?_
        refine GoKit.iload G at_80 rfl (pc' := 82) rfl ?_
        refine GoKit.callStatic G at_82 (wi hw 1 rfl) (wi hw 2 rfl) (wi hw 3 rfl) (wi hw 4 rfl) (by decide) (owc := []) (W := 0) (argsL := [(.int c3), (.int c4), (.int (1 : Int32))]) (rest := []) (con_make1 l hw H3 H4 HC HU) rfl (lenOf pd_21 rfl) rfl (by decide) (Nat.le_of_eq rfl) (by decide) (by decide) (by decide) (fun _ q => nomatch q) (cells' := 4) (slots' := 11) rfl rfl (pc' := 85) rfl (fun r122 h125 q123 K124 => ?_)
        obtain ⟨a126, rfl, S127⟩ := q123
        show Run _ _ _ _ _ _ _ _ _ _ _ _ _ _ _ _ _ _ _ _ _ (mkF m 85 #[.val (.int p0), .val (.int p1), .val (.int p2), .val (.int c3), .val (.int c4), .val (.int c5), .val (.int c6), .val (.int (1 : Int32)), .val (.int (1 : Int32)), .unset, .unset, .unset, .unset, .unset] [(.ref a126)])
        refine GoKit.astore G at_85 rfl (Ls' := #[.val (.int p0), .val (.int p1), .val (.int p2), .val (.int c3), .val (.int c4), .val (.int c5), .val (.int c6), .val (.int (1 : Int32)), .val (.int (1 : Int32)), .val (.ref a126), .unset, .unset, .unset, .unset]) rfl (pc' := 87) rfl ?_
        refine GoKit.iload G at_87 rfl (pc' := 89) rfl ?_
        refine GoKit.iload G at_89 rfl (pc' := 91) rfl ?_
        refine GoKit.iload G at_91 rfl (pc' := 93) rfl ?_
        refine GoKit.callStatic G at_93 (wi hw 1 rfl) (wi hw 2 rfl) (wi hw 3 rfl) (wi hw 4 rfl) (by decide) (owc := []) (W := 0) (argsL := [(.int c5), (.int c6), (.int (1 : Int32))]) (rest := []) (con_make1 l hw H5 H6 HC HU) rfl (lenOf pd_21 rfl) rfl (by decide) (Nat.le_of_eq rfl) (by decide) (by decide) (by decide) (fun _ q => nomatch q) (cells' := 8) (slots' := 22) rfl rfl (pc' := 96) rfl (fun r128 h131 q129 K130 => ?_)
        obtain ⟨a132, rfl, S133⟩ := q129
        show Run _ _ _ _ _ _ _ _ _ _ _ _ _ _ _ _ _ _ _ _ _ (mkF m 96 #[.val (.int p0), .val (.int p1), .val (.int p2), .val (.int c3), .val (.int c4), .val (.int c5), .val (.int c6), .val (.int (1 : Int32)), .val (.int (1 : Int32)), .val (.ref a126), .unset, .unset, .unset, .unset] [(.ref a132)])
        refine GoKit.astore G at_96 rfl (Ls' := #[.val (.int p0), .val (.int p1), .val (.int p2), .val (.int c3), .val (.int c4), .val (.int c5), .val (.int c6), .val (.int (1 : Int32)), .val (.int (1 : Int32)), .val (.ref a126), .val (.ref a132), .unset, .unset, .unset]) rfl (pc' := 98) rfl ?_
        refine GoKit.iloadN G at_98 rfl (pc' := 99) rfl ?_
        refine GoKit.iload G at_99 rfl (pc' := 101) rfl ?_
        refine GoKit.iload G at_101 rfl (pc' := 103) rfl ?_
        refine GoKit.iload G at_103 rfl (pc' := 105) rfl ?_
        refine GoKit.iload G at_105 rfl (pc' := 107) rfl ?_
        refine GoKit.iload G at_107 rfl (pc' := 109) rfl ?_
        refine GoKit.callStaticP G at_109 (wi hw 27 rfl) (wi hw 28 rfl) (wi hw 3 rfl) (wi hw 29 rfl) (by decide) (W := 0) (argsL := [(.int c3), (.int c4), (.int (1 : Int32)), (.int c5), (.int c6), (.int (1 : Int32))]) (rest := []) (con_ref11 l hw c3 c4 c5 c6) rfl (lenOf pd_22 rfl) rfl (by decide) (Nat.le_of_eq rfl) (by decide) (by decide) (by decide) (cells' := 8) (slots' := 22) rfl rfl (pc' := 112) rfl ?_
        show Run _ _ _ _ _ _ _ _ _ _ _ _ _ _ _ _ _ _ _ _ _ (mkF m 112 #[.val (.int p0), .val (.int p1), .val (.int p2), .val (.int c3), .val (.int c4), .val (.int c5), .val (.int c6), .val (.int (1 : Int32)), .val (.int (1 : Int32)), .val (.ref a126), .val (.ref a132), .unset, .unset, .unset] [(.int (refF [c3] [c5]))])
        refine GoKit.istore G at_112 (Ls' := #[.val (.int p0), .val (.int p1), .val (.int p2), .val (.int c3), .val (.int c4), .val (.int c5), .val (.int c6), .val (.int (1 : Int32)), .val (.int (1 : Int32)), .val (.ref a126), .val (.ref a132), .val (.int (refF [c3] [c5])), .unset, .unset]) rfl (pc' := 114) rfl ?_
        refine GoKit.aload G at_114 rfl rfl (pc' := 116) rfl ?_
        refine GoKit.aload G at_116 rfl rfl (pc' := 118) rfl ?_
        have KP134 : Keep h125 h131 [] := ((Keep.refl h125 []).trans K130 all0)
        refine GoKit.callStatic G at_118 (wi hw 33 rfl) (wi hw 34 rfl) (wi hw 35 rfl) (wi hw 36 rfl) (by decide) (owc := []) (W := 0) (argsL := [(.ref a126), (.ref a132)]) (rest := []) (con_compare l hw (str_keep S127 KP134) S133 HC HF HU) rfl (lenOf pd_23 rfl) rfl (by decide) (Nat.le_of_eq rfl) (by decide) (by decide) (by decide) (fun _ q => nomatch q) (cells' := 8) (slots' := 22) rfl rfl (pc' := 121) rfl (fun r135 h138 q136 K137 => ?_)
        obtain ⟨r139, rfl, hr140⟩ := q136
        show Run _ _ _ _ _ _ _ _ _ _ _ _ _ _ _ _ _ _ _ _ _ (mkF m 121 #[.val (.int p0), .val (.int p1), .val (.int p2), .val (.int c3), .val (.int c4), .val (.int c5), .val (.int c6), .val (.int (1 : Int32)), .val (.int (1 : Int32)), .val (.ref a126), .val (.ref a132), .val (.int (refF [c3] [c5])), .unset, .unset] [(.int r139)])
        refine GoKit.callStaticP G at_121 (wi hw 56 rfl) (wi hw 57 rfl) (wi hw 3 rfl) (wi hw 58 rfl) (by decide) (W := 0) (argsL := [(.int r139)]) (rest := []) (con_sgn l hw r139) rfl (lenOf pd_4 rfl) rfl (by decide) (Nat.le_of_eq rfl) (by decide) (by decide) (by decide) (cells' := 8) (slots' := 22) rfl rfl (pc' := 124) rfl ?_
        show Run _ _ _ _ _ _ _ _ _ _ _ _ _ _ _ _ _ _ _ _ _ (mkF m 124 #[.val (.int p0), .val (.int p1), .val (.int p2), .val (.int c3), .val (.int c4), .val (.int c5), .val (.int c6), .val (.int (1 : Int32)), .val (.int (1 : Int32)), .val (.ref a126), .val (.ref a132), .val (.int (refF [c3] [c5])), .unset, .unset] [(.int (sgnI r139))])
        refine GoKit.istore G at_124 (Ls' := #[.val (.int p0), .val (.int p1), .val (.int p2), .val (.int c3), .val (.int c4), .val (.int c5), .val (.int c6), .val (.int (1 : Int32)), .val (.int (1 : Int32)), .val (.ref a126), .val (.ref a132), .val (.int (refF [c3] [c5])), .val (.int (sgnI r139)), .unset]) rfl (pc' := 126) rfl ?_
        refine GoKit.aload G at_126 rfl rfl (pc' := 128) rfl ?_
        refine GoKit.aload G at_128 rfl rfl (pc' := 130) rfl ?_
        have KP141 : Keep h131 h138 [] := ((Keep.refl h131 []).trans K137 all0)
        have KP142 : Keep h125 h138 [] := (KP134.trans K137 all0)
        refine GoKit.callStatic G at_130 (wi hw 33 rfl) (wi hw 34 rfl) (wi hw 35 rfl) (wi hw 36 rfl) (by decide) (owc := []) (W := 0) (argsL := [(.ref a132), (.ref a126)]) (rest := []) (con_compare l hw (str_keep S133 KP141) (str_keep S127 KP142) HC HF HU) rfl (lenOf pd_23 rfl) rfl (by decide) (Nat.le_of_eq rfl) (by decide) (by decide) (by decide) (fun _ q => nomatch q) (cells' := 8) (slots' := 22) rfl rfl (pc' := 133) rfl (fun r143 h146 q144 K145 => ?_)
        obtain ⟨r147, rfl, hr148⟩ := q144
        show Run _ _ _ _ _ _ _ _ _ _ _ _ _ _ _ _ _ _ _ _ _ (mkF m 133 #[.val (.int p0), .val (.int p1), .val (.int p2), .val (.int c3), .val (.int c4), .val (.int c5), .val (.int c6), .val (.int (1 : Int32)), .val (.int (1 : Int32)), .val (.ref a126), .val (.ref a132), .val (.int (refF [c3] [c5])), .val (.int (sgnI r139)), .unset] [(.int r147)])
        refine GoKit.callStaticP G at_133 (wi hw 56 rfl) (wi hw 57 rfl) (wi hw 3 rfl) (wi hw 58 rfl) (by decide) (W := 0) (argsL := [(.int r147)]) (rest := []) (con_sgn l hw r147) rfl (lenOf pd_4 rfl) rfl (by decide) (Nat.le_of_eq rfl) (by decide) (by decide) (by decide) (cells' := 8) (slots' := 22) rfl rfl (pc' := 136) rfl ?_
        show Run _ _ _ _ _ _ _ _ _ _ _ _ _ _ _ _ _ _ _ _ _ (mkF m 136 #[.val (.int p0), .val (.int p1), .val (.int p2), .val (.int c3), .val (.int c4), .val (.int c5), .val (.int c6), .val (.int (1 : Int32)), .val (.int (1 : Int32)), .val (.ref a126), .val (.ref a132), .val (.int (refF [c3] [c5])), .val (.int (sgnI r139)), .unset] [(.int (sgnI r147))])
        refine GoKit.istore G at_136 (Ls' := #[.val (.int p0), .val (.int p1), .val (.int p2), .val (.int c3), .val (.int c4), .val (.int c5), .val (.int c6), .val (.int (1 : Int32)), .val (.int (1 : Int32)), .val (.ref a126), .val (.ref a132), .val (.int (refF [c3] [c5])), .val (.int (sgnI r139)), .val (.int (sgnI r147))]) rfl (pc' := 138) rfl ?_
        refine GoKit.iload G at_138 rfl (pc' := 140) rfl ?_
        refine GoKit.iload G at_140 rfl (pc' := 142) rfl ?_
        refine GoKit.icmp_ne_f G at_142 hr140 (pc' := 145) rfl ?_
        refine GoKit.iload G at_145 rfl (pc' := 147) rfl ?_
        refine GoKit.iload G at_147 rfl (pc' := 149) rfl ?_
        refine GoKit.ineg G at_149 (pc' := 150) rfl (fun v149 hqv149 => ?_)
        refine GoKit.icmp_ne_f G at_150 (hr148.trans ((refF_anti _ _).trans hqv149.symm)) (pc' := 153) rfl ?_
        refine GoKit.iconst G (1 : Int32) at_153 rfl (pc' := 154) rfl ?_
        refine GoKit.goto G at_154 (by decide) (pc' := 158) rfl ?_
        refine GoKit.retNar G at_158 (t := .boolean) rfl (by simp) (by decide) (by decide) ?_
        exact rfl
      · refine GoKit.istore G at_75 (Ls' := #[.val (.int p0), .val (.int p1), .val (.int p2), .val (.int c3), .val (.int c4), .val (.int c5), .val (.int c6), .val (.int (1 : Int32)), .val (.int (2 : Int32)), .unset, .unset, .unset, .unset, .unset]) rfl (pc' := 77) rfl ?_
        refine GoKit.iloadN G at_77 rfl (pc' := 78) rfl ?_
        refine GoKit.iload G at_78 rfl (pc' := 80) rfl ?_
        refine GoKit.iload G at_80 rfl (pc' := 82) rfl ?_
        refine GoKit.callStatic G at_82 (wi hw 1 rfl) (wi hw 2 rfl) (wi hw 3 rfl) (wi hw 4 rfl) (by decide) (owc := []) (W := 0) (argsL := [(.int c3), (.int c4), (.int (1 : Int32))]) (rest := []) (con_make1 l hw H3 H4 HC HU) rfl (lenOf pd_21 rfl) rfl (by decide) (Nat.le_of_eq rfl) (by decide) (by decide) (by decide) (fun _ q => nomatch q) (cells' := 4) (slots' := 11) rfl rfl (pc' := 85) rfl (fun r150 h153 q151 K152 => ?_)
        obtain ⟨a154, rfl, S155⟩ := q151
        show Run _ _ _ _ _ _ _ _ _ _ _ _ _ _ _ _ _ _ _ _ _ (mkF m 85 #[.val (.int p0), .val (.int p1), .val (.int p2), .val (.int c3), .val (.int c4), .val (.int c5), .val (.int c6), .val (.int (1 : Int32)), .val (.int (2 : Int32)), .unset, .unset, .unset, .unset, .unset] [(.ref a154)])
        refine GoKit.astore G at_85 rfl (Ls' := #[.val (.int p0), .val (.int p1), .val (.int p2), .val (.int c3), .val (.int c4), .val (.int c5), .val (.int c6), .val (.int (1 : Int32)), .val (.int (2 : Int32)), .val (.ref a154), .unset, .unset, .unset, .unset]) rfl (pc' := 87) rfl ?_
        refine GoKit.iload G at_87 rfl (pc' := 89) rfl ?_
        refine GoKit.iload G at_89 rfl (pc' := 91) rfl ?_
        refine GoKit.iload G at_91 rfl (pc' := 93) rfl ?_
        refine GoKit.callStatic G at_93 (wi hw 1 rfl) (wi hw 2 rfl) (wi hw 3 rfl) (wi hw 4 rfl) (by decide) (owc := []) (W := 0) (argsL := [(.int c5), (.int c6), (.int (2 : Int32))]) (rest := []) (con_make2 l hw H5 H6 HC HU) rfl (lenOf pd_21 rfl) rfl (by decide) (Nat.le_of_eq rfl) (by decide) (by decide) (by decide) (fun _ q => nomatch q) (cells' := 8) (slots' := 23) rfl rfl (pc' := 96) rfl (fun r156 h159 q157 K158 => ?_)
        obtain ⟨a160, rfl, S161⟩ := q157
        show Run _ _ _ _ _ _ _ _ _ _ _ _ _ _ _ _ _ _ _ _ _ (mkF m 96 #[.val (.int p0), .val (.int p1), .val (.int p2), .val (.int c3), .val (.int c4), .val (.int c5), .val (.int c6), .val (.int (1 : Int32)), .val (.int (2 : Int32)), .val (.ref a154), .unset, .unset, .unset, .unset] [(.ref a160)])
        refine GoKit.astore G at_96 rfl (Ls' := #[.val (.int p0), .val (.int p1), .val (.int p2), .val (.int c3), .val (.int c4), .val (.int c5), .val (.int c6), .val (.int (1 : Int32)), .val (.int (2 : Int32)), .val (.ref a154), .val (.ref a160), .unset, .unset, .unset]) rfl (pc' := 98) rfl ?_
        refine GoKit.iloadN G at_98 rfl (pc' := 99) rfl ?_
        refine GoKit.iload G at_99 rfl (pc' := 101) rfl ?_
        refine GoKit.iload G at_101 rfl (pc' := 103) rfl ?_
        refine GoKit.iload G at_103 rfl (pc' := 105) rfl ?_
        refine GoKit.iload G at_105 rfl (pc' := 107) rfl ?_
        refine GoKit.iload G at_107 rfl (pc' := 109) rfl ?_
        refine GoKit.callStaticP G at_109 (wi hw 27 rfl) (wi hw 28 rfl) (wi hw 3 rfl) (wi hw 29 rfl) (by decide) (W := 0) (argsL := [(.int c3), (.int c4), (.int (1 : Int32)), (.int c5), (.int c6), (.int (2 : Int32))]) (rest := []) (con_ref12 l hw c3 c4 c5 c6) rfl (lenOf pd_22 rfl) rfl (by decide) (Nat.le_of_eq rfl) (by decide) (by decide) (by decide) (cells' := 8) (slots' := 23) rfl rfl (pc' := 112) rfl ?_
        show Run _ _ _ _ _ _ _ _ _ _ _ _ _ _ _ _ _ _ _ _ _ (mkF m 112 #[.val (.int p0), .val (.int p1), .val (.int p2), .val (.int c3), .val (.int c4), .val (.int c5), .val (.int c6), .val (.int (1 : Int32)), .val (.int (2 : Int32)), .val (.ref a154), .val (.ref a160), .unset, .unset, .unset] [(.int (refF [c3] [c5, c6]))])
        refine GoKit.istore G at_112 (Ls' := #[.val (.int p0), .val (.int p1), .val (.int p2), .val (.int c3), .val (.int c4), .val (.int c5), .val (.int c6), .val (.int (1 : Int32)), .val (.int (2 : Int32)), .val (.ref a154), .val (.ref a160), .val (.int (refF [c3] [c5, c6])), .unset, .unset]) rfl (pc' := 114) rfl ?_
        refine GoKit.aload G at_114 rfl rfl (pc' := 116) rfl ?_
        refine GoKit.aload G at_116 rfl rfl (pc' := 118) rfl ?_
        have KP162 : Keep h153 h159 [] := ((Keep.refl h153 []).trans K158 all0)
        refine GoKit.callStatic G at_118 (wi hw 33 rfl) (wi hw 34 rfl) (wi hw 35 rfl) (wi hw 36 rfl) (by decide) (owc := []) (W := 0) (argsL := [(.ref a154), (.ref a160)]) (rest := []) (con_compare l hw (str_keep S155 KP162) S161 HC HF HU) rfl (lenOf pd_23 rfl) rfl (by decide) (Nat.le_of_eq rfl) (by decide) (by decide) (by decide) (fun _ q => nomatch q) (cells' := 8) (slots' := 23) rfl rfl (pc' := 121) rfl (fun r163 h166 q164 K165 => ?_)
        obtain ⟨r167, rfl, hr168⟩ := q164
        show Run _ _ _ _ _ _ _ _ _ _ _ _ _ _ _ _ _ _ _ _ _ (mkF m 121 #[.val (.int p0), .val (.int p1), .val (.int p2), .val (.int c3), .val (.int c4), .val (.int c5), .val (.int c6), .val (.int (1 : Int32)), .val (.int (2 : Int32)), .val (.ref a154), .val (.ref a160), .val (.int (refF [c3] [c5, c6])), .unset, .unset] [(.int r167)])
        refine GoKit.callStaticP G at_121 (wi hw 56 rfl) (wi hw 57 rfl) (wi hw 3 rfl) (wi hw 58 rfl) (by decide) (W := 0) (argsL := [(.int r167)]) (rest := []) (con_sgn l hw r167) rfl (lenOf pd_4 rfl) rfl (by decide) (Nat.le_of_eq rfl) (by decide) (by decide) (by decide) (cells' := 8) (slots' := 23) rfl rfl (pc' := 124) rfl ?_
        show Run _ _ _ _ _ _ _ _ _ _ _ _ _ _ _ _ _ _ _ _ _ (mkF m 124 #[.val (.int p0), .val (.int p1), .val (.int p2), .val (.int c3), .val (.int c4), .val (.int c5), .val (.int c6), .val (.int (1 : Int32)), .val (.int (2 : Int32)), .val (.ref a154), .val (.ref a160), .val (.int (refF [c3] [c5, c6])), .unset, .unset] [(.int (sgnI r167))])
        refine GoKit.istore G at_124 (Ls' := #[.val (.int p0), .val (.int p1), .val (.int p2), .val (.int c3), .val (.int c4), .val (.int c5), .val (.int c6), .val (.int (1 : Int32)), .val (.int (2 : Int32)), .val (.ref a154), .val (.ref a160), .val (.int (refF [c3] [c5, c6])), .val (.int (sgnI r167)), .unset]) rfl (pc' := 126) rfl ?_
        refine GoKit.aload G at_126 rfl rfl (pc' := 128) rfl ?_
        refine GoKit.aload G at_128 rfl rfl (pc' := 130) rfl ?_
        have KP169 : Keep h159 h166 [] := ((Keep.refl h159 []).trans K165 all0)
        have KP170 : Keep h153 h166 [] := (KP162.trans K165 all0)
        refine GoKit.callStatic G at_130 (wi hw 33 rfl) (wi hw 34 rfl) (wi hw 35 rfl) (wi hw 36 rfl) (by decide) (owc := []) (W := 0) (argsL := [(.ref a160), (.ref a154)]) (rest := []) (con_compare l hw (str_keep S161 KP169) (str_keep S155 KP170) HC HF HU) rfl (lenOf pd_23 rfl) rfl (by decide) (Nat.le_of_eq rfl) (by decide) (by decide) (by decide) (fun _ q => nomatch q) (cells' := 8) (slots' := 23) rfl rfl (pc' := 133) rfl (fun r171 h174 q172 K173 => ?_)
        obtain ⟨r175, rfl, hr176⟩ := q172
        show Run _ _ _ _ _ _ _ _ _ _ _ _ _ _ _ _ _ _ _ _ _ (mkF m 133 #[.val (.int p0), .val (.int p1), .val (.int p2), .val (.int c3), .val (.int c4), .val (.int c5), .val (.int c6), .val (.int (1 : Int32)), .val (.int (2 : Int32)), .val (.ref a154), .val (.ref a160), .val (.int (refF [c3] [c5, c6])), .val (.int (sgnI r167)), .unset] [(.int r175)])
        refine GoKit.callStaticP G at_133 (wi hw 56 rfl) (wi hw 57 rfl) (wi hw 3 rfl) (wi hw 58 rfl) (by decide) (W := 0) (argsL := [(.int r175)]) (rest := []) (con_sgn l hw r175) rfl (lenOf pd_4 rfl) rfl (by decide) (Nat.le_of_eq rfl) (by decide) (by decide) (by decide) (cells' := 8) (slots' := 23) rfl rfl (pc' := 136) rfl ?_
        show Run _ _ _ _ _ _ _ _ _ _ _ _ _ _ _ _ _ _ _ _ _ (mkF m 136 #[.val (.int p0), .val (.int p1), .val (.int p2), .val (.int c3), .val (.int c4), .val (.int c5), .val (.int c6), .val (.int (1 : Int32)), .val (.int (2 : Int32)), .val (.ref a154), .val (.ref a160), .val (.int (refF [c3] [c5, c6])), .val (.int (sgnI r167)), .unset] [(.int (sgnI r175))])
        refine GoKit.istore G at_136 (Ls' := #[.val (.int p0), .val (.int p1), .val (.int p2), .val (.int c3), .val (.int c4), .val (.int c5), .val (.int c6), .val (.int (1 : Int32)), .val (.int (2 : Int32)), .val (.ref a154), .val (.ref a160), .val (.int (refF [c3] [c5, c6])), .val (.int (sgnI r167)), .val (.int (sgnI r175))]) rfl (pc' := 138) rfl ?_
        refine GoKit.iload G at_138 rfl (pc' := 140) rfl ?_
        refine GoKit.iload G at_140 rfl (pc' := 142) rfl ?_
        refine GoKit.icmp_ne_f G at_142 hr168 (pc' := 145) rfl ?_
        refine GoKit.iload G at_145 rfl (pc' := 147) rfl ?_
        refine GoKit.iload G at_147 rfl (pc' := 149) rfl ?_
        refine GoKit.ineg G at_149 (pc' := 150) rfl (fun v177 hqv177 => ?_)
        refine GoKit.icmp_ne_f G at_150 (hr176.trans ((refF_anti _ _).trans hqv177.symm)) (pc' := 153) rfl ?_
        refine GoKit.iconst G (1 : Int32) at_153 rfl (pc' := 154) rfl ?_
        refine GoKit.goto G at_154 (by decide) (pc' := 158) rfl ?_
        refine GoKit.retNar G at_158 (t := .boolean) rfl (by simp) (by decide) (by decide) ?_
        exact rfl
    · refine GoKit.istore G at_63 (Ls' := #[.val (.int p0), .val (.int p1), .val (.int p2), .val (.int c3), .val (.int c4), .val (.int c5), .val (.int c6), .val (.int (2 : Int32)), .unset, .unset, .unset, .unset, .unset, .unset]) rfl (pc' := 65) rfl ?_
      refine GoKit.iloadN G at_65 rfl (pc' := 66) rfl ?_
      refine GoKit.bipush G (10 : Int32) at_66 rfl (pc' := 68) rfl ?_
      refine GoKit.iushr G at_68 (pc' := 69) rfl (fun v178 hqv178 => ?_)
      refine GoKit.sipush G (255 : Int32) at_69 rfl (pc' := 72) rfl ?_
      refine GoKit.iand G at_72 (pc' := 73) rfl (fun v179 hqv179 => ?_)
      refine GoKit.iconst G (3 : Int32) at_73 rfl (pc' := 74) rfl ?_
      refine GoKit.irem G at_74 (by decide) (pc' := 75) rfl (fun v180 hqv180 => ?_)
      rcases cases3 (v := v180) (and255_rem hqv179 hqv180) with rfl | rfl | rfl
      · refine GoKit.istore G at_75 (Ls' := #[.val (.int p0), .val (.int p1), .val (.int p2), .val (.int c3), .val (.int c4), .val (.int c5), .val (.int c6), .val (.int (2 : Int32)), .val (.int (0 : Int32)), .unset, .unset, .unset, .unset, .unset]) rfl (pc' := 77) rfl ?_
        refine GoKit.iloadN G at_77 rfl (pc' := 78) rfl ?_
        refine GoKit.iload G at_78 rfl (pc' := 80) rfl ?_
        refine GoKit.iload G at_80 rfl (pc' := 82) rfl ?_
        refine GoKit.callStatic G at_82 (wi hw 1 rfl) (wi hw 2 rfl) (wi hw 3 rfl) (wi hw 4 rfl) (by decide) (owc := []) (W := 0) (argsL := [(.int c3), (.int c4), (.int (2 : Int32))]) (rest := []) (con_make2 l hw H3 H4 HC HU) rfl (lenOf pd_21 rfl) rfl (by decide) (Nat.le_of_eq rfl) (by decide) (by decide) (by decide) (fun _ q => nomatch q) (cells' := 4) (slots' := 12) rfl rfl (pc' := 85) rfl (fun r181 h184 q182 K183 => ?_)
        obtain ⟨a185, rfl, S186⟩ := q182
        show Run _ _ _ _ _ _ _ _ _ _ _ _ _ _ _ _ _ _ _ _ _ (mkF m 85 #[.val (.int p0), .val (.int p1), .val (.int p2), .val (.int c3), .val (.int c4), .val (.int c5), .val (.int c6), .val (.int (2 : Int32)), .val (.int (0 : Int32)), .unset, .unset, .unset, .unset, .unset] [(.ref a185)])
        refine GoKit.astore G at_85 rfl (Ls' := #[.val (.int p0), .val (.int p1), .val (.int p2), .val (.int c3), .val (.int c4), .val (.int c5), .val (.int c6), .val (.int (2 : Int32)), .val (.int (0 : Int32)), .val (.ref a185), .unset, .unset, .unset, .unset]) rfl (pc' := 87) rfl ?_
        refine GoKit.iload G at_87 rfl (pc' := 89) rfl ?_
        refine GoKit.iload G at_89 rfl (pc' := 91) rfl ?_
        refine GoKit.iload G at_91 rfl (pc' := 93) rfl ?_
        refine GoKit.callStatic G at_93 (wi hw 1 rfl) (wi hw 2 rfl) (wi hw 3 rfl) (wi hw 4 rfl) (by decide) (owc := []) (W := 0) (argsL := [(.int c5), (.int c6), (.int (0 : Int32))]) (rest := []) (con_make0 l hw H5 H6 HC HU) rfl (lenOf pd_21 rfl) rfl (by decide) (Nat.le_of_eq rfl) (by decide) (by decide) (by decide) (fun _ q => nomatch q) (cells' := 10) (slots' := 24) rfl rfl (pc' := 96) rfl (fun r187 h190 q188 K189 => ?_)
        obtain ⟨a191, rfl, S192⟩ := q188
        show Run _ _ _ _ _ _ _ _ _ _ _ _ _ _ _ _ _ _ _ _ _ (mkF m 96 #[.val (.int p0), .val (.int p1), .val (.int p2), .val (.int c3), .val (.int c4), .val (.int c5), .val (.int c6), .val (.int (2 : Int32)), .val (.int (0 : Int32)), .val (.ref a185), .unset, .unset, .unset, .unset] [(.ref a191)])
        refine GoKit.astore G at_96 rfl (Ls' := #[.val (.int p0), .val (.int p1), .val (.int p2), .val (.int c3), .val (.int c4), .val (.int c5), .val (.int c6), .val (.int (2 : Int32)), .val (.int (0 : Int32)), .val (.ref a185), .val (.ref a191), .unset, .unset, .unset]) rfl (pc' := 98) rfl ?_
        refine GoKit.iloadN G at_98 rfl (pc' := 99) rfl ?_
        refine GoKit.iload G at_99 rfl (pc' := 101) rfl ?_
        refine GoKit.iload G at_101 rfl (pc' := 103) rfl ?_
        refine GoKit.iload G at_103 rfl (pc' := 105) rfl ?_
        refine GoKit.iload G at_105 rfl (pc' := 107) rfl ?_
        refine GoKit.iload G at_107 rfl (pc' := 109) rfl ?_
        refine GoKit.callStaticP G at_109 (wi hw 27 rfl) (wi hw 28 rfl) (wi hw 3 rfl) (wi hw 29 rfl) (by decide) (W := 0) (argsL := [(.int c3), (.int c4), (.int (2 : Int32)), (.int c5), (.int c6), (.int (0 : Int32))]) (rest := []) (con_ref20 l hw c3 c4 c5 c6) rfl (lenOf pd_22 rfl) rfl (by decide) (Nat.le_of_eq rfl) (by decide) (by decide) (by decide) (cells' := 10) (slots' := 24) rfl rfl (pc' := 112) rfl ?_
        show Run _ _ _ _ _ _ _ _ _ _ _ _ _ _ _ _ _ _ _ _ _ (mkF m 112 #[.val (.int p0), .val (.int p1), .val (.int p2), .val (.int c3), .val (.int c4), .val (.int c5), .val (.int c6), .val (.int (2 : Int32)), .val (.int (0 : Int32)), .val (.ref a185), .val (.ref a191), .unset, .unset, .unset] [(.int (refF [c3, c4] []))])
        refine GoKit.istore G at_112 (Ls' := #[.val (.int p0), .val (.int p1), .val (.int p2), .val (.int c3), .val (.int c4), .val (.int c5), .val (.int c6), .val (.int (2 : Int32)), .val (.int (0 : Int32)), .val (.ref a185), .val (.ref a191), .val (.int (refF [c3, c4] [])), .unset, .unset]) rfl (pc' := 114) rfl ?_
        refine GoKit.aload G at_114 rfl rfl (pc' := 116) rfl ?_
        refine GoKit.aload G at_116 rfl rfl (pc' := 118) rfl ?_
        have KP193 : Keep h184 h190 [] := ((Keep.refl h184 []).trans K189 all0)
        refine GoKit.callStatic G at_118 (wi hw 33 rfl) (wi hw 34 rfl) (wi hw 35 rfl) (wi hw 36 rfl) (by decide) (owc := []) (W := 0) (argsL := [(.ref a185), (.ref a191)]) (rest := []) (con_compare l hw (str_keep S186 KP193) S192 HC HF HU) rfl (lenOf pd_23 rfl) rfl (by decide) (Nat.le_of_eq rfl) (by decide) (by decide) (by decide) (fun _ q => nomatch q) (cells' := 10) (slots' := 24) rfl rfl (pc' := 121) rfl (fun r194 h197 q195 K196 => ?_)
        obtain ⟨r198, rfl, hr199⟩ := q195
        show Run _ _ _ _ _ _ _ _ _ _ _ _ _ _ _ _ _ _ _ _ _ (mkF m 121 #[.val (.int p0), .val (.int p1), .val (.int p2), .val (.int c3), .val (.int c4), .val (.int c5), .val (.int c6), .val (.int (2 : Int32)), .val (.int (0 : Int32)), .val (.ref a185), .val (.ref a191), .val (.int (refF [c3, c4] [])), .unset, .unset] [(.int r198)])
        refine GoKit.callStaticP G at_121 (wi hw 56 rfl) (wi hw 57 rfl) (wi hw 3 rfl) (wi hw 58 rfl) (by decide) (W := 0) (argsL := [(.int r198)]) (rest := []) (con_sgn l hw r198) rfl (lenOf pd_4 rfl) rfl (by decide) (Nat.le_of_eq rfl) (by decide) (by decide) (by decide) (cells' := 10) (slots' := 24) rfl rfl (pc' := 124) rfl ?_
        show Run _ _ _ _ _ _ _ _ _ _ _ _ _ _ _ _ _ _ _ _ _ (mkF m 124 #[.val (.int p0), .val (.int p1), .val (.int p2), .val (.int c3), .val (.int c4), .val (.int c5), .val (.int c6), .val (.int (2 : Int32)), .val (.int (0 : Int32)), .val (.ref a185), .val (.ref a191), .val (.int (refF [c3, c4] [])), .unset, .unset] [(.int (sgnI r198))])
        refine GoKit.istore G at_124 (Ls' := #[.val (.int p0), .val (.int p1), .val (.int p2), .val (.int c3), .val (.int c4), .val (.int c5), .val (.int c6), .val (.int (2 : Int32)), .val (.int (0 : Int32)), .val (.ref a185), .val (.ref a191), .val (.int (refF [c3, c4] [])), .val (.int (sgnI r198)), .unset]) rfl (pc' := 126) rfl ?_
        refine GoKit.aload G at_126 rfl rfl (pc' := 128) rfl ?_
        refine GoKit.aload G at_128 rfl rfl (pc' := 130) rfl ?_
        have KP200 : Keep h190 h197 [] := ((Keep.refl h190 []).trans K196 all0)
        have KP201 : Keep h184 h197 [] := (KP193.trans K196 all0)
        refine GoKit.callStatic G at_130 (wi hw 33 rfl) (wi hw 34 rfl) (wi hw 35 rfl) (wi hw 36 rfl) (by decide) (owc := []) (W := 0) (argsL := [(.ref a191), (.ref a185)]) (rest := []) (con_compare l hw (str_keep S192 KP200) (str_keep S186 KP201) HC HF HU) rfl (lenOf pd_23 rfl) rfl (by decide) (Nat.le_of_eq rfl) (by decide) (by decide) (by decide) (fun _ q => nomatch q) (cells' := 10) (slots' := 24) rfl rfl (pc' := 133) rfl (fun r202 h205 q203 K204 => ?_)
        obtain ⟨r206, rfl, hr207⟩ := q203
        show Run _ _ _ _ _ _ _ _ _ _ _ _ _ _ _ _ _ _ _ _ _ (mkF m 133 #[.val (.int p0), .val (.int p1), .val (.int p2), .val (.int c3), .val (.int c4), .val (.int c5), .val (.int c6), .val (.int (2 : Int32)), .val (.int (0 : Int32)), .val (.ref a185), .val (.ref a191), .val (.int (refF [c3, c4] [])), .val (.int (sgnI r198)), .unset] [(.int r206)])
        refine GoKit.callStaticP G at_133 (wi hw 56 rfl) (wi hw 57 rfl) (wi hw 3 rfl) (wi hw 58 rfl) (by decide) (W := 0) (argsL := [(.int r206)]) (rest := []) (con_sgn l hw r206) rfl (lenOf pd_4 rfl) rfl (by decide) (Nat.le_of_eq rfl) (by decide) (by decide) (by decide) (cells' := 10) (slots' := 24) rfl rfl (pc' := 136) rfl ?_
        show Run _ _ _ _ _ _ _ _ _ _ _ _ _ _ _ _ _ _ _ _ _ (mkF m 136 #[.val (.int p0), .val (.int p1), .val (.int p2), .val (.int c3), .val (.int c4), .val (.int c5), .val (.int c6), .val (.int (2 : Int32)), .val (.int (0 : Int32)), .val (.ref a185), .val (.ref a191), .val (.int (refF [c3, c4] [])), .val (.int (sgnI r198)), .unset] [(.int (sgnI r206))])
        refine GoKit.istore G at_136 (Ls' := #[.val (.int p0), .val (.int p1), .val (.int p2), .val (.int c3), .val (.int c4), .val (.int c5), .val (.int c6), .val (.int (2 : Int32)), .val (.int (0 : Int32)), .val (.ref a185), .val (.ref a191), .val (.int (refF [c3, c4] [])), .val (.int (sgnI r198)), .val (.int (sgnI r206))]) rfl (pc' := 138) rfl ?_
        refine GoKit.iload G at_138 rfl (pc' := 140) rfl ?_
        refine GoKit.iload G at_140 rfl (pc' := 142) rfl ?_
        refine GoKit.icmp_ne_f G at_142 hr199 (pc' := 145) rfl ?_
        refine GoKit.iload G at_145 rfl (pc' := 147) rfl ?_
        refine GoKit.iload G at_147 rfl (pc' := 149) rfl ?_
        refine GoKit.ineg G at_149 (pc' := 150) rfl (fun v208 hqv208 => ?_)
        refine GoKit.icmp_ne_f G at_150 (hr207.trans ((refF_anti _ _).trans hqv208.symm)) (pc' := 153) rfl ?_
        refine GoKit.iconst G (1 : Int32) at_153 rfl (pc' := 154) rfl ?_
        refine GoKit.goto G at_154 (by decide) (pc' := 158) rfl ?_
        refine GoKit.retNar G at_158 (t := .boolean) rfl (by simp) (by decide) (by decide) ?_
        exact rfl
      · refine GoKit.istore G at_75 (Ls' := #[.val (.int p0), .val (.int p1), .val (.int p2), .val (.int c3), .val (.int c4), .val (.int c5), .val (.int c6), .val (.int (2 : Int32)), .val (.int (1 : Int32)), .unset, .unset, .unset, .unset, .unset]) rfl (pc' := 77) rfl ?_
        refine GoKit.iloadN G at_77 rfl (pc' := 78) rfl ?_
        refine GoKit.iload G at_78 rfl (pc' := 80) rfl ?_
        refine GoKit.iload G at_80 rfl (pc' := 82) rfl ?_
        refine GoKit.callStatic G at_82 (wi hw 1 rfl) (wi hw 2 rfl) (wi hw 3 rfl) (wi hw 4 rfl) (by decide) (owc := []) (W := 0) (argsL := [(.int c3), (.int c4), (.int (2 : Int32))]) (rest := []) (con_make2 l hw H3 H4 HC HU) rfl (lenOf pd_21 rfl) rfl (by decide) (Nat.le_of_eq rfl) (by decide) (by decide) (by decide) (fun _ q => nomatch q) (cells' := 4) (slots' := 12) rfl rfl (pc' := 85) rfl (fun r209 h212 q210 K211 => ?_)
        obtain ⟨a213, rfl, S214⟩ := q210
        show Run _ _ _ _ _ _ _ _ _ _ _ _ _ _ _ _ _ _ _ _ _ (mkF m 85 #[.val (.int p0), .val (.int p1), .val (.int p2), .val (.int c3), .val (.int c4), .val (.int c5), .val (.int c6), .val (.int (2 : Int32)), .val (.int (1 : Int32)), .unset, .unset, .unset, .unset, .unset] [(.ref a213)])
        refine GoKit.astore G at_85 rfl (Ls' := #[.val (.int p0), .val (.int p1), .val (.int p2), .val (.int c3), .val (.int c4), .val (.int c5), .val (.int c6), .val (.int (2 : Int32)), .val (.int (1 : Int32)), .val (.ref a213), .unset, .unset, .unset, .unset]) rfl (pc' := 87) rfl ?_
        refine GoKit.iload G at_87 rfl (pc' := 89) rfl ?_
        refine GoKit.iload G at_89 rfl (pc' := 91) rfl ?_
        refine GoKit.iload G at_91 rfl (pc' := 93) rfl ?_
        refine GoKit.callStatic G at_93 (wi hw 1 rfl) (wi hw 2 rfl) (wi hw 3 rfl) (wi hw 4 rfl) (by decide) (owc := []) (W := 0) (argsL := [(.int c5), (.int c6), (.int (1 : Int32))]) (rest := []) (con_make1 l hw H5 H6 HC HU) rfl (lenOf pd_21 rfl) rfl (by decide) (Nat.le_of_eq rfl) (by decide) (by decide) (by decide) (fun _ q => nomatch q) (cells' := 8) (slots' := 23) rfl rfl (pc' := 96) rfl (fun r215 h218 q216 K217 => ?_)
        obtain ⟨a219, rfl, S220⟩ := q216
        show Run _ _ _ _ _ _ _ _ _ _ _ _ _ _ _ _ _ _ _ _ _ (mkF m 96 #[.val (.int p0), .val (.int p1), .val (.int p2), .val (.int c3), .val (.int c4), .val (.int c5), .val (.int c6), .val (.int (2 : Int32)), .val (.int (1 : Int32)), .val (.ref a213), .unset, .unset, .unset, .unset] [(.ref a219)])
        refine GoKit.astore G at_96 rfl (Ls' := #[.val (.int p0), .val (.int p1), .val (.int p2), .val (.int c3), .val (.int c4), .val (.int c5), .val (.int c6), .val (.int (2 : Int32)), .val (.int (1 : Int32)), .val (.ref a213), .val (.ref a219), .unset, .unset, .unset]) rfl (pc' := 98) rfl ?_
        refine GoKit.iloadN G at_98 rfl (pc' := 99) rfl ?_
        refine GoKit.iload G at_99 rfl (pc' := 101) rfl ?_
        refine GoKit.iload G at_101 rfl (pc' := 103) rfl ?_
        refine GoKit.iload G at_103 rfl (pc' := 105) rfl ?_
        refine GoKit.iload G at_105 rfl (pc' := 107) rfl ?_
        refine GoKit.iload G at_107 rfl (pc' := 109) rfl ?_
        refine GoKit.callStaticP G at_109 (wi hw 27 rfl) (wi hw 28 rfl) (wi hw 3 rfl) (wi hw 29 rfl) (by decide) (W := 0) (argsL := [(.int c3), (.int c4), (.int (2 : Int32)), (.int c5), (.int c6), (.int (1 : Int32))]) (rest := []) (con_ref21 l hw c3 c4 c5 c6) rfl (lenOf pd_22 rfl) rfl (by decide) (Nat.le_of_eq rfl) (by decide) (by decide) (by decide) (cells' := 8) (slots' := 23) rfl rfl (pc' := 112) rfl ?_
        show Run _ _ _ _ _ _ _ _ _ _ _ _ _ _ _ _ _ _ _ _ _ (mkF m 112 #[.val (.int p0), .val (.int p1), .val (.int p2), .val (.int c3), .val (.int c4), .val (.int c5), .val (.int c6), .val (.int (2 : Int32)), .val (.int (1 : Int32)), .val (.ref a213), .val (.ref a219), .unset, .unset, .unset] [(.int (refF [c3, c4] [c5]))])
        refine GoKit.istore G at_112 (Ls' := #[.val (.int p0), .val (.int p1), .val (.int p2), .val (.int c3), .val (.int c4), .val (.int c5), .val (.int c6), .val (.int (2 : Int32)), .val (.int (1 : Int32)), .val (.ref a213), .val (.ref a219), .val (.int (refF [c3, c4] [c5])), .unset, .unset]) rfl (pc' := 114) rfl ?_
        refine GoKit.aload G at_114 rfl rfl (pc' := 116) rfl ?_
        refine GoKit.aload G at_116 rfl rfl (pc' := 118) rfl ?_
        have KP221 : Keep h212 h218 [] := ((Keep.refl h212 []).trans K217 all0)
        refine GoKit.callStatic G at_118 (wi hw 33 rfl) (wi hw 34 rfl) (wi hw 35 rfl) (wi hw 36 rfl) (by decide) (owc := []) (W := 0) (argsL := [(.ref a213), (.ref a219)]) (rest := []) (con_compare l hw (str_keep S214 KP221) S220 HC HF HU) rfl (lenOf pd_23 rfl) rfl (by decide) (Nat.le_of_eq rfl) (by decide) (by decide) (by decide) (fun _ q => nomatch q) (cells' := 8) (slots' := 23) rfl rfl (pc' := 121) rfl (fun r222 h225 q223 K224 => ?_)
        obtain ⟨r226, rfl, hr227⟩ := q223
        show Run _ _ _ _ _ _ _ _ _ _ _ _ _ _ _ _ _ _ _ _ _ (mkF m 121 #[.val (.int p0), .val (.int p1), .val (.int p2), .val (.int c3), .val (.int c4), .val (.int c5), .val (.int c6), .val (.int (2 : Int32)), .val (.int (1 : Int32)), .val (.ref a213), .val (.ref a219), .val (.int (refF [c3, c4] [c5])), .unset, .unset] [(.int r226)])
        refine GoKit.callStaticP G at_121 (wi hw 56 rfl) (wi hw 57 rfl) (wi hw 3 rfl) (wi hw 58 rfl) (by decide) (W := 0) (argsL := [(.int r226)]) (rest := []) (con_sgn l hw r226) rfl (lenOf pd_4 rfl) rfl (by decide) (Nat.le_of_eq rfl) (by decide) (by decide) (by decide) (cells' := 8) (slots' := 23) rfl rfl (pc' := 124) rfl ?_
        show Run _ _ _ _ _ _ _ _ _ _ _ _ _ _ _ _ _ _ _ _ _ (mkF m 124 #[.val (.int p0), .val (.int p1), .val (.int p2), .val (.int c3), .val (.int c4), .val (.int c5), .val (.int c6), .val (.int (2 : Int32)), .val (.int (1 : Int32)), .val (.ref a213), .val (.ref a219), .val (.int (refF [c3, c4] [c5])), .unset, .unset] [(.int (sgnI r226))])
        refine GoKit.istore G at_124 (Ls' := #[.val (.int p0), .val (.int p1), .val (.int p2), .val (.int c3), .val (.int c4), .val (.int c5), .val (.int c6), .val (.int (2 : Int32)), .val (.int (1 : Int32)), .val (.ref a213), .val (.ref a219), .val (.int (refF [c3, c4] [c5])), .val (.int (sgnI r226)), .unset]) rfl (pc' := 126) rfl ?_
        refine GoKit.aload G at_126 rfl rfl (pc' := 128) rfl ?_
        refine GoKit.aload G at_128 rfl rfl (pc' := 130) rfl ?_
        have KP228 : Keep h218 h225 [] := ((Keep.refl h218 []).trans K224 all0)
        have KP229 : Keep h212 h225 [] := (KP221.trans K224 all0)
        refine GoKit.callStatic G at_130 (wi hw 33 rfl) (wi hw 34 rfl) (wi hw 35 rfl) (wi hw 36 rfl) (by decide) (owc := []) (W := 0) (argsL := [(.ref a219), (.ref a213)]) (rest := []) (con_compare l hw (str_keep S220 KP228) (str_keep S214 KP229) HC HF HU) rfl (lenOf pd_23 rfl) rfl (by decide) (Nat.le_of_eq rfl) (by decide) (by decide) (by decide) (fun _ q => nomatch q) (cells' := 8) (slots' := 23) rfl rfl (pc' := 133) rfl (fun r230 h233 q231 K232 => ?_)
        obtain ⟨r234, rfl, hr235⟩ := q231
        show Run _ _ _ _ _ _ _ _ _ _ _ _ _ _ _ _ _ _ _ _ _ (mkF m 133 #[.val (.int p0), .val (.int p1), .val (.int p2), .val (.int c3), .val (.int c4), .val (.int c5), .val (.int c6), .val (.int (2 : Int32)), .val (.int (1 : Int32)), .val (.ref a213), .val (.ref a219), .val (.int (refF [c3, c4] [c5])), .val (.int (sgnI r226)), .unset] [(.int r234)])
        refine GoKit.callStaticP G at_133 (wi hw 56 rfl) (wi hw 57 rfl) (wi hw 3 rfl) (wi hw 58 rfl) (by decide) (W := 0) (argsL := [(.int r234)]) (rest := []) (con_sgn l hw r234) rfl (lenOf pd_4 rfl) rfl (by decide) (Nat.le_of_eq rfl) (by decide) (by decide) (by decide) (cells' := 8) (slots' := 23) rfl rfl (pc' := 136) rfl ?_
        show Run _ _ _ _ _ _ _ _ _ _ _ _ _ _ _ _ _ _ _ _ _ (mkF m 136 #[.val (.int p0), .val (.int p1), .val (.int p2), .val (.int c3), .val (.int c4), .val (.int c5), .val (.int c6), .val (.int (2 : Int32)), .val (.int (1 : Int32)), .val (.ref a213), .val (.ref a219), .val (.int (refF [c3, c4] [c5])), .val (.int (sgnI r226)), .unset] [(.int (sgnI r234))])
        refine GoKit.istore G at_136 (Ls' := #[.val (.int p0), .val (.int p1), .val (.int p2), .val (.int c3), .val (.int c4), .val (.int c5), .val (.int c6), .val (.int (2 : Int32)), .val (.int (1 : Int32)), .val (.ref a213), .val (.ref a219), .val (.int (refF [c3, c4] [c5])), .val (.int (sgnI r226)), .val (.int (sgnI r234))]) rfl (pc' := 138) rfl ?_
        refine GoKit.iload G at_138 rfl (pc' := 140) rfl ?_
        refine GoKit.iload G at_140 rfl (pc' := 142) rfl ?_
        refine GoKit.icmp_ne_f G at_142 hr227 (pc' := 145) rfl ?_
        refine GoKit.iload G at_145 rfl (pc' := 147) rfl ?_
        refine GoKit.iload G at_147 rfl (pc' := 149) rfl ?_
        refine GoKit.ineg G at_149 (pc' := 150) rfl (fun v236 hqv236 => ?_)
        refine GoKit.icmp_ne_f G at_150 (hr235.trans ((refF_anti _ _).trans hqv236.symm)) (pc' := 153) rfl ?_
        refine GoKit.iconst G (1 : Int32) at_153 rfl (pc' := 154) rfl ?_
        refine GoKit.goto G at_154 (by decide) (pc' := 158) rfl ?_
        refine GoKit.retNar G at_158 (t := .boolean) rfl (by simp) (by decide) (by decide) ?_
        exact rfl
      · refine GoKit.istore G at_75 (Ls' := #[.val (.int p0), .val (.int p1), .val (.int p2), .val (.int c3), .val (.int c4), .val (.int c5), .val (.int c6), .val (.int (2 : Int32)), .val (.int (2 : Int32)), .unset, .unset, .unset, .unset, .unset]) rfl (pc' := 77) rfl ?_
        refine GoKit.iloadN G at_77 rfl (pc' := 78) rfl ?_
        refine GoKit.iload G at_78 rfl (pc' := 80) rfl ?_
        refine GoKit.iload G at_80 rfl (pc' := 82) rfl ?_
        refine GoKit.callStatic G at_82 (wi hw 1 rfl) (wi hw 2 rfl) (wi hw 3 rfl) (wi hw 4 rfl) (by decide) (owc := []) (W := 0) (argsL := [(.int c3), (.int c4), (.int (2 : Int32))]) (rest := []) (con_make2 l hw H3 H4 HC HU) rfl (lenOf pd_21 rfl) rfl (by decide) (Nat.le_of_eq rfl) (by decide) (by decide) (by decide) (fun _ q => nomatch q) (cells' := 4) (slots' := 12) rfl rfl (pc' := 85) rfl (fun r237 h240 q238 K239 => ?_)
        obtain ⟨a241, rfl, S242⟩ := q238
        show Run _ _ _ _ _ _ _ _ _ _ _ _ _ _ _ _ _ _ _ _ _ (mkF m 85 #[.val (.int p0), .val (.int p1), .val (.int p2), .val (.int c3), .val (.int c4), .val (.int c5), .val (.int c6), .val (.int (2 : Int32)), .val (.int (2 : Int32)), .unset, .unset, .unset, .unset, .unset] [(.ref a241)])
        refine GoKit.astore G at_85 rfl (Ls' := #[.val (.int p0), .val (.int p1), .val (.int p2), .val (.int c3), .val (.int c4), .val (.int c5), .val (.int c6), .val (.int (2 : Int32)), .val (.int (2 : Int32)), .val (.ref a241), .unset, .unset, .unset, .unset]) rfl (pc' := 87) rfl ?_
        refine GoKit.iload G at_87 rfl (pc' := 89) rfl ?_
        refine GoKit.iload G at_89 rfl (pc' := 91) rfl ?_
        refine GoKit.iload G at_91 rfl (pc' := 93) rfl ?_
        refine GoKit.callStatic G at_93 (wi hw 1 rfl) (wi hw 2 rfl) (wi hw 3 rfl) (wi hw 4 rfl) (by decide) (owc := []) (W := 0) (argsL := [(.int c5), (.int c6), (.int (2 : Int32))]) (rest := []) (con_make2 l hw H5 H6 HC HU) rfl (lenOf pd_21 rfl) rfl (by decide) (Nat.le_of_eq rfl) (by decide) (by decide) (by decide) (fun _ q => nomatch q) (cells' := 8) (slots' := 24) rfl rfl (pc' := 96) rfl (fun r243 h246 q244 K245 => ?_)
        obtain ⟨a247, rfl, S248⟩ := q244
        show Run _ _ _ _ _ _ _ _ _ _ _ _ _ _ _ _ _ _ _ _ _ (mkF m 96 #[.val (.int p0), .val (.int p1), .val (.int p2), .val (.int c3), .val (.int c4), .val (.int c5), .val (.int c6), .val (.int (2 : Int32)), .val (.int (2 : Int32)), .val (.ref a241), .unset, .unset, .unset, .unset] [(.ref a247)])
        refine GoKit.astore G at_96 rfl (Ls' := #[.val (.int p0), .val (.int p1), .val (.int p2), .val (.int c3), .val (.int c4), .val (.int c5), .val (.int c6), .val (.int (2 : Int32)), .val (.int (2 : Int32)), .val (.ref a241), .val (.ref a247), .unset, .unset, .unset]) rfl (pc' := 98) rfl ?_
        refine GoKit.iloadN G at_98 rfl (pc' := 99) rfl ?_
        refine GoKit.iload G at_99 rfl (pc' := 101) rfl ?_
        refine GoKit.iload G at_101 rfl (pc' := 103) rfl ?_
        refine GoKit.iload G at_103 rfl (pc' := 105) rfl ?_
        refine GoKit.iload G at_105 rfl (pc' := 107) rfl ?_
        refine GoKit.iload G at_107 rfl (pc' := 109) rfl ?_
        refine GoKit.callStaticP G at_109 (wi hw 27 rfl) (wi hw 28 rfl) (wi hw 3 rfl) (wi hw 29 rfl) (by decide) (W := 0) (argsL := [(.int c3), (.int c4), (.int (2 : Int32)), (.int c5), (.int c6), (.int (2 : Int32))]) (rest := []) (con_ref22 l hw c3 c4 c5 c6) rfl (lenOf pd_22 rfl) rfl (by decide) (Nat.le_of_eq rfl) (by decide) (by decide) (by decide) (cells' := 8) (slots' := 24) rfl rfl (pc' := 112) rfl ?_
        show Run _ _ _ _ _ _ _ _ _ _ _ _ _ _ _ _ _ _ _ _ _ (mkF m 112 #[.val (.int p0), .val (.int p1), .val (.int p2), .val (.int c3), .val (.int c4), .val (.int c5), .val (.int c6), .val (.int (2 : Int32)), .val (.int (2 : Int32)), .val (.ref a241), .val (.ref a247), .unset, .unset, .unset] [(.int (refF [c3, c4] [c5, c6]))])
        refine GoKit.istore G at_112 (Ls' := #[.val (.int p0), .val (.int p1), .val (.int p2), .val (.int c3), .val (.int c4), .val (.int c5), .val (.int c6), .val (.int (2 : Int32)), .val (.int (2 : Int32)), .val (.ref a241), .val (.ref a247), .val (.int (refF [c3, c4] [c5, c6])), .unset, .unset]) rfl (pc' := 114) rfl ?_
        refine GoKit.aload G at_114 rfl rfl (pc' := 116) rfl ?_
        refine GoKit.aload G at_116 rfl rfl (pc' := 118) rfl ?_
        have KP249 : Keep h240 h246 [] := ((Keep.refl h240 []).trans K245 all0)
        refine GoKit.callStatic G at_118 (wi hw 33 rfl) (wi hw 34 rfl) (wi hw 35 rfl) (wi hw 36 rfl) (by decide) (owc := []) (W := 0) (argsL := [(.ref a241), (.ref a247)]) (rest := []) (con_compare l hw (str_keep S242 KP249) S248 HC HF HU) rfl (lenOf pd_23 rfl) rfl (by decide) (Nat.le_of_eq rfl) (by decide) (by decide) (by decide) (fun _ q => nomatch q) (cells' := 8) (slots' := 24) rfl rfl (pc' := 121) rfl (fun r250 h253 q251 K252 => ?_)
        obtain ⟨r254, rfl, hr255⟩ := q251
        show Run _ _ _ _ _ _ _ _ _ _ _ _ _ _ _ _ _ _ _ _ _ (mkF m 121 #[.val (.int p0), .val (.int p1), .val (.int p2), .val (.int c3), .val (.int c4), .val (.int c5), .val (.int c6), .val (.int (2 : Int32)), .val (.int (2 : Int32)), .val (.ref a241), .val (.ref a247), .val (.int (refF [c3, c4] [c5, c6])), .unset, .unset] [(.int r254)])
        refine GoKit.callStaticP G at_121 (wi hw 56 rfl) (wi hw 57 rfl) (wi hw 3 rfl) (wi hw 58 rfl) (by decide) (W := 0) (argsL := [(.int r254)]) (rest := []) (con_sgn l hw r254) rfl (lenOf pd_4 rfl) rfl (by decide) (Nat.le_of_eq rfl) (by decide) (by decide) (by decide) (cells' := 8) (slots' := 24) rfl rfl (pc' := 124) rfl ?_
        show Run _ _ _ _ _ _ _ _ _ _ _ _ _ _ _ _ _ _ _ _ _ (mkF m 124 #[.val (.int p0), .val (.int p1), .val (.int p2), .val (.int c3), .val (.int c4), .val (.int c5), .val (.int c6), .val (.int (2 : Int32)), .val (.int (2 : Int32)), .val (.ref a241), .val (.ref a247), .val (.int (refF [c3, c4] [c5, c6])), .unset, .unset] [(.int (sgnI r254))])
        refine GoKit.istore G at_124 (Ls' := #[.val (.int p0), .val (.int p1), .val (.int p2), .val (.int c3), .val (.int c4), .val (.int c5), .val (.int c6), .val (.int (2 : Int32)), .val (.int (2 : Int32)), .val (.ref a241), .val (.ref a247), .val (.int (refF [c3, c4] [c5, c6])), .val (.int (sgnI r254)), .unset]) rfl (pc' := 126) rfl ?_
        refine GoKit.aload G at_126 rfl rfl (pc' := 128) rfl ?_
        refine GoKit.aload G at_128 rfl rfl (pc' := 130) rfl ?_
        have KP256 : Keep h246 h253 [] := ((Keep.refl h246 []).trans K252 all0)
        have KP257 : Keep h240 h253 [] := (KP249.trans K252 all0)
        refine GoKit.callStatic G at_130 (wi hw 33 rfl) (wi hw 34 rfl) (wi hw 35 rfl) (wi hw 36 rfl) (by decide) (owc := []) (W := 0) (argsL := [(.ref a247), (.ref a241)]) (rest := []) (con_compare l hw (str_keep S248 KP256) (str_keep S242 KP257) HC HF HU) rfl (lenOf pd_23 rfl) rfl (by decide) (Nat.le_of_eq rfl) (by decide) (by decide) (by decide) (fun _ q => nomatch q) (cells' := 8) (slots' := 24) rfl rfl (pc' := 133) rfl (fun r258 h261 q259 K260 => ?_)
        obtain ⟨r262, rfl, hr263⟩ := q259
        show Run _ _ _ _ _ _ _ _ _ _ _ _ _ _ _ _ _ _ _ _ _ (mkF m 133 #[.val (.int p0), .val (.int p1), .val (.int p2), .val (.int c3), .val (.int c4), .val (.int c5), .val (.int c6), .val (.int (2 : Int32)), .val (.int (2 : Int32)), .val (.ref a241), .val (.ref a247), .val (.int (refF [c3, c4] [c5, c6])), .val (.int (sgnI r254)), .unset] [(.int r262)])
        refine GoKit.callStaticP G at_133 (wi hw 56 rfl) (wi hw 57 rfl) (wi hw 3 rfl) (wi hw 58 rfl) (by decide) (W := 0) (argsL := [(.int r262)]) (rest := []) (con_sgn l hw r262) rfl (lenOf pd_4 rfl) rfl (by decide) (Nat.le_of_eq rfl) (by decide) (by decide) (by decide) (cells' := 8) (slots' := 24) rfl rfl (pc' := 136) rfl ?_
        show Run _ _ _ _ _ _ _ _ _ _ _ _ _ _ _ _ _ _ _ _ _ (mkF m 136 #[.val (.int p0), .val (.int p1), .val (.int p2), .val (.int c3), .val (.int c4), .val (.int c5), .val (.int c6), .val (.int (2 : Int32)), .val (.int (2 : Int32)), .val (.ref a241), .val (.ref a247), .val (.int (refF [c3, c4] [c5, c6])), .val (.int (sgnI r254)), .unset] [(.int (sgnI r262))])
        refine GoKit.istore G at_136 (Ls' := #[.val (.int p0), .val (.int p1), .val (.int p2), .val (.int c3), .val (.int c4), .val (.int c5), .val (.int c6), .val (.int (2 : Int32)), .val (.int (2 : Int32)), .val (.ref a241), .val (.ref a247), .val (.int (refF [c3, c4] [c5, c6])), .val (.int (sgnI r254)), .val (.int (sgnI r262))]) rfl (pc' := 138) rfl ?_
        refine GoKit.iload G at_138 rfl (pc' := 140) rfl ?_
        refine GoKit.iload G at_140 rfl (pc' := 142) rfl ?_
        refine GoKit.icmp_ne_f G at_142 hr255 (pc' := 145) rfl ?_
        refine GoKit.iload G at_145 rfl (pc' := 147) rfl ?_
        refine GoKit.iload G at_147 rfl (pc' := 149) rfl ?_
        refine GoKit.ineg G at_149 (pc' := 150) rfl (fun v264 hqv264 => ?_)
        refine GoKit.icmp_ne_f G at_150 (hr263.trans ((refF_anti _ _).trans hqv264.symm)) (pc' := 153) rfl ?_
        refine GoKit.iconst G (1 : Int32) at_153 rfl (pc' := 154) rfl ?_
        refine GoKit.goto G at_154 (by decide) (pc' := 158) rfl ?_
        refine GoKit.retNar G at_158 (t := .boolean) rfl (by simp) (by decide) (by decide) ?_
        exact rfl
  refine GoKit.iloadN G at_0 rfl (pc' := 1) rfl ?_
  refine GoKit.ldcInt G at_1 (wi hw 0 rfl) (pc' := 3) rfl ?_
  refine GoKit.iand G at_3 (pc' := 4) rfl (fun v265 hqv265 => ?_)
  refine GoKit.i2c G at_4 (pc' := 5) rfl (fun v266 hqv266 => ?_)
  have c267 : nar .char v266 = v266 := by rw [hqv266]; exact nar_i2c _
  have l268 := i2c_rng hqv266
  refine GoKit.istoreN G at_5 (Ls' := #[.val (.int p0), .val (.int p1), .val (.int p2), .val (.int v266), .unset, .unset, .unset, .unset, .unset, .unset, .unset, .unset, .unset, .unset]) rfl (pc' := 6) rfl ?_
  refine GoKit.iloadN G at_6 rfl (pc' := 7) rfl ?_
  refine GoKit.bipush G (16 : Int32) at_7 rfl (pc' := 9) rfl ?_
  refine GoKit.iushr G at_9 (pc' := 10) rfl (fun v269 hqv269 => ?_)
  refine GoKit.ldcInt G at_10 (wi hw 0 rfl) (pc' := 12) rfl ?_
  refine GoKit.iand G at_12 (pc' := 13) rfl (fun v270 hqv270 => ?_)
  refine GoKit.i2c G at_13 (pc' := 14) rfl (fun v271 hqv271 => ?_)
  have c272 : nar .char v271 = v271 := by rw [hqv271]; exact nar_i2c _
  have l273 := i2c_rng hqv271
  refine GoKit.istore G at_14 (Ls' := #[.val (.int p0), .val (.int p1), .val (.int p2), .val (.int v266), .val (.int v271), .unset, .unset, .unset, .unset, .unset, .unset, .unset, .unset, .unset]) rfl (pc' := 16) rfl ?_
  refine GoKit.iloadN G at_16 rfl (pc' := 17) rfl ?_
  refine GoKit.iconst G (1 : Int32) at_17 rfl (pc' := 18) rfl ?_
  refine GoKit.iand G at_18 (pc' := 19) rfl (fun v274 hqv274 => ?_)
  refine GoKit.if_eq G at_19 (by decide) (pt := 26) (pf := 22) rfl rfl (fun hb275 => ?_) (fun hb275 => ?_)
  · refine GoKit.iloadN G at_26 rfl (pc' := 27) rfl ?_
    refine GoKit.ldcInt G at_27 (wi hw 0 rfl) (pc' := 29) rfl ?_
    refine GoKit.iand G at_29 (pc' := 30) rfl (fun v276 hqv276 => ?_)
    refine GoKit.i2c G at_30 (pc' := 31) rfl (fun v277 hqv277 => ?_)
    have c278 : nar .char v277 = v277 := by rw [hqv277]; exact nar_i2c _
    have l279 := i2c_rng hqv277
    refine GoKit.istore G at_31 (Ls' := #[.val (.int p0), .val (.int p1), .val (.int p2), .val (.int v266), .val (.int v271), .val (.int v277), .unset, .unset, .unset, .unset, .unset, .unset, .unset, .unset]) rfl (pc' := 33) rfl ?_
    refine GoKit.iloadN G at_33 rfl (pc' := 34) rfl ?_
    refine GoKit.iconst G (2 : Int32) at_34 rfl (pc' := 35) rfl ?_
    refine GoKit.iand G at_35 (pc' := 36) rfl (fun v280 hqv280 => ?_)
    refine GoKit.if_eq G at_36 (by decide) (pt := 44) (pf := 39) rfl rfl (fun hb281 => ?_) (fun hb281 => ?_)
    · refine GoKit.iloadN G at_44 rfl (pc' := 45) rfl ?_
      refine GoKit.bipush G (16 : Int32) at_45 rfl (pc' := 47) rfl ?_
      refine GoKit.iushr G at_47 (pc' := 48) rfl (fun v282 hqv282 => ?_)
      refine GoKit.ldcInt G at_48 (wi hw 0 rfl) (pc' := 50) rfl ?_
      refine GoKit.iand G at_50 (pc' := 51) rfl (fun v283 hqv283 => ?_)
      refine GoKit.i2c G at_51 (pc' := 52) rfl (fun v284 hqv284 => ?_)
      have c285 : nar .char v284 = v284 := by rw [hqv284]; exact nar_i2c _
      have l286 := i2c_rng hqv284
      refine GoKit.istore G at_52 (Ls' := #[.val (.int p0), .val (.int p1), .val (.int p2), .val (.int v266), .val (.int v271), .val (.int v277), .val (.int v284), .unset, .unset, .unset, .unset, .unset, .unset, .unset]) rfl (pc' := 54) rfl ?_
      exact J _ _ _ _ l268 l273 l279 l286
    · refine GoKit.iload G at_39 rfl (pc' := 41) rfl ?_
      refine GoKit.goto G at_41 (by decide) (pc' := 52) rfl ?_
      refine GoKit.istore G at_52 (Ls' := #[.val (.int p0), .val (.int p1), .val (.int p2), .val (.int v266), .val (.int v271), .val (.int v277), .val (.int v271), .unset, .unset, .unset, .unset, .unset, .unset, .unset]) rfl (pc' := 54) rfl ?_
      exact J _ _ _ _ l268 l273 l279 l273
  · refine GoKit.iloadN G at_22 rfl (pc' := 23) rfl ?_
    refine GoKit.goto G at_23 (by decide) (pc' := 31) rfl ?_
    refine GoKit.istore G at_31 (Ls' := #[.val (.int p0), .val (.int p1), .val (.int p2), .val (.int v266), .val (.int v271), .val (.int v266), .unset, .unset, .unset, .unset, .unset, .unset, .unset, .unset]) rfl (pc' := 33) rfl ?_
    refine GoKit.iloadN G at_33 rfl (pc' := 34) rfl ?_
    refine GoKit.iconst G (2 : Int32) at_34 rfl (pc' := 35) rfl ?_
    refine GoKit.iand G at_35 (pc' := 36) rfl (fun v287 hqv287 => ?_)
    refine GoKit.if_eq G at_36 (by decide) (pt := 44) (pf := 39) rfl rfl (fun hb288 => ?_) (fun hb288 => ?_)
    · refine GoKit.iloadN G at_44 rfl (pc' := 45) rfl ?_
      refine GoKit.bipush G (16 : Int32) at_45 rfl (pc' := 47) rfl ?_
      refine GoKit.iushr G at_47 (pc' := 48) rfl (fun v289 hqv289 => ?_)
      refine GoKit.ldcInt G at_48 (wi hw 0 rfl) (pc' := 50) rfl ?_
      refine GoKit.iand G at_50 (pc' := 51) rfl (fun v290 hqv290 => ?_)
      refine GoKit.i2c G at_51 (pc' := 52) rfl (fun v291 hqv291 => ?_)
      have c292 : nar .char v291 = v291 := by rw [hqv291]; exact nar_i2c _
      have l293 := i2c_rng hqv291
      refine GoKit.istore G at_52 (Ls' := #[.val (.int p0), .val (.int p1), .val (.int p2), .val (.int v266), .val (.int v271), .val (.int v266), .val (.int v291), .unset, .unset, .unset, .unset, .unset, .unset, .unset]) rfl (pc' := 54) rfl ?_
      exact J _ _ _ _ l268 l273 l268 l293
    · refine GoKit.iload G at_39 rfl (pc' := 41) rfl ?_
      refine GoKit.goto G at_41 (by decide) (pc' := 52) rfl ?_
      refine GoKit.istore G at_52 (Ls' := #[.val (.int p0), .val (.int p1), .val (.int p2), .val (.int v266), .val (.int v271), .val (.int v266), .val (.int v271), .unset, .unset, .unset, .unset, .unset, .unset, .unset]) rfl (pc' := 54) rfl ?_
      exact J _ _ _ _ l268 l273 l268 l273
set_option maxRecDepth 65536 in
set_option maxHeartbeats 40000000 in
theorem comes_1 {Post : Tables → Env → Array Value → State → Outcome → State → Prop} (hpost : ∀ tb e args s v u, (limb_1_1.after args s (.returned v) u = true ∧ limb_1_2.after args s (.returned v) u = true ∧ True) → ReturnedEndW s (.returned v) u (Jvm.fieldLocs frame_1_writes args s ++ Jvm.arrayLocs frame_1_arrays args s ++ Jvm.staticLocs frame_1_statics s) 32 1152 → Post tb e args s (.returned v) u) :
    ArmFor flags0 classFile x code maxLocals ret World_1 tables_1 room_1 Calls_1 rest_1 Pre_1 Post := by
  intro l hfl _ _ p e ha hc hk s m args below hf hA hF happ hP
  obtain ⟨hcalls, hrest, hpre⟩ := hP
  obtain ⟨-, -, -, hnamed, -, -, -, hat⟩ := (Spec.applies_iff hf).mp happ
  obtain ⟨hg, hn⟩ := and_e (Cond.before_iff.mp (show (Jvm.Cond.and given_1 narrow_1).before args s = true from hpre))
  obtain ⟨gc, g0⟩ := and_e hg
  obtain ⟨t0, g1⟩ := and_e g0
  obtain ⟨t1, g2⟩ := and_e g1
  have t2 := g2
  obtain ⟨w0, w1, w2, rfl⟩ : ∃ w0 w1 w2 : Value, args = #[w0, w1, w2] := by
    have hs : args.size = 3 := by simpa [Cond.value, given_1] using gc
    obtain ⟨L⟩ := args
    match L, hs with
    | [w0, w1, w2], _ => exact ⟨w0, w1, w2, rfl⟩
  have hw := fun d (hd : d ∈ tables_1) => atoms_spec (ws := Jvm.Cond.code x code maxLocals ret :: tables_1) hat d (List.mem_cons_of_mem _ hd)
  have hfit : Fit s := fun {y c} hc i hi => by
    obtain ⟨ha, rfl⟩ := Array.getElem?_eq_some_iff.mp hc
    have q := List.all_eq_true.mp ((Array.all_eq_true_iff_forall_mem.mp hF) _ (Array.getElem_mem ha)) i (List.mem_range.mpr hi)
    simpa [Array.getElem?_eq_getElem hi] using q
  obtain ⟨hsets, hown0⟩ := atoms_of _ (rest_1_c_eq ▸ (show rest_1_c.before _ s = true from hrest))
  obtain ⟨i0, ei0⟩ := is_v t0
  obtain rfl : w0 = (.int i0) := Option.some.inj ei0
  obtain ⟨i1, ei1⟩ := is_v t1
  obtain rfl : w1 = (.int i1) := Option.some.inj ei1
  obtain ⟨i2, ei2⟩ := is_v t2
  obtain rfl : w2 = (.int i2) := Option.some.inj ei2
  have HC : Cst s := by
    obtain ⟨cz, ecz⟩ := is_v (Cond.before_iff.mp (hsets _ (List.mem_of_getElem? (i := 1) rfl)))
    refine ⟨cz, Sta.start ecz (Or.inl (hsets _ (List.mem_of_getElem? (i := 0) rfl))), fun q => ?_⟩
    have := Cond.before_iff.mp (hsets _ (List.mem_of_getElem? (i := 2) rfl))
    subst q
    simp [Cond.value, ecz, Term.int_eval] at this
  have HF : Frm s := by
    have q := Cond.before_iff.mp (hsets _ (List.mem_of_getElem? (i := 8) rfl))
    cases ev : (Term.static "jdk/internal/util/Preconditions" "SIOOBE_FORMATTER" "Ljava/util/function/BiFunction;").eval #[.int i0, .int i1, .int i2] s none [] s with
    | none => simp [Cond.value, ev] at q
    | some fv => exact ⟨fv, Sta.start ev (Or.inl (hsets _ (List.mem_of_getElem? (i := 7) rfl))), by cases fv <;> first | rfl | (simp [Cond.value, ev] at q)⟩
  have HU : Ust s := ⟨Sta.start (eqv_i (Term.int_eval 1) (Cond.before_iff.mp (hsets _ (List.mem_of_getElem? (i := 12) rfl)))) (Or.inl (hsets _ (List.mem_of_getElem? (i := 11) rfl))), Sta.start (eqv_i (Term.int_eval 0) (Cond.before_iff.mp (hsets _ (List.mem_of_getElem? (i := 15) rfl)))) (Or.inl (hsets _ (List.mem_of_getElem? (i := 14) rfl))), Sta.start (eqv_i (Term.int_eval 8) (Cond.before_iff.mp (hsets _ (List.mem_of_getElem? (i := 18) rfl)))) (Or.inl (hsets _ (List.mem_of_getElem? (i := 17) rfl)))⟩
  have hCH : CHv s ELs s.vm s.heap := CHv.start (hELs hw) (fun q hq => hcalls.1 q hq) (hsets _ (List.mem_of_getElem? (i := 2) rfl)) (wi hw 20 rfl) (wi hw 6 rfl)
  obtain ⟨n, o, h1, h2, h3, v, L, rfl, rfl, N, -, -, hE, hWd, -⟩ := (con_law l hw i0 i1 i2 HC HF HU) p e ha hc hk s m _ below hf ((Spec.applies_iff_loose hf).mp happ).1 ⟨rfl, State.Warmed39.refl s, rfl, Old.start s, hCH, all0⟩ trivial
  exact ⟨n, _, h1, h2, h3, hpost _ _ _ _ _ _ ⟨Cond.after_iff.mpr rfl, Cond.after_iff.mpr (eq_i res_at (Term.int_eval (1)) rfl), trivial⟩ ⟨hE.1, hE.2.1, hE.2.2.1, (hE.2.2.2.sift fun y hy => Or.inr (N y hy)).mono (by decide) (by decide)⟩⟩
theorem main_1_1 : Claimed_1_1 := comes_1 fun _ _ _ _ _ _ h hF => ⟨h.1, hF⟩
theorem main_1_2 : Claimed_1_2 := comes_1 fun _ _ _ _ _ _ h hF => ⟨h.2.1, hF⟩
end Jvm.Pilot.@@N@@
namespace Jvm.Pilot.@@N@@
open Jvm Jvm.ClassFile Sem Op Lib Jvm.Free Jvm.Stand Jvm.Pilot.@@N@@.Jvm.D
/-! MADE BY PROGRAM (witnessworld.py) out of the Statement's table words and the real class files: 24 classes; the members and pool entries that the words name. The judged class is class 1, her method 6. -/
namespace start1
open Jvm.ClassFile
def u (s : String) : CpInfo := .utf8 (stringToUtf16 s)
/-- a pool by its gaps: so many unusable entries, then the entry; so many at the end -/
def gap : Nat → List CpInfo → List CpInfo
  | 0, r => r
  | n + 1, r => .unusable :: gap n r
def poolList (es : List (Nat × CpInfo)) (last : Nat) : List CpInfo := es.foldr (fun e r => gap e.1 (e.2 :: r)) (gap last [])
def pool (es : List (Nat × CpInfo)) (last : Nat) : Array CpInfo := ⟨poolList es last⟩
def fileOf (pool : Array CpInfo) (this : Nat) (attrs : Array Attribute := #[]) (ms : Array MethodInfo := #[]) (fl : Nat := 33) (sup : Nat := 0) (ifs : Array Nat := #[]) (fds : Array FieldInfo := #[]) : ClassFile where
  minorVersion := 0
  majorVersion := 65
  constantPool := pool
  accessFlags := fl
  thisClass := this
  superClass := sup
  interfaces := ifs
  fields := fds
  methods := ms
  attributes := attrs
def plain (name : String) (sup : Option ClassId) : Class where
  name := name
  kind := .ordinary
  loader := none
  accessFlags := 33
  super := sup
  interfaces := #[]
  cf := none
  fields := #[]
  methods := #[]
  instanceTypes := #[]
  staticTypes := #[]
  resolved := #[]
  callSites := []
  init := .initialized
  statics := none
  mirror := none

def pool0 : Array CpInfo := pool [(5, u "<init>"), (0, u "()V"), (1, .class_ 10), (1, u "java/lang/Object")] 113

def k0c0 : Code := { maxStack := 0, maxLocals := 1, code := object_method_1_code, exceptionTable := #[], attributes := #[] }
def k0m0 : Method := { name := "<init>", desc := "()V", sig := { parameters := [], returnType := none }, accessFlags := 1, code := some k0c0 }
/-- java/lang/Object -/
def k0 : Class := { plain "java/lang/Object" none with
  accessFlags := 33
  interfaces := #[]
  cf := some (fileOf pool0 8 #[] #[{ accessFlags := 1, nameIndex := 5, descriptorIndex := 6, attributes := #[] }] 33 0 #[] #[])
  fields := #[]
  methods := #[k0m0]
  instanceTypes := #[]
  staticTypes := #[]
  resolved := Array.replicate 124 none
  statics := none }

def pool1 : Array CpInfo := pool [(2, .class_ 4), (1, u "java/lang/Object"), (0, u "<init>"), (0, u "()V"), (0, .integer 55296), (0, .integer 57343), (0, .integer 65536), (0, .class_ 11), (0, u "java/lang/String"), (0, .methodref 10 13), (0, .nameAndType 5 14), (0, u "([C)V"), (0, .methodref 16 17), (0, .class_ 18), (0, .nameAndType 19 20), (0, u "com/example/stoplist/stoplist/util/Utf8ComparePinLaw"), (0, u "key"), (0, u "(C)I"), (0, .methodref 16 22), (0, .nameAndType 23 24), (0, u "cmp"), (0, u "(II)I"), (0, .integer 65535), (0, .methodref 16 27), (0, .nameAndType 28 29), (0, u "make"), (0, u "(CCI)Ljava/lang/String;"), (0, .methodref 16 31), (0, .nameAndType 32 33), (0, u "ref"), (0, u "(CCICCI)I"), (0, .methodref 35 36), (0, .class_ 37), (0, .nameAndType 38 39), (0, u "com/example/stoplist/stoplist/util/Utf8"), (0, u "compare"), (0, u "(Ljava/lang/String;Ljava/lang/String;)I"), (0, .methodref 16 41), (0, .nameAndType 42 43), (0, u "sgn"), (0, u "(I)I"), (3, u "law"), (0, u "(III)Z")] 2

def k1m0 : Method := { name := "<init>", desc := "()V", sig := { parameters := [], returnType := none }, accessFlags := 2, code := none }
def k1c1 : Code := { maxStack := 2, maxLocals := 1, code := method_2_code, exceptionTable := #[], attributes := #[] }
def k1m1 : Method := { name := "key", desc := "(C)I", sig := { parameters := [.char], returnType := some .int }, accessFlags := 10, code := some k1c1 }
def k1c2 : Code := { maxStack := 2, maxLocals := 2, code := method_3_code, exceptionTable := #[], attributes := #[] }
def k1m2 : Method := { name := "cmp", desc := "(II)I", sig := { parameters := [.int, .int], returnType := some .int }, accessFlags := 10, code := some k1c2 }
def k1c3 : Code := { maxStack := 1, maxLocals := 1, code := method_4_code, exceptionTable := #[], attributes := #[] }
def k1m3 : Method := { name := "sgn", desc := "(I)I", sig := { parameters := [.int], returnType := some .int }, accessFlags := 10, code := some k1c3 }
def k1c4 : Code := { maxStack := 6, maxLocals := 3, code := method_5_code, exceptionTable := #[], attributes := #[] }
def k1m4 : Method := { name := "make", desc := "(CCI)Ljava/lang/String;", sig := { parameters := [.char, .char, .int], returnType := some (.object "java/lang/String") }, accessFlags := 10, code := some k1c4 }
def k1c5 : Code := { maxStack := 2, maxLocals := 8, code := method_6_code, exceptionTable := #[], attributes := #[] }
def k1m5 : Method := { name := "ref", desc := "(CCICCI)I", sig := { parameters := [.char, .char, .int, .char, .char, .int], returnType := some .int }, accessFlags := 10, code := some k1c5 }
def k1c6 : Code := { maxStack := 6, maxLocals := 14, code := code, exceptionTable := #[], attributes := #[] }
def k1m6 : Method := { name := "law", desc := "(III)Z", sig := { parameters := [.int, .int, .int], returnType := some .boolean }, accessFlags := 9, code := some k1c6 }
/-- com/example/stoplist/stoplist/util/Utf8ComparePinLaw -/
def k1 : Class := { plain "com/example/stoplist/stoplist/util/Utf8ComparePinLaw" (some 0) with
  accessFlags := 49
  interfaces := #[]
  cf := some (fileOf pool1 16 #[] #[{ accessFlags := 2, nameIndex := 5, descriptorIndex := 6, attributes := #[] }, { accessFlags := 10, nameIndex := 19, descriptorIndex := 20, attributes := #[] }, { accessFlags := 10, nameIndex := 23, descriptorIndex := 24, attributes := #[] }, { accessFlags := 10, nameIndex := 42, descriptorIndex := 43, attributes := #[] }, { accessFlags := 10, nameIndex := 28, descriptorIndex := 29, attributes := #[] }, { accessFlags := 10, nameIndex := 32, descriptorIndex := 33, attributes := #[] }, { accessFlags := 9, nameIndex := 47, descriptorIndex := 48, attributes := #[] }] 49 2 #[] #[])
  fields := #[]
  methods := #[k1m0, k1m1, k1m2, k1m3, k1m4, k1m5, k1m6]
  instanceTypes := #[]
  staticTypes := #[]
  resolved := Array.replicate 51 none
  statics := none }

def pool2 : Array CpInfo := pool [(1, .class_ 2), (0, u "java/io/Serializable"), (0, .class_ 4), (0, u "java/lang/Object")] 2

/-- java/io/Serializable -/
def k2 : Class := { plain "java/io/Serializable" (some 0) with
  accessFlags := 1537
  interfaces := #[]
  cf := some (fileOf pool2 1 #[] #[] 1537 3 #[] #[])
  fields := #[]
  methods := #[]
  instanceTypes := #[]
  staticTypes := #[]
  resolved := Array.replicate 7 none
  statics := none }

def pool3 : Array CpInfo := pool [(1, .class_ 2), (0, u "java/lang/Comparable"), (0, .class_ 4), (0, u "java/lang/Object")] 7

/-- java/lang/Comparable -/
def k3 : Class := { plain "java/lang/Comparable" (some 0) with
  accessFlags := 1537
  interfaces := #[]
  cf := some (fileOf pool3 1 #[] #[] 1537 3 #[] #[])
  fields := #[]
  methods := #[]
  instanceTypes := #[]
  staticTypes := #[]
  resolved := Array.replicate 12 none
  statics := none }

def pool4 : Array CpInfo := pool [(2, .class_ 4), (1, u "java/lang/CharSequence"), (42, .class_ 48), (0, u "java/lang/CharSequence$1CodePointIterator"), (10, .class_ 60), (0, u "java/lang/CharSequence$1CharIterator"), (5, .class_ 67), (0, u "java/lang/Object")] 63

/-- java/lang/CharSequence -/
def k4 : Class := { plain "java/lang/CharSequence" (some 0) with
  accessFlags := 1537
  interfaces := #[]
  cf := some (fileOf pool4 2 #[.nestMembers #[47, 59]] #[] 1537 66 #[] #[])
  fields := #[]
  methods := #[]
  instanceTypes := #[]
  staticTypes := #[]
  resolved := Array.replicate 131 none
  statics := none }

def pool5 : Array CpInfo := pool [(1, .class_ 2), (0, u "java/lang/constant/Constable"), (0, .class_ 4), (0, u "java/lang/Object")] 6

/-- java/lang/constant/Constable -/
def k5 : Class := { plain "java/lang/constant/Constable" (some 0) with
  accessFlags := 1537
  interfaces := #[]
  cf := some (fileOf pool5 1 #[] #[] 1537 3 #[] #[])
  fields := #[]
  methods := #[]
  instanceTypes := #[]
  staticTypes := #[]
  resolved := Array.replicate 11 none
  statics := none }

def pool6 : Array CpInfo := pool [(1, .class_ 2), (0, u "java/lang/constant/ConstantDesc"), (0, .class_ 4), (0, u "java/lang/Object")] 32

/-- java/lang/constant/ConstantDesc -/
def k6 : Class := { plain "java/lang/constant/ConstantDesc" (some 0) with
  accessFlags := 1537
  interfaces := #[]
  cf := some (fileOf pool6 1 #[] #[] 1537 3 #[] #[])
  fields := #[]
  methods := #[]
  instanceTypes := #[]
  staticTypes := #[]
  resolved := Array.replicate 37 none
  statics := none }

def pool7 : Array CpInfo := pool [(1, .methodref 2 3), (0, .class_ 4), (0, .nameAndType 5 6), (0, u "java/lang/Object"), (0, u "<init>"), (0, u "()V"), (0, .string 8), (0, u ""), (0, .fieldref 10 11), (0, .class_ 12), (0, .nameAndType 13 14), (0, u "java/lang/String"), (0, u "value"), (0, u "[B"), (0, .fieldref 10 16), (0, .nameAndType 17 18), (0, u "coder"), (0, u "B"), (2, u "hash"), (0, u "I"), (2, u "hashIsZero"), (0, u "Z"), (0, .methodref 10 28), (0, .nameAndType 5 29), (0, u "([CIILjava/lang/Void;)V"), (8, .fieldref 10 39), (0, .nameAndType 40 26), (0, u "COMPACT_STRINGS"), (1, .class_ 44), (1, u "java/lang/StringUTF16"), (0, u "compress"), (1, .methodref 42 48), (0, .nameAndType 49 50), (0, u "coderFromArrayLen"), (0, u "([BI)B"), (56, .class_ 109), (1, u "java/lang/StringLatin1"), (32, u "()Z"), (34, .methodref 42 178), (0, .nameAndType 45 179), (0, u "([CII)[B"), (154, u "()I"), (0, .methodref 10 336), (0, .nameAndType 17 337), (0, u "()B"), (25, u "([BI)C"), (27, u "(II)V"), (35, u "(I)C"), (64, .methodref 10 493), (0, .nameAndType 494 142), (0, u "isLatin1"), (0, .methodref 107 496), (0, .nameAndType 497 363), (0, u "charAt"), (0, .methodref 42 496), (2, u "checkIndex"), (5, u "length"), (67, .class_ 576), (0, u "java/lang/CharSequence"), (22, u "CASE_INSENSITIVE_ORDER"), (0, u "Ljava/util/Comparator;"), (409, u "([C)V"), (42, .fieldref 1054 1055), (0, .class_ 1056), (0, .nameAndType 1057 1058), (0, u "jdk/internal/util/Preconditions"), (0, u "SIOOBE_FORMATTER"), (0, u "Ljava/util/function/BiFunction;"), (0, .methodref 1054 1060), (0, .nameAndType 501 1061), (0, u "(IILjava/util/function/BiFunction;)I"), (39, u "serialPersistentFields"), (0, u "[Ljava/io/ObjectStreamField;"), (0, .class_ 1104), (0, u "java/lang/String$CaseInsensitiveComparator"), (1, .class_ 1107), (0, u "java/io/Serializable"), (0, .class_ 1109), (0, u "java/lang/Comparable"), (0, .class_ 1111), (0, u "java/lang/constant/Constable"), (0, .class_ 1113), (0, u "java/lang/constant/ConstantDesc"), (2, u "serialVersionUID"), (0, u "J"), (3, u "REPL"), (0, u "C"), (2, u "LATIN1"), (1, u "UTF16")] 323

def k7m0 : Method := { name := "<init>", desc := "()V", sig := { parameters := [], returnType := none }, accessFlags := 1, code := none }
def k7c1 : Code := { maxStack := 5, maxLocals := 2, code := jdk_42_method_3_code, exceptionTable := #[], attributes := #[] }
def k7m1 : Method := { name := "<init>", desc := "([C)V", sig := { parameters := [(.array .char)], returnType := none }, accessFlags := 1, code := some k7c1 }
def k7c2 : Code := { maxStack := 2, maxLocals := 1, code := jdk_42_method_54_code, exceptionTable := #[], attributes := #[] }
def k7m2 : Method := { name := "length", desc := "()I", sig := { parameters := [], returnType := some .int }, accessFlags := 1, code := some k7c2 }
def k7c3 : Code := { maxStack := 2, maxLocals := 2, code := jdk_42_method_56_code, exceptionTable := #[], attributes := #[] }
def k7m3 : Method := { name := "charAt", desc := "(I)C", sig := { parameters := [.int], returnType := some .char }, accessFlags := 1, code := some k7c3 }
def k7c4 : Code := { maxStack := 4, maxLocals := 6, code := jdk_42_method_149_code, exceptionTable := #[], attributes := #[] }
def k7m4 : Method := { name := "<init>", desc := "([CIILjava/lang/Void;)V", sig := { parameters := [(.array .char), .int, .int, (.object "java/lang/Void")], returnType := none }, accessFlags := 2, code := some k7c4 }
def k7c5 : Code := { maxStack := 1, maxLocals := 1, code := jdk_42_method_152_code, exceptionTable := #[], attributes := #[] }
def k7m5 : Method := { name := "coder", desc := "()B", sig := { parameters := [], returnType := some .byte }, accessFlags := 0, code := some k7c5 }
def k7c6 : Code := { maxStack := 1, maxLocals := 1, code := jdk_42_method_154_code, exceptionTable := #[], attributes := #[] }
def k7m6 : Method := { name := "isLatin1", desc := "()Z", sig := { parameters := [], returnType := some .boolean }, accessFlags := 0, code := some k7c6 }
def k7c7 : Code := { maxStack := 3, maxLocals := 2, code := jdk_42_method_155_code, exceptionTable := #[], attributes := #[] }
def k7m7 : Method := { name := "checkIndex", desc := "(II)V", sig := { parameters := [.int, .int], returnType := none }, accessFlags := 8, code := some k7c7 }
/-- java/lang/String -/
def k7 : Class := { plain "java/lang/String" (some 0) with
  accessFlags := 49
  interfaces := #[2, 3, 4, 5, 6]
  cf := some (fileOf pool7 10 #[.nestMembers #[1103]] #[{ accessFlags := 1, nameIndex := 5, descriptorIndex := 6, attributes := #[] }, { accessFlags := 1, nameIndex := 5, descriptorIndex := 1010, attributes := #[] }, { accessFlags := 1, nameIndex := 507, descriptorIndex := 334, attributes := #[] }, { accessFlags := 1, nameIndex := 497, descriptorIndex := 427, attributes := #[] }, { accessFlags := 2, nameIndex := 5, descriptorIndex := 29, attributes := #[] }, { accessFlags := 0, nameIndex := 17, descriptorIndex := 337, attributes := #[] }, { accessFlags := 0, nameIndex := 494, descriptorIndex := 142, attributes := #[] }, { accessFlags := 8, nameIndex := 501, descriptorIndex := 391, attributes := #[] }] 49 2 #[1106, 1108, 575, 1110, 1112] #[{ accessFlags := 18, nameIndex := 13, descriptorIndex := 14, attributes := #[] }, { accessFlags := 18, nameIndex := 17, descriptorIndex := 18, attributes := #[] }, { accessFlags := 2, nameIndex := 21, descriptorIndex := 22, attributes := #[] }, { accessFlags := 2, nameIndex := 25, descriptorIndex := 26, attributes := #[] }, { accessFlags := 26, nameIndex := 1116, descriptorIndex := 1117, attributes := #[] }, { accessFlags := 24, nameIndex := 40, descriptorIndex := 26, attributes := #[] }, { accessFlags := 26, nameIndex := 1101, descriptorIndex := 1102, attributes := #[] }, { accessFlags := 26, nameIndex := 1121, descriptorIndex := 1122, attributes := #[] }, { accessFlags := 25, nameIndex := 599, descriptorIndex := 600, attributes := #[] }, { accessFlags := 24, nameIndex := 1125, descriptorIndex := 18, attributes := #[] }, { accessFlags := 24, nameIndex := 1127, descriptorIndex := 18, attributes := #[] }])
  fields := #[{ name := "value", type := (.array .byte), accessFlags := 18, slot := 0, constantValue := 0 }, { name := "coder", type := .byte, accessFlags := 18, slot := 1, constantValue := 0 }, { name := "hash", type := .int, accessFlags := 2, slot := 2, constantValue := 0 }, { name := "hashIsZero", type := .boolean, accessFlags := 2, slot := 3, constantValue := 0 }, { name := "serialVersionUID", type := .long, accessFlags := 26, slot := 0, constantValue := 0 }, { name := "COMPACT_STRINGS", type := .boolean, accessFlags := 24, slot := 1, constantValue := 0 }, { name := "serialPersistentFields", type := (.array (.object "java/io/ObjectStreamField")), accessFlags := 26, slot := 2, constantValue := 0 }, { name := "REPL", type := .char, accessFlags := 26, slot := 3, constantValue := 0 }, { name := "CASE_INSENSITIVE_ORDER", type := (.object "java/util/Comparator"), accessFlags := 25, slot := 4, constantValue := 0 }, { name := "LATIN1", type := .byte, accessFlags := 24, slot := 5, constantValue := 0 }, { name := "UTF16", type := .byte, accessFlags := 24, slot := 6, constantValue := 0 }]
  methods := #[k7m0, k7m1, k7m2, k7m3, k7m4, k7m5, k7m6, k7m7]
  instanceTypes := #[(.array .byte), .byte, .int, .boolean]
  staticTypes := #[.long, .boolean, (.array (.object "java/io/ObjectStreamField")), .char, (.object "java/util/Comparator"), .byte, .byte]
  resolved := Array.replicate 1451 none
  statics := some 0 }

def pool8 : Array CpInfo := pool [(2, .class_ 4), (1, u "java/lang/Object"), (0, u "<init>"), (0, u "()V"), (30, .class_ 39), (1, u "com/example/stoplist/stoplist/util/Utf8"), (4, .methodref 45 46), (0, .class_ 47), (0, .nameAndType 48 49), (0, u "java/lang/String"), (0, u "length"), (0, u "()I"), (0, .methodref 51 52), (0, .class_ 53), (0, .nameAndType 54 55), (0, u "java/lang/Math"), (0, u "min"), (0, u "(II)I"), (0, .methodref 45 57), (0, .nameAndType 58 59), (0, u "charAt"), (0, u "(I)C"), (0, .methodref 61 62), (0, .class_ 63), (0, .nameAndType 64 55), (0, u "java/lang/Integer"), (0, u "compare"), (0, .methodref 66 67), (0, .class_ 68), (0, .nameAndType 69 70), (0, u "java/lang/Character"), (0, u "isSurrogate"), (0, u "(C)Z"), (0, .methodref 66 72), (0, .nameAndType 64 73), (0, u "(CC)I"), (4, u "(Ljava/lang/String;Ljava/lang/String;)I")] 3

def k8m0 : Method := { name := "<init>", desc := "()V", sig := { parameters := [], returnType := none }, accessFlags := 2, code := none }
def k8c1 : Code := { maxStack := 3, maxLocals := 5, code := prog_56_method_4_code, exceptionTable := #[], attributes := #[] }
def k8m1 : Method := { name := "compare", desc := "(Ljava/lang/String;Ljava/lang/String;)I", sig := { parameters := [(.object "java/lang/String"), (.object "java/lang/String")], returnType := some .int }, accessFlags := 9, code := some k8c1 }
/-- com/example/stoplist/stoplist/util/Utf8 -/
def k8 : Class := { plain "com/example/stoplist/stoplist/util/Utf8" (some 0) with
  accessFlags := 49
  interfaces := #[]
  cf := some (fileOf pool8 37 #[] #[{ accessFlags := 2, nameIndex := 5, descriptorIndex := 6, attributes := #[] }, { accessFlags := 9, nameIndex := 64, descriptorIndex := 78, attributes := #[] }] 49 2 #[] #[])
  fields := #[]
  methods := #[k8m0, k8m1]
  instanceTypes := #[]
  staticTypes := #[]
  resolved := Array.replicate 82 none
  statics := none }

def pool9 : Array CpInfo := pool [(1, .class_ 2), (0, u "java/lang/Math"), (1, .class_ 6), (1, u "java/lang/Object"), (0, u "<init>"), (0, u "()V"), (89, .class_ 100), (1, u "java/lang/Math$RandomNumberGeneratorHolder"), (71, u "negativeZeroFloatBits"), (0, u "J"), (2, u "negativeZeroDoubleBits"), (24, u "min"), (43, u "$assertionsDisabled"), (0, u "Z"), (88, u "(II)I"), (2, u "twoToTheDoubleScaleDown"), (0, u "D"), (4, u "twoToTheDoubleScaleUp"), (9, u "E"), (3, u "PI"), (2, u "TAU"), (2, u "DEGREES_TO_RADIANS"), (0, u "RADIANS_TO_DEGREES")] 94

def k9m0 : Method := { name := "<init>", desc := "()V", sig := { parameters := [], returnType := none }, accessFlags := 2, code := none }
def k9c1 : Code := { maxStack := 2, maxLocals := 2, code := jdk_29_method_69_code, exceptionTable := #[], attributes := #[] }
def k9m1 : Method := { name := "min", desc := "(II)I", sig := { parameters := [.int, .int], returnType := some .int }, accessFlags := 9, code := some k9c1 }
/-- java/lang/Math -/
def k9 : Class := { plain "java/lang/Math" (some 0) with
  accessFlags := 49
  interfaces := #[]
  cf := some (fileOf pool9 1 #[.nestMembers #[98]] #[{ accessFlags := 2, nameIndex := 7, descriptorIndex := 8, attributes := #[] }, { accessFlags := 9, nameIndex := 201, descriptorIndex := 335, attributes := #[] }] 49 4 #[] #[{ accessFlags := 25, nameIndex := 354, descriptorIndex := 339, attributes := #[] }, { accessFlags := 25, nameIndex := 358, descriptorIndex := 339, attributes := #[] }, { accessFlags := 25, nameIndex := 361, descriptorIndex := 339, attributes := #[] }, { accessFlags := 26, nameIndex := 364, descriptorIndex := 339, attributes := #[] }, { accessFlags := 26, nameIndex := 365, descriptorIndex := 339, attributes := #[] }, { accessFlags := 26, nameIndex := 172, descriptorIndex := 173, attributes := #[] }, { accessFlags := 26, nameIndex := 176, descriptorIndex := 173, attributes := #[] }, { accessFlags := 8, nameIndex := 344, descriptorIndex := 339, attributes := #[] }, { accessFlags := 8, nameIndex := 338, descriptorIndex := 339, attributes := #[] }, { accessFlags := 4120, nameIndex := 245, descriptorIndex := 246, attributes := #[] }])
  fields := #[{ name := "E", type := .double, accessFlags := 25, slot := 0, constantValue := 0 }, { name := "PI", type := .double, accessFlags := 25, slot := 1, constantValue := 0 }, { name := "TAU", type := .double, accessFlags := 25, slot := 2, constantValue := 0 }, { name := "DEGREES_TO_RADIANS", type := .double, accessFlags := 26, slot := 3, constantValue := 0 }, { name := "RADIANS_TO_DEGREES", type := .double, accessFlags := 26, slot := 4, constantValue := 0 }, { name := "negativeZeroFloatBits", type := .long, accessFlags := 26, slot := 5, constantValue := 0 }, { name := "negativeZeroDoubleBits", type := .long, accessFlags := 26, slot := 6, constantValue := 0 }, { name := "twoToTheDoubleScaleUp", type := .double, accessFlags := 8, slot := 7, constantValue := 0 }, { name := "twoToTheDoubleScaleDown", type := .double, accessFlags := 8, slot := 8, constantValue := 0 }, { name := "$assertionsDisabled", type := .boolean, accessFlags := 4120, slot := 9, constantValue := 0 }]
  methods := #[k9m0, k9m1]
  instanceTypes := #[]
  staticTypes := #[.double, .double, .double, .double, .double, .long, .long, .double, .double, .boolean]
  resolved := Array.replicate 460 none
  statics := none }

def pool10 : Array CpInfo := pool [(2, .class_ 4), (1, u "java/lang/Object"), (0, u "<init>"), (0, u "()V"), (1, .class_ 10), (1, u "java/lang/Number"), (2, .class_ 14), (0, u "java/io/Serializable"), (0, u "serialVersionUID"), (0, u "J")] 20

def k10m0 : Method := { name := "<init>", desc := "()V", sig := { parameters := [], returnType := none }, accessFlags := 1, code := none }
/-- java/lang/Number -/
def k10 : Class := { plain "java/lang/Number" (some 0) with
  accessFlags := 1057
  interfaces := #[2]
  cf := some (fileOf pool10 8 #[] #[{ accessFlags := 1, nameIndex := 5, descriptorIndex := 6, attributes := #[] }] 1057 2 #[13] #[{ accessFlags := 26, nameIndex := 15, descriptorIndex := 16, attributes := #[] }])
  fields := #[{ name := "serialVersionUID", type := .long, accessFlags := 26, slot := 0, constantValue := 0 }]
  methods := #[k10m0]
  instanceTypes := #[]
  staticTypes := #[.long]
  resolved := Array.replicate 37 none
  statics := none }

def pool11 : Array CpInfo := pool [(1, .class_ 2), (0, u "java/lang/Integer"), (16, u "digits"), (0, u "[C"), (39, u "(II)I"), (24, u "DigitOnes"), (0, u "[B"), (2, u "DigitTens"), (99, .class_ 190), (0, u "java/lang/Integer$IntegerCache"), (3, u "I"), (8, .class_ 204), (0, u "java/lang/Number"), (2, u "value"), (53, u "compare"), (40, u "TYPE"), (0, u "Ljava/lang/Class;"), (0, .class_ 305), (0, u "java/lang/Comparable"), (0, .class_ 307), (0, u "java/lang/constant/Constable"), (0, .class_ 309), (0, u "java/lang/constant/ConstantDesc"), (0, u "MIN_VALUE"), (1, u "MAX_VALUE"), (3, u "SIZE"), (1, u "BYTES"), (1, u "serialVersionUID"), (0, u "J")] 131

def k11c0 : Code := { maxStack := 2, maxLocals := 2, code := jdk_33_method_40_code, exceptionTable := #[], attributes := #[] }
def k11m0 : Method := { name := "compare", desc := "(II)I", sig := { parameters := [.int, .int], returnType := some .int }, accessFlags := 9, code := some k11c0 }
/-- java/lang/Integer -/
def k11 : Class := { plain "java/lang/Integer" (some 10) with
  accessFlags := 49
  interfaces := #[3, 5, 6]
  cf := some (fileOf pool11 1 #[.nestMembers #[189]] #[{ accessFlags := 9, nameIndex := 261, descriptorIndex := 60, attributes := #[] }] 49 203 #[304, 306, 308] #[{ accessFlags := 25, nameIndex := 310, descriptorIndex := 194, attributes := #[] }, { accessFlags := 25, nameIndex := 312, descriptorIndex := 194, attributes := #[] }, { accessFlags := 25, nameIndex := 302, descriptorIndex := 303, attributes := #[] }, { accessFlags := 24, nameIndex := 19, descriptorIndex := 20, attributes := #[] }, { accessFlags := 24, nameIndex := 89, descriptorIndex := 86, attributes := #[] }, { accessFlags := 24, nameIndex := 85, descriptorIndex := 86, attributes := #[] }, { accessFlags := 18, nameIndex := 207, descriptorIndex := 194, attributes := #[] }, { accessFlags := 25, nameIndex := 316, descriptorIndex := 194, attributes := #[] }, { accessFlags := 25, nameIndex := 318, descriptorIndex := 194, attributes := #[] }, { accessFlags := 26, nameIndex := 320, descriptorIndex := 321, attributes := #[] }])
  fields := #[{ name := "MIN_VALUE", type := .int, accessFlags := 25, slot := 0, constantValue := 0 }, { name := "MAX_VALUE", type := .int, accessFlags := 25, slot := 1, constantValue := 0 }, { name := "TYPE", type := (.object "java/lang/Class"), accessFlags := 25, slot := 2, constantValue := 0 }, { name := "digits", type := (.array .char), accessFlags := 24, slot := 3, constantValue := 0 }, { name := "DigitTens", type := (.array .byte), accessFlags := 24, slot := 4, constantValue := 0 }, { name := "DigitOnes", type := (.array .byte), accessFlags := 24, slot := 5, constantValue := 0 }, { name := "value", type := .int, accessFlags := 18, slot := 0, constantValue := 0 }, { name := "SIZE", type := .int, accessFlags := 25, slot := 6, constantValue := 0 }, { name := "BYTES", type := .int, accessFlags := 25, slot := 7, constantValue := 0 }, { name := "serialVersionUID", type := .long, accessFlags := 26, slot := 8, constantValue := 0 }]
  methods := #[k11m0]
  instanceTypes := #[.int]
  staticTypes := #[.int, .int, (.object "java/lang/Class"), (.array .char), (.array .byte), (.array .byte), .int, .int, .long]
  resolved := Array.replicate 453 none
  statics := none }

def pool12 : Array CpInfo := pool [(3, .class_ 4), (0, u "java/lang/String"), (1, .class_ 8), (1, u "java/lang/Object"), (0, u "<init>"), (0, u "()V"), (0, .methodref 12 13), (0, .class_ 14), (0, .nameAndType 15 16), (0, u "java/lang/StringUTF16"), (0, u "newBytesLength"), (0, u "(I)I"), (3, .integer 1073741823), (23, .fieldref 12 45), (0, .nameAndType 46 47), (0, u "$assertionsDisabled"), (0, u "Z"), (0, .methodref 12 49), (0, .nameAndType 50 51), (0, u "length"), (0, u "([B)I"), (7, .fieldref 12 60), (0, .nameAndType 61 62), (0, u "HI_BYTE_SHIFT"), (0, u "I"), (0, .fieldref 12 64), (0, .nameAndType 65 62), (0, u "LO_BYTE_SHIFT"), (1, .methodref 12 68), (0, .nameAndType 69 70), (0, u "checkIndex"), (0, u "(I[B)V"), (0, .methodref 12 72), (0, .nameAndType 73 74), (0, u "getChar"), (0, u "([BI)C"), (32, .methodref 12 108), (0, .nameAndType 109 110), (0, u "newBytesFor"), (0, u "(I)[B"), (0, .methodref 12 112), (0, .nameAndType 113 114), (0, u "putChar"), (0, u "([BII)V"), (0, .methodref 12 116), (0, .nameAndType 117 118), (0, u "compress"), (0, u "([CI[BII)I"), (0, .methodref 12 120), (0, .nameAndType 121 122), (0, u "toBytes"), (0, u "([CII)[B"), (138, u "coderFromArrayLen"), (0, u "([BI)B"), (106, .class_ 371), (1, u "java/lang/StringUTF16$LinesSpliterator"), (20, u "charAt"), (21, .methodref 3 415), (0, .nameAndType 69 416), (0, u "(II)V"), (13, u "MAX_LENGTH"), (196, .class_ 628), (0, u "java/lang/StringUTF16$CodePointsSpliterator"), (0, .class_ 630), (0, u "java/lang/StringUTF16$CharsSpliterator")] 4

def k12m0 : Method := { name := "<init>", desc := "()V", sig := { parameters := [], returnType := none }, accessFlags := 0, code := none }
def k12c1 : Code := { maxStack := 1, maxLocals := 1, code := jdk_52_method_2_code, exceptionTable := #[], attributes := #[] }
def k12m1 : Method := { name := "newBytesFor", desc := "(I)[B", sig := { parameters := [.int], returnType := some (.array .byte) }, accessFlags := 9, code := some k12c1 }
def k12c2 : Code := { maxStack := 4, maxLocals := 1, code := jdk_52_method_3_code, exceptionTable := #[], attributes := #[] }
def k12m2 : Method := { name := "newBytesLength", desc := "(I)I", sig := { parameters := [.int], returnType := some .int }, accessFlags := 9, code := some k12c2 }
def k12c3 : Code := { maxStack := 4, maxLocals := 3, code := jdk_52_method_4_code, exceptionTable := #[], attributes := #[] }
def k12m3 : Method := { name := "putChar", desc := "([BII)V", sig := { parameters := [(.array .byte), .int, .int], returnType := none }, accessFlags := 8, code := some k12c3 }
def k12c4 : Code := { maxStack := 3, maxLocals := 2, code := jdk_52_method_5_code, exceptionTable := #[], attributes := #[] }
def k12m4 : Method := { name := "getChar", desc := "([BI)C", sig := { parameters := [(.array .byte), .int], returnType := some .char }, accessFlags := 8, code := some k12c4 }
def k12c5 : Code := { maxStack := 2, maxLocals := 1, code := jdk_52_method_6_code, exceptionTable := #[], attributes := #[] }
def k12m5 : Method := { name := "length", desc := "([B)I", sig := { parameters := [(.array .byte)], returnType := some .int }, accessFlags := 9, code := some k12c5 }
def k12c6 : Code := { maxStack := 4, maxLocals := 5, code := jdk_52_method_14_code, exceptionTable := #[], attributes := #[] }
def k12m6 : Method := { name := "toBytes", desc := "([CII)[B", sig := { parameters := [(.array .char), .int, .int], returnType := some (.array .byte) }, accessFlags := 9, code := some k12c6 }
def k12c7 : Code := { maxStack := 2, maxLocals := 2, code := jdk_52_method_15_code, exceptionTable := #[], attributes := #[] }
def k12m7 : Method := { name := "coderFromArrayLen", desc := "([BI)B", sig := { parameters := [(.array .byte), .int], returnType := some .byte }, accessFlags := 8, code := some k12c7 }
def k12c8 : Code := { maxStack := 5, maxLocals := 6, code := jdk_52_method_16_code, exceptionTable := #[], attributes := #[] }
def k12m8 : Method := { name := "compress", desc := "([CII)[B", sig := { parameters := [(.array .char), .int, .int], returnType := some (.array .byte) }, accessFlags := 9, code := some k12c8 }
def k12c9 : Code := { maxStack := 3, maxLocals := 7, code := jdk_52_method_21_code, exceptionTable := #[], attributes := #[] }
def k12m9 : Method := { name := "compress", desc := "([CI[BII)I", sig := { parameters := [(.array .char), .int, (.array .byte), .int, .int], returnType := some .int }, accessFlags := 9, code := some k12c9 }
def k12c10 : Code := { maxStack := 2, maxLocals := 2, code := jdk_52_method_83_code, exceptionTable := #[], attributes := #[] }
def k12m10 : Method := { name := "charAt", desc := "([BI)C", sig := { parameters := [(.array .byte), .int], returnType := some .char }, accessFlags := 9, code := some k12c10 }
def k12c11 : Code := { maxStack := 2, maxLocals := 2, code := jdk_52_method_91_code, exceptionTable := #[], attributes := #[] }
def k12m11 : Method := { name := "checkIndex", desc := "(I[B)V", sig := { parameters := [.int, (.array .byte)], returnType := none }, accessFlags := 9, code := some k12c11 }
/-- java/lang/StringUTF16 -/
def k12 : Class := { plain "java/lang/StringUTF16" (some 0) with
  accessFlags := 48
  interfaces := #[]
  cf := some (fileOf pool12 12 #[.nestMembers #[627, 629, 369]] #[{ accessFlags := 0, nameIndex := 9, descriptorIndex := 10, attributes := #[] }, { accessFlags := 9, nameIndex := 109, descriptorIndex := 110, attributes := #[] }, { accessFlags := 9, nameIndex := 15, descriptorIndex := 16, attributes := #[] }, { accessFlags := 8, nameIndex := 113, descriptorIndex := 114, attributes := #[] }, { accessFlags := 8, nameIndex := 73, descriptorIndex := 74, attributes := #[] }, { accessFlags := 9, nameIndex := 50, descriptorIndex := 51, attributes := #[] }, { accessFlags := 9, nameIndex := 121, descriptorIndex := 122, attributes := #[] }, { accessFlags := 8, nameIndex := 261, descriptorIndex := 262, attributes := #[] }, { accessFlags := 9, nameIndex := 117, descriptorIndex := 122, attributes := #[] }, { accessFlags := 9, nameIndex := 117, descriptorIndex := 118, attributes := #[] }, { accessFlags := 9, nameIndex := 392, descriptorIndex := 74, attributes := #[] }, { accessFlags := 9, nameIndex := 69, descriptorIndex := 70, attributes := #[] }] 48 6 #[] #[{ accessFlags := 26, nameIndex := 61, descriptorIndex := 62, attributes := #[] }, { accessFlags := 26, nameIndex := 65, descriptorIndex := 62, attributes := #[] }, { accessFlags := 24, nameIndex := 430, descriptorIndex := 62, attributes := #[] }, { accessFlags := 4120, nameIndex := 46, descriptorIndex := 47, attributes := #[] }])
  fields := #[{ name := "HI_BYTE_SHIFT", type := .int, accessFlags := 26, slot := 0, constantValue := 0 }, { name := "LO_BYTE_SHIFT", type := .int, accessFlags := 26, slot := 1, constantValue := 0 }, { name := "MAX_LENGTH", type := .int, accessFlags := 24, slot := 2, constantValue := 0 }, { name := "$assertionsDisabled", type := .boolean, accessFlags := 4120, slot := 3, constantValue := 0 }]
  methods := #[k12m0, k12m1, k12m2, k12m3, k12m4, k12m5, k12m6, k12m7, k12m8, k12m9, k12m10, k12m11]
  instanceTypes := #[]
  staticTypes := #[.int, .int, .int, .boolean]
  resolved := Array.replicate 635 none
  statics := some 1 }

def pool13 : Array CpInfo := pool [(2, .class_ 4), (1, u "java/lang/Object"), (0, u "<init>"), (0, u "()V"), (17, .class_ 26), (1, u "jdk/internal/util/Preconditions"), (6, u "checkIndex"), (21, .class_ 56), (0, u "jdk/internal/util/Preconditions$4"), (57, .class_ 115), (0, u "jdk/internal/util/Preconditions$1"), (7, u "SIOOBE_FORMATTER"), (0, u "Ljava/util/function/BiFunction;"), (0, .class_ 126), (0, u "jdk/internal/util/Preconditions$2"), (3, u "AIOOBE_FORMATTER"), (0, .class_ 132), (0, u "jdk/internal/util/Preconditions$3"), (3, u "IOOBE_FORMATTER"), (41, u "(IILjava/util/function/BiFunction;)I")] 15

def k13m0 : Method := { name := "<init>", desc := "()V", sig := { parameters := [], returnType := none }, accessFlags := 1, code := none }
def k13c1 : Code := { maxStack := 3, maxLocals := 3, code := jdk_41_method_11_code, exceptionTable := #[], attributes := #[] }
def k13m1 : Method := { name := "checkIndex", desc := "(IILjava/util/function/BiFunction;)I", sig := { parameters := [.int, .int, (.object "java/util/function/BiFunction")], returnType := some .int }, accessFlags := 9, code := some k13c1 }
/-- jdk/internal/util/Preconditions -/
def k13 : Class := { plain "jdk/internal/util/Preconditions" (some 0) with
  accessFlags := 33
  interfaces := #[]
  cf := some (fileOf pool13 24 #[.nestMembers #[55, 131, 125, 114]] #[{ accessFlags := 1, nameIndex := 5, descriptorIndex := 6, attributes := #[] }, { accessFlags := 9, nameIndex := 33, descriptorIndex := 178, attributes := #[] }] 33 2 #[] #[{ accessFlags := 25, nameIndex := 123, descriptorIndex := 124, attributes := #[] }, { accessFlags := 25, nameIndex := 130, descriptorIndex := 124, attributes := #[] }, { accessFlags := 25, nameIndex := 136, descriptorIndex := 124, attributes := #[] }])
  fields := #[{ name := "SIOOBE_FORMATTER", type := (.object "java/util/function/BiFunction"), accessFlags := 25, slot := 0, constantValue := 0 }, { name := "AIOOBE_FORMATTER", type := (.object "java/util/function/BiFunction"), accessFlags := 25, slot := 1, constantValue := 0 }, { name := "IOOBE_FORMATTER", type := (.object "java/util/function/BiFunction"), accessFlags := 25, slot := 2, constantValue := 0 }]
  methods := #[k13m0, k13m1]
  instanceTypes := #[]
  staticTypes := #[(.object "java/util/function/BiFunction"), (.object "java/util/function/BiFunction"), (.object "java/util/function/BiFunction")]
  resolved := Array.replicate 194 none
  statics := some 2 }

def pool14 : Array CpInfo := pool [(1, .class_ 2), (0, u "java/lang/Character"), (18, u "value"), (0, u "C"), (19, .class_ 44), (1, u "java/lang/Object"), (3, .class_ 50), (1, u "java/lang/Character$CharacterCache"), (24, .integer 55296), (1, .integer 57344), (3, u "(C)Z"), (17, u "(CC)I"), (181, u "compare"), (2, u "$assertionsDisabled"), (0, u "Z"), (21, .class_ 309), (1, u "java/lang/Character$UnicodeBlock"), (73, u "TYPE"), (0, u "Ljava/lang/Class;"), (0, .class_ 386), (0, u "java/io/Serializable"), (0, .class_ 388), (0, u "java/lang/Comparable"), (0, .class_ 390), (0, u "java/lang/constant/Constable"), (0, u "MIN_RADIX"), (0, u "I"), (2, u "MAX_RADIX"), (1, u "MIN_VALUE"), (1, u "MAX_VALUE"), (3, u "UNASSIGNED"), (0, u "B"), (0, u "UPPERCASE_LETTER"), (1, u "LOWERCASE_LETTER"), (0, u "TITLECASE_LETTER"), (1, u "MODIFIER_LETTER"), (1, u "OTHER_LETTER"), (1, u "NON_SPACING_MARK"), (1, u "ENCLOSING_MARK"), (1, u "COMBINING_SPACING_MARK"), (1, u "DECIMAL_DIGIT_NUMBER"), (1, u "LETTER_NUMBER"), (1, u "OTHER_NUMBER"), (1, u "SPACE_SEPARATOR"), (1, u "LINE_SEPARATOR"), (1, u "PARAGRAPH_SEPARATOR"), (1, u "CONTROL"), (1, u "FORMAT"), (1, u "PRIVATE_USE"), (1, u "SURROGATE"), (1, u "DASH_PUNCTUATION"), (1, u "START_PUNCTUATION"), (1, u "END_PUNCTUATION"), (1, u "CONNECTOR_PUNCTUATION"), (1, u "OTHER_PUNCTUATION"), (1, u "MATH_SYMBOL"), (1, u "CURRENCY_SYMBOL"), (1, u "MODIFIER_SYMBOL"), (1, u "OTHER_SYMBOL"), (1, u "INITIAL_QUOTE_PUNCTUATION"), (1, u "FINAL_QUOTE_PUNCTUATION"), (1, u "ERROR"), (1, u "DIRECTIONALITY_UNDEFINED"), (0, u "DIRECTIONALITY_LEFT_TO_RIGHT"), (0, u "DIRECTIONALITY_RIGHT_TO_LEFT"), (0, u "DIRECTIONALITY_RIGHT_TO_LEFT_ARABIC"), (0, u "DIRECTIONALITY_EUROPEAN_NUMBER"), (0, u "DIRECTIONALITY_EUROPEAN_NUMBER_SEPARATOR"), (0, u "DIRECTIONALITY_EUROPEAN_NUMBER_TERMINATOR"), (0, u "DIRECTIONALITY_ARABIC_NUMBER"), (0, u "DIRECTIONALITY_COMMON_NUMBER_SEPARATOR"), (0, u "DIRECTIONALITY_NONSPACING_MARK"), (0, u "DIRECTIONALITY_BOUNDARY_NEUTRAL"), (0, u "DIRECTIONALITY_PARAGRAPH_SEPARATOR"), (0, u "DIRECTIONALITY_SEGMENT_SEPARATOR"), (0, u "DIRECTIONALITY_WHITESPACE"), (0, u "DIRECTIONALITY_OTHER_NEUTRALS"), (0, u "DIRECTIONALITY_LEFT_TO_RIGHT_EMBEDDING"), (0, u "DIRECTIONALITY_LEFT_TO_RIGHT_OVERRIDE"), (0, u "DIRECTIONALITY_RIGHT_TO_LEFT_EMBEDDING"), (0, u "DIRECTIONALITY_RIGHT_TO_LEFT_OVERRIDE"), (1, u "DIRECTIONALITY_POP_DIRECTIONAL_FORMAT"), (0, u "DIRECTIONALITY_LEFT_TO_RIGHT_ISOLATE"), (0, u "DIRECTIONALITY_RIGHT_TO_LEFT_ISOLATE"), (0, u "DIRECTIONALITY_FIRST_STRONG_ISOLATE"), (0, u "DIRECTIONALITY_POP_DIRECTIONAL_ISOLATE"), (0, u "MIN_HIGH_SURROGATE"), (0, u "MAX_HIGH_SURROGATE"), (1, u "MIN_LOW_SURROGATE"), (0, u "MAX_LOW_SURROGATE"), (1, u "MIN_SURROGATE"), (0, u "MAX_SURROGATE"), (0, u "MIN_SUPPLEMENTARY_CODE_POINT"), (0, u "MIN_CODE_POINT"), (0, u "MAX_CODE_POINT"), (1, u "serialVersionUID"), (0, u "J"), (2, u "SIZE"), (0, u "BYTES"), (24, u "isSurrogate"), (63, .class_ 596), (0, u "java/lang/Character$UnicodeScript"), (0, .class_ 598), (0, u "java/lang/Character$Subset")] 5

def k14c0 : Code := { maxStack := 2, maxLocals := 1, code := jdk_89_method_16_code, exceptionTable := #[], attributes := #[] }
def k14m0 : Method := { name := "isSurrogate", desc := "(C)Z", sig := { parameters := [.char], returnType := some .boolean }, accessFlags := 9, code := some k14c0 }
def k14c1 : Code := { maxStack := 2, maxLocals := 2, code := jdk_89_method_98_code, exceptionTable := #[], attributes := #[] }
def k14m1 : Method := { name := "compare", desc := "(CC)I", sig := { parameters := [.char, .char], returnType := some .int }, accessFlags := 9, code := some k14c1 }
/-- java/lang/Character -/
def k14 : Class := { plain "java/lang/Character" (some 0) with
  accessFlags := 49
  interfaces := #[2, 3, 5]
  cf := some (fileOf pool14 1 #[.nestMembers #[48, 595, 307, 597]] #[{ accessFlags := 9, nameIndex := 531, descriptorIndex := 81, attributes := #[] }, { accessFlags := 9, nameIndex := 281, descriptorIndex := 99, attributes := #[] }] 49 42 #[385, 387, 389] #[{ accessFlags := 25, nameIndex := 391, descriptorIndex := 392, attributes := #[] }, { accessFlags := 25, nameIndex := 395, descriptorIndex := 392, attributes := #[] }, { accessFlags := 25, nameIndex := 397, descriptorIndex := 22, attributes := #[] }, { accessFlags := 25, nameIndex := 399, descriptorIndex := 22, attributes := #[] }, { accessFlags := 25, nameIndex := 383, descriptorIndex := 384, attributes := #[] }, { accessFlags := 25, nameIndex := 403, descriptorIndex := 404, attributes := #[] }, { accessFlags := 25, nameIndex := 405, descriptorIndex := 404, attributes := #[] }, { accessFlags := 25, nameIndex := 407, descriptorIndex := 404, attributes := #[] }, { accessFlags := 25, nameIndex := 408, descriptorIndex := 404, attributes := #[] }, { accessFlags := 25, nameIndex := 410, descriptorIndex := 404, attributes := #[] }, { accessFlags := 25, nameIndex := 412, descriptorIndex := 404, attributes := #[] }, { accessFlags := 25, nameIndex := 414, descriptorIndex := 404, attributes := #[] }, { accessFlags := 25, nameIndex := 416, descriptorIndex := 404, attributes := #[] }, { accessFlags := 25, nameIndex := 418, descriptorIndex := 404, attributes := #[] }, { accessFlags := 25, nameIndex := 420, descriptorIndex := 404, attributes := #[] }, { accessFlags := 25, nameIndex := 422, descriptorIndex := 404, attributes := #[] }, { accessFlags := 25, nameIndex := 424, descriptorIndex := 404, attributes := #[] }, { accessFlags := 25, nameIndex := 426, descriptorIndex := 404, attributes := #[] }, { accessFlags := 25, nameIndex := 428, descriptorIndex := 404, attributes := #[] }, { accessFlags := 25, nameIndex := 430, descriptorIndex := 404, attributes := #[] }, { accessFlags := 25, nameIndex := 432, descriptorIndex := 404, attributes := #[] }, { accessFlags := 25, nameIndex := 434, descriptorIndex := 404, attributes := #[] }, { accessFlags := 25, nameIndex := 436, descriptorIndex := 404, attributes := #[] }, { accessFlags := 25, nameIndex := 438, descriptorIndex := 404, attributes := #[] }, { accessFlags := 25, nameIndex := 440, descriptorIndex := 404, attributes := #[] }, { accessFlags := 25, nameIndex := 442, descriptorIndex := 404, attributes := #[] }, { accessFlags := 25, nameIndex := 444, descriptorIndex := 404, attributes := #[] }, { accessFlags := 25, nameIndex := 446, descriptorIndex := 404, attributes := #[] }, { accessFlags := 25, nameIndex := 448, descriptorIndex := 404, attributes := #[] }, { accessFlags := 25, nameIndex := 450, descriptorIndex := 404, attributes := #[] }, { accessFlags := 25, nameIndex := 452, descriptorIndex := 404, attributes := #[] }, { accessFlags := 25, nameIndex := 454, descriptorIndex := 404, attributes := #[] }, { accessFlags := 25, nameIndex := 456, descriptorIndex := 404, attributes := #[] }, { accessFlags := 25, nameIndex := 458, descriptorIndex := 404, attributes := #[] }, { accessFlags := 25, nameIndex := 460, descriptorIndex := 404, attributes := #[] }, { accessFlags := 24, nameIndex := 462, descriptorIndex := 392, attributes := #[] }, { accessFlags := 25, nameIndex := 464, descriptorIndex := 404, attributes := #[] }, { accessFlags := 25, nameIndex := 465, descriptorIndex := 404, attributes := #[] }, { accessFlags := 25, nameIndex := 466, descriptorIndex := 404, attributes := #[] }, { accessFlags := 25, nameIndex := 467, descriptorIndex := 404, attributes := #[] }, { accessFlags := 25, nameIndex := 468, descriptorIndex := 404, attributes := #[] }, { accessFlags := 25, nameIndex := 469, descriptorIndex := 404, attributes := #[] }, { accessFlags := 25, nameIndex := 470, descriptorIndex := 404, attributes := #[] }, { accessFlags := 25, nameIndex := 471, descriptorIndex := 404, attributes := #[] }, { accessFlags := 25, nameIndex := 472, descriptorIndex := 404, attributes := #[] }, { accessFlags := 25, nameIndex := 473, descriptorIndex := 404, attributes := #[] }, { accessFlags := 25, nameIndex := 474, descriptorIndex := 404, attributes := #[] }, { accessFlags := 25, nameIndex := 475, descriptorIndex := 404, attributes := #[] }, { accessFlags := 25, nameIndex := 476, descriptorIndex := 404, attributes := #[] }, { accessFlags := 25, nameIndex := 477, descriptorIndex := 404, attributes := #[] }, { accessFlags := 25, nameIndex := 478, descriptorIndex := 404, attributes := #[] }, { accessFlags := 25, nameIndex := 479, descriptorIndex := 404, attributes := #[] }, { accessFlags := 25, nameIndex := 480, descriptorIndex := 404, attributes := #[] }, { accessFlags := 25, nameIndex := 481, descriptorIndex := 404, attributes := #[] }, { accessFlags := 25, nameIndex := 482, descriptorIndex := 404, attributes := #[] }, { accessFlags := 25, nameIndex := 484, descriptorIndex := 404, attributes := #[] }, { accessFlags := 25, nameIndex := 485, descriptorIndex := 404, attributes := #[] }, { accessFlags := 25, nameIndex := 486, descriptorIndex := 404, attributes := #[] }, { accessFlags := 25, nameIndex := 487, descriptorIndex := 404, attributes := #[] }, { accessFlags := 25, nameIndex := 488, descriptorIndex := 404, attributes := #[] }, { accessFlags := 25, nameIndex := 489, descriptorIndex := 22, attributes := #[] }, { accessFlags := 25, nameIndex := 490, descriptorIndex := 22, attributes := #[] }, { accessFlags := 25, nameIndex := 492, descriptorIndex := 22, attributes := #[] }, { accessFlags := 25, nameIndex := 493, descriptorIndex := 22, attributes := #[] }, { accessFlags := 25, nameIndex := 495, descriptorIndex := 22, attributes := #[] }, { accessFlags := 25, nameIndex := 496, descriptorIndex := 22, attributes := #[] }, { accessFlags := 25, nameIndex := 497, descriptorIndex := 392, attributes := #[] }, { accessFlags := 25, nameIndex := 498, descriptorIndex := 392, attributes := #[] }, { accessFlags := 25, nameIndex := 499, descriptorIndex := 392, attributes := #[] }, { accessFlags := 18, nameIndex := 21, descriptorIndex := 22, attributes := #[] }, { accessFlags := 26, nameIndex := 501, descriptorIndex := 502, attributes := #[] }, { accessFlags := 25, nameIndex := 505, descriptorIndex := 392, attributes := #[] }, { accessFlags := 25, nameIndex := 506, descriptorIndex := 392, attributes := #[] }, { accessFlags := 4120, nameIndex := 284, descriptorIndex := 285, attributes := #[] }])
  fields := #[{ name := "MIN_RADIX", type := .int, accessFlags := 25, slot := 0, constantValue := 0 }, { name := "MAX_RADIX", type := .int, accessFlags := 25, slot := 1, constantValue := 0 }, { name := "MIN_VALUE", type := .char, accessFlags := 25, slot := 2, constantValue := 0 }, { name := "MAX_VALUE", type := .char, accessFlags := 25, slot := 3, constantValue := 0 }, { name := "TYPE", type := (.object "java/lang/Class"), accessFlags := 25, slot := 4, constantValue := 0 }, { name := "UNASSIGNED", type := .byte, accessFlags := 25, slot := 5, constantValue := 0 }, { name := "UPPERCASE_LETTER", type := .byte, accessFlags := 25, slot := 6, constantValue := 0 }, { name := "LOWERCASE_LETTER", type := .byte, accessFlags := 25, slot := 7, constantValue := 0 }, { name := "TITLECASE_LETTER", type := .byte, accessFlags := 25, slot := 8, constantValue := 0 }, { name := "MODIFIER_LETTER", type := .byte, accessFlags := 25, slot := 9, constantValue := 0 }, { name := "OTHER_LETTER", type := .byte, accessFlags := 25, slot := 10, constantValue := 0 }, { name := "NON_SPACING_MARK", type := .byte, accessFlags := 25, slot := 11, constantValue := 0 }, { name := "ENCLOSING_MARK", type := .byte, accessFlags := 25, slot := 12, constantValue := 0 }, { name := "COMBINING_SPACING_MARK", type := .byte, accessFlags := 25, slot := 13, constantValue := 0 }, { name := "DECIMAL_DIGIT_NUMBER", type := .byte, accessFlags := 25, slot := 14, constantValue := 0 }, { name := "LETTER_NUMBER", type := .byte, accessFlags := 25, slot := 15, constantValue := 0 }, { name := "OTHER_NUMBER", type := .byte, accessFlags := 25, slot := 16, constantValue := 0 }, { name := "SPACE_SEPARATOR", type := .byte, accessFlags := 25, slot := 17, constantValue := 0 }, { name := "LINE_SEPARATOR", type := .byte, accessFlags := 25, slot := 18, constantValue := 0 }, { name := "PARAGRAPH_SEPARATOR", type := .byte, accessFlags := 25, slot := 19, constantValue := 0 }, { name := "CONTROL", type := .byte, accessFlags := 25, slot := 20, constantValue := 0 }, { name := "FORMAT", type := .byte, accessFlags := 25, slot := 21, constantValue := 0 }, { name := "PRIVATE_USE", type := .byte, accessFlags := 25, slot := 22, constantValue := 0 }, { name := "SURROGATE", type := .byte, accessFlags := 25, slot := 23, constantValue := 0 }, { name := "DASH_PUNCTUATION", type := .byte, accessFlags := 25, slot := 24, constantValue := 0 }, { name := "START_PUNCTUATION", type := .byte, accessFlags := 25, slot := 25, constantValue := 0 }, { name := "END_PUNCTUATION", type := .byte, accessFlags := 25, slot := 26, constantValue := 0 }, { name := "CONNECTOR_PUNCTUATION", type := .byte, accessFlags := 25, slot := 27, constantValue := 0 }, { name := "OTHER_PUNCTUATION", type := .byte, accessFlags := 25, slot := 28, constantValue := 0 }, { name := "MATH_SYMBOL", type := .byte, accessFlags := 25, slot := 29, constantValue := 0 }, { name := "CURRENCY_SYMBOL", type := .byte, accessFlags := 25, slot := 30, constantValue := 0 }, { name := "MODIFIER_SYMBOL", type := .byte, accessFlags := 25, slot := 31, constantValue := 0 }, { name := "OTHER_SYMBOL", type := .byte, accessFlags := 25, slot := 32, constantValue := 0 }, { name := "INITIAL_QUOTE_PUNCTUATION", type := .byte, accessFlags := 25, slot := 33, constantValue := 0 }, { name := "FINAL_QUOTE_PUNCTUATION", type := .byte, accessFlags := 25, slot := 34, constantValue := 0 }, { name := "ERROR", type := .int, accessFlags := 24, slot := 35, constantValue := 0 }, { name := "DIRECTIONALITY_UNDEFINED", type := .byte, accessFlags := 25, slot := 36, constantValue := 0 }, { name := "DIRECTIONALITY_LEFT_TO_RIGHT", type := .byte, accessFlags := 25, slot := 37, constantValue := 0 }, { name := "DIRECTIONALITY_RIGHT_TO_LEFT", type := .byte, accessFlags := 25, slot := 38, constantValue := 0 }, { name := "DIRECTIONALITY_RIGHT_TO_LEFT_ARABIC", type := .byte, accessFlags := 25, slot := 39, constantValue := 0 }, { name := "DIRECTIONALITY_EUROPEAN_NUMBER", type := .byte, accessFlags := 25, slot := 40, constantValue := 0 }, { name := "DIRECTIONALITY_EUROPEAN_NUMBER_SEPARATOR", type := .byte, accessFlags := 25, slot := 41, constantValue := 0 }, { name := "DIRECTIONALITY_EUROPEAN_NUMBER_TERMINATOR", type := .byte, accessFlags := 25, slot := 42, constantValue := 0 }, { name := "DIRECTIONALITY_ARABIC_NUMBER", type := .byte, accessFlags := 25, slot := 43, constantValue := 0 }, { name := "DIRECTIONALITY_COMMON_NUMBER_SEPARATOR", type := .byte, accessFlags := 25, slot := 44, constantValue := 0 }, { name := "DIRECTIONALITY_NONSPACING_MARK", type := .byte, accessFlags := 25, slot := 45, constantValue := 0 }, { name := "DIRECTIONALITY_BOUNDARY_NEUTRAL", type := .byte, accessFlags := 25, slot := 46, constantValue := 0 }, { name := "DIRECTIONALITY_PARAGRAPH_SEPARATOR", type := .byte, accessFlags := 25, slot := 47, constantValue := 0 }, { name := "DIRECTIONALITY_SEGMENT_SEPARATOR", type := .byte, accessFlags := 25, slot := 48, constantValue := 0 }, { name := "DIRECTIONALITY_WHITESPACE", type := .byte, accessFlags := 25, slot := 49, constantValue := 0 }, { name := "DIRECTIONALITY_OTHER_NEUTRALS", type := .byte, accessFlags := 25, slot := 50, constantValue := 0 }, { name := "DIRECTIONALITY_LEFT_TO_RIGHT_EMBEDDING", type := .byte, accessFlags := 25, slot := 51, constantValue := 0 }, { name := "DIRECTIONALITY_LEFT_TO_RIGHT_OVERRIDE", type := .byte, accessFlags := 25, slot := 52, constantValue := 0 }, { name := "DIRECTIONALITY_RIGHT_TO_LEFT_EMBEDDING", type := .byte, accessFlags := 25, slot := 53, constantValue := 0 }, { name := "DIRECTIONALITY_RIGHT_TO_LEFT_OVERRIDE", type := .byte, accessFlags := 25, slot := 54, constantValue := 0 }, { name := "DIRECTIONALITY_POP_DIRECTIONAL_FORMAT", type := .byte, accessFlags := 25, slot := 55, constantValue := 0 }, { name := "DIRECTIONALITY_LEFT_TO_RIGHT_ISOLATE", type := .byte, accessFlags := 25, slot := 56, constantValue := 0 }, { name := "DIRECTIONALITY_RIGHT_TO_LEFT_ISOLATE", type := .byte, accessFlags := 25, slot := 57, constantValue := 0 }, { name := "DIRECTIONALITY_FIRST_STRONG_ISOLATE", type := .byte, accessFlags := 25, slot := 58, constantValue := 0 }, { name := "DIRECTIONALITY_POP_DIRECTIONAL_ISOLATE", type := .byte, accessFlags := 25, slot := 59, constantValue := 0 }, { name := "MIN_HIGH_SURROGATE", type := .char, accessFlags := 25, slot := 60, constantValue := 0 }, { name := "MAX_HIGH_SURROGATE", type := .char, accessFlags := 25, slot := 61, constantValue := 0 }, { name := "MIN_LOW_SURROGATE", type := .char, accessFlags := 25, slot := 62, constantValue := 0 }, { name := "MAX_LOW_SURROGATE", type := .char, accessFlags := 25, slot := 63, constantValue := 0 }, { name := "MIN_SURROGATE", type := .char, accessFlags := 25, slot := 64, constantValue := 0 }, { name := "MAX_SURROGATE", type := .char, accessFlags := 25, slot := 65, constantValue := 0 }, { name := "MIN_SUPPLEMENTARY_CODE_POINT", type := .int, accessFlags := 25, slot := 66, constantValue := 0 }, { name := "MIN_CODE_POINT", type := .int, accessFlags := 25, slot := 67, constantValue := 0 }, { name := "MAX_CODE_POINT", type := .int, accessFlags := 25, slot := 68, constantValue := 0 }, { name := "value", type := .char, accessFlags := 18, slot := 0, constantValue := 0 }, { name := "serialVersionUID", type := .long, accessFlags := 26, slot := 69, constantValue := 0 }, { name := "SIZE", type := .int, accessFlags := 25, slot := 70, constantValue := 0 }, { name := "BYTES", type := .int, accessFlags := 25, slot := 71, constantValue := 0 }, { name := "$assertionsDisabled", type := .boolean, accessFlags := 4120, slot := 72, constantValue := 0 }]
  methods := #[k14m0, k14m1]
  instanceTypes := #[.char]
  staticTypes := #[.int, .int, .char, .char, (.object "java/lang/Class"), .byte, .byte, .byte, .byte, .byte, .byte, .byte, .byte, .byte, .byte, .byte, .byte, .byte, .byte, .byte, .byte, .byte, .byte, .byte, .byte, .byte, .byte, .byte, .byte, .byte, .byte, .byte, .byte, .byte, .byte, .int, .byte, .byte, .byte, .byte, .byte, .byte, .byte, .byte, .byte, .byte, .byte, .byte, .byte, .byte, .byte, .byte, .byte, .byte, .byte, .byte, .byte, .byte, .byte, .byte, .char, .char, .char, .char, .char, .char, .int, .int, .int, .long, .int, .int, .boolean]
  resolved := Array.replicate 604 none
  statics := none }

def pool15 : Array CpInfo := pool [(1, .class_ 2), (0, u "java/lang/String"), (1, .class_ 6), (1, u "java/lang/Object"), (0, u "<init>"), (0, u "()V"), (0, .methodref 1 10), (0, .nameAndType 11 12), (0, u "checkIndex"), (0, u "(II)V"), (1, .class_ 16), (1, u "java/lang/StringLatin1"), (36, u "([BI)C"), (67, u "$assertionsDisabled"), (0, u "Z"), (98, .class_ 223), (1, u "java/lang/StringLatin1$LinesSpliterator"), (28, u "charAt"), (137, .class_ 391), (0, u "java/lang/StringLatin1$CharsSpliterator")] 3

def k15m0 : Method := { name := "<init>", desc := "()V", sig := { parameters := [], returnType := none }, accessFlags := 0, code := none }
def k15c1 : Code := { maxStack := 2, maxLocals := 2, code := jdk_43_method_2_code, exceptionTable := #[], attributes := #[] }
def k15m1 : Method := { name := "charAt", desc := "([BI)C", sig := { parameters := [(.array .byte), .int], returnType := some .char }, accessFlags := 9, code := some k15c1 }
/-- java/lang/StringLatin1 -/
def k15 : Class := { plain "java/lang/StringLatin1" (some 0) with
  accessFlags := 48
  interfaces := #[]
  cf := some (fileOf pool15 14 #[.nestMembers #[390, 221]] #[{ accessFlags := 0, nameIndex := 7, descriptorIndex := 8, attributes := #[] }, { accessFlags := 9, nameIndex := 252, descriptorIndex := 53, attributes := #[] }] 48 4 #[] #[{ accessFlags := 4120, nameIndex := 121, descriptorIndex := 122, attributes := #[] }])
  fields := #[{ name := "$assertionsDisabled", type := .boolean, accessFlags := 4120, slot := 0, constantValue := 0 }]
  methods := #[k15m0, k15m1]
  instanceTypes := #[]
  staticTypes := #[.boolean]
  resolved := Array.replicate 395 none
  statics := none }

def pool16 : Array CpInfo := pool [(9, u "<init>"), (6, .class_ 18), (1, u "java/lang/Object"), (0, u "()V"), (1, .class_ 23), (1, u "jdk/internal/util/ArraysSupport"), (0, u "LOG2_ARRAY_LONG_INDEX_SCALE"), (0, u "I"), (2, u "U"), (0, u "Ljdk/internal/misc/Unsafe;"), (8, u "BIG_ENDIAN"), (0, u "Z"), (8, u "LOG2_BYTE_BIT_SIZE"), (4, u "LOG2_ARRAY_INT_INDEX_SCALE"), (54, u "JLA"), (0, u "Ljdk/internal/access/JavaLangAccess;"), (11, u "LOG2_ARRAY_BOOLEAN_INDEX_SCALE"), (9, u "LOG2_ARRAY_BYTE_INDEX_SCALE"), (5, u "LOG2_ARRAY_CHAR_INDEX_SCALE"), (5, u "LOG2_ARRAY_SHORT_INDEX_SCALE"), (18, u "LOG2_ARRAY_FLOAT_INDEX_SCALE"), (24, u "LOG2_ARRAY_DOUBLE_INDEX_SCALE"), (89, u "T_BOOLEAN"), (2, u "T_CHAR"), (1, u "T_FLOAT"), (1, u "T_DOUBLE"), (1, u "T_BYTE"), (1, u "T_SHORT"), (1, u "T_INT"), (1, u "T_LONG"), (1, u "SOFT_MAX_ARRAY_LENGTH")] 83

def k16m0 : Method := { name := "<init>", desc := "()V", sig := { parameters := [], returnType := none }, accessFlags := 2, code := none }
/-- jdk/internal/util/ArraysSupport -/
def k16 : Class := { plain "jdk/internal/util/ArraysSupport" (some 0) with
  accessFlags := 33
  interfaces := #[]
  cf := some (fileOf pool16 21 #[] #[{ accessFlags := 2, nameIndex := 9, descriptorIndex := 19, attributes := #[] }] 33 16 #[] #[{ accessFlags := 24, nameIndex := 28, descriptorIndex := 29, attributes := #[] }, { accessFlags := 26, nameIndex := 38, descriptorIndex := 39, attributes := #[] }, { accessFlags := 25, nameIndex := 121, descriptorIndex := 25, attributes := #[] }, { accessFlags := 25, nameIndex := 131, descriptorIndex := 25, attributes := #[] }, { accessFlags := 25, nameIndex := 137, descriptorIndex := 25, attributes := #[] }, { accessFlags := 25, nameIndex := 143, descriptorIndex := 25, attributes := #[] }, { accessFlags := 25, nameIndex := 53, descriptorIndex := 25, attributes := #[] }, { accessFlags := 25, nameIndex := 24, descriptorIndex := 25, attributes := #[] }, { accessFlags := 25, nameIndex := 162, descriptorIndex := 25, attributes := #[] }, { accessFlags := 25, nameIndex := 187, descriptorIndex := 25, attributes := #[] }, { accessFlags := 26, nameIndex := 48, descriptorIndex := 25, attributes := #[] }, { accessFlags := 25, nameIndex := 277, descriptorIndex := 25, attributes := #[] }, { accessFlags := 25, nameIndex := 280, descriptorIndex := 25, attributes := #[] }, { accessFlags := 25, nameIndex := 282, descriptorIndex := 25, attributes := #[] }, { accessFlags := 25, nameIndex := 284, descriptorIndex := 25, attributes := #[] }, { accessFlags := 25, nameIndex := 286, descriptorIndex := 25, attributes := #[] }, { accessFlags := 25, nameIndex := 288, descriptorIndex := 25, attributes := #[] }, { accessFlags := 25, nameIndex := 290, descriptorIndex := 25, attributes := #[] }, { accessFlags := 25, nameIndex := 292, descriptorIndex := 25, attributes := #[] }, { accessFlags := 26, nameIndex := 108, descriptorIndex := 109, attributes := #[] }, { accessFlags := 25, nameIndex := 294, descriptorIndex := 25, attributes := #[] }])
  fields := #[{ name := "U", type := (.object "jdk/internal/misc/Unsafe"), accessFlags := 24, slot := 0, constantValue := 0 }, { name := "BIG_ENDIAN", type := .boolean, accessFlags := 26, slot := 1, constantValue := 0 }, { name := "LOG2_ARRAY_BOOLEAN_INDEX_SCALE", type := .int, accessFlags := 25, slot := 2, constantValue := 0 }, { name := "LOG2_ARRAY_BYTE_INDEX_SCALE", type := .int, accessFlags := 25, slot := 3, constantValue := 0 }, { name := "LOG2_ARRAY_CHAR_INDEX_SCALE", type := .int, accessFlags := 25, slot := 4, constantValue := 0 }, { name := "LOG2_ARRAY_SHORT_INDEX_SCALE", type := .int, accessFlags := 25, slot := 5, constantValue := 0 }, { name := "LOG2_ARRAY_INT_INDEX_SCALE", type := .int, accessFlags := 25, slot := 6, constantValue := 0 }, { name := "LOG2_ARRAY_LONG_INDEX_SCALE", type := .int, accessFlags := 25, slot := 7, constantValue := 0 }, { name := "LOG2_ARRAY_FLOAT_INDEX_SCALE", type := .int, accessFlags := 25, slot := 8, constantValue := 0 }, { name := "LOG2_ARRAY_DOUBLE_INDEX_SCALE", type := .int, accessFlags := 25, slot := 9, constantValue := 0 }, { name := "LOG2_BYTE_BIT_SIZE", type := .int, accessFlags := 26, slot := 10, constantValue := 0 }, { name := "T_BOOLEAN", type := .int, accessFlags := 25, slot := 11, constantValue := 0 }, { name := "T_CHAR", type := .int, accessFlags := 25, slot := 12, constantValue := 0 }, { name := "T_FLOAT", type := .int, accessFlags := 25, slot := 13, constantValue := 0 }, { name := "T_DOUBLE", type := .int, accessFlags := 25, slot := 14, constantValue := 0 }, { name := "T_BYTE", type := .int, accessFlags := 25, slot := 15, constantValue := 0 }, { name := "T_SHORT", type := .int, accessFlags := 25, slot := 16, constantValue := 0 }, { name := "T_INT", type := .int, accessFlags := 25, slot := 17, constantValue := 0 }, { name := "T_LONG", type := .int, accessFlags := 25, slot := 18, constantValue := 0 }, { name := "JLA", type := (.object "jdk/internal/access/JavaLangAccess"), accessFlags := 26, slot := 19, constantValue := 0 }, { name := "SOFT_MAX_ARRAY_LENGTH", type := .int, accessFlags := 25, slot := 20, constantValue := 0 }]
  methods := #[k16m0]
  instanceTypes := #[]
  staticTypes := #[(.object "jdk/internal/misc/Unsafe"), .boolean, .int, .int, .int, .int, .int, .int, .int, .int, .int, .int, .int, .int, .int, .int, .int, .int, .int, (.object "jdk/internal/access/JavaLangAccess"), .int]
  resolved := Array.replicate 378 none
  statics := none }

def pool17 : Array CpInfo := pool [(1, u "java/lang/Cloneable"), (0, .class_ 1), (0, u "java/lang/Object"), (0, .class_ 3)] 3

/-- java/lang/Cloneable -/
def k17 : Class := { plain "java/lang/Cloneable" (some 0) with
  accessFlags := 1537
  interfaces := #[]
  cf := some (fileOf pool17 2 #[] #[] 1537 4 #[] #[])
  fields := #[]
  methods := #[]
  instanceTypes := #[]
  staticTypes := #[]
  resolved := Array.replicate 8 none
  statics := none }

/-- the primitive byte -/
def k18 : Class := { plain "byte" none with kind := .primitive 'B', accessFlags := 0x411 }
/-- [B -/
def k19 : Class := { plain "[B" (some 0) with kind := .array 18 .byte, interfaces := #[17, 2], accessFlags := 1041 }

/-- the primitive char -/
def k20 : Class := { plain "char" none with kind := .primitive 'C', accessFlags := 0x411 }
/-- [C -/
def k21 : Class := { plain "[C" (some 0) with kind := .array 20 .char, interfaces := #[17, 2], accessFlags := 1041 }

/-- the primitive int -/
def k22 : Class := { plain "int" none with kind := .primitive 'I', accessFlags := 0x411 }
/-- [I -/
def k23 : Class := { plain "[I" (some 0) with kind := .array 22 .int, interfaces := #[17, 2], accessFlags := 1041 }

def heap : Heap := #[{ cls := 7, slots := #[.long 0, .int 1, .null, .int 0, .null, .int 0, .int 0], vm := .statics 7 },
  { cls := 12, slots := #[.int 0, .int 8, .int 0, .int 1], vm := .statics 12 },
  { cls := 13, slots := #[.null, .null, .null], vm := .statics 13 }]
def classes : Array Class := #[k0, k1, k2, k3, k4, k5, k6, k7, k8, k9, k10, k11, k12, k13, k14, k15, k16, k17, k18, k19, k20, k21, k22, k23]
def interned : List (Array UInt16 × Addr) := []
def slotsUsed : Nat := 14
def theMethod : MethodId := ⟨1, 6⟩
def args0 : Array Value := #[.int 5, .int 7, .int 3]
def aboutOver (below : List Frame) : State where
  vm := { classes := classes, interned := interned.toArray }
  heap := heap
  slotsUsed := slotsUsed
  threads := #[{ frames := .invoking theMethod args0 :: below }]
def below0 : List Frame := [.native { method := ⟨0, 0⟩, args := #[] }]
def about1 : State := aboutOver below0
def p0 : Program := .bare "" "" ""
def e0 : Env := launch0.env 0 0 0
theorem w_frames : about1.frames = Frame.invoking theMethod args0 :: below0 := rfl
set_option maxRecDepth 65536 in
theorem w_args : argsFit about1.vm theMethod args0 = true := by decide +kernel
set_option maxRecDepth 65536 in
theorem w_heap : heapFits about1 = true := by decide +kernel
set_option maxRecDepth 65536 in
theorem w_runnable : about1.curStatus? = some .runnable := by decide +kernel
set_option maxRecDepth 65536 in
theorem w_alone : about1.alone = true := by decide +kernel
set_option maxRecDepth 65536 in
theorem w_named : about1.methodNamed? x = some theMethod := by decide +kernel
set_option maxRecDepth 65536 in
theorem w_hears : about1.hears theMethod below0 = true := by decide +kernel
set_option maxRecDepth 65536 in
theorem w_ripe : about1.ripe theMethod args0 below0 = true := by decide +kernel
theorem w_running : about1.status = .running := rfl
set_option maxRecDepth 65536 in
theorem w_room : about1.hasRoom e0.platform room_1 = true :=
  launch0.hasRoom_least _ room_1 (by decide +kernel) (by decide +kernel) (by decide +kernel) (by decide +kernel) (by decide +kernel) (by decide +kernel)
theorem allAtoms_all (ts : List Jvm.Cond) (a : Array Jvm.Value) (st : Jvm.State) : (allAtoms ts).before a st = ts.all (fun c => c.before a st) := by
  induction ts with
  | nil => rfl
  | cons c t ih =>
    show (Jvm.Cond.and c (allAtoms t)).before a st = _
    rw [Jvm.Cond.before_and, ih, List.all_cons]
def words1 : List Jvm.Cond := Jvm.Cond.code x code maxLocals ret :: tables_1
/-- a 'code' word, met by the world's own term for the bytes: nothing is compared byte by byte -/
theorem code_word {y : MethodName} {bytes : ByteArray} {mx : Nat} {rt : Option FieldType} {a : Array Value} {s : State} {m : MethodId} {meth : Method} {c : Code} (h1 : s.methodNamed? y = some m) (h2 : s.vm.method? m = some meth) (h3 : meth.code = some c) (h4 : c.code = bytes)
    (h5 : (c.maxLocals == mx && c.exceptionTable.isEmpty && decide (c.maxStack ≤ mostOperands) && decide (meth.sig.returnType = rt) && !meth.locks && decide (parseMethodDescriptor y.desc = some meth.sig)) = true) : (Jvm.Cond.code y bytes mx rt).before a s = true := by
  simp only [Bool.and_eq_true, beq_iff_eq, Bool.not_eq_true', decide_eq_true_eq] at h5
  obtain ⟨⟨⟨⟨⟨g1, g2⟩, g3⟩, g4⟩, g5⟩, g6⟩ := h5
  simp [Cond.before, Cond.holds, Cond.value, h1, h2, h3, h4, g1, g2, g3, g4, g5, g6]
def isCode : Jvm.Cond → Bool
  | .code _ _ _ _ => true
  | _ => false
theorem all_split {L : List Jvm.Cond} {P : Jvm.Cond → Bool} (h1 : L.all (fun c => isCode c || P c) = true) (h2 : ∀ c ∈ L.filter isCode, P c = true) : L.all P = true := by
  refine List.all_eq_true.mpr fun c hc => ?_
  have h := List.all_eq_true.mp h1 c hc
  rcases Bool.eq_false_or_eq_true (isCode c) with hi | hi
  · exact h2 c (List.mem_filter.mpr ⟨hc, hi⟩)
  · simpa [hi] using h
set_option maxRecDepth 65536 in
theorem w_c0 : (Jvm.Cond.code x code maxLocals ret).before args0 about1 = true := code_word (m := ⟨1, 6⟩) (meth := k1m6) (c := k1c6) (by decide +kernel) rfl rfl rfl (by decide +kernel)
set_option maxRecDepth 65536 in
theorem w_c1 : (Jvm.Cond.code ({ cls := "com/example/stoplist/stoplist/util/Utf8ComparePinLaw", name := "make", desc := "(CCI)Ljava/lang/String;" } : Jvm.MethodName) method_5_code (3 : Nat) (Option.some (Jvm.ClassFile.FieldType.object "java/lang/String"))).before args0 about1 = true := code_word (m := ⟨1, 4⟩) (meth := k1m4) (c := k1c4) (by decide +kernel) rfl rfl rfl (by decide +kernel)
set_option maxRecDepth 65536 in
theorem w_c2 : (Jvm.Cond.code ({ cls := "java/lang/String", name := "<init>", desc := "([C)V" } : Jvm.MethodName) jdk_42_method_3_code (2 : Nat) (Option.none : Option Jvm.ClassFile.FieldType)).before args0 about1 = true := code_word (m := ⟨7, 1⟩) (meth := k7m1) (c := k7c1) (by decide +kernel) rfl rfl rfl (by decide +kernel)
set_option maxRecDepth 65536 in
theorem w_c3 : (Jvm.Cond.code ({ cls := "java/lang/String", name := "<init>", desc := "([CIILjava/lang/Void;)V" } : Jvm.MethodName) jdk_42_method_149_code (6 : Nat) (Option.none : Option Jvm.ClassFile.FieldType)).before args0 about1 = true := code_word (m := ⟨7, 4⟩) (meth := k7m4) (c := k7c4) (by decide +kernel) rfl rfl rfl (by decide +kernel)
set_option maxRecDepth 65536 in
theorem w_c4 : (Jvm.Cond.code ({ cls := "java/lang/Object", name := "<init>", desc := "()V" } : Jvm.MethodName) object_method_1_code (1 : Nat) (Option.none : Option Jvm.ClassFile.FieldType)).before args0 about1 = true := code_word (m := ⟨0, 0⟩) (meth := k0m0) (c := k0c0) (by decide +kernel) rfl rfl rfl (by decide +kernel)
set_option maxRecDepth 65536 in
theorem w_c5 : (Jvm.Cond.code ({ cls := "com/example/stoplist/stoplist/util/Utf8ComparePinLaw", name := "ref", desc := "(CCICCI)I" } : Jvm.MethodName) method_6_code (8 : Nat) (Option.some Jvm.ClassFile.FieldType.int)).before args0 about1 = true := code_word (m := ⟨1, 5⟩) (meth := k1m5) (c := k1c5) (by decide +kernel) rfl rfl rfl (by decide +kernel)
set_option maxRecDepth 65536 in
theorem w_c6 : (Jvm.Cond.code ({ cls := "com/example/stoplist/stoplist/util/Utf8ComparePinLaw", name := "cmp", desc := "(II)I" } : Jvm.MethodName) method_3_code (2 : Nat) (Option.some Jvm.ClassFile.FieldType.int)).before args0 about1 = true := code_word (m := ⟨1, 2⟩) (meth := k1m2) (c := k1c2) (by decide +kernel) rfl rfl rfl (by decide +kernel)
set_option maxRecDepth 65536 in
theorem w_c7 : (Jvm.Cond.code ({ cls := "com/example/stoplist/stoplist/util/Utf8", name := "compare", desc := "(Ljava/lang/String;Ljava/lang/String;)I" } : Jvm.MethodName) prog_56_method_4_code (5 : Nat) (Option.some Jvm.ClassFile.FieldType.int)).before args0 about1 = true := code_word (m := ⟨8, 1⟩) (meth := k8m1) (c := k8c1) (by decide +kernel) rfl rfl rfl (by decide +kernel)
set_option maxRecDepth 65536 in
theorem w_c8 : (Jvm.Cond.code ({ cls := "java/lang/String", name := "length", desc := "()I" } : Jvm.MethodName) jdk_42_method_54_code (1 : Nat) (Option.some Jvm.ClassFile.FieldType.int)).before args0 about1 = true := code_word (m := ⟨7, 2⟩) (meth := k7m2) (c := k7c2) (by decide +kernel) rfl rfl rfl (by decide +kernel)
set_option maxRecDepth 65536 in
theorem w_c9 : (Jvm.Cond.code ({ cls := "java/lang/String", name := "coder", desc := "()B" } : Jvm.MethodName) jdk_42_method_152_code (1 : Nat) (Option.some Jvm.ClassFile.FieldType.byte)).before args0 about1 = true := code_word (m := ⟨7, 5⟩) (meth := k7m5) (c := k7c5) (by decide +kernel) rfl rfl rfl (by decide +kernel)
set_option maxRecDepth 65536 in
theorem w_c10 : (Jvm.Cond.code ({ cls := "java/lang/Math", name := "min", desc := "(II)I" } : Jvm.MethodName) jdk_29_method_69_code (2 : Nat) (Option.some Jvm.ClassFile.FieldType.int)).before args0 about1 = true := code_word (m := ⟨9, 1⟩) (meth := k9m1) (c := k9c1) (by decide +kernel) rfl rfl rfl (by decide +kernel)
set_option maxRecDepth 65536 in
theorem w_c11 : (Jvm.Cond.code ({ cls := "java/lang/Integer", name := "compare", desc := "(II)I" } : Jvm.MethodName) jdk_33_method_40_code (2 : Nat) (Option.some Jvm.ClassFile.FieldType.int)).before args0 about1 = true := code_word (m := ⟨11, 0⟩) (meth := k11m0) (c := k11c0) (by decide +kernel) rfl rfl rfl (by decide +kernel)
set_option maxRecDepth 65536 in
theorem w_c12 : (Jvm.Cond.code ({ cls := "com/example/stoplist/stoplist/util/Utf8ComparePinLaw", name := "sgn", desc := "(I)I" } : Jvm.MethodName) method_4_code (1 : Nat) (Option.some Jvm.ClassFile.FieldType.int)).before args0 about1 = true := code_word (m := ⟨1, 3⟩) (meth := k1m3) (c := k1c3) (by decide +kernel) rfl rfl rfl (by decide +kernel)
set_option maxRecDepth 65536 in
theorem w_c13 : (Jvm.Cond.code ({ cls := "java/lang/StringUTF16", name := "compress", desc := "([CII)[B" } : Jvm.MethodName) jdk_52_method_16_code (6 : Nat) (Option.some (Jvm.ClassFile.FieldType.array Jvm.ClassFile.FieldType.byte))).before args0 about1 = true := code_word (m := ⟨12, 8⟩) (meth := k12m8) (c := k12c8) (by decide +kernel) rfl rfl rfl (by decide +kernel)
set_option maxRecDepth 65536 in
theorem w_c14 : (Jvm.Cond.code ({ cls := "java/lang/StringUTF16", name := "compress", desc := "([CI[BII)I" } : Jvm.MethodName) jdk_52_method_21_code (7 : Nat) (Option.some Jvm.ClassFile.FieldType.int)).before args0 about1 = true := code_word (m := ⟨12, 9⟩) (meth := k12m9) (c := k12c9) (by decide +kernel) rfl rfl rfl (by decide +kernel)
set_option maxRecDepth 65536 in
theorem w_c15 : (Jvm.Cond.code ({ cls := "java/lang/StringUTF16", name := "coderFromArrayLen", desc := "([BI)B" } : Jvm.MethodName) jdk_52_method_15_code (2 : Nat) (Option.some Jvm.ClassFile.FieldType.byte)).before args0 about1 = true := code_word (m := ⟨12, 7⟩) (meth := k12m7) (c := k12c7) (by decide +kernel) rfl rfl rfl (by decide +kernel)
set_option maxRecDepth 65536 in
theorem w_c16 : (Jvm.Cond.code ({ cls := "java/lang/StringUTF16", name := "toBytes", desc := "([CII)[B" } : Jvm.MethodName) jdk_52_method_14_code (5 : Nat) (Option.some (Jvm.ClassFile.FieldType.array Jvm.ClassFile.FieldType.byte))).before args0 about1 = true := code_word (m := ⟨12, 6⟩) (meth := k12m6) (c := k12c6) (by decide +kernel) rfl rfl rfl (by decide +kernel)
set_option maxRecDepth 65536 in
theorem w_c17 : (Jvm.Cond.code ({ cls := "java/lang/StringUTF16", name := "newBytesFor", desc := "(I)[B" } : Jvm.MethodName) jdk_52_method_2_code (1 : Nat) (Option.some (Jvm.ClassFile.FieldType.array Jvm.ClassFile.FieldType.byte))).before args0 about1 = true := code_word (m := ⟨12, 1⟩) (meth := k12m1) (c := k12c1) (by decide +kernel) rfl rfl rfl (by decide +kernel)
set_option maxRecDepth 65536 in
theorem w_c18 : (Jvm.Cond.code ({ cls := "java/lang/StringUTF16", name := "newBytesLength", desc := "(I)I" } : Jvm.MethodName) jdk_52_method_3_code (1 : Nat) (Option.some Jvm.ClassFile.FieldType.int)).before args0 about1 = true := code_word (m := ⟨12, 2⟩) (meth := k12m2) (c := k12c2) (by decide +kernel) rfl rfl rfl (by decide +kernel)
set_option maxRecDepth 65536 in
theorem w_c19 : (Jvm.Cond.code ({ cls := "java/lang/StringUTF16", name := "putChar", desc := "([BII)V" } : Jvm.MethodName) jdk_52_method_4_code (3 : Nat) (Option.none : Option Jvm.ClassFile.FieldType)).before args0 about1 = true := code_word (m := ⟨12, 3⟩) (meth := k12m3) (c := k12c3) (by decide +kernel) rfl rfl rfl (by decide +kernel)
set_option maxRecDepth 65536 in
theorem w_c20 : (Jvm.Cond.code ({ cls := "java/lang/StringUTF16", name := "getChar", desc := "([BI)C" } : Jvm.MethodName) jdk_52_method_5_code (2 : Nat) (Option.some Jvm.ClassFile.FieldType.char)).before args0 about1 = true := code_word (m := ⟨12, 4⟩) (meth := k12m4) (c := k12c4) (by decide +kernel) rfl rfl rfl (by decide +kernel)
set_option maxRecDepth 65536 in
theorem w_c21 : (Jvm.Cond.code ({ cls := "com/example/stoplist/stoplist/util/Utf8ComparePinLaw", name := "key", desc := "(C)I" } : Jvm.MethodName) method_2_code (1 : Nat) (Option.some Jvm.ClassFile.FieldType.int)).before args0 about1 = true := code_word (m := ⟨1, 1⟩) (meth := k1m1) (c := k1c1) (by decide +kernel) rfl rfl rfl (by decide +kernel)
set_option maxRecDepth 65536 in
theorem w_c22 : (Jvm.Cond.code ({ cls := "java/lang/String", name := "charAt", desc := "(I)C" } : Jvm.MethodName) jdk_42_method_56_code (2 : Nat) (Option.some Jvm.ClassFile.FieldType.char)).before args0 about1 = true := code_word (m := ⟨7, 3⟩) (meth := k7m3) (c := k7c3) (by decide +kernel) rfl rfl rfl (by decide +kernel)
set_option maxRecDepth 65536 in
theorem w_c23 : (Jvm.Cond.code ({ cls := "java/lang/String", name := "isLatin1", desc := "()Z" } : Jvm.MethodName) jdk_42_method_154_code (1 : Nat) (Option.some Jvm.ClassFile.FieldType.boolean)).before args0 about1 = true := code_word (m := ⟨7, 6⟩) (meth := k7m6) (c := k7c6) (by decide +kernel) rfl rfl rfl (by decide +kernel)
set_option maxRecDepth 65536 in
theorem w_c24 : (Jvm.Cond.code ({ cls := "java/lang/StringUTF16", name := "charAt", desc := "([BI)C" } : Jvm.MethodName) jdk_52_method_83_code (2 : Nat) (Option.some Jvm.ClassFile.FieldType.char)).before args0 about1 = true := code_word (m := ⟨12, 10⟩) (meth := k12m10) (c := k12c10) (by decide +kernel) rfl rfl rfl (by decide +kernel)
set_option maxRecDepth 65536 in
theorem w_c25 : (Jvm.Cond.code ({ cls := "java/lang/StringUTF16", name := "checkIndex", desc := "(I[B)V" } : Jvm.MethodName) jdk_52_method_91_code (2 : Nat) (Option.none : Option Jvm.ClassFile.FieldType)).before args0 about1 = true := code_word (m := ⟨12, 11⟩) (meth := k12m11) (c := k12c11) (by decide +kernel) rfl rfl rfl (by decide +kernel)
set_option maxRecDepth 65536 in
theorem w_c26 : (Jvm.Cond.code ({ cls := "java/lang/StringUTF16", name := "length", desc := "([B)I" } : Jvm.MethodName) jdk_52_method_6_code (1 : Nat) (Option.some Jvm.ClassFile.FieldType.int)).before args0 about1 = true := code_word (m := ⟨12, 5⟩) (meth := k12m5) (c := k12c5) (by decide +kernel) rfl rfl rfl (by decide +kernel)
set_option maxRecDepth 65536 in
theorem w_c27 : (Jvm.Cond.code ({ cls := "java/lang/String", name := "checkIndex", desc := "(II)V" } : Jvm.MethodName) jdk_42_method_155_code (2 : Nat) (Option.none : Option Jvm.ClassFile.FieldType)).before args0 about1 = true := code_word (m := ⟨7, 7⟩) (meth := k7m7) (c := k7c7) (by decide +kernel) rfl rfl rfl (by decide +kernel)
set_option maxRecDepth 65536 in
theorem w_c28 : (Jvm.Cond.code ({ cls := "jdk/internal/util/Preconditions", name := "checkIndex", desc := "(IILjava/util/function/BiFunction;)I" } : Jvm.MethodName) jdk_41_method_11_code (3 : Nat) (Option.some Jvm.ClassFile.FieldType.int)).before args0 about1 = true := code_word (m := ⟨13, 1⟩) (meth := k13m1) (c := k13c1) (by decide +kernel) rfl rfl rfl (by decide +kernel)
set_option maxRecDepth 65536 in
theorem w_c29 : (Jvm.Cond.code ({ cls := "java/lang/Character", name := "isSurrogate", desc := "(C)Z" } : Jvm.MethodName) jdk_89_method_16_code (1 : Nat) (Option.some Jvm.ClassFile.FieldType.boolean)).before args0 about1 = true := code_word (m := ⟨14, 0⟩) (meth := k14m0) (c := k14c0) (by decide +kernel) rfl rfl rfl (by decide +kernel)
set_option maxRecDepth 65536 in
theorem w_c30 : (Jvm.Cond.code ({ cls := "java/lang/Character", name := "compare", desc := "(CC)I" } : Jvm.MethodName) jdk_89_method_98_code (2 : Nat) (Option.some Jvm.ClassFile.FieldType.int)).before args0 about1 = true := code_word (m := ⟨14, 1⟩) (meth := k14m1) (c := k14c1) (by decide +kernel) rfl rfl rfl (by decide +kernel)
set_option maxRecDepth 65536 in
theorem w_c31 : (Jvm.Cond.code ({ cls := "java/lang/StringLatin1", name := "charAt", desc := "([BI)C" } : Jvm.MethodName) jdk_43_method_2_code (2 : Nat) (Option.some Jvm.ClassFile.FieldType.char)).before args0 about1 = true := code_word (m := ⟨15, 1⟩) (meth := k15m1) (c := k15c1) (by decide +kernel) rfl rfl rfl (by decide +kernel)
def codes1 : List Jvm.Cond := [Jvm.Cond.code x code maxLocals ret, Jvm.Cond.code ({ cls := "com/example/stoplist/stoplist/util/Utf8ComparePinLaw", name := "make", desc := "(CCI)Ljava/lang/String;" } : Jvm.MethodName) method_5_code (3 : Nat) (Option.some (Jvm.ClassFile.FieldType.object "java/lang/String")), Jvm.Cond.code ({ cls := "java/lang/String", name := "<init>", desc := "([C)V" } : Jvm.MethodName) jdk_42_method_3_code (2 : Nat) (Option.none : Option Jvm.ClassFile.FieldType), Jvm.Cond.code ({ cls := "java/lang/String", name := "<init>", desc := "([CIILjava/lang/Void;)V" } : Jvm.MethodName) jdk_42_method_149_code (6 : Nat) (Option.none : Option Jvm.ClassFile.FieldType), Jvm.Cond.code ({ cls := "java/lang/Object", name := "<init>", desc := "()V" } : Jvm.MethodName) object_method_1_code (1 : Nat) (Option.none : Option Jvm.ClassFile.FieldType), Jvm.Cond.code ({ cls := "com/example/stoplist/stoplist/util/Utf8ComparePinLaw", name := "ref", desc := "(CCICCI)I" } : Jvm.MethodName) method_6_code (8 : Nat) (Option.some Jvm.ClassFile.FieldType.int), Jvm.Cond.code ({ cls := "com/example/stoplist/stoplist/util/Utf8ComparePinLaw", name := "cmp", desc := "(II)I" } : Jvm.MethodName) method_3_code (2 : Nat) (Option.some Jvm.ClassFile.FieldType.int), Jvm.Cond.code ({ cls := "com/example/stoplist/stoplist/util/Utf8", name := "compare", desc := "(Ljava/lang/String;Ljava/lang/String;)I" } : Jvm.MethodName) prog_56_method_4_code (5 : Nat) (Option.some Jvm.ClassFile.FieldType.int), Jvm.Cond.code ({ cls := "java/lang/String", name := "length", desc := "()I" } : Jvm.MethodName) jdk_42_method_54_code (1 : Nat) (Option.some Jvm.ClassFile.FieldType.int), Jvm.Cond.code ({ cls := "java/lang/String", name := "coder", desc := "()B" } : Jvm.MethodName) jdk_42_method_152_code (1 : Nat) (Option.some Jvm.ClassFile.FieldType.byte), Jvm.Cond.code ({ cls := "java/lang/Math", name := "min", desc := "(II)I" } : Jvm.MethodName) jdk_29_method_69_code (2 : Nat) (Option.some Jvm.ClassFile.FieldType.int), Jvm.Cond.code ({ cls := "java/lang/Integer", name := "compare", desc := "(II)I" } : Jvm.MethodName) jdk_33_method_40_code (2 : Nat) (Option.some Jvm.ClassFile.FieldType.int), Jvm.Cond.code ({ cls := "com/example/stoplist/stoplist/util/Utf8ComparePinLaw", name := "sgn", desc := "(I)I" } : Jvm.MethodName) method_4_code (1 : Nat) (Option.some Jvm.ClassFile.FieldType.int), Jvm.Cond.code ({ cls := "java/lang/StringUTF16", name := "compress", desc := "([CII)[B" } : Jvm.MethodName) jdk_52_method_16_code (6 : Nat) (Option.some (Jvm.ClassFile.FieldType.array Jvm.ClassFile.FieldType.byte)), Jvm.Cond.code ({ cls := "java/lang/StringUTF16", name := "compress", desc := "([CI[BII)I" } : Jvm.MethodName) jdk_52_method_21_code (7 : Nat) (Option.some Jvm.ClassFile.FieldType.int), Jvm.Cond.code ({ cls := "java/lang/StringUTF16", name := "coderFromArrayLen", desc := "([BI)B" } : Jvm.MethodName) jdk_52_method_15_code (2 : Nat) (Option.some Jvm.ClassFile.FieldType.byte), Jvm.Cond.code ({ cls := "java/lang/StringUTF16", name := "toBytes", desc := "([CII)[B" } : Jvm.MethodName) jdk_52_method_14_code (5 : Nat) (Option.some (Jvm.ClassFile.FieldType.array Jvm.ClassFile.FieldType.byte)), Jvm.Cond.code ({ cls := "java/lang/StringUTF16", name := "newBytesFor", desc := "(I)[B" } : Jvm.MethodName) jdk_52_method_2_code (1 : Nat) (Option.some (Jvm.ClassFile.FieldType.array Jvm.ClassFile.FieldType.byte)), Jvm.Cond.code ({ cls := "java/lang/StringUTF16", name := "newBytesLength", desc := "(I)I" } : Jvm.MethodName) jdk_52_method_3_code (1 : Nat) (Option.some Jvm.ClassFile.FieldType.int), Jvm.Cond.code ({ cls := "java/lang/StringUTF16", name := "putChar", desc := "([BII)V" } : Jvm.MethodName) jdk_52_method_4_code (3 : Nat) (Option.none : Option Jvm.ClassFile.FieldType), Jvm.Cond.code ({ cls := "java/lang/StringUTF16", name := "getChar", desc := "([BI)C" } : Jvm.MethodName) jdk_52_method_5_code (2 : Nat) (Option.some Jvm.ClassFile.FieldType.char), Jvm.Cond.code ({ cls := "com/example/stoplist/stoplist/util/Utf8ComparePinLaw", name := "key", desc := "(C)I" } : Jvm.MethodName) method_2_code (1 : Nat) (Option.some Jvm.ClassFile.FieldType.int), Jvm.Cond.code ({ cls := "java/lang/String", name := "charAt", desc := "(I)C" } : Jvm.MethodName) jdk_42_method_56_code (2 : Nat) (Option.some Jvm.ClassFile.FieldType.char), Jvm.Cond.code ({ cls := "java/lang/String", name := "isLatin1", desc := "()Z" } : Jvm.MethodName) jdk_42_method_154_code (1 : Nat) (Option.some Jvm.ClassFile.FieldType.boolean), Jvm.Cond.code ({ cls := "java/lang/StringUTF16", name := "charAt", desc := "([BI)C" } : Jvm.MethodName) jdk_52_method_83_code (2 : Nat) (Option.some Jvm.ClassFile.FieldType.char), Jvm.Cond.code ({ cls := "java/lang/StringUTF16", name := "checkIndex", desc := "(I[B)V" } : Jvm.MethodName) jdk_52_method_91_code (2 : Nat) (Option.none : Option Jvm.ClassFile.FieldType), Jvm.Cond.code ({ cls := "java/lang/StringUTF16", name := "length", desc := "([B)I" } : Jvm.MethodName) jdk_52_method_6_code (1 : Nat) (Option.some Jvm.ClassFile.FieldType.int), Jvm.Cond.code ({ cls := "java/lang/String", name := "checkIndex", desc := "(II)V" } : Jvm.MethodName) jdk_42_method_155_code (2 : Nat) (Option.none : Option Jvm.ClassFile.FieldType), Jvm.Cond.code ({ cls := "jdk/internal/util/Preconditions", name := "checkIndex", desc := "(IILjava/util/function/BiFunction;)I" } : Jvm.MethodName) jdk_41_method_11_code (3 : Nat) (Option.some Jvm.ClassFile.FieldType.int), Jvm.Cond.code ({ cls := "java/lang/Character", name := "isSurrogate", desc := "(C)Z" } : Jvm.MethodName) jdk_89_method_16_code (1 : Nat) (Option.some Jvm.ClassFile.FieldType.boolean), Jvm.Cond.code ({ cls := "java/lang/Character", name := "compare", desc := "(CC)I" } : Jvm.MethodName) jdk_89_method_98_code (2 : Nat) (Option.some Jvm.ClassFile.FieldType.int), Jvm.Cond.code ({ cls := "java/lang/StringLatin1", name := "charAt", desc := "([BI)C" } : Jvm.MethodName) jdk_43_method_2_code (2 : Nat) (Option.some Jvm.ClassFile.FieldType.char)]
set_option maxRecDepth 65536 in
theorem codes_eq : words1.filter isCode = codes1 := rfl
theorem w_codes : ∀ c ∈ words1.filter isCode, c.before args0 about1 = true := by
  rw [codes_eq]
  intro c hc
  simp only [codes1, List.mem_cons, List.not_mem_nil, or_false] at hc
  rcases hc with rfl | rfl | rfl | rfl | rfl | rfl | rfl | rfl | rfl | rfl | rfl | rfl | rfl | rfl | rfl | rfl | rfl | rfl | rfl | rfl | rfl | rfl | rfl | rfl | rfl | rfl | rfl | rfl | rfl | rfl | rfl | rfl
  · exact w_c0
  · exact w_c1
  · exact w_c2
  · exact w_c3
  · exact w_c4
  · exact w_c5
  · exact w_c6
  · exact w_c7
  · exact w_c8
  · exact w_c9
  · exact w_c10
  · exact w_c11
  · exact w_c12
  · exact w_c13
  · exact w_c14
  · exact w_c15
  · exact w_c16
  · exact w_c17
  · exact w_c18
  · exact w_c19
  · exact w_c20
  · exact w_c21
  · exact w_c22
  · exact w_c23
  · exact w_c24
  · exact w_c25
  · exact w_c26
  · exact w_c27
  · exact w_c28
  · exact w_c29
  · exact w_c30
  · exact w_c31
set_option maxRecDepth 65536 in
theorem w_t1 : (words1.take 24).all (fun c => isCode c || c.before args0 about1) = true := by decide +kernel
set_option maxRecDepth 65536 in
theorem w_t2 : ((words1.drop 24).take 24).all (fun c => isCode c || c.before args0 about1) = true := by decide +kernel
set_option maxRecDepth 65536 in
theorem w_t3 : (((words1.drop 24).drop 24).take 24).all (fun c => isCode c || c.before args0 about1) = true := by decide +kernel
set_option maxRecDepth 65536 in
theorem w_t4 : ((((words1.drop 24).drop 24).drop 24).take 24).all (fun c => isCode c || c.before args0 about1) = true := by decide +kernel
set_option maxRecDepth 65536 in
theorem w_t5 : (((((words1.drop 24).drop 24).drop 24).drop 24).take 24).all (fun c => isCode c || c.before args0 about1) = true := by decide +kernel
set_option maxRecDepth 65536 in
theorem w_t6 : (((((words1.drop 24).drop 24).drop 24).drop 24).drop 24).all (fun c => isCode c || c.before args0 about1) = true := by decide +kernel
theorem w_tables : (allAtoms (Jvm.Cond.code x code maxLocals ret :: tables_1)).before args0 about1 = true := by
  rw [allAtoms_all]
  show words1.all (fun c => c.before args0 about1) = true
  refine all_split ?_ w_codes
  rw [← List.take_append_drop 24 words1, List.all_append, w_t1, ← List.take_append_drop 24 (words1.drop 24), List.all_append, w_t2, ← List.take_append_drop 24 ((words1.drop 24).drop 24), List.all_append, w_t3, ← List.take_append_drop 24 (((words1.drop 24).drop 24).drop 24), List.all_append, w_t4, ← List.take_append_drop 24 ((((words1.drop 24).drop 24).drop 24).drop 24), List.all_append, w_t5, w_t6]
  rfl
set_option maxRecDepth 65536 in
theorem w_rest : rest_1_c.before args0 about1 = true := by decide +kernel
set_option maxRecDepth 65536 in
theorem w_case : (Jvm.Cond.and given_1 narrow_1).before args0 about1 = true := by decide +kernel
set_option maxRecDepth 65536 in
theorem w_consts : constsHeld consts_1 about1 := Jvm.Lit.constsHeldB_iff.mp (by decide +kernel)
theorem w_applies : (headSpec (Jvm.Cond.code x code maxLocals ret :: tables_1) room_1).applies x e0.platform about1 = true :=
  (Spec.applies_iff w_frames).mpr ⟨w_running, w_runnable, w_alone, w_named, w_hears, w_ripe, w_room, w_tables⟩
theorem atStart : AtStart classFile x code maxLocals ret World_1 tables_1 room_1 Calls_1 rest_1 Pre_1 launch0 p0 e0 about1 theMethod args0 below0 :=
  ⟨lists_1, trivial, launch0.admits_env _ _ _, launch0.least_env, fairChoices_fair.cas, fairChoices_fair.clock, w_frames, w_args, w_heap, w_applies, ⟨w_consts, trivial⟩, w_rest, w_case⟩
end start1
theorem witness_1 : WitnessClaimed_1 := ⟨start1.p0, start1.e0, start1.about1, start1.theMethod, start1.args0, start1.below0, start1.atStart⟩
end Jvm.Pilot.@@N@@
